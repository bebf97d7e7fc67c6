import Derived.Test.Qxb6632322aDev
namespace Go.Proofs.Qxb6632322a
open Go.RowKit
set_option linter.unusedVariables false

/-- A run of the devices k .. e-1, its cells c. -/
structure RunOK (w : World) (res ids : Nat → ByteArray) (st : Nat → Bool) (nd : Nat → Int) (lo k e : Nat) (c : Nat → Value) : Prop where
  lt : k < e
  c0 : c 0 = .int .i64 ((k - lo : Nat) : Int)
  c1 : c 1 = .string (res (cnt st k))
  start : st k = true
  inner : ∀ q, k < q → q < e → st q = false
  mem : ∃ S E O aE aS aO ge ce gs ns cs go co, RunMem w ids nd k (e - k) c S E O aE aS aO ge ce gs ns cs go co

theorem RunOK.keep {w w' : World} {res ids : Nat → ByteArray} {st : Nat → Bool} {nd : Nat → Int} {lo k e : Nat} {c : Nat → Value} (h : RunOK w res ids st nd lo k e c) (hb : Kp w w') : RunOK w' res ids st nd lo k e c := by
  obtain ⟨S, E, O, aE, aS, aO, ge, ce, gs, ns, cs, go, co, hm⟩ := h.mem
  exact ⟨h.lt, h.c0, h.c1, h.start, h.inner, S, E, O, aE, aS, aO, ge, ce, gs, ns, cs, go, co, hm.keep hb⟩

/-- nr runs that cover lo .. k-1, run p from P p to P (p + 1). -/
structure Runs (w : World) (res ids : Nat → ByteArray) (st : Nat → Bool) (nd : Nat → Int) (lo k nr : Nat) (P : Nat → Nat) (C : Nat → Nat → Value) : Prop where
  p0 : P 0 = lo
  pn : P nr = k
  run : ∀ r, r < nr → RunOK w res ids st nd lo (P r) (P (r + 1)) (C r)

theorem Runs.keep {w w' : World} {res ids : Nat → ByteArray} {st : Nat → Bool} {nd : Nat → Int} {lo k nr : Nat} {P : Nat → Nat} {C : Nat → Nat → Value} (h : Runs w res ids st nd lo k nr P C) (hb : Kp w w') : Runs w' res ids st nd lo k nr P C :=
  ⟨h.p0, h.pn, fun r hr => (h.run r hr).keep hb⟩

theorem Runs.mono {w : World} {res ids : Nat → ByteArray} {st : Nat → Bool} {nd : Nat → Int} {lo k nr : Nat} {P : Nat → Nat} {C : Nat → Nat → Value} (h : Runs w res ids st nd lo k nr P C) : ∀ b a, a ≤ b → b ≤ nr → P a ≤ P b := by
  intro b
  induction b with
  | zero => intro a ha _; rw [show a = 0 by omega]; exact Nat.le_refl _
  | succ b ih =>
    intro a ha hb
    by_cases e : a = b + 1
    · rw [e]; exact Nat.le_refl _
    · have h1 := ih a (by omega) (by omega)
      have h2 := (h.run b (by omega)).lt
      omega

theorem Runs.find {w : World} {res ids : Nat → ByteArray} {st : Nat → Bool} {nd : Nat → Int} {lo k nr : Nat} {P : Nat → Nat} {C : Nat → Nat → Value} (h : Runs w res ids st nd lo k nr P C) (i : Nat) (h1 : lo ≤ i) (h2 : i < k) :
    ∃ r, r < nr ∧ P r ≤ i ∧ i < P (r + 1) := by
  have hp0 := h.p0
  have hpn := h.pn
  have : ∀ m, m ≤ nr → i < P m → ∃ r, r < m ∧ P r ≤ i ∧ i < P (r + 1) := by
    intro m
    induction m with
    | zero => intro _ hm; omega
    | succ m ih =>
      intro hm him
      by_cases hc : i < P m
      · obtain ⟨r, a, b⟩ := ih (by omega) hc
        exact ⟨r, by omega, b⟩
      · exact ⟨m, by omega, by omega, him⟩
  exact this nr (Nat.le_refl _) (by omega)

theorem cnt_flat (st : Nat → Bool) (k : Nat) (i : Nat) (hk : st k = true) (hi : ∀ q, k < q → q < k + 1 + i → st q = false) : cnt st (k + 1 + i) = cnt st k + 1 := by
  induction i with
  | zero => show cnt st k + (st k).toNat = _; rw [hk]; rfl
  | succ i ih =>
    show cnt st (k + 1 + i) + (st (k + 1 + i)).toNat = _
    rw [ih (fun q h1 h2 => hi q h1 (by omega)), hi (k + 1 + i) (by omega) (by omega)]
    rfl

theorem RunOK.cnt {w : World} {res ids : Nat → ByteArray} {st : Nat → Bool} {nd : Nat → Int} {lo k e : Nat} {c : Nat → Value} (h : RunOK w res ids st nd lo k e c) (i : Nat) (h1 : k ≤ i) (h2 : i < e) : cnt st (i + 1) - 1 = cnt st k := by
  have := cnt_flat st k (i - k) h.start (fun q a b => h.inner q a (by omega))
  rw [show k + 1 + (i - k) = i + 1 by omega] at this
  omega

/-- A List in memory: its runs' array. -/
structure ListOK (w : World) (res ids : Nat → ByteArray) (st : Nat → Bool) (nd : Nat → Int) (lo hi gr nr : Nat) (cur : Array Value) (P : Nat → Nat) (C : Nat → Nat → Value) : Prop where
  runs : Runs w res ids st nd lo hi nr P C
  blk : Blk w gr cur 46
  cell : ∀ r, r < nr → ∀ f, f < 6 → cur[r * 6 + f]? = some (C r f)
  small : nr ≤ 65536
  hsm : hi ≤ 65536

theorem ListOK.bel {w w' : World} {res ids : Nat → ByteArray} {st : Nat → Bool} {nd : Nat → Int} {lo hi gr nr : Nat} {cur : Array Value} {P : Nat → Nat} {C : Nat → Nat → Value} (h : ListOK w res ids st nd lo hi gr nr cur P C) (hb : Bel w.heap.size w w') : ListOK w' res ids st nd lo hi gr nr cur P C :=
  ⟨h.runs.keep (keep_of_bel hb), h.blk.bel hb h.blk.lt, h.cell, h.small, h.hsm⟩

set_option maxRecDepth 100000 in
set_option maxHeartbeats 2000000 in
theorem at_any {w : World} {res ids : Nat → ByteArray} {st : Nat → Bool} {nd : Nat → Int} {lo hi gr nr : Nat} {cur : Array Value} {P : Nat → Nat} {C : Nat → Nat → Value} (cap : Nat) (m : Int) (i : Nat) (h : ListOK w res ids st nd lo hi gr nr cur P C) (h1 : lo ≤ i) (h2 : i < hi) :
    Calls Try.prog 9 #[.agg #[.slice (some ⟨gr, 0, none⟩) nr cap, .int .i64 m], .int .i64 ((i - lo : Nat) : Int)] w (DevOut w (res (cnt st (i + 1) - 1)) (ids i) (nd i)) := by
  obtain ⟨r, hr, hr1, hr2⟩ := h.runs.find i h1 h2
  have hsm := h.small
  have hhi := h.hsm
  have hlt := h.blk.lt
  have H := hide h
  clear h
  go_enter Try.func9, Try.ntmps9
  go_wp2
  go_quiet (fail)
  go_wp2
  go_loop [5, 6] (fun x y => ∃ a b : Nat, a ≤ r ∧ r < b ∧ b ≤ nr ∧ x = .int .i64 a ∧ y = .int .i64 b) (fun x y => (intOf y).toNat - (intOf x).toNat)
  case atStart => exact ⟨0, nr, by omega, hr, Nat.le_refl _, rfl, rfl⟩
  case round =>
    obtain ⟨a, b, ha, hb, hbn, rfl, rfl⟩ := hrel
    by_cases hab : 1 < b - a
    · have hmid : (a + b) / 2 < nr := by omega
      have hcm : w.cell? ⟨gr, (a + b) / 2 * 6, none⟩ = some (.int .i64 ((P ((a + b) / 2) - lo : Nat) : Int)) := by
        have e1 := (unhide H).blk.cell ((a + b) / 2 * 6)
        have e2 := (unhide H).cell _ hmid 0 (by omega)
        rw [Nat.add_zero] at e2
        rw [e1, e2, ((unhide H).runs.run _ hmid).c0]
      by_cases hmr : (a + b) / 2 ≤ r
      · have hle : P ((a + b) / 2) - lo ≤ i - lo := by
          have := (unhide H).runs.mono r _ hmr (by omega)
          omega
        generalize P ((a + b) / 2) - lo = pm at hcm hle
        have hle' : ((pm : Nat) : Int) ≤ ((i - lo : Nat) : Int) := by omega
        go_wp2
        go_round
        case rel => exact ⟨(a + b) / 2, b, hmr, hb, hbn, by go_num, rfl⟩
        case measure => simp [intOf]; omega
      · have hle : ¬ P ((a + b) / 2) - lo ≤ i - lo := by
          have h3 := (unhide H).runs.mono ((a + b) / 2) (r + 1) (by omega) (by omega)
          omega
        generalize P ((a + b) / 2) - lo = pm at hcm hle
        have hle' : ¬ ((pm : Nat) : Int) ≤ ((i - lo : Nat) : Int) := by omega
        go_wp2
        go_round
        case rel => exact ⟨a, (a + b) / 2, ha, by omega, by omega, rfl, by go_num⟩
        case measure => simp [intOf]; omega
    · obtain rfl : a = r := by omega
      have hok := (unhide H).runs.run a hr
      have hc0 : w.cell? ⟨gr, a * 6, none⟩ = some (.int .i64 ((P a - lo : Nat) : Int)) := by
        have e1 := (unhide H).blk.cell (a * 6)
        have e2 := (unhide H).cell _ hr 0 (by omega)
        rw [Nat.add_zero] at e2
        rw [e1, e2, hok.c0]
      have hcnt := hok.cnt i hr1 hr2
      have hPlo : lo ≤ P a := by have := (unhide H).runs.mono a 0 (by omega) (by omega); rw [(unhide H).runs.p0] at this; exact this
      obtain ⟨S, E, O, aE, aS, aO, ge, ce, gs, ns, cs, go, co, hm⟩ := hok.mem
      have HM := hide hm
      have HC1 := hide hok.c1
      have HCNT := hide hcnt
      clear hm hok hcnt
      go_wp2_with fail
      have earg : ((i - lo : Nat) : Int) - ((P a - lo : Nat) : Int) = ((i - P a : Nat) : Int) := by omega
      rw [earg]
      clear earg
      refine (device_any (w := _) gr (a * 6) (i - P a) (res (cnt st (P a))) ((unhide HM).keep (keep_of_bel ?_)) (by omega) ((unhide H).blk.bel ?_ (unhide H).blk.lt) ((unhide H).cell a hr) (unhide HC1)).mono ?_
      · exact (((Bel.refl _ _).alloc (Nat.le_refl _) _).alloc (by simp) _).drewN _
      · exact (((Bel.refl _ _).alloc (Nat.le_refl _) _).alloc (by simp) _).drewN _
      rintro e w1 ⟨sv, rfl, hs1, hb1⟩
      obtain ⟨sa, sm, rfl⟩ := hs1.form
      have hres : Blk w1 (w.heap.size + 1) #[.string ⟨#[]⟩, .string ⟨#[]⟩, .slice none 0 0] 34 := by
        have := Blk.new (w.alloc (.cells #[.slice (some ⟨gr, 0, none⟩) nr cap, .int .i64 m] 28)) #[.string ⟨#[]⟩, .string ⟨#[]⟩, .slice none 0 0] 34
        simp only [World.size_alloc] at this
        exact (hb1.block (w.heap.size + 1) (by simp)).trans this
      have hbw : Bel w.heap.size w w1 := ((((Bel.refl _ _).alloc (Nat.le_refl _) _).alloc (by simp) _).drewN _).trans (hb1.mono (by simp; omega))
      have k0 := hres.cell 0
      have k1 := hres.cell 1
      have k2 := hres.cell 2
      simp only [List.getElem?_toArray, List.getElem?_cons_zero, List.getElem?_cons_succ] at k0 k1 k2
      have f0 := hres.frozen 0
      have f1 := hres.frozen 1
      have f2 := hres.frozen 2
      rw [← unhide HCNT] at *
      rw [show P a + (i - P a) = i by omega] at *
      obtain ⟨c30, c31, c32⟩ := three_cells hres rfl (.string (res (cnt st (i + 1) - 1))) (.string (ids i)) (.slice sa sm sm)
      have hfin : Bel w.heap.size w (((w1.setCell ⟨w.heap.size + 1, 0, none⟩ (.string (res (cnt st (i + 1) - 1)))).setCell ⟨w.heap.size + 1, 1, none⟩ (.string (ids i))).setCell ⟨w.heap.size + 1, 2, none⟩ (.slice sa sm sm)) :=
        ((hbw.setCell (by simp) _).setCell (by simp) _).setCell (by simp) _
      have hset : SetOK (((w1.setCell ⟨w.heap.size + 1, 0, none⟩ (.string (res (cnt st (i + 1) - 1)))).setCell ⟨w.heap.size + 1, 1, none⟩ (.string (ids i))).setCell ⟨w.heap.size + 1, 2, none⟩ (.slice sa sm sm)) (.slice sa sm sm) (nd i) := by
        rcases hs1 with hs | ⟨h0, gx, e, hg⟩
        · exact .inl hs
        · have hne := hg.ne hres (by decide)
          exact .inr ⟨h0, gx, e, ((hg.setOther hne _).setOther hne _).setOther hne _⟩
      have HF := hide hfin
      have HS := hide hset
      clear hfin hset hbw hres hs1 hb1
      go_wp2
      exact bodyPost_ret (v := .agg #[.string (res (cnt st (i + 1) - 1)), .string (ids i), .slice sa sm sm]) (by simp [results, Try.results9, go_sem, c30, c31, c32]) rfl ⟨_, rfl, unhide HS, unhide HF⟩
end Go.Proofs.Qxb6632322a
