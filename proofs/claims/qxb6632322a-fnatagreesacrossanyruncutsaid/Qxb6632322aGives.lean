import Derived.Test.Qxb6632322aBuild
namespace Go.Proofs.Qxb6632322a
open Go.RowKit
set_option linter.unusedVariables false

theorem build_zero (a0 a1 a2 a3 : Option Addr) (l0 c0 n c1 c2 c3 : Nat) (res ids : Nat → ByteArray) (st : Nat → Bool) (nd : Nat → Int) (hi : Nat) (w : World) (h : Inp w a0 a1 a2 a3 l0 n res ids st nd 0 hi) :
    Calls Try.prog 8 #[.slice a0 l0 c0, .slice a1 n c1, .slice a2 n c2, .slice a3 n c3, .int .i64 0, .int .i64 hi] w (BuildOut w res ids st nd 0 hi) :=
  build_any a0 a1 a2 a3 l0 c0 n c1 c2 c3 res ids st nd 0 hi w h

theorem at_zero {w : World} {res ids : Nat → ByteArray} {st : Nat → Bool} {nd : Nat → Int} {hi gr nr : Nat} {cur : Array Value} {P : Nat → Nat} {C : Nat → Nat → Value} (cap : Nat) (m : Int) (i : Nat) (h : ListOK w res ids st nd 0 hi gr nr cur P C) (h2 : i < hi) :
    Calls Try.prog 9 #[.agg #[.slice (some ⟨gr, 0, none⟩) nr cap, .int .i64 m], .int .i64 (i : Int)] w (DevOut w (res (cnt st (i + 1) - 1)) (ids i) (nd i)) := by
  have h3 := at_any cap m i h (Nat.zero_le _) h2
  rw [Nat.sub_zero] at h3
  exact h3

/-- All that the loop over the places of one list wants. -/
structure GI (w0 : World) (res ids : Nat → ByteArray) (st : Nat → Bool) (nd : Nat → Int) (n B gr nr cap : Nat) (cur : Array Value) (P : Nat → Nat) (C : Nat → Nat → Value) (w : World) : Prop where
  list : ListOK w res ids st nd 0 n gr nr cur P C
  box : Blk w B #[.slice (some ⟨gr, 0, none⟩) nr cap, .int .i64 (n : Int)] 28
  bel : Bel w0.heap.size w0 w

theorem GI.step {w0 w w' : World} {res ids : Nat → ByteArray} {st : Nat → Bool} {nd : Nat → Int} {n B gr nr cap : Nat} {cur : Array Value} {P : Nat → Nat} {C : Nat → Nat → Value} (hb : Bel w.heap.size w w') (h : GI w0 res ids st nd n B gr nr cap cur P C w) : GI w0 res ids st nd n B gr nr cap cur P C w' :=
  ⟨h.list.bel hb, h.box.bel hb h.box.lt, h.bel.then hb⟩

/-- Inside the test of one place: what the round knows. -/
structure TI (w0 : World) (res ids : Nat → ByteArray) (st : Nat → Bool) (nd : Nat → Int) (n B gr nr cap : Nat) (cur : Array Value) (P : Nat → Nat) (C : Nat → Nat → Value) (D : Nat) (r i : ByteArray) (sv : Value) (b : Int) (w : World) : Prop where
  gi : GI w0 res ids st nd n B gr nr cap cur P C w
  dev : Blk w D #[.string r, .string i, sv] 34
  set : SetOK w sv b

theorem TI.step {w0 w w' : World} {res ids : Nat → ByteArray} {st : Nat → Bool} {nd : Nat → Int} {n B gr nr cap : Nat} {cur : Array Value} {P : Nat → Nat} {C : Nat → Nat → Value} {D : Nat} {r i : ByteArray} {sv : Value} {b : Int} (hb : Bel w.heap.size w w') (h : TI w0 res ids st nd n B gr nr cap cur P C D r i sv b w) : TI w0 res ids st nd n B gr nr cap cur P C D r i sv b w' :=
  ⟨h.gi.step hb, h.dev.bel hb h.dev.lt, h.set.bel hb⟩

theorem TI.all {w0 w : World} {res ids : Nat → ByteArray} {st : Nat → Bool} {nd : Nat → Int} {n B gr nr cap : Nat} {cur : Array Value} {P : Nat → Nat} {C : Nat → Nat → Value} {D : Nat} {r i : ByteArray} {sv : Value} {b : Int} (h : TI w0 res ids st nd n B gr nr cap cur P C D r i sv b w)
    {b0 o0 b1 o1 b3 o3 : Nat} {x0 x1 x3 : Value} (hb0 : b0 < w0.heap.size) (h0 : w0.cell? ⟨b0, o0, none⟩ = some x0) (hb1 : b1 < w0.heap.size) (h1 : w0.cell? ⟨b1, o1, none⟩ = some x1) (hb3 : b3 < w0.heap.size) (h3 : w0.cell? ⟨b3, o3, none⟩ = some x3) :
    w.cell? ⟨D, 0, none⟩ = some (.string r) ∧ w.cell? ⟨D, 1, none⟩ = some (.string i) ∧ w.cell? ⟨D, 2, none⟩ = some sv ∧ w.cell? ⟨b0, o0, none⟩ = some x0 ∧ w.cell? ⟨b1, o1, none⟩ = some x1 ∧ w.cell? ⟨b3, o3, none⟩ = some x3 ∧ TI w0 res ids st nd n B gr nr cap cur P C D r i sv b w := by
  have c0 := h.dev.cell 0
  have c1 := h.dev.cell 1
  have c2 := h.dev.cell 2
  simp only [List.getElem?_toArray, List.getElem?_cons_zero, List.getElem?_cons_succ] at c0 c1 c2
  exact ⟨c0, c1, c2, (h.gi.bel.cell (p := ⟨b0, o0, none⟩) hb0).trans h0, (h.gi.bel.cell (p := ⟨b1, o1, none⟩) hb1).trans h1, (h.gi.bel.cell (p := ⟨b3, o3, none⟩) hb3).trans h3, h⟩

set_option maxRecDepth 100000 in
set_option maxHeartbeats 4000000 in
theorem gives_walk (a0 a1 a2 a3 : Option Addr) (l0 c0 n c1 l2 c2 l3 c3 : Nat) (res ids : Nat → ByteArray) (st : Nat → Bool) (nd : Nat → Int) (w : World)
    (r0 : Rd w a0 l0 (fun i => .string (res i))) (r1 : Rd w a1 n (fun i => .string (ids i))) (r2 : Rd w a2 l2 (fun i => .bool (st i))) (r3 : Rd w a3 l3 (fun i => .int .u64 (nd i)))
    (h0 : l0 ≤ maxLen) (h1 : n ≤ maxLen) (h2 : l2 ≤ maxLen) (h3 : l3 ≤ maxLen) (q0 : ∀ i, (res i).size ≤ maxLen) (q1 : ∀ i, (ids i).size ≤ maxLen) :
    Calls Try.prog 3 #[.slice a0 l0 c0, .slice a1 n c1, .slice a2 l2 c2, .slice a3 l3 c3] w fun e w' => e = .returned (.bool true) ∧ Bel w.heap.size w w' := by
  have R0 := hide r0
  have R1 := hide r1
  have R2 := hide r2
  have R3 := hide r3
  have Q0 := hide q0
  have Q1 := hide q1
  clear r0 r1 r2 r3 q0 q1
  go_enter Try.func3, Try.ntmps3
  go_wp2_with fail
  refine (bytes4 a0 a1 a2 a3 l0 c0 n c1 l2 c2 l3 c3 res ids _ (unhide R0) (unhide R1) h0 h1 h2 h3 (unhide Q0) (unhide Q1)).mono ?_
  rintro e w' ⟨bb, rfl, rfl, hby⟩
  rcases Bool.eq_false_or_eq_true bb with hb | hb
  rotate_left
  · subst hb
    go_wp2
    go_ret
    exact ⟨rfl, Bel.refl _ _⟩
  subst hb
  have HBY := hide (hby rfl)
  clear hby
  go_wp2_with fail
  refine (tooBig_any a0 a1 a2 a3 l0 c0 n c1 l2 c2 l3 c3 res ids _ (unhide R0) (unhide R1) (unhide HBY).1 (unhide HBY).2).mono ?_
  rintro e w'' ⟨bb, rfl, rfl, hbig⟩
  rcases Bool.eq_false_or_eq_true bb with hb | hb
  · subst hb
    go_wp2
    go_ret
    exact ⟨rfl, Bel.refl _ _⟩
  subst hb
  obtain ⟨s0, s1, s2, s3, stot⟩ := hbig rfl
  clear hbig h0 h1 h2 h3
  go_wp2_with fail
  refine (well_any a0 a1 a2 a3 l0 c0 n c1 l2 c2 l3 c3 st _ (unhide R2) s0 s1 s2 s3).mono ?_
  rintro e w3 ⟨bb, rfl, rfl, hwell⟩
  rcases Bool.eq_false_or_eq_true bb with hb | hb
  rotate_left
  · subst hb
    go_wp2
    go_ret
    exact ⟨rfl, Bel.refl _ _⟩
  subst hb
  obtain ⟨e2, e3, hst0, hcnt⟩ := hwell rfl
  subst e2
  subst e3
  clear hwell s2 s3
  have HST0 := hide hst0
  have HCNT := hide hcnt
  clear hst0 hcnt
  go_wp2_with fail
  refine (build_zero a0 a1 a2 a3 l0 c0 l3 c1 c2 c3 res ids st nd l3 _ ⟨unhide R0, unhide R1, unhide R2, unhide R3, Nat.zero_le _, Nat.le_refl _, s1, unhide HCNT, unhide HST0, fun h => absurd h (Nat.lt_irrefl _), stot⟩).mono ?_
  rintro e w4 ⟨al, nr, cap, rfl, hb4, hl4⟩
  by_cases hp : 0 < l3
  rotate_left
  · obtain rfl : l3 = 0 := by omega
    have HB4 := hide hb4
    clear hb4 hl4
    go_wp2
    refine wp_loop_rounds 1 ?_
    rw [rounds_succ]
    go_wp2
    go_ret
    exact ⟨rfl, (unhide HB4).alloc (unhide HB4).size _⟩
  obtain ⟨gr, cur, P, C, rfl, hlist⟩ := hl4 hp
  have HB4 := hide hb4
  have HL := hide hlist
  clear hb4 hl4 hlist
  go_wp2
  have hgi : GI w3 res ids st nd l3 w4.heap.size gr nr cap cur P C (w4.alloc (.cells #[.slice (some ⟨gr, 0, none⟩) nr cap, .int .i64 (l3 : Int)] 28)) :=
    ⟨(unhide HL).bel ((Bel.refl _ _).alloc (Nat.le_refl _) _), Blk.new _ _ _, (unhide HB4).alloc (unhide HB4).size _⟩
  go_loopw [10, 11] (fun r x wr => ∃ k : Nat, k ≤ l3 ∧ x = .int .i64 k ∧ r = .int .i64 ((cnt st k : Int) - 1) ∧ GI w3 res ids st nd l3 w4.heap.size gr nr cap cur P C wr) (fun _ x _ => l3 - (intOf x).toNat)
  case atStart => exact ⟨0, Nat.zero_le _, rfl, rfl, hgi⟩
  case round =>
    clear hgi
    obtain ⟨k, hk, rfl, rfl, hg⟩ := hrel
    have HG := hide hg
    clear hg
    by_cases hlt : k < l3
    · obtain ⟨b1, o1, ha1, hbl1, hc1⟩ := (unhide R1) hp
      obtain ⟨b2, o2, ha2, hbl2, hc2⟩ := (unhide R2) hp
      obtain ⟨b3, o3, ha3, hbl3, hc3⟩ := (unhide R3) hp
      subst ha1
      subst ha2
      subst ha3
      have hl0 : 0 < l0 := by
        have := cnt_lt st 0 l3 hp (unhide HST0 hp)
        have := unhide HCNT
        omega
      obtain ⟨b0, o0, ha0, hbl0, hc0⟩ := (unhide R0) hl0
      subst ha0
      -- the place of the resource
      obtain ⟨m, hm1, hm2, hm3⟩ : ∃ m : Nat, cnt st (k + 1) - 1 = m ∧ m < l0 ∧ ((st k = true ∧ cnt st k = m) ∨ (st k = false ∧ cnt st k = m + 1)) := by
        have hc : cnt st (k + 1) = cnt st k + (st k).toNat := rfl
        have hle := cnt_mono st (k + 1) l3 hlt
        have hcn := unhide HCNT
        cases hs : st k
        · have hk0 : 0 < k := by
            rcases Nat.eq_zero_or_pos k with h | h
            · subst h; rw [unhide HST0 hp] at hs; cases hs
            · exact h
          have := cnt_lt st 0 k hk0 (unhide HST0 hp)
          rw [hs] at hc
          exact ⟨cnt st k - 1, by simp at hc; omega, by simp at hc; omega, .inr ⟨rfl, by omega⟩⟩
        · rw [hs] at hc
          exact ⟨cnt st k, by simp at hc; omega, by simp at hc; omega, .inl ⟨rfl, rfl⟩⟩
      have g0 : w3.cell? ⟨b0, o0 + m, none⟩ = some (.string (res m)) := hc0 m hm2
      have g1 : w3.cell? ⟨b1, o1 + k, none⟩ = some (.string (ids k)) := hc1 k hlt
      have g3 : w3.cell? ⟨b3, o3 + k, none⟩ = some (.int .u64 (nd k)) := hc3 k hlt
      have g2 : wr.cell? ⟨b2, o2 + k, none⟩ = some (.bool (st k)) := ((unhide HG).bel.cell (p := ⟨b2, o2 + k, none⟩) hbl2).trans (hc2 k hlt)
      have b0c := (unhide HG).box.cell 0
      have b1c := (unhide HG).box.cell 1
      simp only [List.getElem?_toArray, List.getElem?_cons_zero, List.getElem?_cons_succ] at b0c b1c
      have hm2' : (m : Int) < (l0 : Int) := by omega
      have hlt' : (k : Int) < (l3 : Int) := by omega
      have G0 := hide g0
      have G1 := hide g1
      have G3 := hide g3
      have HM1 := hide hm1
      clear hc0 hc1 hc2 hc3 g0 g1 g3 hm1
      have hend : Hid ((m : Int) = (cnt st (k + 1) : Int) - 1) := by
        have h1 := unhide HM1
        have h2 : 0 < cnt st (k + 1) := Nat.lt_of_le_of_lt (Nat.zero_le _) (cnt_lt st 0 (k + 1) (by omega) (unhide HST0 hp))
        show (m : Int) = (cnt st (k + 1) : Int) - 1
        omega
      rcases hm3 with ⟨hs, hcm⟩ | ⟨hs, hcm⟩
      · rw [hs] at g2
        rw [hcm]
        clear hs hcm
        go_wp2_with fail
        refine (at_zero cap _ k (unhide HG).list hlt).mono ?_
        rintro e w5 ⟨sv, rfl, hsv, hb5⟩
        rw [unhide HM1]
        obtain ⟨sa, sm, rfl⟩ := hsv.form
        have hti : TI w3 res ids st nd l3 w4.heap.size gr nr cap cur P C w5.heap.size (res m) (ids k) (.slice sa sm sm) (nd k) (w5.alloc (.cells #[.string (res m), .string (ids k), .slice sa sm sm] 34)) :=
          ⟨((unhide HG).step hb5).step ((Bel.refl _ _).alloc (Nat.le_refl _) _), Blk.new _ _ _, hsv.bel ((Bel.refl _ _).alloc (Nat.le_refl _) _)⟩
        have HTI := hide hti
        clear hti hsv hb5 b0c b1c g2
        go_wp2_with fail
        go_region_held3 (fun w' => w'.cell? ⟨w5.heap.size, 0, none⟩ = some (.string (res m)) ∧ w'.cell? ⟨w5.heap.size, 1, none⟩ = some (.string (ids k)) ∧ w'.cell? ⟨w5.heap.size, 2, none⟩ = some (.slice sa sm sm) ∧ w'.cell? ⟨b0, o0 + m, none⟩ = some (.string (res m)) ∧ w'.cell? ⟨b1, o1 + k, none⟩ = some (.string (ids k)) ∧ w'.cell? ⟨b3, o3 + k, none⟩ = some (.int .u64 (nd k)) ∧ TI w3 res ids st nd l3 w4.heap.size gr nr cap cur P C w5.heap.size (res m) (ids k) (.slice sa sm sm) (nd k) w')
          (first | exact ((unhide HTI).step ((Bel.refl _ _).drew)).all hbl0 (unhide G0) hbl1 (unhide G1) hbl3 (unhide G3) | (go_split_ands; exact (TI.step (by assumption) (by assumption)).all hbl0 (unhide G0) hbl1 (unhide G1) hbl3 (unhide G3)))
          (first | (go_at_call 10; refine (setIs_any _ _ _ ?_).mono ?_; (go_split_ands; exact TI.set (by assumption)); rintro e w' ⟨rfl, hbx⟩) | fail)
        go_split_ands
        go_wp2
        go_roundw
        case rel => exact ⟨k + 1, by omega, by go_num, congrArg (Value.int IntKind.i64) (unhide hend), TI.gi (by assumption)⟩
        case measure => simp [intOf]; omega
      · rw [hs] at g2
        rw [hcm, show ((m + 1 : Nat) : Int) - 1 = (m : Int) by omega]
        clear hs hcm
        go_wp2_with fail
        refine (at_zero cap _ k (unhide HG).list hlt).mono ?_
        rintro e w5 ⟨sv, rfl, hsv, hb5⟩
        rw [unhide HM1]
        obtain ⟨sa, sm, rfl⟩ := hsv.form
        have hti : TI w3 res ids st nd l3 w4.heap.size gr nr cap cur P C w5.heap.size (res m) (ids k) (.slice sa sm sm) (nd k) (w5.alloc (.cells #[.string (res m), .string (ids k), .slice sa sm sm] 34)) :=
          ⟨((unhide HG).step hb5).step ((Bel.refl _ _).alloc (Nat.le_refl _) _), Blk.new _ _ _, hsv.bel ((Bel.refl _ _).alloc (Nat.le_refl _) _)⟩
        have HTI := hide hti
        clear hti hsv hb5 b0c b1c g2
        go_wp2_with fail
        go_region_held3 (fun w' => w'.cell? ⟨w5.heap.size, 0, none⟩ = some (.string (res m)) ∧ w'.cell? ⟨w5.heap.size, 1, none⟩ = some (.string (ids k)) ∧ w'.cell? ⟨w5.heap.size, 2, none⟩ = some (.slice sa sm sm) ∧ w'.cell? ⟨b0, o0 + m, none⟩ = some (.string (res m)) ∧ w'.cell? ⟨b1, o1 + k, none⟩ = some (.string (ids k)) ∧ w'.cell? ⟨b3, o3 + k, none⟩ = some (.int .u64 (nd k)) ∧ TI w3 res ids st nd l3 w4.heap.size gr nr cap cur P C w5.heap.size (res m) (ids k) (.slice sa sm sm) (nd k) w')
          (first | exact ((unhide HTI).step ((Bel.refl _ _).drew)).all hbl0 (unhide G0) hbl1 (unhide G1) hbl3 (unhide G3) | (go_split_ands; exact (TI.step (by assumption) (by assumption)).all hbl0 (unhide G0) hbl1 (unhide G1) hbl3 (unhide G3)))
          (first | (go_at_call 10; refine (setIs_any _ _ _ ?_).mono ?_; (go_split_ands; exact TI.set (by assumption)); rintro e w' ⟨rfl, hbx⟩) | fail)
        go_split_ands
        go_wp2
        go_roundw
        case rel => exact ⟨k + 1, by omega, by go_num, congrArg (Value.int IntKind.i64) (unhide hend), TI.gi (by assumption)⟩
        case measure => simp [intOf]; omega
    · go_wp2
      go_ret
      exact ⟨rfl, (unhide HG).bel⟩
end Go.Proofs.Qxb6632322a
