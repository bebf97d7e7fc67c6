import Derived.Test.Qxb6632322aGives
namespace Go.Proofs.Qxb6632322a
open Go.RowKit
set_option linter.unusedVariables false

/-- A List in a box of its own. -/
def BoxOK (w : World) (res ids : Nat → ByteArray) (st : Nat → Bool) (nd : Nat → Int) (lo hi B : Nat) : Prop :=
  ∃ a nr cap m, Blk w B #[.slice a nr cap, .int .i64 m] 28 ∧ (lo < hi → ∃ gr cur P C, a = some ⟨gr, 0, none⟩ ∧ ListOK w res ids st nd lo hi gr nr cur P C)

theorem BoxOK.bel {w w' : World} {res ids : Nat → ByteArray} {st : Nat → Bool} {nd : Nat → Int} {lo hi B : Nat} (h : BoxOK w res ids st nd lo hi B) (hb : Bel w.heap.size w w') : BoxOK w' res ids st nd lo hi B := by
  obtain ⟨a, nr, cap, m, h1, h2⟩ := h
  refine ⟨a, nr, cap, m, h1.bel hb h1.lt, fun hl => ?_⟩
  obtain ⟨gr, cur, P, C, e, h3⟩ := h2 hl
  exact ⟨gr, cur, P, C, e, h3.bel hb⟩

theorem BoxOK.new {w : World} {res ids : Nat → ByteArray} {st : Nat → Bool} {nd : Nat → Int} {lo hi : Nat} {a : Option Addr} {nr cap : Nat} (m : Int) (h : lo < hi → ∃ gr cur P C, a = some ⟨gr, 0, none⟩ ∧ ListOK w res ids st nd lo hi gr nr cur P C) :
    BoxOK (w.alloc (.cells #[.slice a nr cap, .int .i64 m] 28)) res ids st nd lo hi w.heap.size := by
  refine ⟨a, nr, cap, m, Blk.new _ _ _, fun hl => ?_⟩
  obtain ⟨gr, cur, P, C, e, h3⟩ := h hl
  exact ⟨gr, cur, P, C, e, h3.bel ((Bel.refl _ _).alloc (Nat.le_refl _) _)⟩

/-- The three lists of the law, and the caller's memory. -/
structure LI (w0 : World) (res ids : Nat → ByteArray) (st : Nat → Bool) (nd : Nat → Int) (n c B1 B2 B3 : Nat) (w : World) : Prop where
  full : BoxOK w res ids st nd 0 n B1
  pre : BoxOK w res ids st nd 0 c B2
  suf : BoxOK w res ids st nd c n B3
  bel : Bel w0.heap.size w0 w

theorem LI.step {w0 w w' : World} {res ids : Nat → ByteArray} {st : Nat → Bool} {nd : Nat → Int} {n c B1 B2 B3 : Nat} (hb : Bel w.heap.size w w') (h : LI w0 res ids st nd n c B1 B2 B3 w) : LI w0 res ids st nd n c B1 B2 B3 w' :=
  ⟨h.full.bel hb, h.pre.bel hb, h.suf.bel hb, h.bel.then hb⟩

theorem Blk.three {w : World} {g : Nat} {x y z : Value} {e : TypeId} (h : Blk w g #[x, y, z] e) : w.cell? ⟨g, 0, none⟩ = some x ∧ w.cell? ⟨g, 1, none⟩ = some y ∧ w.cell? ⟨g, 2, none⟩ = some z := by
  have c0 := h.cell 0
  have c1 := h.cell 1
  have c2 := h.cell 2
  simp only [List.getElem?_toArray, List.getElem?_cons_zero, List.getElem?_cons_succ] at c0 c1 c2
  exact ⟨c0, c1, c2⟩
theorem Blk.two {w : World} {g : Nat} {x y : Value} {e : TypeId} (h : Blk w g #[x, y] e) : w.cell? ⟨g, 0, none⟩ = some x ∧ w.cell? ⟨g, 1, none⟩ = some y := by
  have c0 := h.cell 0
  have c1 := h.cell 1
  simp only [List.getElem?_toArray, List.getElem?_cons_zero, List.getElem?_cons_succ] at c0 c1
  exact ⟨c0, c1⟩
/-- A store of three cells into a block of three. -/
theorem Blk.put3 {w : World} {g : Nat} {x y z : Value} {e : TypeId} (h : Blk w g #[x, y, z] e) (a b c : Value) : Blk (((w.setCell ⟨g, 0, none⟩ a).setCell ⟨g, 1, none⟩ b).setCell ⟨g, 2, none⟩ c) g #[a, b, c] e := by
  have := ((h.setSame 0 a).setSame 1 b).setSame 2 c
  simpa using this

set_option maxRecDepth 100000 in
set_option maxHeartbeats 4000000 in
theorem agrees_walk (a0 a1 a2 a3 : Option Addr) (l0 c0 n c1 l2 c2 l3 c3 : Nat) (cut : Int) (res ids : Nat → ByteArray) (st : Nat → Bool) (nd : Nat → Int) (w : World)
    (r0 : Rd w a0 l0 (fun i => .string (res i))) (r1 : Rd w a1 n (fun i => .string (ids i))) (r2 : Rd w a2 l2 (fun i => .bool (st i))) (r3 : Rd w a3 l3 (fun i => .int .u64 (nd i)))
    (h0 : l0 ≤ maxLen) (h1 : n ≤ maxLen) (h2 : l2 ≤ maxLen) (h3 : l3 ≤ maxLen) (q0 : ∀ i, (res i).size ≤ maxLen) (q1 : ∀ i, (ids i).size ≤ maxLen) :
    Calls Try.prog 4 #[.slice a0 l0 c0, .slice a1 n c1, .slice a2 l2 c2, .slice a3 l3 c3, .int .i64 cut] w fun e w' => e = .returned (.bool true) ∧ Bel w.heap.size w w' := by
  have R0 := hide r0
  have R1 := hide r1
  have R2 := hide r2
  have R3 := hide r3
  have Q0 := hide q0
  have Q1 := hide q1
  clear r0 r1 r2 r3 q0 q1
  go_enter Try.func4, Try.ntmps4
  go_wp2_with fail
  refine (bytes5 a0 a1 a2 a3 l0 c0 n c1 l2 c2 l3 c3 cut res ids _ (unhide R0) (unhide R1) h0 h1 h2 h3 (unhide Q0) (unhide Q1)).mono ?_
  rintro e w' ⟨bb, rfl, rfl, hby⟩
  rcases Bool.eq_false_or_eq_true bb with hb | hb
  rotate_left
  · subst hb
    go_wp2
    go_ret
    exact ⟨rfl, Bel.refl _ _⟩
  subst hb
  have HBY := hide (hby rfl)
  clear hby
  go_wp2_with fail
  refine (tooBig_any a0 a1 a2 a3 l0 c0 n c1 l2 c2 l3 c3 res ids _ (unhide R0) (unhide R1) (unhide HBY).1 (unhide HBY).2).mono ?_
  rintro e w'' ⟨bb, rfl, rfl, hbig⟩
  rcases Bool.eq_false_or_eq_true bb with hb | hb
  · subst hb
    go_wp2
    go_ret
    exact ⟨rfl, Bel.refl _ _⟩
  subst hb
  obtain ⟨s0, s1, s2, s3, stot⟩ := hbig rfl
  clear hbig h0 h1 h2 h3
  go_wp2_with fail
  refine (well_any a0 a1 a2 a3 l0 c0 n c1 l2 c2 l3 c3 st _ (unhide R2) s0 s1 s2 s3).mono ?_
  rintro e w3 ⟨bb, rfl, rfl, hwell⟩
  rcases Bool.eq_false_or_eq_true bb with hb | hb
  rotate_left
  · subst hb
    go_wp2
    go_ret
    exact ⟨rfl, Bel.refl _ _⟩
  subst hb
  obtain ⟨e2, e3, hst0, hcnt⟩ := hwell rfl
  subst e2
  subst e3
  clear hwell s2 s3
  have HST0 := hide hst0
  have HCNT := hide hcnt
  clear hst0 hcnt
  by_cases hc0 : cut < 0
  · have t0 : decide (cut < 0) = true := by simpa using hc0
    go_wp2
    go_ret
    exact ⟨rfl, Bel.refl _ _⟩
  have t0 : decide (cut < 0) = false := by simpa using hc0
  by_cases hc1 : (l0 : Int) < cut
  · have t1 : decide ((l0 : Int) < cut) = true := by simpa using hc1
    go_wp2
    go_ret
    exact ⟨rfl, Bel.refl _ _⟩
  have t1 : decide ((l0 : Int) < cut) = false := by simpa using hc1
  go_upto_block 0 with fail
  go_cut [12] (fun x wx => (∃ cn : Nat, cn ≤ l3 ∧ (cn < l3 → st cn = true) ∧ x = .int .i64 cn) ∧ wx = w3)
  case first =>
    go_wp2_with fail
    go_loop [12, 13, 14] (fun c s k => ∃ kk ss : Nat, kk ≤ l3 ∧ ss ≤ kk ∧ k = .int .i64 kk ∧ s = .int .i64 ss ∧ c = .int .i64 l3) (fun _ _ k => l3 - (intOf k).toNat)
    case atStart => exact ⟨0, 0, Nat.zero_le _, Nat.le_refl _, rfl, rfl, rfl⟩
    case round =>
      obtain ⟨k, ss, hk, hss, rfl, rfl, rfl⟩ := hrel
      by_cases hlt : k < l3
      · obtain ⟨b, off, ha, hbl, hc⟩ := (unhide R2) (by omega)
        subst ha
        have g1 : w3.cell? ⟨b, off + k, none⟩ = some (.bool (st k)) := hc k hlt
        clear hc
        cases hs : st k
        · rw [hs] at g1
          clear hs
          go_wp2
          go_round
          case rel => exact ⟨k + 1, ss, by omega, by omega, by go_num, rfl, rfl⟩
          case measure => simp [intOf]; omega
        · rw [hs] at g1
          have HS := hide hs
          clear hs
          by_cases he : (ss : Int) = cut
          · have te : ((ss : Int) == cut) = true := by rw [beq_iff_eq]; exact he
            clear he
            go_wp2
            go_meet
            case rel => exact ⟨⟨k, by omega, fun _ => unhide HS, rfl⟩, rfl⟩
          · have te : ((ss : Int) == cut) = false := by rw [beq_eq_false_iff_ne]; exact he
            clear he
            go_wp2
            go_round
            case rel => exact ⟨k + 1, ss + 1, by omega, by omega, by go_num, by go_num, rfl⟩
            case measure => simp [intOf]; omega
      · go_wp2
        go_meet
        case rel => exact ⟨⟨l3, Nat.le_refl _, fun h => absurd h (Nat.lt_irrefl _), rfl⟩, rfl⟩
  case rest =>
    obtain ⟨⟨cn, hcn, hscn, rfl⟩, rfl⟩ := hcut
    have HSC := hide hscn
    clear hscn t0 t1 hc0 hc1
    go_wp2_with fail
    refine (build_zero a0 a1 a2 a3 l0 c0 l3 c1 c2 c3 res ids st nd l3 _ ⟨unhide R0, unhide R1, unhide R2, unhide R3, Nat.zero_le _, Nat.le_refl _, s1, unhide HCNT, unhide HST0, fun h => absurd h (Nat.lt_irrefl _), stot⟩).mono ?_
    rintro e w4 ⟨al1, nr1, cap1, rfl, hb4, hl4⟩
    have hB1 := BoxOK.new (w := w4) (a := al1) (nr := nr1) (cap := cap1) (l3 : Int) hl4
    have hbx1 : Bel wc.heap.size wc (w4.alloc (.cells #[.slice al1 nr1 cap1, .int .i64 (l3 : Int)] 28)) := hb4.alloc hb4.size _
    have HB1 := hide hB1
    have HX1 := hide hbx1
    clear hb4 hl4 hB1 hbx1
    go_wp2_with fail
    refine (build_zero a0 a1 a2 a3 l0 c0 l3 c1 c2 c3 res ids st nd cn _ ⟨(unhide R0).bel (unhide HX1), (unhide R1).bel (unhide HX1), (unhide R2).bel (unhide HX1), (unhide R3).bel (unhide HX1), Nat.zero_le _, hcn, s1, unhide HCNT, fun h => unhide HST0 (by omega), unhide HSC, stot⟩).mono ?_
    rintro e w5 ⟨al2, nr2, cap2, rfl, hb5, hl5⟩
    have hB2 := BoxOK.new (w := w5) (a := al2) (nr := nr2) (cap := cap2) (cn : Int) hl5
    have hbx2 : Bel wc.heap.size wc (w5.alloc (.cells #[.slice al2 nr2 cap2, .int .i64 (cn : Int)] 28)) := ((unhide HX1).then hb5).alloc ((unhide HX1).then hb5).size _
    have hB12 := ((unhide HB1).bel hb5).bel ((Bel.refl _ _).alloc (Nat.le_refl _) (.cells #[.slice al2 nr2 cap2, .int .i64 (cn : Int)] 28))
    have HB2 := hide hB2
    have HB12 := hide hB12
    have HX2 := hide hbx2
    clear hb5 hl5 hB2 hbx2 hB12 HB1 HX1
    go_wp2_with fail
    refine (build_any a0 a1 a2 a3 l0 c0 l3 c1 c2 c3 res ids st nd cn l3 _ ⟨(unhide R0).bel (unhide HX2), (unhide R1).bel (unhide HX2), (unhide R2).bel (unhide HX2), (unhide R3).bel (unhide HX2), hcn, Nat.le_refl _, s1, unhide HCNT, unhide HSC, fun h => absurd h (Nat.lt_irrefl _), stot⟩).mono ?_
    rintro e w6 ⟨al3, nr3, cap3, rfl, hb6, hl6⟩
    have hli : LI wc res ids st nd l3 cn w4.heap.size w5.heap.size w6.heap.size (w6.alloc (.cells #[.slice al3 nr3 cap3, .int .i64 ((l3 : Int) - (cn : Int))] 28)) :=
      ⟨((unhide HB12).bel hb6).bel ((Bel.refl _ _).alloc (Nat.le_refl _) _), ((unhide HB2).bel hb6).bel ((Bel.refl _ _).alloc (Nat.le_refl _) _), BoxOK.new _ hl6, ((unhide HX2).then hb6).alloc ((unhide HX2).then hb6).size _⟩
    clear hb6 hl6 HB2 HB12 HX2
    go_wp2_with fail
    go_loopw [18] (fun x wr => ∃ k : Nat, k ≤ l3 ∧ x = .int .i64 k ∧ LI wc res ids st nd l3 cn w4.heap.size w5.heap.size w6.heap.size wr) (fun x _ => l3 - (intOf x).toNat)
    case atStart => exact ⟨0, Nat.zero_le _, rfl, hli⟩
    case round =>
      clear hli
      obtain ⟨k, hk, rfl, hg⟩ := hrel
      have HG := hide hg
      clear hg
      by_cases hlt : k < l3
      · obtain ⟨b1, o1, ha1, hbl1, hc1⟩ := (unhide R1) (by omega)
        subst ha1
        have g1 : wc.cell? ⟨b1, o1 + k, none⟩ = some (.string (ids k)) := hc1 k hlt
        have G1 := hide g1
        clear hc1 g1
        obtain ⟨af, nf, cf, mf, hbf, hlf⟩ := (unhide HG).full
        obtain ⟨gf, curf, Pf, Cf, rfl, hLf⟩ := hlf (by omega)
        obtain ⟨f0, f1⟩ := hbf.two
        have HLF := hide hLf
        clear hLf hlf hbf
        go_wp2_with fail
        refine (at_zero cf _ k (unhide HLF) hlt).mono ?_
        rintro e w7 ⟨sv1, rfl, hsv1, hb7⟩
        obtain ⟨sa, sm, rfl⟩ := hsv1.form
        generalize hres : res (cnt st (k + 1) - 1) = rr at *
        have hg7 := (unhide HG).step hb7
        have x1 : w7.cell? ⟨b1, o1 + k, none⟩ = some (.string (ids k)) := (hg7.bel.cell (p := ⟨b1, o1 + k, none⟩) hbl1).trans (unhide G1)
        have hb17 : b1 < w7.heap.size := Nat.lt_of_lt_of_le hbl1 hg7.bel.size
        have HG7 := hide hg7
        have HS1 := hide hsv1
        have HRES := hide hres
        have hlt' : (k : Int) < (l3 : Int) := by omega
        clear hg7 hsv1 hb7 f0 f1 hres
        have DA := hide (Blk.new w7 #[.string rr, .string (ids k), .slice sa sm sm] 34)
        have DB := hide (Blk.new (w7.alloc (.cells #[.string rr, .string (ids k), .slice sa sm sm] 34)) #[.string ⟨#[]⟩, .string ⟨#[]⟩, .slice none 0 0] 34)
        have hbel : ∀ q, Bel w7.heap.size w7 (((w7.alloc (.cells #[.string rr, .string (ids k), .slice sa sm sm] 34)).alloc (.cells #[.string ⟨#[]⟩, .string ⟨#[]⟩, .slice none 0 0] 34)).drewN q) := fun q => (((Bel.refl _ _).alloc (Nat.le_refl _) _).alloc (by simp) _).drewN _
        have HBEL := hide hbel
        clear hbel
        by_cases hkc : k < cn
        · obtain ⟨af, np, cp, mp, hbp, hlp⟩ := (unhide HG7).pre
          obtain ⟨gp, curp, Pp, Cp, rfl, hLp⟩ := hlp (by omega)
          obtain ⟨p0, p1⟩ := hbp.two
          have hBlt := hbp.lt
          have HLP := hide hLp
          clear hLp hlp hbp
          have hkc' : (k : Int) < (cn : Int) := by omega
          go_wp2_with fail
          go_quiet (fail)
          go_wp2_with fail
          refine (at_zero cp _ k ((unhide HLP).bel (unhide HBEL _)) hkc).mono ?_
          rintro e w8 ⟨sv2, rfl, hsv2, hb8⟩
          rw [unhide HRES]
          obtain ⟨sb, sn, rfl⟩ := hsv2.form
          have dA : Blk w8 w7.heap.size #[.string rr, .string (ids k), .slice sa sm sm] 34 := (hb8.block w7.heap.size (by simp; omega)).trans ((unhide DA).alloc _)
          have dB : Blk w8 (w7.heap.size + 1) #[.string ⟨#[]⟩, .string ⟨#[]⟩, .slice none 0 0] 34 := by
            have := unhide DB
            simp only [World.size_alloc] at this
            exact (hb8.block (w7.heap.size + 1) (by simp)).trans this
          have hb78 : Bel w7.heap.size w7 w8 := (unhide HBEL _).trans (hb8.mono (by simp; omega))
          have hg8 := (unhide HG7).step hb78
          have hs18 := (unhide HS1).bel hb78
          have hne : w7.heap.size ≠ w7.heap.size + 1 := by omega
          have dB2 := dB.put3 (.string rr) (.string (ids k)) (.slice sb sn sn)
          have dA2 := ((dA.setOther (p := ⟨w7.heap.size + 1, 0, none⟩) hne (.string rr)).setOther (p := ⟨w7.heap.size + 1, 1, none⟩) hne (.string (ids k))).setOther (p := ⟨w7.heap.size + 1, 2, none⟩) hne (.slice sb sn sn)
          have hset : ∀ v, SetOK w8 v (nd k) → SetOK (((w8.setCell ⟨w7.heap.size + 1, 0, none⟩ (.string rr)).setCell ⟨w7.heap.size + 1, 1, none⟩ (.string (ids k))).setCell ⟨w7.heap.size + 1, 2, none⟩ (.slice sb sn sn)) v (nd k) := fun v hv => by
            rcases hv with hv | ⟨h0, gx, e, hgx⟩
            · exact .inl hv
            · have hnx := hgx.ne dB (by decide)
              exact .inr ⟨h0, gx, e, ((hgx.setOther (p := ⟨w7.heap.size + 1, 0, none⟩) hnx _).setOther (p := ⟨w7.heap.size + 1, 1, none⟩) hnx _).setOther (p := ⟨w7.heap.size + 1, 2, none⟩) hnx _⟩
          obtain ⟨y0, y1, y2⟩ := dB.three
          obtain ⟨u0, u1, u2⟩ := dA2.three
          obtain ⟨v0, v1, v2⟩ := dB2.three
          have fz0 := dB.frozen 0
          have fz1 := dB.frozen 1
          have fz2 := dB.frozen 2
          have hb79 : Bel w7.heap.size w7 (((w8.setCell ⟨w7.heap.size + 1, 0, none⟩ (.string rr)).setCell ⟨w7.heap.size + 1, 1, none⟩ (.string (ids k))).setCell ⟨w7.heap.size + 1, 2, none⟩ (.slice sb sn sn)) := ((hb78.setCell (by simp) _).setCell (by simp) _).setCell (by simp) _
          have HG9 := hide ((unhide HG7).step hb79)
          have HSA := hide (hset _ hs18)
          have HSB := hide (hset _ hsv2)
          clear dA dB hb78 hg8 hs18 hne dB2 dA2 hset hb79 hsv2 hb8 p0 p1 x1
          go_wp2_with fail
          refine (sameDevice_any rr (ids k) _ _ (nd k) _ (unhide HSA) (unhide HSB)).mono ?_
          rintro e w9 ⟨rfl, hb9⟩
          have HG10 := hide ((unhide HG9).step hb9)
          clear hb9 y0 y1 y2 u0 u1 u2 v0 v1 v2 fz0 fz1 fz2
          go_wp2
          go_roundw
          case rel => exact ⟨k + 1, by omega, by go_num, unhide HG10⟩
          case measure => simp [intOf]; omega
        · obtain ⟨af, np, cp, mp, hbp, hlp⟩ := (unhide HG7).suf
          obtain ⟨gp, curp, Pp, Cp, rfl, hLp⟩ := hlp (by omega)
          obtain ⟨p0, p1⟩ := hbp.two
          have hBlt := hbp.lt
          have HLP := hide hLp
          clear hLp hlp hbp
          have hkc' : ¬ (k : Int) < (cn : Int) := by omega
          go_wp2_with fail
          go_quiet (fail)
          go_wp2_with fail
          rw [show (k : Int) - (cn : Int) = ((k - cn : Nat) : Int) by omega]
          refine (at_any cp _ k ((unhide HLP).bel (unhide HBEL _)) (by omega) hlt).mono ?_
          rintro e w8 ⟨sv2, rfl, hsv2, hb8⟩
          rw [unhide HRES]
          obtain ⟨sb, sn, rfl⟩ := hsv2.form
          have dA : Blk w8 w7.heap.size #[.string rr, .string (ids k), .slice sa sm sm] 34 := (hb8.block w7.heap.size (by simp; omega)).trans ((unhide DA).alloc _)
          have dB : Blk w8 (w7.heap.size + 1) #[.string ⟨#[]⟩, .string ⟨#[]⟩, .slice none 0 0] 34 := by
            have := unhide DB
            simp only [World.size_alloc] at this
            exact (hb8.block (w7.heap.size + 1) (by simp)).trans this
          have hb78 : Bel w7.heap.size w7 w8 := (unhide HBEL _).trans (hb8.mono (by simp; omega))
          have hg8 := (unhide HG7).step hb78
          have hs18 := (unhide HS1).bel hb78
          have hne : w7.heap.size ≠ w7.heap.size + 1 := by omega
          have dB2 := dB.put3 (.string rr) (.string (ids k)) (.slice sb sn sn)
          have dA2 := ((dA.setOther (p := ⟨w7.heap.size + 1, 0, none⟩) hne (.string rr)).setOther (p := ⟨w7.heap.size + 1, 1, none⟩) hne (.string (ids k))).setOther (p := ⟨w7.heap.size + 1, 2, none⟩) hne (.slice sb sn sn)
          have hset : ∀ v, SetOK w8 v (nd k) → SetOK (((w8.setCell ⟨w7.heap.size + 1, 0, none⟩ (.string rr)).setCell ⟨w7.heap.size + 1, 1, none⟩ (.string (ids k))).setCell ⟨w7.heap.size + 1, 2, none⟩ (.slice sb sn sn)) v (nd k) := fun v hv => by
            rcases hv with hv | ⟨h0, gx, e, hgx⟩
            · exact .inl hv
            · have hnx := hgx.ne dB (by decide)
              exact .inr ⟨h0, gx, e, ((hgx.setOther (p := ⟨w7.heap.size + 1, 0, none⟩) hnx _).setOther (p := ⟨w7.heap.size + 1, 1, none⟩) hnx _).setOther (p := ⟨w7.heap.size + 1, 2, none⟩) hnx _⟩
          obtain ⟨y0, y1, y2⟩ := dB.three
          obtain ⟨u0, u1, u2⟩ := dA2.three
          obtain ⟨v0, v1, v2⟩ := dB2.three
          have fz0 := dB.frozen 0
          have fz1 := dB.frozen 1
          have fz2 := dB.frozen 2
          have hb79 : Bel w7.heap.size w7 (((w8.setCell ⟨w7.heap.size + 1, 0, none⟩ (.string rr)).setCell ⟨w7.heap.size + 1, 1, none⟩ (.string (ids k))).setCell ⟨w7.heap.size + 1, 2, none⟩ (.slice sb sn sn)) := ((hb78.setCell (by simp) _).setCell (by simp) _).setCell (by simp) _
          have HG9 := hide ((unhide HG7).step hb79)
          have HSA := hide (hset _ hs18)
          have HSB := hide (hset _ hsv2)
          clear dA dB hb78 hg8 hs18 hne dB2 dA2 hset hb79 hsv2 hb8 p0 p1 x1
          go_wp2_with fail
          refine (sameDevice_any rr (ids k) _ _ (nd k) _ (unhide HSA) (unhide HSB)).mono ?_
          rintro e w9 ⟨rfl, hb9⟩
          have HG10 := hide ((unhide HG9).step hb9)
          clear hb9 y0 y1 y2 u0 u1 u2 v0 v1 v2 fz0 fz1 fz2
          go_wp2
          go_roundw
          case rel => exact ⟨k + 1, by omega, by go_num, unhide HG10⟩
          case measure => simp [intOf]; omega
      · go_wp2
        go_ret
        exact ⟨rfl, (unhide HG).bel⟩
end Go.Proofs.Qxb6632322a
