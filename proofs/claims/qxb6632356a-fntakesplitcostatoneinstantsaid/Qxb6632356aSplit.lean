import Derived.Test.Qxb6632356aFacts
namespace Go.Proofs.Qxb6632356a
open Go.RowKit Fl
set_option linter.unusedVariables false

set_option maxRecDepth 100000 in
set_option maxHeartbeats 4000000 in
theorem split_walk (x0 r : Nat) (ls ln bu m1 m2 s2 n2 : Int) (w : World) (hx0 : x0 < 2 ^ 64) (hr0 : r < 2 ^ 64) (b1 : -9223372036854775808 ≤ ls) (b2 : s2 ≤ 9223372036854775807) :
    Calls Try.prog 3 #[.float .f64 x0, .int .i64 ls, .int .i64 ln, .float .f64 r, .int .i64 bu, .int .i64 m1, .int .i64 m2, .int .i64 s2, .int .i64 n2] w fun e w' => e = .returned (.bool true) ∧ Bel w.heap.size w w' := by
  go_enter Try.func3, Try.ntmps3
  cases g1 : (FloatKind.f64.format.order r 0 == some .gt)
  · go_wp2
    go_ret
    exact ⟨rfl, Bel.refl _ _⟩
  cases g2 : (FloatKind.f64.format.order r 9218868437227405311 == some .gt)
  rotate_left
  · go_wp2
    go_ret
    exact ⟨rfl, Bel.refl _ _⟩
  go_upto_region 3 with fail
  cases g3 : decide (bu < 1)
  rotate_left
  · go_wp2
    go_ret
    exact ⟨rfl, Bel.refl _ _⟩
  cases g4 : decide (9007199254740992 < bu)
  rotate_left
  · go_wp2
    go_ret
    exact ⟨rfl, Bel.refl _ _⟩
  go_upto_region 5 with fail
  cases g5 : (FloatKind.f64.format.order x0 0 == some .gt || FloatKind.f64.format.order x0 0 == some .eq)
  · go_wp2
    go_ret
    exact ⟨rfl, Bel.refl _ _⟩
  cases g6 : (FloatKind.f64.format.order x0 (floatOfInt .f64 bu) == some .gt)
  rotate_left
  · go_wp2
    go_ret
    exact ⟨rfl, Bel.refl _ _⟩
  go_upto_region 7 with fail
  cases g7 : decide (ln < 0)
  rotate_left
  · go_wp2
    go_ret
    exact ⟨rfl, Bel.refl _ _⟩
  cases g8 : decide (1000000000 ≤ ln)
  rotate_left
  · go_wp2
    go_ret
    exact ⟨rfl, Bel.refl _ _⟩
  cases g9 : decide (n2 < 0)
  rotate_left
  · go_wp2
    go_ret
    exact ⟨rfl, Bel.refl _ _⟩
  cases g10 : decide (1000000000 ≤ n2)
  rotate_left
  · go_wp2
    go_ret
    exact ⟨rfl, Bel.refl _ _⟩
  go_upto_region 9 with fail
  cases g11 : decide (m1 < 0)
  rotate_left
  · go_wp2
    go_ret
    exact ⟨rfl, Bel.refl _ _⟩
  cases g12 : decide (m2 < 0)
  rotate_left
  · go_wp2
    go_ret
    exact ⟨rfl, Bel.refl _ _⟩
  cases g13 : decide (9007199254740992 < m1)
  rotate_left
  · go_wp2
    go_ret
    exact ⟨rfl, Bel.refl _ _⟩
  cases g14 : decide (9007199254740992 < m2)
  rotate_left
  · go_wp2
    go_ret
    exact ⟨rfl, Bel.refl _ _⟩
  have k1 : 0 ≤ m1 := by simpa using g11
  have k2 : 0 ≤ m2 := by simpa using g12
  have k3 : m1 ≤ 9007199254740992 := by simpa using g13
  have k4 : m2 ≤ 9007199254740992 := by simpa using g14
  have hw : IntKind.i64.wrap (m1 + m2) = m1 + m2 := by rw [IntKind.wrap_i64]; omega
  cases g15 : decide (9007199254740992 < m1 + m2)
  rotate_left
  · go_wp2
    go_ret
    exact ⟨rfl, Bel.refl _ _⟩
  have k5 : m1 + m2 ≤ 9007199254740992 := by simpa using g15
  have g16 : decide (m1 + m2 < m1) = false := by simp; omega
  have gd := guard_facts hx0 hr0 g1 g2 g3 g4 g5 g6
  obtain ⟨t, ps, pn, hrf, tk⟩ := rf_ex r x0 bu ls ln s2 n2 gd.nr gd.fr gd.pr gd.b0 gd.nx gd.lx b1 b2 (by simpa using g9) (by simpa using g10) (by simpa using g7) (by simpa using g8)
  have q0 := ord_neF gd.nx gd.nx rfl
  have qt := ord_neF tk.nn tk.nn rfl
  have HGD := hide gd
  have HRF := hide hrf
  have HTK := hide tk
  have HP := hide (And.intro k1 (And.intro k2 (And.intro k3 (And.intro k4 k5))))
  clear k1 k2 k3 k4 k5 hrf tk gd
  go_upto_region 14 with fail
  rcases Nat.lt_or_ge (rg t) (rg (floatOfInt .f64 (m1 + m2))) with hc | hc
  · have HC := hide hc
    rcases Nat.lt_or_ge (rg t) (rg (floatOfInt .f64 m1)) with hd | hd
    · have HD := hide hd
      clear hc hd
      go_wp2_with fail
      refine (zz_no x0 r t ls ln bu m1 s2 n2 ps pn _ (unhide HRF) (ord_ltT (unhide HTK).nn (ofI_nn (unhide HP).1).1 (unhide HD))).mono ?_
      rintro e w1 ⟨rfl, hb1⟩
      obtain ⟨ok, left, tok, se, ns, hz, nl, ntok⟩ := zz_some (unhide HGD) (unhide HRF) (unhide HTK) (unhide HP).2.1 (unhide HP).2.2.2.1
      have HZ := hide hz
      have HB1 := hide hb1
      have HL := hide nl
      clear hz hb1 nl ntok
      go_wp2_with fail
      refine (unhide HZ _).mono ?_
      rintro e w2 ⟨rfl, hb2⟩
      have HB2 := hide ((unhide HB1).then hb2)
      clear hb2
      go_wp2_with fail
      refine (zz_no x0 r t ls ln bu (m1 + m2) s2 n2 ps pn _ (unhide HRF) (ord_ltT (unhide HTK).nn (ofI_nn (by have := unhide HP; omega)).1 (unhide HC))).mono ?_
      rintro e w3 ⟨rfl, hb3⟩
      have HB3 := hide ((unhide HB2).then hb3)
      clear hb3
      have o1 := ord_ge (unhide HTK).nn (unhide HGD).nx (unhide HTK).lo
      have o2 := ord_le (unhide HTK).nn (ofI_nn (by have := (unhide HGD).b0; omega)).1 (unhide HTK).hi
      have o3 := ord_nge (unhide HTK).nn (ofI_nn (by have := unhide HP; omega)).1 (unhide HC)
      have o4 : aft s2 n2 ls ln = false → (FloatKind.f64.format.order t x0 != some .eq) = false := fun h => ord_neF (unhide HTK).nn (unhide HGD).nx (by rw [((unhide HTK).same h).1])
      have O4 := hide o4
      clear o4
      go_wp2_with fail
      refine (zzAfter_any s2 n2 ls ln _).mono ?_
      rintro e w4 ⟨rfl, rfl⟩
      cases ha : aft s2 n2 ls ln
      · have o4 := unhide O4 ha
        go_wp2
        go_ret
        exact ⟨rfl, unhide HB3⟩
      · go_wp2
        go_ret
        exact ⟨rfl, unhide HB3⟩
    · have HD := hide hd
      clear hc hd
      obtain ⟨z1, y, e1, ey, nz1, ny, hlt, hy⟩ := plain_one (unhide HGD) (unhide HTK) (unhide HP).1 (unhide HP).2.1 (unhide HP).2.2.2.2 (unhide HC) (unhide HD)
      have E1 := hide e1
      have NZ1 := hide nz1
      have HLT := hide hlt
      have ray := run_add ey
      have oy := ord_neF (unhide HTK).nn ny hy.symm
      clear e1 ey nz1 ny hlt hy
      go_wp2_with fail
      refine (zz_yes x0 r t z1 ls ln bu m1 s2 n2 ps pn _ (unhide HRF) (ord_ltF (unhide HTK).nn (ofI_nn (unhide HP).1).1 (unhide HD)) (unhide E1)).mono ?_
      rintro e w1 ⟨rfl, hb1⟩
      have HB1 := hide hb1
      clear hb1
      go_wp2_with fail
      refine (zz_no z1 r z1 ps pn bu m2 s2 n2 ps pn _ (unhide HTK).again (ord_ltT (unhide NZ1) (ofI_nn (unhide HP).2.1).1 (unhide HLT))).mono ?_
      rintro e w2 ⟨rfl, hb2⟩
      have HB2 := hide ((unhide HB1).then hb2)
      clear hb2
      go_wp2_with fail
      refine (zz_no x0 r t ls ln bu (m1 + m2) s2 n2 ps pn _ (unhide HRF) (ord_ltT (unhide HTK).nn (ofI_nn (by have := unhide HP; omega)).1 (unhide HC))).mono ?_
      rintro e w3 ⟨rfl, hb3⟩
      have HB3 := hide ((unhide HB2).then hb3)
      clear hb3
      have o1 := ord_ge (unhide HTK).nn (unhide HGD).nx (unhide HTK).lo
      have o2 := ord_le (unhide HTK).nn (ofI_nn (by have := (unhide HGD).b0; omega)).1 (unhide HTK).hi
      have o3 := ord_nge (unhide HTK).nn (ofI_nn (by have := unhide HP; omega)).1 (unhide HC)
      have o4 : aft s2 n2 ls ln = false → (FloatKind.f64.format.order t x0 != some .eq) = false := fun h => ord_neF (unhide HTK).nn (unhide HGD).nx (by rw [((unhide HTK).same h).1])
      have O4 := hide o4
      clear o4
      go_wp2_with fail
      refine (zzAfter_any s2 n2 ls ln _).mono ?_
      rintro e w4 ⟨rfl, rfl⟩
      cases ha : aft s2 n2 ls ln
      · have o4 := unhide O4 ha
        go_wp2
        go_ret
        exact ⟨rfl, unhide HB3⟩
      · go_wp2
        go_ret
        exact ⟨rfl, unhide HB3⟩
  · have HC := hide hc
    clear hc
    obtain ⟨z1, z2, z, y, e1, e2, ez, ey, h1, h2, nz1, nz2, nz, ny, hzz, hy⟩ := plain_both (unhide HGD) (unhide HTK) (unhide HP).1 (unhide HP).2.1 (unhide HP).2.2.2.2 (unhide HC)
    have E1 := hide e1
    have E2 := hide e2
    have EZ := hide ez
    have NZ1 := hide nz1
    have NY := hide ny
    have HY := hide hy
    have H1 := hide h1
    have H2 := hide h2
    have ray := run_add ey
    have oz := ord_neF nz nz2 hzz
    have oz2 := ord_neF nz nz rfl
    clear e1 e2 ez ey h1 h2 nz1 nz2 nz ny hzz hy
    go_wp2_with fail
    refine (zz_yes x0 r t z1 ls ln bu m1 s2 n2 ps pn _ (unhide HRF) (ord_ltF (unhide HTK).nn (ofI_nn (unhide HP).1).1 (unhide H1)) (unhide E1)).mono ?_
    rintro e w1 ⟨rfl, hb1⟩
    have HB1 := hide hb1
    clear hb1
    go_wp2_with fail
    refine (zz_yes z1 r z1 z2 ps pn bu m2 s2 n2 ps pn _ (unhide HTK).again (ord_ltF (unhide NZ1) (ofI_nn (unhide HP).2.1).1 (unhide H2)) (unhide E2)).mono ?_
    rintro e w2 ⟨rfl, hb2⟩
    have HB2 := hide ((unhide HB1).then hb2)
    clear hb2
    go_wp2_with fail
    refine (zz_yes x0 r t z ls ln bu (m1 + m2) s2 n2 ps pn _ (unhide HRF) (ord_ltF (unhide HTK).nn (ofI_nn (by have := unhide HP; omega)).1 (unhide HC)) (unhide EZ)).mono ?_
    rintro e w3 ⟨rfl, hb3⟩
    have HB3 := hide ((unhide HB2).then hb3)
    clear hb3
    have o1 := ord_ge (unhide NY) (unhide HGD).nx (by rw [unhide HY]; exact (unhide HTK).lo)
    have o2 := ord_le (unhide NY) (ofI_nn (n := bu) (by have := (unhide HGD).b0; omega)).1 (by rw [unhide HY]; exact (unhide HTK).hi)
    have o3 := ord_ge (unhide NY) (ofI_nn (n := m1 + m2) (by have := unhide HP; omega)).1 (by rw [unhide HY]; exact unhide HC)
    have o4 : aft s2 n2 ls ln = false → (FloatKind.f64.format.order y x0 != some .eq) = false := fun h => ord_neF (unhide NY) (unhide HGD).nx (by rw [unhide HY, ((unhide HTK).same h).1])
    have O4 := hide o4
    clear o4
    go_wp2_with fail
    refine (zzAfter_any s2 n2 ls ln _).mono ?_
    rintro e w4 ⟨rfl, rfl⟩
    cases ha : aft s2 n2 ls ln
    · have o4 := unhide O4 ha
      obtain ⟨_, p1, p2⟩ := (unhide HTK).same ha
      go_wp2
      go_ret
      exact ⟨rfl, unhide HB3⟩
    · obtain ⟨p1, p2⟩ := (unhide HTK).later ha
      go_wp2
      go_ret
      exact ⟨rfl, unhide HB3⟩

end Go.Proofs.Qxb6632356a
