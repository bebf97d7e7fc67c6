import Derived.Test.Qxb6632356aFacts
namespace Go.Proofs.Qxb6632356a
open Go.RowKit Fl
set_option linter.unusedVariables false

theorem le_of_ge {x y : Nat} (hx : Nn x) (hy : Nn y) (h : (FloatKind.f64.format.order x y == some .gt || FloatKind.f64.format.order x y == some .eq) = true) : rg y ≤ rg x := by
  rcases Nat.lt_or_ge (rg x) (rg y) with h1 | h1
  · rw [ord_nge hx hy h1] at h; cases h
  · exact h1

set_option maxRecDepth 100000 in
set_option maxHeartbeats 4000000 in
theorem refusal_walk (x0 r : Nat) (ls ln bu m s2 n2 m' s3 n3 : Int) (w : World) (hx0 : x0 < 2 ^ 64) (hr0 : r < 2 ^ 64) (b1 : -9223372036854775808 ≤ ls) (b0 : -9223372036854775808 ≤ s2) (b2 : s2 ≤ 9223372036854775807) (b3 : s3 ≤ 9223372036854775807) :
    Calls Try.prog 4 #[.float .f64 x0, .int .i64 ls, .int .i64 ln, .float .f64 r, .int .i64 bu, .int .i64 m, .int .i64 s2, .int .i64 n2, .int .i64 m', .int .i64 s3, .int .i64 n3] w fun e w' => e = .returned (.bool true) ∧ Bel w.heap.size w w' := by
  go_enter Try.func4, Try.ntmps4
  cases g1 : (FloatKind.f64.format.order r 0 == some .gt)
  · go_wp2
    go_ret
    exact ⟨rfl, Bel.refl _ _⟩
  cases g2 : (FloatKind.f64.format.order r 9218868437227405311 == some .gt)
  rotate_left
  · go_wp2
    go_ret
    exact ⟨rfl, Bel.refl _ _⟩
  go_upto_region 3 with fail
  cases g3 : decide (bu < 1)
  rotate_left
  · go_wp2
    go_ret
    exact ⟨rfl, Bel.refl _ _⟩
  cases g4 : decide (9007199254740992 < bu)
  rotate_left
  · go_wp2
    go_ret
    exact ⟨rfl, Bel.refl _ _⟩
  go_upto_region 5 with fail
  cases g5 : (FloatKind.f64.format.order x0 0 == some .gt || FloatKind.f64.format.order x0 0 == some .eq)
  · go_wp2
    go_ret
    exact ⟨rfl, Bel.refl _ _⟩
  cases g6 : (FloatKind.f64.format.order x0 (floatOfInt .f64 bu) == some .gt)
  rotate_left
  · go_wp2
    go_ret
    exact ⟨rfl, Bel.refl _ _⟩
  go_upto_region 7 with fail
  cases g7 : decide (ln < 0)
  rotate_left
  · go_wp2
    go_ret
    exact ⟨rfl, Bel.refl _ _⟩
  cases g8 : decide (1000000000 ≤ ln)
  rotate_left
  · go_wp2
    go_ret
    exact ⟨rfl, Bel.refl _ _⟩
  cases g9 : decide (n2 < 0)
  rotate_left
  · go_wp2
    go_ret
    exact ⟨rfl, Bel.refl _ _⟩
  cases g10 : decide (1000000000 ≤ n2)
  rotate_left
  · go_wp2
    go_ret
    exact ⟨rfl, Bel.refl _ _⟩
  cases g11 : decide (n3 < 0)
  rotate_left
  · go_wp2
    go_ret
    exact ⟨rfl, Bel.refl _ _⟩
  cases g12 : decide (1000000000 ≤ n3)
  rotate_left
  · go_wp2
    go_ret
    exact ⟨rfl, Bel.refl _ _⟩
  go_upto_region 9 with fail
  cases g13 : decide (m < 0)
  rotate_left
  · go_wp2
    go_ret
    exact ⟨rfl, Bel.refl _ _⟩
  cases g14 : decide (9007199254740992 < m)
  rotate_left
  · go_wp2
    go_ret
    exact ⟨rfl, Bel.refl _ _⟩
  cases g15 : decide (m' < 0)
  rotate_left
  · go_wp2
    go_ret
    exact ⟨rfl, Bel.refl _ _⟩
  cases g16 : decide (9007199254740992 < m')
  rotate_left
  · go_wp2
    go_ret
    exact ⟨rfl, Bel.refl _ _⟩
  have k1 : 0 ≤ m := by simpa using g13
  have k2 : m ≤ 9007199254740992 := by simpa using g14
  have k3 : 0 ≤ m' := by simpa using g15
  have k4 : m' ≤ 9007199254740992 := by simpa using g16
  have c1 : 0 ≤ ln := by simpa using g7
  have c2 : ln < 1000000000 := by simpa using g8
  have c3 : 0 ≤ n2 := by simpa using g9
  have c4 : n2 < 1000000000 := by simpa using g10
  have c5 : 0 ≤ n3 := by simpa using g11
  have c6 : n3 < 1000000000 := by simpa using g12
  have gd := guard_facts hx0 hr0 g1 g2 g3 g4 g5 g6
  obtain ⟨t, ps, pn, hrf, tk⟩ := rf_ex r x0 bu ls ln s2 n2 gd.nr gd.fr gd.pr gd.b0 gd.nx gd.lx b1 b2 c3 c4 c1 c2
  obtain ⟨t3, ps3, pn3, hrf3, tk3⟩ := rf_ex r x0 bu ls ln s3 n3 gd.nr gd.fr gd.pr gd.b0 gd.nx gd.lx b1 b3 c5 c6 c1 c2
  obtain ⟨ok3, left3, tok3, se3, ns3, hz3, nl3, nt3⟩ := zz_some gd hrf3 tk3 k3 k4
  have q0 := ord_neF gd.nx gd.nx rfl
  have ql := ord_neF nl3 nl3 rfl
  have qt := ord_neF nt3 nt3 rfl
  have HGD := hide gd
  have HRF := hide hrf
  have HTK := hide tk
  have HZ3 := hide hz3
  have HP := hide (And.intro k1 (And.intro k2 (And.intro k3 k4)))
  have HQ := hide (And.intro c1 (And.intro c2 (And.intro c3 (And.intro c4 (And.intro c5 c6)))))
  clear k1 k2 k3 k4 c1 c2 c3 c4 c5 c6 hrf tk gd hrf3 tk3 hz3 nl3 nt3
  go_upto_region 11 with fail
  rcases Nat.lt_or_ge (rg t) (rg (floatOfInt .f64 m)) with hc | hc
  · have HC := hide hc
    clear hc
    go_wp2_with fail
    refine (zz_no x0 r t ls ln bu m s2 n2 ps pn _ (unhide HRF) (ord_ltT (unhide HTK).nn (ofI_nn (unhide HP).1).1 (unhide HC))).mono ?_
    rintro e w1 ⟨rfl, hb1⟩
    have HB1 := hide hb1
    clear hb1
    go_wp2_with fail
    refine (unhide HZ3 _).mono ?_
    rintro e w2 ⟨rfl, hb2⟩
    have HB2 := hide ((unhide HB1).then hb2)
    clear hb2
    go_wp2_with fail
    refine (unhide HZ3 _).mono ?_
    rintro e w3 ⟨rfl, hb3⟩
    have HB3 := hide ((unhide HB2).then hb3)
    clear hb3
    have NY := hide (unhide HTK).nn
    have HY : Hid (rg t = rg t) := hide rfl
    have o3 := ord_ltT (unhide HTK).nn (ofI_nn (unhide HP).1).1 (unhide HC)
    have o4 := ord_nle (ofI_nn (unhide HP).1).1 (unhide HGD).nx (by have h1 := unhide HC; have h2 := (unhide HTK).lo; omega)
    have o1 := ord_ge (unhide NY) (unhide HGD).nx (by rw [unhide HY]; exact (unhide HTK).lo)
    have o2 := ord_le (unhide NY) (ofI_nn (n := bu) (by have := (unhide HGD).b0; omega)).1 (by rw [unhide HY]; exact (unhide HTK).hi)
    cases gb : decide (bu < m)
    · have HW1 := hide (wrap_diff s2 ls b1 b2)
      go_wp2_with fail
      refine (zzAfter_any s2 n2 ls ln _).mono ?_
      rintro e w4 ⟨rfl, rfl⟩
      cases ha : aft s2 n2 ls ln
      · go_wp2
        go_ret
        exact ⟨rfl, unhide HB3⟩
      · have hle : ls ≤ s2 := by have := aft_true ha; omega
        have hw1 := unhide HW1 hle
        by_cases hD : 1 ≤ s2 - ls
        · have d1 : decide (1 ≤ s2 - ls) = true := by simpa using hD
          have hw2 : IntKind.u64.wrap (s2 - ls - 1) = s2 - ls - 1 := IntWalk.u64_in _ ⟨by omega, by omega⟩
          obtain ⟨p, hp, np, _⟩ := mul_nn (ofI_nn (n := s2 - ls - 1) (by omega)).1 (unhide HGD).nr (unhide HGD).fr (unhide HGD).pr
          have rp := run_mul hp
          have HF := hide ((unhide HTK).full ha _ p (by omega) (by omega) (fun _ => Int.le_refl _) hp)
          have NP := hide np
          clear hD hp np hle
          cases go : (FloatKind.f64.format.order p (floatOfInt .f64 bu) == some .gt || FloatKind.f64.format.order p (floatOfInt .f64 bu) == some .eq)
          · go_wp2
            go_ret
            exact ⟨rfl, unhide HB3⟩
          · have o5 := ord_neF (unhide NY) (ofI_nn (n := bu) (by have := (unhide HGD).b0; omega)).1 (unhide HF (le_of_ge (unhide NP) (ofI_nn (by have := (unhide HGD).b0; omega)).1 go))
            go_wp2
            go_ret
            exact ⟨rfl, unhide HB3⟩
        · have d1 : decide (1 ≤ s2 - ls) = false := by simpa using hD
          obtain ⟨p, hp, np, _⟩ := mul_nn (ofI_nn (n := s2 - ls) (by omega)).1 (unhide HGD).nr (unhide HGD).fr (unhide HGD).pr
          have rp := run_mul hp
          have HF := hide ((unhide HTK).full ha _ p (by omega) (by omega) (fun h => by omega) hp)
          have NP := hide np
          clear hD hp np hle
          cases go : (FloatKind.f64.format.order p (floatOfInt .f64 bu) == some .gt || FloatKind.f64.format.order p (floatOfInt .f64 bu) == some .eq)
          · go_wp2
            go_ret
            exact ⟨rfl, unhide HB3⟩
          · have o5 := ord_neF (unhide NY) (ofI_nn (n := bu) (by have := (unhide HGD).b0; omega)).1 (unhide HF (le_of_ge (unhide NP) (ofI_nn (by have := (unhide HGD).b0; omega)).1 go))
            go_wp2
            go_ret
            exact ⟨rfl, unhide HB3⟩
    · have HW1 := hide (wrap_diff s2 ls b1 b2)
      go_wp2_with fail
      refine (zzAfter_any s2 n2 ls ln _).mono ?_
      rintro e w4 ⟨rfl, rfl⟩
      cases ha : aft s2 n2 ls ln
      · go_wp2
        go_ret
        exact ⟨rfl, unhide HB3⟩
      · have hle : ls ≤ s2 := by have := aft_true ha; omega
        have hw1 := unhide HW1 hle
        by_cases hD : 1 ≤ s2 - ls
        · have d1 : decide (1 ≤ s2 - ls) = true := by simpa using hD
          have hw2 : IntKind.u64.wrap (s2 - ls - 1) = s2 - ls - 1 := IntWalk.u64_in _ ⟨by omega, by omega⟩
          obtain ⟨p, hp, np, _⟩ := mul_nn (ofI_nn (n := s2 - ls - 1) (by omega)).1 (unhide HGD).nr (unhide HGD).fr (unhide HGD).pr
          have rp := run_mul hp
          have HF := hide ((unhide HTK).full ha _ p (by omega) (by omega) (fun _ => Int.le_refl _) hp)
          have NP := hide np
          clear hD hp np hle
          cases go : (FloatKind.f64.format.order p (floatOfInt .f64 bu) == some .gt || FloatKind.f64.format.order p (floatOfInt .f64 bu) == some .eq)
          · go_wp2
            go_ret
            exact ⟨rfl, unhide HB3⟩
          · have o5 := ord_neF (unhide NY) (ofI_nn (n := bu) (by have := (unhide HGD).b0; omega)).1 (unhide HF (le_of_ge (unhide NP) (ofI_nn (by have := (unhide HGD).b0; omega)).1 go))
            go_wp2
            go_ret
            exact ⟨rfl, unhide HB3⟩
        · have d1 : decide (1 ≤ s2 - ls) = false := by simpa using hD
          obtain ⟨p, hp, np, _⟩ := mul_nn (ofI_nn (n := s2 - ls) (by omega)).1 (unhide HGD).nr (unhide HGD).fr (unhide HGD).pr
          have rp := run_mul hp
          have HF := hide ((unhide HTK).full ha _ p (by omega) (by omega) (fun h => by omega) hp)
          have NP := hide np
          clear hD hp np hle
          cases go : (FloatKind.f64.format.order p (floatOfInt .f64 bu) == some .gt || FloatKind.f64.format.order p (floatOfInt .f64 bu) == some .eq)
          · go_wp2
            go_ret
            exact ⟨rfl, unhide HB3⟩
          · have o5 := ord_neF (unhide NY) (ofI_nn (n := bu) (by have := (unhide HGD).b0; omega)).1 (unhide HF (le_of_ge (unhide NP) (ofI_nn (by have := (unhide HGD).b0; omega)).1 go))
            go_wp2
            go_ret
            exact ⟨rfl, unhide HB3⟩
  · have HC := hide hc
    clear hc
    obtain ⟨z, y, ez, ey, nz, ny, hzt, hy⟩ := plain_take (unhide HGD) (unhide HTK) (unhide HP).1 (unhide HP).2.1 (unhide HC)
    have hbm : decide (bu < m) = false := by
      have h1 := Nat.le_trans (unhide HC) (unhide HTK).hi
      have hb0 := (unhide HGD).b0
      have hb1 := (unhide HGD).b1
      have h2 := (le_W (unhide HP).1 (unhide HP).2.1).1 h1
      rw [(ofI_exact (by omega) hb1).2] at h2
      by_cases hh : bu < m
      · have := W_mono (by omega) hh
        omega
      · simpa using hh
    have gdz : Gd z r bu := ⟨(unhide HGD).nr, (unhide HGD).fr, (unhide HGD).pr, (unhide HGD).b0, (unhide HGD).b1, nz, Nat.le_trans hzt (unhide HTK).hi⟩
    have hpp : (-9223372036854775808 ≤ ps) ∧ 0 ≤ pn ∧ pn < 1000000000 := by
      have hq := unhide HQ
      cases ha : aft s2 n2 ls ln
      · obtain ⟨_, rfl, rfl⟩ := (unhide HTK).same ha
        exact ⟨b1, hq.1, hq.2.1⟩
      · obtain ⟨rfl, rfl⟩ := (unhide HTK).later ha
        exact ⟨b0, hq.2.2.1, hq.2.2.2.1⟩
    obtain ⟨t2, ps2, pn2, hrf2, tk2⟩ := rf_ex r z bu ps pn s3 n3 gdz.nr gdz.fr gdz.pr gdz.b0 gdz.nx gdz.lx hpp.1 b3 (unhide HQ).2.2.2.2.1 (unhide HQ).2.2.2.2.2 hpp.2.1 hpp.2.2
    obtain ⟨ok2, left2, tok2, se2, ns2, hz2, nl2, nt2⟩ := zz_some gdz hrf2 tk2 (unhide HP).2.2.1 (unhide HP).2.2.2
    have HZ2 := hide hz2
    have EZ := hide ez
    have NY := hide ny
    have HY := hide hy
    have ray := run_add ey
    have oz := ord_neF nz nz rfl
    clear ez ey nz ny hzt hy gdz hpp hrf2 tk2 hz2 nl2 nt2
    go_wp2_with fail
    refine (zz_yes x0 r t z ls ln bu m s2 n2 ps pn _ (unhide HRF) (ord_ltF (unhide HTK).nn (ofI_nn (unhide HP).1).1 (unhide HC)) (unhide EZ)).mono ?_
    rintro e w1 ⟨rfl, hb1⟩
    have HB1 := hide hb1
    clear hb1
    go_wp2_with fail
    refine (unhide HZ2 _).mono ?_
    rintro e w2 ⟨rfl, hb2⟩
    have HB2 := hide ((unhide HB1).then hb2)
    clear hb2
    go_wp2_with fail
    refine (unhide HZ3 _).mono ?_
    rintro e w3 ⟨rfl, hb3⟩
    have HB3 := hide ((unhide HB2).then hb3)
    clear hb3
    have o1 := ord_ge (unhide NY) (unhide HGD).nx (by rw [unhide HY]; exact (unhide HTK).lo)
    have o2 := ord_le (unhide NY) (ofI_nn (n := bu) (by have := (unhide HGD).b0; omega)).1 (by rw [unhide HY]; exact (unhide HTK).hi)
    cases gb : (FloatKind.f64.format.order (floatOfInt .f64 m) x0 == some .lt || FloatKind.f64.format.order (floatOfInt .f64 m) x0 == some .eq)
    · have HW1 := hide (wrap_diff s2 ls b1 b2)
      go_wp2_with fail
      refine (zzAfter_any s2 n2 ls ln _).mono ?_
      rintro e w4 ⟨rfl, rfl⟩
      cases ha : aft s2 n2 ls ln
      · go_wp2
        go_ret
        exact ⟨rfl, unhide HB3⟩
      · have hle : ls ≤ s2 := by have := aft_true ha; omega
        have hw1 := unhide HW1 hle
        by_cases hD : 1 ≤ s2 - ls
        · have d1 : decide (1 ≤ s2 - ls) = true := by simpa using hD
          have hw2 : IntKind.u64.wrap (s2 - ls - 1) = s2 - ls - 1 := IntWalk.u64_in _ ⟨by omega, by omega⟩
          obtain ⟨p, hp, np, _⟩ := mul_nn (ofI_nn (n := s2 - ls - 1) (by omega)).1 (unhide HGD).nr (unhide HGD).fr (unhide HGD).pr
          have rp := run_mul hp
          have HF := hide ((unhide HTK).full ha _ p (by omega) (by omega) (fun _ => Int.le_refl _) hp)
          have NP := hide np
          clear hD hp np hle
          cases go : (FloatKind.f64.format.order p (floatOfInt .f64 bu) == some .gt || FloatKind.f64.format.order p (floatOfInt .f64 bu) == some .eq)
          · go_wp2
            go_ret
            exact ⟨rfl, unhide HB3⟩
          · have o5 := ord_neF (unhide NY) (ofI_nn (n := bu) (by have := (unhide HGD).b0; omega)).1 ((unhide HY).trans (unhide HF (le_of_ge (unhide NP) (ofI_nn (by have := (unhide HGD).b0; omega)).1 go)))
            go_wp2
            go_ret
            exact ⟨rfl, unhide HB3⟩
        · have d1 : decide (1 ≤ s2 - ls) = false := by simpa using hD
          obtain ⟨p, hp, np, _⟩ := mul_nn (ofI_nn (n := s2 - ls) (by omega)).1 (unhide HGD).nr (unhide HGD).fr (unhide HGD).pr
          have rp := run_mul hp
          have HF := hide ((unhide HTK).full ha _ p (by omega) (by omega) (fun h => by omega) hp)
          have NP := hide np
          clear hD hp np hle
          cases go : (FloatKind.f64.format.order p (floatOfInt .f64 bu) == some .gt || FloatKind.f64.format.order p (floatOfInt .f64 bu) == some .eq)
          · go_wp2
            go_ret
            exact ⟨rfl, unhide HB3⟩
          · have o5 := ord_neF (unhide NY) (ofI_nn (n := bu) (by have := (unhide HGD).b0; omega)).1 ((unhide HY).trans (unhide HF (le_of_ge (unhide NP) (ofI_nn (by have := (unhide HGD).b0; omega)).1 go)))
            go_wp2
            go_ret
            exact ⟨rfl, unhide HB3⟩
    · have HW1 := hide (wrap_diff s2 ls b1 b2)
      go_wp2_with fail
      refine (zzAfter_any s2 n2 ls ln _).mono ?_
      rintro e w4 ⟨rfl, rfl⟩
      cases ha : aft s2 n2 ls ln
      · go_wp2
        go_ret
        exact ⟨rfl, unhide HB3⟩
      · have hle : ls ≤ s2 := by have := aft_true ha; omega
        have hw1 := unhide HW1 hle
        by_cases hD : 1 ≤ s2 - ls
        · have d1 : decide (1 ≤ s2 - ls) = true := by simpa using hD
          have hw2 : IntKind.u64.wrap (s2 - ls - 1) = s2 - ls - 1 := IntWalk.u64_in _ ⟨by omega, by omega⟩
          obtain ⟨p, hp, np, _⟩ := mul_nn (ofI_nn (n := s2 - ls - 1) (by omega)).1 (unhide HGD).nr (unhide HGD).fr (unhide HGD).pr
          have rp := run_mul hp
          have HF := hide ((unhide HTK).full ha _ p (by omega) (by omega) (fun _ => Int.le_refl _) hp)
          have NP := hide np
          clear hD hp np hle
          cases go : (FloatKind.f64.format.order p (floatOfInt .f64 bu) == some .gt || FloatKind.f64.format.order p (floatOfInt .f64 bu) == some .eq)
          · go_wp2
            go_ret
            exact ⟨rfl, unhide HB3⟩
          · have o5 := ord_neF (unhide NY) (ofI_nn (n := bu) (by have := (unhide HGD).b0; omega)).1 ((unhide HY).trans (unhide HF (le_of_ge (unhide NP) (ofI_nn (by have := (unhide HGD).b0; omega)).1 go)))
            go_wp2
            go_ret
            exact ⟨rfl, unhide HB3⟩
        · have d1 : decide (1 ≤ s2 - ls) = false := by simpa using hD
          obtain ⟨p, hp, np, _⟩ := mul_nn (ofI_nn (n := s2 - ls) (by omega)).1 (unhide HGD).nr (unhide HGD).fr (unhide HGD).pr
          have rp := run_mul hp
          have HF := hide ((unhide HTK).full ha _ p (by omega) (by omega) (fun h => by omega) hp)
          have NP := hide np
          clear hD hp np hle
          cases go : (FloatKind.f64.format.order p (floatOfInt .f64 bu) == some .gt || FloatKind.f64.format.order p (floatOfInt .f64 bu) == some .eq)
          · go_wp2
            go_ret
            exact ⟨rfl, unhide HB3⟩
          · have o5 := ord_neF (unhide NY) (ofI_nn (n := bu) (by have := (unhide HGD).b0; omega)).1 ((unhide HY).trans (unhide HF (le_of_ge (unhide NP) (ofI_nn (by have := (unhide HGD).b0; omega)).1 go)))
            go_wp2
            go_ret
            exact ⟨rfl, unhide HB3⟩

end Go.Proofs.Qxb6632356a
