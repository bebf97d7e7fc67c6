import Derived.Test.Qxb6632449aDoorFront
namespace Go.Proofs.Qxb6632449aDoor
open Go.RowKit
set_option linter.unusedVariables false

theorem sum_room {n : Nat} : (n : Int) ≤ 1048576 → n ≤ 1048576 := by omega

set_option maxRecDepth 100000 in
set_option maxHeartbeats 4000000 in
theorem apart_some (ad : Addr) (l c : Nat) (x y : Int) (ks : Nat → ByteArray) (w : World) (hr : Rd w (some ad) l (fun i => .string (ks i))) (hlm : l ≤ maxLen) (hqm : ∀ i, (ks i).size ≤ maxLen)
    (x0 : -9223372036854775808 ≤ x) (x1 : x ≤ 9223372036854775807) (y0 : -9223372036854775808 ≤ y) (y1 : y ≤ 9223372036854775807) (ht : Tab w) :
    Calls Tryd.prog 3 #[.slice (some ad) l c, .int .i64 x, .int .i64 y] w fun e w' => e = .returned (.bool true) ∧ Bel w.heap.size w w' := by
  have HR := hide hr
  have HT := hide ht
  have HQM := hide hqm
  obtain ⟨i9, hi, hz, hs, hb⟩ := info_parts Tryd.info9
  clear hr ht hqm
  go_enter Tryd.func3, Tryd.ntmps3
  go_wp2_with fail
  refine (bytes_one (some ad) l c x y ks _ (unhide HR) hlm (unhide HQM)).mono ?_
  rintro e w' ⟨bb, rfl, rfl, hby⟩
  cases bb with
  | false =>
    clear hby
    go_wp2
    go_ret
    exact ⟨rfl, Bel.refl _ _⟩
  | true =>
    obtain ⟨hl, hkz⟩ := hby rfl
    have HKZ := hide hkz
    clear hby hkz
    go_wp2_with (first | (at_make; refine wpList_make_full _ rfl _ _ 22 rfl w'.heap.size 9 i9 (.string ⟨#[]⟩) 1 Tryd.underlying22 hi hz hs _ _ _ _ l rfl rfl (by omega) (by omega) ?b1 ?b2 (Nat.le_refl _) ?_))
    case b1 => rw [hb]; omega
    case b2 => unfold maxLen; omega
    intro w1 hown hgrow
    have hbl : Below w'.heap.size w' w1 := (Below.refl _ _).grown hgrow (Nat.le_refl _) (fun k h => by cases h)
    have hblk := own_full hown
    have hlen : (madeCells #[Value.string ⟨#[]⟩] l).toList.length = l := by have := hown.1; omega
    have hsrc := rd_src ((unhide HR).bel (Bel.of hbl))
    have HBK := hide hblk
    have HBL := hide hbl
    have HSRC := hide hsrc
    have HLEN := hide hlen
    clear hown hgrow hbl hblk hsrc hlen
    go_wp2_with (first | (refine wpList_copy_splice rfl (.tmp 29) (.tmp 30) 22 22 rfl 9 Tryd.underlying22 (by rw [hi]; simp [hs]) (some ⟨w'.heap.size, 0, none⟩) (some ad) l l l c rfl rfl w'.heap.size 0 _ 9 (unhide HBK) (strs ks l) ?e1 ?e2 ?e3 (strs_one ks l) w'.heap.size w' (unhide HBL) (Nat.le_refl _) ?_))
    case e1 => rw [strs_len]; simp
    case e2 => intro h; rw [strs_len] at h; exact unhide HSRC h
    case e3 => rw [strs_len]; have := unhide HLEN; omega
    intro w2 hcp hb2
    have hcp2 := unhide hcp
    rw [splice_all _ _ (by rw [unhide HLEN, strs_len])] at hcp2
    have HC2 : Hid (Blk w2 w'.heap.size (strs ks l).toArray 9) := hcp2
    have HB2 := hide hb2
    clear hcp hcp2 hb2
    have HR2 : Hid (Rd w2 (some ⟨w'.heap.size, 0, none⟩) l (fun i => .string (ks i))) := blk_rd (unhide HC2)
    have HBC : Hid (Bel w'.heap.size w' w2) := Bel.of (unhide HB2)
    clear HC2 HB2 HBK HBL HSRC HLEN
    go_wp2
    go_loop [8, 9] (fun z i => ∃ k n : Nat, k ≤ l ∧ n ≤ 1048576 ∧ i = .int .i64 k ∧ z = .int .i64 n) (fun _ i => l - (intOf i).toNat)
    case atStart => exact ⟨0, 0, Nat.zero_le _, by omega, rfl, rfl⟩
    case round =>
      obtain ⟨k, n, hk, hn, rfl, rfl⟩ := hrel
      by_cases hlt : k < l
      · have g1 := (rd0 (unhide HR2) hlt).2
        have g2 := unhide HKZ k hlt
        generalize ks k = s at g1 g2
        clear hlm
        by_cases hbig : 1048576 < n + (s.size + 16)
        · have tb : decide ((1048576 : Int) < (n : Int) + ((s.size : Int) + 16)) = true := by simp; omega
          go_upto_if 48 with fail
          go_wp2
          go_ret
          exact ⟨rfl, unhide HBC⟩
        · have tb : decide ((1048576 : Int) < (n : Int) + ((s.size : Int) + 16)) = false := by simp; omega
          go_upto_if 48 with fail
          go_wp2
          go_round
          case rel => exact ⟨k + 1, n + (s.size + 16), by omega, by omega, by go_num, by go_num⟩
          case measure => simp [intOf]; omega
      · obtain rfl : k = l := by omega
        by_cases hl0 : k = 0
        · subst hl0
          go_wp2
          go_ret
          exact ⟨rfl, unhide HBC⟩
        · have te : ((k : Int) == 0) = false := by simp; omega
          go_wp2_with (first | (at_make; refine wpList_make_full _ rfl _ _ 22 rfl w2.heap.size 9 i9 (.string ⟨#[]⟩) 1 Tryd.underlying22 hi hz hs _ _ _ _ k rfl rfl (by omega) (by omega) (by first | omega | (rw [hb]; omega)) (by first | omega | (unfold maxLen; omega)) (Nat.le_refl _) ?_))
          intro w3 hown hgrow
          have hbl : Bel w2.heap.size w2 w3 := Bel.of ((Below.refl _ _).grown hgrow (Nat.le_refl _) (fun k h => by cases h))
          have hwn : Wn w2 ks k 0 (madeCells #[Value.string ⟨#[]⟩] k).toList.toArray w3 := ⟨own_full hown, by have := hown.1; simpa using this, fun t h => by omega, hbl⟩
          have HWN := hide hwn
          clear hown hgrow hbl hwn
          go_wp2
          go_loopw [12] (fun i wr => ∃ (j : Nat) (cs : Array Value), j ≤ k ∧ i = .int .i64 j ∧ Wn w2 ks k j cs wr) (fun i _ => k - (intOf i).toNat)
          case atStart => exact ⟨0, _, Nat.zero_le _, rfl, unhide HWN⟩
          case round =>
            obtain ⟨j, cs, hj, rfl, hw⟩ := hrel
            by_cases hjl : j < k
            · have g1 : wr.cell? ⟨w'.heap.size, j, none⟩ = some (.string (ks j)) := (hw.bel.cell (p := ⟨w'.heap.size, j, none⟩) (rd0 (unhide HR2) hjl).1).trans (rd0 (unhide HR2) hjl).2
              obtain ⟨v0, g2⟩ : ∃ v, wr.cell? ⟨w2.heap.size, j, none⟩ = some v := by
                rw [hw.blk.cell]; exact ⟨_, Array.getElem?_eq_getElem (by rw [hw.size]; exact hjl)⟩
              have g3 := hw.blk.frozen j
              have HN := hide (hw.next hjl)
              clear hw
              go_wp2
              go_roundw
              case rel => exact ⟨j + 1, _, by omega, by go_num, unhide HN⟩
              case measure => simp [intOf]; omega
            · obtain rfl : j = k := by omega
              have HW := hide hw
              clear hw HWN
              go_wp2_with fail
              refine (slotHolds_any _ j j x ks wr ((unhide HR2).bel (unhide HW).bel) (by omega) hl (unhide HKZ) x0 x1 ((unhide HT).bel ((unhide HBC).then (unhide HW).bel))).mono ?_
              rintro e w4 ⟨ga, capa, rfl, hb4, hsa⟩
              have HB4 := hide hb4
              have HSA := hide hsa
              clear hb4 hsa
              go_wp2_with fail
              refine (slotHolds_any _ j j y ks w4 ((unhide HR2).bel ((unhide HW).bel.then (unhide HB4))) (by omega) hl (unhide HKZ) y0 y1 ((unhide HT).bel (((unhide HBC).then (unhide HW).bel).then (unhide HB4)))).mono ?_
              rintro e w5 ⟨gb, capb, rfl, hb5, hsb⟩
              have hli : Li w' w2.heap.size cs ga gb ks j j x y w5 := ⟨((unhide HW).blk.bel (unhide HB4) (unhide HW).blk.lt).bel hb5 (((unhide HW).blk.bel (unhide HB4) (unhide HW).blk.lt).lt), (unhide HSA).bel hb5, hsb, (((unhide HBC).then (unhide HW).bel).then (unhide HB4)).then hb5⟩
              have HLI := hide hli
              have HCS := hide (unhide HW).at_
              clear hb5 hsb hli HB4 HSA HW
              go_wp2
              go_loopw [15] (fun i wr => ∃ m : Nat, m ≤ j ∧ i = .int .i64 m ∧ Li w' w2.heap.size cs ga gb ks j j x y wr) (fun i _ => j - (intOf i).toNat)
              case atStart => exact ⟨0, Nat.zero_le _, rfl, unhide HLI⟩
              case round =>
                obtain ⟨m, hm, rfl, hli⟩ := hrel
                have HL := hide hli
                by_cases hmj : m < j
                · have g1 : wr.cell? ⟨w2.heap.size, m, none⟩ = some (.string (ks m)) := by rw [hli.wn.cell]; exact unhide HCS m hmj
                  clear hli
                  have HN := hide (Blk.new wr #[.int .i64 (m : Int), .string (ks m), .bool false] 27)
                  have HL2 := hide (Li.step ((Bel.refl _ _).alloc (Nat.le_refl _) (.cells #[.int .i64 (m : Int), .string (ks m), .bool false] 27)) (unhide HL))
                  go_wp2_with fail
                  generalize wr.alloc (.cells #[.int .i64 (m : Int), .string (ks m), .bool false] 27) = w6 at HN HL2
                  generalize wr.heap.size = gn at HN
                  obtain ⟨n0, n1, n2⟩ := (unhide HN).three
                  obtain ⟨p0, p1, p2⟩ := (unhide HL2).ha.sh m hmj
                  obtain ⟨q0, q1, q2⟩ := (unhide HL2).hb.sh m hmj
                  have hsame := hold_same (m : Int) (ks m) false
                  clear HN HL g1
                  go_quiet (fail)
                  go_wp2
                  go_roundw
                  case rel => exact ⟨m + 1, by omega, by go_num, Li.step ((Bel.refl _ _).drewN _) (unhide HL2)⟩
                  case measure => simp [intOf]; omega
                · obtain rfl : m = j := by omega
                  clear hli
                  have hm1 : 1 ≤ m := by omega
                  clear hl0 hmj hlt hk hm hj
                  have g1 : wr.cell? ⟨w2.heap.size, m - 1, none⟩ = some (.string (ks (m - 1))) := by rw [(unhide HL).wn.cell]; exact unhide HCS (m - 1) (by omega)
                  have g1a : ∀ o, (wr.alloc o).cell? ⟨w2.heap.size, m - 1, none⟩ = some (.string (ks (m - 1))) := fun o => by rw [((unhide HL).wn.alloc o).cell]; exact unhide HCS (m - 1) (by omega)
                  have a1 := add_hash (ks (m - 1)) (unhide HKZ _ (by omega))
                  have a2 := add_num (ks (m - 1)) x (unhide HKZ _ (by omega)) x0 x1
                  have hix := index_last w2.heap.size m hm1 m
                  have hwr := wrap_last m hm1 hl
                  go_upto_region 32 with fail
                  go_cut [17] (fun v wx => ∃ g, v = .pointer (some ⟨g, 0, none⟩) ∧ Blk wx g #[.int .i64 ((m : Int) - 1), .string (slotKey (ks (m - 1)) x), .bool true] 27 ∧ Li w' w2.heap.size cs ga gb ks m m x y wx)
                  case first =>
                    go_region_with (first
                      | (go_at_call 7; refine (itoa_own x x0 x1 _).mono ?_; rintro e wk ⟨rfl, hbk⟩
                         have hbw : Bel wr.heap.size wr wk := (by first | exact Bel.then (Bel.refl _ _) hbk | exact Bel.then (Bel.refl _ _).drew hbk | exact Bel.then ((Bel.refl _ _).alloc (Nat.le_refl _) _) hbk | exact Bel.then ((Bel.refl _ _).alloc (Nat.le_refl _) _).drew hbk | exact Bel.then ((Bel.refl _ _).drew.alloc (Nat.le_refl _) _) hbk)
                         have hlk := Li.step hbw (unhide HL)
                         have g1k : wk.cell? ⟨w2.heap.size, m - 1, none⟩ = some (.string (ks (m - 1))) := (by rw [hlk.wn.cell]; exact unhide HCS (m - 1) (by omega))
                         have g1b : ∀ o, (wk.alloc o).cell? ⟨w2.heap.size, m - 1, none⟩ = some (.string (ks (m - 1))) := fun o => (by rw [(hlk.wn.alloc o).cell]; exact unhide HCS (m - 1) (by omega))
                         first
                           | (have hz := blk_zero1 hbk; obtain ⟨z0, z1, z2⟩ := hz.three; have f0 := hz.frozen 0; have f1 := hz.frozen 1; have f2 := hz.frozen 2)
                           | (have hz := blk_zero2 hbk; obtain ⟨z0, z1, z2⟩ := hz.three; have f0 := hz.frozen 0; have f1 := hz.frozen 1; have f2 := hz.frozen 2)
                           | skip))
                    all_goals go_wp2
                    all_goals go_meet
                    all_goals (case rel =>
                      first
                        | exact ⟨_, rfl, hz.put3 _ _ _, Li.step (hbw.put3 (Nat.le_refl _) _ _ _) (unhide HL)⟩
                        | exact ⟨_, rfl, Blk.new wk _ _, Li.step (hbw.alloc hbw.size _) (unhide HL)⟩
                        | exact ⟨_, rfl, Blk.new wk _ _, Li.step (hbw.alloc hbw.size _).drew (unhide HL)⟩)
                  case rest =>
                    obtain ⟨g17, rfl, hb17, hli⟩ := hcut
                    have HL := hide hli
                    have HB17 := hide hb17
                    clear hli hb17 a1 a2 g1 g1a HLI
                    have g1 : wc.cell? ⟨w2.heap.size, m - 1, none⟩ = some (.string (ks (m - 1))) := by rw [(unhide HL).wn.cell]; exact unhide HCS (m - 1) (by omega)
                    have g1a : ∀ o, (wc.alloc o).cell? ⟨w2.heap.size, m - 1, none⟩ = some (.string (ks (m - 1))) := fun o => by rw [((unhide HL).wn.alloc o).cell]; exact unhide HCS (m - 1) (by omega)
                    have a1 := add_hash (ks (m - 1)) (unhide HKZ _ (by omega))
                    have a2 := add_num (ks (m - 1)) y (unhide HKZ _ (by omega)) y0 y1
                    go_upto_region 33 with fail
                    go_cut [18] (fun v wx => ∃ g, v = .pointer (some ⟨g, 0, none⟩) ∧ Blk wx g #[.int .i64 ((m : Int) - 1), .string (slotKey (ks (m - 1)) y), .bool true] 27 ∧ Blk wx g17 #[.int .i64 ((m : Int) - 1), .string (slotKey (ks (m - 1)) x), .bool true] 27 ∧ Li w' w2.heap.size cs ga gb ks m m x y wx)
                    case first =>
                      go_region_with (first
                        | (go_at_call 7; refine (itoa_own y y0 y1 _).mono ?_; rintro e wk ⟨rfl, hbk⟩
                           have hbw : Bel wc.heap.size wc wk := (by first | exact Bel.then (Bel.refl _ _) hbk | exact Bel.then (Bel.refl _ _).drew hbk | exact Bel.then ((Bel.refl _ _).alloc (Nat.le_refl _) _) hbk | exact Bel.then ((Bel.refl _ _).alloc (Nat.le_refl _) _).drew hbk | exact Bel.then ((Bel.refl _ _).drew.alloc (Nat.le_refl _) _) hbk)
                           have hlk := Li.step hbw (unhide HL)
                           have g1k : wk.cell? ⟨w2.heap.size, m - 1, none⟩ = some (.string (ks (m - 1))) := (by rw [hlk.wn.cell]; exact unhide HCS (m - 1) (by omega))
                           have g1b : ∀ o, (wk.alloc o).cell? ⟨w2.heap.size, m - 1, none⟩ = some (.string (ks (m - 1))) := fun o => (by rw [(hlk.wn.alloc o).cell]; exact unhide HCS (m - 1) (by omega))
                           first
                             | (have hz := blk_zero1 hbk; obtain ⟨z0, z1, z2⟩ := hz.three; have f0 := hz.frozen 0; have f1 := hz.frozen 1; have f2 := hz.frozen 2)
                             | (have hz := blk_zero2 hbk; obtain ⟨z0, z1, z2⟩ := hz.three; have f0 := hz.frozen 0; have f1 := hz.frozen 1; have f2 := hz.frozen 2)
                             | skip))
                      all_goals go_wp2
                      all_goals go_meet
                      all_goals (case rel =>
                        first
                          | exact ⟨_, rfl, hz.put3 _ _ _, (unhide HB17).bel (hbw.put3 (Nat.le_refl _) _ _ _) (unhide HB17).lt, Li.step (hbw.put3 (Nat.le_refl _) _ _ _) (unhide HL)⟩
                          | exact ⟨_, rfl, Blk.new wk _ _, (unhide HB17).bel (hbw.alloc hbw.size _) (unhide HB17).lt, Li.step (hbw.alloc hbw.size _) (unhide HL)⟩
                          | exact ⟨_, rfl, Blk.new wk _ _, (unhide HB17).bel (hbw.alloc hbw.size _).drew (unhide HB17).lt, Li.step (hbw.alloc hbw.size _).drew (unhide HL)⟩)
                    case rest =>
                      obtain ⟨g18, rfl, hb18, hb17, hli⟩ := hcut
                      obtain ⟨n0, n1, n2⟩ := hb17.three
                      obtain ⟨o0, o1, o2⟩ := hb18.three
                      obtain ⟨p0, p1, p2⟩ := hli.ha.ex
                      obtain ⟨q0, q1, q2⟩ := hli.hb.ex
                      have s1 := hold_same ((m : Int) - 1) (slotKey (ks (m - 1)) x) true
                      have s2 := hold_same ((m : Int) - 1) (slotKey (ks (m - 1)) y) true
                      have HBEL := hide hli.bel
                      have hkk := slotKey_eq (ks (m - 1)) x y
                      clear hli hb17 hb18 HB17 HL g1 g1a a1 a2
                      go_wp2_with fail
                      go_quiet (fail)
                      go_wp2_with fail
                      go_quiet (fail)
                      go_wp2
                      go_ret
                      exact ⟨rfl, by first | exact ((unhide HBEL).drewN _).drewN _ | exact (unhide HBEL).drewN _⟩

set_option maxRecDepth 100000 in
set_option maxHeartbeats 1000000 in
theorem apart_nil (c : Nat) (x y : Int) (ks : Nat → ByteArray) (w : World) (hqm : ∀ i, (ks i).size ≤ maxLen) :
    Calls Tryd.prog 3 #[.slice none 0 c, .int .i64 x, .int .i64 y] w fun e w' => e = .returned (.bool true) ∧ Bel w.heap.size w w' := by
  have HQM := hide hqm
  clear hqm
  go_enter Tryd.func3, Tryd.ntmps3
  go_wp2_with fail
  refine (bytes_one none 0 c x y ks _ (fun h => absurd h (Nat.lt_irrefl _)) (Nat.zero_le _) (unhide HQM)).mono ?_
  rintro e w' ⟨bb, rfl, rfl, hby⟩
  clear hby
  cases bb with
  | false =>
    go_wp2
    go_ret
    exact ⟨rfl, Bel.refl _ _⟩
  | true =>
    go_wp2
    go_loop [8, 9] (fun z i => z = .int .i64 0 ∧ i = .int .i64 0) (fun _ _ => 0)
    case atStart => exact ⟨rfl, rfl⟩
    case round =>
      obtain ⟨rfl, rfl⟩ := hrel
      go_wp2
      go_ret
      exact ⟨rfl, Bel.refl _ _⟩

theorem apart_walk (a : Option Addr) (l c : Nat) (x y : Int) (ks : Nat → ByteArray) (w : World) (hr : Rd w a l (fun i => .string (ks i))) (hlm : l ≤ maxLen) (hqm : ∀ i, (ks i).size ≤ maxLen)
    (x0 : -9223372036854775808 ≤ x) (x1 : x ≤ 9223372036854775807) (y0 : -9223372036854775808 ≤ y) (y1 : y ≤ 9223372036854775807) (ht : Tab w) :
    Calls Tryd.prog 3 #[.slice a l c, .int .i64 x, .int .i64 y] w fun e w' => e = .returned (.bool true) ∧ Bel w.heap.size w w' := by
  cases a with
  | none =>
    obtain rfl : l = 0 := by
      rcases Nat.eq_zero_or_pos l with h | h
      · exact h
      · obtain ⟨_, _, ha, _⟩ := hr h
        cases ha
    exact apart_nil c x y ks w hqm
  | some ad => exact apart_some ad l c x y ks w hr hlm hqm x0 x1 y0 y1 ht

end Go.Proofs.Qxb6632449aDoor
