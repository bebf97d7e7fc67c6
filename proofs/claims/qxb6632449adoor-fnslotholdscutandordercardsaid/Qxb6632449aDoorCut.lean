import Derived.Test.Qxb6632449aDoorFront
namespace Go.Proofs.Qxb6632449aDoor
open Go.RowKit
set_option linter.unusedVariables false

theorem Rd.less {w : World} {a : Option Addr} {l q : Nat} {f : Nat → Value} (h : Rd w a l f) (hq : q ≤ l) : Rd w a q f := fun h0 => by
  obtain ⟨b, off, ha, hlt, hc⟩ := h (by omega)
  exact ⟨b, off, ha, hlt, fun i hi => hc i (by omega)⟩

theorem less_slot (key : ByteArray) (x : Int) (hk : key.size ≤ 1048576) (h0 : -9223372036854775808 ≤ x) (h1 : x ≤ 9223372036854775807) (w : World) :
    Calls Tryd.prog 9 #[.string key, .string (slotKey key x)] w fun e w' => e = .returned (.bool true) ∧ Bel w.heap.size w w' := by
  have hd : (slotKey key x).data.toList = key.data.toList ++ (35 :: Lib.itoa x) := slotKey_data key x
  have hs : (slotKey key x).size = key.size + (1 + (Lib.itoa x).length) := by
    have := congrArg List.length hd
    simp only [List.length_append, List.length_cons, Array.length_toList] at this
    show (slotKey key x).data.size = key.data.size + _
    omega
  have hi := Lib.itoa_length_le x h0 h1
  refine less_walk key (slotKey key x) hk (by omega) (by omega) (fun i hi' => ?_) w
  rw [← Array.getElem?_toList, hd, List.getElem?_append_left (by simpa using hi')]
  simp

theorem index_at (g m q : Nat) (h1 : 1 ≤ q) (h2 : q ≤ m) (c : Nat) (W : World) : (Instr.indexAt 22 (.slice (some ⟨g, 0, none⟩) m c) (.int .i64 ((q : Int) - 1))).run Tryd.prog W = .ok (.pointer (some ⟨g, q - 1, none⟩)) W := by
  have e2 : Tryd.prog.elem 22 = 9 := by kernel_rfl
  have e3 : (sizeOf 9).run Tryd.prog W = .ok 1 W := by kernel_rfl
  rw [run_indexAt_slice W 22 ⟨g, 0, none⟩ m c .i64 _ (by rw [e2]; exact Tryd.underlying22), if_pos (by omega), e2, e3]
  simp only [Result.andThen]
  rw [Lib.add_plain]
  congr 4
  omega

set_option maxRecDepth 100000 in
set_option maxHeartbeats 4000000 in
theorem cut_some (ad : Addr) (l c : Nat) (x cu : Int) (ks : Nat → ByteArray) (w : World) (hr : Rd w (some ad) l (fun i => .string (ks i))) (hlm : l ≤ maxLen) (hqm : ∀ i, (ks i).size ≤ maxLen)
    (x0 : -9223372036854775808 ≤ x) (x1 : x ≤ 9223372036854775807) (ht : Tab w) :
    Calls Tryd.prog 4 #[.slice (some ad) l c, .int .i64 x, .int .i64 cu] w fun e w' => e = .returned (.bool true) ∧ Bel w.heap.size w w' := by
  have HR := hide hr
  have HT := hide ht
  have HQM := hide hqm
  obtain ⟨i9, hi, hz, hs, hb⟩ := info_parts Tryd.info9
  clear hr ht hqm
  go_enter Tryd.func4, Tryd.ntmps4
  go_wp2_with fail
  refine (bytes_two (some ad) l c x cu ks _ (unhide HR) hlm (unhide HQM)).mono ?_
  rintro e w' ⟨bb, rfl, rfl, hby⟩
  cases bb with
  | false =>
    clear hby
    go_wp2
    go_ret
    exact ⟨rfl, Bel.refl _ _⟩
  | true =>
    obtain ⟨hl, hkz⟩ := hby rfl
    have HKZ := hide hkz
    clear hby hkz
    go_wp2_with (first | (at_make; refine wpList_make_full _ rfl _ _ 22 rfl w'.heap.size 9 i9 (.string ⟨#[]⟩) 1 Tryd.underlying22 hi hz hs _ _ _ _ l rfl rfl (by omega) (by omega) ?b1 ?b2 (Nat.le_refl _) ?_))
    case b1 => rw [hb]; omega
    case b2 => unfold maxLen; omega
    intro w1 hown hgrow
    have hbl : Below w'.heap.size w' w1 := (Below.refl _ _).grown hgrow (Nat.le_refl _) (fun k h => by cases h)
    have hblk := own_full hown
    have hlen : (madeCells #[Value.string ⟨#[]⟩] l).toList.length = l := by have := hown.1; omega
    have hsrc := rd_src ((unhide HR).bel (Bel.of hbl))
    have HBK := hide hblk
    have HBL := hide hbl
    have HSRC := hide hsrc
    have HLEN := hide hlen
    clear hown hgrow hbl hblk hsrc hlen
    go_wp2_with (first | (refine wpList_copy_splice rfl (.tmp 32) (.tmp 33) 22 22 rfl 9 Tryd.underlying22 (by rw [hi]; simp [hs]) (some ⟨w'.heap.size, 0, none⟩) (some ad) l l l c rfl rfl w'.heap.size 0 _ 9 (unhide HBK) (strs ks l) ?e1 ?e2 ?e3 (strs_one ks l) w'.heap.size w' (unhide HBL) (Nat.le_refl _) ?_))
    case e1 => rw [strs_len]; simp
    case e2 => intro h; rw [strs_len] at h; exact unhide HSRC h
    case e3 => rw [strs_len]; have := unhide HLEN; omega
    intro w2 hcp hb2
    have hcp2 := unhide hcp
    rw [splice_all _ _ (by rw [unhide HLEN, strs_len])] at hcp2
    have HC2 : Hid (Blk w2 w'.heap.size (strs ks l).toArray 9) := hcp2
    have HB2 := hide hb2
    clear hcp hcp2 hb2
    have HR2 : Hid (Rd w2 (some ⟨w'.heap.size, 0, none⟩) l (fun i => .string (ks i))) := blk_rd (unhide HC2)
    have HBC : Hid (Bel w'.heap.size w' w2) := Bel.of (unhide HB2)
    clear HC2 HB2 HBK HBL HSRC HLEN
    go_wp2
    go_loop [8, 9] (fun z i => ∃ k n : Nat, k ≤ l ∧ n ≤ 1048576 ∧ i = .int .i64 k ∧ z = .int .i64 n) (fun _ i => l - (intOf i).toNat)
    case atStart => exact ⟨0, 0, Nat.zero_le _, by omega, rfl, rfl⟩
    case round =>
      obtain ⟨k, n, hk, hn, rfl, rfl⟩ := hrel
      by_cases hlt : k < l
      · have g1 := (rd0 (unhide HR2) hlt).2
        have g2 := unhide HKZ k hlt
        generalize ks k = s at g1 g2
        clear hlm
        by_cases hbig : 1048576 < n + (s.size + 16)
        · have tb : decide ((1048576 : Int) < (n : Int) + ((s.size : Int) + 16)) = true := by simp; omega
          go_upto_if 51 with fail
          go_wp2
          go_ret
          exact ⟨rfl, unhide HBC⟩
        · have tb : decide ((1048576 : Int) < (n : Int) + ((s.size : Int) + 16)) = false := by simp; omega
          go_upto_if 51 with fail
          go_wp2
          go_round
          case rel => exact ⟨k + 1, n + (s.size + 16), by omega, by omega, by go_num, by go_num⟩
          case measure => simp [intOf]; omega
      · obtain rfl : k = l := by omega
        by_cases hl0 : k = 0
        · subst hl0
          go_wp2
          go_ret
          exact ⟨rfl, unhide HBC⟩
        · have te : ((k : Int) == 0) = false := by simp; omega
          by_cases hc1 : cu < 1
          · have t1 : decide (cu < 1) = true := by simpa using hc1
            go_wp2
            go_ret
            exact ⟨rfl, unhide HBC⟩
          have t1 : decide (cu < 1) = false := by simpa using hc1
          by_cases hc2 : (k : Int) < cu
          · have t2 : decide ((k : Int) < cu) = true := by simpa using hc2
            go_wp2
            go_ret
            exact ⟨rfl, unhide HBC⟩
          have t2 : decide ((k : Int) < cu) = false := by simpa using hc2
          obtain ⟨q, rfl⟩ : ∃ q : Nat, cu = q := ⟨cu.toNat, by omega⟩
          have hq1 : 1 ≤ q := by omega
          have hqk : q ≤ k := by omega
          clear hc1 hc2
          go_wp2_with (first | (at_make; refine wpList_make_full _ rfl _ _ 22 rfl w2.heap.size 9 i9 (.string ⟨#[]⟩) 1 Tryd.underlying22 hi hz hs _ _ _ _ k rfl rfl (by omega) (by omega) (by first | omega | (rw [hb]; omega)) (by first | omega | (unfold maxLen; omega)) (Nat.le_refl _) ?_))
          intro w3 hown hgrow
          have hbl : Bel w2.heap.size w2 w3 := Bel.of ((Below.refl _ _).grown hgrow (Nat.le_refl _) (fun k h => by cases h))
          have hwn : Wn w2 ks k 0 (madeCells #[Value.string ⟨#[]⟩] k).toList.toArray w3 := ⟨own_full hown, by have := hown.1; simpa using this, fun t h => by omega, hbl⟩
          have HWN := hide hwn
          clear hown hgrow hbl hwn
          go_wp2
          go_loopw [12] (fun i wr => ∃ (j : Nat) (cs : Array Value), j ≤ k ∧ i = .int .i64 j ∧ Wn w2 ks k j cs wr) (fun i _ => k - (intOf i).toNat)
          case atStart => exact ⟨0, _, Nat.zero_le _, rfl, unhide HWN⟩
          case round =>
            obtain ⟨j, cs, hj, rfl, hw⟩ := hrel
            by_cases hjl : j < k
            · have g1 : wr.cell? ⟨w'.heap.size, j, none⟩ = some (.string (ks j)) := (hw.bel.cell (p := ⟨w'.heap.size, j, none⟩) (rd0 (unhide HR2) hjl).1).trans (rd0 (unhide HR2) hjl).2
              obtain ⟨v0, g2⟩ : ∃ v, wr.cell? ⟨w2.heap.size, j, none⟩ = some v := by
                rw [hw.blk.cell]; exact ⟨_, Array.getElem?_eq_getElem (by rw [hw.size]; exact hjl)⟩
              have g3 := hw.blk.frozen j
              have HN := hide (hw.next hjl)
              clear hw
              go_wp2
              go_roundw
              case rel => exact ⟨j + 1, _, by omega, by go_num, unhide HN⟩
              case measure => simp [intOf]; omega
            · obtain rfl : j = k := by omega
              have HW := hide hw
              clear hw HWN
              go_wp2_with fail
              refine (slotHolds_any _ j j x ks wr ((unhide HR2).bel (unhide HW).bel) (by omega) hl (unhide HKZ) x0 x1 ((unhide HT).bel ((unhide HBC).then (unhide HW).bel))).mono ?_
              rintro e w4 ⟨ga, capa, rfl, hb4, hsa⟩
              have HB4 := hide hb4
              have HSA := hide hsa
              clear hb4 hsa
              go_wp2_with fail
              refine (slotHolds_any _ q _ x ks w4 (((unhide HR2).bel ((unhide HW).bel.then (unhide HB4))).less hqk) hq1 (by omega) (fun t ht => unhide HKZ t (by omega)) x0 x1 ((unhide HT).bel (((unhide HBC).then (unhide HW).bel).then (unhide HB4)))).mono ?_
              rintro e w5 ⟨gb, capb, rfl, hb5, hsb⟩
              have hli : Li w' w2.heap.size cs ga gb ks j q x x w5 := ⟨((unhide HW).blk.bel (unhide HB4) (unhide HW).blk.lt).bel hb5 (((unhide HW).blk.bel (unhide HB4) (unhide HW).blk.lt).lt), (unhide HSA).bel hb5, hsb, (((unhide HBC).then (unhide HW).bel).then (unhide HB4)).then hb5⟩
              have HLI := hide hli
              have HCS := hide (unhide HW).at_
              clear hb5 hsb hli HB4 HSA HW
              go_wp2
              go_loopw [15] (fun i wr => ∃ m : Nat, m ≤ q ∧ i = .int .i64 m ∧ Li w' w2.heap.size cs ga gb ks j q x x wr) (fun i _ => q - (intOf i).toNat)
              case atStart => exact ⟨0, Nat.zero_le _, rfl, unhide HLI⟩
              case round =>
                obtain ⟨m, hm, rfl, hli⟩ := hrel
                have HL := hide hli
                by_cases hmj : m < q
                · have g1 : wr.cell? ⟨w2.heap.size, m, none⟩ = some (.string (ks m)) := by rw [hli.wn.cell]; exact unhide HCS m (by omega)
                  clear hli
                  have HN := hide (Blk.new wr #[.int .i64 (m : Int), .string (ks m), .bool false] 27)
                  have HL2 := hide (Li.step ((Bel.refl _ _).alloc (Nat.le_refl _) (.cells #[.int .i64 (m : Int), .string (ks m), .bool false] 27)) (unhide HL))
                  go_wp2_with fail
                  generalize wr.alloc (.cells #[.int .i64 (m : Int), .string (ks m), .bool false] 27) = w6 at HN HL2
                  generalize wr.heap.size = gn at HN
                  obtain ⟨n0, n1, n2⟩ := (unhide HN).three
                  obtain ⟨p0, p1, p2⟩ := (unhide HL2).ha.sh m (by omega)
                  obtain ⟨q0, q1, q2⟩ := (unhide HL2).hb.sh m hmj
                  have hsame := hold_same (m : Int) (ks m) false
                  clear HN HL g1
                  go_quiet (fail)
                  go_wp2
                  go_roundw
                  case rel => exact ⟨m + 1, by omega, by go_num, Li.step ((Bel.refl _ _).drewN _) (unhide HL2)⟩
                  case measure => simp [intOf]; omega
                · obtain rfl : m = q := by omega
                  clear hli hmj
                  have hmq := hq1
                  have g1 : wr.cell? ⟨w2.heap.size, m - 1, none⟩ = some (.string (ks (m - 1))) := by rw [(unhide HL).wn.cell]; exact unhide HCS (m - 1) (by omega)
                  have g1a : ∀ o, (wr.alloc o).cell? ⟨w2.heap.size, m - 1, none⟩ = some (.string (ks (m - 1))) := fun o => by rw [((unhide HL).wn.alloc o).cell]; exact unhide HCS (m - 1) (by omega)
                  have a1 := add_hash (ks (m - 1)) (unhide HKZ _ (by omega))
                  have a2 := add_num (ks (m - 1)) x (unhide HKZ _ (by omega)) x0 x1
                  have hix := index_at w2.heap.size j m hq1 hqk j
                  have hwr := wrap_last m hq1 (by omega)
                  go_upto_region 34 with fail
                  go_cut [17] (fun v wx => ∃ g, v = .pointer (some ⟨g, 0, none⟩) ∧ Blk wx g #[.int .i64 ((m : Int) - 1), .string (slotKey (ks (m - 1)) x), .bool true] 27 ∧ Li w' w2.heap.size cs ga gb ks j m x x wx)
                  case first =>
                    go_region_with (first
                      | (go_at_call 7; refine (itoa_own x x0 x1 _).mono ?_; rintro e wk ⟨rfl, hbk⟩
                         have hbw : Bel wr.heap.size wr wk := (by first | exact Bel.then (Bel.refl _ _) hbk | exact Bel.then (Bel.refl _ _).drew hbk | exact Bel.then ((Bel.refl _ _).alloc (Nat.le_refl _) _) hbk | exact Bel.then ((Bel.refl _ _).alloc (Nat.le_refl _) _).drew hbk | exact Bel.then ((Bel.refl _ _).drew.alloc (Nat.le_refl _) _) hbk)
                         have hlk := Li.step hbw (unhide HL)
                         have g1k : wk.cell? ⟨w2.heap.size, m - 1, none⟩ = some (.string (ks (m - 1))) := (by rw [hlk.wn.cell]; exact unhide HCS (m - 1) (by omega))
                         have g1b : ∀ o, (wk.alloc o).cell? ⟨w2.heap.size, m - 1, none⟩ = some (.string (ks (m - 1))) := fun o => (by rw [(hlk.wn.alloc o).cell]; exact unhide HCS (m - 1) (by omega))
                         first
                           | (have hz := blk_zero1 hbk; obtain ⟨z0, z1, z2⟩ := hz.three; have f0 := hz.frozen 0; have f1 := hz.frozen 1; have f2 := hz.frozen 2)
                           | (have hz := blk_zero2 hbk; obtain ⟨z0, z1, z2⟩ := hz.three; have f0 := hz.frozen 0; have f1 := hz.frozen 1; have f2 := hz.frozen 2)
                           | skip))
                    all_goals go_wp2
                    all_goals go_meet
                    all_goals (case rel =>
                      first
                        | exact ⟨_, rfl, hz.put3 _ _ _, Li.step (hbw.put3 (Nat.le_refl _) _ _ _) (unhide HL)⟩
                        | exact ⟨_, rfl, Blk.new wk _ _, Li.step (hbw.alloc hbw.size _) (unhide HL)⟩
                        | exact ⟨_, rfl, Blk.new wk _ _, Li.step (hbw.alloc hbw.size _).drew (unhide HL)⟩)
                  case rest =>
                    obtain ⟨g17, rfl, hb17, hli⟩ := hcut
                    obtain ⟨n0, n1, n2⟩ := hb17.three
                    obtain ⟨e0, e1, e2⟩ := hli.hb.ex
                    have s1 := hold_same ((m : Int) - 1) (slotKey (ks (m - 1)) x) true
                    have HL := hide hli
                    clear hli hb17 g1 g1a a1 a2 hix hwr HLI
                    go_wp2_with fail
                    go_quiet (fail)
                    clear n0 n1 n2 e0 e1 e2 s1
                    go_wp2
                    go_loopw [18] (fun i wr => ∃ t : Nat, t ≤ j ∧ i = .int .i64 ((t : Int) + 1) ∧ Li w' w2.heap.size cs ga gb ks j m x x wr) (fun i _ => j + 1 - (intOf i).toNat)
                    case atStart => exact ⟨0, Nat.zero_le _, rfl, Li.step ((Bel.refl _ _).drewN _) (unhide HL)⟩
                    case round =>
                      obtain ⟨t, ht, rfl, hli⟩ := hrel
                      have HLT := hide hli
                      by_cases htj : t < j
                      · obtain ⟨p0, p1, p2⟩ := hli.ha.sh t htj
                        have hga := hli.ha.lt
                        have t3 : decide ((t : Int) + 1 ≤ (j : Int)) = true := by simp; omega
                        by_cases hlast : t + 1 < j
                        · obtain ⟨r0, r1, r2⟩ := hli.ha.sh (t + 1) hlast
                          clear hli
                          go_wp2
                          go_roundw
                          case rel => exact ⟨t + 1, by omega, by go_num, Li.step (((Bel.refl _ _).alloc (Nat.le_refl _) _).alloc (by simp) _) (unhide HLT)⟩
                          case measure => simp [intOf]; omega
                        · have hjt : j = t + 1 := by omega
                          obtain ⟨r0, r1, r2⟩ := hli.ha.ex
                          rw [hjt, show (((t + 1 : Nat) : Int) - 1) = (t : Int) by omega] at r0
                          rw [hjt, Nat.add_sub_cancel] at r1
                          rw [hjt] at r2
                          have HJT := hide hjt
                          clear hli hjt
                          go_wp2_with fail
                          refine (less_slot (ks t) x (unhide HKZ t htj) x0 x1 _).mono ?_
                          rintro e w7 ⟨rfl, hb7⟩
                          have HN := hide (Li.step hb7 (Li.step (((Bel.refl _ _).alloc (Nat.le_refl _) _).alloc (by simp) _) (unhide HLT)))
                          clear hb7
                          go_wp2
                          go_roundw
                          case rel => exact ⟨t + 1, by omega, by go_num, unhide HN⟩
                          case measure => simp [intOf]; omega
                      · obtain rfl : t = j := by omega
                        have t3 : decide ((t : Int) + 1 ≤ (t : Int)) = false := by simp; omega
                        clear hli
                        go_wp2
                        go_loopw [21] (fun i wr => ∃ k : Nat, k ≤ t + 1 ∧ i = .int .i64 k ∧ Li w' w2.heap.size cs ga gb ks t m x x wr) (fun i _ => t + 2 - (intOf i).toNat)
                        case atStart => exact ⟨0, Nat.zero_le _, rfl, unhide HLT⟩
                        case round =>
                          obtain ⟨k, hk, rfl, hli⟩ := hrel
                          have HLK := hide hli
                          by_cases hkt : k < t
                          · obtain ⟨p0, p1, p2⟩ := hli.ha.sh k hkt
                            have t4 : decide ((k : Int) ≤ (t : Int)) = true := by simp; omega
                            have t5 : ((k : Int) == (t : Int)) = false := by simp; omega
                            clear hli
                            go_wp2
                            go_roundw
                            case rel => exact ⟨k + 1, by omega, by go_num, unhide HLK⟩
                            case measure => simp [intOf]; omega
                          · by_cases hke : k = t
                            · subst hke
                              obtain ⟨p0, p1, p2⟩ := hli.ha.ex
                              clear hli
                              go_wp2
                              go_roundw
                              case rel => exact ⟨k + 1, by omega, by go_num, unhide HLK⟩
                              case measure => simp [intOf]
                            · obtain rfl : k = t + 1 := by omega
                              have t4 : decide (((t + 1 : Nat) : Int) ≤ (t : Int)) = false := by simp; omega
                              have HB := hide hli.bel
                              clear hli
                              go_wp2
                              go_ret
                              exact ⟨rfl, unhide HB⟩

end Go.Proofs.Qxb6632449aDoor
