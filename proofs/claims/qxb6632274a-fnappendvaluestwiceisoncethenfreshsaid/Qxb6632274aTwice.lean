import Derived.Test.Qxb6632274aSplit
namespace Go.Proofs.Qxb6632274a
open Go.RowKit

theorem getD_rep (n j : Nat) : (List.replicate n (0 : Int)).getD j 0 = 0 := by
  simp only [List.getD, List.getElem?_replicate]
  split <;> rfl

/-- A full slice that was appended to has moved into a row of its own. -/
theorem own_of_onto {W : World} {ao : Option Addr} {b off len : Nat} {olds : List Value} {w : World} {v : Value} {m : Nat} {ks : List Value} (hm : 0 < m)
    (h : Onto W 3 1 ao b off len len olds w v m ks) : ∃ g cap, v = .slice (some ⟨g, 0, none⟩) (len + m) cap ∧ W.heap.size ≤ g ∧ cap ≤ maxLen ∧ w.ownsRow W.heap.size 3 1 (.slice (some ⟨g, 0, none⟩) (len + m) cap) (len + m) (olds ++ ks) := by
  rcases h.val with ⟨h1, _⟩ | ⟨_, ho⟩
  · omega
  · have ho' := ho
    rcases ho.2 with ⟨_, h0⟩ | ⟨g, cap, cur, rfl, hb, _, _, hcm, _⟩
    · omega
    · exact ⟨g, cap, rfl, hb, hcm, ho'⟩

/-- Below the block that was appended to nothing has turned. -/
theorem Bel.ofOntoRow {W : World} {ao : Option Addr} {g len cap : Nat} {olds : List Value} {w : World} {v : Value} {m : Nat} {ks : List Value} (hg : g < W.heap.size)
    (h : Onto W 3 1 ao g 0 len cap olds w v m ks) : Bel g W w :=
  ⟨h.kept.1, h.kept.2.1, h.kept.size, fun k hk => block_ofKept h.kept k (by omega) (fun j ⟨_, _, _, e⟩ => by simp at e; omega) (fun ⟨_, _, _, e⟩ => by simp at e)⟩

set_option maxRecDepth 100000 in
set_option maxHeartbeats 1000000 in
theorem twice_small (a0 : Option Addr) (len0 cap0 : Nat) (z0 : List Int) (w : World)
    (r0 : Rd w a0 len0 z0) (n0 : a0 = none → len0 = 0 ∧ cap0 = 0) (h0 : len0 ≤ 65536) :
    Calls Try.prog 4 #[.slice a0 len0 cap0] w fun e w' => e = .returned (.bool true) ∧ Bel w.heap.size w w' := by
  have N0 := hide n0
  have R0 := hide r0
  clear n0 r0
  go_enter Try.func4, Try.ntmps4
  go_wp2_with fail
  refine (bytes1 a0 len0 cap0 _ (by unfold maxLen; omega)).mono ?_
  rintro e w' ⟨bb, rfl, rfl⟩
  cases bb
  · go_wp2
    go_ret
    exact ⟨rfl, Bel.refl _ _⟩
  go_wp2_with fail
  refine (clone_any a0 len0 cap0 z0 _ (unhide R0) (unhide N0) (by omega)).mono ?_
  rintro e w1 ⟨ao0, b0, off0, rfl, hc1, hb1, hx0⟩
  have HC1 := hide hc1
  have HB1 := hide hb1
  clear hc1 hb1 hx0
  go_wp2_with fail
  refine (zzAppendValues_any none 0 0 0 0 [] _ (Came_nil _ _ _) (by omega)).mono ?_
  rintro e w2 ⟨v0, rfl, ho0⟩
  have hb12 := Bel.ofOnto ho0
  obtain ⟨g0, c0, rfl, hg0, hm0, hown0⟩ := own_of_onto (by omega) ho0
  have hlt0 := (hown0.lt g0 rfl).2
  have hx : ∀ j, j < 0 + 1000 → w2.cell? ⟨g0, j, none⟩ = some (.int .i64 0) := fun j hj => by
    rw [hown0.cellAt j (by omega), List.nil_append, zeros_get _ _ (by omega)]
  have HX := hide hx
  have HC2 := hide (Came_bel (unhide HC1) hb12)
  have HB2 := hide ((unhide HB1).trans (hb12.mono (unhide HB1).size))
  clear hx ho0 hb12 hown0 HC1 HB1
  have ht1 : (((0 + 1000 : Nat) : Int) != 1000) = false := by simp
  go_wp2_with fail
  go_loop [5] (fun i => ∃ k : Nat, k ≤ 1000 ∧ i = .int .i64 k) (fun i => 1000 - (intOf i).toNat)
  case atStart => exact ⟨0, Nat.zero_le _, rfl⟩
  case round =>
    obtain ⟨k, hk, rfl⟩ := hrel
    by_cases hlt : k < 1000
    · have g1 := unhide HX k (by omega)
      go_wp2
      go_round
      case rel => exact ⟨k + 1, by omega, by go_num⟩
      case measure => simp [intOf]; omega
    · go_wp2_with fail
      refine (zzAppendValues_any _ _ _ _ _ _ _ (unhide HC2) (by omega)).mono ?_
      rintro e w3 ⟨v1, rfl, ho1⟩
      have hb23 := Bel.ofOnto ho1
      obtain ⟨g1, c1, rfl, hg1, hm1, hown1⟩ := own_of_onto (by omega) ho1
      have hlt1 := (hown1.lt g1 rfl).2
      have HO1 := hide hown1
      have HB23 := hide hb23
      clear ho1 hb23 hown1
      go_wp2_with fail
      refine (zzAppendValues_any _ _ _ _ _ _ _ (Came_own (unhide HO1)) (by omega)).mono ?_
      rintro e w4 ⟨v2, rfl, ho2⟩
      have hb34 : Bel w2.heap.size w3 w4 := (Bel.ofOntoRow hlt1 ho2).mono hg1
      have hb24 : Bel w2.heap.size w2 w4 := (unhide HB23).trans hb34
      have hb4 : Bel w'.heap.size w' w4 := (unhide HB2).trans (hb24.mono (unhide HB2).size)
      have hx0 : ∀ j, j < 1000 → w4.cell? ⟨g0, j, none⟩ = some (.int .i64 0) := fun j hj => (hb24.cell (p := ⟨g0, j, none⟩) hlt0).trans (unhide HX j (by omega))
      obtain ⟨f1, hf1, hf11, hf12⟩ := cells_fun (g := g1) (o := 0) (w := w3) (unhide R0).1 (fun j hj => by rw [Nat.zero_add]; exact (unhide HO1).cellAt j hj)
      have hx1 : ∀ j, j < len0 + 1000 → w4.cell? ⟨g1, j, none⟩ = some (.int .i64 (f1 j)) := fun j hj => by
        rw [ho2.old hlt1 (fun j' _ _ ⟨_, e⟩ => by omega)]
        have := hf1 j hj
        rwa [Nat.zero_add] at this
      obtain ⟨g2, o2, c2, rfl, hcl1, hcl2, hc2⟩ := ho2.value (Came_own (unhide HO1)) hm1 (.inr (by omega))
      have ez : vals z0 ++ zeros 1000 = vals (z0 ++ List.replicate 1000 0) := by simp [vals, zeros]
      rw [ez] at hc2
      obtain ⟨f2, hf2, hf21, hf22⟩ := cells_fun (by rw [List.length_append, (unhide R0).1, List.length_replicate]) hc2
      have h12 : ∀ j, j < len0 + 1000 → f2 j = f1 j := fun j hj => by
        rw [hf21 j hj]
        by_cases hj0 : j < len0
        · rw [hf11 j hj0, getD_app_left _ _ _ (by rw [(unhide R0).1]; exact hj0)]
        · rw [hf12 j (by omega), getD_app_right _ _ _ (by rw [(unhide R0).1]; omega), getD_rep]
      have hA : Rd w4 a0 len0 z0 := (unhide R0).bel hb4
      have HA := hide hA
      have H4 := hide hb4
      have HX0 := hide hx0
      have HX1 := hide hx1
      have HX2 := hide hf2
      have F1 := hide hf11
      have F2 := hide hf12
      have F3 := hide h12
      have F4 := hide hf22
      clear hA hb4 hx0 hx1 hf2 hf11 hf12 h12 hf22 hf1 hf21 hc2 ho2 hb34 hb24 HO1 HB23 HB2 HX HC2 ez
      have ht2 : (((len0 + 1000 : Nat) : Int) != (len0 : Int) + 1000) = false := by simp
      go_wp2
      go_loopw [8] (fun i wr => ∃ k q : Nat, k ≤ len0 ∧ i = .int .i64 k ∧ wr = w4.drewN q) (fun i _ => len0 - (intOf i).toNat)
      case atStart => exact ⟨0, 0, Nat.zero_le _, rfl, rfl⟩
      case round =>
        obtain ⟨k2, q2, hk2, rfl, rfl⟩ := hrel
        by_cases hlt2 : k2 < len0
        · obtain ⟨b, off, ha, hbl, hc⟩ := (unhide HA).2 (by omega)
          subst ha
          have g1' := hc k2 hlt2
          have g2' := unhide HX1 k2 (by omega)
          rw [unhide F1 k2 hlt2] at g2'
          generalize z0.getD k2 0 = z at g1' g2'
          clear hc
          go_wp2
          go_quiet (fail)
          go_wp2
          go_roundw
          case rel => exact ⟨k2 + 1, _, by omega, by go_num, rfl⟩
          case measure => simp [intOf]; omega
        · go_wp2
          go_loopw [9] (fun i wr => ∃ k q : Nat, k ≤ 1000 ∧ i = .int .i64 k ∧ wr = w4.drewN q) (fun i _ => 1000 - (intOf i).toNat)
          case atStart => exact ⟨0, _, Nat.zero_le _, rfl, rfl⟩
          case round =>
            obtain ⟨k3, q3, hk3, rfl, rfl⟩ := hrel
            by_cases hlt3 : k3 < 1000
            · have g1' := unhide HX0 k3 hlt3
              have g2' := unhide HX1 (len0 + k3) (by omega)
              rw [unhide F2 (len0 + k3) (by omega)] at g2'
              go_wp2
              go_quiet (fail)
              go_wp2
              go_roundw
              case rel => exact ⟨k3 + 1, _, by omega, by go_num, rfl⟩
              case measure => simp [intOf]; omega
            · have ht3 : (((len0 + 1000 + 1000 : Nat) : Int) != (len0 : Int) + 1000 + 1000) = false := by simp
              go_wp2
              go_loopw [10] (fun i wr => ∃ k q : Nat, k ≤ len0 + 1000 ∧ i = .int .i64 k ∧ wr = w4.drewN q) (fun i _ => len0 + 1000 - (intOf i).toNat)
              case atStart => exact ⟨0, _, Nat.zero_le _, rfl, rfl⟩
              case round =>
                obtain ⟨k4, q4, hk4, rfl, rfl⟩ := hrel
                by_cases hlt4 : k4 < len0 + 1000
                · have g1' := unhide HX1 k4 hlt4
                  have g2' := unhide HX2 k4 (by omega)
                  rw [unhide F3 k4 hlt4] at g2'
                  generalize f1 k4 = z at g1' g2'
                  go_wp2
                  go_quiet (fail)
                  go_wp2
                  go_roundw
                  case rel => exact ⟨k4 + 1, _, by omega, by go_num, rfl⟩
                  case measure => simp [intOf]; omega
                · go_wp2
                  go_loopw [11] (fun i wr => ∃ k q : Nat, k ≤ 1000 ∧ i = .int .i64 k ∧ wr = w4.drewN q) (fun i _ => 1000 - (intOf i).toNat)
                  case atStart => exact ⟨0, _, Nat.zero_le _, rfl, rfl⟩
                  case round =>
                    obtain ⟨k5, q5, hk5, rfl, rfl⟩ := hrel
                    by_cases hlt5 : k5 < 1000
                    · have g1' := unhide HX0 k5 hlt5
                      have g2' := unhide HX2 (len0 + 1000 + k5) (by omega)
                      rw [unhide F4 (len0 + 1000 + k5) (by omega)] at g2'
                      go_wp2
                      go_quiet (fail)
                      go_wp2
                      go_roundw
                      case rel => exact ⟨k5 + 1, _, by omega, by go_num, rfl⟩
                      case measure => simp [intOf]; omega
                    · go_wp2
                      go_ret
                      exact ⟨rfl, (unhide H4).trans ⟨rfl, rfl, Nat.le_refl _, fun _ _ => rfl⟩⟩
end Go.Proofs.Qxb6632274a
