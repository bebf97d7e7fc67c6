import Derived.Test.Qxb6632274aClone
import Derived.Deep.QuietTactic
namespace Go.Proofs.Qxb6632274a
open Go.RowKit

theorem Came_news {w : World} {ao : Option Addr} {b off len cap : Nat} {olds : List Value} (h : Came w 1 ao b off len cap olds) : ∀ ad, ao = some ad → ∀ j u, olds[j]? = some u → w.cell? (ad.add j) = some u := by
  intro ad had j u hu
  have hj := (List.getElem?_eq_some_iff.1 hu).1
  have := h.oldsLen
  have := h.le
  have e := h.addr (by omega)
  rw [e] at had
  obtain rfl := Option.some.inj had
  rw [Addr.add_lit]
  exact h.olds j u hu

theorem getD_app_left (xs ys : List Int) (j : Nat) (h : j < xs.length) : (xs ++ ys).getD j 0 = xs.getD j 0 := by simp [List.getD, List.getElem?_append_left h]
theorem getD_app_right (xs ys : List Int) (j : Nat) (h : xs.length ≤ j) : (xs ++ ys).getD j 0 = ys.getD (j - xs.length) 0 := by simp [List.getD, List.getElem?_append_right h]
theorem zeros_get (n j : Nat) (h : j < n) : (zeros n)[j]? = some (.int .i64 0) := by simp [zeros, h]
theorem zeros_len (n : Nat) : (zeros n).length = n := by simp [zeros]

/-- What lies behind an appended slice, as a function of the place. -/
theorem cells_fun {w : World} {g o len m : Nat} {zs : List Int} (hz : zs.length = len) (h : ∀ j, j < (len + m) * 1 → w.cell? ⟨g, o + j, none⟩ = (vals zs ++ zeros m)[j]?) :
    ∃ f : Nat → Int, (∀ j, j < len + m → w.cell? ⟨g, o + j, none⟩ = some (.int .i64 (f j))) ∧ (∀ j, j < len → f j = zs.getD j 0) ∧ (∀ j, len ≤ j → f j = 0) := by
  refine ⟨fun j => if j < len then zs.getD j 0 else 0, fun j hj => ?_, fun j hj => by simp [hj], fun j hj => by simp [Nat.not_lt.2 hj]⟩
  rw [h j (by omega)]
  by_cases hl : j < len
  · rw [List.getElem?_append_left (by rw [vals_len]; omega), vals_get _ _ (by omega)]; simp [hl]
  · rw [List.getElem?_append_right (by rw [vals_len]; omega), zeros_get _ _ (by rw [vals_len]; omega)]; simp [hl]

set_option maxRecDepth 100000 in
set_option maxHeartbeats 1000000 in
theorem split_small (a0 : Option Addr) (len0 cap0 : Nat) (z0 : List Int) (a1 : Option Addr) (len1 cap1 : Nat) (z1 : List Int) (w : World)
    (r0 : Rd w a0 len0 z0) (n0 : a0 = none → len0 = 0 ∧ cap0 = 0) (r1 : Rd w a1 len1 z1) (n1 : a1 = none → len1 = 0 ∧ cap1 = 0) (h0 : len0 ≤ 65536) (h1 : len1 ≤ 65536) :
    Calls Try.prog 3 #[.slice a0 len0 cap0, .slice a1 len1 cap1] w fun e w' => e = .returned (.bool true) ∧ Bel w.heap.size w w' := by
  obtain ⟨i0, hi, hz0, hz1, hz2⟩ := info_parts Try.info3
  have N0 := hide n0
  have N1 := hide n1
  have R0 := hide r0
  have R1 := hide r1
  clear n0 n1 r0 r1
  go_enter Try.func3, Try.ntmps3
  go_wp2_with fail
  refine (bytes2 a0 a1 len0 cap0 len1 cap1 _ (by unfold maxLen; omega) (by unfold maxLen; omega)).mono ?_
  rintro e w' ⟨bb, rfl, rfl⟩
  cases bb
  · go_wp2
    go_ret
    exact ⟨rfl, Bel.refl _ _⟩
  go_wp2_with fail
  refine (clone_any a0 len0 cap0 z0 _ (unhide R0) (unhide N0) (by omega)).mono ?_
  rintro e w1 ⟨ao0, b0, off0, rfl, hc0, hb1, hx0⟩
  go_wp2_with fail
  refine (clone_any a1 len1 cap1 z1 _ ((unhide R1).bel hb1) (unhide N1) (by omega)).mono ?_
  rintro e w2 ⟨ao1, b1, off1, rfl, hc1, hb2, hx1⟩
  have hc0' := Came_bel hc0 hb2
  have hb : Bel w'.heap.size w' w2 := hb1.trans (hb2.mono hb1.size)
  clear hc0 hb1 hb2
  go_wp2_with (at_make; refine wpList_make_own _ rfl _ _ 22 rfl w2.heap.size 3 i0 (.int .i64 0) 1 Try.underlying22 hi hz0 hz1 _ _ _ (len0 + len1) rfl rfl (by omega) ?b1 ?b2 (Nat.le_refl _) ?_)
  case b1 => rw [hz2]; omega
  case b2 => unfold maxLen; omega
  intro w3 hown hgrow
  have hb3 : Bel w2.heap.size w2 w3 := Bel.of ((Below.refl _ _).grown hgrow (Nat.le_refl _) (fun k h => by cases h))
  have hc03 := Came_bel hc0' hb3
  clear hgrow hc0'
  have hnn0 : ao0 = none → len0 = 0 ∧ len0 = 0 := fun h => ⟨(by first | exact hx0 h | omega), (by first | exact hx0 h | omega)⟩
  have hnn1 : ao1 = none → len1 = 0 ∧ len1 = 0 := fun h => ⟨(by first | exact hx1 h | omega), (by first | exact hx1 h | omega)⟩
  have HN0 := hide hnn0
  have HN1 := hide hnn1
  have HC0 := hide hc03
  have HC1 := hide hc1
  have HB3 := hide hb3
  have HB := hide hb
  clear hnn0 hnn1 hc03 hc1 hb3 hb hx0 hx1
  go_wp2_with (at_builtin; refine wpList_append_fits_any _ rfl (.tmp 34) (.tmp 35) 22 rfl w2.heap.size 3 i0 1 Try.underlying22 hi hz1 w2.heap.size 0 (len0 + len1) [] rfl hown ao0 len0 len0 (vals z0) rfl ?c1 (unhide HN0) (Came_news (unhide HC0)) (vals_one _) ?c2 ?_)
  case c1 => rw [vals_len, (unhide R0).1, Nat.mul_one]
  case c2 => omega
  intro w4 hown4 hgrow4
  have hb4 : Bel w2.heap.size w2 w4 := (unhide HB3).trans (Bel.of ((Below.refl _ _).grown hgrow4 (unhide HB3).size (fun k h => by cases h; exact Nat.le_refl _)))
  have HB4 := hide hb4
  have HC14 := hide (Came_bel (unhide HC1) hb4)
  clear hown hgrow4 hb4
  go_wp2_with (at_builtin; refine wpList_append_fits_any _ rfl (.tmp 37) (.tmp 38) 22 rfl w2.heap.size 3 i0 1 Try.underlying22 hi hz1 w2.heap.size len0 (len0 + len1) (vals z0) rfl hown4 ao1 len1 len1 (vals z1) rfl ?d1 (unhide HN1) (Came_news (unhide HC14)) (vals_one _) ?d2 ?_)
  case d1 => rw [vals_len, (unhide R1).1, Nat.mul_one]
  case d2 => omega
  intro w5 hown5 hgrow5
  have hb5 : Bel w2.heap.size w2 w5 := (unhide HB4).trans (Bel.of ((Below.refl _ _).grown hgrow5 (unhide HB4).size (fun k h => by cases h; exact Nat.le_refl _)))
  have HB5 := hide hb5
  have HC15 := hide (Came_bel (unhide HC1) hb5)
  have HJ := hide (Came_own hown5)
  clear hown4 hgrow5 hb5 hown5 HC14 HB4 HB3 HC0 HC1
  go_wp2_with fail
  refine (zzAppendValues_any _ _ _ _ _ _ _ (unhide HJ) (by omega)).mono ?_
  rintro e w6 ⟨vl, rfl, hol⟩
  have hb6 := (unhide HB5).trans ((Bel.ofOnto hol).mono (unhide HB5).size)
  have hc16 := Came_bel (unhide HC15) (Bel.ofOnto hol)
  obtain ⟨gl, ol, cl, rfl, hcl1, hcl2, hlc⟩ :=  hol.value (unhide HJ) (by unfold maxLen; omega) (.inr (by omega))
  have HB6 := hide hb6
  have HC16 := hide hc16
  have hlv : vals z0 ++ vals z1 = vals (z0 ++ z1) := by simp [vals]
  rw [hlv] at hlc
  obtain ⟨fL, hL, hL1, hL2⟩ := cells_fun (by rw [List.length_append, (unhide R0).1, (unhide R1).1]) hlc
  have HL := hide hL
  clear hlc hL hlv
  clear hb6 hc16 HJ HC15 HB5
  go_wp2_with fail
  refine (zzAppendValues_any _ _ _ _ _ _ _ (unhide HC16) (by omega)).mono ?_
  rintro e w7 ⟨vr, rfl, hor⟩
  have hb67 := Bel.ofOnto hor
  have hb7 : Bel w'.heap.size w' w7 := (unhide HB).trans (((unhide HB6).trans (hb67.mono (unhide HB6).size)).mono (unhide HB).size)
  obtain ⟨gr, orr, cr, rfl, hcr1, hcr2, hrc⟩ := hor.value (unhide HC16) (by unfold maxLen; omega) (.inr (by omega))
  obtain ⟨fR, hR, hR1, hR2⟩ := cells_fun (unhide R1).1 hrc
  have hgl : gl < w6.heap.size := World.block_lt_of_cell? w6 _ (unhide HL 0 (by omega))
  have hL7 : ∀ j, j < len0 + len1 + 1000 → w7.cell? ⟨gl, ol + j, none⟩ = some (.int .i64 (fL j)) := fun j hj => (hb67.cell (p := ⟨gl, ol + j, none⟩) hgl).trans (unhide HL j hj)
  have hA : Rd w7 a0 len0 z0 := (unhide R0).bel hb7
  have hB : Rd w7 a1 len1 z1 := (unhide R1).bel hb7
  have HL7 := hide hL7
  have HR := hide hR
  have HA := hide hA
  have HBB := hide hB
  have H7 := hide hb7
  have F1 := hide hL1
  have F2 := hide hL2
  have F3 := hide hR1
  have F4 := hide hR2
  clear hL7 hR hA hB hb7 hL1 hL2 hR1 hR2 hb67 hor hol hrc HC16 HB6 HL HB hgl HN0 HN1 N0 N1
  have ht1 : (((len1 + 1000 : Nat) : Int) != (len1 : Int) + 1000) = false := by simp
  go_wp2
  go_loopw [10] (fun i wr => ∃ k q : Nat, k ≤ len1 ∧ i = .int .i64 k ∧ wr = w7.drewN q) (fun i _ => len1 - (intOf i).toNat)
  case atStart => exact ⟨0, 0, Nat.zero_le _, rfl, rfl⟩
  case round =>
    obtain ⟨k, q, hk, rfl, rfl⟩ := hrel
    by_cases hlt : k < len1
    · obtain ⟨b, off, ha, hbl, hc⟩ := (unhide HBB).2 (by omega)
      subst ha
      have g1 := hc k hlt
      have g2 := unhide HR k (by omega)
      rw [unhide F3 k hlt] at g2
      generalize z1.getD k 0 = z at g1 g2
      clear hc
      go_wp2
      go_quiet (fail)
      go_wp2
      go_roundw
      case rel => exact ⟨k + 1, _, by omega, by go_num, rfl⟩
      case measure => simp [intOf]; omega
    · go_wp2
      go_loop [11] (fun i => ∃ k : Nat, len1 ≤ k ∧ k ≤ len1 + 1000 ∧ i = .int .i64 k) (fun i => len1 + 1000 - (intOf i).toNat)
      case atStart => exact ⟨len1, Nat.le_refl _, by omega, rfl⟩
      case round =>
        obtain ⟨k2, hk1, hk2, rfl⟩ := hrel
        by_cases hlt2 : k2 < len1 + 1000
        · have g2 := unhide HR k2 (by omega)
          rw [unhide F4 k2 hk1] at g2
          go_wp2
          go_round
          case rel => exact ⟨k2 + 1, by omega, by omega, by go_num⟩
          case measure => simp [intOf]; omega
        · have ht2 : (((len0 + len1 + 1000 : Nat) : Int) != (len0 : Int) + ((len1 : Int) + 1000)) = false := by simp; omega
          go_wp2
          go_loopw [12] (fun i wr => ∃ k q : Nat, k ≤ len0 ∧ i = .int .i64 k ∧ wr = w7.drewN q) (fun i _ => len0 - (intOf i).toNat)
          case atStart => exact ⟨0, _, Nat.zero_le _, rfl, rfl⟩
          case round =>
            obtain ⟨k3, q3, hk3, rfl, rfl⟩ := hrel
            by_cases hlt3 : k3 < len0
            · obtain ⟨b, off, ha, hbl, hc⟩ := (unhide HA).2 (by omega)
              subst ha
              have g1 := hc k3 hlt3
              have g2 := unhide HL7 k3 (by omega)
              rw [unhide F1 k3 (by omega), getD_app_left _ _ _ (by rw [(unhide R0).1]; exact hlt3)] at g2
              generalize z0.getD k3 0 = z at g1 g2
              clear hc
              go_wp2
              go_quiet (fail)
              go_wp2
              go_roundw
              case rel => exact ⟨k3 + 1, _, by omega, by go_num, rfl⟩
              case measure => simp [intOf]; omega
            · go_wp2
              go_loopw [13] (fun i wr => ∃ k q : Nat, k ≤ len1 + 1000 ∧ i = .int .i64 k ∧ wr = w7.drewN q) (fun i _ => len1 + 1000 - (intOf i).toNat)
              case atStart => exact ⟨0, _, Nat.zero_le _, rfl, rfl⟩
              case round =>
                obtain ⟨k4, q4, hk4, rfl, rfl⟩ := hrel
                by_cases hlt4 : k4 < len1 + 1000
                · have g1 := unhide HR k4 hlt4
                  have g2 := unhide HL7 (len0 + k4) (by omega)
                  have e : fL (len0 + k4) = fR k4 := by
                    by_cases h4 : k4 < len1
                    · rw [unhide F1 _ (by omega), unhide F3 _ h4, getD_app_right _ _ _ (by rw [(unhide R0).1]; omega), (unhide R0).1, Nat.add_sub_cancel_left]
                    · rw [unhide F2 _ (by omega), unhide F4 _ (by omega)]
                  rw [e] at g2
                  clear e
                  generalize fR k4 = z at g1 g2
                  go_wp2
                  go_quiet (fail)
                  go_wp2
                  go_roundw
                  case rel => exact ⟨k4 + 1, _, by omega, by go_num, rfl⟩
                  case measure => simp [intOf]; omega
                · go_wp2
                  go_ret
                  exact ⟨rfl, (unhide H7).trans ⟨rfl, rfl, Nat.le_refl _, fun _ _ => rfl⟩⟩
end Go.Proofs.Qxb6632274a
