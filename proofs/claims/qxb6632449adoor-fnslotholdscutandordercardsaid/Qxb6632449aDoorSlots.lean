import Derived.Test.Qxb6632449aDoorHolds
namespace Go.Proofs.Qxb6632449aDoor
open Go.RowKit
set_option linter.unusedVariables false

theorem Tryd.info27 : (Tryd.prog.info? 27).map (fun i => (i.zero, i.size, i.bytes)) = some (some (.agg #[.int .i64 0, .string ⟨#[]⟩, .bool false]), 3, 32) := by kernel_rfl

theorem own_bel {w w' : World} {H : Nat} {e : TypeId} {size : Nat} {v : Value} {n : Nat} {xs : List Value} (h : w.ownsRow H e size v n xs) (hb : Bel w.heap.size w w') : w'.ownsRow H e size v n xs := by
  refine ⟨h.1, ?_⟩
  rcases h.2 with hn | ⟨g, cap, cur, rfl, hbb, hgg, rest⟩
  · exact .inl hn
  · exact .inr ⟨g, cap, cur, rfl, hbb, (hb.block g (Array.getElem?_eq_some_iff.1 hgg).1).trans hgg, rest⟩

theorem own_base {w : World} {H : Nat} {e : TypeId} {size : Nat} {v : Value} {n : Nat} {xs : List Value} (h : w.ownsRow H e size v n xs) : ∀ k, v.ownBlock = some k → H ≤ k := by
  intro k hk
  rcases h.2 with ⟨rfl, _⟩ | ⟨g, cap, cur, rfl, hb, _⟩
  · cases hk
  · simp [Value.ownBlock] at hk
    omega

set_option maxRecDepth 100000 in
set_option maxHeartbeats 1000000 in
theorem slotHolds_any (a : Option Addr) (l c : Nat) (n : Int) (ks : Nat → ByteArray) (w : World) (hr : Rd w a l (fun i => .string (ks i))) (hl1 : 1 ≤ l) (hl : l ≤ 1048576) (hk : ∀ t, t < l → (ks t).size ≤ 1048576)
    (h0 : -9223372036854775808 ≤ n) (h1 : n ≤ 9223372036854775807) (ht : Tab w) :
    Calls Tryd.prog 6 #[.slice a l c, .int .i64 n] w (HoldsOut w ks l n) := by
  obtain ⟨i27, hi, hz, hs, hb⟩ := info_parts Tryd.info27
  obtain ⟨b, off, rfl, hbl, hc⟩ := hr (by omega)
  have HT := hide ht
  have HK := hide hk
  have HC := hide hc
  clear ht hk hc hr
  go_enter Tryd.func6, Tryd.ntmps6
  go_wp2_with (at_make; refine wpList_make_own _ rfl _ _ 24 rfl w.heap.size 27 i27 (.agg #[.int .i64 0, .string ⟨#[]⟩, .bool false]) 3 Tryd.underlying24 hi hz hs _ _ _ (l + 1) rfl rfl (by omega) ?b1 ?b2 (Nat.le_refl _) ?_)
  case b1 => omega
  case b2 => unfold maxLen; omega
  intro w1 hown hgrow
  have hb1 : Bel w.heap.size w w1 := Bel.of ((Below.refl _ _).grown hgrow (Nat.le_refl _) (fun k h => by cases h))
  have HO := hide hown
  have HB1 := hide hb1
  clear hown hgrow hb1
  go_wp2
  go_loopw [6, 18] (fun v i wr => ∃ k : Nat, k ≤ l ∧ i = .int .i64 k ∧ wr.ownsRow w.heap.size 27 3 v k (shared ks k) ∧ Bel w.heap.size w wr) (fun _ i _ => l - (intOf i).toNat)
  case atStart => exact ⟨0, Nat.zero_le _, rfl, unhide HO, unhide HB1⟩
  case round =>
    obtain ⟨k, hkl, rfl, ho, hbw⟩ := hrel
    have HOW := hide ho
    have HBW := hide hbw
    have hsz := hbw.size
    clear ho hbw
    by_cases hlt : k < l
    · have hck : wr.cell? ⟨b, off + k, none⟩ = some (.string (ks k)) := ((unhide HBW).cell (p := ⟨b, off + k, none⟩) hbl).trans (unhide HC k hlt)
      go_wp2_with (first | (at_builtin; refine wpList_append_lies _ rfl (.tmp 23) (.tmp 27) 24 rfl w.heap.size 27 i27 (.agg #[.int .i64 0, .string ⟨#[]⟩, .bool false]) 3 32 Tryd.underlying24 hi hz hs hb rfl (by decide) _ _ _ rfl (own_bel (unhide HOW) ((Bel.refl _ _).alloc (Nat.le_refl _) _)) ⟨wr.heap.size, 0, none⟩ 1 1 (hcells (k : Int) (ks k) false) rfl rfl ?d1 ?d2 ?d3 ?d4 ?d5 ?d6 (wr.heap.size + 1) ?d7 ?_))
      case d1 => exact new_hold wr _ _ _
      case d2 => exact hcells_one _ _ _
      case d3 => omega
      case d4 => unfold maxLen; omega
      case d5 => omega
      case d6 => simp; omega
      case d7 => simp
      intro g cap w2 hown2 hgrow2 hat hltg
      have HN := hide hown2
      have HNB : Hid (Bel w.heap.size w w2) := ((unhide HBW).alloc hsz _).grown hgrow2 (by simp; omega) (own_base (unhide HOW))
      clear hown2 hgrow2 hat hltg
      go_wp2
      go_roundw
      case rel => exact ⟨k + 1, by omega, by go_num, unhide HN, unhide HNB⟩
      case measure => simp [intOf]; omega
    · obtain rfl : k = l := by omega
      have hck : wr.cell? ⟨b, off + (k - 1), none⟩ = some (.string (ks (k - 1))) := ((unhide HBW).cell (p := ⟨b, off + (k - 1), none⟩) hbl).trans (unhide HC (k - 1) (by omega))
      have HCK := hide hck
      go_wp2_with fail
      refine (slotKey_any (ks (k - 1)) n (unhide HK _ (by omega)) h0 h1 wr ((unhide HT).bel (unhide HBW))).mono ?_
      rintro e w2 ⟨rfl, hb2⟩
      have hsz2 := hb2.size
      have HB2 := hide hb2
      have HOW2 := hide (own_bel (unhide HOW) hb2)
      clear hb2 hck
      go_wp2_with (first | (at_builtin; refine wpList_append_lies _ rfl (.tmp 30) (.tmp 39) 24 rfl w.heap.size 27 i27 (.agg #[.int .i64 0, .string ⟨#[]⟩, .bool false]) 3 32 Tryd.underlying24 hi hz hs hb rfl (by decide) _ _ _ rfl (own_bel (unhide HOW2) ((Bel.refl _ _).alloc (Nat.le_refl _) _)) ⟨w2.heap.size, 0, none⟩ 1 1 (hcells ((k : Int) - 1) (slotKey (ks (k - 1)) n) true) rfl rfl ?d1 ?d2 ?d3 ?d4 ?d5 ?d6 (w2.heap.size + 1) ?d7 ?_))
      case d1 => exact new_hold w2 _ _ _
      case d2 => exact hcells_one _ _ _
      case d3 => omega
      case d4 => unfold maxLen; omega
      case d5 => omega
      case d6 => simp; omega
      case d7 => simp
      intro g cap w3 hown3 hgrow3 hat hltg
      have HN := hide hown3
      have HNB : Hid (Bel w.heap.size w w3) := (((unhide HBW).trans ((unhide HB2).mono hsz)).alloc (by omega) _).grown hgrow3 (by simp; omega) (own_base (unhide HOW))
      clear hown3 hgrow3 hat hltg
      go_wp2
      go_ret
      exact ⟨g, cap, rfl, unhide HNB, Hs.of_own hl1 (unhide HN)⟩

end Go.Proofs.Qxb6632449aDoor
