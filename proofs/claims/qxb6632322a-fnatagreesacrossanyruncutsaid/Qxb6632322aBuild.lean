import Derived.Test.Qxb6632322aNext
import Derived.Deep.DeepCutAuto
import Derived.Deep.CutBlock
namespace Go.Proofs.Qxb6632322a
open Go.RowKit
set_option linter.unusedVariables false

theorem Try.info5 : (Try.prog.info? 5).map (fun i => (i.zero, i.size, i.bytes)) = some (some (.int .u8 0), 1, 1) := by kernel_rfl
theorem Try.info3 : (Try.prog.info? 3).map (fun i => (i.zero, i.size, i.bytes)) = some (some (.int .i64 0), 1, 8) := by kernel_rfl
theorem Try.info21 : (Try.prog.info? 21).map (fun i => (i.zero, i.size, i.bytes)) = some (some (.int .i32 0), 1, 4) := by kernel_rfl
theorem Try.info32 : (Try.prog.info? 32).map (fun i => (i.zero, i.size, i.bytes)) = some (some (.agg #[.slice none 0 0]), 1, 24) := by kernel_rfl
theorem Try.info46 : (Try.prog.info? 46).map (fun i => (i.zero, i.size, i.bytes)) = some (some (.agg #[.int .i64 0, .string ⟨#[]⟩, .string ⟨#[]⟩, .slice none 0 0, .slice none 0 0, .slice none 0 0]), 6, 112) := by kernel_rfl

theorem new_run (w : World) (o1 : Obj) (f : Int) (r s : ByteArray) (ve vs vo : Value) : ∀ j u, (runCells f r s ve vs vo)[j]? = some u → ((w.alloc o1).alloc (.cells #[.int .i64 f, .string r, .string s, ve, vs, vo] 46)).drew.cell? ((⟨w.heap.size + 1, 0, none⟩ : Addr).add j) = some u := by
  have := Blk.new (w.alloc o1) #[.int .i64 f, .string r, .string s, ve, vs, vo] 46
  exact World.news_of_block (w := (w.alloc o1).alloc (.cells #[.int .i64 f, .string r, .string s, ve, vs, vo] 46)) (B := w.heap.size + 1) (by simpa [Blk] using this)
theorem runCells_one (f : Int) (r s : ByteArray) (a1 a2 a3 : Option Addr) (n1 c1 n2 c2 n3 c3 : Nat) : ∀ u ∈ runCells f r s (.slice a1 n1 c1) (.slice a2 n2 c2) (.slice a3 n3 c3), u.oneCell' = true := by
  intro u hu
  simp [runCells] at hu
  rcases hu with rfl | rfl | rfl | rfl | rfl | rfl <;> rfl

theorem bcells_sp (L : List UInt8) : bcells L ++ [Value.int .u8 32] = bcells (L ++ [32]) := by simp [bcells]

theorem tot_mono (s : Nat → ByteArray) (a b : Nat) (h : a ≤ b) : tot s a ≤ tot s b := by
  induction b with
  | zero => rw [show a = 0 by omega]; exact Nat.le_refl _
  | succ b ih =>
    by_cases e : a = b + 1
    · rw [e]; exact Nat.le_refl _
    · exact Nat.le_trans (ih (by omega)) (Nat.le_add_right _ _)

/-- What zzBuild is told of its arguments. -/
structure Inp (w : World) (a0 a1 a2 a3 : Option Addr) (l0 n : Nat) (res ids : Nat → ByteArray) (st : Nat → Bool) (nd : Nat → Int) (lo hi : Nat) : Prop where
  r0 : Rd w a0 l0 (fun i => .string (res i))
  r1 : Rd w a1 n (fun i => .string (ids i))
  r2 : Rd w a2 n (fun i => .bool (st i))
  r3 : Rd w a3 n (fun i => .int .u64 (nd i))
  lohi : lo ≤ hi
  hin : hi ≤ n
  nle : n ≤ 65536
  cn : cnt st n = l0
  stlo : lo < hi → st lo = true
  sthi : hi < n → st hi = true
  tt : tot ids n ≤ 1048576

/-- What zzBuild hands back. -/
def BuildOut (w0 : World) (res ids : Nat → ByteArray) (st : Nat → Bool) (nd : Nat → Int) (lo hi : Nat) (e : Ending) (w' : World) : Prop :=
  ∃ a nr cap, e = .returned (.agg #[.slice a nr cap, .int .i64 ((hi : Int) - (lo : Int))]) ∧ Bel w0.heap.size w0 w' ∧
    (lo < hi → ∃ gr cur P C, a = some ⟨gr, 0, none⟩ ∧ ListOK w' res ids st nd lo hi gr nr cur P C)

set_option maxRecDepth 100000 in
set_option maxHeartbeats 4000000 in
theorem build_any (a0 a1 a2 a3 : Option Addr) (l0 c0 n c1 c2 c3 : Nat) (res ids : Nat → ByteArray) (st : Nat → Bool) (nd : Nat → Int) (lo hi : Nat) (w : World) (h : Inp w a0 a1 a2 a3 l0 n res ids st nd lo hi) :
    Calls Try.prog 8 #[.slice a0 l0 c0, .slice a1 n c1, .slice a2 n c2, .slice a3 n c3, .int .i64 lo, .int .i64 hi] w (BuildOut w res ids st nd lo hi) := by
  obtain ⟨r0, r1, r2, r3, hlh, hhn, hnle, hcn, hstlo, hsthi, htt⟩ := h
  have R0 := hide r0
  have R1 := hide r1
  have R2 := hide r2
  have R3 := hide r3
  have CN := hide hcn
  have SLO := hide hstlo
  have SHI := hide hsthi
  have TT := hide htt
  clear r0 r1 r2 r3 hcn hstlo hsthi htt
  obtain ⟨i5, h5i, h5z, h5s, h5b⟩ := info_parts Try.info5
  obtain ⟨i3, h3i, h3z, h3s, h3b⟩ := info_parts Try.info3
  obtain ⟨i21, h21i, h21z, h21s, h21b⟩ := info_parts Try.info21
  obtain ⟨i32, h32i, h32z, h32s, h32b⟩ := info_parts Try.info32
  obtain ⟨i46, h46i, h46z, h46s, h46b⟩ := info_parts Try.info46
  go_enter Try.func8, Try.ntmps8
  go_wp2
  go_loop [14, 15] (fun x y => ∃ k : Nat, k ≤ lo ∧ y = .int .i64 k ∧ x = .int .i64 ((cnt st k : Int) - 1)) (fun _ y => lo - (intOf y).toNat)
  case atStart => exact ⟨0, Nat.zero_le _, rfl, rfl⟩
  case round =>
    obtain ⟨k, hk, rfl, rfl⟩ := hrel
    have hcl := cnt_le st k
    by_cases hlt : k < lo
    · obtain ⟨b, off, ha, hbl, hc⟩ := (unhide R2) (by omega)
      subst ha
      have g1 : w.cell? ⟨b, off + k, none⟩ = some (.bool (st k)) := hc k (by omega)
      have e : Hid (cnt st (k + 1) = cnt st k + (st k).toNat) := rfl
      clear hc
      generalize st k = s at g1 e
      cases s
      all_goals
        go_wp2
        go_round
        case rel => exact ⟨k + 1, by omega, by go_num, congrArg (Value.int IntKind.i64) (by have := unhide e; simp at this; omega)⟩
        case measure => simp [intOf]; omega
    · obtain rfl : k = lo := by omega
      have hlh' := hlh
      clear hcl hlt hk
      go_wp2
      have hhead : Head w (w.alloc (.cells #[.slice none 0 0, .int .i64 0] 28)) res ids st nd k hi k 0 (.slice none 0 0) [] (fun _ => k) (fun _ _ => undef) :=
        ⟨Nat.le_refl _, hlh, unhide SLO, World.ownsRow_nil _ _ _ _, fun r hr => by omega, ⟨rfl, rfl, fun r hr => by omega⟩, by omega, (Bel.refl _ _).alloc (Nat.le_refl _) _, Blk.new _ _ _⟩
      go_loopw [13, 14, 16] (fun v r y wr => ∃ (j nr : Nat) (xs : List Value) (P : Nat → Nat) (C : Nat → Nat → Value), y = .int .i64 j ∧ r = .int .i64 ((cnt st j : Int) - 1) ∧ Head w wr res ids st nd k hi j nr v xs P C)
        (fun _ _ y _ => hi - (intOf y).toNat)
      case atStart => exact ⟨k, 0, _, _, _, rfl, rfl, hhead⟩
      case round =>
        clear hhead
        obtain ⟨j, nr, xs, P, C, rfl, rfl, hh⟩ := hrel
        have hlj := hh.lok
        have hjh := hh.khi
        have HH := hide hh
        have hcl := cnt_le st j
        clear hh
        by_cases hlt : j < hi
        · obtain ⟨b2, off2, ha2, hbl2, hc2⟩ := (unhide R2) (by omega)
          subst ha2
          have HC2 := hide hc2
          clear hc2
          have hb2 : ∀ q, q < n → wr.cell? ⟨b2, off2 + q, none⟩ = some (.bool (st q)) := fun q hq => ((unhide HH).bel.cell (p := ⟨b2, off2 + q, none⟩) hbl2).trans (unhide HC2 q hq)
          have HB2 := hide hb2
          clear hb2
          go_upto_block 4 with fail
          go_cut [17] (fun x wx => (∃ q : Nat, j < q ∧ q ≤ hi ∧ (∀ t, j < t → t < q → st t = false) ∧ (q < hi → st q = true) ∧ x = .int .i64 q) ∧ wx = wr)
          case first =>
            go_wp2_with fail
            go_loop [17] (fun x => ∃ q : Nat, j < q ∧ q ≤ hi ∧ (∀ t, j < t → t < q → st t = false) ∧ x = .int .i64 q) (fun x => hi - (intOf x).toNat)
            case atStart => exact ⟨j + 1, by omega, by omega, fun t h1 h2 => by omega, by go_num⟩
            case round =>
              obtain ⟨q, hjq, hqh, hfl, rfl⟩ := hrel
              have HFL := hide hfl
              clear hfl
              by_cases hq : q < hi
              · have g1 := unhide HB2 q (by omega)
                have hq' : decide ((q : Int) < (hi : Int)) = true := by simp; omega
                cases hs : st q
                · rw [hs] at g1
                  have HS := hide hs
                  clear hs
                  go_wp2
                  go_round
                  case rel => exact ⟨q + 1, by omega, by omega, fun t h1 h2 => by
                    by_cases e : t = q
                    · rw [e]; exact unhide HS
                    · exact unhide HFL t h1 (by omega), by go_num⟩
                  case measure => simp [intOf]; omega
                · rw [hs] at g1
                  have HS := hide hs
                  clear hs
                  go_wp2
                  go_meet
                  case rel => exact ⟨⟨q, hjq, hqh, unhide HFL, fun _ => unhide HS, rfl⟩, rfl⟩
              · have hq' : decide ((q : Int) < (hi : Int)) = false := by simp; omega
                go_wp2
                go_meet
                case rel => exact ⟨⟨q, hjq, hqh, unhide HFL, fun h => absurd h hq, rfl⟩, rfl⟩
          case rest =>
            obtain ⟨⟨q, hjq, hqh, hfl, hsq, rfl⟩, rfl⟩ := hcut
            have HFL := hide hfl
            have HSQ := hide hsq
            clear hfl hsq
            obtain ⟨b1, off1, ha1, hbl1, hc1⟩ := (unhide R1) (by omega)
            obtain ⟨b3, off3, ha3, hbl3, hc3⟩ := (unhide R3) (by omega)
            subst ha1
            subst ha3
            have HC1 := hide hc1
            have HC3 := hide hc3
            clear hc1 hc3
            have hwsz : w.heap.size ≤ wc.heap.size := (unhide HH).bel.size
            have htot : tot ids q ≤ 1048576 := Nat.le_trans (tot_mono ids q n (by omega)) (unhide TT)
            go_wp2_with fail
            go_loopw [18, 19, 20, 21, 22] (fun vb ve vs vo x wr => ∃ (i : Nat) (L : List UInt8) (EL : List Nat) (Sv : List Value) (OL : List Nat), j ≤ i ∧ i ≤ q ∧ x = .int .i64 i ∧ Inn wr wc.heap.size ids nd j i vb ve vs vo L EL Sv OL ∧ Bel wc.heap.size wc wr)
              (fun _ _ _ _ x _ => q - (intOf x).toNat)
            case atStart => exact ⟨j, [], [], [], [], Nat.le_refl _, by omega, rfl, Inn.start _ _ _ _, Bel.refl _ _⟩
            case round =>
              obtain ⟨i, L, EL, Sv, OL, hji, hiq, rfl, hI, hbw⟩ := hrel
              obtain ⟨ab, cb, rfl⟩ := own_slice hI.own.b
              obtain ⟨ae, ce, rfl⟩ := own_slice hI.own.e
              obtain ⟨asx, csx, rfl⟩ := own_slice hI.own.s
              obtain ⟨ao, co, rfl⟩ := own_slice hI.own.o
              have hLl : (bcells L).length ≤ tot ids i + i := by rw [bcells_len]; exact hI.ll
              have hSl : Sv.length ≤ 65536 := Nat.le_trans hI.sl (by omega)
              have hEl : (ecells EL).length ≤ 65536 := by rw [ecells_len, hI.el]; omega
              have hOl : (ocells OL).length ≤ 65536 := by rw [ocells_len, hI.ol]; omega
              have htoti : tot ids i ≤ 1048576 := Nat.le_trans (tot_mono ids i q (by omega)) htot
              have HI := hide hI
              have HBW := hide hbw
              have hHw : wc.heap.size ≤ wr.heap.size := hI.own.sz
              clear hI hbw
              by_cases hiltq : i < q
              · have htoti1 : tot ids i + (ids i).size ≤ 1048576 := Nat.le_trans (tot_mono ids (i + 1) q (by omega)) htot
                have g1 : wr.cell? ⟨b1, off1 + i, none⟩ = some (.string (ids i)) := ((unhide HBW).cell (p := ⟨b1, off1 + i, none⟩) (by exact Nat.lt_of_lt_of_le hbl1 hwsz)).trans (((unhide HH).bel.cell (p := ⟨b1, off1 + i, none⟩) hbl1).trans (unhide HC1 i (by omega)))
                have g3 : ∀ wx, Stp wc.heap.size wr wx → wx.cell? ⟨b3, off3 + i, none⟩ = some (.int .u64 (nd i)) := fun wx hx => (hx.bel.cell (p := ⟨b3, off3 + i, none⟩) (by exact Nat.lt_of_lt_of_le hbl3 hwsz)).trans (((unhide HBW).cell (p := ⟨b3, off3 + i, none⟩) (by exact Nat.lt_of_lt_of_le hbl3 hwsz)).trans (((unhide HH).bel.cell (p := ⟨b3, off3 + i, none⟩) hbl3).trans (unhide HC3 i (by omega))))
                have G3 := hide g3
                clear g3
                by_cases hij : i = j
                · subst hij
                  go_wp2_with (first | (at_builtin; refine Lib.wpList_append_own_string _ rfl (.tmp 66) (.tmp 70) 40 9 rfl wc.heap.size 5 i5 Try.underlying40 Try.underlying9 h5i h5z h5s h5b _ _ _ rfl (unhide HI).own.b (ids i) rfl ?c1 ?c2 ?c3 ?_))
                  case c1 => unfold maxLen; omega
                  case c2 => omega
                  case c3 => exact (unhide HI).own.sz
                  intro vb1 w1 hob hgb _
                  have h4 := (unhide HI).own.appB (by rw [List.length_append, Lib.strCells_length]) hob hgb
                  obtain ⟨ab1, cb1, rfl⟩ := own_slice hob
                  have H4 := hide h4.1
                  have HST4 := hide h4.2
                  clear h4 hob hgb g1
                  go_wp2_with (first | (at_builtin; refine wpList_append_own _ rfl (.tmp 72) (.tmp 75) 41 rfl wc.heap.size 3 i3 (.int .i64 0) 1 8 Try.underlying41 h3i h3z h3s h3b rfl (by decide) _ _ _ rfl ((unhide H4).alloc _).e ⟨w1.heap.size, 0, none⟩ 1 1 [.int .i64 (((bcells L).length : Int) + ((ids i).size : Int))] rfl rfl ?d1 ?d2 ?d3 ?d4 ?d5 ?_))
                  case d1 => exact cell_one_new _ _ _
                  case d2 => intro u hu; simp at hu; subst hu; rfl
                  case d3 => unfold maxLen; omega
                  case d4 => omega
                  case d5 => exact ((unhide H4).alloc _).sz
                  intro ve1 w2 hoe hge _
                  have h5 := ((unhide H4).alloc _).appE (by simp) hoe hge
                  obtain ⟨ae1, ce1, rfl⟩ := own_slice hoe
                  have H5 := hide h5.1
                  have HST5 := hide (((unhide HST4).alloc (unhide H4).sz _).trans h5.2)
                  clear h5 hoe hge H4 HST4
                  have g3 := unhide G3 w2 (unhide HST5)
                  have tij : ((i : Int) == (i : Int)) = true := by simp
                  go_wp2_with fail
                  go_quiet (fail)
                  go_wp2_with fail
                  refine (setOf_any (nd i) _).mono ?_
                  rintro e w3 ⟨sv, rfl, hsv, hb3⟩
                  obtain ⟨sa, sm, rfl⟩ := hsv.form
                  have H6 := hide (((unhide H5).drewN nq).call hb3)
                  have HST6 := hide (((unhide HST5).drewN nq).call hb3 ((unhide H5).drewN nq).sz)
                  have HSV := hide hsv
                  clear hb3 hsv H5 HST5 g3
                  go_wp2_with (first | (at_builtin; refine wpList_append_own _ rfl (.tmp 92) (.tmp 98) 42 rfl wc.heap.size 32 i32 (.agg #[.slice none 0 0]) 1 24 Try.underlying42 h32i h32z h32s h32b rfl (by decide) _ _ _ rfl ((unhide H6).alloc _).s ⟨w3.heap.size, 0, none⟩ 1 1 [.slice sa sm sm] rfl rfl ?e1 ?e2 ?e3 ?e4 ?e5 ?_))
                  case e1 => exact cell_one_new _ _ _
                  case e2 => intro u hu; simp at hu; subst hu; rfl
                  case e3 => unfold maxLen; omega
                  case e4 => omega
                  case e5 => exact ((unhide H6).alloc _).sz
                  intro vs1 w4 hos hgs _
                  have h7 := ((unhide H6).alloc _).appS (by simp) hos hgs
                  obtain ⟨as1, cs1, rfl⟩ := own_slice hos
                  have H7 := hide h7.1
                  have HST7 := hide (((unhide HST6).alloc (unhide H6).sz _).trans h7.2)
                  have HSV7 := hide ((((Stp.refl wc.heap.size w3).alloc (unhide H6).sz _).trans h7.2).set _ _ (unhide HSV))
                  clear h7 hos hgs H6 HST6 HSV
                  go_wp2_with (first | (at_builtin; refine wpList_append_own _ rfl (.tmp 100) (.tmp 105) 43 rfl wc.heap.size 21 i21 (.int .i32 0) 1 4 Try.underlying43 h21i h21z h21s h21b rfl (by decide) _ _ _ rfl ((unhide H7).alloc _).o ⟨w4.heap.size, 0, none⟩ 1 1 [.int .i32 (Sv.length : Int)] rfl rfl ?f1 ?f2 ?f3 ?f4 ?f5 ?_))
                  case f1 => exact cell_one_new _ _ _
                  case f2 => intro u hu; simp at hu; subst hu; rfl
                  case f3 => unfold maxLen; omega
                  case f4 => omega
                  case f5 => exact ((unhide H7).alloc _).sz
                  intro vo1 w5 hoo hgo _
                  have h8 := ((unhide H7).alloc _).appO (by simp) hoo hgo
                  have H8 := hide h8.1
                  have HST8 := hide (((unhide HST7).alloc (unhide H7).sz _).trans h8.2)
                  have HSV8 := hide ((((Stp.refl wc.heap.size w4).alloc (unhide H7).sz _).trans h8.2).set _ _ (unhide HSV7))
                  clear h8 hoo hgo H7 HST7 HSV7
                  have hfin := (unhide HI).finish (Nat.le_refl _) [] [.slice sa sm sm] (unhide HST8) (.inl ⟨rfl, rfl⟩) (.inl ⟨_, rfl, unhide HSV8⟩) (unhide H8) (by rw [bcells_str, bcells_app, List.append_nil]) (ecells_one _ _ _ (by rw [List.append_nil, List.length_append, bcells_len, Array.length_toList]; simp)) rfl (ocells_one _ _ _ (by simp))
                  have HFIN := hide hfin
                  have HBF := hide ((unhide HBW).trans (unhide HST8).bel)
                  clear hfin H8 HST8 HSV8
                  go_wp2
                  go_roundw
                  case rel =>
                    obtain ⟨L', EL', Sv', OL', hI'⟩ := unhide HFIN
                    exact ⟨i + 1, L', EL', Sv', OL', by omega, by omega, by go_num, hI', unhide HBF⟩
                  case measure => simp [intOf]; omega
                · have hjlt : j < i := by omega
                  have tij : ((i : Int) == (j : Int)) = false := by rw [beq_eq_false_iff_ne]; omega
                  have hSpos : 0 < Sv.length := by
                    rcases (unhide HI).last with ⟨e, _⟩ | ⟨_, _, e⟩
                    · omega
                    · omega
                  have g1' : ∀ wx, Stp wc.heap.size wr wx → wx.cell? ⟨b1, off1 + i, none⟩ = some (.string (ids i)) := fun wx hx => (hx.bel.cell (p := ⟨b1, off1 + i, none⟩) (by exact Nat.lt_of_lt_of_le hbl1 hwsz)).trans g1
                  have G1 := hide g1'
                  have g4' : ∀ wx, Stp wc.heap.size wr wx → wx.cell? ⟨b3, off3 + (i - 1), none⟩ = some (.int .u64 (nd (i - 1))) := fun wx hx => (hx.bel.cell (p := ⟨b3, off3 + (i - 1), none⟩) (by exact Nat.lt_of_lt_of_le hbl3 hwsz)).trans (((unhide HBW).cell (p := ⟨b3, off3 + (i - 1), none⟩) (by exact Nat.lt_of_lt_of_le hbl3 hwsz)).trans (((unhide HH).bel.cell (p := ⟨b3, off3 + (i - 1), none⟩) hbl3).trans (unhide HC3 (i - 1) (by omega))))
                  have G4 := hide g4'
                  clear g1' g4' g1 hij
                  by_cases hne : nd i = nd (i - 1)
                  · have tne : (nd i != nd (i - 1)) = false := by rw [hne]; simp
                    have HNE := hide hne
                    clear hne
                    go_wp2_with (first | (at_builtin; refine wpList_append_own _ rfl (.tmp 63) (.tmp 64) 40 rfl wc.heap.size 5 i5 (.int .u8 0) 1 1 Try.underlying40 h5i h5z h5s h5b rfl (by decide) _ _ _ rfl ((unhide HI).own.alloc _).b ⟨wr.heap.size, 0, none⟩ 1 1 [.int .u8 32] rfl rfl ?p1 ?p2 ?p3 ?p4 ?p5 ?_))
                    case p1 => exact cell_one_new _ _ _
                    case p2 => intro u hu; simp at hu; subst hu; rfl
                    case p3 => unfold maxLen; omega
                    case p4 => omega
                    case p5 => exact ((unhide HI).own.alloc _).sz
                    intro vb0 w0 hob0 hgb0 _
                    have h3 := ((unhide HI).own.alloc _).appB (by simp) hob0 hgb0
                    obtain ⟨ab0, cb0, rfl⟩ := own_slice hob0
                    have H3 := hide h3.1
                    have HST3 := hide (((Stp.refl wc.heap.size wr).alloc (unhide HI).own.sz _).trans h3.2)
                    have g1 := unhide G1 w0 (unhide HST3)
                    have HOB0 := hide hob0
                    clear h3 hob0 hgb0
                    go_wp2_with (first | (at_builtin; refine Lib.wpList_append_own_string _ rfl (.tmp 66) (.tmp 70) 40 9 rfl wc.heap.size 5 i5 Try.underlying40 Try.underlying9 h5i h5z h5s h5b _ _ _ rfl (unhide HOB0) (ids i) rfl ?c1 ?c2 ?c3 ?_))
                    case c1 => unfold maxLen; omega
                    case c2 => omega
                    case c3 => exact (unhide H3).sz
                    intro vb1 w1 hob hgb _
                    have h4 := (unhide H3).appB (n := (bcells L).length + 1 + (ids i).size) (news := Lib.strCells (ids i)) (v' := vb1) (by rw [List.length_append, List.length_append, Lib.strCells_length]; rfl) (by rw [List.append_assoc]; exact hob) hgb
                    obtain ⟨ab1, cb1, rfl⟩ := own_slice hob
                    have H4 := hide h4.1
                    have HST4 := hide ((unhide HST3).trans h4.2)
                    clear h4 hob hgb g1 H3 HST3 HOB0
                    go_wp2_with (first | (at_builtin; refine wpList_append_own _ rfl (.tmp 72) (.tmp 75) 41 rfl wc.heap.size 3 i3 (.int .i64 0) 1 8 Try.underlying41 h3i h3z h3s h3b rfl (by decide) _ _ _ rfl ((unhide H4).alloc _).e ⟨w1.heap.size, 0, none⟩ 1 1 [.int .i64 (((bcells L).length : Int) + 1 + ((ids i).size : Int))] rfl rfl ?d1 ?d2 ?d3 ?d4 ?d5 ?_))
                    case d1 => exact cell_one_new _ _ _
                    case d2 => intro u hu; simp at hu; subst hu; rfl
                    case d3 => unfold maxLen; omega
                    case d4 => omega
                    case d5 => exact ((unhide H4).alloc _).sz
                    intro ve1 w2 hoe hge _
                    have h5 := ((unhide H4).alloc _).appE (by simp) hoe hge
                    obtain ⟨ae1, ce1, rfl⟩ := own_slice hoe
                    have H5 := hide h5.1
                    have HST5 := hide (((unhide HST4).alloc (unhide H4).sz _).trans h5.2)
                    clear h5 hoe hge H4 HST4
                    have g3 := unhide G3 w2 (unhide HST5)
                    have g4 := unhide G4 w2 (unhide HST5)
                    generalize hndi : nd i = ndi at g3 tne
                    generalize hndp : nd (i - 1) = ndp at g4 tne
                    have HNI := hide hndi
                    have HNP := hide hndp
                    clear hndi hndp
                    go_wp2_with fail
                    go_quiet (fail)
                    go_wp2_with (first | (at_builtin; refine wpList_append_own _ rfl (.tmp 100) (.tmp 105) 43 rfl wc.heap.size 21 i21 (.int .i32 0) 1 4 Try.underlying43 h21i h21z h21s h21b rfl (by decide) _ _ _ rfl (((unhide H5).drewN nq).alloc _).o ⟨w2.heap.size, 0, none⟩ 1 1 [.int .i32 ((Sv.length : Int) - 1)] rfl rfl ?f1 ?f2 ?f3 ?f4 ?f5 ?_))
                    case f1 => exact cell_one_new _ _ _
                    case f2 => intro u hu; simp at hu; subst hu; rfl
                    case f3 => unfold maxLen; omega
                    case f4 => omega
                    case f5 => exact (((unhide H5).drewN nq).alloc _).sz
                    intro vo1 w5 hoo hgo _
                    have h8 := (((unhide H5).drewN nq).alloc _).appO (by simp) hoo hgo
                    have H8 := hide h8.1
                    have HST8 := hide ((((unhide HST5).drewN nq).alloc ((unhide H5).drewN nq).sz _).trans h8.2)
                    clear h8 hoo hgo H5 HST5
                    have hfin := (unhide HI).finish hji [32] [] (unhide HST8) (.inr ⟨hjlt, rfl⟩) (.inr ⟨rfl, hjlt, unhide HNE⟩) (unhide H8) (by rw [bcells_str, bcells_sp, bcells_app]) (ecells_one _ _ _ (by rw [List.length_append, List.length_append, bcells_len, Array.length_toList]; simp)) (by simp) (ocells_one _ _ _ (by rw [List.append_nil]; have := hSpos; omega))
                    have HFIN := hide hfin
                    have HBF := hide ((unhide HBW).trans (unhide HST8).bel)
                    clear hfin H8 HST8
                    go_wp2
                    go_roundw
                    case rel =>
                      obtain ⟨L', EL', Sv', OL', hI'⟩ := unhide HFIN
                      exact ⟨i + 1, L', EL', Sv', OL', by omega, by omega, by go_num, hI', unhide HBF⟩
                    case measure => simp [intOf]; omega
                  · have tne : (nd i != nd (i - 1)) = true := by rw [bne_iff_ne]; exact hne
                    clear hne
                    go_wp2_with (first | (at_builtin; refine wpList_append_own _ rfl (.tmp 63) (.tmp 64) 40 rfl wc.heap.size 5 i5 (.int .u8 0) 1 1 Try.underlying40 h5i h5z h5s h5b rfl (by decide) _ _ _ rfl ((unhide HI).own.alloc _).b ⟨wr.heap.size, 0, none⟩ 1 1 [.int .u8 32] rfl rfl ?p1 ?p2 ?p3 ?p4 ?p5 ?_))
                    case p1 => exact cell_one_new _ _ _
                    case p2 => intro u hu; simp at hu; subst hu; rfl
                    case p3 => unfold maxLen; omega
                    case p4 => omega
                    case p5 => exact ((unhide HI).own.alloc _).sz
                    intro vb0 w0 hob0 hgb0 _
                    have h3 := ((unhide HI).own.alloc _).appB (by simp) hob0 hgb0
                    obtain ⟨ab0, cb0, rfl⟩ := own_slice hob0
                    have H3 := hide h3.1
                    have HST3 := hide (((Stp.refl wc.heap.size wr).alloc (unhide HI).own.sz _).trans h3.2)
                    have g1 := unhide G1 w0 (unhide HST3)
                    have HOB0 := hide hob0
                    clear h3 hob0 hgb0
                    go_wp2_with (first | (at_builtin; refine Lib.wpList_append_own_string _ rfl (.tmp 66) (.tmp 70) 40 9 rfl wc.heap.size 5 i5 Try.underlying40 Try.underlying9 h5i h5z h5s h5b _ _ _ rfl (unhide HOB0) (ids i) rfl ?c1 ?c2 ?c3 ?_))
                    case c1 => unfold maxLen; omega
                    case c2 => omega
                    case c3 => exact (unhide H3).sz
                    intro vb1 w1 hob hgb _
                    have h4 := (unhide H3).appB (n := (bcells L).length + 1 + (ids i).size) (news := Lib.strCells (ids i)) (v' := vb1) (by rw [List.length_append, List.length_append, Lib.strCells_length]; rfl) (by rw [List.append_assoc]; exact hob) hgb
                    obtain ⟨ab1, cb1, rfl⟩ := own_slice hob
                    have H4 := hide h4.1
                    have HST4 := hide ((unhide HST3).trans h4.2)
                    clear h4 hob hgb g1 H3 HST3 HOB0
                    go_wp2_with (first | (at_builtin; refine wpList_append_own _ rfl (.tmp 72) (.tmp 75) 41 rfl wc.heap.size 3 i3 (.int .i64 0) 1 8 Try.underlying41 h3i h3z h3s h3b rfl (by decide) _ _ _ rfl ((unhide H4).alloc _).e ⟨w1.heap.size, 0, none⟩ 1 1 [.int .i64 (((bcells L).length : Int) + 1 + ((ids i).size : Int))] rfl rfl ?d1 ?d2 ?d3 ?d4 ?d5 ?_))
                    case d1 => exact cell_one_new _ _ _
                    case d2 => intro u hu; simp at hu; subst hu; rfl
                    case d3 => unfold maxLen; omega
                    case d4 => omega
                    case d5 => exact ((unhide H4).alloc _).sz
                    intro ve1 w2 hoe hge _
                    have h5 := ((unhide H4).alloc _).appE (by simp) hoe hge
                    obtain ⟨ae1, ce1, rfl⟩ := own_slice hoe
                    have H5 := hide h5.1
                    have HST5 := hide (((unhide HST4).alloc (unhide H4).sz _).trans h5.2)
                    clear h5 hoe hge H4 HST4
                    have g3 := unhide G3 w2 (unhide HST5)
                    have g4 := unhide G4 w2 (unhide HST5)
                    generalize hndp : nd (i - 1) = ndp at g4 tne
                    clear hndp
                    go_wp2_with fail
                    go_quiet (fail)
                    clear g4 tne
                    go_wp2_with fail
                    refine (setOf_any (nd i) _).mono ?_
                    rintro e w3 ⟨sv, rfl, hsv, hb3⟩
                    obtain ⟨sa, sm, rfl⟩ := hsv.form
                    have H6 := hide (((unhide H5).drewN nq).call hb3)
                    have HST6 := hide (((unhide HST5).drewN nq).call hb3 ((unhide H5).drewN nq).sz)
                    have HSV := hide hsv
                    clear hb3 hsv H5 HST5 g3
                    go_wp2_with (first | (at_builtin; refine wpList_append_own _ rfl (.tmp 92) (.tmp 98) 42 rfl wc.heap.size 32 i32 (.agg #[.slice none 0 0]) 1 24 Try.underlying42 h32i h32z h32s h32b rfl (by decide) _ _ _ rfl ((unhide H6).alloc _).s ⟨w3.heap.size, 0, none⟩ 1 1 [.slice sa sm sm] rfl rfl ?e1 ?e2 ?e3 ?e4 ?e5 ?_))
                    case e1 => exact cell_one_new _ _ _
                    case e2 => intro u hu; simp at hu; subst hu; rfl
                    case e3 => unfold maxLen; omega
                    case e4 => omega
                    case e5 => exact ((unhide H6).alloc _).sz
                    intro vs1 w4 hos hgs _
                    have h7 := ((unhide H6).alloc _).appS (by simp) hos hgs
                    obtain ⟨as1, cs1, rfl⟩ := own_slice hos
                    have H7 := hide h7.1
                    have HST7 := hide (((unhide HST6).alloc (unhide H6).sz _).trans h7.2)
                    have HSV7 := hide ((((Stp.refl wc.heap.size w3).alloc (unhide H6).sz _).trans h7.2).set _ _ (unhide HSV))
                    clear h7 hos hgs H6 HST6 HSV
                    go_wp2_with (first | (at_builtin; refine wpList_append_own _ rfl (.tmp 100) (.tmp 105) 43 rfl wc.heap.size 21 i21 (.int .i32 0) 1 4 Try.underlying43 h21i h21z h21s h21b rfl (by decide) _ _ _ rfl ((unhide H7).alloc _).o ⟨w4.heap.size, 0, none⟩ 1 1 [.int .i32 (Sv.length : Int)] rfl rfl ?f1 ?f2 ?f3 ?f4 ?f5 ?_))
                    case f1 => exact cell_one_new _ _ _
                    case f2 => intro u hu; simp at hu; subst hu; rfl
                    case f3 => unfold maxLen; omega
                    case f4 => omega
                    case f5 => exact ((unhide H7).alloc _).sz
                    intro vo1 w5 hoo hgo _
                    have h8 := ((unhide H7).alloc _).appO (by simp) hoo hgo
                    have H8 := hide h8.1
                    have HST8 := hide (((unhide HST7).alloc (unhide H7).sz _).trans h8.2)
                    have HSV8 := hide ((((Stp.refl wc.heap.size w4).alloc (unhide H7).sz _).trans h8.2).set _ _ (unhide HSV7))
                    clear h8 hoo hgo H7 HST7 HSV7
                    have hfin := (unhide HI).finish hji [32] [.slice sa sm sm] (unhide HST8) (.inr ⟨hjlt, rfl⟩) (.inl ⟨_, rfl, unhide HSV8⟩) (unhide H8) (by rw [bcells_str, bcells_sp, bcells_app]) (ecells_one _ _ _ (by rw [List.length_append, List.length_append, bcells_len, Array.length_toList]; simp)) rfl (ocells_one _ _ _ (by simp))
                    have HFIN := hide hfin
                    have HBF := hide ((unhide HBW).trans (unhide HST8).bel)
                    clear hfin H8 HST8 HSV8
                    go_wp2
                    go_roundw
                    case rel =>
                      obtain ⟨L', EL', Sv', OL', hI'⟩ := unhide HFIN
                      exact ⟨i + 1, L', EL', Sv', OL', by omega, by omega, by go_num, hI', unhide HBF⟩
                    case measure => simp [intOf]; omega
              · obtain rfl : i = q := by omega
                obtain ⟨b0, off0, ha0, hbl0, hc0⟩ := (unhide R0) (by have := unhide CN; have := cnt_lt st j n (by omega) ((unhide HH).stk hlt); omega)
                subst ha0
                have hcj : cnt st j < l0 := by have := unhide CN; have := cnt_lt st j n (by omega) ((unhide HH).stk hlt); omega
                have hg0 : w.cell? ⟨b0, off0 + cnt st j, none⟩ = some (.string (res (cnt st j))) := hc0 _ hcj
                have hcj' : (cnt st j : Int) < (l0 : Int) := by omega
                have hbi : BI w wc.heap.size (.slice ab (bcells L).length cb) L wr := ⟨(unhide HH).bel.trans ((unhide HBW).mono hwsz), by have := (unhide HI).own.b; rw [bcells_len] at this ⊢; exact this⟩
                have hown := own_bel (unhide HH).own (unhide HBW)
                have hsm : nr ≤ 65536 := by have := (unhide HH).small; omega
                have HG0 := hide hg0
                have HBI := hide hbi
                have HOWN := hide hown
                clear hg0 hbi hown hc0
                go_wp2_with fail
                go_region_held3 (fun w' => w'.cell? ⟨b0, off0 + cnt st j, none⟩ = some (.string (res (cnt st j))) ∧ (convert 40 9 (.slice ab (bcells L).length cb)).run Try.prog w' = .ok (.string ⟨L.toArray⟩) w' ∧ BI w wc.heap.size (.slice ab (bcells L).length cb) L w')
                  (first | exact (unhide HBI).drew.all hbl0 (unhide HG0) | exact (unhide HBI).all hbl0 (unhide HG0) | (go_split_ands; exact (BI.alloc (by assumption) _).all hbl0 (unhide HG0)) | (go_split_ands; exact (BI.grown hgrow (((unhide HOWN).alloc _).alloc _) (by assumption)).all hbl0 (unhide HG0)))
                  (first
                    | (go_at_call 14; refine (newRun_any _ _ _ _ _ _ _ _ _ _ _ _ _).mono ?_; rintro e w' ⟨rfl, rfl⟩)
                    | (refine step_append_lies _ (by rfl) (.tmp 107) (.tmp 121) 26 (by rfl) w.heap.size 46 i46 (.agg #[.int .i64 0, .string ⟨#[]⟩, .string ⟨#[]⟩, .slice none 0 0, .slice none 0 0, .slice none 0 0]) 6 112 Try.underlying26 h46i h46z h46s h46b rfl (by decide) u13 nr xs (by rfl) (((unhide HOWN).alloc _).alloc _) ⟨wr.heap.size + 1, 0, none⟩ 1 1 (runCells (IntKind.i64.wrap ((j : Int) - (k : Int))) (res (cnt st j)) ⟨L.toArray⟩ (.slice ae (ecells EL).length ce) (.slice asx Sv.length csx) (.slice ao (ocells OL).length co)) (by rfl) (by rfl) (new_run _ _ _ _ _ _ _ _) (runCells_one _ _ _ _ _ _ _ _ _ _ _ _) (by omega) (by unfold maxLen; omega) (by omega) (by simp; omega) (wr.heap.size + 2) (by simp) ?_; intro gx capx w1 hown1 hgrow hat hltx) | fail)
                have hnext := (unhide HH).next (unhide HBW) (unhide HI) hjq hqh (unhide HFL) (unhide HSQ) (by omega) htot (by rw [IntWalk.i64_in _ ⟨by omega, by omega⟩]; omega) hown1 hgrow
                have hcq : (cnt st i : Int) - 1 = (cnt st j : Int) := by
                  have := cnt_flat st j (i - j - 1) ((unhide HH).stk hlt) (fun t h1 h2 => unhide HFL t h1 (by omega))
                  rw [show j + 1 + (i - j - 1) = i by omega] at this
                  omega
                have HN := hide hnext
                have HCQ := hide hcq
                clear hnext hcq hown1 hgrow hat hltx HBI HOWN HG0 HI HBW
                go_split_ands
                go_wp2
                go_roundw
                case rel =>
                  obtain ⟨P', C', hh'⟩ := unhide HN
                  exact ⟨i, nr + 1, _, P', C', rfl, congrArg (Value.int IntKind.i64) (unhide HCQ).symm, hh'⟩
                case measure => simp [intOf]; omega
        · obtain rfl : j = hi := by omega
          obtain ⟨av, cvv, rfl⟩ := own_sliceN (unhide HH).own
          have hbox := (unhide HH).box.alloc (.cells #[.slice av nr cvv, .int .i64 ((j : Int) - (k : Int))] 28)
          have k0 := hbox.cell 0
          have k1 := hbox.cell 1
          simp only [List.getElem?_toArray, List.getElem?_cons_zero, List.getElem?_cons_succ] at k0 k1
          have f0 := hbox.frozen 0
          have f1 := hbox.frozen 1
          have h2 := (hbox.setSame 0 (.slice av nr cvv)).setSame 1 (.int .i64 ((j : Int) - (k : Int)))
          have d0 := h2.cell 0
          have d1 := h2.cell 1
          simp only [List.setIfInBounds_toArray, List.set_cons_zero, List.set_cons_succ, List.getElem?_toArray, List.getElem?_cons_zero, List.getElem?_cons_succ] at d0 d1
          have hne : ∀ g cs e, e ≠ 28 → Blk wr g cs e → Blk (((wr.alloc (.cells #[.slice av nr cvv, .int .i64 ((j : Int) - (k : Int))] 28)).setCell ⟨w.heap.size, 0, none⟩ (.slice av nr cvv)).setCell ⟨w.heap.size, 1, none⟩ (.int .i64 ((j : Int) - (k : Int)))) g cs e := fun g cs e he hb => by
            have hb' := hb.alloc (.cells #[.slice av nr cvv, .int .i64 ((j : Int) - (k : Int))] 28)
            have hn := hb'.ne hbox he
            exact (hb'.setOther hn _).setOther hn _
          have hbel : Bel w.heap.size w (((wr.alloc (.cells #[.slice av nr cvv, .int .i64 ((j : Int) - (k : Int))] 28)).setCell ⟨w.heap.size, 0, none⟩ (.slice av nr cvv)).setCell ⟨w.heap.size, 1, none⟩ (.int .i64 ((j : Int) - (k : Int)))) :=
            (((unhide HH).bel.alloc (unhide HH).bel.size _).setCell (Nat.le_refl _) _).setCell (Nat.le_refl _) _
          have HNE := hide hne
          have HBEL := hide hbel
          clear hbox h2 hne hbel
          go_wp2_with fail
          refine (newList_any _ _ _ _ _).mono ?_
          rintro e w' ⟨rfl, rfl⟩
          go_wp2
          refine bodyPost_ret (v := .agg #[.slice av nr cvv, .int .i64 ((j : Int) - (k : Int))]) (by simp [results, Try.results8, go_sem, d0, d1]) rfl ⟨av, nr, cvv, rfl, unhide HBEL, fun hl => ?_⟩
          exact (unhide HH).list (by omega) hl (fun g cs e he hb => unhide HNE g cs e (by rcases he with rfl | rfl | rfl | rfl <;> decide) hb) (fun g cs hb => unhide HNE g cs 46 (by decide) hb)
end Go.Proofs.Qxb6632322a
