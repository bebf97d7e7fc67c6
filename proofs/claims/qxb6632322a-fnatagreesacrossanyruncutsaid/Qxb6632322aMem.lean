import Derived.Test.Qxb6632322aList
import Derived.Laws.IdiomStrings
namespace Go.Proofs.Qxb6632322a
open Go.RowKit
set_option linter.unusedVariables false

theorem newRun_any (f : Int) (r s : ByteArray) (a1 a2 a3 : Option Addr) (n1 c1 n2 c2 n3 c3 : Nat) (w : World) :
    Calls Try.prog 14 #[.int .i64 f, .string r, .string s, .slice a1 n1 c1, .slice a2 n2 c2, .slice a3 n3 c3] w fun e w' =>
      e = .returned (.agg #[.int .i64 f, .string r, .string s, .slice a1 n1 c1, .slice a2 n2 c2, .slice a3 n3 c3]) ∧ w' = w.alloc (.cells #[.int .i64 f, .string r, .string s, .slice a1 n1 c1, .slice a2 n2 c2, .slice a3 n3 c3] 46) := by
  go_enter Try.func14, Try.ntmps14
  go_wp2
  exact bodyPost_ret (v := .agg #[.int .i64 f, .string r, .string s, .slice a1 n1 c1, .slice a2 n2 c2, .slice a3 n3 c3]) (by simp [results, Try.results14, go_sem]) rfl ⟨rfl, rfl⟩

theorem newList_any (a1 : Option Addr) (n1 c1 : Nat) (m : Int) (w : World) :
    Calls Try.prog 15 #[.slice a1 n1 c1, .int .i64 m] w fun e w' => e = .returned (.agg #[.slice a1 n1 c1, .int .i64 m]) ∧ w' = w.alloc (.cells #[.slice a1 n1 c1, .int .i64 m] 28) := by
  go_enter Try.func15, Try.ntmps15
  go_wp2
  exact bodyPost_ret (v := .agg #[.slice a1 n1 c1, .int .i64 m]) (by simp [results, Try.results15, go_sem]) rfl ⟨rfl, rfl⟩

/-- The four slices of a run that is being built: bytes, ends, sets, places. -/
structure Own4 (w : World) (H : Nat) (vb ve vs vo : Value) (xb xe xs xo : List Value) : Prop where
  b : w.ownsRow H 5 1 vb xb.length xb
  e : w.ownsRow H 3 1 ve xe.length xe
  s : w.ownsRow H 32 1 vs xs.length xs
  o : w.ownsRow H 21 1 vo xo.length xo
  sz : H ≤ w.heap.size

/-- A step that turns nothing below H and no set's word. -/
structure Stp (H : Nat) (w w' : World) : Prop where
  bel : Bel H w w'
  set : ∀ sv b, SetOK w sv b → SetOK w' sv b

theorem Stp.refl (H : Nat) (w : World) : Stp H w w := ⟨Bel.refl _ _, fun _ _ h => h⟩
theorem Stp.trans {H : Nat} {a b c : World} (h : Stp H a b) (k : Stp H b c) : Stp H a c := ⟨h.bel.trans k.bel, fun sv x hs => k.set sv x (h.set sv x hs)⟩
theorem Stp.drewN {H : Nat} {a w : World} (h : Stp H a w) (n : Nat) : Stp H a (w.drewN n) := ⟨h.bel.drewN n, fun sv b hs => h.set sv b hs⟩
theorem Stp.drew {H : Nat} {a w : World} (h : Stp H a w) : Stp H a w.drew := ⟨h.bel.drew, fun sv b hs => h.set sv b hs⟩
theorem Stp.call {H : Nat} {a w w' : World} (h : Stp H a w) (hb : Bel w.heap.size w w') (hH : H ≤ w.heap.size) : Stp H a w' :=
  h.trans ⟨hb.mono hH, fun _ _ hs => hs.bel hb⟩
theorem Stp.alloc {H : Nat} {a w : World} (h : Stp H a w) (hH : H ≤ w.heap.size) (o : Obj) : Stp H a (w.alloc o) :=
  h.call ((Bel.refl _ _).alloc (Nat.le_refl _) o) hH

/-- Behind an append to a row of another element type than words. -/
theorem Stp.grown {H : Nat} {w w' : World} {e : TypeId} {size : Nat} {v : Value} {n : Nat} {xs : List Value} (hown : w.ownsRow H e size v n xs) (hne : 58 ≠ e) (hg : w.grownBy w' v.ownBlock) (hH : H ≤ w.heap.size) : Stp H w w' :=
  ⟨(Bel.refl _ _).grown hg hH fun k hk => (hown.lt k hk).1, fun sv b hs => by
    rcases hs with hs | ⟨h0, g, rfl, hb⟩
    · exact .inl hs
    · exact .inr ⟨h0, g, rfl, hb.grown hg (own_ne hown hb hne)⟩⟩

variable {w w' : World} {H : Nat} {vb ve vs vo : Value} {xb xe xs xo : List Value}

theorem own_bel {w w' : World} {H : Nat} {e : TypeId} {size : Nat} {v : Value} {n : Nat} {xs : List Value} (h : w.ownsRow H e size v n xs) (hb : Bel w.heap.size w w') : w'.ownsRow H e size v n xs := by
  refine ⟨h.1, ?_⟩
  rcases h.2 with hn | ⟨g, cap, cur, rfl, hbb, hgg, rest⟩
  · exact .inl hn
  · exact .inr ⟨g, cap, cur, rfl, hbb, (hb.block g (Array.getElem?_eq_some_iff.1 hgg).1).trans hgg, rest⟩

theorem Own4.call (h : Own4 w H vb ve vs vo xb xe xs xo) (hb : Bel w.heap.size w w') : Own4 w' H vb ve vs vo xb xe xs xo :=
  ⟨own_bel h.b hb, own_bel h.e hb, own_bel h.s hb, own_bel h.o hb, Nat.le_trans h.sz hb.size⟩
theorem Own4.alloc (h : Own4 w H vb ve vs vo xb xe xs xo) (o : Obj) : Own4 (w.alloc o) H vb ve vs vo xb xe xs xo := h.call ((Bel.refl _ _).alloc (Nat.le_refl _) o)
theorem Own4.drewN (h : Own4 w H vb ve vs vo xb xe xs xo) (n : Nat) : Own4 (w.drewN n) H vb ve vs vo xb xe xs xo := h.call ((Bel.refl _ _).drewN n)
theorem Own4.drew (h : Own4 w H vb ve vs vo xb xe xs xo) : Own4 w.drew H vb ve vs vo xb xe xs xo := h.call ((Bel.refl _ _).drew)

theorem Own4.appB {v' : Value} {n : Nat} {news : List Value} (h : Own4 w H vb ve vs vo xb xe xs xo) (hn : n = (xb ++ news).length) (ho : w'.ownsRow H 5 1 v' n (xb ++ news)) (hg : w.grownBy w' vb.ownBlock) : Own4 w' H v' ve vs vo (xb ++ news) xe xs xo ∧ Stp H w w' :=
  ⟨⟨hn ▸ ho, h.e.kept hg (own_own h.b h.e (by decide)), h.s.kept hg (own_own h.b h.s (by decide)), h.o.kept hg (own_own h.b h.o (by decide)), Nat.le_trans h.sz hg.size⟩, Stp.grown h.b (by decide) hg h.sz⟩
theorem Own4.appE {v' : Value} {n : Nat} {news : List Value} (h : Own4 w H vb ve vs vo xb xe xs xo) (hn : n = (xe ++ news).length) (ho : w'.ownsRow H 3 1 v' n (xe ++ news)) (hg : w.grownBy w' ve.ownBlock) : Own4 w' H vb v' vs vo xb (xe ++ news) xs xo ∧ Stp H w w' :=
  ⟨⟨h.b.kept hg (own_own h.e h.b (by decide)), hn ▸ ho, h.s.kept hg (own_own h.e h.s (by decide)), h.o.kept hg (own_own h.e h.o (by decide)), Nat.le_trans h.sz hg.size⟩, Stp.grown h.e (by decide) hg h.sz⟩
theorem Own4.appS {v' : Value} {n : Nat} {news : List Value} (h : Own4 w H vb ve vs vo xb xe xs xo) (hn : n = (xs ++ news).length) (ho : w'.ownsRow H 32 1 v' n (xs ++ news)) (hg : w.grownBy w' vs.ownBlock) : Own4 w' H vb ve v' vo xb xe (xs ++ news) xo ∧ Stp H w w' :=
  ⟨⟨h.b.kept hg (own_own h.s h.b (by decide)), h.e.kept hg (own_own h.s h.e (by decide)), hn ▸ ho, h.o.kept hg (own_own h.s h.o (by decide)), Nat.le_trans h.sz hg.size⟩, Stp.grown h.s (by decide) hg h.sz⟩
theorem Own4.appO {v' : Value} {n : Nat} {news : List Value} (h : Own4 w H vb ve vs vo xb xe xs xo) (hn : n = (xo ++ news).length) (ho : w'.ownsRow H 21 1 v' n (xo ++ news)) (hg : w.grownBy w' vo.ownBlock) : Own4 w' H vb ve vs v' xb xe xs (xo ++ news) ∧ Stp H w w' :=
  ⟨⟨h.b.kept hg (own_own h.o h.b (by decide)), h.e.kept hg (own_own h.o h.e (by decide)), h.s.kept hg (own_own h.o h.s (by decide)), hn ▸ ho, Nat.le_trans h.sz hg.size⟩, Stp.grown h.o (by decide) hg h.sz⟩

theorem own_slice {e : TypeId} {v : Value} {n : Nat} {xs : List Value} (h : w.ownsRow H e 1 v n xs) : ∃ a c, v = .slice a n c := by
  rcases h.2 with ⟨rfl, rfl⟩ | ⟨g, cap, cur, rfl, _⟩
  · exact ⟨_, _, rfl⟩
  · exact ⟨_, _, rfl⟩

/-- Bytes, numbers as cells. -/
def bcells (L : List UInt8) : List Value := L.map fun b => Value.int .u8 b.toNat
def ecells (L : List Nat) : List Value := L.map fun (n : Nat) => Value.int .i64 (n : Int)
def ocells (L : List Nat) : List Value := L.map fun (n : Nat) => Value.int .i32 (n : Int)
theorem bcells_len (L : List UInt8) : (bcells L).length = L.length := by simp [bcells]
theorem ecells_len (L : List Nat) : (ecells L).length = L.length := by simp [ecells]
theorem ocells_len (L : List Nat) : (ocells L).length = L.length := by simp [ocells]
theorem bcells_app (L M : List UInt8) : bcells L ++ bcells M = bcells (L ++ M) := by simp [bcells]
theorem ecells_app (L M : List Nat) : ecells L ++ ecells M = ecells (L ++ M) := by simp [ecells]
theorem ocells_app (L M : List Nat) : ocells L ++ ocells M = ocells (L ++ M) := by simp [ocells]
theorem bcells_str (s : ByteArray) : Lib.strCells s = bcells s.data.toList := rfl

/-- The devices k .. j-1 laid into the four slices. -/
structure Inn (w : World) (H : Nat) (ids : Nat → ByteArray) (nd : Nat → Int) (k j : Nat) (vb ve vs vo : Value) (L : List UInt8) (EL : List Nat) (Sv : List Value) (OL : List Nat) : Prop where
  own : Own4 w H vb ve vs vo (bcells L) (ecells EL) Sv (ocells OL)
  el : EL.length = j - k
  ol : OL.length = j - k
  ll : L.length ≤ tot ids j + j
  sl : Sv.length ≤ j - k
  dev : ∀ i, i < j - k → EL.getD i 0 ≤ L.length ∧ beg (fun i => EL.getD i 0) i ≤ EL.getD i 0 ∧ (L.drop (beg (fun i => EL.getD i 0) i)).take (EL.getD i 0 - beg (fun i => EL.getD i 0) i) = (ids (k + i)).data.toList ∧
    OL.getD i 0 < Sv.length ∧ ∃ sv, Sv[OL.getD i 0]? = some sv ∧ SetOK w sv (nd (k + i))
  last : (j = k ∧ L = [] ∧ Sv = []) ∨ (k < j ∧ EL.getD (j - k - 1) 0 = L.length ∧ OL.getD (j - k - 1) 0 + 1 = Sv.length)

theorem Inn.start (w : World) (ids : Nat → ByteArray) (nd : Nat → Int) (k : Nat) : Inn w w.heap.size ids nd k k (.slice none 0 0) (.slice none 0 0) (.slice none 0 0) (.slice none 0 0) [] [] [] [] :=
  ⟨⟨World.ownsRow_nil _ _ _ _, World.ownsRow_nil _ _ _ _, World.ownsRow_nil _ _ _ _, World.ownsRow_nil _ _ _ _, Nat.le_refl _⟩, by simp, by simp, Nat.zero_le _, Nat.zero_le _, fun i hi => by omega, .inl ⟨rfl, rfl, rfl⟩⟩

theorem getD_old (L : List Nat) (x i : Nat) (h : i < L.length) : (L ++ [x]).getD i 0 = L.getD i 0 := by simp [List.getD, List.getElem?_append_left h]
theorem getD_new (L : List Nat) (x : Nat) : (L ++ [x]).getD L.length 0 = x := by simp [List.getD]
theorem beg_old (L : List Nat) (x i : Nat) (h : i ≤ L.length) : beg (fun i => (L ++ [x]).getD i 0) i = beg (fun i => L.getD i 0) i := by
  cases i with
  | zero => rfl
  | succ i => show (L ++ [x]).getD i 0 + 1 = L.getD i 0 + 1; rw [getD_old L x i (by omega)]

/-- One device more. 'new': what is appended to the sets. -/
theorem Inn.step {ids : Nat → ByteArray} {nd : Nat → Int} {k j : Nat} {L : List UInt8} {EL : List Nat} {Sv : List Value} {OL : List Nat} (h : Inn w H ids nd k j vb ve vs vo L EL Sv OL) (hk : k ≤ j)
    {vb' ve' vs' vo' : Value} {gap : List UInt8} {new : List Value} (hs : Stp H w w')
    (hgap : (j = k ∧ gap = []) ∨ (k < j ∧ gap = [32]))
    (hnew : (∃ sv, new = [sv] ∧ SetOK w' sv (nd j)) ∨ (new = [] ∧ k < j ∧ nd j = nd (j - 1)))
    (ho : Own4 w' H vb' ve' vs' vo' (bcells (L ++ gap ++ (ids j).data.toList)) (ecells (EL ++ [(L ++ gap ++ (ids j).data.toList).length])) (Sv ++ new) (ocells (OL ++ [(Sv ++ new).length - 1]))) :
    Inn w' H ids nd k (j + 1) vb' ve' vs' vo' (L ++ gap ++ (ids j).data.toList) (EL ++ [(L ++ gap ++ (ids j).data.toList).length]) (Sv ++ new) (OL ++ [(Sv ++ new).length - 1]) := by
  have el := h.el
  have ol := h.ol
  have gl : gap.length ≤ 1 := by rcases hgap with ⟨_, rfl⟩ | ⟨_, rfl⟩ <;> simp
  have nl : new.length ≤ 1 := by rcases hnew with ⟨_, rfl, _⟩ | ⟨rfl, _⟩ <;> simp
  have szl : (ids j).data.toList.length = (ids j).size := Array.length_toList
  -- the new device's beginning
  have hbeg : beg (fun i => EL.getD i 0) (j - k) = (L ++ gap).length := by
    rcases h.last with ⟨rfl, hL, _⟩ | ⟨hlt, hE, _⟩
    · rcases hgap with ⟨_, rfl⟩ | ⟨hlt, _⟩
      · rw [hL, Nat.sub_self]; rfl
      · omega
    · rcases hgap with ⟨rfl, _⟩ | ⟨_, rfl⟩
      · omega
      · rw [show j - k = (j - k - 1) + 1 by omega]
        show EL.getD (j - k - 1) 0 + 1 = _
        rw [hE, List.length_append]; rfl
  have hpos : 0 < (Sv ++ new).length := by
    rcases hnew with ⟨sv, rfl, _⟩ | ⟨rfl, hlt, _⟩
    · simp
    · rcases h.last with ⟨rfl, _⟩ | ⟨_, _, hO⟩
      · omega
      · rw [List.append_nil]; omega
  generalize hx : (L ++ gap ++ (ids j).data.toList).length = x at ho ⊢
  generalize hy : (Sv ++ new).length - 1 = y at ho ⊢
  have hxl : x = L.length + gap.length + (ids j).size := by rw [← hx, List.length_append, List.length_append, szl]
  refine ⟨ho, by rw [List.length_append, el, List.length_singleton]; omega, by rw [List.length_append, ol, List.length_singleton]; omega, ?_, ?_, ?_, ?_⟩
  · rw [hx]
    have := h.ll
    show x ≤ tot ids j + (ids j).size + (j + 1)
    omega
  · have := h.sl
    rw [List.length_append]; omega
  · intro i hi
    by_cases hlt : i < j - k
    · obtain ⟨d1, d2, d3, d4, sv, d5, d6⟩ := h.dev i hlt
      rw [getD_old EL x i (by omega), getD_old OL y i (by omega), beg_old EL x i (by omega)]
      refine ⟨by rw [hx]; omega, d2, ?_, by rw [List.length_append]; omega, sv, ?_, hs.set _ _ d6⟩
      · rw [← d3, List.append_assoc, List.drop_append_of_le_length (by omega), List.take_append_of_le_length (by rw [List.length_drop]; omega)]
      · rw [List.getElem?_append_left d4]; exact d5
    · obtain rfl : i = j - k := by omega
      have e1 : (EL ++ [x]).getD (j - k) 0 = x := by rw [← el]; exact getD_new EL x
      have e2 : (OL ++ [y]).getD (j - k) 0 = y := by rw [← ol]; exact getD_new OL y
      rw [e1, e2, beg_old EL x (j - k) (by omega), hbeg, show k + (j - k) = j by omega]
      refine ⟨by rw [hx]; exact Nat.le_refl _, by rw [List.length_append]; omega, ?_, by omega, ?_⟩
      · rw [List.drop_left]
        exact List.take_of_length_le (by rw [szl, List.length_append]; omega)
      · rcases hnew with ⟨sv, rfl, hsv⟩ | ⟨rfl, hkj, hnd⟩
        · refine ⟨sv, ?_, hsv⟩
          rw [← hy, List.length_append, List.length_singleton, Nat.add_sub_cancel, List.getElem?_append_right (Nat.le_refl _)]
          simp
        · rcases h.last with ⟨rfl, _⟩ | ⟨_, _, hO⟩
          · omega
          · obtain ⟨_, _, _, _, sv, d5, d6⟩ := h.dev (j - k - 1) (by omega)
            refine ⟨sv, ?_, ?_⟩
            · rw [List.append_nil, ← hy, List.append_nil, ← d5]
              congr 1; omega
            · rw [hnd, show j - 1 = k + (j - k - 1) by omega]
              exact hs.set _ _ d6
  · right
    have e1 : (EL ++ [x]).getD (j + 1 - k - 1) 0 = x := by rw [show j + 1 - k - 1 = EL.length by omega]; exact getD_new EL x
    have e2 : (OL ++ [y]).getD (j + 1 - k - 1) 0 = y := by rw [show j + 1 - k - 1 = OL.length by omega]; exact getD_new OL y
    rw [e1, e2]
    exact ⟨by omega, hx.symm, by omega⟩

theorem ecells_one (L : List Nat) (z : Int) (m : Nat) (h : z = (m : Int)) : ecells L ++ [Value.int .i64 z] = ecells (L ++ [m]) := by subst h; simp [ecells]
theorem ocells_one (L : List Nat) (z : Int) (m : Nat) (h : z = (m : Int)) : ocells L ++ [Value.int .i32 z] = ocells (L ++ [m]) := by subst h; simp [ocells]

/-- One device more, the cells as the walk has them. -/
theorem Inn.finish {ids : Nat → ByteArray} {nd : Nat → Int} {k j : Nat} {L : List UInt8} {EL : List Nat} {Sv : List Value} {OL : List Nat} (h : Inn w H ids nd k j vb ve vs vo L EL Sv OL) (hk : k ≤ j)
    {vb' ve' vs' vo' : Value} (gap : List UInt8) (new : List Value) (hs : Stp H w w')
    (hgap : (j = k ∧ gap = []) ∨ (k < j ∧ gap = [32]))
    (hnew : (∃ sv, new = [sv] ∧ SetOK w' sv (nd j)) ∨ (new = [] ∧ k < j ∧ nd j = nd (j - 1)))
    {XB XE XS XO : List Value} (ho : Own4 w' H vb' ve' vs' vo' XB XE XS XO) (eB : XB = bcells (L ++ gap ++ (ids j).data.toList)) (eE : XE = ecells (EL ++ [(L ++ gap ++ (ids j).data.toList).length]))
    (eS : XS = Sv ++ new) (eO : XO = ocells (OL ++ [(Sv ++ new).length - 1])) :
    ∃ L' EL' Sv' OL', Inn w' H ids nd k (j + 1) vb' ve' vs' vo' L' EL' Sv' OL' := by
  subst eB; subst eE; subst eS; subst eO
  exact ⟨_, _, _, _, h.step hk hs hgap hnew ho⟩

end Go.Proofs.Qxb6632322a
