import Derived.Test.Qxb6632322aMem
import Derived.Laws.BytesArg
import Derived.Lib.Strings
namespace Go.Proofs.Qxb6632322a
open Go.RowKit
set_option linter.unusedVariables false

variable {w w' : World} {H : Nat} {vb ve vs vo : Value} {ids : Nat → ByteArray} {nd : Nat → Int} {k e : Nat} {L : List UInt8} {EL : List Nat} {Sv : List Value} {OL : List Nat}

theorem conv_buf (h : w.ownsRow H 5 1 vb L.length (bcells L)) : (convert 40 9 vb).run Try.prog w = .ok (.string ⟨L.toArray⟩) w := by
  have h' := h
  rcases h.2 with ⟨rfl, hL⟩ | ⟨g, cap, cur, rfl, _⟩
  · obtain rfl : L = [] := List.eq_nil_of_length_eq_zero hL
    exact run_convert_bytes_nil (P := Try.prog) w 40 5 Try.underlying40 Try.underlying5 0 0 9 Try.underlying9
  · refine run_convert_bytes_back w 40 9 5 ⟨g, 0, none⟩ cap L Try.underlying40 Try.underlying5 Try.underlying9 fun j hj => ?_
    rw [Addr.add_lit, Nat.zero_add, h'.cellAt j (by omega)]
    simp [bcells, hj]

theorem extract_list (L : List UInt8) (b E : Nat) (s : ByteArray) (h : (L.drop b).take (E - b) = s.data.toList) : (⟨L.toArray⟩ : ByteArray).extract b E = s := by
  apply ByteArray.ext
  apply Array.ext'
  rw [Lib.extract_data, ← h]

theorem Inn.done (h : Inn w H ids nd k e vb ve vs vo L EL Sv OL) (hk : k < e) (he : e ≤ 65536) (ht : tot ids e ≤ 1048576) :
    ∃ ge ce gs cs go co aE aS aO, ve = .slice (some ⟨ge, 0, none⟩) (e - k) ce ∧ vs = .slice (some ⟨gs, 0, none⟩) Sv.length cs ∧ vo = .slice (some ⟨go, 0, none⟩) (e - k) co ∧
      ∀ c : Nat → Value, c 2 = .string ⟨L.toArray⟩ → c 3 = ve → c 4 = vs → c 5 = vo → RunMem w ids nd k (e - k) c ⟨L.toArray⟩ (fun i => EL.getD i 0) (fun i => OL.getD i 0) aE aS aO ge ce gs Sv.length cs go co := by
  have hll := h.ll
  have hsl := h.sl
  have hS : 0 < Sv.length := by
    obtain ⟨_, _, _, d4, _⟩ := h.dev 0 (by omega)
    omega
  have oe := h.own.e
  have os := h.own.s
  have oo := h.own.o
  rw [ecells_len, h.el] at oe
  rw [ocells_len, h.ol] at oo
  obtain ⟨ge, ce, rfl, _⟩ := oe.form (by omega)
  obtain ⟨gs, cs, rfl, _⟩ := os.form hS
  obtain ⟨go, co, rfl, _⟩ := oo.form (by omega)
  obtain ⟨aE, bE, hE⟩ := own_blk oe
  obtain ⟨aS, bS, hSv⟩ := own_blk os
  obtain ⟨aO, bO, hO⟩ := own_blk oo
  refine ⟨ge, ce, gs, cs, go, co, aE, aS, aO, rfl, rfl, rfl, fun c c2 c3 c4 c5 => ⟨c2, c3, c4, c5, bE, bS, bO, by omega, by omega, ?_, fun i hi => ?_⟩⟩
  · show L.toArray.size ≤ _
    simp; omega
  · obtain ⟨d1, d2, d3, d4, sv, d5, d6⟩ := h.dev i hi
    refine ⟨?_, d2, ?_, extract_list L _ _ _ d3, d4, ?_, sv, ?_, d6⟩
    · rw [hE i hi]; simp [ecells, List.getD, show i < EL.length by rw [h.el]; exact hi]
    · show _ ≤ L.toArray.size
      simpa using d1
    · rw [hO i hi]; simp [ocells, List.getD, show i < OL.length by rw [h.ol]; exact hi]
    · rw [hSv _ d4]; exact d5

end Go.Proofs.Qxb6632322a
