import Derived.Test.Qxb6600470aMainPlain
namespace Go.Proofs.Qxb6600470a
open Go.RowKit
set_option linter.unusedVariables false

theorem conv_own {w : World} {base : Nat} {v : Value} {l : List UInt8} (h : w.ownsRow base 5 1 v l.length (Lib.byteCells l)) :
    (convert 25 9 v).run Try.prog w = .ok (.string ⟨l.toArray⟩) w := by
  have hs := h
  rcases hs.2 with ⟨rfl, h0⟩ | ⟨g, cap, cur, rfl, r⟩
  · have e : l = [] := List.eq_nil_of_length_eq_zero h0
    subst e
    rw [run_convert_bytes_string w 25 9 5 none 0 0 Try.underlying25 Try.underlying5 Try.underlying9]
    simp [Conv.bytesToString]
    rfl
  · rw [run_convert_bytes_string w 25 9 5 _ _ _ Try.underlying25 Try.underlying5 Try.underlying9]
    have hm : Lib.byteCells l = (l.map (fun c => (c.toNat : Int))).map (Value.int .u8) := by simp [Lib.byteCells]
    have hl := run_loadCells_list (P := Try.prog) (w := w) ⟨g, 0, none⟩ (Lib.byteCells l) (h.cells rfl)
    rw [Lib.byteCells_length, hm] at hl
    rw [run_bytesToString w ⟨g, 0, none⟩ l.length cap _ hl, fold_push]
    simp
end Go.Proofs.Qxb6600470a
