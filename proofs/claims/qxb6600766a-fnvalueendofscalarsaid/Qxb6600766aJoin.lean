import Derived.Test.Qxb6600766aText
namespace Go.Proofs.Qxb6600766a
open Go.RowKit
set_option linter.unusedVariables false

theorem inf5 : (Try.prog.info? 5).map (fun i => (i.zero, i.size, i.bytes)) = some (some (.int .u8 0), 1, 1) := by kernel_rfl

/-- What is read at a slice of bytes, wherever it lies (nil too). -/
def Src (w : World) (ao : Option Addr) (n cap : Nat) (l : List UInt8) : Prop :=
  l.length = n ∧ (ao = none → n = 0 ∧ cap = 0) ∧ ∀ ad, ao = some ad → ∀ j u, (Lib.byteCells l)[j]? = some u → w.cell? (ad.add j) = some u

theorem Src.later {w w' : World} {ao : Option Addr} {n cap : Nat} {l : List UInt8} (h : Src w ao n cap l) (hb : Below w.heap.size w w') : Src w' ao n cap l :=
  ⟨h.1, h.2.1, fun ad ha j u hj => cell_later hb (h.2.2 ad ha j u hj)⟩

theorem Src.nil (w : World) : Src w none 0 0 [] := ⟨rfl, fun _ => ⟨rfl, rfl⟩, fun ad h => by cases h⟩

theorem Src.own {w : World} {B g n cap : Nat} {l : List UInt8} (h : w.ownsRow B 5 1 (.slice (some ⟨g, 0, none⟩) n cap) n (Lib.byteCells l)) : Src w (some ⟨g, 0, none⟩) n cap l := by
  refine ⟨?_, (fun h => by cases h), fun ad ha => ?_⟩
  · have := h.1; rw [Lib.byteCells_length] at this; omega
  · obtain rfl : ad = ⟨g, 0, none⟩ := by simpa using ha.symm
    exact h.cells rfl

theorem byteCells_one (l : List UInt8) : ∀ u ∈ Lib.byteCells l, u.oneCell' = true := by
  intro u hu
  rw [Lib.byteCells, List.mem_map] at hu
  obtain ⟨c, _, rfl⟩ := hu
  rfl

theorem holds_own {w : World} {B g n cap : Nat} {l : List UInt8} (h : w.ownsRow B 5 1 (.slice (some ⟨g, 0, none⟩) n cap) n (Lib.byteCells l)) : Holds w g 0 l := by
  intro i hi
  have hn : n = l.length := by have := h.1; rw [Lib.byteCells_length] at this; omega
  rw [Nat.zero_add, h.cellAt i (by omega)]
  simp [Lib.byteCells, List.getElem?_eq_getElem hi]

def JoinPost (w : World) (n : Nat) (l : List UInt8) (e : Ending) (w' : World) : Prop :=
  e = .returned (.slice (some ⟨w.heap.size, 0, none⟩) n n) ∧ w'.ownsRow w.heap.size 5 1 (.slice (some ⟨w.heap.size, 0, none⟩) n n) n (Lib.byteCells l) ∧ Below w.heap.size w w'

set_option maxHeartbeats 1000000 in
theorem joinThree_any (a1 a2 a3 : Option Addr) (n1 c1 n2 c2 n3 c3 : Nat) (l1 l2 l3 : List UInt8) (w : World)
    (h1 : Src w a1 n1 c1 l1) (h2 : Src w a2 n2 c2 l2) (h3 : Src w a3 n3 c3 l3) (hn : n1 + n2 + n3 ≤ 1099511627776) :
    Calls Try.prog 11 #[.slice a1 n1 c1, .slice a2 n2 c2, .slice a3 n3 c3] w (JoinPost w (n1 + n2 + n3) (l1 ++ (l2 ++ l3))) := by
  obtain ⟨i0, hi, hz0, hz1, hz2⟩ := info_parts inf5
  go_enter Try.func11, Try.ntmps11
  go_wp2_with (at_make; go_must (refine wpList_make_own _ rfl _ _ 22 rfl w.heap.size 5 i0 (.int .u8 0) 1 Try.underlying22 hi hz0 hz1 .i64 .i64 _ (n1 + n2 + n3) rfl rfl (by omega) ?a1 ?a2 ?a3 ?_))
  case a1 => rw [hz2]; omega
  case a2 => unfold maxLen; omega
  case a3 => exact Nat.le_refl _
  intro wa hown hgrow
  have hba : Below w.heap.size w wa := (Below.refl _ w).grown hgrow (Nat.le_refl _) (fun k hk => by cases hk)
  clear hgrow
  have k1 := h1.later hba
  go_wp2_with (at_builtin; go_must (refine wpList_append_fits_any _ rfl _ _ 22 rfl w.heap.size 5 i0 1 Try.underlying22 hi hz1 w.heap.size 0 (n1 + n2 + n3) [] rfl hown a1 n1 c1 (Lib.byteCells l1) rfl ?b1 k1.2.1 k1.2.2 (byteCells_one _) ?b2 ?_))
  case b1 => rw [Lib.byteCells_length, k1.1]; omega
  case b2 => omega
  intro wb hown2 hgrow2
  have hbb : Below w.heap.size w wb := hba.grown hgrow2 hba.size (fun k hk => by cases hk; exact Nat.le_refl _)
  clear hgrow2 k1
  have k2 := h2.later hbb
  go_wp2_with (at_builtin; go_must (refine wpList_append_fits_any _ rfl _ _ 22 rfl w.heap.size 5 i0 1 Try.underlying22 hi hz1 w.heap.size n1 (n1 + n2 + n3) (Lib.byteCells l1) rfl hown2 a2 n2 c2 (Lib.byteCells l2) rfl ?d1 k2.2.1 k2.2.2 (byteCells_one _) ?d2 ?_))
  case d1 => rw [Lib.byteCells_length, k2.1]; omega
  case d2 => omega
  intro wc hown3 hgrow3
  have hbc : Below w.heap.size w wc := hbb.grown hgrow3 hbb.size (fun k hk => by cases hk; exact Nat.le_refl _)
  clear hgrow3 k2
  have k3 := h3.later hbc
  go_wp2_with (at_builtin; go_must (refine wpList_append_fits_any _ rfl _ _ 22 rfl w.heap.size 5 i0 1 Try.underlying22 hi hz1 w.heap.size (n1 + n2) (n1 + n2 + n3) (Lib.byteCells l1 ++ Lib.byteCells l2) rfl hown3 a3 n3 c3 (Lib.byteCells l3) rfl ?e1 k3.2.1 k3.2.2 (byteCells_one _) ?e2 ?_))
  case e1 => rw [Lib.byteCells_length, k3.1]; omega
  case e2 => omega
  intro wd hown4 hgrow4
  have hbd : Below w.heap.size w wd := hbc.grown hgrow4 hbc.size (fun k hk => by cases hk; exact Nat.le_refl _)
  rw [← Lib.byteCells_append, ← Lib.byteCells_append] at hown4
  clear hgrow4 k3
  go_wp2
  go_ret
  exact ⟨rfl, hown4, hbd⟩

end Go.Proofs.Qxb6600766a
