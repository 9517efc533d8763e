import Derived.Test.Qxb6600470aRows
import Derived.WalkKit
import Derived.WalkSpells
import Derived.WalkLawsBesides
import Derived.Below
import Derived.BigQuiet
namespace Go.Proofs.Qxb6600470a
open Go.RowKit
set_option linter.unusedVariables false

/-- The slice at 'a' shows at place i (below 'len') the value 'f i', in a block below B. -/
def Shows (B : Nat) (w : World) (a : Option Addr) (len : Nat) (f : Nat → Value) : Prop :=
  ∀ i, i < len → ∃ b off, a = some ⟨b, off, none⟩ ∧ b < B ∧ w.cell? ⟨b, off + i, none⟩ = some (f i)

theorem Shows.below {B : Nat} {w w' : World} {a : Option Addr} {len : Nat} {f : Nat → Value} (h : Shows B w a len f) (hb : Below B w w') : Shows B w' a len f := by
  intro i hi
  obtain ⟨b, off, h1, h2, h3⟩ := h i hi
  exact ⟨b, off, h1, h2, (hb.cell h2).trans h3⟩

def atOr {α : Type} (f : Nat → α) (d : α) (len i : Nat) : α := if i < len then f i else d

set_option maxHeartbeats 400000 in
theorem partInt_any (B : Nat) (a : Option Addr) (len cap : Nat) (f : Nat → Int) (i : Nat) (w : World) (hl : len ≤ 1048576) (hi : i ≤ 1048576)
    (hc : Shows B w a len (fun i => .int .i64 (f i))) :
    Calls Try.prog 11 #[.slice a len cap, .int .i64 i] w fun e w' => e = .returned (.int .i64 (atOr f 0 len i)) ∧ w = w' := by
  by_cases h : i < len
  · obtain ⟨b, off, rfl, -, h3⟩ := hc i h
    clear hc
    have e : atOr f 0 len i = f i := by simp [atOr, h]
    rw [e]; clear e
    go_enter Try.func11, Try.ntmps11
    go_wp2
    go_ret
    exact ⟨rfl, rfl⟩
  · have e : atOr f 0 len i = 0 := by simp [atOr, h]
    rw [e]; clear e hc
    go_enter Try.func11, Try.ntmps11
    go_wp2
    go_ret
    exact ⟨rfl, rfl⟩

set_option maxHeartbeats 400000 in
theorem partText_any (B : Nat) (a : Option Addr) (len cap : Nat) (f : Nat → ByteArray) (i : Nat) (w : World) (hl : len ≤ 1048576) (hi : i ≤ 1048576)
    (hc : Shows B w a len (fun i => .string (f i))) :
    Calls Try.prog 12 #[.slice a len cap, .int .i64 i] w fun e w' => e = .returned (.string (atOr f ⟨#[]⟩ len i)) ∧ w = w' := by
  by_cases h : i < len
  · obtain ⟨b, off, rfl, -, h3⟩ := hc i h
    clear hc
    have e : atOr f ⟨#[]⟩ len i = f i := by simp [atOr, h]
    rw [e]; clear e
    go_enter Try.func12, Try.ntmps12
    go_wp2
    go_ret
    exact ⟨rfl, rfl⟩
  · have e : atOr f ⟨#[]⟩ len i = ⟨#[]⟩ := by simp [atOr, h]
    rw [e]; clear e hc
    go_enter Try.func12, Try.ntmps12
    go_wp2
    go_ret
    exact ⟨rfl, rfl⟩

set_option maxHeartbeats 400000 in
theorem partTerm_any (B : Nat) (a : Option Addr) (len cap : Nat) (f : Nat → Int) (i : Nat) (w : World) (hl : len ≤ 1048576) (hi : i ≤ 1048576)
    (hc : Shows B w a len (fun i => .int .u8 (f i))) :
    Calls Try.prog 13 #[.slice a len cap, .int .i64 i] w fun e w' => e = .returned (.int .u8 (atOr f 0 len i)) ∧ w = w' := by
  by_cases h : i < len
  · obtain ⟨b, off, rfl, -, h3⟩ := hc i h
    clear hc
    have e : atOr f 0 len i = f i := by simp [atOr, h]
    rw [e]; clear e
    go_enter Try.func13, Try.ntmps13
    go_wp2
    go_ret
    exact ⟨rfl, rfl⟩
  · have e : atOr f 0 len i = 0 := by simp [atOr, h]
    rw [e]; clear e hc
    go_enter Try.func13, Try.ntmps13
    go_wp2
    go_ret
    exact ⟨rfl, rfl⟩

set_option maxHeartbeats 400000 in
theorem keyOf_any (k n : Int) (s : ByteArray) (w : World) :
    Calls Try.prog 15 #[.int .u8 k, .int .i64 n, .string s] w fun e w' => e = .returned (.agg #[.int .u8 k, .int .i64 n, .string s]) ∧ Below w.heap.size w w' := by
  go_enter Try.func15, Try.ntmps15
  go_wp2
  exact bodyPost_ret (v := .agg #[.int .u8 k, .int .i64 n, .string s]) (by simp [results, Try.results15, go_sem]) rfl ⟨rfl, (Below.refl _ _).alloc (Nat.le_refl _) _⟩

set_option maxHeartbeats 400000 in
theorem valueParts_any (k n : Int) (s : ByteArray) (w : World) :
    Calls Try.prog 16 #[.agg #[.int .u8 k, .int .i64 n, .string s]] w fun e w' => e = .returned (.tuple #[.int .u8 k, .int .i64 n, .string s]) ∧ Below w.heap.size w w' := by
  go_enter Try.func16, Try.ntmps16
  go_wp2
  go_quiet (fail)
  go_wp2
  go_ret3
  exact ⟨rfl, (below_drewN ((Below.refl _ _).alloc (Nat.le_refl _) _) _)⟩

end Go.Proofs.Qxb6600470a
