import Derived.Test.Qxb6600470aRows
import Derived.Test.Qxb6600470aMain
import Derived.WalkKit
import Derived.ProofKit
import Derived.OpenShut
import Derived.ShutString
import Derived.ChangeOld
import Derived.SliceStrings
import Derived.Below
namespace Go.Proofs.Qxb6600470a.fnKeyValuesDecodesEncodedParts
open Go.ChangeShapes Go.WideShapes Go.ChangeAt Go.RowKit
open Go.ChangeMaps (open_string shut_string)
set_option linter.unusedVariables false

theorem own : ownKnob Try.prog.godebug = none := by kernel_rfl
theorem laidOut : laidOutB Try.prog = true := by kernel_rfl

theorem shows_of {W : World} {x : Addr} {len n : Nat} {f : Nat → Value} (hl : len ≤ n) (hc : ∀ i, i < n → W.cell? (x.add i) = some (f i)) : Shows W.heap.size W (some x) len f := by
  intro i hi
  obtain ⟨b, off, spot⟩ := x
  have h0 : spot = none := by simpa [Addr.add] using World.cell?_spot (hc 0 (by omega))
  subst h0
  have h := hc i (by omega)
  rw [Go.WideShapes.add_plain] at h
  exact ⟨b, off, rfl, World.block_lt_of_cell? W _ h, h⟩

theorem shows_nil {W : World} {a : Option Addr} {f : Nat → Value} : Shows W.heap.size W a 0 f := fun i hi => by omega

def byteAt (zs : List Int) (i : Nat) : UInt8 := UInt8.ofNat (zs.getD i 0).toNat
theorem byteAt_int {zs : List Int} (h : ∀ n ∈ zs, (Lit.int .u8 n).wf = true) (i : Nat) : ((byteAt zs i).toNat : Int) = zs.getD i 0 := by
  have := range_u8 h i
  unfold byteAt
  rw [UInt8.toNat_ofNat', List.getD_eq_getElem?_getD]
  omega

theorem shows_bytes {W : World} {a : Option Addr} {len : Nat} {zs : List Int} (h : ∀ n ∈ zs, (Lit.int .u8 n).wf = true) (hs : Shows W.heap.size W a len (fun i => .int .u8 (zs.getD i 0))) : Shows W.heap.size W a len (fun i => .int .u8 (byteAt zs i).toNat) := by
  have e : (fun i => Value.int .u8 ((byteAt zs i).toNat : Int)) = (fun i => Value.int .u8 (zs.getD i 0)) := by
    funext i; rw [byteAt_int h]
  rw [e]; exact hs

def IsInts (k : IntKind) (w : World) (a : Option Addr) (len : Nat) (zs : List Int) : Prop :=
  len ≤ maxLen ∧ Shows w.heap.size w a len (fun i => .int k (zs.getD i 0)) ∧ ∀ n ∈ zs, (Lit.int k n).wf = true
def IsStrs (w : World) (a : Option Addr) (len : Nat) (ss : List ByteArray) : Prop :=
  len ≤ maxLen ∧ Shows w.heap.size w a len (fun i => .string (ss.getD i ByteArray.empty)) ∧ ∀ i, (ss.getD i ByteArray.empty).size ≤ maxLen

theorem walk (a0 a1 a2 a3 : Option Addr) (l0 c0 l1 c1 l2 c2 l3 c3 : Nat) (z0 z1 : List Int) (z2 : List ByteArray) (z3 : List Int) (w : World)
    (w0 : IsInts .u8 w a0 l0 z0) (w1 : IsInts .i64 w a1 l1 z1) (w2 : IsStrs w a2 l2 z2) (w3 : IsInts .u8 w a3 l3 z3) :
    Calls Try.prog 5 #[.slice a0 l0 c0, .slice a1 l1 c1, .slice a2 l2 c2, .slice a3 l3 c3] w fun e w' => e = .returned (.bool true) ∧ Below w.heap.size w w' := by
  refine main_any a0 a1 a2 a3 l0 c0 l1 c1 l2 c2 l3 c3 (byteAt z0) (fun i => z1.getD i 0) (fun i => z2.getD i ByteArray.empty) (byteAt z3) w w0.1 w1.1 w2.1 w3.1 (fun i _ => w2.2.2 i) (fun i _ => ?_)
    (shows_bytes w0.2.2 w0.2.1) w1.2.1 w2.2.1 (shows_bytes w3.2.2 w3.2.1)
  rw [List.getD_eq_getElem?_getD]
  by_cases h : i < z1.length
  · rw [List.getElem?_eq_getElem h]
    have := bounds_i64 (w1.2.2 z1[i] (List.getElem_mem h))
    simp only [Option.getD_some]
    omega
  · rw [List.getElem?_eq_none (by omega)]
    decide

set_option maxRecDepth 100000 in
theorem lifted (os : Os) (started : os.Started) (H : Type) (enc : TypeId × Value → H) :
    ReturnsInHanded {} Try.checked os 5 .any (Rows.fnKeyValuesDecodesEncodedPartsSpec.pre6 enc Try.prog Try.f5 Rows.fnKeyValuesDecodesEncodedPartsRow.domain false) (Rows.fnKeyValuesDecodesEncodedPartsSpec.post enc Try.prog Try.f5 false true false false) := by
  refine returnsInHanded_of_change (C := Try.checked) own started (by kernel_rfl) Try.func5
    (ChangeSpec.witness6 (enc := enc) (C := Try.checked) false ⟨#[], #[.slice none 0 0, .slice none 0 0, .slice none 0 0, .slice none 0 0], []⟩ 8 (by kernel_rfl) (by kernel_rfl) (by kernel_rfl) (by kernel_rfl)) ?_
  intro W base args ds gs before hval0 hW hcnd _
  have hval : ∀ (j : Nat) t v, Try.f5.params[j]? = some t → args[j]? = some v → Value.okWide Try.prog W .any base t v := hval0
  have hW' := hW
  obtain ⟨p, q, hA0, hV, rfl, hfz, hnd⟩ := hW
  have hA : DataW.TrodAll enc Try.prog W 0 (fun _ => true) true Try.f5.params.toList args.toList ds p := hA0
  rw [Try.params5] at hA hval
  obtain ⟨v0, vs0, d0, ds0, p0, q0, hargs, rfl, rfl, h0, r0⟩ := trodAll_cons hA
  obtain ⟨v1, vs1, d1, ds1, p1, q1, rfl, rfl, rfl, h1, r1⟩ := trodAll_cons r0
  obtain ⟨v2, vs2, d2, ds2, p2, q2, rfl, rfl, rfl, h2, r2⟩ := trodAll_cons r1
  obtain ⟨v3, vs3, d3, ds3, p3, q3, rfl, rfl, rfl, h3, r3⟩ := trodAll_cons r2
  obtain ⟨rfl, rfl, rfl⟩ := trodAll_nil r3
  obtain rfl : args = #[v0, v1, v2, v3] := by cases args; simp_all
  obtain ⟨rfl, rfl⟩ := trodVars_none hV
  obtain ⟨a0, len0, cap0, rfl⟩ := okWide_slice Try.underlying25 (hval 0 25 v0 rfl rfl)
  obtain ⟨a1, len1, cap1, rfl⟩ := okWide_slice Try.underlying26 (hval 1 26 v1 rfl rfl)
  obtain ⟨a2, len2, cap2, rfl⟩ := okWide_slice Try.underlying27 (hval 2 27 v2 rfl rfl)
  obtain ⟨a3, len3, cap3, rfl⟩ := okWide_slice Try.underlying25 (hval 3 25 v3 rfl rfl)
  have k0 := h0
  have k1 := h1
  have k2 := h2
  have k3 := h3
  have lt0 : ∀ x ∈ p0, x.block < W.heap.size := by obtain ⟨m, hm⟩ := k0; exact DataW.trod_lt m _ _ _ hm
  have lt1 : ∀ x ∈ p1, x.block < W.heap.size := by obtain ⟨m, hm⟩ := k1; exact DataW.trod_lt m _ _ _ hm
  have lt2 : ∀ x ∈ p2, x.block < W.heap.size := by obtain ⟨m, hm⟩ := k2; exact DataW.trod_lt m _ _ _ hm
  have lt3 : ∀ x ∈ p3, x.block < W.heap.size := by obtain ⟨m, hm⟩ := k3; exact DataW.trod_lt m _ _ _ hm
  obtain ⟨z0, w0⟩ : ∃ zs, IsInts .u8 W a0 len0 zs := by
    obtain ⟨fuel, hf⟩ := h0
    rcases open_ints Try.underlying25 Try.underlying5 (by kernel_rfl) hf with ⟨hcs, _⟩ | ⟨x, l, c, zs, hcs, _, hl, hm, hz, _, hcell, hwz⟩
    · simp [Value.cells] at hcs
      obtain ⟨rfl, rfl, rfl⟩ := hcs
      exact ⟨[], Nat.zero_le _, shows_nil, by simp⟩
    · simp [Value.cells] at hcs
      obtain ⟨rfl, rfl, rfl⟩ := hcs
      have hz' : zs.length = cap0 := by simpa using hz
      exact ⟨zs, Nat.le_trans hl hm, shows_of (by omega) hcell, hwz⟩
  obtain ⟨z1, w1⟩ : ∃ zs, IsInts .i64 W a1 len1 zs := by
    obtain ⟨fuel, hf⟩ := h1
    rcases open_ints Try.underlying26 Try.underlying2 (by kernel_rfl) hf with ⟨hcs, _⟩ | ⟨x, l, c, zs, hcs, _, hl, hm, hz, _, hcell, hwz⟩
    · simp [Value.cells] at hcs
      obtain ⟨rfl, rfl, rfl⟩ := hcs
      exact ⟨[], Nat.zero_le _, shows_nil, by simp⟩
    · simp [Value.cells] at hcs
      obtain ⟨rfl, rfl, rfl⟩ := hcs
      have hz' : zs.length = cap1 := by simpa using hz
      exact ⟨zs, Nat.le_trans hl hm, shows_of (by omega) hcell, hwz⟩
  obtain ⟨z2, w2⟩ : ∃ ss, IsStrs W a2 len2 ss := by
    obtain ⟨fuel, hf⟩ := h2
    rcases open_strings Try.underlying27 Try.underlying9 (by kernel_rfl) hf with ⟨hcs, _⟩ | ⟨x, l, c, ss, hcs, _, hl, hm, hz, _, hcell, hws⟩
    · simp [Value.cells] at hcs
      obtain ⟨rfl, rfl, rfl⟩ := hcs
      exact ⟨[], Nat.zero_le _, shows_nil, fun i => by simp⟩
    · simp [Value.cells] at hcs
      obtain ⟨rfl, rfl, rfl⟩ := hcs
      have hz' : ss.length = cap2 := by simpa using hz
      refine ⟨ss, Nat.le_trans hl hm, shows_of (by omega) hcell, fun i => ?_⟩
      rw [List.getD_eq_getElem?_getD]
      by_cases h : i < ss.length
      · rw [List.getElem?_eq_getElem h]; exact hws _ (List.getElem_mem h)
      · rw [List.getElem?_eq_none (by omega)]; exact Nat.zero_le _
  obtain ⟨z3, w3⟩ : ∃ zs, IsInts .u8 W a3 len3 zs := by
    obtain ⟨fuel, hf⟩ := h3
    rcases open_ints Try.underlying25 Try.underlying5 (by kernel_rfl) hf with ⟨hcs, _⟩ | ⟨x, l, c, zs, hcs, _, hl, hm, hz, _, hcell, hwz⟩
    · simp [Value.cells] at hcs
      obtain ⟨rfl, rfl, rfl⟩ := hcs
      exact ⟨[], Nat.zero_le _, shows_nil, by simp⟩
    · simp [Value.cells] at hcs
      obtain ⟨rfl, rfl, rfl⟩ := hcs
      have hz' : zs.length = cap3 := by simpa using hz
      exact ⟨zs, Nat.le_trans hl hm, shows_of (by omega) hcell, hwz⟩
  clear hA0 hval0
  refine (walk a0 a1 a2 a3 len0 cap0 len1 cap1 len2 cap2 len3 cap3 z0 z1 z2 z3 W w0 w1 w2 w3).mono fun e W' ⟨he, bel⟩ => ?_
  subst he
  exact ⟨_, rfl, _, _, _, [], _, [], hW', trodAll_mk1 (shut_bool Try.underlying4 _),
    (trodAll_cons_mk (Below.trod laidOut (by kernel_rfl) (of_decide_eq_true (by kernel_rfl)) k0 bel lt0)
      (trodAll_cons_mk (Below.trod laidOut (by kernel_rfl) (of_decide_eq_true (by kernel_rfl)) k1 bel lt1)
        (trodAll_cons_mk (Below.trod laidOut (by kernel_rfl) (of_decide_eq_true (by kernel_rfl)) k2 bel lt2)
          (trodAll_cons_mk (Below.trod laidOut (by kernel_rfl) (of_decide_eq_true (by kernel_rfl)) k3 bel lt3) trodAll_mk0)))), rfl, bel.frame _, fun h => by cases h⟩

theorem over : Rows.fnKeyValuesDecodesEncodedPartsRow.holds Try.pinned (OpenSpec.ofChange Rows.fnKeyValuesDecodesEncodedPartsSpec) :=
  OpenClaim.holds_of_wide 5 Try.f5 rfl rfl rfl rfl rfl rfl rfl ⟨rfl, rfl, rfl, rfl, rfl⟩ rfl rfl rfl rfl rfl (by kernel_rfl) Try.func5 (by kernel_rfl)
    (of_decide_eq_true (by kernel_rfl)) (by unfold Func.isWrapper; first | (rw [if_pos (by decide +kernel)]; kernel_rfl) | (rw [if_neg (by decide +kernel)]; exact ⟨rfl, rfl⟩))
    (fun os started H enc _ => lifted os started H enc)

theorem proved : Rows.FnKeyValuesDecodesEncodedPartsSaid := over
end Go.Proofs.Qxb6600470a.fnKeyValuesDecodesEncodedParts
