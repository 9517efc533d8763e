import Derived.Test.Qxb6600470aLeaf
import Derived.Test.Qxb6600470aBits
import Derived.Test.Qxb6600470aShelf
namespace Go.Proofs.Qxb6600470a
open Go.RowKit
set_option linter.unusedVariables false

def Part.ok (p : Part) : Prop := p.t ≠ 255 ∧ (p.k = 1 → p.s = [] ∧ -(2 ^ 63) ≤ p.n ∧ p.n < 2 ^ 63) ∧ (p.k ≠ 1 → p.n = 0)
def valCells : List Part → List Value
  | [] => []
  | p :: r => .int .u8 p.k.toNat :: .int .i64 p.n :: .string ⟨p.s.toArray⟩ :: valCells r
theorem valCells_append (a b : List Part) : valCells (a ++ b) = valCells a ++ valCells b := by
  induction a with
  | nil => rfl
  | cons p a ih => simp [valCells, ih]

def sizeOfStr : Value → Nat | .string s => s.size | _ => 0

theorem size_list {s : ByteArray} {l : List UInt8} (h : s.data.toList = l) : s.size = l.length := by rw [Lib.size_eq, h]
theorem get_list {s : ByteArray} {l : List UInt8} (h : s.data.toList = l) (i : Nat) (c : UInt8) (hc : l[i]? = some c) (hi : i < s.size) : s[i] = c := by
  subst h
  have : s[i] = s.data[i]'(by simpa using hi) := rfl
  rw [this]
  simp only [Array.getElem?_toList] at hc
  rw [Array.getElem?_eq_some_iff] at hc
  exact hc.2
theorem ext_list {s : ByteArray} {l : List UInt8} (h : s.data.toList = l) (a : Nat) : (s.extract a s.size).data.toList = l.drop a := by
  rw [Lib.extract_data, h, size_list h]
  rw [List.take_of_length_le (by simp)]
theorem pre_list {s : ByteArray} {l : List UInt8} (h : s.data.toList = l) (b : Nat) : (s.extract 0 b).data.toList = l.take b := by
  rw [Lib.extract_data, h]; simp
theorem nonempty_list {s : ByteArray} {l : List UInt8} (h : s.data.toList = l) (hl : l ≠ []) : s.toList.isEmpty = false := by
  rw [Lib.toList_data, h]; simpa using hl

theorem below_grown {N : Nat} {w w' : World} (hb : Below N w w') (hN : w.heap.size ≤ N) : w.grownBy w' none :=
  ⟨hb.os, hb.tape, hb.output, hb.size, fun k hk _ => hb.block k (by omega)⟩
theorem owns_below {N : Nat} {w w' : World} {base : Nat} {e : TypeId} {size : Nat} {v : Value} {n : Nat} {xs : List Value} (h : w.ownsRow base e size v n xs) (hb : Below N w w') (hN : w.heap.size ≤ N) : w'.ownsRow base e size v n xs := by
  refine h.kept (below_grown hb hN) ?_
  cases hv : v.ownBlock with
  | none => exact .inl rfl
  | some k => exact .inr (by simp)

theorem be8_get (u i : Nat) (h : i < 8) : (be8 u)[i]? = some (byt (u / 2 ^ (56 - 8 * i))) := by
  match i, h with
  | 0, _ => rfl
  | 1, _ => rfl
  | 2, _ => rfl
  | 3, _ => rfl
  | 4, _ => rfl
  | 5, _ => rfl
  | 6, _ => rfl
  | 7, _ => simp [be8]

theorem be8_num_lt (u k : Nat) (h : k < 8) : num ((be8 u).take k) < 2 ^ 56 := by
  have h1 := num_lt ((be8 u).take k)
  have h2 : ((be8 u).take k).length ≤ 7 := by rw [List.length_take]; omega
  calc num ((be8 u).take k) < 256 ^ ((be8 u).take k).length := h1
    _ ≤ 256 ^ 7 := Nat.pow_le_pow_right (by decide) h2
    _ = 2 ^ 56 := by decide

theorem dec_step (u k : Nat) (h : k < 8) :
    bits .or .u64 (IntKind.u64.wrap ((num ((be8 u).take k) : Int) * 256)) (IntKind.u64.wrap ((byt (u / 2 ^ (56 - 8 * k))).toNat : Int)) = ((num ((be8 u).take (k + 1)) : Nat) : Int) := by
  rw [or_step _ _ (be8_num_lt u k h), be8_step u k h, num_snoc]

theorem cells3 (w : World) (a b c : Value) (t : TypeId) : ∀ j u, [a, b, c][j]? = some u → (w.alloc (.cells #[a, b, c] t)).cell? ((⟨w.heap.size, 0, none⟩ : Addr).add j) = some u := by
  intro j u hj
  match j, hj with
  | 0, hj => simp at hj; subst hj; simp [Addr.add]
  | 1, hj => simp at hj; subst hj; simp [Addr.add]
  | 2, hj => simp at hj; subst hj; simp [Addr.add]

theorem idx0_any (s : ByteArray) (n : Nat) (w : World) (h : Lib.indexByte s.data.toList 0 = n) :
    Calls Try.prog 21 #[.string s, .int .u8 0] w fun e w' => e = .returned (.int .i64 n) ∧ w = w' := by
  have := Try.strings_IndexByte s 0 w
  have e : (Int.toNat 0).toUInt8 = 0 := rfl
  rw [e, h] at this
  exact this.mono fun e w' h => ⟨h.1, h.2.symm⟩

theorem info38 : (Try.prog.info? 38).map (fun i => (i.zero, i.size, i.bytes)) = some (some (.agg #[.int .u8 0, .int .i64 0, .string ⟨#[]⟩]), 3, 32) := by kernel_rfl

set_option maxHeartbeats 2000000 in
theorem values_any (ps : List Part) (hps : ∀ p ∈ ps, p.ok) (hlen : ps.length ≤ 1073741824) (s : ByteArray) (hs : s.data.toList = encAll ps) (hz : s.size ≤ 4398046511104) (w : World) :
    Calls Try.prog 18 #[.agg #[.int .u8 255, .int .i64 0, .string s]] w fun e w' => ∃ v, e = .returned v ∧ w'.ownsRow w.heap.size 38 3 v ps.length (valCells ps) ∧ Below w.heap.size w w' := by
  obtain ⟨i0, hi, hz0, hz1, hz2⟩ := info_parts info38
  go_enter Try.func18, Try.ntmps18
  go_wp2
  go_loopw [3, 4] (fun v s wr => ∃ (done rest : List Part) (sb : ByteArray), ps = done ++ rest ∧ s = .string sb ∧ sb.data.toList = encAll rest ∧ sb.size ≤ 4398046511104 ∧ wr.ownsRow w.heap.size 38 3 v done.length (valCells done) ∧ Below w.heap.size w wr) (fun _ s _ => sizeOfStr s)
  case atStart => exact ⟨[], ps, s, rfl, rfl, hs, hz, World.ownsRow_nil _ _ _ _, (Below.refl _ _).alloc (Nat.le_refl _) _⟩
  case round =>
    rename World => W
    obtain ⟨done, rest, sb, rfl, rfl, hsb, hz, hown, hbel⟩ := hrel
    clear hs
    have hwz := hbel.size
    cases rest with
    | nil =>
      have he : sb = ⟨#[]⟩ := by
        cases sb with | mk d => simp [encAll] at hsb; subst hsb; rfl
      subst he
      go_wp2
      go_ret
      exact ⟨_, rfl, by simpa using hown, hbel⟩
    | cons p rest =>
      have hpo := hps p (by simp)
      have hdl : done.length + 1 ≤ 1073741824 := by simp at hlen; omega
      clear hps hlen
      have hpos : 0 < sb.size := by rw [size_list hsb]; simp [encAll, encPart]
      have h0 : sb[0] = p.k := get_list hsb 0 p.k (by simp [encAll, encPart]) hpos
      have hne : sb.toList.isEmpty = false := nonempty_list hsb (by simp [encAll, encPart])
      obtain ⟨s1, hs1⟩ : ∃ s1, s1 = sb.extract 1 sb.size := ⟨_, rfl⟩
      have hl1 : s1.data.toList = (if p.k = 1 then be8 (ubig p.n) else esc p.s ++ [0, p.t]) ++ encAll rest := by
        rw [hs1, ext_list hsb 1]; simp [encAll, encPart]
      have hsz : s1.size + 1 = sb.size := by rw [hs1]; simp; omega
      have hs1' : sb.extract 1 sb.size = s1 := hs1.symm
      clear hs1 hsb
      by_cases hk : p.k = 1
      · have hk1 : ((p.k.toNat : Int) == 1) = true := by rw [hk]; rfl
        have hl2 : s1.data.toList = be8 (ubig p.n) ++ encAll rest := by rw [if_pos hk] at hl1; exact hl1
        have HL2 : Hid (s1.data.toList = be8 (ubig p.n) ++ encAll rest) := hl2
        have h8 : 8 ≤ s1.size := by rw [size_list hl2]; simp [be8_len]
        have HK : Hid (p.s = [] ∧ -(2 ^ 63) ≤ p.n ∧ p.n < 2 ^ 63) := hpo.2.1 hk
        clear hl1 hl2 hk hpo
        go_wp2
        go_loop [6, 31] (fun u i => ∃ k : Nat, k ≤ 8 ∧ i = .int .i64 k ∧ u = .int .u64 (num ((be8 (ubig p.n)).take k) : Nat)) (fun _ i => 8 - (intOf i).toNat)
        case atStart => exact ⟨0, by omega, rfl, rfl⟩
        case round =>
          obtain ⟨k, hk8, rfl, rfl⟩ := hrel
          by_cases hlt : k < 8
          · have hgk : s1[k] = byt (ubig p.n / 2 ^ (56 - 8 * k)) := get_list HL2.out k _ (by rw [List.getElem?_append_left (by rw [be8_len]; exact hlt)]; exact be8_get _ _ hlt) (by omega)
            have HD := dec_step (ubig p.n) k hlt
            generalize byt (ubig p.n / 2 ^ (56 - 8 * k)) = c at hgk HD
            have HD' : Hid _ := HD
            clear HD
            go_wp2
            go_round
            case rel => exact ⟨k + 1, by omega, by go_num, by rw [← HD'.out]⟩
            case measure => simp [intOf]; omega
          · have hk8' : k = 8 := by omega
            subst hk8'
            have e8 : num ((be8 (ubig p.n)).take 8) = ubig p.n := by
              rw [List.take_of_length_le (by rw [be8_len]; omega)]
              exact num_be8 _ (ubig_lt _ HK.out.2.1 HK.out.2.2)
            have ex := xor_dec p.n HK.out.2.1 HK.out.2.2
            rw [← e8] at ex
            generalize num ((be8 (ubig p.n)).take 8) = U at ex
            clear e8
            go_wp2
            go_region
            go_wp2_with (at_builtin; go_must (refine wpList_append_own _ rfl _ _ 34 rfl w.heap.size 38 i0 (.agg #[.int .u8 0, .int .i64 0, .string ⟨#[]⟩]) 3 32 Try.underlying34 hi hz0 hz1 hz2 rfl (by decide) u3 done.length (valCells done) rfl ?c0 ⟨W.heap.size + 1, 0, none⟩ 1 1 [.int .u8 p.k.toNat, .int .i64 p.n, .string ⟨#[]⟩] rfl rfl ?c1 ?c2 ?c3 ?c4 ?c5 ?_))
            case c0 => exact ((hown.alloc _).alloc _).drew
            case c1 => intro j u hj; have := cells3 (W.alloc (Obj.cells #[Value.int IntKind.u8 ↑p.k.toNat, Value.int IntKind.i64 p.n, Value.string { data := #[] }] 38)) _ _ _ 38 j u hj; simpa using this
            case c2 => intro u hu; simp at hu; rcases hu with rfl | rfl | rfl <;> rfl
            case c3 => unfold maxLen; omega
            case c4 => omega
            case c5 => simp; omega
            intro v' w1 hown' hgrow _
            have hb1 := (((hbel.alloc hwz (Obj.cells #[Value.int IntKind.u8 ↑p.k.toNat, Value.int IntKind.i64 p.n, Value.string { data := #[] }] 38)).alloc (by simp; omega) (Obj.cells #[Value.int IntKind.u8 ↑p.k.toNat, Value.int IntKind.i64 p.n, Value.string { data := #[] }] 38)).drew).grown hgrow (by simp; omega) (fun k hk => (hown.lt k hk).1)
            have hps : p.s = [] := HK.out.1
            have hv : valCells (done ++ [p]) = valCells done ++ [Value.int IntKind.u8 ↑p.k.toNat, Value.int IntKind.i64 p.n, Value.string { data := #[] }] := by
              rw [valCells_append]; simp [valCells, hps]
            rw [← hv] at hown'
            have hown2 : w1.ownsRow w.heap.size 38 3 v' (done ++ [p]).length (valCells (done ++ [p])) := by simpa using hown'
            have hl3 : (s1.extract 8 s1.size).data.toList = encAll rest := by
              rw [ext_list HL2.out 8]; exact List.drop_left' (be8_len _)
            have hsz3 : (s1.extract 8 s1.size).size + 8 = s1.size := by simp; omega
            have H3 : Hid (w1.ownsRow w.heap.size 38 3 v' (done ++ [p]).length (valCells (done ++ [p])) ∧ Below w.heap.size w w1 ∧ (s1.extract 8 s1.size).data.toList = encAll rest ∧ (s1.extract 8 s1.size).size + 8 = s1.size) := ⟨hown2, hb1, hl3, hsz3⟩
            clear hown' hgrow hb1 hps hv hown2 hl3 hsz3 hown
            go_wp2
            go_roundw
            case rel => exact ⟨done ++ [p], rest, s1.extract 8 s1.size, by simp, rfl, H3.out.2.2.1, by have := H3.out.2.2.2; omega, H3.out.1, H3.out.2.1⟩
            case measure => have := H3.out.2.2.2; simp only [sizeOfStr]; omega
      · have hk1 : ((p.k.toNat : Int) == 1) = false := by
          simp only [beq_eq_false_iff_ne, ne_eq]
          intro h
          exact hk (UInt8.toNat_inj.1 (by have : p.k.toNat = 1 := by omega
                                          rw [this]; rfl))
        have hl2 : s1.data.toList = esc p.s ++ 0 :: p.t :: encAll rest := by rw [if_neg hk] at hl1; rw [hl1]; simp
        have HL2 : Hid (s1.data.toList = esc p.s ++ 0 :: p.t :: encAll rest) := hl2
        have HT : Hid (p.t ≠ 255) := hpo.1
        have HN : Hid (p.n = 0) := hpo.2.2 hk
        clear hl1 hl2 hk hpo
        go_wp2
        go_loopw [4] (fun t wi => ∃ (dn rs : List UInt8) (sc : ByteArray), p.s = dn ++ rs ∧ t = .string sc ∧ sc.data.toList = esc rs ++ 0 :: p.t :: encAll rest ∧ sc.size ≤ s1.size ∧ dn.length + sc.size ≤ s1.size ∧ Lib.IsBuilder 49 5 (W.heap.size + 1) (W.heap.size + 1) (Lib.byteCells dn) wi ∧ Below (W.heap.size + 1) (W.alloc (Obj.cells #[Value.int IntKind.u8 ↑p.k.toNat, Value.int IntKind.i64 0, Value.string { data := #[] }] 38)) wi) (fun t _ => sizeOfStr t)
        case atStart =>
          refine ⟨[], p.s, s1, rfl, rfl, HL2.out, Nat.le_refl _, by simp, ?_, (Below.refl _ _).alloc (by simp) _⟩
          have := Lib.fresh_isBuilder 49 5 (W.alloc (Obj.cells #[Value.int IntKind.u8 ↑p.k.toNat, Value.int IntKind.i64 0, Value.string { data := #[] }] 38))
          have e : Lib.byteCells [] = [] := rfl
          rw [e]
          simpa using this
        case round =>
          obtain ⟨dn, rs, sc, hps, rfl, hsc, hscz, hdz, hbu, hbi⟩ := hrel
          have HPS : Hid (p.s = dn ++ rs) := hps
          clear hps
          obtain ⟨pre, hpre, hcase⟩ := cut0 rs
          obtain ⟨c2, tl, hsc2, hcs⟩ : ∃ (c2 : UInt8) (tl : List UInt8), sc.data.toList = pre ++ 0 :: c2 :: tl ∧ ((rs = pre ∧ c2 = p.t ∧ tl = encAll rest) ∨ ∃ r, rs = pre ++ 0 :: r ∧ c2 = 255 ∧ tl = esc r ++ 0 :: p.t :: encAll rest) := by
            rcases hcase with rfl | ⟨r, rfl⟩
            · exact ⟨p.t, encAll rest, by rw [hsc, esc_plain _ hpre], .inl ⟨rfl, rfl, rfl⟩⟩
            · refine ⟨255, esc r ++ 0 :: p.t :: encAll rest, ?_, .inr ⟨r, rfl, rfl, rfl⟩⟩
              rw [hsc, esc_append, esc_plain _ hpre]; simp [esc]
          clear hcase hsc
          have hix : Lib.indexByte sc.data.toList 0 = (pre.length : Nat) := by rw [hsc2]; exact index0 pre _ hpre
          have hsize : pre.length + 2 + tl.length = sc.size := by rw [size_list hsc2]; simp; omega
          have hg2 : ∀ h, sc[pre.length + 1]'h = c2 := fun h => get_list hsc2 _ _ (by simp) h
          have hpl : (sc.extract 0 pre.length).data.toList = pre := by rw [pre_list hsc2]; simp
          have hpz : (sc.extract 0 pre.length).size = pre.length := size_list hpl
          have hx3 : (sc.extract (pre.length + 2) sc.size).data.toList = tl := by
            rw [ext_list hsc2]
            have e : pre ++ 0 :: c2 :: tl = (pre ++ [0, c2]) ++ tl := by simp
            rw [e]; exact List.drop_left' (by simp)
          have HX : Hid ((sc.extract 0 pre.length).data.toList = pre ∧ (sc.extract (pre.length + 2) sc.size).data.toList = tl ∧ (sc.extract 0 pre.length).size = pre.length ∧ Lib.indexByte sc.data.toList 0 = (pre.length : Nat)) := ⟨hpl, hx3, hpz, hix⟩
          clear hpl hx3 hpz hix hsc2
          have hbz := hbi.size
          rcases hcs with ⟨h1, h2, h3⟩ | ⟨r, h1, h2, h3⟩
          · have hc255 : ((c2.toNat : Int) == 255) = false := by
              simp only [beq_eq_false_iff_ne, ne_eq]
              intro h
              apply HT.out
              rw [← h2]
              exact UInt8.toNat_inj.1 (by have : c2.toNat = 255 := by omega
                                          rw [this]; rfl)
            have H1 : Hid (rs = pre ∧ c2 = p.t ∧ tl = encAll rest) := ⟨h1, h2, h3⟩
            clear h1 h2 h3
            go_wp2_with (go_at_call 21; refine (idx0_any _ pre.length _ HX.out.2.2.2).mono ?_; rintro e w' ⟨rfl, rfl⟩)
            refine (Try.Builder_WriteString (W.heap.size + 1) (W.heap.size + 1) (Lib.byteCells dn) _ _ hbu (by rw [Lib.byteCells_length, HX.out.2.2.1]; omega) (by simp at hbz; omega)).mono ?_
            rintro e w2 ⟨rfl, hb2, hbw2⟩
            have hb3 : Lib.IsBuilder 49 5 (W.heap.size + 1) (W.heap.size + 1) (Lib.byteCells (dn ++ pre)) w2 := by
              rw [Lib.byteCells_append]; rw [Lib.strCells_eq, HX.out.1] at hb2; exact .inr hb2
            have hw2 := (hbi.trans hbw2)
            have hz2' := hw2.size
            go_wp2_with (go_at_call 24; refine (Try.Builder_String_any (W.heap.size + 1) (W.heap.size + 1) (dn ++ pre) _ hb3 (by simp at hz2'; omega)).mono ?_)
            rintro e w3 ⟨rfl, hbw3⟩
            have hw3 := hw2.trans hbw3
            have d0 : w3.cell? ⟨W.heap.size, 0, none⟩ = some (.int .u8 p.k.toNat) := (hw3.cell (by simp)).trans (by simp)
            have d1 : w3.cell? ⟨W.heap.size, 1, none⟩ = some (.int .i64 0) := (hw3.cell (by simp)).trans (by simp)
            have d2 : w3.cell? ⟨W.heap.size, 2, none⟩ = some (.string ⟨#[]⟩) := (hw3.cell (by simp)).trans (by simp)
            have f2 : w3.frozen? ⟨W.heap.size, 2, none⟩ = false := (hw3.frozen (by simp)).trans (by simp)
            have hX : Below W.heap.size W (w3.setCell ⟨W.heap.size, 2, none⟩ (.string ⟨(dn ++ pre).toArray⟩)) := ((((Below.refl _ W).alloc (Nat.le_refl _) _).trans (hw3.mono (by omega))).setCell (by simp) _)
            have hXs := hX.size
            have HP : Hid (p.s = dn ++ pre) := by rw [← H1.out.1]; exact HPS.out
            clear hbw3 hw3 hz2' hw2 hb3 hbw2 hb2 hbz hbu hbi HPS
            generalize dn ++ pre = full at hX hXs HP
            go_wp2_with (at_builtin; go_must (refine wpList_append_own _ rfl _ _ 34 rfl w.heap.size 38 i0 (.agg #[.int .u8 0, .int .i64 0, .string ⟨#[]⟩]) 3 32 Try.underlying34 hi hz0 hz1 hz2 rfl (by decide) u3 done.length (valCells done) rfl ?e0 ⟨w3.heap.size, 0, none⟩ 1 1 [.int .u8 p.k.toNat, .int .i64 0, .string ⟨full.toArray⟩] rfl rfl ?e1 ?e2 ?e3 ?e4 ?e5 ?_))
            case e0 => exact (owns_below hown hX (Nat.le_refl _)).alloc _
            case e1 => intro j u hj; have := cells3 (w3.setCell { block := W.heap.size, off := 2 } (Value.string { data := full.toArray })) _ _ _ 38 j u hj; simpa using this
            case e2 => intro u hu; simp at hu; rcases hu with rfl | rfl | rfl <;> rfl
            case e3 => unfold maxLen; omega
            case e4 => omega
            case e5 => simp at hXs ⊢; omega
            intro v' w4 hown' hgrow _
            have hb1 := ((hbel.trans (hX.mono hwz)).alloc (by simp at hXs ⊢; omega) (Obj.cells #[Value.int IntKind.u8 ↑p.k.toNat, Value.int IntKind.i64 0, Value.string { data := full.toArray }] 38)).grown hgrow (by simp at hXs ⊢; omega) (fun k hk => (hown.lt k hk).1)
            have hv : valCells (done ++ [p]) = valCells done ++ [Value.int IntKind.u8 ↑p.k.toNat, Value.int IntKind.i64 0, Value.string { data := full.toArray }] := by
              rw [valCells_append]; simp [valCells, HP.out, HN.out]
            rw [← hv] at hown'
            have hown2 : w4.ownsRow w.heap.size 38 3 v' (done ++ [p]).length (valCells (done ++ [p])) := by simpa using hown'
            have hl3 : (sc.extract (pre.length + 2) sc.size).data.toList = encAll rest := by rw [HX.out.2.1]; exact H1.out.2.2
            have hsz3 : (sc.extract (pre.length + 2) sc.size).size + 2 ≤ sc.size := by simp; omega
            have H3 : Hid (w4.ownsRow w.heap.size 38 3 v' (done ++ [p]).length (valCells (done ++ [p])) ∧ Below w.heap.size w w4 ∧ (sc.extract (pre.length + 2) sc.size).data.toList = encAll rest ∧ (sc.extract (pre.length + 2) sc.size).size + 2 ≤ sc.size) := ⟨hown2, hb1, hl3, hsz3⟩
            clear hown' hgrow hb1 hv hown2 hl3 hsz3 hown hX hXs
            go_wp2
            go_roundw
            case rel => exact ⟨done ++ [p], rest, sc.extract (pre.length + 2) sc.size, by simp, rfl, H3.out.2.2.1, by have := H3.out.2.2.2; omega, H3.out.1, H3.out.2.1⟩
            case measure => have := H3.out.2.2.2; simp only [sizeOfStr]; omega
          · have hc255 : ((c2.toNat : Int) == 255) = true := by rw [h2]; rfl
            have H1 : Hid (rs = pre ++ 0 :: r ∧ c2 = 255 ∧ tl = esc r ++ 0 :: p.t :: encAll rest) := ⟨h1, h2, h3⟩
            clear h1 h2 h3
            go_wp2_with (go_at_call 21; refine (idx0_any _ pre.length _ HX.out.2.2.2).mono ?_; rintro e w' ⟨rfl, rfl⟩)
            refine (Try.Builder_WriteString (W.heap.size + 1) (W.heap.size + 1) (Lib.byteCells dn) _ _ hbu (by rw [Lib.byteCells_length, HX.out.2.2.1]; omega) (by simp at hbz; omega)).mono ?_
            rintro e w2 ⟨rfl, hb2, hbw2⟩
            have hb3 : Lib.IsBuilder 49 5 (W.heap.size + 1) (W.heap.size + 1) (Lib.byteCells (dn ++ pre)) w2 := by
              rw [Lib.byteCells_append]; rw [Lib.strCells_eq, HX.out.1] at hb2; exact .inr hb2
            have hw2 := (hbi.trans hbw2)
            have hz2' := hw2.size
            go_wp2_with (go_at_call 23; refine (Try.Builder_WriteByte (W.heap.size + 1) (W.heap.size + 1) (Lib.byteCells (dn ++ pre)) 0 _ hb3 (by rw [Lib.byteCells_length]; simp; omega) (by simp at hz2'; omega)).mono ?_)
            rintro e w3 ⟨rfl, hb4, hbw3⟩
            have hb5 : Lib.IsBuilder 49 5 (W.heap.size + 1) (W.heap.size + 1) (Lib.byteCells (dn ++ pre ++ [0])) w3 := by
              rw [Lib.byteCells_append (dn ++ pre)]; exact .inr hb4
            have hw3 := hw2.trans hbw3
            have hsz3 : (sc.extract (pre.length + 2) sc.size).size + (pre.length + 2) = sc.size := by simp; omega
            have H3 : Hid (Lib.IsBuilder 49 5 (W.heap.size + 1) (W.heap.size + 1) (Lib.byteCells (dn ++ pre ++ [0])) w3 ∧ Below (W.heap.size + 1) (W.alloc (Obj.cells #[Value.int IntKind.u8 ↑p.k.toNat, Value.int IntKind.i64 0, Value.string { data := #[] }] 38)) w3 ∧ (sc.extract (pre.length + 2) sc.size).size + (pre.length + 2) = sc.size) := ⟨hb5, hw3, hsz3⟩
            clear hb5 hw3 hsz3 hb4 hbw3 hw2 hz2' hb3 hb2 hbw2 hbu hbi
            go_wp2
            go_roundw
            case rel => exact ⟨dn ++ pre ++ [0], r, sc.extract (pre.length + 2) sc.size, by rw [HPS.out, H1.out.1]; simp, rfl, by rw [HX.out.2.1]; exact H1.out.2.2, by have := H3.out.2.2; omega, by have := H3.out.2.2; simp at this ⊢; omega, H3.out.1, H3.out.2.1⟩
            case measure => have := H3.out.2.2; simp only [sizeOfStr]; omega

theorem owns_mono {w : World} {base base' : Nat} {e : TypeId} {size : Nat} {v : Value} {n : Nat} {xs : List Value} (h : w.ownsRow base e size v n xs) (hb : base' ≤ base) : w.ownsRow base' e size v n xs := by
  obtain ⟨h1, h2⟩ := h
  refine ⟨h1, ?_⟩
  rcases h2 with h2 | ⟨g, cap, cur, hv, hg, r⟩
  · exact Or.inl h2
  · exact Or.inr ⟨g, cap, cur, hv, by omega, r⟩

set_option maxHeartbeats 400000 in
theorem keyValues_any (ps : List Part) (hps : ∀ p ∈ ps, p.ok) (hlen : ps.length ≤ 1073741824) (s : ByteArray) (hs : s.data.toList = encAll ps) (hz : s.size ≤ 4398046511104) (w : World) :
    Calls Try.prog 14 #[.agg #[.int .u8 255, .int .i64 0, .string s]] w fun e w' => ∃ v, e = .returned v ∧ w'.ownsRow w.heap.size 38 3 v ps.length (valCells ps) ∧ Below w.heap.size w w' := by
  have HS : Hid (s.data.toList = encAll ps) := hs
  clear hs
  go_enter Try.func14, Try.ntmps14
  go_wp2_with (go_at_call 18; refine (values_any ps hps hlen s HS.out hz _).mono ?_)
  rintro e w1 ⟨v, rfl, hown, hb⟩
  go_wp2
  go_ret
  exact ⟨v, rfl, owns_mono hown (by simp), ((Below.refl _ w).alloc (Nat.le_refl _) _).trans (hb.mono (by simp))⟩

end Go.Proofs.Qxb6600470a
