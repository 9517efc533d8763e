import Derived.Test.Qxb6601350aLeaf
import Derived.Laws.IdiomStrings
namespace Go.Proofs.Qxb6601350a
open Go.RowKit
set_option linter.unusedVariables false

/-- The block g holds the bytes l at its head; none of them is frozen. -/
def Row (g : Nat) (l : List UInt8) (w : World) : Prop :=
  ∃ C lo hi, w.heap[g]? = some (.cells C 5 (lo, hi)) ∧ (hi = 0 ∨ l.length ≤ lo) ∧ l.length ≤ C.size ∧ ∀ i, i < l.length → C[i]? = some (.int .u8 (l.getD i 0).toNat)

theorem Row.cell {g : Nat} {l : List UInt8} {w : World} (h : Row g l w) (i : Nat) (hi : i < l.length) : w.cell? ⟨g, i, none⟩ = some (.int .u8 (l.getD i 0).toNat) := by
  obtain ⟨C, lo, hi', h1, _, _, h4⟩ := h
  simp only [World.cell?, h1]
  exact h4 i hi
theorem Row.free {g : Nat} {l : List UInt8} {w : World} (h : Row g l w) (i : Nat) (hi : i < l.length) : w.frozen? ⟨g, i, none⟩ = false := by
  obtain ⟨C, lo, hi', h1, h2, _, h4⟩ := h
  simp only [World.frozen?, h1]
  rcases h2 with h2 | h2
  · subst h2; simp
  · simp; omega
theorem Row.put {g : Nat} {l : List UInt8} {w : World} (h : Row g l w) (i : Nat) (c : UInt8) : Row g (l.set i c) (w.setCell ⟨g, i, none⟩ (.int .u8 c.toNat)) := by
  obtain ⟨C, lo, hi', h1, h2, h3, h4⟩ := h
  refine ⟨C.setIfInBounds i (.int .u8 c.toNat), lo, hi', ?_, by simpa using h2, by simpa using h3, ?_⟩
  · simp [World.setCell, Array.getElem?_modify, h1]
  · intro j hj
    rw [List.length_set] at hj
    by_cases e : i = j
    · subst e
      have : i < C.size := by omega
      simp [this, hj, List.getD_eq_getElem?_getD]
    · rw [Array.getElem?_setIfInBounds_ne e, h4 j hj]
      simp [List.getD_eq_getElem?_getD, e]
theorem Row.below {g N : Nat} {l : List UInt8} {w w' : World} (h : Row g l w) (hb : Below N w w') (hg : g < N) : Row g l w' := by
  obtain ⟨C, lo, hi', h1, r⟩ := h
  exact ⟨C, lo, hi', (hb.block g hg).trans h1, r⟩
theorem Row.lt {g : Nat} {l : List UInt8} {w : World} (h : Row g l w) : g < w.heap.size := by
  obtain ⟨C, lo, hi', h1, r⟩ := h
  exact (Array.getElem?_eq_some_iff.1 h1).1
theorem Row.own {g n cap B : Nat} {l : List UInt8} {w : World} (h : w.ownsRow B 5 1 (.slice (some ⟨g, 0, none⟩) n cap) n (Lib.byteCells l)) : Row g l w := by
  have hl : l.length = n := by have := h.1; rw [Lib.byteCells_length] at this; omega
  have hc := fun j (hj : j < n) => h.cellAt j (by omega)
  rcases h.2 with ⟨hv, _⟩ | ⟨g', cap', cur, hv, hb, hg, hnc, hcm, hcs, htake⟩
  · simp at hv
  · simp at hv
    obtain ⟨rfl, rfl⟩ := hv
    refine ⟨cur, 0, 0, hg, .inl rfl, by omega, fun i hi => ?_⟩
    have := hc i (by omega)
    simp only [World.cell?, hg] at this
    rw [show cur[i]? = (Lib.byteCells l)[i]? from this]
    simp [Lib.byteCells, List.getElem?_eq_getElem hi, List.getD_eq_getElem?_getD]
theorem Row.str {g n cap : Nat} {l : List UInt8} {w : World} (h : Row g l w) (hn : l.length = n) : (convert 32 9 (.slice (some ⟨g, 0, none⟩) n cap)).run Try.prog w = .ok (.string ⟨l.toArray⟩) w := by
  subst hn
  refine run_convert_bytes_back w 32 9 5 ⟨g, 0, none⟩ cap l Try.underlying32 Try.underlying5 Try.underlying9 (fun j hj => ?_)
  rw [Go.WideShapes.add_plain, Nat.zero_add, h.cell j hj]
  simp [List.getD_eq_getElem?_getD, List.getElem?_eq_getElem hj]

theorem bytes_of (m : ByteArray) (W : World) : ∃ cap W1, (convert 9 32 (.string m)).run Try.prog W = .ok (.slice (some ⟨W.heap.size, 0, none⟩) m.size cap) W1 ∧ Row W.heap.size m.data.toList W1 ∧ Below W.heap.size W W1 := by
  refine ⟨_, _, run_bytes_of_string W 9 32 5 m Try.underlying9 Try.underlying32 Try.underlying5, ?_, (Below.refl _ W).drew.alloc (Nat.le_refl _) _⟩
  refine ⟨_, _, _, heap_alloc_new W.drew _, .inr ?_, ?_, fun i hi => ?_⟩
  · simp [bytesRow]
  · simp [bytesRow]
  · have hi' : i < m.data.size := by simpa using hi
    rw [bytesRow_at m _ i hi']
    rw [List.getD_eq_getElem?_getD, Array.getElem?_toList, Array.getElem?_eq_getElem hi']
    rfl

theorem get_text {t : ByteArray} (i : Nat) (h : i < t.size) : t[i] = t.data.toList.getD i 0 := by
  have h' : i < t.data.size := h
  have : t[i] = t.data[i] := rfl
  rw [this, List.getD_eq_getElem?_getD, Array.getElem?_toList, Array.getElem?_eq_getElem h']
  rfl

theorem idx_no (t : ByteArray) (o e : Nat) (w : World) (h : slash t.data.toList o e = false) :
    Calls Try.prog 35 #[.string (t.extract o e), .int .u8 47] w fun e w' => e = .returned (.int .i64 (-1)) ∧ w = w' := by
  have := Try.strings_IndexByte (t.extract o e) 47 w
  have e1 : (Int.toNat 47).toUInt8 = 47 := rfl
  rw [e1, Lib.extract_data, index_none _ h] at this
  exact this.mono fun e w' h => ⟨h.1, h.2.symm⟩
theorem idx_yes (t : ByteArray) (o e : Nat) (w : World) (h : slash t.data.toList o e = true) :
    Calls Try.prog 35 #[.string (t.extract o e), .int .u8 47] w fun e w' => ∃ n : Nat, e = .returned (.int .i64 n) ∧ w = w' := by
  have := Try.strings_IndexByte (t.extract o e) 47 w
  have e1 : (Int.toNat 47).toUInt8 = 47 := rfl
  obtain ⟨n, hn⟩ := index_some _ h
  rw [e1, Lib.extract_data, hn] at this
  exact this.mono fun e w' h => ⟨n, h.1, h.2.symm⟩

theorem drop_at {ps : List Nat} {n : Nat} (h : n < ps.length) : ps.drop n = ps.getD n 0 :: ps.drop (n + 1) := by
  rw [List.drop_eq_getElem_cons h]
  simp [List.getD_eq_getElem?_getD, h]

theorem beq_u8 {c : UInt8} {n : Nat} (hn : n < 256) (h : c ≠ UInt8.ofNat n) : (c.toNat : Int) ≠ n := by
  intro e
  apply h
  have : c.toNat = n := by omega
  rw [← this, UInt8.ofNat_toNat]

def MbPost (t m : ByteArray) (ps : List Nat) (w : World) (e : Ending) (w' : World) : Prop :=
  e = .returned (.tuple #[.string ⟨(zmask m.data.toList (mbP t.data.toList ps)).toArray⟩, .bool (!(mbP t.data.toList ps).isEmpty)]) ∧ Below w.heap.size w w'

set_option maxHeartbeats 4000000 in
theorem mark_any (t m : ByteArray) (a : Option Addr) (cap0 : Nat) (ps : List Nat) (w : World) (h0 : t.size ≤ 1048576) (hm : m.size = t.size) (hl : ps.length ≤ 1048576)
    (hs : Shows w.heap.size w a ps.length (fun i => .int .i64 (ps.getD i 0 : Nat))) (hps : ∀ i, i < ps.length → ps.getD i 0 < t.size) (hinc : ∀ i j, i < j → j < ps.length → ps.getD i 0 < ps.getD j 0) :
    Calls Try.prog 31 #[.string t, .string m, .slice a ps.length cap0] w (MbPost t m ps w) := by
  have hmz : m.size ≤ 1048576 := by omega
  have HM : Hid (m.size = t.size) := hm
  have hm1 : m.size ≤ t.size := by omega
  have hm2 : t.size ≤ m.size := by omega
  clear hm
  go_enter Try.func31, Try.ntmps31
  go_wp2
  go_loopw [8, 9] (fun v i wr => ∃ (n : Nat) (dn : List (Nat × Nat)), n ≤ ps.length ∧ i = .int .i64 n ∧ Hid (mbP t.data.toList ps = dn ++ mbP t.data.toList (ps.drop n)) ∧ ((dn = [] ∧ v = .slice none 0 0) ∨ ∃ g cap, v = .slice (some ⟨g, 0, none⟩) m.size cap ∧ dn ≠ [] ∧ w.heap.size ≤ g ∧ Row g (zmask m.data.toList dn) wr) ∧ Below w.heap.size w wr) (fun _ i _ => ps.length - (intOf i).toNat)
  case atStart => exact ⟨0, [], by omega, rfl, rfl, .inl ⟨rfl, rfl⟩, Below.refl _ _⟩
  case round =>
    rename World => W
    obtain ⟨n, dn, hn, rfl, HP, hv, hbel⟩ := hrel
    have hwz := hbel.size
    rcases hv with ⟨rfl, rfl⟩ | ⟨g, cap, rfl, hdn, hgw, hrow⟩
    · skip
      have hq := fun w => Lib.run_eql_slice_nil (P := Try.prog) w 32 5 none 0 0 0 0 Try.underlying32
      by_cases hlt : n < ps.length
      · obtain ⟨b, off, rfl, hbb, h3⟩ := (hs.below hbel) n hlt
        have h3' : W.cell? ⟨b, off + n, none⟩ = some (.int .i64 (ps.getD n 0 : Nat)) := h3
        have hdr := drop_at hlt
        have ho := hps n hlt
        have hto := get_text (t := t) (ps.getD n 0) ho
        have HLT : Hid (∀ k, n < k → k < ps.length → ps.getD n 0 < ps.getD k 0) := fun k h1 h2 => hinc n k h1 h2
        rw [hdr] at HP
        generalize ps.getD n 0 = o at h3' ho hto HP HLT
        clear h3 hdr
        by_cases h91 : t.data.toList.getD o 0 = 91
        · have hto' : t[o] = 91 := by rw [hto]; exact h91
          have H91 : Hid (t.data.toList.getD o 0 = 91) := h91
          clear hto h91
          go_wp2
          go_loop [8, 9, 11] (fun v' i' j => v' = (.slice none 0 0) ∧ i' = .int .i64 n ∧ ∃ k : Nat, n + 1 ≤ k ∧ k ≤ ps.length ∧ j = .int .i64 k ∧ Hid (findClose t.data.toList o (ps.drop (n + 1)) = findClose t.data.toList o (ps.drop k))) (fun _ _ j => ps.length - (intOf j).toNat)
          case atStart => exact ⟨rfl, rfl, n + 1, by omega, by omega, by go_num, rfl⟩
          case round =>
            obtain ⟨rfl, rfl, k, hk1, hk2, rfl, HF⟩ := hrel
            by_cases hltk : k < ps.length
            · obtain ⟨b', off', hab, _, h4⟩ := (hs.below hbel) k hltk
              simp at hab
              obtain ⟨rfl, rfl⟩ := hab
              have h4' : W.cell? ⟨b, off + k, none⟩ = some (.int .i64 (ps.getD k 0 : Nat)) := h4
              have hdk := drop_at hltk
              have he := hps k hltk
              have hte := get_text (t := t) (ps.getD k 0) he
              have hoe := HLT.out k (by omega) hltk
              rw [hdk] at HF
              generalize ps.getD k 0 = e at h4' he hte hoe HF
              clear h4 hdk
              by_cases hsk : t.data.toList.getD e 0 ≠ 93 ∨ e = o + 1
              · have HF2 : Hid (findClose t.data.toList o (ps.drop (n + 1)) = findClose t.data.toList o (ps.drop (k + 1))) := by
                  have := HF.out
                  rw [findClose, if_pos hsk] at this
                  exact this
                by_cases h93 : t.data.toList.getD e 0 = 93
                · have heo : (e : Int) = (o : Int) + 1 := by
                    rcases hsk with h | h
                    · exact absurd h93 h
                    · omega
                  have hte' : t[e] = 93 := by rw [hte]; exact h93
                  have heb : ((e : Int) == (o : Int) + 1) = true := by simpa using heo
                  clear hte h93 hsk heo HF
                  go_wp2
                  go_round
                  case rel => exact ⟨rfl, rfl, k + 1, by omega, by omega, by go_num, HF2⟩
                  case measure => simp [intOf]; omega
                · have hne : (((t.data.toList.getD e 0).toNat : Int) != 93) = true := by simpa using beq_u8 (n := 93) (by decide) h93
                  generalize t.data.toList.getD e 0 = c at hte hne
                  clear h93 hsk HF
                  go_wp2
                  go_round
                  case rel => exact ⟨rfl, rfl, k + 1, by omega, by omega, by go_num, HF2⟩
                  case measure => simp [intOf]; omega
              · have h93 : t.data.toList.getD e 0 = 93 := Classical.byContradiction fun h => hsk (.inl h)
                have hne1 : e ≠ o + 1 := fun h => hsk (.inr h)
                have HC : Hid (findClose t.data.toList o (ps.drop (n + 1)) = some (e, ps.drop (k + 1))) := by
                  have := HF.out
                  rw [findClose, if_neg hsk] at this
                  exact this
                have hte' : t[e] = 93 := by rw [hte]; exact h93
                have heb : ((e : Int) == (o : Int) + 1) = false := by
                  simp only [beq_eq_false_iff_ne, ne_eq]; omega
                clear hte h93 hsk HF
                cases hsl : slash t.data.toList o e
                · have HP2 : Hid (mbP t.data.toList ps = ([] ++ [(o, e)]) ++ mbP t.data.toList (ps.drop (k + 1))) := by
                    show _ = _
                    rw [HP.out, mbP_pair _ _ _ _ _ H91.out HC.out hsl]; simp
                  have HSL : Hid (slash t.data.toList o e = false) := hsl
                  clear hsl
                  obtain ⟨cap, W1, hcv, hrow, hbW1⟩ := bytes_of m W
                  have hrl := hrow
                  have hol : o < m.data.toList.length := by rw [← Lib.size_eq]; omega
                  have hel : e < m.data.toList.length := by rw [← Lib.size_eq]; omega
                  have c1 := hrow.cell o hol
                  have c2' := hrow.cell e hel
                  have f1 := hrow.free o hol
                  have f2 := hrow.free e hel
                  generalize m.data.toList.getD o 0 = x1 at c1
                  generalize m.data.toList.getD e 0 = x2 at c2'
                  have HR2 : Hid (Row W.heap.size (zmask m.data.toList ([] ++ [(o, e)])) ((W1.setCell ⟨W.heap.size, o, none⟩ (.int .u8 0)).setCell ⟨W.heap.size, e, none⟩ (.int .u8 0))) := by
                    rw [zmask_snoc]; exact (hrow.put o 0).put e 0
                  have HB2 : Hid (Below w.heap.size w ((W1.setCell ⟨W.heap.size, o, none⟩ (.int .u8 0)).setCell ⟨W.heap.size, e, none⟩ (.int .u8 0))) := ((hbel.trans (hbW1.mono hwz)).setCell hwz _).setCell hwz _
                  clear hrow hrl hol hel hbW1
                  go_wp2_with (go_at_call 35; refine (idx_no t o e _ HSL.out).mono ?_; rintro e' w' ⟨rfl, rfl⟩)
                  go_roundw
                  case rel => exact ⟨k + 1, ([] ++ [(o, e)]), by omega, by go_num, HP2, .inr ⟨W.heap.size, cap, rfl, by simp, hwz, HR2.out⟩, HB2.out⟩
                  case measure => simp [intOf]; omega
                · have HP2 : Hid (mbP t.data.toList ps = [] ++ mbP t.data.toList (ps.drop (n + 1))) := by
                    show _ = _
                    rw [HP.out, mbP_slash _ _ _ _ _ H91.out HC.out hsl]
                  have HSL : Hid (slash t.data.toList o e = true) := hsl
                  clear hsl
                  go_wp2_with (go_at_call 35; refine (idx_yes t o e _ HSL.out).mono ?_; rintro e' w' ⟨nn, rfl, rfl⟩)
                  go_roundw
                  case rel => exact ⟨n + 1, [], by omega, by go_num, HP2, .inl ⟨rfl, rfl⟩, hbel⟩
                  case measure => simp [intOf]; omega
            · have HP2 : Hid (mbP t.data.toList ps = [] ++ mbP t.data.toList (ps.drop (n + 1))) := by
                have hn : findClose t.data.toList o (ps.drop (n + 1)) = none := by
                  rw [HF.out, List.drop_of_length_le (by omega)]; rfl
                show _ = _
                rw [HP.out, mbP_none _ _ _ H91.out hn]
              go_wp2
              go_roundw
              case rel => exact ⟨n + 1, [], by omega, by go_num, HP2, .inl ⟨rfl, rfl⟩, hbel⟩
              case measure => simp [intOf]; omega
        · have HP2 : Hid (mbP t.data.toList ps = [] ++ mbP t.data.toList (ps.drop (n + 1))) := by
            show _ = _
            rw [HP.out, mbP_skip _ _ _ h91]
          have hne : (((t.data.toList.getD o 0).toNat : Int) != 91) = true := by simpa using beq_u8 (n := 91) (by decide) h91
          generalize t.data.toList.getD o 0 = c at hto hne
          clear h91
          go_wp2
          go_roundw
          case rel => exact ⟨n + 1, [], by omega, by go_num, HP2, .inl ⟨rfl, rfl⟩, hbel⟩
          case measure => simp [intOf]; omega
      · have HP2 : Hid (mbP t.data.toList ps = []) := by
          have := HP.out
          rw [List.drop_of_length_le (by omega), mbP_nil] at this
          exact this
        go_wp2
        go_ret2
        refine ⟨?_, hbel⟩
        rw [HP2.out]
        rfl
    · skip
      have hq := fun w => Lib.run_eql_slice_nil (P := Try.prog) w 32 5 (some ⟨g, 0, none⟩) m.size cap 0 0 Try.underlying32
      have HROW : Hid (Row g (zmask m.data.toList dn) W) := hrow
      by_cases hlt : n < ps.length
      · obtain ⟨b, off, rfl, hbb, h3⟩ := (hs.below hbel) n hlt
        have h3' : W.cell? ⟨b, off + n, none⟩ = some (.int .i64 (ps.getD n 0 : Nat)) := h3
        have hdr := drop_at hlt
        have ho := hps n hlt
        have hto := get_text (t := t) (ps.getD n 0) ho
        have HLT : Hid (∀ k, n < k → k < ps.length → ps.getD n 0 < ps.getD k 0) := fun k h1 h2 => hinc n k h1 h2
        rw [hdr] at HP
        generalize ps.getD n 0 = o at h3' ho hto HP HLT
        clear h3 hdr
        by_cases h91 : t.data.toList.getD o 0 = 91
        · have hto' : t[o] = 91 := by rw [hto]; exact h91
          have H91 : Hid (t.data.toList.getD o 0 = 91) := h91
          clear hto h91
          go_wp2
          go_loop [8, 9, 11] (fun v' i' j => v' = (.slice (some ⟨g, 0, none⟩) m.size cap) ∧ i' = .int .i64 n ∧ ∃ k : Nat, n + 1 ≤ k ∧ k ≤ ps.length ∧ j = .int .i64 k ∧ Hid (findClose t.data.toList o (ps.drop (n + 1)) = findClose t.data.toList o (ps.drop k))) (fun _ _ j => ps.length - (intOf j).toNat)
          case atStart => exact ⟨rfl, rfl, n + 1, by omega, by omega, by go_num, rfl⟩
          case round =>
            obtain ⟨rfl, rfl, k, hk1, hk2, rfl, HF⟩ := hrel
            by_cases hltk : k < ps.length
            · obtain ⟨b', off', hab, _, h4⟩ := (hs.below hbel) k hltk
              simp at hab
              obtain ⟨rfl, rfl⟩ := hab
              have h4' : W.cell? ⟨b, off + k, none⟩ = some (.int .i64 (ps.getD k 0 : Nat)) := h4
              have hdk := drop_at hltk
              have he := hps k hltk
              have hte := get_text (t := t) (ps.getD k 0) he
              have hoe := HLT.out k (by omega) hltk
              rw [hdk] at HF
              generalize ps.getD k 0 = e at h4' he hte hoe HF
              clear h4 hdk
              by_cases hsk : t.data.toList.getD e 0 ≠ 93 ∨ e = o + 1
              · have HF2 : Hid (findClose t.data.toList o (ps.drop (n + 1)) = findClose t.data.toList o (ps.drop (k + 1))) := by
                  have := HF.out
                  rw [findClose, if_pos hsk] at this
                  exact this
                by_cases h93 : t.data.toList.getD e 0 = 93
                · have heo : (e : Int) = (o : Int) + 1 := by
                    rcases hsk with h | h
                    · exact absurd h93 h
                    · omega
                  have hte' : t[e] = 93 := by rw [hte]; exact h93
                  have heb : ((e : Int) == (o : Int) + 1) = true := by simpa using heo
                  clear hte h93 hsk heo HF
                  go_wp2
                  go_round
                  case rel => exact ⟨rfl, rfl, k + 1, by omega, by omega, by go_num, HF2⟩
                  case measure => simp [intOf]; omega
                · have hne : (((t.data.toList.getD e 0).toNat : Int) != 93) = true := by simpa using beq_u8 (n := 93) (by decide) h93
                  generalize t.data.toList.getD e 0 = c at hte hne
                  clear h93 hsk HF
                  go_wp2
                  go_round
                  case rel => exact ⟨rfl, rfl, k + 1, by omega, by omega, by go_num, HF2⟩
                  case measure => simp [intOf]; omega
              · have h93 : t.data.toList.getD e 0 = 93 := Classical.byContradiction fun h => hsk (.inl h)
                have hne1 : e ≠ o + 1 := fun h => hsk (.inr h)
                have HC : Hid (findClose t.data.toList o (ps.drop (n + 1)) = some (e, ps.drop (k + 1))) := by
                  have := HF.out
                  rw [findClose, if_neg hsk] at this
                  exact this
                have hte' : t[e] = 93 := by rw [hte]; exact h93
                have heb : ((e : Int) == (o : Int) + 1) = false := by
                  simp only [beq_eq_false_iff_ne, ne_eq]; omega
                clear hte h93 hsk HF
                cases hsl : slash t.data.toList o e
                · have HP2 : Hid (mbP t.data.toList ps = (dn ++ [(o, e)]) ++ mbP t.data.toList (ps.drop (k + 1))) := by
                    show _ = _
                    rw [HP.out, mbP_pair _ _ _ _ _ H91.out HC.out hsl]; simp
                  have HSL : Hid (slash t.data.toList o e = false) := hsl
                  clear hsl
                  have hol : o < (zmask m.data.toList dn).length := by rw [zmask_len, ← Lib.size_eq]; omega
                  have hel : e < (zmask m.data.toList dn).length := by rw [zmask_len, ← Lib.size_eq]; omega
                  have c1 := hrow.cell o hol
                  have c2' := hrow.cell e hel
                  have f1 := hrow.free o hol
                  have f2 := hrow.free e hel
                  generalize (zmask m.data.toList dn).getD o 0 = x1 at c1
                  generalize (zmask m.data.toList dn).getD e 0 = x2 at c2'
                  have HR2 : Hid (Row g (zmask m.data.toList (dn ++ [(o, e)])) ((W.setCell ⟨g, o, none⟩ (.int .u8 0)).setCell ⟨g, e, none⟩ (.int .u8 0))) := by
                    rw [zmask_snoc]; exact (hrow.put o 0).put e 0
                  have HB2 : Hid (Below w.heap.size w ((W.setCell ⟨g, o, none⟩ (.int .u8 0)).setCell ⟨g, e, none⟩ (.int .u8 0))) := (hbel.setCell hgw _).setCell hgw _
                  clear hrow hol hel
                  go_wp2_with (go_at_call 35; refine (idx_no t o e _ HSL.out).mono ?_; rintro e' w' ⟨rfl, rfl⟩)
                  go_roundw
                  case rel => exact ⟨k + 1, (dn ++ [(o, e)]), by omega, by go_num, HP2, .inr ⟨g, cap, rfl, by simp, hgw, HR2.out⟩, HB2.out⟩
                  case measure => simp [intOf]; omega
                · have HP2 : Hid (mbP t.data.toList ps = dn ++ mbP t.data.toList (ps.drop (n + 1))) := by
                    show _ = _
                    rw [HP.out, mbP_slash _ _ _ _ _ H91.out HC.out hsl]
                  have HSL : Hid (slash t.data.toList o e = true) := hsl
                  clear hsl
                  go_wp2_with (go_at_call 35; refine (idx_yes t o e _ HSL.out).mono ?_; rintro e' w' ⟨nn, rfl, rfl⟩)
                  go_roundw
                  case rel => exact ⟨n + 1, dn, by omega, by go_num, HP2, .inr ⟨g, cap, rfl, hdn, hgw, HROW.out⟩, hbel⟩
                  case measure => simp [intOf]; omega
            · have HP2 : Hid (mbP t.data.toList ps = dn ++ mbP t.data.toList (ps.drop (n + 1))) := by
                have hn : findClose t.data.toList o (ps.drop (n + 1)) = none := by
                  rw [HF.out, List.drop_of_length_le (by omega)]; rfl
                show _ = _
                rw [HP.out, mbP_none _ _ _ H91.out hn]
              go_wp2
              go_roundw
              case rel => exact ⟨n + 1, dn, by omega, by go_num, HP2, .inr ⟨g, cap, rfl, hdn, hgw, HROW.out⟩, hbel⟩
              case measure => simp [intOf]; omega
        · have HP2 : Hid (mbP t.data.toList ps = dn ++ mbP t.data.toList (ps.drop (n + 1))) := by
            show _ = _
            rw [HP.out, mbP_skip _ _ _ h91]
          have hne : (((t.data.toList.getD o 0).toNat : Int) != 91) = true := by simpa using beq_u8 (n := 91) (by decide) h91
          generalize t.data.toList.getD o 0 = c at hto hne
          clear h91
          go_wp2
          go_roundw
          case rel => exact ⟨n + 1, dn, by omega, by go_num, HP2, .inr ⟨g, cap, rfl, hdn, hgw, HROW.out⟩, hbel⟩
          case measure => simp [intOf]; omega
      · have HP2 : Hid (mbP t.data.toList ps = dn) := by
          have := HP.out
          rw [List.drop_of_length_le (by omega), mbP_nil, List.append_nil] at this
          exact this
        have hstr := hrow.str (cap := cap) (n := m.size) (by rw [zmask_len, ← Lib.size_eq])
        generalize hz : zmask m.data.toList dn = zl at hstr
        have HZ : Hid (zmask m.data.toList dn = zl) := hz
        clear hz hrow
        go_wp2
        go_ret2
        refine ⟨?_, hbel⟩
        rw [HP2.out, HZ.out]
        have : dn.isEmpty = false := by simpa using hdn
        rw [this]
        rfl

end Go.Proofs.Qxb6601350a
