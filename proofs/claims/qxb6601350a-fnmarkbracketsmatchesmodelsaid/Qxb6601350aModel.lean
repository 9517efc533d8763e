import Derived.Test.Qxb6601350aMark
import Derived.Test.Qxb6601350aScan
namespace Go.Proofs.Qxb6601350a
open Go.RowKit
set_option linter.unusedVariables false

theorem info4 : (Try.prog.info? 4).map (fun i => (i.zero, i.size, i.bytes)) = some (some (.bool false), 1, 1) := by kernel_rfl

theorem made_false (n i : Nat) (h : i < n) : ((madeCells #[Value.bool false] n).toList)[i]? = some (.bool false) := by
  rw [toList_madeCells_one]
  simp [h]
theorem contains_snoc (l : List Nat) (x j : Nat) : (l ++ [x]).contains j = if j = x then true else l.contains j := by
  by_cases e : j = x
  · subst e; simp
  · simp [e]

theorem marked_snoc (P : List (Nat × Nat)) (q p j : Nat) : marked (P ++ [(q, p)]) j = (marked P j || (q == j || p == j)) := by
  simp [marked]

/-- The marks as a row of bools. -/
def Marks (B g n : Nat) (F : Nat → Bool) (w : World) : Prop :=
  ∃ cur, w.ownsRow B 4 1 (.slice (some ⟨g, 0, none⟩) n n) n cur ∧ ∀ j, j < n → cur[j]? = some (.bool (F j))

theorem Marks.cell {B g n : Nat} {F : Nat → Bool} {w : World} (h : Marks B g n F w) (j : Nat) (hj : j < n) : w.cell? ⟨g, j, none⟩ = some (.bool (F j)) := by
  obtain ⟨cur, h1, h2⟩ := h
  rw [h1.cellAt j (by omega)]; exact h2 j hj
theorem Marks.free {B g n : Nat} {F : Nat → Bool} {w : World} (h : Marks B g n F w) (j : Nat) : w.frozen? ⟨g, j, none⟩ = false := by
  obtain ⟨cur, h1, h2⟩ := h
  exact h1.frozenAt j
theorem Marks.put {B g n : Nat} {F F' : Nat → Bool} {w : World} (h : Marks B g n F w) (i : Nat) (hF : ∀ j, j < n → F' j = if j = i then true else F j) : Marks B g n F' (w.setCell ⟨g, i, none⟩ (.bool true)) := by
  obtain ⟨cur, h1, h2⟩ := h
  refine ⟨cur.set i (.bool true), (h1.stored i (.bool true)).1, fun j hj => ?_⟩
  have hl : cur.length = n := by have := h1.1; omega
  rw [hF j hj]
  by_cases e : j = i
  · subst e; simp [hl, hj]
  · rw [List.getElem?_set_ne (by omega), if_neg e]; exact h2 j hj
theorem Marks.lt {B g n : Nat} {F : Nat → Bool} {w : World} (h : Marks B g n F w) : B ≤ g ∧ g < w.heap.size := by
  obtain ⟨cur, h1, h2⟩ := h
  exact h1.lt g rfl

def BmPost (n : Nat) (P : List (Nat × Nat)) (w : World) (e : Ending) (w' : World) : Prop :=
  ∃ g, e = .returned (.slice (some ⟨g, 0, none⟩) n n) ∧ Marks w.heap.size g n (marked P) w' ∧ Below w.heap.size w w'

set_option maxHeartbeats 2000000 in
theorem model_any (t : ByteArray) (a : Option Addr) (cap0 : Nat) (ps : List Nat) (w : World) (h0 : t.size ≤ 1048576) (hl : ps.length ≤ 1048576)
    (hs : Shows w.heap.size w a ps.length (fun i => .int .i64 (ps.getD i 0 : Nat))) (hps : ∀ i, i < ps.length → ps.getD i 0 < t.size) (hinc : ∀ i j, i < j → j < ps.length → ps.getD i 0 < ps.getD j 0) :
    Calls Try.prog 18 #[.string t, .slice a ps.length cap0] w (BmPost t.size (mbP t.data.toList ps) w) := by
  obtain ⟨i0, hi, hz0, hz1, hz2⟩ := info_parts info4
  go_enter Try.func18, Try.ntmps18
  go_wp2_with (at_make; go_must (refine wpList_make_full _ rfl (.tmp 12) (.tmp 12) 30 rfl w.heap.size 4 i0 (.bool false) 1 Try.underlying30 hi hz0 hz1 .i64 .i64 _ _ t.size rfl rfl rfl rfl ?a1 ?a2 ?a3 ?_))
  case a1 => rw [hz2]; omega
  case a2 => unfold maxLen; omega
  case a3 => exact Nat.le_refl _
  intro w1 hown1 hgrow1
  have hb1 : Below w.heap.size w w1 := (Below.refl _ w).grown hgrow1 (Nat.le_refl _) (fun k hk => by cases hk)
  have hm1 : Marks w.heap.size w.heap.size t.size (fun j => (ps.take 0).contains j) w1 := ⟨_, hown1, fun j hj => by simp only [List.take_zero, List.contains_nil]; exact made_false t.size j hj⟩
  clear hgrow1 hown1
  go_wp2
  go_loopw [6] (fun i wr => ∃ k : Nat, k ≤ ps.length ∧ i = .int .i64 k ∧ Marks w.heap.size w.heap.size t.size (fun j => (ps.take k).contains j) wr ∧ Below w.heap.size w wr) (fun i _ => ps.length - (intOf i).toNat)
  case atStart => exact ⟨0, by omega, rfl, hm1, hb1⟩
  case round =>
    rename World => W
    obtain ⟨k, hk, rfl, hm, hbel⟩ := hrel
    by_cases hlt : k < ps.length
    · obtain ⟨b, off, rfl, hbb, h3⟩ := (hs.below hbel) k hlt
      have h3' : W.cell? ⟨b, off + k, none⟩ = some (.int .i64 (ps.getD k 0 : Nat)) := h3
      have ho := hps k hlt
      have hc := hm.cell _ ho
      have hf := hm.free (ps.getD k 0)
      have HM2 : Hid (Marks w.heap.size w.heap.size t.size (fun j => (ps.take (k + 1)).contains j) (W.setCell ⟨w.heap.size, ps.getD k 0, none⟩ (.bool true))) := by
        refine hm.put _ (fun j hj => ?_)
        have et : ps.take (k + 1) = ps.take k ++ [ps.getD k 0] := by
          rw [List.take_succ_eq_append_getElem hlt]; simp [List.getD_eq_getElem?_getD, hlt]
        rw [et]; exact contains_snoc _ _ _
      have HB2 : Hid (Below w.heap.size w (W.setCell ⟨w.heap.size, ps.getD k 0, none⟩ (.bool true))) := hbel.setCell (Nat.le_refl _) _
      generalize ps.getD k 0 = o at h3' ho hc hf HM2 HB2
      generalize (ps.take k).contains o = bo at hc
      clear h3 hm
      go_wp2
      go_roundw
      case rel => exact ⟨k + 1, by omega, by go_num, HM2.out, HB2.out⟩
      case measure => simp [intOf]; omega
    · obtain rfl : k = ps.length := by omega
      have hmA : Marks w.heap.size w.heap.size t.size (fun j => ps.contains j) W := by
        have := hm
        rw [List.take_of_length_le (Nat.le_refl _)] at this
        exact this
      have hWz := hbel.size
      clear hm hb1 hm1
      go_wp2_with (at_make; go_must (refine wpList_make_full _ rfl (.tmp 27) (.tmp 27) 30 rfl W.heap.size 4 i0 (.bool false) 1 Try.underlying30 hi hz0 hz1 .i64 .i64 _ _ t.size rfl rfl rfl rfl ?b1 ?b2 ?b3 ?_))
      case b1 => rw [hz2]; omega
      case b2 => unfold maxLen; omega
      case b3 => exact Nat.le_refl _
      intro w2 hown2 hgrow2
      have hb2 : Below W.heap.size W w2 := (Below.refl _ W).grown hgrow2 (Nat.le_refl _) (fun k hk => by cases hk)
      have hm2 : Marks W.heap.size W.heap.size t.size (marked []) w2 := ⟨_, hown2, fun j hj => made_false t.size j hj⟩
      clear hgrow2 hown2
      go_wp2
      go_loopw [8, 9] (fun o i wr => ∃ (p : Nat) (st : Option Nat) (dn : List (Nat × Nat)), p ≤ t.size ∧ i = .int .i64 p ∧ ((st = none ∧ o = .int .i64 (-1)) ∨ ∃ q : Nat, st = some q ∧ o = .int .i64 q ∧ q < p) ∧ Hid (sc ps t.data.toList p = (st, dn)) ∧ Marks W.heap.size W.heap.size t.size (marked dn) wr ∧ Below W.heap.size W wr) (fun _ i _ => t.size - (intOf i).toNat)
      case atStart => exact ⟨0, none, [], by omega, rfl, .inl ⟨rfl, rfl⟩, rfl, hm2, hb2⟩
      case round =>
        obtain ⟨p, st, dn, hp, rfl, hop, HSC, hm, hbr⟩ := hrel
        by_cases hlt : p < t.size
        · have hca : wr.cell? ⟨w.heap.size, p, none⟩ = some (.bool (ps.contains p)) := (hbr.cell hmA.lt.2).trans (hmA.cell p hlt)
          have htp := get_text (t := t) p hlt
          rcases hop with ⟨rfl, rfl⟩ | ⟨q, rfl, rfl, hq⟩
          · by_cases hopn : p ∈ ps ∧ t.data.toList.getD p 0 = 91
            · have hpc : ps.contains p = true := by simpa using hopn.1
              have htp' : t[p] = 91 := by rw [htp]; exact hopn.2
              have HSC2 : Hid (sc ps t.data.toList (p + 1) = (some p, dn)) := sc_none_open HSC.out hopn.1 hopn.2
              rw [hpc] at hca
              clear htp hopn hpc
              go_wp2
              go_roundw
              case rel => exact ⟨p + 1, some p, dn, by omega, by go_num, .inr ⟨p, rfl, rfl, by omega⟩, HSC2, hm, hbr⟩
              case measure => simp [intOf]; omega
            · have HSC2 : Hid (sc ps t.data.toList (p + 1) = (none, dn)) := sc_none_skip HSC.out hopn
              cases hpc : ps.contains p
              · rw [hpc] at hca
                generalize t.data.toList.getD p 0 = c at htp
                clear hopn hpc
                go_wp2
                go_roundw
                case rel => exact ⟨p + 1, none, dn, by omega, by go_num, .inl ⟨rfl, rfl⟩, HSC2, hm, hbr⟩
                case measure => simp [intOf]; omega
              · rw [hpc] at hca
                have hne : t.data.toList.getD p 0 ≠ 91 := fun h => hopn ⟨by simpa using hpc, h⟩
                have hneb : (((t.data.toList.getD p 0).toNat : Int) == 91) = false := by simpa using beq_u8 (n := 91) (by decide) hne
                generalize t.data.toList.getD p 0 = c at htp hneb
                clear hopn hpc hne
                go_wp2
                go_roundw
                case rel => exact ⟨p + 1, none, dn, by omega, by go_num, .inl ⟨rfl, rfl⟩, HSC2, hm, hbr⟩
                case measure => simp [intOf]; omega
          · by_cases h47 : t.data.toList.getD p 0 = 47
            · have htp' : t[p] = 47 := by rw [htp]; exact h47
              have HSC2 : Hid (sc ps t.data.toList (p + 1) = (none, dn)) := sc_some_slash HSC.out h47
              generalize ps.contains p = bc at hca
              clear htp h47
              go_wp2
              go_roundw
              case rel => exact ⟨p + 1, none, dn, by omega, by go_num, .inl ⟨rfl, rfl⟩, HSC2, hm, hbr⟩
              case measure => simp [intOf]; omega
            · have h47b : (((t.data.toList.getD p 0).toNat : Int) == 47) = false := by simpa using beq_u8 (n := 47) (by decide) h47
              by_cases hcl : p ∈ ps ∧ t.data.toList.getD p 0 = 93 ∧ p ≠ q + 1
              · have hpc : ps.contains p = true := by simpa using hcl.1
                have htp' : t[p] = 93 := by rw [htp]; exact hcl.2.1
                have hneq : ((p : Int) != (q : Int) + 1) = true := by
                  have := hcl.2.2
                  simp only [bne_iff_ne, ne_eq]; omega
                have HSC2 : Hid (sc ps t.data.toList (p + 1) = (none, dn ++ [(q, p)])) := sc_some_close HSC.out hcl.1 hcl.2.1 hcl.2.2
                rw [hpc] at hca
                have c1 := hm.cell q (by omega)
                have c2 := hm.cell p hlt
                have f1 := hm.free q
                have f2 := hm.free p
                have HM2 : Hid (Marks W.heap.size W.heap.size t.size (marked (dn ++ [(q, p)])) ((wr.setCell ⟨W.heap.size, q, none⟩ (.bool true)).setCell ⟨W.heap.size, p, none⟩ (.bool true))) := by
                  refine (hm.put (F' := fun j => if j = q then true else marked dn j) q (fun j _ => rfl)).put p (fun j _ => ?_)
                  rw [marked_snoc]
                  by_cases e1 : j = p
                  · subst e1; simp
                  · by_cases e2 : j = q
                    · subst e2; simp
                    · have e3 : (q == j) = false := by simp; omega
                      have e4 : (p == j) = false := by simp; omega
                      simp [e1, e2, e3, e4]
                have HB2 : Hid (Below W.heap.size W ((wr.setCell ⟨W.heap.size, q, none⟩ (.bool true)).setCell ⟨W.heap.size, p, none⟩ (.bool true))) := (hbr.setCell (Nat.le_refl _) _).setCell (Nat.le_refl _) _
                generalize marked dn q = m1 at c1
                generalize marked dn p = m2 at c2
                clear htp hcl hpc h47 h47b hm
                go_wp2
                go_roundw
                case rel => exact ⟨p + 1, none, dn ++ [(q, p)], by omega, by go_num, .inl ⟨rfl, rfl⟩, HSC2, HM2.out, HB2.out⟩
                case measure => simp [intOf]; omega
              · have HSC2 : Hid (sc ps t.data.toList (p + 1) = (some q, dn)) := sc_some_stay HSC.out h47 hcl
                have fin : Hid (∀ x : Nat, x = p + 1 → x ≤ t.size) := fun x hx => by omega
                cases hpc : ps.contains p
                · rw [hpc] at hca
                  generalize t.data.toList.getD p 0 = c at htp h47b
                  clear hcl hpc h47
                  go_wp2
                  go_roundw
                  case rel => exact ⟨p + 1, some q, dn, by omega, by go_num, .inr ⟨q, rfl, rfl, by omega⟩, HSC2, hm, hbr⟩
                  case measure => simp [intOf]; omega
                · rw [hpc] at hca
                  by_cases h93 : t.data.toList.getD p 0 = 93
                  · have hpq : ((p : Int) != (q : Int) + 1) = false := by
                      have : p = q + 1 := Classical.byContradiction fun h => hcl ⟨by simpa using hpc, h93, h⟩
                      simp only [bne_eq_false_iff_eq]; omega
                    have htp' : t[p] = 93 := by rw [htp]; exact h93
                    clear hcl hpc h47 h47b htp h93
                    go_wp2
                    go_roundw
                    case rel => exact ⟨p + 1, some q, dn, by omega, by go_num, .inr ⟨q, rfl, rfl, by omega⟩, HSC2, hm, hbr⟩
                    case measure => simp [intOf]; omega
                  · have hneb : (((t.data.toList.getD p 0).toNat : Int) == 93) = false := by simpa using beq_u8 (n := 93) (by decide) h93
                    generalize t.data.toList.getD p 0 = c at htp hneb h47b
                    clear hcl hpc h47 h93
                    go_wp2
                    go_roundw
                    case rel => exact ⟨p + 1, some q, dn, by omega, by go_num, .inr ⟨q, rfl, rfl, by omega⟩, HSC2, hm, hbr⟩
                    case measure => simp [intOf]; omega
        · obtain rfl : p = t.size := by omega
          have hfin : mbP t.data.toList ps = dn := by
            have h1 := sc_fin (ps := ps) (tl := t.data.toList) t.size (by
              rw [List.pairwise_iff_getElem]
              intro i j hi hj hij
              have := hinc i j hij hj
              simpa [List.getD_eq_getElem?_getD, hi, hj] using this) (fun x hx => by
                obtain ⟨j0, h1, h2⟩ := List.mem_iff_getElem.1 hx
                have := hps j0 h1
                simpa [List.getD_eq_getElem?_getD, h1, h2] using this)
            rw [← h1, HSC.out]
          have HFIN : Hid (mbP t.data.toList ps = dn) := hfin
          clear hfin
          go_wp2
          go_ret
          refine ⟨W.heap.size, rfl, ?_, hbel.trans (hbr.mono hWz)⟩
          rw [HFIN.out]
          obtain ⟨cur, c1, c2⟩ := hm
          refine ⟨cur, ?_, c2⟩
          obtain ⟨x1, x2⟩ := c1
          refine ⟨x1, ?_⟩
          rcases x2 with x2 | ⟨g, cp, cr, hv, hg, rr⟩
          · exact .inl x2
          · exact .inr ⟨g, cp, cr, hv, by omega, rr⟩

end Go.Proofs.Qxb6601350a
