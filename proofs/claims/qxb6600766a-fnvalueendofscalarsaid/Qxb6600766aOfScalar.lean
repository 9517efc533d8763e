import Derived.Test.Qxb6600766aTok
namespace Go.Proofs.Qxb6600766a
open Go.RowKit
set_option linter.unusedVariables false

def Goal (w : World) (e : Ending) (w' : World) : Prop := e = .returned (.bool true) ∧ Below w.heap.size w w'
theorem Goal.mk {w w' : World} (h : Below w.heap.size w w') : Goal w (.returned (.bool true)) w' := ⟨rfl, h⟩

theorem good_sep {c : UInt8} (h : good c = true) : isSep c = false := by
  unfold good at h
  simp only [Bool.and_eq_true] at h
  simpa using h.1.1.1
theorem good_open {c : UInt8} (h : good c = true) : ((c.toNat : Int) != 34) = true ∧ ((c.toNat : Int) != 123) = true ∧ ((c.toNat : Int) != 91) = true := by
  unfold good at h
  simp only [Bool.and_eq_true, bne_iff_ne] at h
  exact ⟨by simpa using toNat_ne (n := 34) (by decide) h.1.1.2, by simpa using toNat_ne (n := 123) (by decide) h.1.2, by simpa using toNat_ne (n := 91) (by decide) h.2⟩

theorem mid_at (pre tok tail : List UInt8) (j : Nat) (h1 : pre.length ≤ j) (h2 : j < pre.length + tok.length) : (pre ++ (tok ++ tail)).getD j 0 ∈ tok := by
  have e : (pre ++ (tok ++ tail)).getD j 0 = tok[j - pre.length]'(by omega) := by
    rw [List.getD_eq_getElem?_getD, List.getElem?_append_right h1, List.getElem?_append_left (by omega), List.getElem?_eq_getElem (by omega)]
    rfl
  rw [e]
  exact List.getElem_mem _

theorem end_at (pre tok tail : List UInt8) (n : Nat) (hg : allGood tok) (ht : tail = [] ∨ ∃ c r, tail = c :: r ∧ isSep c = true)
    (h1 : pre.length ≤ n) (h2 : n ≤ (pre ++ (tok ++ tail)).length) (h3 : ∀ j, pre.length ≤ j → j < n → isSep ((pre ++ (tok ++ tail)).getD j 0) = false)
    (h4 : n < (pre ++ (tok ++ tail)).length → isSep ((pre ++ (tok ++ tail)).getD n 0) = true) : n = pre.length + tok.length := by
  have hl : (pre ++ (tok ++ tail)).length = pre.length + tok.length + tail.length := by simp; omega
  rcases Nat.lt_trichotomy n (pre.length + tok.length) with h | h | h
  · have := h4 (by omega)
    rw [good_sep (hg _ (mid_at pre tok tail n h1 h))] at this
    cases this
  · exact h
  · rcases ht with rfl | ⟨c, r, rfl, hc⟩
    · simp at h2; omega
    · have := h3 (pre.length + tok.length) (by omega) h
      have e : (pre ++ (tok ++ c :: r)).getD (pre.length + tok.length) 0 = c := by
        rw [List.getD_eq_getElem?_getD, List.getElem?_append_right (by omega), List.getElem?_append_right (by omega)]
        have : pre.length + tok.length - pre.length - tok.length = 0 := by omega
        rw [this]; rfl
      rw [e, hc] at this
      cases this

theorem below_grown {N : Nat} {w w' : World} (hb : Below N w w') (hN : w.heap.size ≤ N) : w.grownBy w' none :=
  ⟨hb.os, hb.tape, hb.output, hb.size, fun k hk _ => hb.block k (by omega)⟩
theorem owns_below {N : Nat} {w w' : World} {base : Nat} {e : TypeId} {size : Nat} {v : Value} {n : Nat} {xs : List Value} (h : w.ownsRow base e size v n xs) (hb : Below N w w') (hN : w.heap.size ≤ N) : w'.ownsRow base e size v n xs := by
  refine h.kept (below_grown hb hN) ?_
  cases hv : v.ownBlock with
  | none => exact .inl rfl
  | some k => exact .inr (by simp)

def NatPost (m : Nat) (w : World) (e : Ending) (w' : World) : Prop := e = .returned (.int .i64 (m : Int)) ∧ w = w'

/-- valueEnd over the joined text, whichever the token. -/
theorem end_of (g N : Nat) (p tok tail : List UInt8) (kv : Int) (s : ByteArray) (w : World) (hh : Holds w g 0 (p ++ (tok ++ tail))) (hN : (p ++ (tok ++ tail)).length = N) (hs : N ≤ 1099511627776)
    (hk : (kv % 5 = 3 ∧ tok = 34 :: qb s.data.toList ++ [34]) ∨ (kv % 5 ≠ 3 ∧ allGood tok ∧ tok ≠ []))
    (ht : kv % 5 = 3 ∨ tail = [] ∨ ∃ c r, tail = c :: r ∧ isSep c = true) :
    Calls Try.prog 12 #[.slice (some ⟨g, 0, none⟩) N N, .int .i64 (p.length : Nat)] w (NatPost (p.length + tok.length) w) := by
  subst hN
  rcases hk with ⟨h3, htok⟩ | ⟨h3, hg, hne⟩
  · have hd : (p ++ (tok ++ tail)).drop p.length = 34 :: (qb s.data.toList ++ 34 :: tail) := by
      rw [List.drop_left, htok]; simp
    refine (zzValueEnd_string g 0 _ _ p.length (qb s.data.toList) tail w hs hh hd (okBody_qb _)).mono ?_
    rintro e w' ⟨rfl, rfl⟩
    refine ⟨?_, rfl⟩
    have : tok.length = 1 + (qb s.data.toList).length + 1 := by rw [htok]; simp; omega
    rw [this]
    exact ret_int (by omega)
  · have ht' := ht.resolve_left h3
    have hlen : p.length < (p ++ (tok ++ tail)).length := by
      have : 0 < tok.length := List.length_pos_iff.2 hne
      simp; omega
    have hm := mid_at p tok tail p.length (Nat.le_refl _) (by have : 0 < tok.length := List.length_pos_iff.2 hne; omega)
    have ho := good_open (hg _ hm)
    refine (zzValueEnd_scalar g 0 _ _ p.length w hs hlen hh ho.1 ho.2.1 ho.2.2).mono ?_
    rintro e w' ⟨n, rfl, rfl, n1, n2, n3, n4⟩
    have := end_at p tok tail n hg ht' n1 n2 n3 n4
    exact ⟨by rw [this], rfl⟩

set_option maxHeartbeats 2000000 in
theorem law_any (a0 a5 : Option Addr) (l0 c0 l5 c5 : Nat) (p q : List UInt8) (n kv dv : Int) (s : ByteArray) (w : World)
    (h1 : -9223372036854775808 ≤ n) (h2 : n ≤ 9223372036854775807) (k0 : 0 ≤ kv) (k1 : kv ≤ 255) (d0 : 0 ≤ dv) (d1 : dv ≤ 255)
    (m0 : l0 ≤ maxLen) (m5 : l5 ≤ maxLen) (ms : s.size ≤ maxLen) (s0 : Src w a0 l0 c0 p) (s5 : Src w a5 l5 c5 q) :
    Calls Try.prog 4 #[.slice a0 l0 c0, .int .i64 n, .int .u8 kv, .string s, .int .u8 dv, .slice a5 l5 c5] w (Goal w) := by
  obtain ⟨i0, hi, hz0, hz1, hz2⟩ := info_parts inf5
  obtain rfl := s0.1
  obtain rfl := s5.1
  go_enter Try.func4, Try.ntmps4
  go_wp2_with fail
  refine (zzBytes_scalar a0 a5 _ c0 _ c5 n kv dv s w m0 m5 ms).mono ?_
  rintro e w' ⟨b, rfl, rfl, hb⟩
  cases b with
  | false =>
    go_wp2
    go_ret
    exact Goal.mk (Below.refl _ _)
  | true =>
    have hbb := hb rfl
    clear hb m0 m5 ms
    go_wp2_with fail
    refine (scalarToken_any n kv s w h1 h2 k0 k1 (by omega)).mono ?_
    rintro e w1 ⟨v, tok, rfl, hown, hb1, htl, hk⟩
    have hne : tok ≠ [] := by
      rcases hk with ⟨_, rfl⟩ | ⟨_, _, h⟩
      · simp
      · exact h
    obtain ⟨g, cap, rfl⟩ : ∃ g cap, v = .slice (some ⟨g, 0, none⟩) tok.length cap := by
      rcases hown.2 with ⟨_, h0⟩ | ⟨g, cap, cur, hv, _⟩
      · exact absurd (List.eq_nil_of_length_eq_zero h0) hne
      · exact ⟨g, cap, hv⟩
    have HK : Hid ((kv % 5 = 3 ∧ tok = 34 :: qb s.data.toList ++ [34]) ∨ (kv % 5 ≠ 3 ∧ allGood tok ∧ tok ≠ [])) := hk
    have hb1z := hb1.size
    clear hk hne
    by_cases hd : dv % 7 < 6
    · go_wp2_with (at_make; go_must (refine wpList_make_own _ rfl _ _ 22 rfl w1.heap.size 5 i0 (.int .u8 0) 1 Try.underlying22 hi hz0 hz1 .i64 .i64 _ (q.length + 1) rfl rfl (by omega) ?a1 ?a2 ?a3 ?_))
      case a1 => rw [hz2]; omega
      case a2 => unfold maxLen; omega
      case a3 => exact Nat.le_refl _
      intro w2 hown2 hgrow2
      have hb2 : Below w1.heap.size w1 w2 := (Below.refl _ w1).grown hgrow2 (Nat.le_refl _) (fun k hk => by cases hk)
      have hb2z := hb2.size
      clear hgrow2
      go_wp2_with fail
      refine (delim_any _ w2).mono ?_
      rintro e w' ⟨c, rfl, rfl, hsc⟩
      have HC : Hid (isSep c = true) := hsc
      clear hsc
      go_wp2_with (at_builtin; go_must (refine wpList_append_fits _ rfl (.tmp 47) (.tmp 50) 22 rfl w1.heap.size 5 i0 1 Try.underlying22 hi hz1 w1.heap.size 0 (q.length + 1) [] rfl (hown2.alloc _) ⟨w2.heap.size, 0, none⟩ 1 1 [.int .u8 c.toNat] rfl rfl (cell_one_new _ _ _) (byteCells_one [c]) (by omega) ?_))
      intro w3 hown3 hgrow3
      have hb3 : Below w1.heap.size w1 w3 := (hb2.alloc hb2z _).grown hgrow3 (by simp; omega) (fun k hk => by cases hk; exact Nat.le_refl _)
      have k5 := s5.later (hb1.trans (hb3.mono hb1z))
      clear hgrow3 hown2 hb2 hb2z
      go_wp2_with (at_builtin; go_must (refine wpList_append_fits_any _ rfl (.tmp 52) (.tmp 53) 22 rfl w1.heap.size 5 i0 1 Try.underlying22 hi hz1 w1.heap.size 1 (q.length + 1) [.int .u8 c.toNat] rfl hown3 a5 q.length c5 (Lib.byteCells q) rfl (by rw [Lib.byteCells_length]; omega) k5.2.1 k5.2.2 (byteCells_one _) (by omega) ?_))
      intro w4 hown4 hgrow4
      have hb4 : Below w1.heap.size w1 w4 := hb3.grown hgrow4 hb3.size (fun k hk => by cases hk; exact Nat.le_refl _)
      have st : Src w4 (some ⟨w1.heap.size, 0, none⟩) (1 + q.length) (q.length + 1) (c :: q) := Src.own (B := w1.heap.size) hown4
      clear hgrow4 hown3 hb3 k5 hown4
      go_wp2_with fail
      refine (joinThree_any a0 (some ⟨g, 0, none⟩) (some ⟨w1.heap.size, 0, none⟩) p.length c0 tok.length cap (1 + q.length) (q.length + 1) p tok (c :: q) w4 (s0.later (hb1.trans (hb4.mono hb1z))) (Src.own (owns_below hown hb4 (Nat.le_refl _))) st (by omega)).mono ?_
      rintro e w5 ⟨rfl, hown5, hb5⟩
      have hfin : Below w.heap.size w w5 := (hb1.trans (hb4.mono hb1z)).trans (hb5.mono (by have := hb4.size; omega))
      go_wp2_with fail
      refine (end_of w4.heap.size _ p tok (c :: q) kv s w5 (holds_own hown5) (by simp; omega) (by omega) HK.out (.inr (.inr ⟨c, q, rfl, HC.out⟩))).mono ?_
      rintro e w' ⟨rfl, rfl⟩
      clear hown5 hb5 hown
      go_wp2
      go_ret
      exact Goal.mk hfin
    · have hd6 : dv % 7 = 6 := by omega
      by_cases hk3 : kv % 5 = 3
      · have HK3 : Hid (kv % 5 = 3) := hk3
        have k5 := s5.later hb1
        go_wp2_with fail
        refine (joinThree_any a0 (some ⟨g, 0, none⟩) a5 p.length c0 tok.length cap q.length c5 p tok q w1 (s0.later (hb1.trans ((Below.refl w1.heap.size w1).mono hb1z))) (Src.own (owns_below hown (Below.refl w1.heap.size w1) (Nat.le_refl _))) k5 (by omega)).mono ?_
        rintro e w5 ⟨rfl, hown5, hb5⟩
        have hfin : Below w.heap.size w w5 := (hb1.trans ((Below.refl w1.heap.size w1).mono hb1z)).trans (hb5.mono (by have := (Below.refl w1.heap.size w1).size; omega))
        go_wp2_with fail
        refine (end_of w1.heap.size _ p tok q kv s w5 (holds_own hown5) (by simp; omega) (by omega) HK.out (.inl HK3.out)).mono ?_
        rintro e w' ⟨rfl, rfl⟩
        clear hown5 hb5 hown
        go_wp2
        go_ret
        exact Goal.mk hfin
      · have hk3b : (kv % 5 == 3) = false := by simpa using hk3
        clear hk3
        go_wp2_with fail
        refine (joinThree_any a0 (some ⟨g, 0, none⟩) none p.length c0 tok.length cap 0 0 p tok [] w1 (s0.later (hb1.trans ((Below.refl w1.heap.size w1).mono hb1z))) (Src.own (owns_below hown (Below.refl w1.heap.size w1) (Nat.le_refl _))) (Src.nil w1) (by omega)).mono ?_
        rintro e w5 ⟨rfl, hown5, hb5⟩
        have hfin : Below w.heap.size w w5 := (hb1.trans ((Below.refl w1.heap.size w1).mono hb1z)).trans (hb5.mono (by have := (Below.refl w1.heap.size w1).size; omega))
        go_wp2_with fail
        refine (end_of w1.heap.size _ p tok [] kv s w5 (holds_own hown5) (by simp) (by omega) HK.out (.inr (.inl rfl))).mono ?_
        rintro e w' ⟨rfl, rfl⟩
        clear hown5 hb5 hown
        go_wp2
        go_ret
        exact Goal.mk hfin

end Go.Proofs.Qxb6600766a
