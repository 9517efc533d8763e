import Derived.Lib.Bytealg
import Derived.Lib.UnsafeStr
namespace Go.Proofs.Qxb6601350a
set_option linter.unusedVariables false

def slash (tl : List UInt8) (o e : Nat) : Bool := ((tl.drop o).take (e - o)).contains 47

def findClose (tl : List UInt8) (o : Nat) : List Nat → Option (Nat × List Nat)
  | [] => none
  | e :: r => if tl.getD e 0 ≠ 93 ∨ e = o + 1 then findClose tl o r else some (e, r)

def mb (tl : List UInt8) : Nat → List Nat → List (Nat × Nat)
  | 0, _ => []
  | _ + 1, [] => []
  | f + 1, o :: r =>
    if tl.getD o 0 = 91 then
      match findClose tl o r with
      | some (e, r') => if slash tl o e then mb tl f r else (o, e) :: mb tl f r'
      | none => mb tl f r
    else mb tl f r

def mbP (tl : List UInt8) (l : List Nat) : List (Nat × Nat) := mb tl l.length l

theorem findClose_some {tl : List UInt8} {o : Nat} : ∀ {r : List Nat} {e : Nat} {r' : List Nat}, findClose tl o r = some (e, r') →
    ∃ pre, r = pre ++ e :: r' ∧ tl.getD e 0 = 93 ∧ e ≠ o + 1 ∧ ∀ x ∈ pre, tl.getD x 0 ≠ 93 ∨ x = o + 1
  | [], e, r', h => by simp [findClose] at h
  | x :: r, e, r', h => by
    unfold findClose at h
    by_cases hx : tl.getD x 0 ≠ 93 ∨ x = o + 1
    · rw [if_pos hx] at h
      obtain ⟨pre, h1, h2, h3, h4⟩ := findClose_some h
      refine ⟨x :: pre, by rw [h1]; rfl, h2, h3, ?_⟩
      intro y hy
      rcases List.mem_cons.1 hy with rfl | hy
      · exact hx
      · exact h4 y hy
    · rw [if_neg hx] at h
      simp only [Option.some.injEq, Prod.mk.injEq] at h
      obtain ⟨rfl, rfl⟩ := h
      refine ⟨[], rfl, ?_, ?_, by simp⟩
      · exact Classical.byContradiction fun h => hx (.inl h)
      · exact fun h => hx (.inr h)

theorem findClose_none {tl : List UInt8} {o : Nat} : ∀ {r : List Nat}, findClose tl o r = none → ∀ x ∈ r, tl.getD x 0 ≠ 93 ∨ x = o + 1
  | [], _ => by simp
  | x :: r, h => by
    unfold findClose at h
    by_cases hx : tl.getD x 0 ≠ 93 ∨ x = o + 1
    · rw [if_pos hx] at h
      intro y hy
      rcases List.mem_cons.1 hy with rfl | hy
      · exact hx
      · exact findClose_none h y hy
    · rw [if_neg hx] at h; cases h

theorem findClose_len {tl : List UInt8} {o : Nat} {r : List Nat} {e : Nat} {r' : List Nat} (h : findClose tl o r = some (e, r')) : r'.length < r.length := by
  obtain ⟨pre, h1, _⟩ := findClose_some h
  rw [h1]; simp; omega

theorem mb_fuel (tl : List UInt8) : ∀ (f g : Nat) (l : List Nat), l.length ≤ f → l.length ≤ g → mb tl f l = mb tl g l
  | 0, g, l, hf, hg => by
    have : l = [] := List.eq_nil_of_length_eq_zero (by omega)
    subst this
    cases g <;> rfl
  | f + 1, 0, l, hf, hg => by
    have : l = [] := List.eq_nil_of_length_eq_zero (by omega)
    subst this
    rfl
  | f + 1, g + 1, [], hf, hg => rfl
  | f + 1, g + 1, o :: r, hf, hg => by
    simp only [List.length_cons] at hf hg
    unfold mb
    rw [mb_fuel tl f g r (by omega) (by omega)]
    split
    · split
      · rename_i e r' h
        have := findClose_len h
        rw [mb_fuel tl f g r' (by omega) (by omega)]
      · rfl
    · rfl

theorem mbP_nil (tl : List UInt8) : mbP tl [] = [] := rfl
theorem mbP_skip (tl : List UInt8) (o : Nat) (r : List Nat) (h : tl.getD o 0 ≠ 91) : mbP tl (o :: r) = mbP tl r := by
  show mb tl (r.length + 1) (o :: r) = _
  unfold mb; rw [if_neg h]; rfl
theorem mbP_none (tl : List UInt8) (o : Nat) (r : List Nat) (h : tl.getD o 0 = 91) (hc : findClose tl o r = none) : mbP tl (o :: r) = mbP tl r := by
  show mb tl (r.length + 1) (o :: r) = _
  unfold mb; rw [if_pos h, hc]; rfl
theorem mbP_slash (tl : List UInt8) (o : Nat) (r : List Nat) (e : Nat) (r' : List Nat) (h : tl.getD o 0 = 91) (hc : findClose tl o r = some (e, r')) (hs : slash tl o e = true) : mbP tl (o :: r) = mbP tl r := by
  show mb tl (r.length + 1) (o :: r) = _
  unfold mb; rw [if_pos h, hc]; simp only [hs, if_true]; rfl
theorem mbP_pair (tl : List UInt8) (o : Nat) (r : List Nat) (e : Nat) (r' : List Nat) (h : tl.getD o 0 = 91) (hc : findClose tl o r = some (e, r')) (hs : slash tl o e = false) : mbP tl (o :: r) = (o, e) :: mbP tl r' := by
  show mb tl (r.length + 1) (o :: r) = _
  unfold mb; rw [if_pos h, hc]; simp only [hs, Bool.false_eq_true, if_false]
  rw [mb_fuel tl r.length r'.length r' (by have := findClose_len hc; omega) (Nat.le_refl _)]; rfl

/-- A list of pairs, from place 'lo' on, each '[' then ']' among ps, no '/' between. -/
def okP (ps : List Nat) (tl : List UInt8) : Nat → List (Nat × Nat) → Prop
  | _, [] => True
  | lo, (q, e) :: r => lo ≤ q ∧ q + 1 < e ∧ q ∈ ps ∧ e ∈ ps ∧ tl.getD q 0 = 91 ∧ tl.getD e 0 = 93 ∧ (∀ s, q < s → s < e → tl.getD s 0 ≠ 47) ∧ okP ps tl (e + 1) r

theorem okP_mono {ps : List Nat} {tl : List UInt8} {lo lo' : Nat} {P : List (Nat × Nat)} (h : okP ps tl lo P) (hl : lo' ≤ lo) : okP ps tl lo' P := by
  cases P with
  | nil => trivial
  | cons p r => obtain ⟨q, e⟩ := p; exact ⟨by have := h.1; omega, h.2⟩

theorem slash_false {tl : List UInt8} {o e s : Nat} (h : slash tl o e = false) (h1 : o ≤ s) (h2 : s < e) : tl.getD s 0 ≠ 47 := by
  intro hs
  have hl : s < tl.length := by
    rcases Nat.lt_or_ge s tl.length with h' | h'
    · exact h'
    · rw [List.getD_eq_getElem?_getD, List.getElem?_eq_none h'] at hs; exact absurd hs (by decide)
  have : ((tl.drop o).take (e - o)).contains 47 = true := by
    rw [List.contains_iff_mem]
    refine List.mem_of_getElem? (i := s - o) ?_
    rw [List.getElem?_take, if_pos (by omega), List.getElem?_drop]
    have e1 : o + (s - o) = s := by omega
    rw [e1, List.getElem?_eq_getElem hl]
    rw [List.getD_eq_getElem?_getD, List.getElem?_eq_getElem hl] at hs
    simpa using hs
  unfold slash at h
  rw [this] at h
  cases h

theorem slash_true {tl : List UInt8} {o e : Nat} (h : slash tl o e = true) : ∃ s, o ≤ s ∧ s < e ∧ tl.getD s 0 = 47 := by
  unfold slash at h
  rw [List.contains_iff_mem] at h
  obtain ⟨i, hi⟩ := List.mem_iff_getElem?.1 h
  rw [List.getElem?_take] at hi
  by_cases hlt : i < e - o
  · rw [if_pos hlt, List.getElem?_drop] at hi
    exact ⟨o + i, by omega, by omega, by rw [List.getD_eq_getElem?_getD, hi]; rfl⟩
  · rw [if_neg hlt] at hi; cases hi

theorem mbP_ok (ps : List Nat) (tl : List UInt8) : ∀ (n : Nat) (l : List Nat) (lo : Nat), l.length ≤ n → l.Pairwise (· < ·) → (∀ x ∈ l, lo ≤ x ∧ x ∈ ps) → okP ps tl lo (mbP tl l)
  | n, [], lo, hn, hp, hm => trivial
  | 0, o :: r, lo, hn, hp, hm => by simp at hn
  | n + 1, o :: r, lo, hn, hp, hm => by
    simp only [List.length_cons] at hn
    obtain ⟨hp1, hp2⟩ := List.pairwise_cons.1 hp
    have ih := mbP_ok ps tl n r (o + 1) (by omega) hp2 (fun x hx => ⟨hp1 x hx, (hm x (List.mem_cons_of_mem _ hx)).2⟩)
    have ho := hm o (List.mem_cons_self ..)
    by_cases h91 : tl.getD o 0 = 91
    · cases hc : findClose tl o r with
      | none => rw [mbP_none tl o r h91 hc]; exact okP_mono ih (by omega)
      | some er =>
        obtain ⟨e, r'⟩ := er
        cases hs : slash tl o e with
        | true => rw [mbP_slash tl o r e r' h91 hc hs]; exact okP_mono ih (by omega)
        | false =>
          rw [mbP_pair tl o r e r' h91 hc hs]
          obtain ⟨pre, h1, h2, h3, h4⟩ := findClose_some hc
          have he : e ∈ r := by rw [h1]; simp
          have hoe := hp1 e he
          rw [h1] at hp2
          obtain ⟨_, hp3, _⟩ := List.pairwise_append.1 hp2
          obtain ⟨hp4, hp5⟩ := List.pairwise_cons.1 hp3
          refine ⟨ho.1, by omega, ho.2, (hm e (List.mem_cons_of_mem _ he)).2, h91, h2, fun s hs1 hs2 => slash_false hs (by omega) hs2, ?_⟩
          refine mbP_ok ps tl n r' (e + 1) (by have := findClose_len hc; omega) hp5 (fun x hx => ⟨hp4 x hx, ?_⟩)
          exact (hm x (List.mem_cons_of_mem _ (by rw [h1]; simp [hx]))).2
    · rw [mbP_skip tl o r h91]; exact okP_mono ih (by omega)

def marked (P : List (Nat × Nat)) (i : Nat) : Bool := P.any fun pe => pe.1 == i || pe.2 == i
theorem marked_append (a b : List (Nat × Nat)) (i : Nat) : marked (a ++ b) i = (marked a i || marked b i) := by simp [marked]
theorem marked_low {ps : List Nat} {tl : List UInt8} : ∀ {P : List (Nat × Nat)} {lo i : Nat}, okP ps tl lo P → i < lo → marked P i = false
  | [], lo, i, h, hi => rfl
  | (q, e) :: r, lo, i, h, hi => by
    obtain ⟨h1, h2, _, _, _, _, _, h8⟩ := h
    have ih := marked_low h8 (i := i) (by omega)
    simp only [marked, List.any_cons] at ih ⊢
    rw [ih]
    simp; omega
theorem marked_done {P : List (Nat × Nat)} {i : Nat} (h : ∀ pe ∈ P, pe.1 < i ∧ pe.2 < i) : marked P i = false := by
  simp only [marked, List.any_eq_false]
  intro pe hpe
  have := h pe hpe
  simp; omega

/-- Where the law's own scan stands at place i. -/
def Stands (ps : List Nat) (tl : List UInt8) (P : List (Nat × Nat)) (i : Nat) (op : Option Nat) (cnt : Nat) : Prop :=
  ∃ done rest, P = done ++ rest ∧ cnt = done.length ∧ (∀ pe ∈ done, pe.1 < i ∧ pe.2 < i) ∧
    ((op = none ∧ okP ps tl i rest) ∨
     ∃ q e r, op = some q ∧ rest = (q, e) :: r ∧ q < i ∧ i ≤ e ∧ q + 1 < e ∧ e ∈ ps ∧ tl.getD e 0 = 93 ∧ (∀ s, q < s → s < e → tl.getD s 0 ≠ 47) ∧ okP ps tl (e + 1) r)

section
variable {ps : List Nat} {tl : List UInt8} {P : List (Nat × Nat)} {i cnt q : Nat}

theorem Stands.start (h : okP ps tl 0 P) : Stands ps tl P 0 none 0 := ⟨[], P, rfl, rfl, by simp, .inl ⟨rfl, h⟩⟩

theorem Stands.none_no (h : Stands ps tl P i none cnt) (hm : marked P i = false) : Stands ps tl P (i + 1) none cnt := by
  obtain ⟨done, rest, h1, h2, h3, h4⟩ := h
  rcases h4 with ⟨_, h4⟩ | ⟨q, e, r, h, _⟩
  · refine ⟨done, rest, h1, h2, fun pe hpe => by have := h3 pe hpe; omega, .inl ⟨rfl, ?_⟩⟩
    cases rest with
    | nil => trivial
    | cons pe r =>
      obtain ⟨q, e⟩ := pe
      refine ⟨?_, h4.2⟩
      have hne : q ≠ i := by
        intro e1
        rw [h1, marked_append] at hm
        simp [marked, e1] at hm
      have := h4.1
      omega
  · cases h

theorem Stands.none_yes (h : Stands ps tl P i none cnt) (hm : marked P i = true) : tl.getD i 0 = 91 ∧ i ∈ ps ∧ Stands ps tl P (i + 1) (some i) cnt := by
  obtain ⟨done, rest, h1, h2, h3, h4⟩ := h
  rcases h4 with ⟨_, h4⟩ | ⟨q, e, r, h, _⟩
  · rw [h1, marked_append, marked_done h3, Bool.false_or] at hm
    cases rest with
    | nil => simp [marked] at hm
    | cons pe r =>
      obtain ⟨q, e⟩ := pe
      obtain ⟨a1, a2, a3, a4, a5, a6, a7, a8⟩ := h4
      have hq : q = i := by
        have := marked_low a8 (i := i)
        simp only [marked, List.any_cons, Bool.or_eq_true, beq_iff_eq] at hm this
        rcases hm with (h | h) | h
        · exact h
        · omega
        · by_cases hi : i < e + 1
          · rw [this hi] at h; cases h
          · by_cases hqi : q = i
            · exact hqi
            · exact absurd a1 (by omega)
      subst hq
      exact ⟨a5, a3, done, _, h1, h2, fun pe hpe => by have := h3 pe hpe; omega, .inr ⟨q, e, r, rfl, rfl, by omega, by omega, a2, a4, a6, a7, a8⟩⟩
  · cases h

theorem Stands.some_no (h : Stands ps tl P i (some q) cnt) (hm : marked P i = false) : tl.getD i 0 ≠ 47 ∧ Stands ps tl P (i + 1) (some q) cnt := by
  obtain ⟨done, rest, h1, h2, h3, h4⟩ := h
  rcases h4 with ⟨h, _⟩ | ⟨q', e, r, h, hr, a1, a2, a3, a4, a5, a6, a7⟩
  · cases h
  · obtain rfl : q = q' := by simpa using h
    have hne : e ≠ i := by
      intro e1
      rw [h1, marked_append, hr] at hm
      simp [marked, e1] at hm
    refine ⟨a6 i a1 (by omega), done, rest, h1, h2, fun pe hpe => by have := h3 pe hpe; omega, .inr ⟨q, e, r, rfl, hr, by omega, by omega, a3, a4, a5, a6, a7⟩⟩

theorem Stands.some_yes (h : Stands ps tl P i (some q) cnt) (hm : marked P i = true) : tl.getD i 0 = 93 ∧ i ≠ q + 1 ∧ i ∈ ps ∧ Stands ps tl P (i + 1) none (cnt + 1) := by
  obtain ⟨done, rest, h1, h2, h3, h4⟩ := h
  rcases h4 with ⟨h, _⟩ | ⟨q', e, r, h, hr, a1, a2, a3, a4, a5, a6, a7⟩
  · cases h
  · obtain rfl : q = q' := by simpa using h
    rw [h1, marked_append, marked_done h3, Bool.false_or, hr] at hm
    have he : e = i := by
      have := marked_low a7 (i := i)
      simp only [marked, List.any_cons, Bool.or_eq_true, beq_iff_eq] at hm this
      rcases hm with (h | h) | h
      · omega
      · exact h
      · rw [this (by omega)] at h; cases h
    subst he
    refine ⟨a5, by omega, a4, done ++ [(q, e)], r, by rw [h1, hr]; simp, by simp [h2], ?_, .inl ⟨rfl, a7⟩⟩
    intro pe hpe
    rcases List.mem_append.1 hpe with h | h
    · have := h3 pe h; omega
    · simp at h; subst h; simp; omega

theorem Stands.some_lt (h : Stands ps tl P i (some q) cnt) : q < i := by
  obtain ⟨done, rest, h1, h2, h3, h4⟩ := h
  rcases h4 with ⟨h, _⟩ | ⟨q', e, r, h, hr, a1, _⟩
  · cases h
  · obtain rfl : q = q' := by simpa using h
    exact a1

theorem Stands.fin {op : Option Nat} (h : Stands ps tl P i op cnt) (hps : ∀ x ∈ ps, x < i) : op = none ∧ cnt = P.length := by
  obtain ⟨done, rest, h1, h2, h3, h4⟩ := h
  rcases h4 with ⟨h, h4⟩ | ⟨q', e, r, h, hr, a1, a2, a3, a4, _⟩
  · refine ⟨h, ?_⟩
    cases rest with
    | nil => rw [h1]; simp [h2]
    | cons pe r => obtain ⟨q, e⟩ := pe; exact absurd (hps q h4.2.2.1) (by have := h4.1; omega)
  · exact absurd (hps e a4) (by omega)
end

/-- The bytes with the marked places set to nought. -/
def zmask (m : List UInt8) (P : List (Nat × Nat)) : List UInt8 := P.foldl (fun l pe => (l.set pe.1 0).set pe.2 0) m
theorem zmask_snoc (m : List UInt8) (P : List (Nat × Nat)) (q e : Nat) : zmask m (P ++ [(q, e)]) = ((zmask m P).set q 0).set e 0 := by simp [zmask]
theorem zmask_len (m : List UInt8) (P : List (Nat × Nat)) : (zmask m P).length = m.length := by
  induction P generalizing m with
  | nil => rfl
  | cons pe r ih => show (zmask _ r).length = _; rw [ih]; simp
theorem zmask_get (m : List UInt8) (P : List (Nat × Nat)) (i : Nat) (hi : i < m.length) : (zmask m P).getD i 0 = if marked P i then 0 else m.getD i 0 := by
  induction P generalizing m with
  | nil => rfl
  | cons pe r ih =>
    obtain ⟨q, e⟩ := pe
    show (zmask ((m.set q 0).set e 0) r).getD i 0 = _
    rw [ih _ (by simpa using hi)]
    have hm : marked ((q, e) :: r) i = ((q == i || e == i) || marked r i) := rfl
    rw [hm]
    cases hr : marked r i
    · simp only [Bool.or_false, Bool.false_eq_true, if_false]
      by_cases he : e = i
      · subst he; simp [List.getD_eq_getElem?_getD, hi]
      · by_cases hq : q = i
        · subst hq; simp [List.getD_eq_getElem?_getD, hi, he]
        · simp [List.getD_eq_getElem?_getD, he, hq]
    · simp
theorem ext_getD {a b : List UInt8} (hl : a.length = b.length) (h : ∀ i, i < a.length → a.getD i 0 = b.getD i 0) : a = b := by
  apply List.ext_getElem hl
  intro i h1 h2
  have := h i h1
  simpa [List.getD_eq_getElem?_getD, h1, h2] using this
theorem zmask_twice (m : List UInt8) (P : List (Nat × Nat)) : zmask (zmask m P) P = zmask m P := by
  apply ext_getD (by rw [zmask_len])
  intro i hi
  rw [zmask_len, zmask_len] at hi
  rw [zmask_get _ _ _ (by rw [zmask_len]; exact hi), zmask_get _ _ _ hi]
  split <;> rfl

theorem index_none (l : List UInt8) (h : l.contains 47 = false) : Lib.indexByte l 47 = -1 := by
  induction l with
  | nil => rfl
  | cons c l ih =>
    simp only [List.contains_cons, Bool.or_eq_false_iff] at h
    have hc : (c == 47) = false := by
      have := h.1
      simp only [beq_eq_false_iff_ne, ne_eq] at this ⊢
      exact fun e => this e.symm
    rw [Lib.indexByte, hc, ih h.2]
    rfl
theorem index_some (l : List UInt8) (h : l.contains 47 = true) : ∃ n : Nat, Lib.indexByte l 47 = n := by
  induction l with
  | nil => simp at h
  | cons c l ih =>
    rw [Lib.indexByte]
    cases hc : (c == 47) with
    | true => exact ⟨0, rfl⟩
    | false =>
      have h2 : l.contains 47 = true := by
        simp only [List.contains_cons, Bool.or_eq_true] at h
        rcases h with h | h
        · simp only [beq_iff_eq] at h; rw [← h] at hc; simp at hc
        · exact h
      obtain ⟨n, hn⟩ := ih h2
      rw [hn]
      refine ⟨n + 1, ?_⟩
      have : ((n : Int) == -1) = false := by simp only [beq_eq_false_iff_ne]; omega
      simp [this]

end Go.Proofs.Qxb6601350a
