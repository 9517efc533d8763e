import Derived.Test.Qxb6601350aPairs
namespace Go.Proofs.Qxb6601350a
set_option linter.unusedVariables false

/-- The model's scan from the left: the open place and the pairs so far, ahead of place p. -/
def scStep (ps : List Nat) (tl : List UInt8) (p : Nat) (s : Option Nat × List (Nat × Nat)) : Option Nat × List (Nat × Nat) :=
  match s.1 with
  | none => if p ∈ ps ∧ tl.getD p 0 = 91 then (some p, s.2) else s
  | some q => if tl.getD p 0 = 47 then (none, s.2) else if p ∈ ps ∧ tl.getD p 0 = 93 ∧ p ≠ q + 1 then (none, s.2 ++ [(q, p)]) else s

def sc (ps : List Nat) (tl : List UInt8) : Nat → Option Nat × List (Nat × Nat)
  | 0 => (none, [])
  | p + 1 => scStep ps tl p (sc ps tl p)

section
variable {ps : List Nat} {tl : List UInt8}

theorem sc_succ (p : Nat) : sc ps tl (p + 1) = scStep ps tl p (sc ps tl p) := rfl

theorem sc_none_skip {p : Nat} {dn : List (Nat × Nat)} (h : sc ps tl p = (none, dn)) (hn : ¬ (p ∈ ps ∧ tl.getD p 0 = 91)) : sc ps tl (p + 1) = (none, dn) := by
  rw [sc_succ, h]; simp only [scStep, hn, if_false]
theorem sc_none_open {p : Nat} {dn : List (Nat × Nat)} (h : sc ps tl p = (none, dn)) (h1 : p ∈ ps) (h2 : tl.getD p 0 = 91) : sc ps tl (p + 1) = (some p, dn) := by
  rw [sc_succ, h]; simp only [scStep, h1, h2, and_self, if_true]
theorem sc_some_slash {p q : Nat} {dn : List (Nat × Nat)} (h : sc ps tl p = (some q, dn)) (h1 : tl.getD p 0 = 47) : sc ps tl (p + 1) = (none, dn) := by
  rw [sc_succ, h]; simp only [scStep, h1, if_true]
theorem sc_some_stay {p q : Nat} {dn : List (Nat × Nat)} (h : sc ps tl p = (some q, dn)) (h1 : tl.getD p 0 ≠ 47) (h2 : ¬ (p ∈ ps ∧ tl.getD p 0 = 93 ∧ p ≠ q + 1)) : sc ps tl (p + 1) = (some q, dn) := by
  rw [sc_succ, h]; simp only [scStep, h1, h2, if_false]
theorem sc_some_close {p q : Nat} {dn : List (Nat × Nat)} (h : sc ps tl p = (some q, dn)) (h2 : p ∈ ps) (h3 : tl.getD p 0 = 93) (h4 : p ≠ q + 1) : sc ps tl (p + 1) = (none, dn ++ [(q, p)]) := by
  have h1 : tl.getD p 0 ≠ 47 := by rw [h3]; decide
  rw [sc_succ, h]; simp only [scStep, h1, if_false]
  rw [if_pos ⟨h2, h3, h4⟩]

theorem sc_quiet_none (lo : Nat) (dn : List (Nat × Nat)) (h : sc ps tl lo = (none, dn)) : ∀ k, (∀ p, lo ≤ p → p < lo + k → p ∉ ps) → sc ps tl (lo + k) = (none, dn)
  | 0, _ => h
  | k + 1, hn => sc_none_skip (sc_quiet_none lo dn h k (fun p h1 h2 => hn p h1 (by omega))) (fun hh => hn (lo + k) (by omega) (by omega) hh.1)

theorem sc_quiet_some (lo q : Nat) (dn : List (Nat × Nat)) (h : sc ps tl lo = (some q, dn)) : ∀ k, (∀ p, lo ≤ p → p < lo + k → p ∉ ps) →
    sc ps tl (lo + k) = (none, dn) ∨ (sc ps tl (lo + k) = (some q, dn) ∧ ∀ s, lo ≤ s → s < lo + k → tl.getD s 0 ≠ 47)
  | 0, _ => .inr ⟨h, fun s h1 h2 => by omega⟩
  | k + 1, hn => by
    have hk := hn (lo + k) (by omega) (by omega)
    rcases sc_quiet_some lo q dn h k (fun p h1 h2 => hn p h1 (by omega)) with h1 | ⟨h1, h2⟩
    · exact .inl (sc_none_skip h1 (fun hh => hk hh.1))
    · by_cases hs : tl.getD (lo + k) 0 = 47
      · exact .inl (sc_some_slash h1 hs)
      · refine .inr ⟨sc_some_stay h1 hs (fun hh => hk hh.1), fun s a1 a2 => ?_⟩
        by_cases e : s = lo + k
        · rw [e]; exact hs
        · exact h2 s a1 (by omega)

theorem sc_stays (a q : Nat) (dn : List (Nat × Nat)) (h : sc ps tl a = (some q, dn)) : ∀ k, (∀ p, a ≤ p → p < a + k → tl.getD p 0 ≠ 47 ∧ ¬ (p ∈ ps ∧ tl.getD p 0 = 93 ∧ p ≠ q + 1)) → sc ps tl (a + k) = (some q, dn)
  | 0, _ => h
  | k + 1, hn => by
    have hk := hn (a + k) (by omega) (by omega)
    exact sc_some_stay (sc_stays a q dn h k (fun p h1 h2 => hn p h1 (by omega))) hk.1 hk.2

/-- The scan's open place q will find no partner: a '/' stands ahead of each. -/
def Doomed (tl : List UInt8) (q lo : Nat) (l : List Nat) : Prop := ∀ e ∈ l, tl.getD e 0 = 93 → e ≠ q + 1 → ∃ s, lo ≤ s ∧ s < e ∧ tl.getD s 0 = 47

theorem sc_all (n : Nat) : ∀ (m : Nat) (l : List Nat) (lo : Nat) (dn : List (Nat × Nat)), l.length ≤ m → lo ≤ n → l.Pairwise (· < ·) → (∀ x ∈ l, lo ≤ x ∧ x < n) → (∀ p, lo ≤ p → (p ∈ ps ↔ p ∈ l)) →
    (sc ps tl lo = (none, dn) ∨ ∃ q, sc ps tl lo = (some q, dn) ∧ q < lo ∧ Doomed tl q lo l) → (sc ps tl n).2 = dn ++ mbP tl l
  | m, [], lo, dn, hm, hlo, hp, hl, hiff, hst => by
    have hq : ∀ p, lo ≤ p → p < lo + (n - lo) → p ∉ ps := fun p h1 _ h => by have := (hiff p h1).1 h; simp at this
    have e : lo + (n - lo) = n := by omega
    rw [mbP_nil, List.append_nil]
    rcases hst with h | ⟨q, h, _⟩
    · have := sc_quiet_none lo dn h (n - lo) hq
      rw [e] at this; rw [this]
    · rcases sc_quiet_some lo q dn h (n - lo) hq with h | ⟨h, _⟩
      · rw [e] at h; rw [h]
      · rw [e] at h; rw [h]
  | 0, o :: r, lo, dn, hm, hlo, hp, hl, hiff, hst => by simp at hm
  | m + 1, o :: r, lo, dn, hm, hlo, hp, hl, hiff, hst => by
    simp only [List.length_cons] at hm
    obtain ⟨hp1, hp2⟩ := List.pairwise_cons.1 hp
    obtain ⟨ho1, ho2⟩ := hl o (List.mem_cons_self ..)
    have hops : o ∈ ps := (hiff o ho1).2 (List.mem_cons_self ..)
    have hquiet : ∀ p, lo ≤ p → p < lo + (o - lo) → p ∉ ps := fun p h1 h2 h => by
      rcases List.mem_cons.1 ((hiff p h1).1 h) with h | h
      · omega
      · have := hp1 p h; omega
    have eo : lo + (o - lo) = o := by omega
    have hlr : ∀ x ∈ r, o + 1 ≤ x ∧ x < n := fun x hx => ⟨hp1 x hx, (hl x (List.mem_cons_of_mem _ hx)).2⟩
    have hiffr : ∀ p, o + 1 ≤ p → (p ∈ ps ↔ p ∈ r) := fun p h1 => by
      rw [hiff p (by omega), List.mem_cons]
      constructor
      · rintro (h | h)
        · omega
        · exact h
      · exact .inr
    have ih := fun dn' st => sc_all n m r (o + 1) dn' (by omega) (by omega) hp2 hlr hiffr st
    have hst' : sc ps tl o = (none, dn) ∨ ∃ q, sc ps tl o = (some q, dn) ∧ q < o ∧ Doomed tl q o (o :: r) := by
      rcases hst with h | ⟨q, h, hq, hd⟩
      · left; have := sc_quiet_none lo dn h (o - lo) hquiet; rw [eo] at this; exact this
      · rcases sc_quiet_some lo q dn h (o - lo) hquiet with h | ⟨h, hns⟩
        · left; rw [eo] at h; exact h
        · right
          rw [eo] at h hns
          refine ⟨q, h, by omega, fun e he h1 h2 => ?_⟩
          obtain ⟨s, s1, s2, s3⟩ := hd e he h1 h2
          have : ¬ s < o := fun hlt => hns s s1 hlt s3
          exact ⟨s, by omega, s2, s3⟩
    rcases hst' with h | ⟨q, h, hq, hd⟩
    · by_cases h91 : tl.getD o 0 = 91
      · have hopen := sc_none_open h hops h91
        cases hc : findClose tl o r with
        | none =>
          rw [mbP_none tl o r h91 hc]
          refine ih dn (.inr ⟨o, hopen, by omega, fun e he h1 h2 => ?_⟩)
          rcases findClose_none hc e he with h | h
          · exact absurd h1 h
          · exact absurd h h2
        | some er =>
          obtain ⟨e, r'⟩ := er
          obtain ⟨pre, hr, e1, e2, e3⟩ := findClose_some hc
          have hpp := hp2
          rw [hr] at hpp
          obtain ⟨_, hpe, hpx⟩ := List.pairwise_append.1 hpp
          obtain ⟨hpe1, hpe2⟩ := List.pairwise_cons.1 hpe
          have her : e ∈ r := by rw [hr]; simp
          have hoe := hp1 e her
          cases hs : slash tl o e with
          | true =>
            rw [mbP_slash tl o r e r' h91 hc hs]
            refine ih dn (.inr ⟨o, hopen, by omega, fun x hx h1 h2 => ?_⟩)
            obtain ⟨s, s1, s2, s3⟩ := slash_true hs
            have hso : s ≠ o := fun hh => by rw [hh, h91] at s3; exact absurd s3 (by decide)
            have hxe : e ≤ x := by
              rw [hr] at hx
              rcases List.mem_append.1 hx with hx | hx
              · rcases e3 x hx with h | h
                · exact absurd h1 h
                · exact absurd h h2
              · rcases List.mem_cons.1 hx with rfl | hx
                · exact Nat.le_refl _
                · have := hpe1 x hx; omega
            exact ⟨s, by omega, by omega, s3⟩
          | false =>
            rw [mbP_pair tl o r e r' h91 hc hs]
            have hstay := sc_stays (o + 1) o dn hopen (e - (o + 1)) (fun p h1 h2 => ⟨slash_false hs (by omega) (by omega), fun hh => by
              have hpr := (hiffr p h1).1 hh.1
              rw [hr] at hpr
              rcases List.mem_append.1 hpr with hx | hx
              · rcases e3 p hx with h | h
                · exact h hh.2.1
                · exact hh.2.2 h
              · rcases List.mem_cons.1 hx with hx | hx
                · omega
                · have := hpe1 p hx; omega⟩)
            have ee : o + 1 + (e - (o + 1)) = e := by omega
            rw [ee] at hstay
            have heps : e ∈ ps := (hiff e (by omega)).2 (List.mem_cons_of_mem _ her)
            have hclose := sc_some_close hstay heps e1 e2
            have hfin := sc_all n m r' (e + 1) (dn ++ [(o, e)]) (by have := findClose_len hc; omega) (by have := hlr e her; omega) hpe2
              (fun x hx => ⟨hpe1 x hx, (hlr x (by rw [hr]; simp [hx])).2⟩)
              (fun p h1 => by
                rw [hiffr p (by omega), hr, List.mem_append, List.mem_cons]
                constructor
                · rintro (h | h | h)
                  · have := hpx p h e (List.mem_cons_self ..); omega
                  · omega
                  · exact h
                · exact fun h => .inr (.inr h)) (.inl hclose)
            rw [hfin]; simp
      · rw [mbP_skip tl o r h91]
        exact ih dn (.inl (sc_none_skip h (fun hh => h91 hh.2)))
    · by_cases h47 : tl.getD o 0 = 47
      · rw [mbP_skip tl o r (by rw [h47]; decide)]
        exact ih dn (.inl (sc_some_slash h h47))
      · have hnc : ¬ (o ∈ ps ∧ tl.getD o 0 = 93 ∧ o ≠ q + 1) := fun hh => by
          obtain ⟨s, s1, s2, _⟩ := hd o (List.mem_cons_self ..) hh.2.1 hh.2.2
          omega
        have hstay := sc_some_stay h h47 hnc
        have hdr : Doomed tl q (o + 1) r := fun e he h1 h2 => by
          obtain ⟨s, s1, s2, s3⟩ := hd e (List.mem_cons_of_mem _ he) h1 h2
          have : s ≠ o := fun hh => by rw [hh] at s3; exact h47 s3
          exact ⟨s, by omega, s2, s3⟩
        have hmb : mbP tl (o :: r) = mbP tl r := by
          by_cases h91 : tl.getD o 0 = 91
          · cases hc : findClose tl o r with
            | none => exact mbP_none tl o r h91 hc
            | some er =>
              obtain ⟨e, r'⟩ := er
              obtain ⟨pre, hr, e1, e2, e3⟩ := findClose_some hc
              have her : e ∈ r := by rw [hr]; simp
              have hoe := hp1 e her
              obtain ⟨s, s1, s2, s3⟩ := hdr e her e1 (by omega)
              cases hs : slash tl o e with
              | true => exact mbP_slash tl o r e r' h91 hc hs
              | false => exact absurd s3 (slash_false hs (by omega) s2)
          · exact mbP_skip tl o r h91
        rw [hmb]
        exact ih dn (.inr ⟨q, hstay, by omega, hdr⟩)

theorem sc_fin (n : Nat) (hp : ps.Pairwise (· < ·)) (hn : ∀ x ∈ ps, x < n) : (sc ps tl n).2 = mbP tl ps := by
  have := sc_all (ps := ps) (tl := tl) n ps.length ps 0 [] (Nat.le_refl _) (Nat.zero_le _) hp (fun x hx => ⟨Nat.zero_le _, hn x hx⟩) (fun p _ => Iff.rfl) (.inl rfl)
  simpa using this

theorem sc_open_lt (p : Nat) : ∀ q dn, sc ps tl p = (some q, dn) → q < p := by
  induction p with
  | zero => intro q dn h; simp [sc] at h
  | succ p ih =>
    intro q dn h
    rw [sc_succ] at h
    cases hs : sc ps tl p with
    | mk st d =>
      rw [hs] at h
      cases st with
      | none =>
        simp only [scStep] at h
        split at h
        · simp at h; omega
        · simp at h
      | some q' =>
        have := ih q' d hs
        simp only [scStep] at h
        split at h
        · simp at h
        · split at h
          · simp at h
          · simp at h; omega
end

end Go.Proofs.Qxb6601350a
