/-
  THE LANES, PLAINLY: the next and the previous index of a mode. No Go in sight.
-/
namespace Go.Proofs.Ybulkaqny

/-- The least index from k on and below n of mode m. -/
def nxt (md : Nat → Nat) (m k : Nat) : Nat → Option Nat
  | 0 => none
  | n + 1 => match nxt md m k n with
    | some j => some j
    | none => if k ≤ n ∧ md n = m then some n else none

/-- The greatest index below k of mode m. -/
def prv (md : Nat → Nat) (m : Nat) : Nat → Option Nat
  | 0 => none
  | k + 1 => if md k = m then some k else prv md m k

theorem nxt_some {md : Nat → Nat} {m k : Nat} : ∀ {n j : Nat}, nxt md m k n = some j → k ≤ j ∧ j < n ∧ md j = m ∧ ∀ i, k ≤ i → i < j → md i ≠ m
  | 0, j, h => by simp [nxt] at h
  | n + 1, j, h => by
    simp only [nxt] at h
    cases e : nxt md m k n with
    | some x =>
      rw [e] at h
      simp only [Option.some.injEq] at h
      subst h
      obtain ⟨a, b, c, d⟩ := nxt_some e
      exact ⟨a, by omega, c, d⟩
    | none =>
      rw [e] at h
      simp only at h
      split at h
      · rename_i hc
        simp only [Option.some.injEq] at h
        subst h
        exact ⟨hc.1, by omega, hc.2, fun i h1 h2 => nxt_none e i h1 h2⟩
      · cases h
where
  nxt_none {md : Nat → Nat} {m k : Nat} : ∀ {n : Nat}, nxt md m k n = none → ∀ i, k ≤ i → i < n → md i ≠ m
  | 0, _, i, _, h => by omega
  | n + 1, h, i, h1, h2 => by
    simp only [nxt] at h
    cases e : nxt md m k n with
    | some x => rw [e] at h; cases h
    | none =>
      rw [e] at h
      simp only at h
      split at h
      · cases h
      · rename_i hc
        rcases Nat.lt_or_ge i n with c | c
        · exact nxt_none e i h1 c
        · obtain rfl : i = n := by omega
          exact fun e => hc ⟨h1, e⟩

theorem nxt_none {md : Nat → Nat} {m k n : Nat} (h : nxt md m k n = none) : ∀ i, k ≤ i → i < n → md i ≠ m := nxt_some.nxt_none h

/-- What is the next one is known by these. -/
theorem nxt_eq {md : Nat → Nat} {m k n j : Nat} (h1 : k ≤ j) (h2 : j < n) (h3 : md j = m) (h4 : ∀ i, k ≤ i → i < j → md i ≠ m) : nxt md m k n = some j := by
  cases e : nxt md m k n with
  | none => exact absurd h3 (nxt_none e j h1 h2)
  | some x =>
    obtain ⟨a, b, c, d⟩ := nxt_some e
    rcases Nat.lt_trichotomy x j with t | t | t
    · exact absurd c (h4 x a t)
    · rw [t]
    · exact absurd h3 (d j h1 t)

theorem nxt_eq_none {md : Nat → Nat} {m k n : Nat} (h : ∀ i, k ≤ i → i < n → md i ≠ m) : nxt md m k n = none := by
  cases e : nxt md m k n with
  | none => rfl
  | some x =>
    obtain ⟨a, b, c, d⟩ := nxt_some e
    exact absurd c (h x a b)

theorem nxt_here {md : Nat → Nat} {k n : Nat} (h : k < n) : nxt md (md k) k n = some k := nxt_eq (Nat.le_refl _) h rfl (fun i _ _ => by omega)

/-- Past k: the mode of k goes on to the next one; the others stay. -/
theorem nxt_step {md : Nat → Nat} {k n m : Nat} (h : md k ≠ m) : nxt md m k n = nxt md m (k + 1) n := by
  cases e : nxt md m (k + 1) n with
  | none =>
    refine nxt_eq_none (fun i a b => ?_)
    rcases Nat.lt_or_ge k i with c | c
    · exact nxt_none e i c b
    · obtain rfl : i = k := by omega
      exact h
  | some x =>
    obtain ⟨a, b, c, d⟩ := nxt_some e
    refine nxt_eq (by omega) b c (fun i p q => ?_)
    rcases Nat.lt_or_ge k i with t | t
    · exact d i t q
    · obtain rfl : i = k := by omega
      exact h

theorem prv_some {md : Nat → Nat} {m : Nat} : ∀ {k j : Nat}, prv md m k = some j → j < k ∧ md j = m ∧ ∀ i, j < i → i < k → md i ≠ m
  | 0, j, h => by simp [prv] at h
  | k + 1, j, h => by
    simp only [prv] at h
    split at h
    · rename_i hc
      simp only [Option.some.injEq] at h
      subst h
      exact ⟨by omega, hc, fun i _ _ => by omega⟩
    · rename_i hc
      obtain ⟨a, b, c⟩ := prv_some h
      refine ⟨by omega, b, fun i p q => ?_⟩
      rcases Nat.lt_or_ge i k with t | t
      · exact c i p t
      · obtain rfl : i = k := by omega
        exact hc

theorem prv_none {md : Nat → Nat} {m : Nat} : ∀ {k : Nat}, prv md m k = none → ∀ i, i < k → md i ≠ m
  | 0, _, i, h => by omega
  | k + 1, h, i, hi => by
    simp only [prv] at h
    split at h
    · cases h
    · rename_i hc
      rcases Nat.lt_or_ge i k with t | t
      · exact prv_none h i t
      · obtain rfl : i = k := by omega
        exact hc

theorem prv_eq {md : Nat → Nat} {m k j : Nat} (h1 : j < k) (h2 : md j = m) (h3 : ∀ i, j < i → i < k → md i ≠ m) : prv md m k = some j := by
  cases e : prv md m k with
  | none => exact absurd h2 (prv_none e j h1)
  | some x =>
    obtain ⟨a, b, c⟩ := prv_some e
    rcases Nat.lt_trichotomy x j with t | t | t
    · exact absurd h2 (c j t h1)
    · rw [t]
    · exact absurd b (h3 x t a)

theorem prv_here {md : Nat → Nat} {k : Nat} : prv md (md k) (k + 1) = some k := by simp [prv]
theorem prv_step {md : Nat → Nat} {k m : Nat} (h : md k ≠ m) : prv md m (k + 1) = prv md m k := by simp [prv, h]

/-- One request more at the end: the next one of mode m from k on. -/
theorem nxt_more {md : Nat → Nat} {m k n : Nat} : nxt md m k (n + 1) = match nxt md m k n with | some j => some j | none => if k ≤ n ∧ md n = m then some n else none := rfl

/-- The links behind one request more: only the last one of its mode turns. -/
theorem link_more {md : Nat → Nat} {i j : Nat} (hj : j < i) : nxt md (md j) (j + 1) (i + 1) = if prv md (md i) i = some j then some i else nxt md (md j) (j + 1) i := by
  rw [nxt_more]
  cases e : nxt md (md j) (j + 1) i with
  | some x =>
    obtain ⟨a, b, c, d⟩ := nxt_some e
    show some x = _
    rw [if_neg]
    intro h
    obtain ⟨p, q, r⟩ := prv_some h
    exact r x (by omega) b (by rw [c]; exact q)
  | none =>
    simp only
    have hn := nxt_none e
    by_cases hm : md i = md j
    · rw [if_pos ⟨by omega, hm⟩, if_pos]
      refine prv_eq hj hm.symm (fun x p q => ?_)
      rw [hm]
      exact hn x (by omega) q
    · rw [if_neg (by intro h; exact hm h.2), if_neg]
      intro h
      obtain ⟨p, q, r⟩ := prv_some h
      exact hm q.symm

/-- The first one of a mode behind one request more. -/
theorem head_more {md : Nat → Nat} {i m : Nat} : nxt md m 0 (i + 1) = if md i = m ∧ prv md m i = none then some i else nxt md m 0 i := by
  rw [nxt_more]
  cases e : nxt md m 0 i with
  | some x =>
    obtain ⟨a, b, c, d⟩ := nxt_some e
    show some x = _
    rw [if_neg]
    rintro ⟨_, h⟩
    exact prv_none h x b c
  | none =>
    simp only
    have hn := nxt_none e
    have : prv md m i = none := by
      cases e2 : prv md m i with
      | none => rfl
      | some x =>
        obtain ⟨p, q, r⟩ := prv_some e2
        exact absurd q (hn x (by omega) p)
    by_cases hm : md i = m
    · rw [if_pos ⟨by omega, hm⟩, if_pos ⟨hm, this⟩]
    · rw [if_neg (by intro h; exact hm h.2), if_neg (by intro h; exact hm h.1)]

end Go.Proofs.Ybulkaqny
