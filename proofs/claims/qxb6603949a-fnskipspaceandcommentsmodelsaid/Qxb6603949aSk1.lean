/-
  The skip of blanks and comments, as plain functions: no Go in sight.
-/
import Derived.RowKit
namespace Go.Proofs.Qxb6603949a
set_option linter.unusedVariables false

def blank (b : Int) : Bool := b == 32 || b == 9 || b == 13 || b == 10
def slash2 (z : Nat → Int) (n i : Nat) : Bool := z i == 47 && decide (i + 1 < n) && z (i + 1) == 47

/-- Inside a comment, k bytes behind o? -/
def fl (z : Nat → Int) (n o : Nat) : Nat → Bool
  | 0 => false
  | k + 1 => if fl z n o k then !(z (o + k) == 10) else slash2 z n (o + k)

/-- Does the skip go on at the k-th byte behind o? -/
def goes (z : Nat → Int) (n o k : Nat) : Bool := decide (o + k < n) && (fl z n o k || blank (z (o + k)) || slash2 z n (o + k))

/-- The skip ends behind just K bytes. -/
def Ends (z : Nat → Int) (n o K : Nat) : Prop := (∀ k, k < K → goes z n o k = true) ∧ goes z n o K = false

theorem ends_unique {z : Nat → Int} {n o K L : Nat} (h : Ends z n o K) (h' : Ends z n o L) : K = L := by
  rcases Nat.lt_trichotomy K L with hl | he | hg
  · have := h'.1 K hl
    rw [h.2] at this
    cases this
  · exact he
  · have := h.1 L hg
    rw [h'.2] at this
    cases this

theorem slash_not_blank {z : Nat → Int} {n i : Nat} (h : slash2 z n i = true) : z i = 47 ∧ i + 1 < n ∧ z (i + 1) = 47 := by
  unfold slash2 at h
  simp only [Bool.and_eq_true, beq_iff_eq, decide_eq_true_eq] at h
  exact ⟨h.1.1, h.1.2, h.2⟩

theorem blank_iff {b : Int} : blank b = true ↔ b = 32 ∨ b = 9 ∨ b = 13 ∨ b = 10 := by
  unfold blank
  simp only [Bool.or_eq_true, beq_iff_eq]
  omega

theorem no_slash_of_blank {z : Nat → Int} {n i : Nat} (h : blank (z i) = true) : slash2 z n i = false := by
  cases hs : slash2 z n i with
  | false => rfl
  | true =>
    have := (slash_not_blank hs).1
    rw [blank_iff] at h
    omega

section
variable {z : Nat → Int} {n o : Nat}

/-- What the scanner's outer loop keeps. -/
def Inv (z : Nat → Int) (n o k : Nat) : Prop := (∀ t, t < k → goes z n o t = true) ∧ (fl z n o k = false ∨ n ≤ o + k ∨ z (o + k) = 10)
/-- What its inner loop keeps, begun at k. -/
def Inn (z : Nat → Int) (n o k j : Nat) : Prop := (∀ t, t < j → goes z n o t = true) ∧ ((j = k ∧ fl z n o k = false ∧ slash2 z n (o + k) = true) ∨ (k < j ∧ fl z n o j = true))

theorem inv_zero : Inv z n o 0 := ⟨fun t ht => absurd ht (Nat.not_lt_zero _), .inl rfl⟩

theorem below_succ {p : Nat → Bool} {k : Nat} (h : ∀ t, t < k → p t = true) (hk : p k = true) : ∀ t, t < k + 1 → p t = true := by
  intro t ht
  by_cases e : t = k
  · rw [e]; exact hk
  · exact h t (by omega)

theorem inv_blank {k : Nat} (h : Inv z n o k) (hlt : o + k < n) (hb : blank (z (o + k)) = true) : Inv z n o (k + 1) := by
  refine ⟨below_succ h.1 ?_, .inl ?_⟩
  · unfold goes
    simp [hlt, hb]
  · show (if fl z n o k then !(z (o + k) == 10) else slash2 z n (o + k)) = false
    cases hf : fl z n o k with
    | true =>
      rcases h.2 with h2 | h2 | h2
      · rw [hf] at h2; cases h2
      · omega
      · simp [h2]
    | false => simpa using no_slash_of_blank hb

theorem inv_comment {k : Nat} (h : Inv z n o k) (hlt : o + k < n) (hs : slash2 z n (o + k) = true) : Inn z n o k k := by
  refine ⟨h.1, .inl ⟨rfl, ?_, hs⟩⟩
  rcases h.2 with h2 | h2 | h2
  · exact h2
  · omega
  · have := (slash_not_blank hs).1
    omega

theorem inn_step {k j : Nat} (h : Inn z n o k j) (hlt : o + j < n) (hz : z (o + j) ≠ 10) : Inn z n o k (j + 1) := by
  have e : fl z n o (j + 1) = if fl z n o j then !(z (o + j) == 10) else slash2 z n (o + j) := rfl
  rcases h.2 with ⟨rfl, h2, h3⟩ | ⟨h2, h3⟩
  · refine ⟨below_succ h.1 ?_, .inr ⟨Nat.lt_succ_self _, ?_⟩⟩
    · unfold goes
      simp [hlt, h3]
    · rw [e, h2]
      simpa using h3
  · refine ⟨below_succ h.1 ?_, .inr ⟨by omega, ?_⟩⟩
    · unfold goes
      simp [hlt, h3]
    · rw [e, h3]
      simpa using hz

theorem inn_exit {k j : Nat} (h : Inn z n o k j) (hx : n ≤ o + j ∨ z (o + j) = 10) : Inv z n o j ∧ k < j := by
  refine ⟨⟨h.1, .inr hx⟩, ?_⟩
  rcases h.2 with ⟨rfl, h2, h3⟩ | ⟨h2, _⟩
  · have := slash_not_blank h3
    omega
  · exact h2

theorem ends_past {k : Nat} (h : Inv z n o k) (hx : n ≤ o + k) : Ends z n o k := ⟨h.1, by unfold goes; simp; omega⟩

theorem ends_stop {k : Nat} (h : Inv z n o k) (hlt : o + k < n) (hb : blank (z (o + k)) = false) (hs : slash2 z n (o + k) = false) : Ends z n o k := by
  refine ⟨h.1, ?_⟩
  have hf : fl z n o k = false := by
    rcases h.2 with h2 | h2 | h2
    · exact h2
    · omega
    · rw [h2] at hb
      cases hb
  unfold goes
  simp [hf, hb, hs]

theorem ends_bound {K : Nat} (h : Ends z n o K) (ho : o ≤ n) : o + K ≤ n := by
  by_cases hk : K = 0
  · omega
  · have := h.1 (K - 1) (by omega)
    unfold goes at this
    simp at this
    omega

theorem ends_token {K : Nat} (h : Ends z n o K) (hlt : o + K < n) : blank (z (o + K)) = false ∧ slash2 z n (o + K) = false := by
  have := h.2
  unfold goes at this
  simp [hlt] at this
  exact ⟨this.1.2, this.2⟩
end

/-! ### the position -/
def counts (b : Int) : Bool := decide (b < 128) || decide (192 ≤ b)

/-- One byte passed. -/
def adv (b : Int) (p : Int × Int) : Int × Int := if b = 10 then (Go.RowKit.wrap64 (p.1 + 1), 1) else if counts b = true then (p.1, Go.RowKit.wrap64 (p.2 + 1)) else p

def pos (z : Nat → Int) (o : Nat) (p : Int × Int) : Nat → Int × Int
  | 0 => p
  | k + 1 => adv (z (o + k)) (pos z o p k)

def nl (z : Nat → Int) (o : Nat) : Nat → Nat
  | 0 => 0
  | k + 1 => if z (o + k) = 10 then nl z o k + 1 else nl z o k
/-- Behind the last newline, counted from o. -/
def st (z : Nat → Int) (o : Nat) : Nat → Nat
  | 0 => 0
  | k + 1 => if z (o + k) = 10 then k + 1 else st z o k
def ct (z : Nat → Int) (s : Nat) : Nat → Nat
  | 0 => 0
  | t + 1 => if counts (z (s + t)) = true then ct z s t + 1 else ct z s t

theorem st_le (z : Nat → Int) (o : Nat) : ∀ k, st z o k ≤ k
  | 0 => Nat.le_refl _
  | k + 1 => by
    unfold st
    split
    · exact Nat.le_refl _
    · have := st_le z o k
      omega

theorem nl_le (z : Nat → Int) (o : Nat) : ∀ k, nl z o k ≤ k
  | 0 => Nat.le_refl _
  | k + 1 => by
    have := nl_le z o k
    unfold nl
    split <;> omega

theorem ct_le (z : Nat → Int) (s : Nat) : ∀ k, ct z s k ≤ k
  | 0 => Nat.le_refl _
  | k + 1 => by
    have := ct_le z s k
    unfold ct
    split <;> omega

theorem st_zero (z : Nat → Int) (o : Nat) : ∀ k, nl z o k = 0 → st z o k = 0
  | 0, _ => rfl
  | k + 1, h => by
    unfold nl at h
    unfold st
    split at h
    · omega
    · rename_i hz
      rw [if_neg hz]
      exact st_zero z o k h

theorem wr_succ (a : Int) (m : Nat) : Go.RowKit.wrap64 (Go.RowKit.wrap64 (a + (m : Int)) + 1) = Go.RowKit.wrap64 (a + ((m + 1 : Nat) : Int)) := by
  unfold Go.RowKit.wrap64
  omega

theorem wr_self {a : Int} (h0 : -9223372036854775808 ≤ a) (h1 : a ≤ 9223372036854775807) : Go.RowKit.wrap64 a = a := by
  unfold Go.RowKit.wrap64
  omega

/-- The position in closed form. -/
theorem pos_closed (z : Nat → Int) (o : Nat) (l c : Int) (hl0 : -9223372036854775808 ≤ l) (hl1 : l ≤ 9223372036854775807) (hc0 : -9223372036854775808 ≤ c) (hc1 : c ≤ 9223372036854775807) :
    ∀ k, pos z o (l, c) k = (Go.RowKit.wrap64 (l + nl z o k), Go.RowKit.wrap64 ((if nl z o k = 0 then c else 1) + ct z (o + st z o k) (k - st z o k)))
  | 0 => by
    show (l, c) = _
    have e1 : nl z o 0 = 0 := rfl
    have e2 : ct z (o + st z o 0) (0 - st z o 0) = 0 := rfl
    rw [e1, e2]
    simp [wr_self hl0 hl1, wr_self hc0 hc1]
  | k + 1 => by
    show adv (z (o + k)) (pos z o (l, c) k) = _
    rw [pos_closed z o l c hl0 hl1 hc0 hc1 k]
    have hst := st_le z o k
    by_cases hz : z (o + k) = 10
    · have e1 : nl z o (k + 1) = nl z o k + 1 := by show (if _ then _ else _) = _; rw [if_pos hz]
      have e2 : st z o (k + 1) = k + 1 := by show (if _ then _ else _) = _; rw [if_pos hz]
      rw [e1, e2]
      unfold adv
      rw [if_pos hz]
      have e3 : ct z (o + (k + 1)) (k + 1 - (k + 1)) = 0 := by rw [Nat.sub_self]; rfl
      rw [e3]
      refine Prod.ext ?_ ?_
      · exact wr_succ l _
      · show (1 : Int) = Go.RowKit.wrap64 ((if nl z o k + 1 = 0 then c else 1) + ((0 : Nat) : Int))
        rw [if_neg (by omega), wr_self (by omega) (by omega)]
        rfl
    · have e1 : nl z o (k + 1) = nl z o k := by show (if _ then _ else _) = _; rw [if_neg hz]
      have e2 : st z o (k + 1) = st z o k := by show (if _ then _ else _) = _; rw [if_neg hz]
      rw [e1, e2]
      unfold adv
      rw [if_neg hz]
      obtain ⟨t, ht⟩ : ∃ t, k - st z o k = t := ⟨_, rfl⟩
      have hk1 : k + 1 - st z o k = t + 1 := by omega
      have hp : o + st z o k + t = o + k := by omega
      rw [ht, hk1]
      by_cases hc : counts (z (o + k)) = true
      · rw [if_pos hc]
        have e3 : ct z (o + st z o k) (t + 1) = ct z (o + st z o k) t + 1 := by show (if _ then _ else _) = _; rw [hp, if_pos hc]
        rw [e3]
        refine Prod.ext rfl ?_
        exact wr_succ _ _
      · rw [if_neg hc]
        have e3 : ct z (o + st z o k) (t + 1) = ct z (o + st z o k) t := by show (if _ then _ else _) = _; rw [hp, if_neg hc]
        rw [e3]
end Go.Proofs.Qxb6603949a
