/-
  Plain facts for the btree's laws: the order of strings, sorted lists, where a key belongs. Nothing of the program stands here.
-/
import GoSem.Op.String
import Derived.Lib.Strings
namespace Go.Proofs.Qxb6603837a

/-- Go's '<' on strings. -/
def lt (a b : ByteArray) : Bool := Op.bytesLess a.toList b.toList

theorem bl_irrefl : ∀ x : List UInt8, Op.bytesLess x x = false
  | [] => rfl
  | a :: x => by
    rw [Op.bytesLess, bl_irrefl x]
    simp

theorem bl_trans : ∀ x y z : List UInt8, Op.bytesLess x y = true → Op.bytesLess y z = true → Op.bytesLess x z = true
  | _, [], _, h, _ => by simp [Op.bytesLess] at h
  | _, _ :: _, [], _, h => by simp [Op.bytesLess] at h
  | [], _ :: _, _ :: _, _, _ => rfl
  | a :: x, b :: y, c :: z, h1, h2 => by
    simp only [Op.bytesLess, Bool.or_eq_true, Bool.and_eq_true, decide_eq_true_eq, beq_iff_eq] at h1 h2 ⊢
    rcases h1 with h1 | ⟨rfl, h1⟩
    · rcases h2 with h2 | ⟨rfl, h2⟩
      · exact .inl (UInt8.lt_trans h1 h2)
      · exact .inl h1
    · rcases h2 with h2 | ⟨rfl, h2⟩
      · exact .inl h2
      · exact .inr ⟨rfl, bl_trans x y z h1 h2⟩

theorem bl_total : ∀ x y : List UInt8, x = y ∨ Op.bytesLess x y = true ∨ Op.bytesLess y x = true
  | [], [] => .inl rfl
  | [], _ :: _ => .inr (.inl rfl)
  | _ :: _, [] => .inr (.inr rfl)
  | a :: x, b :: y => by
    simp only [Op.bytesLess, Bool.or_eq_true, Bool.and_eq_true, decide_eq_true_eq, beq_iff_eq, List.cons.injEq]
    by_cases h : a = b
    · subst h
      rcases bl_total x y with h | h | h
      · exact .inl ⟨rfl, h⟩
      · exact .inr (.inl (.inr ⟨rfl, h⟩))
      · exact .inr (.inr (.inr ⟨rfl, h⟩))
    · have : a < b ∨ b < a := by
        rcases Nat.lt_trichotomy a.toNat b.toNat with h1 | h1 | h1
        · exact .inl (UInt8.lt_iff_toNat_lt.2 h1)
        · exact absurd (UInt8.toNat_inj.1 h1) h
        · exact .inr (UInt8.lt_iff_toNat_lt.2 h1)
      rcases this with h1 | h1
      · exact .inr (.inl (.inl h1))
      · exact .inr (.inr (.inl h1))

theorem toList_inj {a b : ByteArray} (h : a.toList = b.toList) : a = b := by
  rw [Lib.toList_data, Lib.toList_data] at h
  obtain ⟨⟨a⟩⟩ := a
  obtain ⟨⟨b⟩⟩ := b
  simp at h
  rw [h]

theorem lt_irrefl (a : ByteArray) : lt a a = false := bl_irrefl _
theorem lt_trans {a b c : ByteArray} (h1 : lt a b = true) (h2 : lt b c = true) : lt a c = true := bl_trans _ _ _ h1 h2
theorem lt_total (a b : ByteArray) : a = b ∨ lt a b = true ∨ lt b a = true := by
  rcases bl_total a.toList b.toList with h | h | h
  · exact .inl (toList_inj h)
  · exact .inr (.inl h)
  · exact .inr (.inr h)
theorem lt_asymm {a b : ByteArray} (h : lt a b = true) : lt b a = false := by
  cases h2 : lt b a
  · rfl
  · have := lt_trans h h2
    rw [lt_irrefl] at this
    cases this
theorem lt_ne {a b : ByteArray} (h : lt a b = true) : a ≠ b := by
  rintro rfl
  rw [lt_irrefl] at h
  cases h
/-- Not below and not equal: above. -/
theorem lt_of_not {a b : ByteArray} (h : lt a b = false) (hne : a ≠ b) : lt b a = true := by
  rcases lt_total a b with h1 | h1 | h1
  · exact absurd h1 hne
  · rw [h1] at h; cases h
  · exact h1
theorem lt_of_le_lt {a b c : ByteArray} (h1 : lt b a = false) (h2 : lt b c = true) : lt a c = true := by
  by_cases e : b = a
  · subst e; exact h2
  · exact lt_trans (lt_of_not h1 e) h2
theorem lt_of_lt_le {a b c : ByteArray} (h1 : lt a b = true) (h2 : lt c b = false) : lt a c = true := by
  by_cases e : c = b
  · subst e; exact h1
  · exact lt_trans h1 (lt_of_not h2 e)
theorem le_trans {a b c : ByteArray} (h1 : lt b a = false) (h2 : lt c b = false) : lt c a = false := by
  cases h : lt c a
  · rfl
  · have := lt_of_lt_le h h1
    rw [this] at h2
    cases h2

/-- Strictly ascending. -/
def Asc (l : List ByteArray) : Prop := l.Pairwise (fun a b => lt a b = true)

/-- How many of the first elements are below k: where k belongs. -/
def lb (k : ByteArray) : List ByteArray → Nat
  | [] => 0
  | x :: r => if lt x k = true then lb k r + 1 else 0

theorem lb_le (k : ByteArray) : ∀ l : List ByteArray, lb k l ≤ l.length
  | [] => Nat.le_refl _
  | x :: r => by
    unfold lb
    have := lb_le k r
    split <;> simp <;> omega

theorem lb_below (k : ByteArray) : ∀ (l : List ByteArray) (t : Nat) (h : t < l.length), t < lb k l → lt l[t] k = true
  | [], _, h, _ => by simp at h
  | x :: r, t, h, ht => by
    unfold lb at ht
    split at ht
    · rename_i hx
      cases t with
      | zero => exact hx
      | succ t => exact lb_below k r t (by simpa using h) (by omega)
    · omega

theorem lb_above (k : ByteArray) : ∀ (l : List ByteArray), Asc l → ∀ (t : Nat) (h : t < l.length), lb k l ≤ t → lt l[t] k = false
  | [], _, _, h, _ => by simp at h
  | x :: r, ha, t, h, ht => by
    unfold lb at ht
    split at ht
    · cases t with
      | zero => omega
      | succ t => exact lb_above k r (List.pairwise_cons.1 ha).2 t (by simpa using h) (by omega)
    · rename_i hx
      have hx' : lt x k = false := by simpa using hx
      cases t with
      | zero => exact hx'
      | succ t =>
        have ht' : t < r.length := by simpa using h
        have h1 : lt x r[t] = true := (List.pairwise_cons.1 ha).1 _ (List.getElem_mem ht')
        show lt r[t] k = false
        cases h2 : lt r[t] k
        · rfl
        · rw [lt_trans h1 h2] at hx'
          cases hx'

/-- The key laid where it belongs. -/
def ins (k : ByteArray) (l : List ByteArray) : List ByteArray := l.take (lb k l) ++ k :: l.drop (lb k l)

/-- Is the key held? -/
def has (k : ByteArray) (l : List ByteArray) : Bool := l.any (fun x => decide (x = k))

theorem has_iff {k : ByteArray} {l : List ByteArray} : has k l = true ↔ k ∈ l := by
  unfold has
  rw [List.any_eq_true]
  constructor
  · rintro ⟨x, h1, h2⟩
    rw [← of_decide_eq_true h2]
    exact h1
  · intro h
    exact ⟨k, h, by simp⟩
theorem has_false {k : ByteArray} {l : List ByteArray} : has k l = false ↔ k ∉ l := by
  rw [← has_iff]
  simp

theorem asc_mem_lt {l : List ByteArray} (ha : Asc l) {k : ByteArray} (hk : k ∈ l) : ∃ h : lb k l < l.length, l[lb k l] = k := by
  obtain ⟨i, hi, e⟩ := List.getElem_of_mem hk
  have h1 : lb k l ≤ i := by
    rcases Nat.lt_or_ge i (lb k l) with h | h
    · have := lb_below k l i hi h
      rw [e, lt_irrefl] at this
      cases this
    · exact h
  have h2 : lb k l < l.length := by omega
  refine ⟨h2, ?_⟩
  rcases Nat.lt_or_ge (lb k l) i with h | h
  · have h3 := lb_above k l ha (lb k l) h2 (Nat.le_refl _)
    have h4 : lt l[lb k l] l[i] = true := List.pairwise_iff_getElem.1 ha _ _ h2 hi h
    rw [e] at h4
    rw [h4] at h3
    cases h3
  · have : lb k l = i := by omega
    simp only [this]
    exact e

theorem lb_hit {l : List ByteArray} {k : ByteArray} (h : lb k l < l.length) (e : l[lb k l] = k) : k ∈ l := e ▸ List.getElem_mem h

theorem ins_length (k : ByteArray) (l : List ByteArray) : (ins k l).length = l.length + 1 := by
  unfold ins
  have := lb_le k l
  simp
  omega

theorem ins_mem {k x : ByteArray} {l : List ByteArray} : x ∈ ins k l ↔ x = k ∨ x ∈ l := by
  unfold ins
  conv => rhs; rw [← List.take_append_drop (lb k l) l]
  simp only [List.mem_append, List.mem_cons]
  constructor
  · rintro (h | h | h)
    · exact .inr (.inl h)
    · exact .inl h
    · exact .inr (.inr h)
  · rintro (h | h | h)
    · exact .inr (.inl h)
    · exact .inl h
    · exact .inr (.inr h)

theorem asc_append {a b : List ByteArray} : Asc (a ++ b) ↔ Asc a ∧ Asc b ∧ ∀ x ∈ a, ∀ y ∈ b, lt x y = true := List.pairwise_append

theorem asc_ins {l : List ByteArray} (ha : Asc l) {k : ByteArray} (hk : k ∉ l) : Asc (ins k l) := by
  have h0 := ha
  rw [← List.take_append_drop (lb k l) l] at h0
  obtain ⟨h1, h2, h3⟩ := asc_append.1 h0
  have hlo : ∀ x ∈ l.take (lb k l), lt x k = true := by
    intro x hx
    obtain ⟨i, hi, e⟩ := List.getElem_of_mem hx
    rw [List.length_take] at hi
    rw [← e, List.getElem_take]
    exact lb_below k l i (by omega) (by omega)
  have hhi : ∀ x ∈ l.drop (lb k l), lt k x = true := by
    intro x hx
    obtain ⟨i, hi, e⟩ := List.getElem_of_mem hx
    rw [List.length_drop] at hi
    rw [← e, List.getElem_drop]
    refine lt_of_not (lb_above k l ha _ (by omega) (by omega)) ?_
    intro e2
    exact hk (e2 ▸ List.getElem_mem _)
  refine asc_append.2 ⟨h1, List.pairwise_cons.2 ⟨hhi, h2⟩, ?_⟩
  intro x hx y hy
  rcases List.mem_cons.1 hy with rfl | hy
  · exact hlo x hx
  · exact h3 x hx y hy

/-- Where the child that k belongs to stands among the children: how many of the first keys are not above k. -/
def ub (k : ByteArray) : List ByteArray → Nat
  | [] => 0
  | x :: r => if lt k x = true then 0 else ub k r + 1

theorem ub_le (k : ByteArray) : ∀ l : List ByteArray, ub k l ≤ l.length
  | [] => Nat.le_refl _
  | x :: r => by
    unfold ub
    have := ub_le k r
    split <;> simp <;> omega

theorem ub_eq (k : ByteArray) : ∀ l : List ByteArray, Asc l → ub k l = if has k l = true then lb k l + 1 else lb k l
  | [], _ => rfl
  | x :: r, ha => by
    have ha' : Asc r := (List.pairwise_cons.1 ha).2
    have hlt : ∀ y ∈ r, lt x y = true := (List.pairwise_cons.1 ha).1
    unfold ub lb
    rcases lt_total x k with h | h | h
    · subst h
      have h1 : has x (x :: r) = true := has_iff.2 (List.mem_cons_self ..)
      rw [if_neg (by rw [lt_irrefl]; decide), if_pos h1, if_neg (by rw [lt_irrefl]; decide)]
      have : ub x r = 0 := by
        cases r with
        | nil => rfl
        | cons y s => unfold ub; rw [if_pos (hlt y (List.mem_cons_self ..))]
      rw [this]
    · have h2 : lt k x = false := lt_asymm h
      have h1 : has k (x :: r) = has k r := by
        rw [Bool.eq_iff_iff, has_iff, has_iff, List.mem_cons]
        constructor
        · rintro (e | e)
          · exact absurd e.symm (lt_ne h)
          · exact e
        · exact .inr
      rw [if_neg (by rw [h2]; decide), h1, if_pos h, ub_eq k r ha']
      split <;> rfl
    · have h2 : lt x k = false := lt_asymm h
      have h1 : has k (x :: r) = false := by
        rw [has_false]
        intro hm
        rcases List.mem_cons.1 hm with e | e
        · exact lt_ne h e
        · have := lt_trans h (hlt k e)
          rw [lt_irrefl] at this
          cases this
      rw [if_pos h, if_neg (by rw [h1]; decide), if_neg (by rw [h2]; decide)]

theorem ub_below (k : ByteArray) : ∀ (l : List ByteArray) (t : Nat) (h : t < l.length), t < ub k l → lt k l[t] = false
  | [], _, h, _ => by simp at h
  | x :: r, t, h, ht => by
    unfold ub at ht
    split at ht
    · omega
    · rename_i hx
      cases t with
      | zero => simpa using hx
      | succ t => exact ub_below k r t (by simpa using h) (by omega)

theorem ub_at (k : ByteArray) : ∀ (l : List ByteArray) (h : ub k l < l.length), lt k l[ub k l] = true
  | [], h => by simp at h
  | x :: r, h => by
    by_cases hx : lt k x = true
    · have e : ub k (x :: r) = 0 := by unfold ub; rw [if_pos hx]
      simp only [e]
      exact hx
    · have e : ub k (x :: r) = ub k r + 1 := by conv => lhs; unfold ub; rw [if_neg hx]
      simp only [e]
      rw [e] at h
      exact ub_at k r (by simpa using h)

theorem take_cons_drop {α : Type} (i : Nat) (x : α) (xs : List α) (hi : i ≤ xs.length) (j : Nat) : (xs.take i ++ x :: xs.drop i)[j]? = if j < i then xs[j]? else if j = i then some x else xs[j - 1]? := by
  by_cases h : j < i
  · rw [if_pos h, List.getElem?_append_left (by simp; omega), List.getElem?_take, if_pos h]
  · rw [if_neg h, List.getElem?_append_right (by simp; omega), List.length_take, Nat.min_eq_left hi]
    by_cases e : j = i
    · subst e
      rw [if_pos rfl, Nat.sub_self]
      rfl
    · rw [if_neg e]
      obtain ⟨t, ht⟩ : ∃ t, j - i = t + 1 := ⟨j - i - 1, by omega⟩
      rw [ht, List.getElem?_cons_succ, List.getElem?_drop]
      congr 1
      omega
end Go.Proofs.Qxb6603837a
