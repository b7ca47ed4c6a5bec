/-
  The btree as a plain function, and its law: insertion keeps a tree sound and its strings are those of the sorted set.
-/
import Derived.Test.Qxb6603837aPlain
namespace Go.Proofs.Qxb6603837a

/-- A btree whose leaves lie h levels down. -/
def BT : Nat → Type
  | 0 => List ByteArray
  | h + 1 => List ByteArray × List (BT h)

/-- The strings, in order. -/
def flat : (h : Nat) → BT h → List ByteArray
  | 0, t => t
  | h + 1, t => t.2.flatMap (flat h)

/-- What insert answers: added, the node as it stands then, and the node split off with its separator. -/
abbrev InsR (h : Nat) : Type := Bool × BT h × Option (ByteArray × BT h)

def insLeaf (k : ByteArray) (t : List ByteArray) : Bool × List ByteArray × Option (ByteArray × List ByteArray) :=
  if has k t = true then (false, t, none)
  else if (ins k t).length ≤ 64 then (true, ins k t, none)
  else (true, (ins k t).take 32, some ((ins k t).getD 32 ⟨#[]⟩, (ins k t).drop 32))

def splitIn {α : Type} (a : Bool) (ks : List ByteArray) (ts : List α) : Bool × (List ByteArray × List α) × Option (ByteArray × (List ByteArray × List α)) :=
  if ts.length ≤ 64 then (a, (ks, ts), none)
  else (a, (ks.take 31, ts.take 32), some (ks.getD 31 ⟨#[]⟩, (ks.drop 32, ts.drop 32)))

/-- The parent's step, once its child c has answered. -/
def upIn {α : Type} (c : Nat) (ks : List ByteArray) (ts : List α) (r : Bool × α × Option (ByteArray × α)) : Bool × (List ByteArray × List α) × Option (ByteArray × (List ByteArray × List α)) :=
  match r with
  | (a, t', none) => (a, (ks, ts.set c t'), none)
  | (a, t', some (s, tr)) => splitIn a (ks.take c ++ s :: ks.drop c) ((ts.set c t').take (c + 1) ++ tr :: (ts.set c t').drop (c + 1))

def insT : (h : Nat) → BT h → ByteArray → InsR h
  | 0, t, k => insLeaf k t
  | h + 1, t, k =>
    match t.2[ub k t.1]? with
    | none => (false, t, none)
    | some tc => upIn (ub k t.1) t.1 t.2 (insT h tc k)

def InB (lo hi : Option ByteArray) (x : ByteArray) : Prop := (∀ a, lo = some a → lt x a = false) ∧ (∀ b, hi = some b → lt x b = true)
def SAbove (lo : Option ByteArray) (x : ByteArray) : Prop := ∀ a, lo = some a → lt a x = true
def SBelow (hi : Option ByteArray) (x : ByteArray) : Prop := ∀ b, hi = some b → lt x b = true
def loAt (lo : Option ByteArray) (ks : List ByteArray) (i : Nat) : Option ByteArray := if i = 0 then lo else ks[i - 1]?
def hiAt (hi : Option ByteArray) (ks : List ByteArray) (i : Nat) : Option ByteArray := if i < ks.length then ks[i]? else hi

/-- A sound tree between lo and hi. -/
def Good : (h : Nat) → Bool → Option ByteArray → Option ByteArray → BT h → Prop
  | 0, r, lo, hi, t => Asc t ∧ (∀ x ∈ (show List ByteArray from t), InB lo hi x) ∧ (show List ByteArray from t).length ≤ 64 ∧ (r = true ∨ 32 ≤ (show List ByteArray from t).length)
  | h + 1, r, lo, hi, t =>
    (t.1.length + 1 = t.2.length ∧ Asc t.1 ∧ (∀ x ∈ t.1, SAbove lo x ∧ SBelow hi x) ∧ ∀ i t', t.2[i]? = some t' → Good h false (loAt lo t.1 i) (hiAt hi t.1 i) t') ∧
    t.2.length ≤ 64 ∧ 2 ≤ t.2.length ∧ (r = true ∨ 32 ≤ t.2.length)

/-- A row of children between lo and hi, of whatever size. -/
def GoodN (h : Nat) (lo hi : Option ByteArray) (ks : List ByteArray) (ts : List (BT h)) : Prop :=
  ks.length + 1 = ts.length ∧ Asc ks ∧ (∀ x ∈ ks, SAbove lo x ∧ SBelow hi x) ∧ ∀ i t', ts[i]? = some t' → Good h false (loAt lo ks i) (hiAt hi ks i) t'

theorem SAbove.le {lo : Option ByteArray} {x : ByteArray} (h : SAbove lo x) : ∀ a, lo = some a → lt x a = false := fun a ha => lt_asymm (h a ha)

theorem goodN_set {h : Nat} {lo hi : Option ByteArray} {ks : List ByteArray} {ts : List (BT h)} (g : GoodN h lo hi ks ts) {c : Nat} {t' : BT h} (gt : Good h false (loAt lo ks c) (hiAt hi ks c) t') : GoodN h lo hi ks (ts.set c t') := by
  obtain ⟨g1, g2, g3, g4⟩ := g
  refine ⟨by simpa using g1, g2, g3, ?_⟩
  intro i u hu
  rw [List.getElem?_set] at hu
  split at hu
  · rename_i e
    subst e
    split at hu
    · cases hu
      exact gt
    · cases hu
  · exact g4 i u hu

theorem goodN_up {h : Nat} {lo hi : Option ByteArray} {ks : List ByteArray} {ts : List (BT h)} (g : GoodN h lo hi ks ts) {c : Nat} (hc : c < ts.length) {s : ByteArray} {t' tr : BT h}
    (gt : Good h false (loAt lo ks c) (some s) t') (gr : Good h false (some s) (hiAt hi ks c) tr) (sa : SAbove (loAt lo ks c) s) (sb : SBelow (hiAt hi ks c) s) :
    GoodN h lo hi (ks.take c ++ s :: ks.drop c) ((ts.set c t').take (c + 1) ++ tr :: (ts.set c t').drop (c + 1)) := by
  obtain ⟨g1, g2, g3, g4⟩ := g
  have hck : c ≤ ks.length := by omega
  have hks := take_cons_drop c s ks hck
  have hlen : (ks.take c ++ s :: ks.drop c).length = ks.length + 1 := by simp; omega
  have hlo : ∀ x ∈ ks.take c, lt x s = true := by
    intro x hx
    obtain ⟨i, hi', e⟩ := List.getElem_of_mem hx
    rw [List.length_take] at hi'
    rw [List.getElem_take] at e
    have hlast : loAt lo ks c = some ks[c - 1] := by
      unfold loAt
      rw [if_neg (by omega), List.getElem?_eq_getElem (by omega)]
    have h2 : lt ks[c - 1] s = true := sa _ hlast
    by_cases e2 : i = c - 1
    · subst e2; rw [← e]; exact h2
    · rw [← e]
      exact lt_trans (List.pairwise_iff_getElem.1 g2 i (c - 1) (by omega) (by omega) (by omega)) h2
  have hhi : ∀ x ∈ ks.drop c, lt s x = true := by
    intro x hx
    obtain ⟨i, hi', e⟩ := List.getElem_of_mem hx
    rw [List.length_drop] at hi'
    rw [List.getElem_drop] at e
    have hfirst : hiAt hi ks c = some ks[c] := by
      unfold hiAt
      rw [if_pos (by omega), List.getElem?_eq_getElem (by omega)]
    have h2 : lt s ks[c] = true := sb _ hfirst
    by_cases e2 : i = 0
    · subst e2; rw [← e]; exact h2
    · rw [← e]
      exact lt_trans h2 (List.pairwise_iff_getElem.1 g2 c (c + i) (by omega) (by omega) (by omega))
  have hslo : SAbove lo s := by
    intro a ha
    by_cases e : c = 0
    · exact sa a (by unfold loAt; rw [if_pos e]; exact ha)
    · have : ks[c - 1] ∈ ks := List.getElem_mem (by omega)
      refine lt_trans ((g3 _ this).1 a ha) ?_
      refine sa _ ?_
      unfold loAt
      rw [if_neg e, List.getElem?_eq_getElem (by omega)]
  have hshi : SBelow hi s := by
    intro b hb
    by_cases e : c < ks.length
    · have : ks[c] ∈ ks := List.getElem_mem e
      refine lt_trans (sb _ ?_) ((g3 _ this).2 b hb)
      unfold hiAt
      rw [if_pos e, List.getElem?_eq_getElem e]
    · exact sb b (by unfold hiAt; rw [if_neg e]; exact hb)
  refine ⟨?_, ?_, ?_, ?_⟩
  · rw [hlen]
    simp
    omega
  · have h0 := g2
    rw [← List.take_append_drop c ks] at h0
    obtain ⟨a1, a2, a3⟩ := asc_append.1 h0
    refine asc_append.2 ⟨a1, List.pairwise_cons.2 ⟨hhi, a2⟩, ?_⟩
    intro x hx y hy
    rcases List.mem_cons.1 hy with rfl | hy
    · exact hlo x hx
    · exact a3 x hx y hy
  · intro x hx
    rcases List.mem_append.1 hx with hx | hx
    · exact g3 x (List.mem_of_mem_take hx)
    · rcases List.mem_cons.1 hx with rfl | hx
      · exact ⟨hslo, hshi⟩
      · exact g3 x (List.mem_of_mem_drop hx)
  · intro i u hu
    rw [take_cons_drop (c + 1) tr (ts.set c t') (by simp; omega)] at hu
    have hL : loAt lo (ks.take c ++ s :: ks.drop c) i = if i ≤ c then loAt lo ks i else if i = c + 1 then some s else loAt lo ks (i - 1) := by
      unfold loAt
      by_cases e0 : i = 0
      · subst e0; simp
      · rw [if_neg e0, hks (i - 1), if_neg e0]
        by_cases e1 : i ≤ c
        · rw [if_pos e1, if_pos (by omega)]
        · rw [if_neg e1, if_neg (by omega)]
          by_cases e2 : i = c + 1
          · rw [if_pos e2, if_pos (by omega)]
          · rw [if_neg e2, if_neg (by omega), if_neg (by omega)]
    have hH : hiAt hi (ks.take c ++ s :: ks.drop c) i = if i < c then hiAt hi ks i else if i = c then some s else hiAt hi ks (i - 1) := by
      unfold hiAt
      rw [hlen]
      by_cases e1 : i < c
      · rw [if_pos (by omega), hks i, if_pos e1, if_pos e1, if_pos (by omega)]
      · rw [if_neg e1]
        by_cases e2 : i = c
        · rw [if_pos e2, if_pos (by omega), hks i, if_neg e1, if_pos e2]
        · rw [if_neg e2]
          by_cases e3 : i < ks.length + 1
          · rw [if_pos e3, hks i, if_neg e1, if_neg e2, if_pos (by omega)]
          · rw [if_neg e3, if_neg (by omega)]
    rw [hL, hH]
    by_cases e1 : i < c + 1
    · rw [if_pos e1, List.getElem?_set] at hu
      rw [if_pos (by omega)]
      by_cases e2 : c = i
      · subst e2
        rw [if_pos rfl, if_pos hc] at hu
        cases hu
        rw [if_neg (by omega), if_pos rfl]
        exact gt
      · rw [if_neg e2] at hu
        rw [if_pos (by omega)]
        exact g4 i u hu
    · rw [if_neg e1] at hu
      rw [if_neg (by omega)]
      by_cases e2 : i = c + 1
      · rw [if_pos e2] at hu
        cases hu
        rw [if_pos e2, if_neg (by omega), if_neg (by omega), e2]
        exact gr
      · rw [if_neg e2, List.getElem?_set, if_neg (by omega)] at hu
        rw [if_neg e2, if_neg (by omega), if_neg (by omega)]
        exact g4 (i - 1) u hu

theorem goodN_split {h : Nat} {lo hi : Option ByteArray} {ks : List ByteArray} {ts : List (BT h)} (g : GoodN h lo hi ks ts) (m : Nat) (hm : m + 1 < ts.length) (hmk : m < ks.length) :
    GoodN h lo (some ks[m]) (ks.take m) (ts.take (m + 1)) ∧ GoodN h (some ks[m]) hi (ks.drop (m + 1)) (ts.drop (m + 1)) ∧ SAbove lo ks[m] ∧ SBelow hi ks[m] := by
  obtain ⟨g1, g2, g3, g4⟩ := g
  have hmem : ks[m] ∈ ks := List.getElem_mem hmk
  refine ⟨⟨by simp; omega, List.Pairwise.sublist (List.take_sublist _ _) g2, ?_, ?_⟩, ⟨by simp; omega, List.Pairwise.sublist (List.drop_sublist _ _) g2, ?_, ?_⟩, (g3 _ hmem).1, (g3 _ hmem).2⟩
  · intro x hx
    refine ⟨(g3 x (List.mem_of_mem_take hx)).1, ?_⟩
    intro b hb
    cases hb
    obtain ⟨i, hi', e⟩ := List.getElem_of_mem hx
    rw [List.length_take] at hi'
    rw [List.getElem_take] at e
    rw [← e]
    exact List.pairwise_iff_getElem.1 g2 i m (by omega) hmk (by omega)
  · intro i u hu
    rw [List.getElem?_take] at hu
    split at hu
    · rename_i hi'
      have := g4 i u hu
      have e1 : loAt lo (ks.take m) i = loAt lo ks i := by
        unfold loAt
        by_cases e0 : i = 0
        · rw [if_pos e0, if_pos e0]
        · rw [if_neg e0, if_neg e0, List.getElem?_take, if_pos (by omega)]
      have e2 : hiAt (some ks[m]) (ks.take m) i = hiAt hi ks i := by
        unfold hiAt
        rw [List.length_take]
        by_cases e0 : i < m
        · rw [if_pos (by omega), if_pos (by omega), List.getElem?_take, if_pos e0]
        · have : i = m := by omega
          subst this
          rw [if_neg (by omega), if_pos hmk, List.getElem?_eq_getElem hmk]
      rw [e1, e2]
      exact this
    · cases hu
  · intro x hx
    refine ⟨?_, (g3 x (List.mem_of_mem_drop hx)).2⟩
    intro a ha
    cases ha
    obtain ⟨i, hi', e⟩ := List.getElem_of_mem hx
    rw [List.length_drop] at hi'
    rw [List.getElem_drop] at e
    rw [← e]
    exact List.pairwise_iff_getElem.1 g2 m (m + 1 + i) hmk (by omega) (by omega)
  · intro i u hu
    rw [List.getElem?_drop] at hu
    have := g4 _ u hu
    have e1 : loAt (some ks[m]) (ks.drop (m + 1)) i = loAt lo ks (m + 1 + i) := by
      unfold loAt
      rw [if_neg (by omega : ¬ m + 1 + i = 0)]
      by_cases e0 : i = 0
      · subst e0
        rw [if_pos rfl, show m + 1 + 0 - 1 = m by omega, List.getElem?_eq_getElem hmk]
      · rw [if_neg e0, List.getElem?_drop]
        congr 1
        omega
    have e2 : hiAt hi (ks.drop (m + 1)) i = hiAt hi ks (m + 1 + i) := by
      unfold hiAt
      rw [List.length_drop]
      by_cases e0 : m + 1 + i < ks.length
      · rw [if_pos (by omega), if_pos e0, List.getElem?_drop]
      · rw [if_neg (by omega), if_neg e0]
    rw [e1, e2]
    exact this
end Go.Proofs.Qxb6603837a
