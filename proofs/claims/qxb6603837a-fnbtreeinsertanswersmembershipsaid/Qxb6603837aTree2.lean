/-
  Insertion into the plain btree: sound, and the strings are those of the sorted set.
-/
import Derived.Test.Qxb6603837aTree
namespace Go.Proofs.Qxb6603837a

theorem good_bounds : ∀ (h : Nat) (r : Bool) (lo hi : Option ByteArray) (t : BT h), Good h r lo hi t → ∀ x ∈ flat h t, InB lo hi x
  | 0, _, _, _, _, g, x, hx => g.2.1 x hx
  | h + 1, r, lo, hi, t, g, x, hx => by
    obtain ⟨⟨g1, g2, g3, g4⟩, _⟩ := g
    unfold flat at hx
    obtain ⟨u, hu, hx⟩ := List.mem_flatMap.1 hx
    obtain ⟨i, hi', e⟩ := List.getElem_of_mem hu
    have gi := g4 i u (by rw [List.getElem?_eq_getElem hi', e])
    have hb := good_bounds h _ _ _ u gi x hx
    refine ⟨?_, ?_⟩
    · intro a ha
      by_cases e0 : i = 0
      · exact hb.1 a (by unfold loAt; rw [if_pos e0]; exact ha)
      · have hk : i - 1 < t.1.length := by omega
        have h1 : lt x t.1[i - 1] = false := hb.1 _ (by unfold loAt; rw [if_neg e0, List.getElem?_eq_getElem hk])
        have h2 : lt a t.1[i - 1] = true := (g3 _ (List.getElem_mem hk)).1 a ha
        cases h3 : lt x a
        · rfl
        · rw [lt_trans h3 h2] at h1; cases h1
    · intro b hb'
      by_cases e0 : i < t.1.length
      · have h1 : lt x t.1[i] = true := hb.2 _ (by unfold hiAt; rw [if_pos e0, List.getElem?_eq_getElem e0])
        exact lt_trans h1 ((g3 _ (List.getElem_mem e0)).2 b hb')
      · exact hb.2 b (by unfold hiAt; rw [if_neg e0]; exact hb')

/-- A key laid into the middle of a row. -/
theorem lb_mid (k : ByteArray) : ∀ (pre m post : List ByteArray), (∀ x ∈ pre, lt x k = true) → (∀ x ∈ post, lt k x = true) → lb k (pre ++ (m ++ post)) = pre.length + lb k m
  | [], m, post, _, h2 => by
    simp only [List.nil_append, List.length_nil, Nat.zero_add]
    induction m with
    | nil =>
      cases post with
      | nil => rfl
      | cons y r =>
        have : lt y k = false := lt_asymm (h2 y (List.mem_cons_self ..))
        simp [lb, this]
    | cons y r ih =>
      simp only [List.cons_append, lb]
      rw [ih]
  | x :: pre, m, post, h1, h2 => by
    simp only [List.cons_append, lb]
    rw [if_pos (h1 x (List.mem_cons_self ..)), lb_mid k pre m post (fun y hy => h1 y (List.mem_cons_of_mem _ hy)) h2]
    simp
    omega

theorem ins_mid (k : ByteArray) (pre m post : List ByteArray) (h1 : ∀ x ∈ pre, lt x k = true) (h2 : ∀ x ∈ post, lt k x = true) : ins k (pre ++ (m ++ post)) = pre ++ (ins k m ++ post) := by
  have hl := lb_le k m
  unfold ins
  rw [lb_mid k pre m post h1 h2, List.take_append, List.drop_append]
  rw [List.take_of_length_le (by omega), List.drop_eq_nil_of_le (by omega), Nat.add_sub_cancel_left, List.take_append, List.drop_append, show lb k m - m.length = 0 by omega]
  simp

theorem has_mid (k : ByteArray) (pre m post : List ByteArray) (h1 : ∀ x ∈ pre, lt x k = true) (h2 : ∀ x ∈ post, lt k x = true) : has k (pre ++ (m ++ post)) = has k m := by
  rw [Bool.eq_iff_iff, has_iff, has_iff]
  constructor
  · intro h
    rcases List.mem_append.1 h with h | h
    · exact absurd rfl (lt_ne (h1 k h))
    · rcases List.mem_append.1 h with h | h
      · exact h
      · exact absurd rfl (lt_ne (h2 k h))
  · intro h
    exact List.mem_append.2 (.inr (List.mem_append.2 (.inl h)))

/-- What the parent says of the strings of its other children. -/
theorem around {h : Nat} {lo hi : Option ByteArray} {ks : List ByteArray} {ts : List (BT h)} (g : GoodN h lo hi ks ts) (k : ByteArray) :
    (∀ x ∈ (ts.take (ub k ks)).flatMap (flat h), lt x k = true) ∧ (∀ x ∈ (ts.drop (ub k ks + 1)).flatMap (flat h), lt k x = true) := by
  obtain ⟨g1, g2, g3, g4⟩ := g
  have hu := ub_le k ks
  constructor
  · intro x hx
    obtain ⟨u, hu', hx⟩ := List.mem_flatMap.1 hx
    obtain ⟨i, hi', e⟩ := List.getElem_of_mem hu'
    rw [List.length_take] at hi'
    rw [List.getElem_take] at e
    have gi := g4 i u (by rw [List.getElem?_eq_getElem (by omega), e])
    have hb := good_bounds h _ _ _ u gi x hx
    have h1 : lt x ks[i] = true := hb.2 _ (by unfold hiAt; rw [if_pos (by omega), List.getElem?_eq_getElem (by omega)])
    have h2 := ub_below k ks i (by omega) (by omega)
    exact lt_of_lt_le h1 h2
  · intro x hx
    obtain ⟨u, hu', hx⟩ := List.mem_flatMap.1 hx
    obtain ⟨i, hi', e⟩ := List.getElem_of_mem hu'
    rw [List.length_drop] at hi'
    rw [List.getElem_drop] at e
    have gi := g4 (ub k ks + 1 + i) u (by rw [List.getElem?_eq_getElem (by omega), e])
    have hb := good_bounds h _ _ _ u gi x hx
    have h1 : lt x ks[ub k ks + i] = false := hb.1 _ (by unfold loAt; rw [if_neg (by omega), show ub k ks + 1 + i - 1 = ub k ks + i by omega, List.getElem?_eq_getElem (by omega)])
    have h2 : lt k ks[ub k ks] = true := ub_at k ks (by omega)
    have h3 : lt k ks[ub k ks + i] = true := by
      by_cases e0 : i = 0
      · subst e0; exact h2
      · exact lt_trans h2 (List.pairwise_iff_getElem.1 g2 (ub k ks) (ub k ks + i) (by omega) (by omega) (by omega))
    exact lt_of_lt_le h3 h1

theorem child_bounds {lo hi : Option ByteArray} {ks : List ByteArray} (k : ByteArray) (hk : InB lo hi k) : InB (loAt lo ks (ub k ks)) (hiAt hi ks (ub k ks)) k := by
  have hu := ub_le k ks
  refine ⟨?_, ?_⟩
  · intro a ha
    unfold loAt at ha
    by_cases e0 : ub k ks = 0
    · rw [if_pos e0] at ha
      exact hk.1 a ha
    · rw [if_neg e0, List.getElem?_eq_getElem (by omega)] at ha
      cases ha
      exact ub_below k ks _ (by omega) (by omega)
  · intro b hb
    unfold hiAt at hb
    by_cases e0 : ub k ks < ks.length
    · rw [if_pos e0, List.getElem?_eq_getElem e0] at hb
      cases hb
      exact ub_at k ks e0
    · rw [if_neg e0] at hb
      exact hk.2 b hb

/-- What insert's answer must be. -/
def GoodR (h : Nat) (r : Bool) (lo hi : Option ByteArray) (k : ByteArray) (t : BT h) (R : InsR h) : Prop :=
  R.1 = !has k (flat h t) ∧
  (R.2.2 = none → Good h r lo hi R.2.1 ∧ flat h R.2.1 = if has k (flat h t) = true then flat h t else ins k (flat h t)) ∧
  (∀ s tr, R.2.2 = some (s, tr) → Good h false lo (some s) R.2.1 ∧ Good h false (some s) hi tr ∧ SAbove lo s ∧ SBelow hi s ∧ has k (flat h t) = false ∧ flat h R.2.1 ++ flat h tr = ins k (flat h t))

theorem leaf_good (r : Bool) (lo hi : Option ByteArray) (t : List ByteArray) (k : ByteArray) (g : Good 0 r lo hi t) (hk : InB lo hi k) : GoodR 0 r lo hi k t (insLeaf k t) := by
  obtain ⟨g1, g2, g3, g4⟩ := g
  have g1' : Asc t := g1
  have g2' : ∀ x ∈ t, InB lo hi x := g2
  have g3' : t.length ≤ 64 := g3
  unfold insLeaf GoodR
  show _ = !has k t ∧ _
  by_cases hh : has k t = true
  · rw [if_pos hh]
    exact ⟨by rw [hh]; rfl, fun _ => ⟨⟨g1, g2, g3, g4⟩, by show t = if has k t = true then t else _; rw [if_pos hh]⟩, fun s tr h => by cases h⟩
  · rw [if_neg hh]
    have hf : has k t = false := by simpa using hh
    have hni : k ∉ t := has_false.1 hf
    have hasc := asc_ins g1' hni
    have hbd : ∀ x ∈ ins k t, InB lo hi x := by
      intro x hx
      rcases ins_mem.1 hx with rfl | hx
      · exact hk
      · exact g2' x hx
    have hln := ins_length k t
    by_cases hl : (ins k t).length ≤ 64
    · rw [if_pos hl]
      refine ⟨by rw [hf]; rfl, fun _ => ⟨⟨hasc, hbd, hl, ?_⟩, by show ins k t = if has k t = true then t else ins k t; rw [if_neg hh]⟩, fun s tr h => by cases h⟩
      rcases g4 with g4 | g4
      · exact .inl g4
      · right
        have : 32 ≤ t.length := g4
        show 32 ≤ (ins k t).length
        omega
    · rw [if_neg hl]
      refine ⟨by rw [hf]; rfl, (fun h => by cases h), ?_⟩
      intro s tr h
      cases h
      have h65 : (ins k t).length = 65 := by omega
      generalize hL : ins k t = l at *
      have hs : l.getD 32 ⟨#[]⟩ = l[32] := by simp [List.getD, show 32 < l.length by omega]
      rw [hs]
      have h0 : lt l[0] l[32] = true := List.pairwise_iff_getElem.1 hasc 0 32 (by omega) (by omega) (by omega)
      refine ⟨⟨List.Pairwise.sublist (List.take_sublist _ _) hasc, ?_, ?_, .inr ?_⟩, ⟨List.Pairwise.sublist (List.drop_sublist _ _) hasc, ?_, ?_, .inr ?_⟩, ?_, ?_, hf, ?_⟩
      · intro x hx
        refine ⟨(hbd x (List.mem_of_mem_take hx)).1, ?_⟩
        intro b hb
        cases hb
        obtain ⟨i, hi', e⟩ := List.getElem_of_mem hx
        rw [List.length_take] at hi'
        rw [List.getElem_take] at e
        rw [← e]
        exact List.pairwise_iff_getElem.1 hasc i 32 (by omega) (by omega) (by omega)
      · show (l.take 32).length ≤ 64
        simp; omega
      · show 32 ≤ (l.take 32).length
        simp; omega
      · intro x hx
        refine ⟨?_, (hbd x (List.mem_of_mem_drop hx)).2⟩
        intro a ha
        cases ha
        obtain ⟨i, hi', e⟩ := List.getElem_of_mem hx
        rw [List.length_drop] at hi'
        rw [List.getElem_drop] at e
        rw [← e]
        by_cases e0 : i = 0
        · subst e0; exact lt_irrefl _
        · exact lt_asymm (List.pairwise_iff_getElem.1 hasc 32 (32 + i) (by omega) (by omega) (by omega))
      · show (l.drop 32).length ≤ 64
        simp; omega
      · show 32 ≤ (l.drop 32).length
        simp; omega
      · intro a ha
        exact lt_of_le_lt ((hbd l[0] (List.getElem_mem (by omega))).1 a ha) h0
      · exact (hbd l[32] (List.getElem_mem (by omega))).2
      · show l.take 32 ++ l.drop 32 = ins k t
        rw [hL, List.take_append_drop]

theorem split_at {α : Type} {ts : List α} {c : Nat} {tc : α} (h : ts[c]? = some tc) : ts = ts.take c ++ (tc :: ts.drop (c + 1)) := by
  obtain ⟨hc, e⟩ := List.getElem?_eq_some_iff.1 h
  conv => lhs; rw [← List.take_append_drop c ts, List.drop_eq_getElem_cons hc, e]

theorem inner_good (h : Nat) (r : Bool) (lo hi : Option ByteArray) (t : BT (h + 1)) (k : ByteArray) (g : Good (h + 1) r lo hi t) (hk : InB lo hi k) (tc : BT h) (htc : t.2[ub k t.1]? = some tc) (R : InsR h)
    (ih : ∀ r lo hi, Good h r lo hi tc → InB lo hi k → GoodR h r lo hi k tc R) : GoodR (h + 1) r lo hi k t (upIn (ub k t.1) t.1 t.2 R) := by
  obtain ⟨gn, g5, g6, g7⟩ := g
  have gn' : GoodN h lo hi t.1 t.2 := gn
  have gc := gn.2.2.2 _ _ htc
  have hkc := child_bounds (ks := t.1) k hk
  obtain ⟨R1, R2, R3⟩ := ih _ _ _ gc hkc
  obtain ⟨p1, p2⟩ := around gn' k
  have hc : ub k t.1 < t.2.length := (List.getElem?_eq_some_iff.1 htc).1
  generalize hcd : ub k t.1 = c at *
  have hfl : flat (h + 1) t = (t.2.take c).flatMap (flat h) ++ (flat h tc ++ (t.2.drop (c + 1)).flatMap (flat h)) := by
    show t.2.flatMap (flat h) = _
    conv => lhs; rw [split_at htc]
    rw [List.flatMap_append, List.flatMap_cons]
  have hhas : has k (flat (h + 1) t) = has k (flat h tc) := by rw [hfl]; exact has_mid k _ _ _ p1 p2
  have hins : ins k (flat (h + 1) t) = (t.2.take c).flatMap (flat h) ++ (ins k (flat h tc) ++ (t.2.drop (c + 1)).flatMap (flat h)) := by rw [hfl]; exact ins_mid k _ _ _ p1 p2
  have hset : ∀ t' : BT h, (t.2.set c t').flatMap (flat h) = (t.2.take c).flatMap (flat h) ++ (flat h t' ++ (t.2.drop (c + 1)).flatMap (flat h)) := by
    intro t'
    have e : (t.2.set c t')[c]? = some t' := by rw [List.getElem?_set, if_pos rfl, if_pos hc]
    conv => lhs; rw [split_at e]
    rw [List.flatMap_append, List.flatMap_cons, List.take_set_of_le (Nat.le_refl _), List.drop_set_of_lt (by omega)]
  obtain ⟨a, t', o⟩ := R
  cases o with
  | none =>
    obtain ⟨q1, q2⟩ := R2 rfl
    refine ⟨by rw [hhas]; exact R1, fun _ => ⟨⟨goodN_set gn' q1, by simpa [upIn] using g5, by simpa [upIn] using g6, by simpa [upIn] using g7⟩, ?_⟩, fun s tr e => by cases e⟩
    show (t.2.set c t').flatMap (flat h) = _
    rw [hset, q2, hhas]
    split
    · rw [hfl]
    · rw [hins]
  | some p =>
    obtain ⟨s, tr⟩ := p
    obtain ⟨q1, q2, q3, q4, q5, q6⟩ := R3 s tr rfl
    have gu := goodN_up gn' hc q1 q2 q3 q4
    have hfu : ((t.2.set c t').take (c + 1) ++ tr :: (t.2.set c t').drop (c + 1)).flatMap (flat h) = ins k (flat (h + 1) t) := by
      have e : (t.2.set c t')[c]? = some t' := by rw [List.getElem?_set, if_pos rfl, if_pos hc]
      have e2 : (t.2.set c t').take (c + 1) = t.2.take c ++ [t'] := by
        rw [List.take_add_one, e, List.take_set_of_le (Nat.le_refl _)]
        rfl
      rw [List.flatMap_append, List.flatMap_cons, e2, List.drop_set_of_lt (by omega), List.flatMap_append, hins, ← q6]
      simp
    unfold upIn splitIn
    simp only
    have hlt : ((t.2.set c t').take (c + 1) ++ tr :: (t.2.set c t').drop (c + 1)).length = t.2.length + 1 := by simp; omega
    generalize hT : (t.2.set c t').take (c + 1) ++ tr :: (t.2.set c t').drop (c + 1) = T at *
    generalize hK : t.1.take c ++ s :: t.1.drop c = K at *
    have hKl : K.length + 1 = T.length := gu.1
    by_cases hl : T.length ≤ 64
    · rw [if_pos hl]
      refine ⟨by rw [hhas]; exact R1, fun _ => ⟨⟨gu, hl, by show 2 ≤ T.length; omega, ?_⟩, ?_⟩, fun s tr e => by cases e⟩
      · rcases g7 with g7 | g7
        · exact .inl g7
        · right; show 32 ≤ T.length; omega
      · show T.flatMap (flat h) = _
        rw [hhas, q5, hfu]
        rfl
    · rw [if_neg hl]
      refine ⟨by rw [hhas]; exact R1, (fun e => by cases e), ?_⟩
      intro s' tr' e
      cases e
      have h31 : 31 < K.length := by omega
      have hs : K.getD 31 ⟨#[]⟩ = K[31] := by simp [List.getD, h31]
      rw [hs]
      obtain ⟨s1, s2, s3, s4⟩ := goodN_split gu 31 (by omega) h31
      refine ⟨⟨s1, ?_, ?_, .inr ?_⟩, ⟨s2, ?_, ?_, .inr ?_⟩, s3, s4, by rw [hhas]; exact q5, ?_⟩
      · show (T.take 32).length ≤ 64
        simp; omega
      · show 2 ≤ (T.take 32).length
        simp; omega
      · show 32 ≤ (T.take 32).length
        simp; omega
      · show (T.drop 32).length ≤ 64
        simp; omega
      · show 2 ≤ (T.drop 32).length
        simp; omega
      · show 32 ≤ (T.drop 32).length
        simp; omega
      · show (T.take 32).flatMap (flat h) ++ (T.drop 32).flatMap (flat h) = _
        rw [← List.flatMap_append, List.take_append_drop, hfu]

theorem ins_good : ∀ (h : Nat) (r : Bool) (lo hi : Option ByteArray) (t : BT h) (k : ByteArray), Good h r lo hi t → InB lo hi k → GoodR h r lo hi k t (insT h t k)
  | 0, r, lo, hi, t, k, g, hk => leaf_good r lo hi t k g hk
  | h + 1, r, lo, hi, t, k, g, hk => by
    have hu := ub_le k t.1
    have h1 : t.1.length + 1 = t.2.length := g.1.1
    have hc : ub k t.1 < t.2.length := by omega
    have htc : t.2[ub k t.1]? = some t.2[ub k t.1] := List.getElem?_eq_getElem hc
    unfold insT
    rw [htc]
    exact inner_good h r lo hi t k g hk _ htc _ (fun r lo hi g' k' => ins_good h r lo hi _ k g' k')

/-- How many strings a sound tree holds. -/
theorem good_big : ∀ (h : Nat) (lo hi : Option ByteArray) (t : BT h), Good h false lo hi t → 2 ^ (h + 1) ≤ (flat h t).length
  | 0, _, _, t, g => by
    have : 32 ≤ (flat 0 t).length := by
      rcases g.2.2.2 with e | e
      · cases e
      · exact e
    simp only [Nat.zero_add, Nat.pow_one]
    omega
  | h + 1, lo, hi, t, g => by
    have h1 : 32 ≤ t.2.length := by
      rcases g.2.2.2 with e | e
      · cases e
      · exact e
    have hall : ∀ u ∈ t.2, 2 ^ (h + 1) ≤ (flat h u).length := by
      intro u hu
      obtain ⟨i, hi', e⟩ := List.getElem_of_mem hu
      exact good_big h _ _ u (g.1.2.2.2 i u (by rw [List.getElem?_eq_getElem hi', e]))
    have hsum : ∀ l : List (BT h), (∀ u ∈ l, 2 ^ (h + 1) ≤ (flat h u).length) → l.length * 2 ^ (h + 1) ≤ (l.flatMap (flat h)).length := by
      intro l
      induction l with
      | nil => intro _; simp
      | cons u l ih =>
        intro hl
        have a := hl u (List.mem_cons_self ..)
        have b := ih (fun v hv => hl v (List.mem_cons_of_mem _ hv))
        rw [List.flatMap_cons, List.length_append, List.length_cons, Nat.add_mul, Nat.one_mul]
        omega
    have := hsum t.2 hall
    show 2 ^ (h + 1 + 1) ≤ (t.2.flatMap (flat h)).length
    have h2 : 2 ^ (h + 1 + 1) = 2 * 2 ^ (h + 1) := by rw [Nat.pow_succ, Nat.mul_comm]
    have h3 : 2 * 2 ^ (h + 1) ≤ t.2.length * 2 ^ (h + 1) := Nat.mul_le_mul_right _ (by omega)
    omega

theorem good_root_big (h : Nat) (lo hi : Option ByteArray) (t : BT (h + 1)) (g : Good (h + 1) true lo hi t) : 2 ^ (h + 2) ≤ (flat (h + 1) t).length := by
  have h1 : 2 ≤ t.2.length := g.2.2.1
  have hall : ∀ u ∈ t.2, 2 ^ (h + 1) ≤ (flat h u).length := by
    intro u hu
    obtain ⟨i, hi', e⟩ := List.getElem_of_mem hu
    exact good_big h _ _ u (g.1.2.2.2 i u (by rw [List.getElem?_eq_getElem hi', e]))
  have hsum : ∀ l : List (BT h), (∀ u ∈ l, 2 ^ (h + 1) ≤ (flat h u).length) → l.length * 2 ^ (h + 1) ≤ (l.flatMap (flat h)).length := by
    intro l
    induction l with
    | nil => intro _; simp
    | cons u l ih =>
      intro hl
      have a := hl u (List.mem_cons_self ..)
      have b := ih (fun v hv => hl v (List.mem_cons_of_mem _ hv))
      rw [List.flatMap_cons, List.length_append, List.length_cons, Nat.add_mul, Nat.one_mul]
      omega
  have := hsum t.2 hall
  show 2 ^ (h + 2) ≤ (t.2.flatMap (flat h)).length
  have h2 : 2 ^ (h + 2) = 2 * 2 ^ (h + 1) := by rw [Nat.pow_succ, Nat.mul_comm]
  have h3 : 2 * 2 ^ (h + 1) ≤ t.2.length * 2 ^ (h + 1) := Nat.mul_le_mul_right _ (by omega)
  omega
end Go.Proofs.Qxb6603837a
