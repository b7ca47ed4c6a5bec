/-
  The tree laid out in preorder, as plain lists; how long they are; insertion of a string that is held.
-/
import Derived.Test.Qxb6603837aTree2
namespace Go.Proofs.Qxb6603837a

def shapeS : (h : Nat) → BT h → List Int
  | 0, t => [-1, ((show List ByteArray from t).length : Int)]
  | h + 1, t => [(t.2.length : Int), (t.1.length : Int)] ++ t.2.flatMap (shapeS h)

def shapeT : (h : Nat) → BT h → List ByteArray
  | 0, t => t
  | h + 1, t => t.1 ++ t.2.flatMap (shapeT h)

theorem flat_sums {α β : Type} (f : α → List β) {γ : Type} (g : α → List γ) (c d : Nat) : ∀ (ts : List α), (∀ t ∈ ts, (f t).length + c ≤ d * (g t).length) → (ts.flatMap f).length + c * ts.length ≤ d * (ts.flatMap g).length
  | [], _ => by simp
  | t :: ts, h => by
    have h1 := h t (by simp)
    have h2 := flat_sums f g c d ts (fun u hu => h u (by simp [hu]))
    simp only [List.flatMap_cons, List.length_append, List.length_cons, Nat.mul_add] at *
    omega

theorem shape_small : ∀ (h : Nat) (lo hi : Option ByteArray) (t : BT h), Good h false lo hi t → (shapeS h t).length + 2 ≤ 4 * (flat h t).length ∧ (shapeT h t).length + 1 ≤ 2 * (flat h t).length
  | 0, lo, hi, t, g => by
    obtain ⟨_, _, _, g4⟩ := g
    have h1 : 32 ≤ (show List ByteArray from t).length := by
      rcases g4 with e | e
      · cases e
      · exact e
    have e1 : (shapeS 0 t).length = 2 := rfl
    have e2 : (shapeT 0 t).length = (show List ByteArray from t).length := rfl
    have e3 : (flat 0 t).length = (show List ByteArray from t).length := rfl
    omega
  | h + 1, lo, hi, t, g => by
    obtain ⟨⟨g1, g2, g3, g4⟩, g5, g6, g7⟩ := g
    have hc : ∀ u ∈ t.2, (shapeS h u).length + 2 ≤ 4 * (flat h u).length ∧ (shapeT h u).length + 1 ≤ 2 * (flat h u).length := by
      intro u hu
      obtain ⟨i, hi', e⟩ := List.getElem_of_mem hu
      exact shape_small h _ _ u (g4 i u (by rw [List.getElem?_eq_getElem hi', e]))
    have h1 := flat_sums (shapeS h) (flat h) 2 4 t.2 (fun u hu => (hc u hu).1)
    have h2 := flat_sums (shapeT h) (flat h) 1 2 t.2 (fun u hu => (hc u hu).2)
    have e1 : (shapeS (h + 1) t).length = 2 + (t.2.flatMap (shapeS h)).length := by
      unfold shapeS
      rw [List.length_append]
      rfl
    have e2 : (shapeT (h + 1) t).length = t.1.length + (t.2.flatMap (shapeT h)).length := by
      unfold shapeT
      rw [List.length_append]
    have e3 : flat (h + 1) t = t.2.flatMap (flat h) := rfl
    rw [e3]
    omega

theorem shape_bound (h : Nat) (r : Bool) (lo hi : Option ByteArray) (t : BT h) (g : Good h r lo hi t) : (shapeS h t).length ≤ 4 * (flat h t).length + 2 ∧ (shapeT h t).length ≤ 2 * (flat h t).length := by
  cases h with
  | zero =>
    have e1 : (shapeS 0 t).length = 2 := rfl
    have e2 : (shapeT 0 t).length = (show List ByteArray from t).length := rfl
    have e3 : (flat 0 t).length = (show List ByteArray from t).length := rfl
    omega
  | succ h =>
    obtain ⟨⟨g1, g2, g3, g4⟩, g5, g6, g7⟩ := g
    have hc : ∀ u ∈ t.2, (shapeS h u).length + 2 ≤ 4 * (flat h u).length ∧ (shapeT h u).length + 1 ≤ 2 * (flat h u).length := by
      intro u hu
      obtain ⟨i, hi', e⟩ := List.getElem_of_mem hu
      exact shape_small h _ _ u (g4 i u (by rw [List.getElem?_eq_getElem hi', e]))
    have h1 := flat_sums (shapeS h) (flat h) 2 4 t.2 (fun u hu => (hc u hu).1)
    have h2 := flat_sums (shapeT h) (flat h) 1 2 t.2 (fun u hu => (hc u hu).2)
    have e1 : (shapeS (h + 1) t).length = 2 + (t.2.flatMap (shapeS h)).length := by
      unfold shapeS
      rw [List.length_append]
      rfl
    have e2 : (shapeT (h + 1) t).length = t.1.length + (t.2.flatMap (shapeT h)).length := by
      unfold shapeT
      rw [List.length_append]
    have e3 : flat (h + 1) t = t.2.flatMap (flat h) := rfl
    rw [e3]
    omega

/-- A string that is held: the tree stays, node for node. -/
theorem ins_held : ∀ (h : Nat) (r : Bool) (lo hi : Option ByteArray) (t : BT h) (k : ByteArray), Good h r lo hi t → has k (flat h t) = true → insT h t k = (false, t, none)
  | 0, r, lo, hi, t, k, g, hk => by
    have hk' : has k (show List ByteArray from t) = true := hk
    unfold insT insLeaf
    rw [if_pos hk']
    rfl
  | h + 1, r, lo, hi, t, k, g, hk => by
    have hu := ub_le k t.1
    have h1 : t.1.length + 1 = t.2.length := g.1.1
    have hc : ub k t.1 < t.2.length := by omega
    have htc : t.2[ub k t.1]? = some t.2[ub k t.1] := List.getElem?_eq_getElem hc
    obtain ⟨a1, a2⟩ := around (ks := t.1) (ts := t.2) g.1 k
    have e : flat (h + 1) t = (t.2.take (ub k t.1)).flatMap (flat h) ++ (flat h t.2[ub k t.1] ++ (t.2.drop (ub k t.1 + 1)).flatMap (flat h)) := by
      have := split_at htc
      conv => lhs; unfold flat; rw [this]
      simp only [List.flatMap_append, List.flatMap_cons]
    rw [e, has_mid k _ _ _ a1 a2] at hk
    have ih := ins_held h false _ _ t.2[ub k t.1] k (g.1.2.2.2 _ _ htc) hk
    unfold insT
    rw [htc]
    simp only [ih, upIn]
    have e2 : t.2.set (ub k t.1) t.2[ub k t.1] = t.2 := List.set_getElem_self hc
    rw [e2]
    rfl
end Go.Proofs.Qxb6603837a
