/-
  The children of a node in memory, as lists: one of them turned, one more laid beside it, cut in two.
-/
import Derived.Test.Qxb6603837aInsL
namespace Go.Proofs.Qxb6603837a
open Go.RowKit

/-- The children lie at the blocks bs, hold the trees ts and take the blocks fps. -/
def Kids (w : World) (B h : Nat) (bs : List Nat) (ts : List (BT h)) (fps : List (List Nat)) : Prop :=
  bs.length = ts.length ∧ fps.length = ts.length ∧ ∀ (i b' : Nat) (t' : BT h) (f : List Nat), bs[i]? = some b' → ts[i]? = some t' → fps[i]? = some f → Rep w B h b' t' f

theorem kids_kept {w w' : World} {B h : Nat} {bs : List Nat} {ts : List (BT h)} {fps : List (List Nat)} (hk : Kids w B h bs ts fps) (hx : ∀ x ∈ fps.flatten, w'.heap[x]? = w.heap[x]?) : Kids w' B h bs ts fps :=
  ⟨hk.1, hk.2.1, fun i b' t' f e1 e2 e3 => rep_kept h (hk.2.2 i b' t' f e1 e2 e3) (fun x h => hx x (List.mem_flatten.2 ⟨f, List.mem_of_getElem? e3, h⟩))⟩

theorem kids_mem {w : World} {B h : Nat} {bs : List Nat} {ts : List (BT h)} {fps : List (List Nat)} (hk : Kids w B h bs ts fps) : ∀ x ∈ fps.flatten, x < w.heap.size ∧ B ≤ x := by
  intro x hx
  obtain ⟨f, hf, hx⟩ := List.mem_flatten.1 hx
  obtain ⟨i, hi, e⟩ := List.getElem_of_mem hf
  obtain ⟨h1, h2, h3⟩ := hk
  exact (rep_mem h (h3 i bs[i] ts[i] f (List.getElem?_eq_getElem (by omega)) (List.getElem?_eq_getElem (by omega)) (by rw [List.getElem?_eq_getElem hi, e]))).2 x hx

/-- One child turned: the others stand where its blocks alone have turned. -/
theorem kids_set {w w' : World} {B h : Nat} {bs : List Nat} {ts : List (BT h)} {fps : List (List Nat)} (hk : Kids w B h bs ts fps) {c bc : Nat} {t' : BT h} {fc f' : List Nat} (hbc : bs[c]? = some bc) (hfc : fps[c]? = some fc)
    (hr : Rep w' B h bc t' f') (ht : Turned w w' fc) (hnd : fps.flatten.Nodup) : Kids w' B h bs (ts.set c t') (fps.set c f') := by
  obtain ⟨h1, h2, h3⟩ := hk
  refine ⟨by simpa using h1, by simpa using h2, ?_⟩
  intro i b' u f e1 e2 e3
  rw [List.getElem?_set] at e2 e3
  by_cases e : c = i
  · subst e
    rw [if_pos rfl] at e2 e3
    split at e2
    · cases e2
      rw [if_pos (by omega)] at e3
      cases e3
      rw [hbc] at e1
      cases e1
      exact hr
    · cases e2
  · rw [if_neg e] at e2 e3
    refine rep_turned (h3 i b' u f e1 e2 e3) ht ?_
    intro x hx hxc
    have hp : fps.Pairwise (fun a b => ∀ x ∈ a, ∀ y ∈ b, x ≠ y) := (List.pairwise_flatten.1 hnd).2
    obtain ⟨hi, ei⟩ := List.getElem?_eq_some_iff.1 e3
    obtain ⟨hc, ec⟩ := List.getElem?_eq_some_iff.1 hfc
    rcases Nat.lt_or_ge i c with hlt | hge
    · have := List.pairwise_iff_getElem.1 hp i c hi hc hlt
      rw [ei, ec] at this
      exact this x hx x hxc rfl
    · have := List.pairwise_iff_getElem.1 hp c i hc hi (by omega)
      rw [ei, ec] at this
      exact this x hxc x hx rfl

theorem kids_up {w : World} {B h : Nat} {bs : List Nat} {ts : List (BT h)} {fps : List (List Nat)} (hk : Kids w B h bs ts fps) {c br : Nat} (hc : c ≤ bs.length) {tr : BT h} {fr : List Nat} (hr : Rep w B h br tr fr) :
    Kids w B h (bs.take c ++ br :: bs.drop c) (ts.take c ++ tr :: ts.drop c) (fps.take c ++ fr :: fps.drop c) := by
  obtain ⟨h1, h2, h3⟩ := hk
  refine ⟨by simp; omega, by simp; omega, ?_⟩
  intro i b' u f e1 e2 e3
  rw [take_cons_drop c _ _ (by omega)] at e1 e2 e3
  by_cases e : i < c
  · rw [if_pos e] at e1 e2 e3
    exact h3 i b' u f e1 e2 e3
  · rw [if_neg e] at e1 e2 e3
    by_cases e' : i = c
    · rw [if_pos e'] at e1 e2 e3
      cases e1; cases e2; cases e3
      exact hr
    · rw [if_neg e'] at e1 e2 e3
      exact h3 _ b' u f e1 e2 e3

theorem kids_take {w : World} {B h : Nat} {bs : List Nat} {ts : List (BT h)} {fps : List (List Nat)} (hk : Kids w B h bs ts fps) (m : Nat) : Kids w B h (bs.take m) (ts.take m) (fps.take m) := by
  obtain ⟨h1, h2, h3⟩ := hk
  refine ⟨by simp; omega, by simp; omega, ?_⟩
  intro i b' u f e1 e2 e3
  rw [List.getElem?_take] at e1 e2 e3
  split at e1
  · rename_i hi
    rw [if_pos hi] at e2 e3
    exact h3 i b' u f e1 e2 e3
  · cases e1

theorem kids_drop {w : World} {B h : Nat} {bs : List Nat} {ts : List (BT h)} {fps : List (List Nat)} (hk : Kids w B h bs ts fps) (m : Nat) : Kids w B h (bs.drop m) (ts.drop m) (fps.drop m) := by
  obtain ⟨h1, h2, h3⟩ := hk
  refine ⟨by simp; omega, by simp; omega, ?_⟩
  intro i b' u f e1 e2 e3
  rw [List.getElem?_drop] at e1 e2 e3
  exact h3 _ b' u f e1 e2 e3

theorem flatten_set {fps : List (List Nat)} {c : Nat} {fc : List Nat} (h : fps[c]? = some fc) (f' : List Nat) : fps.flatten = (fps.take c).flatten ++ (fc ++ (fps.drop (c + 1)).flatten) ∧ (fps.set c f').flatten = (fps.take c).flatten ++ (f' ++ (fps.drop (c + 1)).flatten) := by
  obtain ⟨hc, _⟩ := List.getElem?_eq_some_iff.1 h
  constructor
  · conv => lhs; rw [split_at h]
    rw [List.flatten_append, List.flatten_cons]
  · have e : (fps.set c f')[c]? = some f' := by rw [List.getElem?_set, if_pos rfl, if_pos hc]
    conv => lhs; rw [split_at e]
    rw [List.flatten_append, List.flatten_cons, List.take_set_of_le (Nat.le_refl _), List.drop_set_of_lt (by omega)]

theorem flatten_up {fps : List (List Nat)} {c : Nat} {fc : List Nat} (h : fps[c]? = some fc) (f' fr : List Nat) :
    ((fps.set c f').take (c + 1) ++ fr :: (fps.set c f').drop (c + 1)).flatten = (fps.take c).flatten ++ ((f' ++ fr) ++ (fps.drop (c + 1)).flatten) := by
  obtain ⟨hc, _⟩ := List.getElem?_eq_some_iff.1 h
  have e : (fps.set c f')[c]? = some f' := by rw [List.getElem?_set, if_pos rfl, if_pos hc]
  have e2 : (fps.set c f').take (c + 1) = fps.take c ++ [f'] := by
    rw [List.take_add_one, e, List.take_set_of_le (Nat.le_refl _)]
    rfl
  rw [e2, List.drop_set_of_lt (by omega)]
  simp
end Go.Proofs.Qxb6603837a
