/-
  A btree in memory: which blocks it takes, and what keeps it.
-/
import Derived.Test.Qxb6603837aTree2
import Derived.Test.Qxb6603837aSplitIn
namespace Go.Proofs.Qxb6603837a
open Go.RowKit

/-- The tree t lies at block b; it takes just the blocks of fp, all of the call's own. -/
def Rep (w : World) (B : Nat) : (h : Nat) → Nat → BT h → List Nat → Prop
  | 0, b, t, fp => ∃ kv, w.heap[b]? = some (.cells #[kv, .slice none 0 0] 60 (0, 0)) ∧ B ≤ b ∧ Own w B 9 kv ((show List ByteArray from t).map Value.string) ∧ fp = b :: kv.ownBlock.toList
  | h + 1, b, t, fp => ∃ (kv cv : Value) (bs : List Nat) (fps : List (List Nat)), w.heap[b]? = some (.cells #[kv, cv] 60 (0, 0)) ∧ B ≤ b ∧ Own w B 9 kv (t.1.map Value.string) ∧ Own w B 25 cv (ptrs bs) ∧ bs.length = t.2.length ∧ fps.length = t.2.length ∧
      (∀ (i b' : Nat) (t' : BT h) (f : List Nat), bs[i]? = some b' → t.2[i]? = some t' → fps[i]? = some f → Rep w B h b' t' f) ∧ fp = b :: (kv.ownBlock.toList ++ (cv.ownBlock.toList ++ fps.flatten))

theorem own_mem_lt {w : World} {B : Nat} {e : TypeId} {v : Value} {xs : List Value} (h : Own w B e v xs) : ∀ x ∈ v.ownBlock.toList, x < w.heap.size ∧ B ≤ x := by
  intro x hx
  have hx' : v.ownBlock = some x := by simpa using hx
  exact ⟨own_block_lt h hx', own_ge h hx'⟩

theorem rep_mem : ∀ {w : World} {B : Nat} (h : Nat) {b : Nat} {t : BT h} {fp : List Nat}, Rep w B h b t fp → b ∈ fp ∧ ∀ x ∈ fp, x < w.heap.size ∧ B ≤ x
  | w, B, 0, b, t, fp, hr => by
    obtain ⟨kv, h1, h2, h3, rfl⟩ := hr
    refine ⟨List.mem_cons_self .., ?_⟩
    intro x hx
    rcases List.mem_cons.1 hx with rfl | hx
    · exact ⟨lt_of_heap h1, h2⟩
    · exact own_mem_lt h3 x hx
  | w, B, h + 1, b, t, fp, hr => by
    obtain ⟨kv, cv, bs, fps, h1, h2, h3, h4, h5, h6, h7, rfl⟩ := hr
    refine ⟨List.mem_cons_self .., ?_⟩
    intro x hx
    rcases List.mem_cons.1 hx with rfl | hx
    · exact ⟨lt_of_heap h1, h2⟩
    · rcases List.mem_append.1 hx with hx | hx
      · exact own_mem_lt h3 x hx
      · rcases List.mem_append.1 hx with hx | hx
        · exact own_mem_lt h4 x hx
        · obtain ⟨f, hf, hx⟩ := List.mem_flatten.1 hx
          obtain ⟨i, hi, e⟩ := List.getElem_of_mem hf
          have := h7 i bs[i] t.2[i] f (List.getElem?_eq_getElem (by omega)) (List.getElem?_eq_getElem (by omega)) (by rw [List.getElem?_eq_getElem hi, e])
          exact (rep_mem h this).2 x hx

theorem own_keptL {w w' : World} {B : Nat} {e : TypeId} {v : Value} {xs : List Value} (h : Own w B e v xs) (hk : ∀ x ∈ v.ownBlock.toList, w'.heap[x]? = w.heap[x]?) : Own w' B e v xs :=
  own_kept h (fun g hg => hk g (by simp [hg]))

theorem rep_kept : ∀ {w w' : World} {B : Nat} (h : Nat) {b : Nat} {t : BT h} {fp : List Nat}, Rep w B h b t fp → (∀ x ∈ fp, w'.heap[x]? = w.heap[x]?) → Rep w' B h b t fp
  | w, w', B, 0, b, t, fp, hr, hk => by
    obtain ⟨kv, h1, h2, h3, rfl⟩ := hr
    exact ⟨kv, (hk b (List.mem_cons_self ..)).trans h1, h2, own_keptL h3 (fun x hx => hk x (List.mem_cons_of_mem _ hx)), rfl⟩
  | w, w', B, h + 1, b, t, fp, hr, hk => by
    obtain ⟨kv, cv, bs, fps, h1, h2, h3, h4, h5, h6, h7, rfl⟩ := hr
    refine ⟨kv, cv, bs, fps, (hk b (List.mem_cons_self ..)).trans h1, h2, own_keptL h3 (fun x hx => hk x (List.mem_cons_of_mem _ (List.mem_append.2 (.inl hx)))), own_keptL h4 (fun x hx => hk x (List.mem_cons_of_mem _ (List.mem_append.2 (.inr (List.mem_append.2 (.inl hx)))))), h5, h6, ?_, rfl⟩
    intro i b' t' f e1 e2 e3
    refine rep_kept h (h7 i b' t' f e1 e2 e3) (fun x hx => hk x ?_)
    refine List.mem_cons_of_mem _ (List.mem_append.2 (.inr (List.mem_append.2 (.inr (List.mem_flatten.2 ⟨f, List.mem_of_getElem? e3, hx⟩)))))

theorem rep_turned {w w' : World} {B h b : Nat} {t : BT h} {fp fq : List Nat} (hr : Rep w B h b t fp) (ht : Turned w w' fq) (hd : ∀ x ∈ fp, x ∉ fq) : Rep w' B h b t fp :=
  rep_kept h hr (fun x hx => ht.block x ((rep_mem h hr).2 x hx).1 (hd x hx))

/-- What insert leaves. -/
def InsPost (B h b : Nat) (R : InsR h) (fp : List Nat) (w : World) (e : Ending) (w' : World) : Prop :=
  Turned w w' fp ∧ ∃ fp',
    (R.2.2 = none → e = .returned (.tuple #[.bool R.1, .pointer none, .string ⟨#[]⟩]) ∧ Rep w' B h b R.2.1 fp' ∧ fp'.Nodup ∧ ∀ x ∈ fp', x ∈ fp ∨ w.heap.size ≤ x) ∧
    (∀ s tr, R.2.2 = some (s, tr) → ∃ br fpr, e = .returned (.tuple #[.bool R.1, .pointer (some ⟨br, 0, none⟩), .string s]) ∧ Rep w' B h b R.2.1 fp' ∧ Rep w' B h br tr fpr ∧ (fp' ++ fpr).Nodup ∧ ∀ x ∈ fp' ++ fpr, x ∈ fp ∨ w.heap.size ≤ x)

/-- A part of a list without doubles, taken for another. -/
theorem nodup_swap {A F C G : List Nat} {N : Nat} (h : (A ++ (F ++ C)).Nodup) (hG : G.Nodup) (hs : ∀ x ∈ G, x ∈ F ∨ N ≤ x) (hA : ∀ x ∈ A, x < N) (hC : ∀ x ∈ C, x < N) : (A ++ (G ++ C)).Nodup := by
  rw [List.nodup_append] at h ⊢
  obtain ⟨a1, a2, a3⟩ := h
  rw [List.nodup_append] at a2 ⊢
  obtain ⟨b1, b2, b3⟩ := a2
  refine ⟨a1, ⟨hG, b2, ?_⟩, ?_⟩
  · intro x hx y hy e
    subst e
    rcases hs x hx with h | h
    · exact b3 x h x hy rfl
    · have := hC x hy; omega
  · intro x hx y hy e
    subst e
    rcases List.mem_append.1 hy with hy | hy
    · rcases hs x hy with h | h
      · exact a3 x hx x (List.mem_append.2 (.inl h)) rfl
      · have := hA x hx; omega
    · exact a3 x hx x (List.mem_append.2 (.inr hy)) rfl
end Go.Proofs.Qxb6603837a
