/-
  zzCheck answers true, with the height, at every sound tree.
-/
import Derived.Test.Qxb6603837aCheckN
namespace Go.Proofs.Qxb6603837a
open Go.RowKit

/-- An owned row that holds something is a slice at its block's start. -/
theorem own_some {w : World} {B : Nat} {e : TypeId} {v : Value} {xs : List Value} (h : Own w B e v xs) (hx : 0 < xs.length) : ∃ g cap, v = .slice (some ⟨g, 0, none⟩) xs.length cap := by
  rcases own_open h with ⟨_, h2⟩ | ⟨g, cap, cur, h1, _⟩
  · rw [h2] at hx
    simp at hx
  · exact ⟨g, cap, h1⟩

theorem check_any : ∀ (h B b d : Nat) (t : BT h) (fp : List Nat) (w : World) (r cl ch : Bool) (ls hs : ByteArray) (lo hi : Option ByteArray), Rep w B h b t fp → Good h r lo hi t → (lo = if cl = true then some ls else none) → (hi = if ch = true then some hs else none) → d + h ≤ 40 →
    Calls Try.prog 30 #[.pointer (some ⟨b, 0, none⟩), .bool r, .bool cl, .string ls, .bool ch, .string hs, .int .i64 d] w fun e w' => e = .returned (.tuple #[.bool true, .int .i64 (h + 1 : Nat)]) ∧ ∃ q, w' = w.drewN q
  | 0, B, b, d, t, fp, w, r, cl, ch, ls, hs, lo, hi, hr, g, hlo, hhi, hd => by
    obtain ⟨kv, h1, h2, h3, h4⟩ := hr
    obtain ⟨g1, g2, g3, g4⟩ := g
    have k1 : w.cell? ⟨b, 1, none⟩ = some (.slice none 0 0) := by rw [cell_heap h1]; rfl
    have k0 : w.cell? ⟨b, 0, none⟩ = some kv := by rw [cell_heap h1]; rfl
    rcases own_open h3 with ⟨e1, e2⟩ | ⟨g', cap, cur, e1, _⟩
    · subst e1
      have e3 : (show List ByteArray from t) = [] := List.map_eq_nil_iff.1 e2
      refine (check_nil b d r cl ch ls hs w k0 k1 (by omega) ?_).mono fun e w' h => h
      rcases g4 with h | h
      · exact h
      · rw [e3] at h
        simp at h
    · rw [List.length_map] at e1
      subst e1
      refine (check_row b d B g' cap t r cl ch ls hs w k0 k1 (by omega) h3 g4 g3 g1 ?_ ?_).mono fun e w' h => h
      · intro e x hx
        exact (g2 x hx).1 ls (by rw [hlo, if_pos e])
      · intro e x hx
        exact (g2 x hx).2 hs (by rw [hhi, if_pos e])
  | h + 1, B, b, d, t, fp, w, r, cl, ch, ls, hs, lo, hi, hr, g, hlo, hhi, hd => by
    obtain ⟨kv, cv, bs, fps, h1, h2, h3, h4, h5, h6, h7, h8⟩ := hr
    obtain ⟨⟨g1, g2, g3, g4⟩, g5, g6, g7⟩ := g
    have k1 : w.cell? ⟨b, 1, none⟩ = some cv := by rw [cell_heap h1]; rfl
    have k0 : w.cell? ⟨b, 0, none⟩ = some kv := by rw [cell_heap h1]; rfl
    obtain ⟨gk, cap, rfl⟩ := own_some h3 (by rw [List.length_map]; omega)
    obtain ⟨gc, capc, rfl⟩ := own_some h4 (by unfold ptrs; rw [List.length_map]; omega)
    have hlen : (ptrs bs).length = t.1.length + 1 := by unfold ptrs; rw [List.length_map]; omega
    rw [List.length_map] at k0 h3
    rw [hlen] at k1 h4
    refine (check_inner b d gk cap gc capc (h + 1) t.1 (fun i => bs.getD i 0) r cl ch ls hs w k0 k1 (by omega) ?_ ?_ (by rwa [g1]) (by omega) (by omega) (by omega) ?_).mono ?_
    · intro i hi'
      exact str_cell h3 hi'
    · intro i hi'
      refine (own_cell h4 (x := .pointer (some ⟨bs.getD i 0, 0, none⟩)) ?_).1
      have : i < bs.length := by omega
      unfold ptrs
      rw [List.getElem?_map, List.getD_eq_getElem?_getD, List.getElem?_eq_getElem this]
      rfl
    · intro i hi' q
      have hib : i < bs.length := by omega
      have hit : i < t.2.length := by omega
      have hif : i < fps.length := by omega
      have rc := h7 i bs[i] t.2[i] fps[i] (List.getElem?_eq_getElem hib) (List.getElem?_eq_getElem hit) (List.getElem?_eq_getElem hif)
      have rc' : Rep (w.drewN q) B h bs[i] t.2[i] fps[i] := rep_kept h rc (fun x _ => rfl)
      have gc' := g4 i t.2[i] (List.getElem?_eq_getElem hit)
      have e : bs.getD i 0 = bs[i] := by rw [List.getD_eq_getElem?_getD, List.getElem?_eq_getElem hib]; rfl
      rw [e]
      have := check_any h B bs[i] (d + 1) t.2[i] fps[i] (w.drewN q) false (if i = 0 then cl else true) (if i < t.1.length then true else ch) (if i = 0 then ls else t.1.getD (i - 1) ⟨#[]⟩) (if i < t.1.length then t.1.getD i ⟨#[]⟩ else hs) _ _ rc' gc' ?_ ?_ (by omega)
      · refine this.mono ?_
        rintro e w' ⟨rfl, q', rfl⟩
        exact ⟨rfl, q + q', by rw [World.drewN_drewN]⟩
      · unfold loAt
        by_cases e0 : i = 0
        · rw [if_pos e0, if_pos e0, if_pos e0, hlo]
        · rw [if_neg e0, if_neg e0, if_neg e0, if_pos rfl, List.getD_eq_getElem?_getD, List.getElem?_eq_getElem (by omega)]
          rfl
      · unfold hiAt
        by_cases e0 : i < t.1.length
        · rw [if_pos e0, if_pos e0, if_pos e0, if_pos rfl, List.getD_eq_getElem?_getD, List.getElem?_eq_getElem e0]
          rfl
        · rw [if_neg e0, if_neg e0, if_neg e0, hhi]
    · rintro e w' ⟨rfl, q, rfl⟩
      exact ⟨rfl, q, rfl⟩

/-- The height of a sound tree of few strings. -/
theorem good_height (h : Nat) (t : BT h) (g : Good h true none none t) (hl : (flat h t).length ≤ 16385) : h ≤ 40 := by
  cases h with
  | zero => omega
  | succ n =>
    have := good_root_big n none none t g
    rcases Nat.lt_or_ge 39 n with e | e
    · have h1 : 2 ^ 15 ≤ 2 ^ (n + 2) := Nat.pow_le_pow_right (by omega) (by omega)
      have h2 : 2 ^ 15 = 32768 := by decide
      omega
    · omega
end Go.Proofs.Qxb6603837a
