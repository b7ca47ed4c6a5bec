/-
  zzShape at every sound tree; zzSameInts.
-/
import Derived.Test.Qxb6603837aShape
namespace Go.Proofs.Qxb6603837a
open Go.RowKit

/-- zzShape at every sound tree. -/
theorem shape_any : ∀ (h B b : Nat) (t : BT h) (fp : List Nat) (w : World) (r : Bool) (lo hi : Option ByteArray) (sv tv : Value) (S : List Int) (T : List ByteArray), B ≤ w.heap.size → Rep w B h b t fp → Good h r lo hi t → ShapeInv w B sv tv w sv tv S T → (∀ x ∈ sv.ownBlock.toList ++ tv.ownBlock.toList, x ∉ fp) →
    S.length + (shapeS h t).length ≤ 200000 → T.length + (shapeT h t).length ≤ 200000 → Calls Try.prog 14 #[.pointer (some ⟨b, 0, none⟩), sv, tv] w (ShapePost w B sv tv (S ++ shapeS h t) (T ++ shapeT h t))
  | 0, B, b, t, fp, w, r, lo, hi, sv, tv, S, T, hB, hr, g, hI, ha, hlS, hlT => by
    have hm := rep_mem 0 hr
    obtain ⟨kv, h1, h2, h3, h4⟩ := hr
    have e1 : (shapeS 0 t).length = 2 := rfl
    have HN : Hid (∀ W, Turned w W tv.ownBlock.toList → W.cell? ⟨b, 1, none⟩ = some (.slice none 0 0)) := by
      intro W ht
      exact cell1 ((ht.block b (hm.2 b hm.1).1 (fun e => ha b (List.mem_append.2 (.inr e)) hm.1)).trans h1)
    rcases own_open h3 with ⟨e1, e2⟩ | ⟨g', cap, cur, e1, _⟩
    · subst e1
      have e3 : (show List ByteArray from t) = [] := List.map_eq_nil_iff.1 e2
      have e4 : shapeT 0 t = [] := e3
      have e5 : shapeS 0 t = [-1, 0] := by
        show [-1, ((show List ByteArray from t).length : Int)] = _
        rw [e3]
        rfl
      rw [e4, e5, List.append_nil]
      exact shape_nil b B sv tv S T w hB (cell0 h1) HN hI (by omega)
    · rw [List.length_map] at e1
      subst e1
      exact shape_row b B g' cap t sv tv S T w hB (cell0 h1) HN hI h3 (by omega) hlT
  | h + 1, B, b, t, fp, w, r, lo, hi, sv, tv, S, T, hB, hr, g, hI, ha, hlS, hlT => by
    have hm := rep_mem (h + 1) hr
    obtain ⟨kv, cv, bs, fps, h1, h2, h3, h4, h5, h6, h7, h8⟩ := hr
    obtain ⟨⟨g1, g2, g3, g4⟩, g5, g6, g7⟩ := g
    obtain ⟨gk, cap, rfl⟩ := own_some h3 (by rw [List.length_map]; omega)
    obtain ⟨gc, capc, rfl⟩ := own_some h4 (by unfold ptrs; rw [List.length_map]; omega)
    have hlen : (ptrs bs).length = t.2.length := by unfold ptrs; rw [List.length_map]; omega
    have k0 := cell0 h1
    rw [List.length_map] at k0 h3
    rw [hlen] at h4
    have eS : shapeS (h + 1) t = [(t.2.length : Int), (t.1.length : Int)] ++ t.2.flatMap (shapeS h) := rfl
    have eT : shapeT (h + 1) t = t.1 ++ t.2.flatMap (shapeT h) := rfl
    have lS := congrArg List.length eS
    have lT := congrArg List.length eT
    simp only [List.length_append, List.length_cons, List.length_nil] at lS lT
    have hgm : gc ∈ fp := by rw [h8]; simp [Value.ownBlock]
    have parts : ∀ {β : Type} (f : BT h → List β) (i : Nat), ((t.2.take i).flatMap f).length ≤ (t.2.flatMap f).length := by
      intro β f i
      have e : t.2.flatMap f = (t.2.take i).flatMap f ++ (t.2.drop i).flatMap f := by
        rw [← List.flatMap_append, List.take_append_drop]
      rw [e, List.length_append]
      omega
    have key := shape_inner b B gk cap gc capc t.2.length t.1 (fun i => bs.getD i 0) sv tv S T (fun i => S ++ [(t.2.length : Int), (t.1.length : Int)] ++ (t.2.take i).flatMap (shapeS h)) (fun i => T ++ t.1 ++ (t.2.take i).flatMap (shapeT h)) w hB k0 ?_ hI h3 (by omega) (by omega) g5 (by simp) (by simp) ?_ ?_
    · have e1 : S ++ shapeS (h + 1) t = S ++ [(t.2.length : Int), (t.1.length : Int)] ++ (t.2.take t.2.length).flatMap (shapeS h) := by
        rw [List.take_length, eS, List.append_assoc]
      have e2 : T ++ shapeT (h + 1) t = T ++ t.1 ++ (t.2.take t.2.length).flatMap (shapeT h) := by
        rw [List.take_length, eT, List.append_assoc]
      rw [e1, e2]
      exact key
    · intro W ht
      have := cell1 ((ht.block b (hm.2 b hm.1).1 (fun e => ha b (List.mem_append.2 (.inr e)) hm.1)).trans h1)
      rwa [hlen] at this
    · intro i hi' wr ht
      have h4' : Own wr B 25 (.slice (some ⟨gc, 0, none⟩) t.2.length capc) (ptrs bs) := own_keptL h4 (fun x hx => by
        have hx' : x = gc := by simpa [Value.ownBlock] using hx
        subst hx'
        exact ht.block x (hm.2 x hgm).1 (fun e => ha x e hgm))
      refine (own_cell h4' (x := .pointer (some ⟨bs.getD i 0, 0, none⟩)) ?_).1
      have : i < bs.length := by omega
      unfold ptrs
      rw [List.getElem?_map, List.getD_eq_getElem?_getD, List.getElem?_eq_getElem this]
      rfl
    · intro i hi' wr s t' hinv
      have hib : i < bs.length := by omega
      have hif : i < fps.length := by omega
      have rc := h7 i bs[i] t.2[i] fps[i] (List.getElem?_eq_getElem hib) (List.getElem?_eq_getElem hi') (List.getElem?_eq_getElem hif)
      have hsub : ∀ x ∈ fps[i], x ∈ fp := by
        intro x hx
        rw [h8]
        simp only [List.mem_cons, List.mem_append]
        exact .inr (.inr (.inr (List.mem_flatten.2 ⟨_, List.getElem_mem hif, hx⟩)))
      have rc' : Rep wr B h bs[i] t.2[i] fps[i] := rep_turned rc hinv.turned (fun x hx e => ha x e (hsub x hx))
      have gc' := g4 i t.2[i] (List.getElem?_eq_getElem hi')
      have e : bs.getD i 0 = bs[i] := by rw [List.getD_eq_getElem?_getD, List.getElem?_eq_getElem hib]; rfl
      have step : ∀ {β : Type} (X : List β) (f : BT h → List β), X ++ (t.2.take (i + 1)).flatMap f = (X ++ (t.2.take i).flatMap f) ++ f t.2[i] := by
        intro β X f
        rw [List.take_succ_eq_append_getElem hi', List.flatMap_append, List.append_assoc]
        simp
      have p1 := parts (shapeS h) (i + 1)
      have p2 := parts (shapeT h) (i + 1)
      have q1 := congrArg List.length (step (S ++ [(t.2.length : Int), (t.1.length : Int)]) (shapeS h))
      have q2 := congrArg List.length (step (T ++ t.1) (shapeT h))
      show Calls Try.prog 14 #[.pointer (some ⟨bs.getD i 0, 0, none⟩), s, t'] wr (ShapePost wr B s t' (S ++ [(t.2.length : Int), (t.1.length : Int)] ++ (t.2.take (i + 1)).flatMap (shapeS h)) (T ++ t.1 ++ (t.2.take (i + 1)).flatMap (shapeT h)))
      rw [e, step, step]
      refine shape_any h B bs[i] t.2[i] fps[i] wr false _ _ s t' _ _ (Nat.le_trans hB hinv.turned.size) rc' gc' ⟨hinv.sizes, hinv.strs, Turned.refl _ _, (fun x hx => .inl (List.mem_append.2 (.inl hx))), (fun x hx => .inl (List.mem_append.2 (.inr hx))), hinv.apart⟩ ?_ ?_ ?_
      · intro x hx hxf
        have hxx : x ∈ sv.ownBlock.toList ++ tv.ownBlock.toList ∨ w.heap.size ≤ x := by
          rcases List.mem_append.1 hx with hx | hx
          · exact hinv.news x hx
          · exact hinv.newt x hx
        rcases hxx with e | e
        · exact ha x e (hsub x hxf)
        · have := (hm.2 x (hsub x hxf)).1
          omega
      · simp only [List.length_append, List.length_cons, List.length_nil] at q1 ⊢
        omega
      · simp only [List.length_append] at q2 ⊢
        omega

theorem sameints_empty (a1 a2 : Option Addr) (c1 c2 : Nat) (w : World) : Calls Try.prog 16 #[.slice a1 0 c1, .slice a2 0 c2] w fun e w' => e = .returned (.bool true) ∧ ∃ q, w' = w.drewN q := by
  go_enter Try.func16, Try.ntmps16
  go_wp2
  go_loop [5] (fun a => a = .int .i64 0) (fun _ => 0)
  case atStart => rfl
  case round =>
    obtain rfl := hrel
    go_wp2
    go_ret
    exact ⟨rfl, 0, rfl⟩

set_option maxHeartbeats 1000000 in
set_option maxRecDepth 100000 in
theorem sameints_row (g1 c1 g2 c2 : Nat) (S : List Int) (w : World) (hl : S.length ≤ 300000) (H1 : Hid (∀ i (hi : i < S.length), w.cell? ⟨g1, i, none⟩ = some (.int .i64 S[i]))) (H2 : Hid (∀ i (hi : i < S.length), w.cell? ⟨g2, i, none⟩ = some (.int .i64 S[i]))) :
    Calls Try.prog 16 #[.slice (some ⟨g1, 0, none⟩) S.length c1, .slice (some ⟨g2, 0, none⟩) S.length c2] w fun e w' => e = .returned (.bool true) ∧ ∃ q, w' = w.drewN q := by
  go_enter Try.func16, Try.ntmps16
  go_wp2
  go_loopw [5] (fun a wr => ∃ i q : Nat, a = .int .i64 i ∧ i ≤ S.length ∧ wr = w.drewN q) (fun a _ => S.length - (intOf a).toNat)
  case atStart => exact ⟨0, 0, by go_num, Nat.zero_le _, rfl⟩
  case round =>
    obtain ⟨i, q, rfl, hi, rfl⟩ := hrel
    by_cases hlt : i < S.length
    · have k1 := H1.out i hlt
      have k2 := H2.out i hlt
      generalize S[i] = X at *
      go_wp2
      go_quiet (fail)
      go_wp2
      go_roundw
      case rel => exact ⟨i + 1, _, by go_num, by omega, rfl⟩
      case measure => simp [intOf]; omega
    · obtain rfl : i = S.length := by omega
      go_wp2
      go_ret
      exact ⟨rfl, q, rfl⟩

theorem sameints_any (B : Nat) (v1 v2 : Value) (S : List Int) (w : World) (hl : S.length ≤ 300000) (h1 : Own w B 3 v1 (ints S)) (h2 : Own w B 3 v2 (ints S)) :
    Calls Try.prog 16 #[v1, v2] w fun e w' => e = .returned (.bool true) ∧ ∃ q, w' = w.drewN q := by
  have hlen : (ints S).length = S.length := by unfold ints; rw [List.length_map]
  rcases Nat.eq_zero_or_pos S.length with e | e
  · have : ∀ v, Own w B 3 v (ints S) → ∃ a c, v = .slice a 0 c := by
      intro v hv
      rcases own_open hv with ⟨q1, q2⟩ | ⟨g, cap, cur, q1, _⟩
      · exact ⟨_, _, q1⟩
      · rw [hlen, e] at q1
        exact ⟨_, _, q1⟩
    obtain ⟨a1, c1, rfl⟩ := this v1 h1
    obtain ⟨a2, c2, rfl⟩ := this v2 h2
    exact sameints_empty a1 a2 c1 c2 w
  · obtain ⟨g1, c1, rfl⟩ := own_some h1 (by rwa [hlen])
    obtain ⟨g2, c2, rfl⟩ := own_some h2 (by rwa [hlen])
    rw [hlen] at h1 h2 ⊢
    exact sameints_row g1 c1 g2 c2 S w hl (fun i hi => (own_cell h1 (by unfold ints; simp [hi])).1) (fun i hi => (own_cell h2 (by unfold ints; simp [hi])).1)
end Go.Proofs.Qxb6603837a
