/-
  zzCollect: the tree's strings, in order, behind those that were there.
-/
import Derived.Test.Qxb6603837aCheck
import Derived.Laws.AppendOwnNone
import Derived.Maps.AppendAt
namespace Go.Proofs.Qxb6603837a
open Go.RowKit

def CollectPost (w : World) (B : Nat) (ov : Value) (ys : List ByteArray) (e : Ending) (w' : World) : Prop :=
  ∃ ov', e = .returned ov' ∧ Own w' B 9 ov' (ys.map Value.string) ∧ Turned w w' ov.ownBlock.toList ∧ ∀ x ∈ ov'.ownBlock.toList, x ∈ ov.ownBlock.toList ∨ w.heap.size ≤ x

set_option maxHeartbeats 1000000 in
set_option maxRecDepth 100000 in
theorem collect_nil (b B : Nat) (ov : Value) (xs : List ByteArray) (w : World) (h0 : w.cell? ⟨b, 0, none⟩ = some (.slice none 0 0)) (h1 : w.cell? ⟨b, 1, none⟩ = some (.slice none 0 0)) (ho : Own w B 9 ov (xs.map Value.string)) :
    Calls Try.prog 31 #[.pointer (some ⟨b, 0, none⟩), ov] w (CollectPost w B ov xs) := by
  have HO : Hid (Own w B 9 ov (xs.map Value.string)) := ho
  obtain ⟨i0, hi0, hz0, hzs, hzb⟩ := info_parts infoS
  clear ho
  go_enter Try.func31, Try.ntmps31
  go_wp2_with fail
  refine same_of (zzleaf_true b w h1) ?_
  go_wp2_with fail
  refine same_of (zzkeys b _ w h0) ?_
  go_wp2_with (at_builtin; refine wpList_append_own_none rfl _ _ 22 rfl B 9 i0 1 Try.underlying22 hi0 ov (xs.map Value.string).length (xs.map Value.string) rfl HO.out rfl ?_)
  go_wp2
  go_ret
  exact ⟨ov, rfl, HO.out, Turned.refl _ _, fun x hx => .inl hx⟩

set_option maxHeartbeats 1000000 in
set_option maxRecDepth 100000 in
theorem collect_row (b B g cap : Nat) (ks : List ByteArray) (ov : Value) (xs : List ByteArray) (w : World) (hB : B ≤ w.heap.size) (h0 : w.cell? ⟨b, 0, none⟩ = some (.slice (some ⟨g, 0, none⟩) ks.length cap)) (h1 : w.cell? ⟨b, 1, none⟩ = some (.slice none 0 0)) (ho : Own w B 9 ov (xs.map Value.string))
    (hk : Own w B 9 (.slice (some ⟨g, 0, none⟩) ks.length cap) (ks.map Value.string)) (hl : xs.length + ks.length ≤ 100000) :
    Calls Try.prog 31 #[.pointer (some ⟨b, 0, none⟩), ov] w (CollectPost w B ov (xs ++ ks)) := by
  have HO : Hid (w.ownsRow B 9 1 ov xs.length (xs.map Value.string)) := by
    unfold Own at ho
    rwa [List.length_map] at ho
  have HK : Hid (∀ j u, (ks.map Value.string)[j]? = some u → w.cell? ((⟨g, 0, none⟩ : Addr).add j) = some u) := by
    intro j u hj
    rw [Addr.add_lit, Nat.zero_add]
    exact (own_cell hk hj).1
  obtain ⟨i0, hi0, hz0, hzs, hzb⟩ := info_parts infoS
  clear ho hk
  go_enter Try.func31, Try.ntmps31
  go_wp2_with fail
  refine same_of (zzleaf_true b w h1) ?_
  go_wp2_with fail
  refine same_of (zzkeys b _ w h0) ?_
  go_wp2_with (at_builtin; refine wpList_append_own_at w rfl _ _ 22 rfl B 9 i0 _ 1 16 Try.underlying22 hi0 hz0 hzs hzb rfl (by omega) ov xs.length (xs.map Value.string) rfl HO.out ⟨g, 0, none⟩ ks.length cap (ks.map Value.string) rfl (by rw [List.length_map, Nat.mul_one]) HK.out (one_strings ks) ?hc ?hd hB ?_)
  case hc => unfold maxLen; omega
  case hd => omega
  intro v' W1 hown hgr _ hat
  have HQ : Hid (Own W1 B 9 v' ((xs ++ ks).map Value.string) ∧ Turned w W1 ov.ownBlock.toList ∧ ∀ x ∈ v'.ownBlock.toList, x ∈ ov.ownBlock.toList ∨ w.heap.size ≤ x) := by
    refine ⟨?_, Turned.grown hgr (fun x hx => .inl (by rw [hx]; simp)), ?_⟩
    · unfold Own
      simpa using hown
    · intro x hx
      rcases hat with e | e
      · exact .inl (by rwa [e] at hx)
      · right
        rw [e] at hx
        have : x = w.heap.size := by simpa using hx
        omega
  clear hown hgr hat
  go_wp2
  go_ret
  exact ⟨v', rfl, HQ.out⟩

set_option maxHeartbeats 1000000 in
set_option maxRecDepth 100000 in
theorem collect_inner (b B gc capc n : Nat) (ov : Value) (A : Nat → List ByteArray) (bs : Nat → Nat) (w : World) (h1 : w.cell? ⟨b, 1, none⟩ = some (.slice (some ⟨gc, 0, none⟩) n capc)) (hn : n ≤ 64) (ho : Hid (Own w B 9 ov ((A 0).map Value.string)))
    (HK : Hid (∀ i, i < n → ∀ wr, Turned w wr ov.ownBlock.toList → wr.cell? ⟨gc, i, none⟩ = some (.pointer (some ⟨bs i, 0, none⟩))))
    (IH : Hid (∀ i, i < n → ∀ wr v, Turned w wr ov.ownBlock.toList → (∀ x ∈ v.ownBlock.toList, x ∈ ov.ownBlock.toList ∨ w.heap.size ≤ x) → Own wr B 9 v ((A i).map Value.string) → Calls Try.prog 31 #[.pointer (some ⟨bs i, 0, none⟩), v] wr (CollectPost wr B v (A (i + 1))))) :
    Calls Try.prog 31 #[.pointer (some ⟨b, 0, none⟩), ov] w (CollectPost w B ov (A n)) := by
  go_enter Try.func31, Try.ntmps31
  go_wp2_with fail
  refine same_of (zzleaf_false b _ _ _ w h1) ?_
  go_wp2_with fail
  refine same_of (zzkids b _ w h1) ?_
  go_wp2
  go_loopw [1, 6] (fun s1 s6 wr => ∃ (i : Nat) (v : Value), i ≤ n ∧ v = s1 ∧ s6 = .int .i64 i ∧ Hid (Own wr B 9 v ((A i).map Value.string) ∧ Turned w wr ov.ownBlock.toList ∧ ∀ x ∈ v.ownBlock.toList, x ∈ ov.ownBlock.toList ∨ w.heap.size ≤ x)) (fun _ s6 _ => n - (intOf s6).toNat)
  case atStart => exact ⟨0, ov, Nat.zero_le _, rfl, by go_num, ho.out, Turned.refl _ _, fun x hx => .inl hx⟩
  case round =>
    obtain ⟨i, v, hi, rfl, rfl, HH⟩ := hrel
    by_cases hlt : i < n
    · have ck := HK.out i hlt wr HH.out.2.1
      have hG : Hid _ := IH.out i hlt wr v HH.out.2.1 HH.out.2.2 HH.out.1
      generalize bs i = bc at *
      go_wp2_with fail
      refine Calls.mono hG.out ?_
      rintro e W1 ⟨v', rfl, q1, q2, q3⟩
      have HQ : Hid (Own W1 B 9 v' ((A (i + 1)).map Value.string) ∧ Turned w W1 ov.ownBlock.toList ∧ ∀ x ∈ v'.ownBlock.toList, x ∈ ov.ownBlock.toList ∨ w.heap.size ≤ x) := by
        refine ⟨q1, HH.out.2.1.trans q2 HH.out.2.2, ?_⟩
        intro x hx
        rcases q3 x hx with e | e
        · exact HH.out.2.2 x e
        · exact .inr (Nat.le_trans HH.out.2.1.size e)
      clear q1 q2 q3 HH ck hG
      go_wp2
      go_roundw
      case rel => exact ⟨i + 1, v', by omega, rfl, by go_num, HQ⟩
      case measure => simp [intOf]; omega
    · obtain rfl : i = n := by omega
      go_wp2
      go_ret
      exact ⟨v, rfl, HH.out⟩

theorem collect_any : ∀ (h B b : Nat) (t : BT h) (fp : List Nat) (w : World) (r : Bool) (lo hi : Option ByteArray) (ov : Value) (xs : List ByteArray), B ≤ w.heap.size → Rep w B h b t fp → Good h r lo hi t → Own w B 9 ov (xs.map Value.string) → (∀ x ∈ ov.ownBlock.toList, x ∉ fp) → xs.length + (flat h t).length ≤ 100000 →
    Calls Try.prog 31 #[.pointer (some ⟨b, 0, none⟩), ov] w (CollectPost w B ov (xs ++ flat h t))
  | 0, B, b, t, fp, w, r, lo, hi, ov, xs, hB, hr, g, ho, ha, hl => by
    obtain ⟨kv, h1, h2, h3, h4⟩ := hr
    rcases own_open h3 with ⟨e1, e2⟩ | ⟨g', cap, cur, e1, _⟩
    · subst e1
      have e3 : flat 0 t = [] := List.map_eq_nil_iff.1 e2
      rw [e3, List.append_nil]
      exact collect_nil b B ov xs w (cell0 h1) (cell1 h1) ho
    · rw [List.length_map] at e1
      subst e1
      exact collect_row b B g' cap t ov xs w hB (cell0 h1) (cell1 h1) ho h3 hl
  | h + 1, B, b, t, fp, w, r, lo, hi, ov, xs, hB, hr, g, ho, ha, hl => by
    have hm : ∀ x ∈ fp, x < w.heap.size := fun x hx => ((rep_mem (h + 1) hr).2 x hx).1
    obtain ⟨kv, cv, bs, fps, h1, h2, h3, h4, h5, h6, h7, h8⟩ := hr
    obtain ⟨⟨g1, g2, g3, g4⟩, g5, g6, g7⟩ := g
    obtain ⟨gc, capc, rfl⟩ := own_some h4 (by unfold ptrs; rw [List.length_map]; omega)
    have hlen : (ptrs bs).length = t.2.length := by unfold ptrs; rw [List.length_map]; omega
    have k1 := cell1 h1
    rw [hlen] at k1 h4
    have hfl : ∀ i, ((t.2.take i).flatMap (flat h)).length ≤ (flat (h + 1) t).length := by
      intro i
      have e : flat (h + 1) t = (t.2.take i).flatMap (flat h) ++ (t.2.drop i).flatMap (flat h) := by
        rw [← List.flatMap_append, List.take_append_drop]
        rfl
      rw [e, List.length_append]
      omega
    have key := collect_inner b B gc capc t.2.length ov (fun i => xs ++ (t.2.take i).flatMap (flat h)) (fun i => bs.getD i 0) w k1 g5 (by show Own _ _ _ _ _; simpa using ho) ?_ ?_
    · have e : xs ++ (t.2.take t.2.length).flatMap (flat h) = xs ++ flat (h + 1) t := by
        rw [List.take_length]
        rfl
      rw [← e]
      exact key
    · intro i hi' wr ht
      have hgm : gc ∈ fp := by rw [h8]; simp [Value.ownBlock]
      have hgl : gc < w.heap.size := hm gc hgm
      have h4' : Own wr B 25 (.slice (some ⟨gc, 0, none⟩) t.2.length capc) (ptrs bs) := own_keptL h4 (fun x hx => by
        have hx' : x = gc := by simpa [Value.ownBlock] using hx
        subst hx'
        exact ht.block x hgl (fun e => ha x e hgm))
      refine (own_cell h4' (x := .pointer (some ⟨bs.getD i 0, 0, none⟩)) ?_).1
      have : i < bs.length := by omega
      unfold ptrs
      rw [List.getElem?_map, List.getD_eq_getElem?_getD, List.getElem?_eq_getElem this]
      rfl
    · intro i hi' wr v ht hv hov
      have hib : i < bs.length := by omega
      have hif : i < fps.length := by omega
      have rc := h7 i bs[i] t.2[i] fps[i] (List.getElem?_eq_getElem hib) (List.getElem?_eq_getElem hi') (List.getElem?_eq_getElem hif)
      have hsub : ∀ x ∈ fps[i], x ∈ fp := by
        intro x hx
        rw [h8]
        simp only [List.mem_cons, List.mem_append]
        exact .inr (.inr (.inr (List.mem_flatten.2 ⟨_, List.getElem_mem hif, hx⟩)))
      have rc' : Rep wr B h bs[i] t.2[i] fps[i] := rep_turned rc ht (fun x hx e => ha x e (hsub x hx))
      have gc' := g4 i t.2[i] (List.getElem?_eq_getElem hi')
      have e : bs.getD i 0 = bs[i] := by rw [List.getD_eq_getElem?_getD, List.getElem?_eq_getElem hib]; rfl
      have e2 : xs ++ (t.2.take (i + 1)).flatMap (flat h) = (xs ++ (t.2.take i).flatMap (flat h)) ++ flat h t.2[i] := by
        rw [List.take_succ_eq_append_getElem hi', List.flatMap_append, List.append_assoc]
        simp
      have e3 := hfl (i + 1)
      have e4 := congrArg List.length e2
      show Calls Try.prog 31 #[.pointer (some ⟨bs.getD i 0, 0, none⟩), v] wr (CollectPost wr B v (xs ++ (t.2.take (i + 1)).flatMap (flat h)))
      rw [e, e2]
      refine collect_any h B bs[i] t.2[i] fps[i] wr false _ _ v _ (Nat.le_trans hB ht.size) rc' gc' hov ?_ ?_
      · intro x hx hxf
        rcases hv x hx with e | e
        · exact ha x e (hsub x hxf)
        · have := hm x (hsub x hxf)
          omega
      · simp only [List.length_append] at e4 ⊢
        omega
end Go.Proofs.Qxb6603837a
