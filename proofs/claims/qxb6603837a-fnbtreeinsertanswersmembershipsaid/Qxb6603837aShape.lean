/-
  zzShape: the tree laid out in preorder, behind what was there.
-/
import Derived.Test.Qxb6603837aHolds
import Derived.Test.Qxb6603837aShapeP
namespace Go.Proofs.Qxb6603837a
open Go.RowKit

theorem infoI : (Try.prog.info? 3).map (fun i => (i.zero, i.size, i.bytes)) = some (some (.int .i64 0), 1, 8) := by kernel_rfl

def ints (S : List Int) : List Value := S.map (Value.int .i64)

theorem one_ints (S : List Int) : ∀ u ∈ ints S, u.oneCell' = true := by
  intro u hu
  obtain ⟨x, _, rfl⟩ := List.mem_map.1 hu
  rfl

/-- Both rows as they stand behind w, in blocks of their own. -/
structure ShapeInv (w : World) (B : Nat) (sv tv : Value) (W : World) (s t : Value) (S : List Int) (T : List ByteArray) : Prop where
  sizes : Own W B 3 s (ints S)
  strs : Own W B 9 t (T.map Value.string)
  turned : Turned w W (sv.ownBlock.toList ++ tv.ownBlock.toList)
  news : ∀ x ∈ s.ownBlock.toList, x ∈ sv.ownBlock.toList ++ tv.ownBlock.toList ∨ w.heap.size ≤ x
  newt : ∀ x ∈ t.ownBlock.toList, x ∈ sv.ownBlock.toList ++ tv.ownBlock.toList ∨ w.heap.size ≤ x
  apart : ∀ x ∈ s.ownBlock.toList, x ∉ t.ownBlock.toList

theorem ShapeInv.trans {w W W' : World} {B : Nat} {sv tv s t s' t' : Value} {S S' : List Int} {T T' : List ByteArray} (h : ShapeInv w B sv tv W s t S T) (k : ShapeInv W B s t W' s' t' S' T') : ShapeInv w B sv tv W' s' t' S' T' := by
  have hm : ∀ x ∈ s.ownBlock.toList ++ t.ownBlock.toList, x ∈ sv.ownBlock.toList ++ tv.ownBlock.toList ∨ w.heap.size ≤ x := by
    intro x hx
    rcases List.mem_append.1 hx with hx | hx
    · exact h.news x hx
    · exact h.newt x hx
  have hz := h.turned.size
  refine ⟨k.sizes, k.strs, h.turned.trans k.turned hm, ?_, ?_, k.apart⟩
  · intro x hx
    rcases k.news x hx with e | e
    · exact hm x e
    · exact .inr (by omega)
  · intro x hx
    rcases k.newt x hx with e | e
    · exact hm x e
    · exact .inr (by omega)

def ShapePost (w : World) (B : Nat) (sv tv : Value) (S : List Int) (T : List ByteArray) (e : Ending) (w' : World) : Prop :=
  ∃ s t, e = .returned (.tuple #[s, t]) ∧ ShapeInv w B sv tv w' s t S T

/-- The two appends of one node. -/
theorem shape_step {w W1 W2 : World} {B : Nat} {sv tv s t : Value} {S0 S : List Int} {T0 T : List ByteArray} (h0 : ShapeInv w B sv tv w sv tv S0 T0) (h1 : Own W1 B 9 t (T.map Value.string)) (h2 : Turned w W1 tv.ownBlock.toList) (h3 : ∀ x ∈ t.ownBlock.toList, x ∈ tv.ownBlock.toList ∨ w.heap.size ≤ x)
    (h4 : Own W2 B 3 s (ints S)) (h5 : Turned W1 W2 sv.ownBlock.toList) (h6 : ∀ x ∈ s.ownBlock.toList, x ∈ sv.ownBlock.toList ∨ W1.heap.size ≤ x) : ShapeInv w B sv tv W2 s t S T := by
  have hz := h2.size
  have m1 := own_mem_lt h0.sizes
  have m2 := own_mem_lt h1
  have hd : ∀ x ∈ t.ownBlock.toList, x ∉ sv.ownBlock.toList := by
    intro x hx hs
    rcases h3 x hx with e | e
    · exact h0.apart x hs e
    · have := (m1 x hs).1
      omega
  refine ⟨h4, own_keptL h1 (fun x hx => h5.block x (m2 x hx).1 (hd x hx)), ?_, ?_, ?_, ?_⟩
  · exact (h2.mono (fun x hx => .inl (List.mem_append.2 (.inr hx)))).trans h5 (fun x hx => .inl (List.mem_append.2 (.inl hx)))
  · intro x hx
    rcases h6 x hx with e | e
    · exact .inl (List.mem_append.2 (.inl e))
    · exact .inr (by omega)
  · intro x hx
    rcases h3 x hx with e | e
    · exact .inl (List.mem_append.2 (.inr e))
    · exact .inr e
  · intro x hx ht
    rcases h6 x hx with e | e
    · exact hd x ht e
    · have := (m2 x ht).1
      omega

set_option maxHeartbeats 1000000 in
set_option maxRecDepth 100000 in
theorem shape_nil (b B : Nat) (sv tv : Value) (S : List Int) (T : List ByteArray) (w : World) (hB : B ≤ w.heap.size) (h0 : w.cell? ⟨b, 0, none⟩ = some (.slice none 0 0)) (HN : Hid (∀ W, Turned w W tv.ownBlock.toList → W.cell? ⟨b, 1, none⟩ = some (.slice none 0 0))) (hi : ShapeInv w B sv tv w sv tv S T) (hlS : S.length ≤ 200000) :
    Calls Try.prog 14 #[.pointer (some ⟨b, 0, none⟩), sv, tv] w (ShapePost w B sv tv (S ++ [-1, 0]) T) := by
  have HI : Hid (ShapeInv w B sv tv w sv tv S T) := hi
  have HT : Hid (w.ownsRow B 9 1 tv (T.map Value.string).length (T.map Value.string)) := hi.strs
  obtain ⟨i0, hi0, hz0, hzs, hzb⟩ := info_parts infoS
  obtain ⟨i1, hi1, hy0, hys, hyb⟩ := info_parts infoI
  clear hi
  go_enter Try.func14, Try.ntmps14
  go_wp2_with fail
  refine same_of (zzkeys b _ w h0) ?_
  go_wp2_with (at_builtin; refine wpList_append_own_none rfl _ _ 22 rfl B 9 i0 1 Try.underlying22 hi0 tv (T.map Value.string).length (T.map Value.string) rfl HT.out rfl ?_)
  have HQ : Hid (Own w B 9 tv (T.map Value.string) ∧ Turned w w tv.ownBlock.toList ∧ ∀ x ∈ tv.ownBlock.toList, x ∈ tv.ownBlock.toList ∨ w.heap.size ≤ x) := ⟨HI.out.strs, Turned.refl _ _, fun x hx => .inl hx⟩
  go_wp2_with fail
  refine same_of (zzleaf_true b w (HN.out w HQ.out.2.1)) ?_
  have O1 : Hid ((w.alloc (.cells #[.int .i64 (-1), .int .i64 0] 3)).ownsRow B 3 1 sv S.length (ints S)) := by
    have h := own_keptL HI.out.sizes (w' := w) (fun x hx => HQ.out.2.1.block x (own_mem_lt HI.out.sizes x hx).1 (HI.out.apart x hx))
    have h' := own_kept (w' := w.alloc (.cells #[.int .i64 (-1), .int .i64 0] 3)) h (fun g hg => Below.heap_alloc _ _ _ (own_block_lt h hg))
    unfold Own ints at h'
    rwa [List.length_map] at h'
  have hB1 : B ≤ w.heap.size := Nat.le_trans hB HQ.out.2.1.size
  go_wp2_with (at_builtin; refine wpList_append_lies _ rfl _ _ 32 rfl B 3 i1 _ 1 8 Try.underlying32 hi1 hy0 hys hyb rfl (by omega) sv S.length (ints S) rfl O1.out ⟨w.heap.size, 0, none⟩ 2 2 [.int .i64 (-1), .int .i64 0] rfl rfl ?ha ?hb (by omega) ?hc ?hd ?he (w.heap.size + 1) ?hf ?_)
  case ha =>
    intro j u hj
    rw [Addr.add_lit, Nat.zero_add, cell_heap (heap_alloc_new w _)]
    rcases j with _ | _ | j
    · simpa using hj
    · simpa using hj
    · simp at hj
  case hb => exact one_ints [(-1), 0]
  case hc => unfold maxLen; omega
  case hd => omega
  case he => simp; omega
  case hf => simp
  intro g2 cap2 W2 hown hgr hat hlt
  have HR : Hid (ShapeInv w B sv tv W2 (.slice (some ⟨g2, 0, none⟩) (S.length + 2) cap2) tv (S ++ [(-1), 0]) T) := by
    refine shape_step HI.out HQ.out.1 HQ.out.2.1 HQ.out.2.2 ?_ ?_ ?_
    · unfold Own
      simpa [ints] using hown
    · exact (Turned.alloc w _ sv.ownBlock.toList).trans (Turned.grown hgr (fun x hx => .inl (by rw [hx]; simp))) (fun x hx => .inl hx)
    · intro x hx
      have hx' : x = g2 := by simpa [Value.ownBlock] using hx
      subst hx'
      rcases hat with e | e
      · exact .inl (by rw [e]; simp)
      · exact .inr (by omega)
  clear hown hgr hat hlt O1 HQ HI
  go_wp2
  go_ret2
  exact ⟨_, _, rfl, HR.out⟩

set_option maxHeartbeats 1000000 in
set_option maxRecDepth 100000 in
theorem shape_row (b B : Nat) (g cap : Nat) (ks : List ByteArray) (sv tv : Value) (S : List Int) (T : List ByteArray) (w : World) (hB : B ≤ w.heap.size) (h0 : w.cell? ⟨b, 0, none⟩ = some (.slice (some ⟨g, 0, none⟩) ks.length cap)) (HN : Hid (∀ W, Turned w W tv.ownBlock.toList → W.cell? ⟨b, 1, none⟩ = some (.slice none 0 0))) (hi : ShapeInv w B sv tv w sv tv S T) (hk : Own w B 9 (.slice (some ⟨g, 0, none⟩) ks.length cap) (ks.map Value.string)) (hlS : S.length ≤ 200000) (hlT : T.length + ks.length ≤ 200000) :
    Calls Try.prog 14 #[.pointer (some ⟨b, 0, none⟩), sv, tv] w (ShapePost w B sv tv (S ++ [-1, (ks.length : Int)]) (T ++ ks)) := by
  have HI : Hid (ShapeInv w B sv tv w sv tv S T) := hi
  have HT : Hid (w.ownsRow B 9 1 tv T.length (T.map Value.string)) := by
    have := hi.strs
    unfold Own at this
    rwa [List.length_map] at this
  have HK : Hid (∀ j u, (ks.map Value.string)[j]? = some u → w.cell? ((⟨g, 0, none⟩ : Addr).add j) = some u) := by
    intro j u hj
    rw [Addr.add_lit, Nat.zero_add]
    exact (own_cell hk hj).1
  clear hk
  obtain ⟨i0, hi0, hz0, hzs, hzb⟩ := info_parts infoS
  obtain ⟨i1, hi1, hy0, hys, hyb⟩ := info_parts infoI
  clear hi
  go_enter Try.func14, Try.ntmps14
  go_wp2_with fail
  refine same_of (zzkeys b _ w h0) ?_
  go_wp2_with (at_builtin; refine wpList_append_own_at w rfl _ _ 22 rfl B 9 i0 _ 1 16 Try.underlying22 hi0 hz0 hzs hzb rfl (by omega) tv T.length (T.map Value.string) rfl HT.out ⟨g, 0, none⟩ ks.length cap (ks.map Value.string) rfl (by rw [List.length_map, Nat.mul_one]) HK.out (one_strings ks) ?hc ?hd hB ?_)
  case hc => unfold maxLen; omega
  case hd => omega
  intro v' W1 hown hgr _ hat
  have HQ : Hid (Own W1 B 9 v' ((T ++ ks).map Value.string) ∧ Turned w W1 tv.ownBlock.toList ∧ ∀ x ∈ v'.ownBlock.toList, x ∈ tv.ownBlock.toList ∨ w.heap.size ≤ x) := by
    refine ⟨?_, Turned.grown hgr (fun x hx => .inl (by rw [hx]; simp)), ?_⟩
    · unfold Own
      simpa using hown
    · intro x hx
      rcases hat with e | e
      · exact .inl (by rwa [e] at hx)
      · right
        rw [e] at hx
        have : x = w.heap.size := by simpa using hx
        omega
  clear hown hgr hat
  go_wp2_with fail
  refine same_of (zzleaf_true b W1 (HN.out W1 HQ.out.2.1)) ?_
  have O1 : Hid ((W1.alloc (.cells #[.int .i64 (-1), .int .i64 (ks.length : Int)] 3)).ownsRow B 3 1 sv S.length (ints S)) := by
    have h := own_keptL HI.out.sizes (w' := W1) (fun x hx => HQ.out.2.1.block x (own_mem_lt HI.out.sizes x hx).1 (HI.out.apart x hx))
    have h' := own_kept (w' := W1.alloc (.cells #[.int .i64 (-1), .int .i64 (ks.length : Int)] 3)) h (fun g hg => Below.heap_alloc _ _ _ (own_block_lt h hg))
    unfold Own ints at h'
    rwa [List.length_map] at h'
  have hB1 : B ≤ W1.heap.size := Nat.le_trans hB HQ.out.2.1.size
  go_wp2_with (at_builtin; refine wpList_append_lies _ rfl _ _ 32 rfl B 3 i1 _ 1 8 Try.underlying32 hi1 hy0 hys hyb rfl (by omega) sv S.length (ints S) rfl O1.out ⟨W1.heap.size, 0, none⟩ 2 2 [.int .i64 (-1), .int .i64 (ks.length : Int)] rfl rfl ?ha ?hb (by omega) ?hc ?hd ?he (W1.heap.size + 1) ?hf ?_)
  case ha =>
    intro j u hj
    rw [Addr.add_lit, Nat.zero_add, cell_heap (heap_alloc_new W1 _)]
    rcases j with _ | _ | j
    · simpa using hj
    · simpa using hj
    · simp at hj
  case hb => exact one_ints [(-1), (ks.length : Int)]
  case hc => unfold maxLen; omega
  case hd => omega
  case he => simp; omega
  case hf => simp
  intro g2 cap2 W2 hown hgr hat hlt
  have HR : Hid (ShapeInv w B sv tv W2 (.slice (some ⟨g2, 0, none⟩) (S.length + 2) cap2) v' (S ++ [(-1), (ks.length : Int)]) (T ++ ks)) := by
    refine shape_step HI.out HQ.out.1 HQ.out.2.1 HQ.out.2.2 ?_ ?_ ?_
    · unfold Own
      simpa [ints] using hown
    · exact (Turned.alloc W1 _ sv.ownBlock.toList).trans (Turned.grown hgr (fun x hx => .inl (by rw [hx]; simp))) (fun x hx => .inl hx)
    · intro x hx
      have hx' : x = g2 := by simpa [Value.ownBlock] using hx
      subst hx'
      rcases hat with e | e
      · exact .inl (by rw [e]; simp)
      · exact .inr (by omega)
  clear hown hgr hat hlt O1 HQ HI
  go_wp2
  go_ret2
  exact ⟨_, _, rfl, HR.out⟩

set_option maxHeartbeats 2000000 in
set_option maxRecDepth 100000 in
theorem shape_inner (b B : Nat) (g cap gc capc n : Nat) (ks : List ByteArray) (bs : Nat → Nat) (sv tv : Value) (S : List Int) (T : List ByteArray) (A : Nat → List Int) (C : Nat → List ByteArray) (w : World) (hB : B ≤ w.heap.size) (h0 : w.cell? ⟨b, 0, none⟩ = some (.slice (some ⟨g, 0, none⟩) ks.length cap))
    (HN : Hid (∀ W, Turned w W tv.ownBlock.toList → W.cell? ⟨b, 1, none⟩ = some (.slice (some ⟨gc, 0, none⟩) n capc))) (hi : ShapeInv w B sv tv w sv tv S T) (hk : Own w B 9 (.slice (some ⟨g, 0, none⟩) ks.length cap) (ks.map Value.string)) (hlS : S.length ≤ 200000) (hlT : T.length + ks.length ≤ 200000) (hn : n ≤ 64)
    (hA : A 0 = S ++ [(n : Int), (ks.length : Int)]) (hC : C 0 = T ++ ks)
    (HC : Hid (∀ i, i < n → ∀ wr, Turned w wr (sv.ownBlock.toList ++ tv.ownBlock.toList) → wr.cell? ⟨gc, i, none⟩ = some (.pointer (some ⟨bs i, 0, none⟩))))
    (IH : Hid (∀ i, i < n → ∀ wr s t, ShapeInv w B sv tv wr s t (A i) (C i) → Calls Try.prog 14 #[.pointer (some ⟨bs i, 0, none⟩), s, t] wr (ShapePost wr B s t (A (i + 1)) (C (i + 1))))) :
    Calls Try.prog 14 #[.pointer (some ⟨b, 0, none⟩), sv, tv] w (ShapePost w B sv tv (A n) (C n)) := by
  have HI : Hid (ShapeInv w B sv tv w sv tv S T) := hi
  have HT : Hid (w.ownsRow B 9 1 tv T.length (T.map Value.string)) := by
    have := hi.strs
    unfold Own at this
    rwa [List.length_map] at this
  have HK : Hid (∀ j u, (ks.map Value.string)[j]? = some u → w.cell? ((⟨g, 0, none⟩ : Addr).add j) = some u) := by
    intro j u hj
    rw [Addr.add_lit, Nat.zero_add]
    exact (own_cell hk hj).1
  have HA : Hid (A 0 = S ++ [(n : Int), (ks.length : Int)] ∧ C 0 = T ++ ks) := ⟨hA, hC⟩
  obtain ⟨i0, hi0, hz0, hzs, hzb⟩ := info_parts infoS
  obtain ⟨i1, hi1, hy0, hys, hyb⟩ := info_parts infoI
  clear hi hk hA hC
  go_enter Try.func14, Try.ntmps14
  go_wp2_with fail
  refine same_of (zzkeys b _ w h0) ?_
  go_wp2_with (at_builtin; refine wpList_append_own_at w rfl _ _ 22 rfl B 9 i0 _ 1 16 Try.underlying22 hi0 hz0 hzs hzb rfl (by omega) tv T.length (T.map Value.string) rfl HT.out ⟨g, 0, none⟩ ks.length cap (ks.map Value.string) rfl (by rw [List.length_map, Nat.mul_one]) HK.out (one_strings ks) ?hc ?hd hB ?_)
  case hc => unfold maxLen; omega
  case hd => omega
  intro v' W1 hown hgr _ hat
  have HQ : Hid (Own W1 B 9 v' ((T ++ ks).map Value.string) ∧ Turned w W1 tv.ownBlock.toList ∧ ∀ x ∈ v'.ownBlock.toList, x ∈ tv.ownBlock.toList ∨ w.heap.size ≤ x) := by
    refine ⟨?_, Turned.grown hgr (fun x hx => .inl (by rw [hx]; simp)), ?_⟩
    · unfold Own
      simpa using hown
    · intro x hx
      rcases hat with e | e
      · exact .inl (by rwa [e] at hx)
      · right
        rw [e] at hx
        have : x = w.heap.size := by simpa using hx
        omega
  clear hown hgr hat
  have c1 := HN.out W1 HQ.out.2.1
  go_wp2_with fail
  refine same_of (zzleaf_false b _ _ _ W1 c1) ?_
  go_wp2_with fail
  refine same_of (zzkids b _ W1 c1) ?_
  have O1 : Hid ((W1.alloc (.cells #[.int .i64 (n : Int), .int .i64 (ks.length : Int)] 3)).ownsRow B 3 1 sv S.length (ints S)) := by
    have h := own_keptL HI.out.sizes (w' := W1) (fun x hx => HQ.out.2.1.block x (own_mem_lt HI.out.sizes x hx).1 (HI.out.apart x hx))
    have h' := own_kept (w' := W1.alloc (.cells #[.int .i64 (n : Int), .int .i64 (ks.length : Int)] 3)) h (fun g hg => Below.heap_alloc _ _ _ (own_block_lt h hg))
    unfold Own ints at h'
    rwa [List.length_map] at h'
  have hB1 : B ≤ W1.heap.size := Nat.le_trans hB HQ.out.2.1.size
  go_wp2_with (at_builtin; refine wpList_append_lies _ rfl _ _ 32 rfl B 3 i1 _ 1 8 Try.underlying32 hi1 hy0 hys hyb rfl (by omega) sv S.length (ints S) rfl O1.out ⟨W1.heap.size, 0, none⟩ 2 2 [.int .i64 (n : Int), .int .i64 (ks.length : Int)] rfl rfl ?ha ?hb (by omega) ?hc ?hd ?he (W1.heap.size + 1) ?hf ?_)
  case ha =>
    intro j u hj
    rw [Addr.add_lit, Nat.zero_add, cell_heap (heap_alloc_new W1 _)]
    rcases j with _ | _ | j
    · simpa using hj
    · simpa using hj
    · simp at hj
  case hb => exact one_ints [(n : Int), (ks.length : Int)]
  case hc => unfold maxLen; omega
  case hd => omega
  case he => simp; omega
  case hf => simp
  intro g2 cap2 W2 hown hgr hat hlt
  have HR : Hid (ShapeInv w B sv tv W2 (.slice (some ⟨g2, 0, none⟩) (S.length + 2) cap2) v' (S ++ [(n : Int), (ks.length : Int)]) (T ++ ks)) := by
    refine shape_step HI.out HQ.out.1 HQ.out.2.1 HQ.out.2.2 ?_ ?_ ?_
    · unfold Own
      simpa [ints] using hown
    · exact (Turned.alloc W1 _ sv.ownBlock.toList).trans (Turned.grown hgr (fun x hx => .inl (by rw [hx]; simp))) (fun x hx => .inl hx)
    · intro x hx
      have hx' : x = g2 := by simpa [Value.ownBlock] using hx
      subst hx'
      rcases hat with e | e
      · exact .inl (by rw [e]; simp)
      · exact .inr (by omega)
  clear hown hgr hat hlt O1 HQ HI
  rw [← HA.out.1, ← HA.out.2] at HR
  clear c1 HN HK HT
  go_wp2
  go_loopw [1, 2, 10] (fun s1 s2 s10 wr => ∃ (i : Nat) (s t : Value), i ≤ n ∧ s = s1 ∧ t = s2 ∧ s10 = .int .i64 i ∧ Hid (ShapeInv w B sv tv wr s t (A i) (C i))) (fun _ _ s10 _ => n - (intOf s10).toNat)
  case atStart => exact ⟨0, _, _, Nat.zero_le _, rfl, rfl, by go_num, HR⟩
  case round =>
    obtain ⟨i, s, t, hi, rfl, rfl, rfl, HH⟩ := hrel
    by_cases hlt : i < n
    · have ck := HC.out i hlt wr HH.out.turned
      have hG : Hid _ := IH.out i hlt wr s t HH.out
      generalize bs i = bc at *
      go_wp2_with fail
      refine Calls.mono hG.out ?_
      rintro e W3 ⟨s', t', rfl, q1⟩
      have HQ : Hid (ShapeInv w B sv tv W3 s' t' (A (i + 1)) (C (i + 1))) := HH.out.trans q1
      clear q1 HH ck hG
      go_wp2
      go_roundw
      case rel => exact ⟨i + 1, s', t', by omega, rfl, rfl, by go_num, HQ⟩
      case measure => simp [intOf]; omega
    · obtain rfl : i = n := by omega
      go_wp2
      go_ret2
      exact ⟨s, t, rfl, HH.out⟩

end Go.Proofs.Qxb6603837a
