/-
  insert, at every sound tree; the caller's step: a new root where the old one splits.
-/
import Derived.Test.Qxb6603837aInsM
namespace Go.Proofs.Qxb6603837a
open Go.RowKit

theorem insert_any : ∀ (h B b : Nat) (t : BT h) (fp : List Nat) (k : ByteArray) (w : World) (r : Bool) (lo hi : Option ByteArray), B ≤ w.heap.size → Rep w B h b t fp → fp.Nodup → Good h r lo hi t →
    Calls Try.prog 33 #[.pointer (some ⟨b, 0, none⟩), .string k] w fun e w' => InsPost B h b (insT h t k) fp w e w'
  | 0, B, b, t, fp, k, w, r, lo, hi, hB, hr, hn, g => insert_leaf B b t fp k w hB hr hn g.1 g.2.2.1
  | h + 1, B, b, t, fp, k, w, r, lo, hi, hB, hr, hn, g => by
    obtain ⟨kv, cv, bs, fps, h1, h2, h3, h4, h5, h6, h7, rfl⟩ := hr
    obtain ⟨⟨g1, g2, g3, g4⟩, g5, g6, g7⟩ := g
    have hu := ub_le k t.1
    have hc : ub k t.1 < t.2.length := by omega
    have htc : t.2[ub k t.1]? = some t.2[ub k t.1] := List.getElem?_eq_getElem hc
    have hbc : bs[ub k t.1]? = some bs[ub k t.1] := List.getElem?_eq_getElem (by omega)
    have hfc : fps[ub k t.1]? = some fps[ub k t.1] := List.getElem?_eq_getElem (by omega)
    have H : InN B h b kv cv t.1 t.2 bs fps w := ⟨hB, h2, h1, h3, h4, ⟨h5, h6, h7⟩, g1, g5, g6, hn, g2⟩
    have gc := g4 _ _ htc
    have e : insT (h + 1) t k = upIn (ub k t.1) t.1 t.2 (insT h t.2[ub k t.1] k) := by
      conv => lhs; unfold insT
      rw [htc]
    have ih : ∀ w0, Rep w0 B h bs[ub k t.1] t.2[ub k t.1] fps[ub k t.1] → B ≤ w0.heap.size → (fps[ub k t.1]).Nodup → Calls Try.prog 33 #[.pointer (some ⟨bs[ub k t.1], 0, none⟩), .string k] w0 fun e w' => InsPost B h bs[ub k t.1] (insT h t.2[ub k t.1] k) fps[ub k t.1] w0 e w' :=
      fun w0 hr0 hB0 hn0 => insert_any h B _ _ _ k w0 false _ _ hB0 hr0 hn0 gc
    rw [e]
    generalize insT h t.2[ub k t.1] k = R at *
    obtain ⟨a, t', o⟩ := R
    cases o with
    | none => exact insert_in_none B h b (ub k t.1) _ kv cv t.1 t.2 bs fps _ _ k w a t' H rfl hbc htc hfc ih
    | some p =>
      obtain ⟨s, tr⟩ := p
      exact insert_in_some B h b (ub k t.1) _ kv cv t.1 t.2 bs fps _ _ k w a t' tr s H rfl hbc htc hfc ih

theorem zzinsert_any (h B b : Nat) (t : BT h) (fp : List Nat) (k : ByteArray) (w : World) (r : Bool) (lo hi : Option ByteArray) (hB : B ≤ w.heap.size) (hr : Rep w B h b t fp) (hn : fp.Nodup) (g : Good h r lo hi t) :
    Calls Try.prog 15 #[.pointer (some ⟨b, 0, none⟩), .string k] w fun e w' => InsPost B h b (insT h t k) fp w e w' := by
  have hi' := insert_any h B b t fp k w r lo hi hB hr hn g
  have HI : Hid _ := hi'
  clear hi' hr hn g
  rcases hR : insT h t k with ⟨a, t', o⟩
  rw [hR] at HI
  cases o with
  | none =>
    go_enter Try.func15, Try.ntmps15
    go_wp2_with fail
    refine Calls.mono HI.out ?_
    rintro e W1 ⟨hT, f', h1, h2⟩
    obtain ⟨rfl, q1, q2, q3⟩ := h1 rfl
    have HQ : Hid (Turned w W1 fp ∧ Rep W1 B h b t' f' ∧ f'.Nodup ∧ ∀ x ∈ f', x ∈ fp ∨ w.heap.size ≤ x) := ⟨hT, q1, q2, q3⟩
    clear hT h1 h2 q1 q2 q3
    go_wp2
    go_ret3
    obtain ⟨hT, q1, q2, q3⟩ := HQ.out
    exact ⟨hT, f', fun _ => ⟨rfl, q1, q2, q3⟩, fun s tr e => by cases e⟩
  | some p =>
    obtain ⟨s, tr⟩ := p
    go_enter Try.func15, Try.ntmps15
    go_wp2_with fail
    refine Calls.mono HI.out ?_
    rintro e W1 ⟨hT, f', h1, h2⟩
    obtain ⟨br, fr, rfl, q1, q2, q3, q4⟩ := h2 s tr rfl
    have HQ : Hid (Turned w W1 fp ∧ Rep W1 B h b t' f' ∧ Rep W1 B h br tr fr ∧ (f' ++ fr).Nodup ∧ ∀ x ∈ f' ++ fr, x ∈ fp ∨ w.heap.size ≤ x) := ⟨hT, q1, q2, q3, q4⟩
    clear hT h1 h2 q1 q2 q3 q4
    go_wp2
    go_ret3
    obtain ⟨hT, q1, q2, q3, q4⟩ := HQ.out
    exact ⟨hT, f', (fun h => by cases h), fun s tr e => by cases e; exact ⟨br, fr, rfl, q1, q2, q3, q4⟩⟩
end Go.Proofs.Qxb6603837a
