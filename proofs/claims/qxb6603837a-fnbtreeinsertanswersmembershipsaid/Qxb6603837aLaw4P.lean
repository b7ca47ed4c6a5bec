/-
  The pieces of FnBtreeInsertAnswersMembership: what each call leaves of the tree and of the sorted set.
-/
import Derived.Test.Qxb6603837aShapeA
import Derived.Test.Qxb6603837aLaw3
namespace Go.Proofs.Qxb6603837a
open Go.RowKit

/-- The tree t and the model of its strings, in blocks of their own. -/
structure BothT (w : World) (B b h : Nat) (t : BT h) (mv : Value) (fp : List Nat) : Prop where
  rep : Rep w B h b t fp
  nodup : fp.Nodup
  good : Good h true none none t
  model : Own w B 9 mv ((flat h t).map Value.string)
  asc : Asc (flat h t)
  apart : ∀ x ∈ mv.ownBlock.toList, x ∉ fp
  size : B ≤ w.heap.size

theorem BothT.both {w : World} {B b h : Nat} {t : BT h} {mv : Value} {fp : List Nat} (k : BothT w B b h t mv fp) : Both w B b mv (flat h t) fp := ⟨⟨h, t, k.rep, k.nodup, k.good, rfl⟩, k.model, k.asc, k.apart, k.size⟩

theorem BothT.turned {w W : World} {B b h : Nat} {t : BT h} {mv : Value} {fp : List Nat} (k : BothT w B b h t mv fp) (ht : Turned w W []) : BothT W B b h t mv fp :=
  ⟨rep_turned k.rep ht (fun x _ e => by simp at e), k.nodup, k.good, own_keptL k.model (fun x hx => ht.block x (own_mem_lt k.model x hx).1 (by simp)), k.asc, k.apart, Nat.le_trans k.size ht.size⟩

def ShapedPost (w : World) (B h : Nat) (t : BT h) (e : Ending) (w' : World) : Prop :=
  ∃ s u, e = .returned (.tuple #[s, u]) ∧ Own w' B 3 s (ints (shapeS h t)) ∧ Own w' B 9 u ((shapeT h t).map Value.string) ∧ Turned w w' [] ∧ (∀ x ∈ s.ownBlock.toList, w.heap.size ≤ x) ∧ ∀ x ∈ u.ownBlock.toList, w.heap.size ≤ x

theorem shape_both {w : World} {B b h : Nat} {t : BT h} {mv : Value} {fp : List Nat} (k : BothT w B b h t mv fp) (hl : (flat h t).length ≤ 16385) : Calls Try.prog 14 #[.pointer (some ⟨b, 0, none⟩), .slice none 0 0, .slice none 0 0] w (ShapedPost w B h t) := by
  obtain ⟨b1, b2⟩ := shape_bound h true none none t k.good
  refine (shape_any h B b t fp w true none none (.slice none 0 0) (.slice none 0 0) [] [] k.size k.rep k.good ⟨⟨rfl, .inl ⟨rfl, rfl⟩⟩, ⟨rfl, .inl ⟨rfl, rfl⟩⟩, Turned.refl _ _, (fun x hx => by simp [Value.ownBlock] at hx), (fun x hx => by simp [Value.ownBlock] at hx), (fun x hx => by simp [Value.ownBlock] at hx)⟩ (fun x hx => by simp [Value.ownBlock] at hx) (by simp; omega) (by simp; omega)).mono ?_
  rintro e w' ⟨s, u, rfl, i1, i2, i3, i4, i5, i6⟩
  refine ⟨s, u, rfl, by simpa using i1, by simpa using i2, i3, ?_, ?_⟩
  · intro x hx
    rcases i4 x hx with e | e
    · simp [Value.ownBlock] at e
    · exact e
  · intro x hx
    rcases i5 x hx with e | e
    · simp [Value.ownBlock] at e
    · exact e

def HeldPost (w : World) (B b h : Nat) (t : BT h) (mv : Value) (fp : List Nat) (e : Ending) (w' : World) : Prop :=
  e = .returned (.tuple #[.bool false, .pointer none, .string ⟨#[]⟩]) ∧ ∃ fp', BothT w' B b h t mv fp' ∧ Turned w w' fp

theorem insert_held {w : World} {B b h : Nat} {t : BT h} {mv : Value} {fp : List Nat} (k : BothT w B b h t mv fp) (p : ByteArray) (hh : has p (flat h t) = true) : Calls Try.prog 15 #[.pointer (some ⟨b, 0, none⟩), .string p] w (HeldPost w B b h t mv fp) := by
  have hz := zzinsert_any h B b t fp p w true none none k.size k.rep k.nodup k.good
  rw [ins_held h true none none t p k.good hh] at hz
  refine hz.mono ?_
  rintro e w' ⟨hT, f', h1, _⟩
  obtain ⟨rfl, q1, q2, q3⟩ := h1 rfl
  have hm := own_mem_lt k.model
  refine ⟨rfl, f', ⟨q1, q2, k.good, own_keptL k.model (fun x hx => hT.block x (hm x hx).1 (k.apart x hx)), k.asc, ?_, Nat.le_trans k.size hT.size⟩, hT⟩
  intro x hx hf
  rcases q3 x hf with e | e
  · exact k.apart x hx e
  · have := (hm x hx).1
    omega

/-- The tree as the caller leaves it behind an insert of a new string. -/
def Grown' (w : World) (B b : Nat) (m : List ByteArray) (fp : List Nat) (w' : World) : Prop := ∃ fp', TreeFp w' B b m fp' ∧ Turned w w' fp ∧ ∀ x ∈ fp', x ∈ fp ∨ w.heap.size ≤ x

def NewPost (w : World) (B b h : Nat) (t : BT h) (fp : List Nat) (p : ByteArray) (e : Ending) (w' : World) : Prop :=
  (e = .returned (.tuple #[.bool true, .pointer none, .string ⟨#[]⟩]) ∧ Grown' w B b (put p (flat h t)) fp w') ∨
  ∃ (br : Nat) (s : ByteArray), e = .returned (.tuple #[.bool true, .pointer (some ⟨br, 0, none⟩), .string s]) ∧
    ∀ W, W = ((w'.alloc (.cells #[.string s] 9)).alloc (.cells #[.pointer (some ⟨b, 0, none⟩), .pointer (some ⟨br, 0, none⟩)] 25)).alloc (.cells #[.slice (some ⟨w'.heap.size, 0, none⟩) 1 1, .slice (some ⟨w'.heap.size + 1, 0, none⟩) 2 2] 60) → Grown' w B (w'.heap.size + 2) (put p (flat h t)) fp W

theorem insert_new {w : World} {B b h : Nat} {t : BT h} {mv : Value} {fp : List Nat} (k : BothT w B b h t mv fp) (p : ByteArray) (hh : has p (flat h t) = false) : Calls Try.prog 15 #[.pointer (some ⟨b, 0, none⟩), .string p] w (NewPost w B b h t fp p) := by
  have hz := zzinsert_any h B b t fp p w true none none k.size k.rep k.nodup k.good
  have hg := ins_good h true none none t p k.good ⟨(fun a ha => by cases ha), fun b hb => by cases hb⟩
  have hput : put p (flat h t) = ins p (flat h t) := by unfold put; rw [hh]; rfl
  rcases hR : insT h t p with ⟨a, t', o⟩
  rw [hR] at hz hg
  obtain ⟨g1, g2, g3⟩ := hg
  have g1' : a = true := by
    have : a = !has p (flat h t) := g1
    rw [this, hh]
    rfl
  subst g1'
  refine hz.mono ?_
  rintro e w' ⟨hT, f', h1, h2⟩
  cases o with
  | none =>
    obtain ⟨rfl, q1, q2, q3⟩ := h1 rfl
    obtain ⟨g4, g5⟩ := g2 rfl
    exact .inl ⟨rfl, f', ⟨h, t', q1, q2, g4, g5⟩, hT, q3⟩
  | some pr =>
    obtain ⟨s, tr⟩ := pr
    obtain ⟨g4, g5, _, _, g6, g7⟩ := g3 s tr rfl
    obtain ⟨br, fr, rfl, q1, q2, q3, q4⟩ := h2 s tr rfl
    refine .inr ⟨br, s, rfl, ?_⟩
    rintro W rfl
    have hz1 := hT.size
    have hks := k.size
    have htr := newroot_tree (by omega) q1 q2 q3 g4 g5
    refine ⟨_, by rw [hput, ← g7]; exact htr, ?_, ?_⟩
    · exact ((hT.trans (Turned.alloc _ _ fp) (fun x hx => .inl hx)).trans (Turned.alloc _ _ fp) (fun x hx => .inl hx)).trans (Turned.alloc _ _ fp) (fun x hx => .inl hx)
    · intro x hx
      rcases List.mem_cons.1 hx with rfl | hx
      · right; omega
      · rcases List.mem_append.1 hx with hx | hx
        · right; have := List.mem_singleton.1 hx; omega
        · rcases List.mem_append.1 hx with hx | hx
          · right; have := List.mem_singleton.1 hx; omega
          · exact q4 x hx

theorem bytes12_zero (a : Option Addr) (c : Nat) (p : ByteArray) (w : World) : Calls Try.prog 12 #[.slice a 0 c, .string p] w (SomeBool w) := by
  by_cases hp : 1048576 < p.size
  · go_enter Try.func12, Try.ntmps12
    go_wp2
    go_loop [5, 6] (fun a b => a = .int .i64 0 ∧ b = .int .i64 0) (fun _ _ => 0)
    case atStart => exact ⟨rfl, rfl⟩
    case round =>
      obtain ⟨rfl, rfl⟩ := hrel
      go_wp2
      go_ret
      exact ⟨false, rfl, rfl⟩
  · go_enter Try.func12, Try.ntmps12
    go_wp2
    go_loop [5, 6] (fun a b => a = .int .i64 0 ∧ b = .int .i64 0) (fun _ _ => 0)
    case atStart => exact ⟨rfl, rfl⟩
    case round =>
      obtain ⟨rfl, rfl⟩ := hrel
      go_wp2
      go_ret
      exact ⟨true, rfl, rfl⟩

set_option maxHeartbeats 1000000 in
set_option maxRecDepth 100000 in
theorem bytes12_row (x : Addr) (cap : Nat) (ks : List ByteArray) (p : ByteArray) (w : World) (HC : Hid (∀ i (hi : i < ks.length), w.cell? (x.add i) = some (.string ks[i]))) :
    Calls Try.prog 12 #[.slice (some x) ks.length cap, .string p] w (SomeBool w) := by
  by_cases hn : 1048576 < ks.length
  · go_enter Try.func12, Try.ntmps12
    go_wp2
    go_ret
    exact ⟨false, rfl, rfl⟩
  · go_enter Try.func12, Try.ntmps12
    go_wp2
    go_loop [5, 6] (fun a b => ∃ i T : Nat, a = .int .i64 T ∧ b = .int .i64 i ∧ i ≤ ks.length ∧ T ≤ 1048576) (fun _ b => ks.length - (intOf b).toNat)
    case atStart => exact ⟨0, ks.length, by go_num, by go_num, Nat.zero_le _, by omega⟩
    case round =>
      obtain ⟨i, T, rfl, rfl, hi, hT⟩ := hrel
      by_cases hlt : i < ks.length
      · have hc := HC.out i hlt
        generalize ks[i] = X at *
        by_cases hX : 1048576 < X.size
        · go_wp2
          go_ret
          exact ⟨false, rfl, rfl⟩
        · by_cases hS : 1048576 < T + X.size
          · go_wp2
            go_ret
            exact ⟨false, rfl, rfl⟩
          · go_wp2
            go_round
            case rel => exact ⟨i + 1, T + X.size, by go_num, by go_num, by omega, by omega⟩
            case measure => simp [intOf]; omega
      · obtain rfl : i = ks.length := by omega
        by_cases hp : 1048576 < p.size
        · go_wp2
          go_ret
          exact ⟨false, rfl, rfl⟩
        · by_cases hS : 1048576 < T + p.size
          · go_wp2
            go_ret
            exact ⟨false, rfl, rfl⟩
          · go_wp2
            go_ret
            exact ⟨true, rfl, rfl⟩
end Go.Proofs.Qxb6603837a
