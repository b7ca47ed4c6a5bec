/-
  The scanner's advance and peek.
-/
import Derived.Test.Qxb6603949aRows
import Derived.Test.Qxb6603949aSk1
import Derived.WalkKit
import Derived.ProofKit
import Derived.BigQuiet
import Derived.Below
import Derived.Deep.Draws
import Derived.Laws.Cover3
namespace Go.Proofs.Qxb6603949a
open Go.RowKit
set_option linter.unusedVariables false

theorem cell_heap {w : World} {b : Nat} {cs : Array Value} {T : TypeId} {fr : Nat × Nat} (hb : w.heap[b]? = some (.cells cs T fr)) (j : Nat) : w.cell? ⟨b, j, none⟩ = cs[j]? := by
  simp [World.cell?, hb]
theorem frozen_heap {w : World} {b : Nat} {cs : Array Value} {T : TypeId} (hb : w.heap[b]? = some (.cells cs T (0, 0))) (j : Nat) : w.frozen? ⟨b, j, none⟩ = false := by
  simp [World.frozen?, hb]
theorem heap_setCell_same {w : World} {g o : Nat} {v : Value} {cur : Array Value} {e : TypeId} {fr : Nat × Nat} (h : w.heap[g]? = some (.cells cur e fr)) :
    (w.setCell ⟨g, o, none⟩ v).heap[g]? = some (.cells (cur.setIfInBounds o v) e fr) := by
  simp [World.setCell, Array.getElem?_modify, h]
theorem lt_of_heap {w : World} {b : Nat} {o : Obj} (h : w.heap[b]? = some o) : b < w.heap.size := (Array.getElem?_eq_some_iff.1 h).1
theorem grown_set (w : World) (S o : Nat) (v : Value) : w.grownBy (w.setCell ⟨S, o, none⟩ v) (some S) :=
  ⟨rfl, rfl, rfl, by simp [World.setCell], fun k _ hk => Below.heap_setCell _ _ _ _ (fun e => hk (by rw [e]))⟩
theorem grown_refl (w : World) (row : Option Nat) : w.grownBy w row := ⟨rfl, rfl, rfl, Nat.le_refl _, fun _ _ _ => rfl⟩
theorem grown_trans {a b c : World} {row : Option Nat} (h : a.grownBy b row) (k : b.grownBy c row) : a.grownBy c row :=
  ⟨k.os.trans h.os, k.tape.trans h.tape, k.output.trans h.output, Nat.le_trans h.size k.size, fun i hi hr => (k.block i (Nat.lt_of_lt_of_le hi h.size) hr).trans (h.block i hi hr)⟩

theorem add_s (p : Addr) (t : Nat) : p.add (t + 1) = ⟨p.block, p.off + (t + 1), none⟩ := by
  unfold Addr.add
  simp
theorem add_blk (x : Addr) (i : Nat) : (x.add i).block = x.block := by
  unfold Addr.add
  split <;> rfl

/-- The scanner lies in block S. -/
def ScanAt (w : World) (S : Nat) (v : Value) (o l c : Int) : Prop := w.heap[S]? = some (.cells #[v, .int .i64 o, .int .i64 l, .int .i64 c] 32 (0, 0))

theorem ScanAt.cells {w : World} {S : Nat} {v : Value} {o l c : Int} (h : ScanAt w S v o l c) : w.cell? ⟨S, 0, none⟩ = some v ∧ w.cell? ⟨S, 1, none⟩ = some (.int .i64 o) ∧ w.cell? ⟨S, 2, none⟩ = some (.int .i64 l) ∧ w.cell? ⟨S, 3, none⟩ = some (.int .i64 c) := by
  unfold ScanAt at h
  refine ⟨?_, ?_, ?_, ?_⟩ <;> rw [cell_heap h] <;> rfl
theorem ScanAt.open_ {w : World} {S : Nat} {v : Value} {o l c : Int} (h : ScanAt w S v o l c) (j : Nat) : w.frozen? ⟨S, j, none⟩ = false := by
  unfold ScanAt at h
  exact frozen_heap h j

theorem scan_set {w : World} {S : Nat} {v : Value} {o l c o' : Int} (h : ScanAt w S v o l c) : ScanAt (w.setCell ⟨S, 1, none⟩ (.int .i64 o')) S v o' l c ∧ w.grownBy (w.setCell ⟨S, 1, none⟩ (.int .i64 o')) (some S) := by
  unfold ScanAt at h
  exact ⟨heap_setCell_same h, grown_set _ _ _ _⟩
theorem scan_set2 {w : World} {S : Nat} {v : Value} {o l c l' : Int} (h : ScanAt w S v o l c) : ScanAt (w.setCell ⟨S, 2, none⟩ (.int .i64 l')) S v o l' c ∧ w.grownBy (w.setCell ⟨S, 2, none⟩ (.int .i64 l')) (some S) := by
  unfold ScanAt at h
  exact ⟨heap_setCell_same h, grown_set _ _ _ _⟩
theorem scan_set3 {w : World} {S : Nat} {v : Value} {o l c c' : Int} (h : ScanAt w S v o l c) : ScanAt (w.setCell ⟨S, 3, none⟩ (.int .i64 c')) S v o l c' ∧ w.grownBy (w.setCell ⟨S, 3, none⟩ (.int .i64 c')) (some S) := by
  unfold ScanAt at h
  exact ⟨heap_setCell_same h, grown_set _ _ _ _⟩

def Moved (w : World) (S : Nat) (v : Value) (o : Int) (p : Int × Int) (e : Ending) (w' : World) : Prop := e = .returned (.tuple #[]) ∧ ScanAt w' S v o p.1 p.2 ∧ w.grownBy w' (some S)

theorem bits_all : ∀ k : Fin 256, (bits BinOp.and IntKind.u8 (k.val : Int) 192 != 128) = counts (k.val : Int) := by decide +kernel

theorem bits_counts {b : Int} (h0 : 0 ≤ b) (h1 : b < 256) : (bits BinOp.and IntKind.u8 b 192 != 128) = counts b := by
  have h := bits_all ⟨b.toNat, by omega⟩
  have e : ((b.toNat : Nat) : Int) = b := by omega
  simp only [e] at h
  exact h

set_option maxHeartbeats 1000000 in
set_option maxRecDepth 100000 in
theorem advance13 (S : Nat) (x : Addr) (n cap o : Nat) (l c b : Int) (w : World) (HS : Hid (ScanAt w S (.slice (some x) n cap) o l c)) (ho : o < n) (hn : n ≤ 1048576) (hb : w.cell? (x.add o) = some (.int .u8 b)) (hb0 : 0 ≤ b) (hb1 : b < 256) :
    Calls Try.prog 13 #[.pointer (some ⟨S, 0, none⟩)] w (Moved w S (.slice (some x) n cap) ((o : Int) + 1) (adv b (l, c))) := by
  obtain ⟨c0, c1, c2, c3⟩ := HS.out.cells
  have f1 := HS.out.open_ 1
  have f2 := HS.out.open_ 2
  have f3 := HS.out.open_ 3
  have HSQ : Hid (∀ q, ScanAt ((w.drewN q).setCell ⟨S, 1, none⟩ (.int .i64 ((o : Int) + 1))) S (.slice (some x) n cap) ((o : Int) + 1) l c ∧ w.grownBy ((w.drewN q).setCell ⟨S, 1, none⟩ (.int .i64 ((o : Int) + 1))) (some S)) := by
    intro q
    have h0 : ScanAt (w.drewN q) S (.slice (some x) n cap) o l c := HS.out
    obtain ⟨s1, g1⟩ := scan_set (o' := (o : Int) + 1) h0
    exact ⟨s1, g1.os, g1.tape, g1.output, g1.size, g1.block⟩
  clear HS
  by_cases h10 : b = 10
  · have HP : Hid (∀ q, Moved w S (.slice (some x) n cap) ((o : Int) + 1) (adv b (l, c)) (.returned (.tuple #[])) ((((w.drewN q).setCell ⟨S, 1, none⟩ (.int .i64 ((o : Int) + 1))).setCell ⟨S, 2, none⟩ (.int .i64 (wrap64 (l + 1)))).setCell ⟨S, 3, none⟩ (.int .i64 1))) := by
      intro q
      obtain ⟨s2, g2⟩ := scan_set2 (l' := wrap64 (l + 1)) (HSQ.out q).1
      obtain ⟨s3, g3⟩ := scan_set3 (c' := 1) s2
      have e : adv b (l, c) = (wrap64 (l + 1), 1) := by unfold adv; rw [if_pos h10]
      rw [e]
      exact ⟨rfl, s3, grown_trans (HSQ.out q).2 (grown_trans g2 g3)⟩
    subst h10
    go_enter Try.func13, Try.ntmps13
    go_wp2
    go_quiet (fail)
    go_wp2
    refine bodyPost_end (v := .tuple #[]) (by simp [results, Try.results13, go_sem]) rfl ?_
    exact HP.out _
  · have hne : (b == 10) = false := by
      rw [beq_eq_false_iff_ne]
      exact h10
    have HA : Hid (adv b (l, c) = if counts b = true then (l, wrap64 (c + 1)) else (l, c)) := by
      show adv b (l, c) = _
      unfold adv
      rw [if_neg h10]
    clear h10
    by_cases hc : counts b = true
    · have HP : Hid (∀ q, Moved w S (.slice (some x) n cap) ((o : Int) + 1) (adv b (l, c)) (.returned (.tuple #[])) (((w.drewN q).setCell ⟨S, 1, none⟩ (.int .i64 ((o : Int) + 1))).setCell ⟨S, 3, none⟩ (.int .i64 (wrap64 (c + 1))))) := by
        intro q
        obtain ⟨s3, g3⟩ := scan_set3 (c' := wrap64 (c + 1)) (HSQ.out q).1
        rw [HA.out, if_pos hc]
        exact ⟨rfl, s3, grown_trans (HSQ.out q).2 g3⟩
      have hbit : (bits BinOp.and IntKind.u8 b 192 != 128) = true := by rw [bits_counts hb0 hb1]; exact hc
      clear hc
      go_enter Try.func13, Try.ntmps13
      go_wp2
      go_quiet (fail)
      go_wp2
      refine bodyPost_end (v := .tuple #[]) (by simp [results, Try.results13, go_sem]) rfl ?_
      exact HP.out _
    · have HP : Hid (∀ q, Moved w S (.slice (some x) n cap) ((o : Int) + 1) (adv b (l, c)) (.returned (.tuple #[])) ((w.drewN q).setCell ⟨S, 1, none⟩ (.int .i64 ((o : Int) + 1)))) := by
        intro q
        rw [HA.out, if_neg hc]
        exact ⟨rfl, HSQ.out q⟩
      have hbit : (bits BinOp.and IntKind.u8 b 192 != 128) = false := by rw [bits_counts hb0 hb1]; simpa using hc
      clear hc
      go_enter Try.func13, Try.ntmps13
      go_wp2
      go_quiet (fail)
      go_wp2
      refine bodyPost_end (v := .tuple #[]) (by simp [results, Try.results13, go_sem]) rfl ?_
      exact HP.out _

def Peeked (w : World) (b : Int) (e : Ending) (w' : World) : Prop := e = .returned (.int .u8 b) ∧ w'.heap = w.heap ∧ w'.os = w.os ∧ w'.tape = w.tape ∧ w'.output = w.output

set_option maxRecDepth 100000 in
theorem peek14 (S : Nat) (x : Addr) (n cap o : Nat) (l c : Int) (b : Int) (w : World) (HS : Hid (ScanAt w S (.slice (some x) n cap) o l c)) (ho : o < n) (hn : n ≤ 1048576) (hb : o + 1 < n → w.cell? (x.add (o + 1)) = some (.int .u8 b)) (hb0 : n ≤ o + 1 → b = 0) :
    Calls Try.prog 14 #[.pointer (some ⟨S, 0, none⟩), .int .i64 1] w (Peeked w b) := by
  obtain ⟨c0, c1, c2, c3⟩ := HS.out.cells
  by_cases hlt : o + 1 < n
  · have hb' := hb hlt
    rw [add_s] at hb'
    have ht : ((o : Int) + 1).toNat = o + 1 := by omega
    have hwr : IntKind.i64.wrap ((o : Int) + 1) = (o : Int) + 1 := by
      rw [IntKind.wrap_i64]
      omega
    have hi1 : (o : Int) + 1 < n := by omega
    have hi0 : (0 : Int) ≤ (o : Int) + 1 := by omega
    clear hb hb0
    go_enter Try.func14, Try.ntmps14
    go_wp2
    go_quiet (fail)
    go_wp2
    go_quiet (fail)
    go_wp2
    go_ret
    exact ⟨rfl, rfl, rfl, rfl, rfl⟩
  · obtain rfl := hb0 (by omega)
    clear hb hb0
    go_enter Try.func14, Try.ntmps14
    go_wp2
    go_quiet (fail)
    go_wp2
    go_ret
    exact ⟨rfl, rfl, rfl, rfl, rfl⟩
end Go.Proofs.Qxb6603949a
