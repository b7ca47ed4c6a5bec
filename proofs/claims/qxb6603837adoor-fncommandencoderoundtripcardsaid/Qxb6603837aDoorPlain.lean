/-
  Plain facts on lists of bytes for the round-trip law. Nothing of the program stands here.
-/
import Derived.Lib.Strings
import Derived.Lib.ItoaNum
namespace Go.Proofs.Qxb6603837aDoor

/-- No byte of l is a space. -/
def nosp (l : List UInt8) : Bool := l.all (fun c => c != 32)

theorem nosp_hit {l : List UInt8} {k : Nat} (hk : k < l.length) (h : l[k] = 32) : nosp l = false := by
  unfold nosp
  rw [List.all_eq_false]
  exact ⟨32, h ▸ List.getElem_mem hk, by decide⟩

theorem nosp_mem {l : List UInt8} (h : nosp l = true) {c : UInt8} (hc : c ∈ l) : c ≠ 32 := by
  unfold nosp at h
  have := List.all_eq_true.1 h c hc
  simpa using this

theorem nosp_of {l : List UInt8} (h : ∀ c ∈ l, c ≠ 32) : nosp l = true := by
  unfold nosp
  rw [List.all_eq_true]
  intro c hc
  simpa using h c hc

theorem take_snoc (l : List UInt8) (k : Nat) (h : k < l.length) : l.take (k + 1) = l.take k ++ [l[k]] := by
  rw [List.take_succ_eq_append_getElem h]

theorem nosp_take_succ {l : List UInt8} {k : Nat} (hk : k < l.length) (h : nosp (l.take k) = true) (h2 : l[k] ≠ 32) : nosp (l.take (k + 1)) = true := by
  rw [take_snoc l k hk]
  refine nosp_of ?_
  intro c hc
  rcases List.mem_append.1 hc with h1 | h1
  · exact nosp_mem h h1
  · rw [List.mem_singleton.1 h1]; exact h2

theorem byte_eq_of_toNat {c : UInt8} (h : ((c.toNat : Int) == 32) = true) : c = 32 := by
  have h' : (c.toNat : Int) = 32 := beq_iff_eq.1 h
  have : c.toNat = 32 := by omega
  exact UInt8.toNat_inj.1 this

theorem byte_ne_of_toNat {c : UInt8} (h : ((c.toNat : Int) == 32) = false) : c ≠ 32 := by
  rintro rfl
  revert h
  decide

/-- The field that begins at p ends at j: no space in between, and a space or the end at j. -/
structure Tok (l : List UInt8) (p j : Nat) : Prop where
  pj : p ≤ j
  jl : j ≤ l.length
  no : ∀ k (h : k < l.length), p ≤ k → k < j → l[k] ≠ 32
  fin : ∀ (h : j < l.length), l[j] = 32

theorem Tok.mid (a t r : List UInt8) (h : nosp t = true) : Tok (a ++ (t ++ 32 :: r)) a.length (a.length + t.length) := by
  refine ⟨by omega, by simp, ?_, ?_⟩
  · intro k hk h1 h2
    rw [List.getElem_append_right h1, List.getElem_append_left (by omega)]
    exact nosp_mem h (List.getElem_mem _)
  · intro hk
    rw [List.getElem_append_right (by omega), List.getElem_append_right (by omega)]
    simp

theorem Tok.last (a t : List UInt8) (h : nosp t = true) : Tok (a ++ t) a.length (a.length + t.length) := by
  refine ⟨by omega, by simp, ?_, ?_⟩
  · intro k hk h1 h2
    rw [List.getElem_append_right h1]
    exact nosp_mem h (List.getElem_mem _)
  · intro hk
    simp at hk

/-- A piece of a string, cut out. -/
theorem cut_eq {s t : ByteArray} {a r : List UInt8} (h : s.data.toList = a ++ (t.data.toList ++ r)) : s.extract a.length (a.length + t.size) = t := by
  have e : (s.extract a.length (a.length + t.size)).data.toList = t.data.toList := by
    rw [Lib.extract_data, h, List.drop_left, Nat.add_sub_cancel_left, Lib.size_eq, List.take_left]
  obtain ⟨⟨x⟩⟩ := t
  generalize s.extract a.length (a.length + (ByteArray.mk ⟨x⟩).size) = y at *
  obtain ⟨⟨z⟩⟩ := y
  simp at e
  rw [e]
end Go.Proofs.Qxb6603837aDoor
