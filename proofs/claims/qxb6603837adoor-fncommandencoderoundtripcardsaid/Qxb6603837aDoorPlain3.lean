/-
  The value that Encode writes, as a plain list of bytes; and its fields, one behind the other.
-/
import Derived.Test.Qxb6603837aDoorPlain2
namespace Go.Proofs.Qxb6603837aDoor

def noopB : List UInt8 := [110, 111, 111, 112]
def putB : List UInt8 := [112, 117, 116]
def preB : List UInt8 := [0, 107, 118, 32]
def reqB : List UInt8 := [114, 101, 113, 61]
def ifB : List UInt8 := [105, 102, 61]

/-- From the key's length on. -/
def encTail (op key value : List UInt8) : List UInt8 :=
  Lib.decDigits key.length ++ 32 :: (key ++ (if op = putB then 32 :: value else []))
def encIf (c : Bool) (rev : Nat) (r : List UInt8) : List UInt8 := if c = true then 32 :: (ifB ++ (Lib.decDigits rev ++ r)) else r
def encReq (req r : List UInt8) : List UInt8 := if req = [] then r else 32 :: (reqB ++ (req ++ r))
/-- The value of the log that carries a command. -/
def enc (op id req key value : List UInt8) (c : Bool) (rev : Nat) : List UInt8 :=
  preB ++ (op ++ 32 :: (id ++ (if op = noopB then [] else encReq req (encIf c rev (32 :: encTail op key value)))))

def mk (l : List UInt8) : ByteArray := ⟨l.toArray⟩
theorem mk_list (l : List UInt8) : (mk l).data.toList = l := rfl
theorem mk_size (l : List UInt8) : (mk l).size = l.length := by rw [Lib.size_eq, mk_list]

/-- One field that a space closes. -/
theorem field {s t : ByteArray} {a r : List UInt8} {p : Nat} (h : s.data.toList = a ++ (t.data.toList ++ 32 :: r)) (hp : a.length = p) (hn : nosp t.data.toList = true) :
    Tok s.data.toList p (p + t.size) ∧ p + t.size < s.size ∧ s.extract p (p + t.size) = t ∧
      s.data.toList = (a ++ (t.data.toList ++ [32])) ++ r ∧ (a ++ (t.data.toList ++ [32])).length = p + t.size + 1 := by
  subst hp
  refine ⟨?_, ?_, cut_eq h, by rw [h]; simp, by rw [Lib.size_eq, List.length_append, List.length_append, List.length_singleton]; omega⟩
  · rw [h, Lib.size_eq]
    exact Tok.mid _ _ _ hn
  · rw [Lib.size_eq, Lib.size_eq, h]
    simp

/-- The last field. -/
theorem field_end {s t : ByteArray} {a : List UInt8} {p : Nat} (h : s.data.toList = a ++ t.data.toList) (hp : a.length = p) (hn : nosp t.data.toList = true) :
    Tok s.data.toList p s.size ∧ s.extract p s.size = t := by
  subst hp
  have e : s.size = a.length + t.size := by rw [Lib.size_eq, Lib.size_eq, h]; simp
  rw [e]
  refine ⟨?_, ?_⟩
  · rw [h, Lib.size_eq]
    exact Tok.last _ _ hn
  · exact cut_eq (r := []) (by rw [h]; simp)

theorem nosp_append {a b : List UInt8} (ha : nosp a = true) (hb : nosp b = true) : nosp (a ++ b) = true := by
  refine nosp_of ?_
  intro c hc
  rcases List.mem_append.1 hc with h | h
  · exact nosp_mem ha h
  · exact nosp_mem hb h

theorem enc_len (op id req key value : List UInt8) (c : Bool) (rev : Nat) (hrev : rev < 18446744073709551616) (hk : key.length < 18446744073709551616) :
    (enc op id req key value c rev).length ≤ op.length + id.length + req.length + key.length + value.length + 64 := by
  have n1 : (Lib.decDigits rev).length ≤ 20 := by
    rw [Lib.decDigits_length]
    rcases Nat.eq_zero_or_pos rev with h | h
    · subst h; rw [Lib.nDigits_small (by decide)]; decide
    · have := Lib.numDigits_eq rev h hrev
      split at this <;> omega
  have n2 : (Lib.decDigits key.length).length ≤ 20 := by
    rw [Lib.decDigits_length]
    rcases Nat.eq_zero_or_pos key.length with h | h
    · rw [h, Lib.nDigits_small (by decide)]; decide
    · have := Lib.numDigits_eq key.length h hk
      split at this <;> omega
  have h1 : (encTail op key value).length ≤ key.length + value.length + 22 := by
    unfold encTail
    split <;> simp <;> omega
  have h2 : (encIf c rev (32 :: encTail op key value)).length ≤ key.length + value.length + 23 + 24 := by
    unfold encIf ifB
    split <;> simp <;> omega
  have h3 : (encReq req (encIf c rev (32 :: encTail op key value))).length ≤ req.length + 5 + (key.length + value.length + 23 + 24) := by
    unfold encReq reqB
    split
    · omega
    · simp
      omega
  unfold enc
  split <;> simp [preB] <;> omega
end Go.Proofs.Qxb6603837aDoor
