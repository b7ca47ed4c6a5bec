/-
  zzParse at the values that Encode writes.
-/
import Derived.Test.Qxb6603837aDoorW2
namespace Go.Proofs.Qxb6603837aDoor
open Go.RowKit

/-- What zzParse hands back. -/
abbrev parsed (op id req : ByteArray) (c : Bool) (rev : Int) (key value : ByteArray) : Ending :=
  .returned (.tuple #[.agg #[.string op, .string id, .string req, .bool c, .int .u64 rev, .string key, .string value], .bool true])

set_option maxRecDepth 100000 in
set_option maxHeartbeats 1000000 in
theorem parse_noop (s op id : ByteArray) (j1 : Nat) (w : World) (hs : s.size ≤ 1048576)
    (hp : ([0, 107, 118, 32] : List UInt8) <+: s.data.toList) (t1 : Tok s.data.toList 4 j1) (h1 : j1 < s.size) (e1 : s.extract 4 j1 = op)
    (t2 : Tok s.data.toList (j1 + 1) s.size) (e2 : s.extract (j1 + 1) s.size = id) (hop : op.toList = [110, 111, 111, 112]) :
    Calls Tryd.prog 6 #[.string s] w fun e w' => e = parsed op id ⟨#[]⟩ false 0 ⟨#[]⟩ ⟨#[]⟩ ∧ Below w.heap.size w w' := by
  have T1 : Hid (Tok s.data.toList 4 j1) := t1
  have T2 : Hid (Tok s.data.toList (j1 + 1) s.size) := t2
  have HP : Hid (([0, 107, 118, 32] : List UInt8) <+: s.data.toList) := hp
  have b1 : 4 ≤ j1 := t1.pj
  have b2 : j1 + 1 ≤ s.size := t2.pj
  clear t1 t2 hp
  go_enter Tryd.func6, Tryd.ntmps6
  go_wp2_with (go_at_call 8; refine (pre_true _ _ _ hs HP.out).mono ?_; rintro e w' ⟨rfl, rfl⟩)
  refine (token_at s 4 j1 _ _ hs T1.out rfl).mono ?_
  rintro e w' ⟨rfl, rfl⟩
  go_wp2_with fail
  refine (token_at s (j1 + 1) s.size _ _ hs T2.out (by omega)).mono ?_
  rintro e w' ⟨rfl, rfl⟩
  go_wp2_with fail
  exact bodyPost_ret (v := .tuple #[.agg #[.string op, .string id, .string ⟨#[]⟩, .bool false, .int .u64 0, .string ⟨#[]⟩, .string ⟨#[]⟩], .bool true]) (by simp [results, Tryd.results6, go_sem]) rfl ⟨rfl, ((Below.refl _ _).alloc (Nat.le_refl _) _).alloc (by simp) _⟩

/-- What stands behind the key's length, as a reader meets it: the key, and for a Put a space and the value. -/
def Tail (s op key value : ByteArray) (q : Nat) : Prop :=
  q + key.size ≤ s.size ∧ s.extract q (q + key.size) = key ∧
  ((op.toList = [112, 117, 116] ∧ (∃ h : q + key.size < s.size, s[q + key.size] = 32) ∧ s.extract (q + key.size + 1) s.size = value) ∨
   ((op.toList == [112, 117, 116]) = false ∧ q + key.size = s.size ∧ value = ⟨#[]⟩))

set_option maxRecDepth 100000 in
set_option maxHeartbeats 2000000 in
theorem parse_plain (s op id key value tok : ByteArray) (j1 j2 j3 : Nat) (w : World) (hs : s.size ≤ 1048576)
    (hp : ([0, 107, 118, 32] : List UInt8) <+: s.data.toList) (t1 : Tok s.data.toList 4 j1) (h1 : j1 < s.size) (e1 : s.extract 4 j1 = op)
    (t2 : Tok s.data.toList (j1 + 1) j2) (h2 : j2 < s.size) (e2 : s.extract (j1 + 1) j2 = id) (hop : (op.toList == [110, 111, 111, 112]) = false)
    (t3 : Tok s.data.toList (j2 + 1) j3) (h3 : j3 < s.size) (e3 : s.extract (j2 + 1) j3 = tok) (hd : tok.data.toList = Lib.decDigits key.size)
    (ht : Tail s op key value (j3 + 1)) :
    Calls Tryd.prog 6 #[.string s] w fun e w' => e = parsed op id ⟨#[]⟩ false 0 key value ∧ Below w.heap.size w w' := by
  have T1 : Hid (Tok s.data.toList 4 j1) := t1
  have T2 : Hid (Tok s.data.toList (j1 + 1) j2) := t2
  have T3 : Hid (Tok s.data.toList (j2 + 1) j3) := t3
  have HP : Hid (([0, 107, 118, 32] : List UInt8) <+: s.data.toList) := hp
  have HD : Hid (tok.data.toList = Lib.decDigits key.size) := hd
  have N1 : Hid (¬ ([114, 101, 113, 61] : List UInt8) <+: tok.data.toList) := by rw [hd]; exact req_not_dec _
  have N2 : Hid (¬ ([105, 102, 61] : List UInt8) <+: tok.data.toList) := by rw [hd]; exact if_not_dec _
  have b1 : 4 ≤ j1 := t1.pj
  have b2 : j1 + 1 ≤ j2 := t2.pj
  have b3 : j2 + 1 ≤ j3 := t3.pj
  have s3 : tok.size ≤ 1048576 := by rw [← e3, ByteArray.size_extract]; omega
  obtain ⟨k1, k2, k3⟩ := ht
  clear t1 t2 t3 hp hd
  rcases k3 with ⟨hput, ⟨hlt, hsp⟩, ev⟩ | ⟨hput, heq, rfl⟩
  · go_enter Tryd.func6, Tryd.ntmps6
    go_wp2_with (go_at_call 8; refine (pre_true _ _ _ hs HP.out).mono ?_; rintro e w' ⟨rfl, rfl⟩)
    refine (token_at s 4 j1 _ _ hs T1.out rfl).mono ?_
    rintro e w' ⟨rfl, rfl⟩
    go_wp2_with fail
    refine (token_at s (j1 + 1) j2 _ _ hs T2.out (by omega)).mono ?_
    rintro e w' ⟨rfl, rfl⟩
    go_wp2_with fail
    refine (token_at s (j2 + 1) j3 _ _ hs T3.out (by omega)).mono ?_
    rintro e w' ⟨rfl, rfl⟩
    go_wp2_with fail
    refine (pre_false _ _ _ s3 (by decide) N1.out).mono ?_
    rintro e w' ⟨rfl, rfl⟩
    go_wp2_with fail
    refine (pre_false _ _ _ s3 (by decide) N2.out).mono ?_
    rintro e w' ⟨rfl, rfl⟩
    go_wp2_with fail
    refine (dec_any _ _ _ s3 HD.out (by omega)).mono ?_
    rintro e w' ⟨rfl, rfl⟩
    go_wp2_with fail
    exact bodyPost_ret (v := .tuple #[.agg #[.string op, .string id, .string ⟨#[]⟩, .bool false, .int .u64 0, .string key, .string value], .bool true]) (by simp [results, Tryd.results6, go_sem]) rfl ⟨rfl, ((Below.refl _ _).alloc (Nat.le_refl _) _).alloc (by simp) _⟩
  · have hq : (((j3 : Nat) : Int) + 1 + (key.size : Int) == (s.size : Int)) = true := by rw [beq_iff_eq]; omega
    clear heq
    go_enter Tryd.func6, Tryd.ntmps6
    go_wp2_with (go_at_call 8; refine (pre_true _ _ _ hs HP.out).mono ?_; rintro e w' ⟨rfl, rfl⟩)
    refine (token_at s 4 j1 _ _ hs T1.out rfl).mono ?_
    rintro e w' ⟨rfl, rfl⟩
    go_wp2_with fail
    refine (token_at s (j1 + 1) j2 _ _ hs T2.out (by omega)).mono ?_
    rintro e w' ⟨rfl, rfl⟩
    go_wp2_with fail
    refine (token_at s (j2 + 1) j3 _ _ hs T3.out (by omega)).mono ?_
    rintro e w' ⟨rfl, rfl⟩
    go_wp2_with fail
    refine (pre_false _ _ _ s3 (by decide) N1.out).mono ?_
    rintro e w' ⟨rfl, rfl⟩
    go_wp2_with fail
    refine (pre_false _ _ _ s3 (by decide) N2.out).mono ?_
    rintro e w' ⟨rfl, rfl⟩
    go_wp2_with fail
    refine (dec_any _ _ _ s3 HD.out (by omega)).mono ?_
    rintro e w' ⟨rfl, rfl⟩
    go_wp2_with fail
    exact bodyPost_ret (v := .tuple #[.agg #[.string op, .string id, .string ⟨#[]⟩, .bool false, .int .u64 0, .string key, .string ⟨#[]⟩], .bool true]) (by simp [results, Tryd.results6, go_sem]) rfl ⟨rfl, ((Below.refl _ _).alloc (Nat.le_refl _) _).alloc (by simp) _⟩

end Go.Proofs.Qxb6603837aDoor
