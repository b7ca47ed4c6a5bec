/-
  zzParse at the values that Encode writes, second part.
-/
import Derived.Test.Qxb6603837aDoorW3
namespace Go.Proofs.Qxb6603837aDoor
open Go.RowKit

set_option maxRecDepth 100000 in
set_option maxHeartbeats 2000000 in
theorem parse_req (s op id key value rt tok req : ByteArray) (j1 j2 j3 j4 : Nat) (w : World) (hs : s.size ≤ 1048576)
    (hp : ([0, 107, 118, 32] : List UInt8) <+: s.data.toList) (t1 : Tok s.data.toList 4 j1) (h1 : j1 < s.size) (e1 : s.extract 4 j1 = op)
    (t2 : Tok s.data.toList (j1 + 1) j2) (h2 : j2 < s.size) (e2 : s.extract (j1 + 1) j2 = id) (hop : (op.toList == [110, 111, 111, 112]) = false)
    (t3 : Tok s.data.toList (j2 + 1) j3) (h3 : j3 < s.size) (e3 : s.extract (j2 + 1) j3 = rt) (hr : rt.data.toList = [114, 101, 113, 61] ++ req.data.toList) (hr0 : req.size ≠ 0)
    (t4 : Tok s.data.toList (j3 + 1) j4) (h4 : j4 < s.size) (e4 : s.extract (j3 + 1) j4 = tok) (hd : tok.data.toList = Lib.decDigits key.size)
    (ht : Tail s op key value (j4 + 1)) :
    Calls Tryd.prog 6 #[.string s] w fun e w' => e = parsed op id req false 0 key value ∧ Below w.heap.size w w' := by
  have T1 : Hid (Tok s.data.toList 4 j1) := t1
  have T2 : Hid (Tok s.data.toList (j1 + 1) j2) := t2
  have T3 : Hid (Tok s.data.toList (j2 + 1) j3) := t3
  have T4 : Hid (Tok s.data.toList (j3 + 1) j4) := t4
  have HP : Hid (([0, 107, 118, 32] : List UInt8) <+: s.data.toList) := hp
  have HD : Hid (tok.data.toList = Lib.decDigits key.size) := hd
  have N2 : Hid (¬ ([105, 102, 61] : List UInt8) <+: tok.data.toList) := by rw [hd]; exact if_not_dec _
  have b1 : 4 ≤ j1 := t1.pj
  have b2 : j1 + 1 ≤ j2 := t2.pj
  have b3 : j2 + 1 ≤ j3 := t3.pj
  have s3 : rt.size ≤ 1048576 := by rw [← e3, ByteArray.size_extract]; omega
  have b4 : j3 + 1 ≤ j4 := t4.pj
  have s4 : tok.size ≤ 1048576 := by rw [← e4, ByteArray.size_extract]; omega
  have R1 : Hid (([114, 101, 113, 61] : List UInt8) <+: rt.data.toList) := by rw [hr]; exact List.prefix_append _ _
  have rz : rt.size = 4 + req.size := by rw [Lib.size_eq, Lib.size_eq, hr]; simp; omega
  have r4 : ((rt.size : Int) == 4) = false := by rw [beq_eq_false_iff_ne]; omega
  have r5 : 4 ≤ rt.size := by omega
  have R2 : rt.extract 4 rt.size = req := behind [114, 101, 113, 61] hr
  obtain ⟨k1, k2, k3⟩ := ht
  clear t1 t2 t3 t4 hp hd hr hr0 rz
  rcases k3 with ⟨hput, ⟨hlt, hsp⟩, ev⟩ | ⟨hput, heq, rfl⟩
  · go_enter Tryd.func6, Tryd.ntmps6
    go_wp2_with (go_at_call 8; refine (pre_true _ _ _ hs HP.out).mono ?_; rintro e w' ⟨rfl, rfl⟩)
    refine (token_at s 4 j1 _ _ hs T1.out rfl).mono ?_
    rintro e w' ⟨rfl, rfl⟩
    go_wp2_with fail
    refine (token_at s (j1 + 1) j2 _ _ hs T2.out (by omega)).mono ?_
    rintro e w' ⟨rfl, rfl⟩
    go_wp2_with fail
    refine (token_at s (j2 + 1) j3 _ _ hs T3.out (by omega)).mono ?_
    rintro e w' ⟨rfl, rfl⟩
    go_wp2_with fail
    refine (pre_true _ _ _ s3 R1.out).mono ?_
    rintro e w' ⟨rfl, rfl⟩
    go_wp2_with fail
    refine (token_at s (j3 + 1) j4 _ _ hs T4.out (by omega)).mono ?_
    rintro e w' ⟨rfl, rfl⟩
    go_wp2_with fail
    refine (pre_false _ _ _ s4 (by decide) N2.out).mono ?_
    rintro e w' ⟨rfl, rfl⟩
    go_wp2_with fail
    refine (dec_any _ _ _ s4 HD.out (by omega)).mono ?_
    rintro e w' ⟨rfl, rfl⟩
    go_wp2_with fail
    exact bodyPost_ret (v := .tuple #[.agg #[.string op, .string id, .string req, .bool false, .int .u64 0, .string key, .string value], .bool true]) (by simp [results, Tryd.results6, go_sem]) rfl ⟨rfl, ((Below.refl _ _).alloc (Nat.le_refl _) _).alloc (by simp) _⟩
  · have hq : (((j4 : Nat) : Int) + 1 + (key.size : Int) == (s.size : Int)) = true := by rw [beq_iff_eq]; omega
    clear heq
    go_enter Tryd.func6, Tryd.ntmps6
    go_wp2_with (go_at_call 8; refine (pre_true _ _ _ hs HP.out).mono ?_; rintro e w' ⟨rfl, rfl⟩)
    refine (token_at s 4 j1 _ _ hs T1.out rfl).mono ?_
    rintro e w' ⟨rfl, rfl⟩
    go_wp2_with fail
    refine (token_at s (j1 + 1) j2 _ _ hs T2.out (by omega)).mono ?_
    rintro e w' ⟨rfl, rfl⟩
    go_wp2_with fail
    refine (token_at s (j2 + 1) j3 _ _ hs T3.out (by omega)).mono ?_
    rintro e w' ⟨rfl, rfl⟩
    go_wp2_with fail
    refine (pre_true _ _ _ s3 R1.out).mono ?_
    rintro e w' ⟨rfl, rfl⟩
    go_wp2_with fail
    refine (token_at s (j3 + 1) j4 _ _ hs T4.out (by omega)).mono ?_
    rintro e w' ⟨rfl, rfl⟩
    go_wp2_with fail
    refine (pre_false _ _ _ s4 (by decide) N2.out).mono ?_
    rintro e w' ⟨rfl, rfl⟩
    go_wp2_with fail
    refine (dec_any _ _ _ s4 HD.out (by omega)).mono ?_
    rintro e w' ⟨rfl, rfl⟩
    go_wp2_with fail
    exact bodyPost_ret (v := .tuple #[.agg #[.string op, .string id, .string req, .bool false, .int .u64 0, .string key, .string ⟨#[]⟩], .bool true]) (by simp [results, Tryd.results6, go_sem]) rfl ⟨rfl, ((Below.refl _ _).alloc (Nat.le_refl _) _).alloc (by simp) _⟩

set_option maxRecDepth 100000 in
set_option maxHeartbeats 2000000 in
theorem parse_if (s op id key value it tok dg : ByteArray) (j1 j2 j3 j4 rev : Nat) (w : World) (hs : s.size ≤ 1048576)
    (hp : ([0, 107, 118, 32] : List UInt8) <+: s.data.toList) (t1 : Tok s.data.toList 4 j1) (h1 : j1 < s.size) (e1 : s.extract 4 j1 = op)
    (t2 : Tok s.data.toList (j1 + 1) j2) (h2 : j2 < s.size) (e2 : s.extract (j1 + 1) j2 = id) (hop : (op.toList == [110, 111, 111, 112]) = false)
    (t3 : Tok s.data.toList (j2 + 1) j3) (h3 : j3 < s.size) (e3 : s.extract (j2 + 1) j3 = it) (hi : it.data.toList = [105, 102, 61] ++ dg.data.toList) (hdg : dg.data.toList = Lib.decDigits rev) (hrev : rev < 18446744073709551616)
    (t4 : Tok s.data.toList (j3 + 1) j4) (h4 : j4 < s.size) (e4 : s.extract (j3 + 1) j4 = tok) (hd : tok.data.toList = Lib.decDigits key.size)
    (ht : Tail s op key value (j4 + 1)) :
    Calls Tryd.prog 6 #[.string s] w fun e w' => e = parsed op id ⟨#[]⟩ true rev key value ∧ Below w.heap.size w w' := by
  have T1 : Hid (Tok s.data.toList 4 j1) := t1
  have T2 : Hid (Tok s.data.toList (j1 + 1) j2) := t2
  have T3 : Hid (Tok s.data.toList (j2 + 1) j3) := t3
  have T4 : Hid (Tok s.data.toList (j3 + 1) j4) := t4
  have HP : Hid (([0, 107, 118, 32] : List UInt8) <+: s.data.toList) := hp
  have HD : Hid (tok.data.toList = Lib.decDigits key.size) := hd
  have b1 : 4 ≤ j1 := t1.pj
  have b2 : j1 + 1 ≤ j2 := t2.pj
  have b3 : j2 + 1 ≤ j3 := t3.pj
  have s3 : it.size ≤ 1048576 := by rw [← e3, ByteArray.size_extract]; omega
  have b4 : j3 + 1 ≤ j4 := t4.pj
  have s4 : tok.size ≤ 1048576 := by rw [← e4, ByteArray.size_extract]; omega
  have N1 : Hid (¬ ([114, 101, 113, 61] : List UInt8) <+: it.data.toList) := by rw [hi]; exact if_no_req _
  have I1 : Hid (([105, 102, 61] : List UInt8) <+: it.data.toList) := by rw [hi]; exact List.prefix_append _ _
  have iz : it.size = 3 + dg.size := by rw [Lib.size_eq, Lib.size_eq, hi]; simp; omega
  have i5 : 3 ≤ it.size := by omega
  have I2 : it.extract 3 it.size = dg := behind [105, 102, 61] hi
  have sdg : dg.size ≤ 1048576 := by omega
  have HG : Hid (dg.data.toList = Lib.decDigits rev) := hdg
  have HV : Hid (rev < 18446744073709551616) := hrev
  obtain ⟨k1, k2, k3⟩ := ht
  clear t1 t2 t3 t4 hp hd hi hdg hrev iz
  rcases k3 with ⟨hput, ⟨hlt, hsp⟩, ev⟩ | ⟨hput, heq, rfl⟩
  · go_enter Tryd.func6, Tryd.ntmps6
    go_wp2_with (go_at_call 8; refine (pre_true _ _ _ hs HP.out).mono ?_; rintro e w' ⟨rfl, rfl⟩)
    refine (token_at s 4 j1 _ _ hs T1.out rfl).mono ?_
    rintro e w' ⟨rfl, rfl⟩
    go_wp2_with fail
    refine (token_at s (j1 + 1) j2 _ _ hs T2.out (by omega)).mono ?_
    rintro e w' ⟨rfl, rfl⟩
    go_wp2_with fail
    refine (token_at s (j2 + 1) j3 _ _ hs T3.out (by omega)).mono ?_
    rintro e w' ⟨rfl, rfl⟩
    go_wp2_with fail
    refine (pre_false _ _ _ s3 (by decide) N1.out).mono ?_
    rintro e w' ⟨rfl, rfl⟩
    go_wp2_with fail
    refine (pre_true _ _ _ s3 I1.out).mono ?_
    rintro e w' ⟨rfl, rfl⟩
    go_wp2_with fail
    refine (dec_any _ _ _ sdg HG.out HV.out).mono ?_
    rintro e w' ⟨rfl, rfl⟩
    go_wp2_with fail
    refine (token_at s (j3 + 1) j4 _ _ hs T4.out (by omega)).mono ?_
    rintro e w' ⟨rfl, rfl⟩
    go_wp2_with fail
    refine (dec_any _ _ _ s4 HD.out (by omega)).mono ?_
    rintro e w' ⟨rfl, rfl⟩
    go_wp2_with fail
    exact bodyPost_ret (v := .tuple #[.agg #[.string op, .string id, .string ⟨#[]⟩, .bool true, .int .u64 rev, .string key, .string value], .bool true]) (by simp [results, Tryd.results6, go_sem]) rfl ⟨rfl, ((Below.refl _ _).alloc (Nat.le_refl _) _).alloc (by simp) _⟩
  · have hq : (((j4 : Nat) : Int) + 1 + (key.size : Int) == (s.size : Int)) = true := by rw [beq_iff_eq]; omega
    clear heq
    go_enter Tryd.func6, Tryd.ntmps6
    go_wp2_with (go_at_call 8; refine (pre_true _ _ _ hs HP.out).mono ?_; rintro e w' ⟨rfl, rfl⟩)
    refine (token_at s 4 j1 _ _ hs T1.out rfl).mono ?_
    rintro e w' ⟨rfl, rfl⟩
    go_wp2_with fail
    refine (token_at s (j1 + 1) j2 _ _ hs T2.out (by omega)).mono ?_
    rintro e w' ⟨rfl, rfl⟩
    go_wp2_with fail
    refine (token_at s (j2 + 1) j3 _ _ hs T3.out (by omega)).mono ?_
    rintro e w' ⟨rfl, rfl⟩
    go_wp2_with fail
    refine (pre_false _ _ _ s3 (by decide) N1.out).mono ?_
    rintro e w' ⟨rfl, rfl⟩
    go_wp2_with fail
    refine (pre_true _ _ _ s3 I1.out).mono ?_
    rintro e w' ⟨rfl, rfl⟩
    go_wp2_with fail
    refine (dec_any _ _ _ sdg HG.out HV.out).mono ?_
    rintro e w' ⟨rfl, rfl⟩
    go_wp2_with fail
    refine (token_at s (j3 + 1) j4 _ _ hs T4.out (by omega)).mono ?_
    rintro e w' ⟨rfl, rfl⟩
    go_wp2_with fail
    refine (dec_any _ _ _ s4 HD.out (by omega)).mono ?_
    rintro e w' ⟨rfl, rfl⟩
    go_wp2_with fail
    exact bodyPost_ret (v := .tuple #[.agg #[.string op, .string id, .string ⟨#[]⟩, .bool true, .int .u64 rev, .string key, .string ⟨#[]⟩], .bool true]) (by simp [results, Tryd.results6, go_sem]) rfl ⟨rfl, ((Below.refl _ _).alloc (Nat.le_refl _) _).alloc (by simp) _⟩

set_option maxRecDepth 100000 in
set_option maxHeartbeats 2000000 in
theorem parse_both (s op id key value rt it tok req dg : ByteArray) (j1 j2 j3 j4 j5 rev : Nat) (w : World) (hs : s.size ≤ 1048576)
    (hp : ([0, 107, 118, 32] : List UInt8) <+: s.data.toList) (t1 : Tok s.data.toList 4 j1) (h1 : j1 < s.size) (e1 : s.extract 4 j1 = op)
    (t2 : Tok s.data.toList (j1 + 1) j2) (h2 : j2 < s.size) (e2 : s.extract (j1 + 1) j2 = id) (hop : (op.toList == [110, 111, 111, 112]) = false)
    (t3 : Tok s.data.toList (j2 + 1) j3) (h3 : j3 < s.size) (e3 : s.extract (j2 + 1) j3 = rt) (hr : rt.data.toList = [114, 101, 113, 61] ++ req.data.toList) (hr0 : req.size ≠ 0)
    (t4 : Tok s.data.toList (j3 + 1) j4) (h4 : j4 < s.size) (e4 : s.extract (j3 + 1) j4 = it) (hi : it.data.toList = [105, 102, 61] ++ dg.data.toList) (hdg : dg.data.toList = Lib.decDigits rev) (hrev : rev < 18446744073709551616)
    (t5 : Tok s.data.toList (j4 + 1) j5) (h5 : j5 < s.size) (e5 : s.extract (j4 + 1) j5 = tok) (hd : tok.data.toList = Lib.decDigits key.size)
    (ht : Tail s op key value (j5 + 1)) :
    Calls Tryd.prog 6 #[.string s] w fun e w' => e = parsed op id req true rev key value ∧ Below w.heap.size w w' := by
  have T1 : Hid (Tok s.data.toList 4 j1) := t1
  have T2 : Hid (Tok s.data.toList (j1 + 1) j2) := t2
  have T3 : Hid (Tok s.data.toList (j2 + 1) j3) := t3
  have T4 : Hid (Tok s.data.toList (j3 + 1) j4) := t4
  have T5 : Hid (Tok s.data.toList (j4 + 1) j5) := t5
  have HP : Hid (([0, 107, 118, 32] : List UInt8) <+: s.data.toList) := hp
  have HD : Hid (tok.data.toList = Lib.decDigits key.size) := hd
  have b1 : 4 ≤ j1 := t1.pj
  have b2 : j1 + 1 ≤ j2 := t2.pj
  have b3 : j2 + 1 ≤ j3 := t3.pj
  have s3 : rt.size ≤ 1048576 := by rw [← e3, ByteArray.size_extract]; omega
  have b4 : j3 + 1 ≤ j4 := t4.pj
  have s4 : it.size ≤ 1048576 := by rw [← e4, ByteArray.size_extract]; omega
  have b5 : j4 + 1 ≤ j5 := t5.pj
  have s5 : tok.size ≤ 1048576 := by rw [← e5, ByteArray.size_extract]; omega
  have R1 : Hid (([114, 101, 113, 61] : List UInt8) <+: rt.data.toList) := by rw [hr]; exact List.prefix_append _ _
  have rz : rt.size = 4 + req.size := by rw [Lib.size_eq, Lib.size_eq, hr]; simp; omega
  have r4 : ((rt.size : Int) == 4) = false := by rw [beq_eq_false_iff_ne]; omega
  have r5 : 4 ≤ rt.size := by omega
  have R2 : rt.extract 4 rt.size = req := behind [114, 101, 113, 61] hr
  have I1 : Hid (([105, 102, 61] : List UInt8) <+: it.data.toList) := by rw [hi]; exact List.prefix_append _ _
  have iz : it.size = 3 + dg.size := by rw [Lib.size_eq, Lib.size_eq, hi]; simp; omega
  have i5 : 3 ≤ it.size := by omega
  have I2 : it.extract 3 it.size = dg := behind [105, 102, 61] hi
  have sdg : dg.size ≤ 1048576 := by omega
  have HG : Hid (dg.data.toList = Lib.decDigits rev) := hdg
  have HV : Hid (rev < 18446744073709551616) := hrev
  obtain ⟨k1, k2, k3⟩ := ht
  clear t1 t2 t3 t4 t5 hp hd hr hr0 rz hi hdg hrev iz
  rcases k3 with ⟨hput, ⟨hlt, hsp⟩, ev⟩ | ⟨hput, heq, rfl⟩
  · go_enter Tryd.func6, Tryd.ntmps6
    go_wp2_with (go_at_call 8; refine (pre_true _ _ _ hs HP.out).mono ?_; rintro e w' ⟨rfl, rfl⟩)
    refine (token_at s 4 j1 _ _ hs T1.out rfl).mono ?_
    rintro e w' ⟨rfl, rfl⟩
    go_wp2_with fail
    refine (token_at s (j1 + 1) j2 _ _ hs T2.out (by omega)).mono ?_
    rintro e w' ⟨rfl, rfl⟩
    go_wp2_with fail
    refine (token_at s (j2 + 1) j3 _ _ hs T3.out (by omega)).mono ?_
    rintro e w' ⟨rfl, rfl⟩
    go_wp2_with fail
    refine (pre_true _ _ _ s3 R1.out).mono ?_
    rintro e w' ⟨rfl, rfl⟩
    go_wp2_with fail
    refine (token_at s (j3 + 1) j4 _ _ hs T4.out (by omega)).mono ?_
    rintro e w' ⟨rfl, rfl⟩
    go_wp2_with fail
    refine (pre_true _ _ _ s4 I1.out).mono ?_
    rintro e w' ⟨rfl, rfl⟩
    go_wp2_with fail
    refine (dec_any _ _ _ sdg HG.out HV.out).mono ?_
    rintro e w' ⟨rfl, rfl⟩
    go_wp2_with fail
    refine (token_at s (j4 + 1) j5 _ _ hs T5.out (by omega)).mono ?_
    rintro e w' ⟨rfl, rfl⟩
    go_wp2_with fail
    refine (dec_any _ _ _ s5 HD.out (by omega)).mono ?_
    rintro e w' ⟨rfl, rfl⟩
    go_wp2_with fail
    exact bodyPost_ret (v := .tuple #[.agg #[.string op, .string id, .string req, .bool true, .int .u64 rev, .string key, .string value], .bool true]) (by simp [results, Tryd.results6, go_sem]) rfl ⟨rfl, ((Below.refl _ _).alloc (Nat.le_refl _) _).alloc (by simp) _⟩
  · have hq : (((j5 : Nat) : Int) + 1 + (key.size : Int) == (s.size : Int)) = true := by rw [beq_iff_eq]; omega
    clear heq
    go_enter Tryd.func6, Tryd.ntmps6
    go_wp2_with (go_at_call 8; refine (pre_true _ _ _ hs HP.out).mono ?_; rintro e w' ⟨rfl, rfl⟩)
    refine (token_at s 4 j1 _ _ hs T1.out rfl).mono ?_
    rintro e w' ⟨rfl, rfl⟩
    go_wp2_with fail
    refine (token_at s (j1 + 1) j2 _ _ hs T2.out (by omega)).mono ?_
    rintro e w' ⟨rfl, rfl⟩
    go_wp2_with fail
    refine (token_at s (j2 + 1) j3 _ _ hs T3.out (by omega)).mono ?_
    rintro e w' ⟨rfl, rfl⟩
    go_wp2_with fail
    refine (pre_true _ _ _ s3 R1.out).mono ?_
    rintro e w' ⟨rfl, rfl⟩
    go_wp2_with fail
    refine (token_at s (j3 + 1) j4 _ _ hs T4.out (by omega)).mono ?_
    rintro e w' ⟨rfl, rfl⟩
    go_wp2_with fail
    refine (pre_true _ _ _ s4 I1.out).mono ?_
    rintro e w' ⟨rfl, rfl⟩
    go_wp2_with fail
    refine (dec_any _ _ _ sdg HG.out HV.out).mono ?_
    rintro e w' ⟨rfl, rfl⟩
    go_wp2_with fail
    refine (token_at s (j4 + 1) j5 _ _ hs T5.out (by omega)).mono ?_
    rintro e w' ⟨rfl, rfl⟩
    go_wp2_with fail
    refine (dec_any _ _ _ s5 HD.out (by omega)).mono ?_
    rintro e w' ⟨rfl, rfl⟩
    go_wp2_with fail
    exact bodyPost_ret (v := .tuple #[.agg #[.string op, .string id, .string req, .bool true, .int .u64 rev, .string key, .string ⟨#[]⟩], .bool true]) (by simp [results, Tryd.results6, go_sem]) rfl ⟨rfl, ((Below.refl _ _).alloc (Nat.le_refl _) _).alloc (by simp) _⟩

end Go.Proofs.Qxb6603837aDoor
