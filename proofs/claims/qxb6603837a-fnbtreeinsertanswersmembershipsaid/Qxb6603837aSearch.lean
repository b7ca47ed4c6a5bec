/-
  slices.BinarySearch at []string, over this program. Turned to this program after the kit's own walk.
-/
import Derived.Test.Qxb6603837aOwn
import Derived.Test.Qxb6603837aPlain
import Derived.Shelf.Spec.SearchS
set_option linter.unusedVariables false
set_option linter.unusedSimpArgs false
namespace Go.Proofs.Qxb6603837a
open Go.Shelf Go.RowKit Go.Lib

set_option maxHeartbeats 1000000 in
theorem cmpNaN (x : ByteArray) (w : World) : Calls Try.prog 60 #[.string x] w fun e w' => e = .returned (.bool false) ∧ w' = w := by
  go_enter Try.func60, Try.ntmps60
  go_wp2
  go_ret
  exact ⟨by simp, rfl⟩

set_option maxHeartbeats 1000000 in
theorem slNaN (x : ByteArray) (w : World) : Calls Try.prog 56 #[.string x] w fun e w' => e = .returned (.bool false) ∧ w' = w := by
  go_enter Try.func56, Try.ntmps56
  go_wp2
  go_ret
  exact ⟨by simp, rfl⟩

set_option maxHeartbeats 1000000 in
theorem cmpLess (x y : ByteArray) (w : World) : Calls Try.prog 55 #[.string x, .string y] w fun e w' => e = .returned (.bool (Op.bytesLess x.toList y.toList)) ∧ w' = w := by
  go_enter Try.func55, Try.ntmps55
  go_wp2_with (go_at_call 60; refine (cmpNaN _ _).mono ?_; rintro e w' ⟨rfl, rfl⟩)
  go_ret
  exact ⟨rfl, rfl⟩

set_option maxHeartbeats 4000000 in
set_option maxRecDepth 1000000 in
theorem bs_any (b off n c : Nat) (Sx : Nat → ByteArray) (x : ByteArray) (w : World) (hbig : n < 4611686018427387904) (hc : ∀ j, j < n → w.cell? ⟨b, off + j, none⟩ = some (.string (Sx j))) :
    Calls Try.prog 43 #[.slice (some ⟨b, off, none⟩) n c, .string x] w fun e w' =>
      e = .returned (.tuple #[.int .i64 (Lib.bsGo (fun t => Op.bytesLess (Sx t).toList x.toList) n 0 n : Nat), .bool (decide (Lib.bsGo (fun t => Op.bytesLess (Sx t).toList x.toList) n 0 n < n ∧ Sx (Lib.bsGo (fun t => Op.bytesLess (Sx t).toList x.toList) n 0 n) = x))]) ∧ ∃ q, w' = w.drewN q := by
  obtain ⟨I, hI⟩ : ∃ I, Lib.bsGo (fun t => Op.bytesLess (Sx t).toList x.toList) n 0 n = I := ⟨_, rfl⟩
  rw [hI]
  go_enter Try.func43, Try.ntmps43
  go_wp2
  go_loopg [7, 8] n (fun g s7 s8 wr => ∃ lo hi q : Nat, s7 = .int .i64 lo ∧ s8 = .int .i64 hi ∧ lo ≤ hi ∧ hi ≤ n ∧ hi - lo ≤ g ∧ wr = w.drewN q ∧ Lib.bsGo (fun t => Op.bytesLess (Sx t).toList x.toList) g lo hi = I)
  case atStart => exact ⟨0, n, 0, rfl, rfl, Nat.zero_le _, Nat.le_refl _, by omega, rfl, hI⟩
  case round =>
    obtain ⟨lo, hi, q, rfl, rfl, hlh, hin, hg, rfl, hb⟩ := hrel
    by_cases hlt : lo < hi
    · have cm : w.cell? ⟨b, off + (lo + hi) / 2, none⟩ = some (.string (Sx ((lo + hi) / 2))) := hc _ (by omega)
      clear hc
      obtain ⟨g', rfl⟩ : ∃ g', gk = g' + 1 := ⟨gk - 1, by omega⟩
      simp only [Lib.bsGo, hlt, if_true] at hb
      obtain ⟨y, hy⟩ : ∃ y, Sx ((lo + hi) / 2) = y := ⟨_, rfl⟩
      rw [hy] at cm
      simp only [hy] at hb
      cases hyx : Op.bytesLess y.toList x.toList <;> simp only [hyx, if_true, Bool.false_eq_true, if_false] at hb
      · go_wp2_with (first | (go_at_call 55; refine (cmpLess _ _ _).mono ?_; rintro e w' ⟨rfl, rfl⟩) | (go_at_call 56; refine (slNaN _ _).mono ?_; rintro e w' ⟨rfl, rfl⟩))
        go_roundg ((lo + hi) / 2 - lo)
        case measure => omega
        case rel => exact ⟨lo, (lo + hi) / 2, _, rfl, by rw [show ((lo : Int) + (hi : Int)) / 2 = (((lo + hi) / 2 : Nat) : Int) by omega], by omega, by omega, Nat.le_refl _, rfl, by rw [← hb]; exact Lib.bsGo_fuel _ _ _ _ _ (Nat.le_refl _) (by omega)⟩
      · go_wp2_with (first | (go_at_call 55; refine (cmpLess _ _ _).mono ?_; rintro e w' ⟨rfl, rfl⟩) | (go_at_call 56; refine (slNaN _ _).mono ?_; rintro e w' ⟨rfl, rfl⟩))
        go_roundg (hi - ((lo + hi) / 2 + 1))
        case measure => omega
        case rel => exact ⟨(lo + hi) / 2 + 1, hi, _, by rw [show ((lo : Int) + (hi : Int)) / 2 + 1 = (((lo + hi) / 2 + 1 : Nat) : Int) by omega], rfl, by omega, hin, Nat.le_refl _, rfl, by rw [← hb]; exact Lib.bsGo_fuel _ _ _ _ _ (Nat.le_refl _) (by omega)⟩
    · have : hi = lo := by omega
      subst this
      have hIe : I = hi := by
        rw [← hb]
        cases gk <;> simp [Lib.bsGo]
      by_cases hn : hi < n
      · have cl : w.cell? ⟨b, off + hi, none⟩ = some (.string (Sx hi)) := hc _ hn
        clear hc hb hI
        obtain ⟨y, hy⟩ : ∃ y, Sx hi = y := ⟨_, rfl⟩
        rw [hy] at cl
        by_cases hyx : y = x
        · go_wp2_with (first | (go_at_call 55; refine (cmpLess _ _ _).mono ?_; rintro e w' ⟨rfl, rfl⟩) | (go_at_call 56; refine (slNaN _ _).mono ?_; rintro e w' ⟨rfl, rfl⟩))
          go_ret2
          refine ⟨?_, _, rfl⟩
          try rw [hIe]
          rw [hy, decide_eq_true (show hi < n ∧ y = x from ⟨hn, hyx⟩)]
          first | rfl | simp [*]
        · have hne : (y.toList == x.toList) = false := by
            rw [beq_eq_false_iff_ne]
            intro h
            apply hyx
            rw [Lib.toList_data, Lib.toList_data] at h
            cases y with
            | mk yd => cases x with
              | mk xd => exact congrArg ByteArray.mk (Array.toList_inj.1 h)
          go_wp2_with (first | (go_at_call 55; refine (cmpLess _ _ _).mono ?_; rintro e w' ⟨rfl, rfl⟩) | (go_at_call 56; refine (slNaN _ _).mono ?_; rintro e w' ⟨rfl, rfl⟩))
          all_goals
            (go_ret2
             refine ⟨?_, _, rfl⟩
             try rw [hIe]
             rw [hy, decide_eq_false (show ¬ (hi < n ∧ y = x) from fun h => hyx h.2)]
             first | rfl | simp [*])
      · clear hc hb hI
        go_wp2_with (first | (go_at_call 55; refine (cmpLess _ _ _).mono ?_; rintro e w' ⟨rfl, rfl⟩) | (go_at_call 56; refine (slNaN _ _).mono ?_; rintro e w' ⟨rfl, rfl⟩))
        go_ret2
        refine ⟨?_, _, rfl⟩
        try rw [hIe]
        rw [decide_eq_false (show ¬ (hi < n ∧ Sx hi = x) from fun h => hn h.1)]
        first | rfl | simp [*]

set_option maxHeartbeats 1000000 in
set_option maxRecDepth 1000000 in
theorem bs_empty (a : Option Addr) (c : Nat) (x : ByteArray) (w : World) :
    Calls Try.prog 43 #[.slice a 0 c, .string x] w fun e w' => e = .returned (.tuple #[.int .i64 0, .bool false]) ∧ w' = w := by
  go_enter Try.func43, Try.ntmps43
  go_wp2
  go_loop [7, 8] (fun s7 s8 => s7 = .int .i64 0 ∧ s8 = .int .i64 0) (fun _ _ => 0)
  case atStart => exact ⟨rfl, rfl⟩
  case round =>
    obtain ⟨rfl, rfl⟩ := hrel
    go_wp2
    go_ret2
    exact ⟨rfl, rfl⟩


/-- Of an owned row of ascending strings: where the key belongs, and whether it is there. -/
theorem bs_own (B : Nat) (v : Value) (ks : List ByteArray) (k : ByteArray) (w : World) (ho : Own w B 9 v (ks.map Value.string)) (ha : Asc ks) (hl : ks.length ≤ 100000) :
    Calls Try.prog 43 #[v, .string k] w fun e w' => e = .returned (.tuple #[.int .i64 (lb k ks : Nat), .bool (has k ks)]) ∧ ∃ q, w' = w.drewN q := by
  rcases own_open ho with ⟨rfl, hk⟩ | ⟨g, cap, cur, rfl, hBg, hg, hn, hm, hs, hc⟩
  · obtain rfl : ks = [] := by simpa using hk
    refine (bs_empty none 0 k w).mono ?_
    rintro e w' ⟨rfl, rfl⟩
    exact ⟨by simp [lb, has], 0, rfl⟩
  · rw [List.length_map]
    refine (bs_any g 0 ks.length cap (fun j => ks.getD j ⟨#[]⟩) k w (by omega) ?_).mono ?_
    · intro j hj
      rw [Nat.zero_add, cell_heap hg, hc j (by simpa using hj)]
      simp [List.getD, hj]
    · rintro e w' ⟨rfl, q, rfl⟩
      have hb : Lib.bsGo (fun t => Op.bytesLess (ks.getD t ⟨#[]⟩).toList k.toList) ks.length 0 ks.length = lb k ks := by
        have hcut : ∀ (less less' : Nat → Bool), (∀ t, t < ks.length → less t = less' t) → ∀ f lo hi, hi ≤ ks.length → Lib.bsGo less f lo hi = Lib.bsGo less' f lo hi := by
          intro less less' he f
          induction f with
          | zero => intro lo hi _; rfl
          | succ f ih =>
            intro lo hi hh
            unfold Lib.bsGo
            by_cases hlt : lo < hi
            · rw [if_pos hlt, if_pos hlt, he _ (by omega), ih _ _ hh, ih _ _ (by omega)]
            · rw [if_neg hlt, if_neg hlt]
        rw [hcut _ (fun t => decide (t < lb k ks)) ?_ _ _ _ (Nat.le_refl _)]
        · exact Lib.bsGo_spec _ (lb k ks) (fun t ht => by simpa using ht) (fun t ht => by simpa using ht) _ _ _ (by omega) (by omega) (lb_le k ks)
        · intro t ht
          have e : ks.getD t ⟨#[]⟩ = ks[t] := by simp [List.getD, ht]
          show lt (ks.getD t ⟨#[]⟩) k = _
          rw [e]
          by_cases h : t < lb k ks
          · rw [lb_below k ks t ht h]; simp [h]
          · rw [lb_above k ks ha t ht (by omega)]; simp [h]
      rw [hb]
      refine ⟨?_, q, rfl⟩
      have hd : decide (lb k ks < ks.length ∧ ks.getD (lb k ks) ⟨#[]⟩ = k) = has k ks := by
        rw [Bool.eq_iff_iff, decide_eq_true_eq, has_iff]
        constructor
        · rintro ⟨h1, h2⟩
          have e : ks.getD (lb k ks) ⟨#[]⟩ = ks[lb k ks] := by simp [List.getD, h1]
          rw [e] at h2
          exact lb_hit h1 h2
        · intro h
          obtain ⟨h1, h2⟩ := asc_mem_lt ha h
          have e : ks.getD (lb k ks) ⟨#[]⟩ = ks[lb k ks] := by simp [List.getD, h1]
          exact ⟨h1, by rw [e]; exact h2⟩
      rw [hd]
end Go.Proofs.Qxb6603837a
