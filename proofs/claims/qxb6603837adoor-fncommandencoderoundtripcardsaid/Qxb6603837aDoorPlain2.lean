/-
  Plain facts on decimal numerals for the round-trip law.
-/
import Derived.Test.Qxb6603837aDoorPlain
namespace Go.Proofs.Qxb6603837aDoor

/-- The number that a list of decimal digits spells. -/
def val (l : List UInt8) : Nat := l.foldl (fun a c => a * 10 + (c.toNat - 48)) 0

theorem val_snoc (l : List UInt8) (c : UInt8) : val (l ++ [c]) = val l * 10 + (c.toNat - 48) := by
  unfold val
  rw [List.foldl_append]
  rfl

theorem digit_toNat {d : Nat} (h : d < 10) : (UInt8.ofNat (48 + d)).toNat = 48 + d := by
  rw [UInt8.toNat_ofNat']
  omega

theorem val_decDigits (u : Nat) : val (Lib.decDigits u) = u := by
  induction u using Nat.strongRecOn with
  | _ u ih =>
    by_cases h : u < 10
    · rw [Lib.decDigits_one h]
      show 0 * 10 + ((UInt8.ofNat (48 + u)).toNat - 48) = u
      rw [digit_toNat h]
      omega
    · rw [Lib.decDigits, dif_neg h, val_snoc, ih (u / 10) (by omega), digit_toNat (by omega)]
      omega

theorem dec_digit (u : Nat) : ∀ c ∈ Lib.decDigits u, 48 ≤ c.toNat ∧ c.toNat ≤ 57 := by
  induction u using Nat.strongRecOn with
  | _ u ih =>
    by_cases h : u < 10
    · rw [Lib.decDigits_one h]
      intro c hc
      rw [List.mem_singleton.1 hc, digit_toNat h]
      omega
    · rw [Lib.decDigits, dif_neg h]
      intro c hc
      rcases List.mem_append.1 hc with h1 | h1
      · exact ih (u / 10) (by omega) c h1
      · rw [List.mem_singleton.1 h1, digit_toNat (by omega)]
        omega

theorem dec_nosp (u : Nat) : nosp (Lib.decDigits u) = true := by
  refine nosp_of ?_
  intro c hc
  have := dec_digit u c hc
  rintro rfl
  revert this
  decide

theorem dec_ne_nil (u : Nat) : Lib.decDigits u ≠ [] := by
  intro h
  have h1 := Lib.decDigits_length u
  have := Lib.nDigits_pos u
  rw [h] at h1
  simp at h1
  omega

/-- No leading zero but in "0". -/
theorem dec_head (u : Nat) (h1 : 1 < (Lib.decDigits u).length) : ∀ (h : 0 < (Lib.decDigits u).length), (Lib.decDigits u)[0] ≠ 48 := by
  induction u using Nat.strongRecOn with
  | _ u ih =>
    by_cases h : u < 10
    · rw [Lib.decDigits_one h] at h1
      simp at h1
    · have hne : 0 < (Lib.decDigits (u / 10)).length := by
        have := dec_ne_nil (u / 10)
        exact List.length_pos_iff.2 this
      intro h0
      have e : Lib.decDigits u = Lib.decDigits (u / 10) ++ [UInt8.ofNat (48 + u % 10)] := by rw [Lib.decDigits, dif_neg h]
      have e0 : (Lib.decDigits u)[0] = (Lib.decDigits (u / 10))[0] := by
        have : ∀ (l m : List UInt8) (x : UInt8) (hm : 0 < m.length) (hl : 0 < l.length), l = m ++ [x] → l[0] = m[0] := by
          intro l m x hm hl e
          subst e
          rw [List.getElem_append_left hm]
        exact this _ _ _ hne h0 e
      rw [e0]
      by_cases h2 : 1 < (Lib.decDigits (u / 10)).length
      · exact ih (u / 10) (by omega) h2 hne
      · by_cases h3 : u / 10 < 10
        · have e1 : Lib.decDigits (u / 10) = [UInt8.ofNat (48 + u / 10)] := Lib.decDigits_one h3
          have : ∀ (l : List UInt8) (x : UInt8) (hl : 0 < l.length), l = [x] → l[0] = x := by
            intro l x hl e; subst e; rfl
          rw [this _ _ hne e1]
          intro e2
          have := congrArg UInt8.toNat e2
          rw [digit_toNat h3] at this
          have h48 : (48 : UInt8).toNat = 48 := rfl
          omega
        · exfalso
          have := Lib.decDigits_length (u / 10)
          rw [Lib.nDigits_big h3] at this
          have := Lib.nDigits_pos (u / 10 / 10)
          omega

theorem val_mono (l : List UInt8) (k : Nat) : val (l.take k) ≤ val l := by
  have : ∀ (m t : List UInt8), val m ≤ val (m ++ t) := by
    intro m t
    induction t generalizing m with
    | nil => simp
    | cons c t ih =>
      have e : m ++ c :: t = (m ++ [c]) ++ t := by simp
      rw [e]
      refine Nat.le_trans ?_ (ih (m ++ [c]))
      rw [val_snoc]
      omega
  conv => rhs; rw [← List.take_append_drop k l]
  exact this _ _

theorem val_take_succ (l : List UInt8) (k : Nat) (h : k < l.length) : val (l.take (k + 1)) = val (l.take k) * 10 + (l[k].toNat - 48) := by
  rw [take_snoc l k h, val_snoc]

theorem req_not_dec (u : Nat) : ¬ ([114, 101, 113, 61] : List UInt8) <+: Lib.decDigits u := by
  intro h
  have := dec_digit u 114 (h.subset (by simp))
  revert this
  decide

theorem if_not_dec (u : Nat) : ¬ ([105, 102, 61] : List UInt8) <+: Lib.decDigits u := by
  intro h
  have := dec_digit u 105 (h.subset (by simp))
  revert this
  decide

theorem ext_bytes {x y : ByteArray} (h : x.data.toList = y.data.toList) : x = y := by
  obtain ⟨⟨x⟩⟩ := x
  obtain ⟨⟨y⟩⟩ := y
  simp at h
  rw [h]

/-- What stands behind a field's mark. -/
theorem behind {x y : ByteArray} (m : List UInt8) (h : x.data.toList = m ++ y.data.toList) : x.extract m.length x.size = y := by
  refine ext_bytes ?_
  rw [Lib.extract_data, Lib.size_eq, h, List.drop_left, List.length_append, Nat.add_sub_cancel_left, List.take_length]

theorem if_no_req (l : List UInt8) : ¬ ([114, 101, 113, 61] : List UInt8) <+: ([105, 102, 61] : List UInt8) ++ l := by
  rintro ⟨r, hr⟩
  simp at hr

end Go.Proofs.Qxb6603837aDoor
