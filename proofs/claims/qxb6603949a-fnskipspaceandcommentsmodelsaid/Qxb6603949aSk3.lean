/-
  skipSpaceAndComments (12).
-/
import Derived.Test.Qxb6603949aSk2
namespace Go.Proofs.Qxb6603949a
open Go.RowKit
set_option linter.unusedVariables false

def scanOff (w : World) (S : Nat) : Nat := match w.cell? ⟨S, 1, none⟩ with | some (.int _ v) => v.toNat | _ => 0

theorem scanOff_at {w : World} {S m : Nat} {v : Value} {l c : Int} (h : ScanAt w S v m l c) : scanOff w S = m := by
  unfold scanOff
  rw [h.cells.2.1]
  simp

/-- The same memory, but for the draws. -/
def SameMem (w0 w : World) : Prop := w.heap = w0.heap ∧ w.os = w0.os ∧ w.tape = w0.tape ∧ w.output = w0.output

theorem grown_same {w wr V W : World} {S : Nat} (hV : SameMem wr V) (hg : w.grownBy wr (some S)) (hm : V.grownBy W (some S)) : w.grownBy W (some S) := by
  obtain ⟨h1, h2, h3, h4⟩ := hV
  refine grown_trans hg ⟨hm.os.trans h2, hm.tape.trans h3, hm.output.trans h4, by rw [← h1]; exact hm.size, fun k hk hr => ?_⟩
  rw [← h1]
  exact hm.block k (by rw [h1]; exact hk) hr

theorem ScanAt.same {w0 w : World} {S : Nat} {v : Value} {o l c : Int} (h : ScanAt w0 S v o l c) (hw : SameMem w0 w) : ScanAt w S v o l c := by
  unfold ScanAt at *
  rw [hw.1]
  exact h

/-- What both of the scanner's loops know of the world: the scanner stands k bytes behind o. -/
def At (z : Nat → Int) (o S : Nat) (v : Value) (p : Int × Int) (w wr : World) (k m : Nat) : Prop := ScanAt wr S v m (pos z o p k).1 (pos z o p k).2 ∧ w.grownBy wr (some S)

theorem At.step {z : Nat → Int} {o S k m : Nat} {v : Value} {p : Int × Int} {w wr V W : World} {e : Ending} (h : At z o S v p w wr k m) (hV : SameMem wr V) (hm : m = o + k) (hM : Moved V S v ((m : Int) + 1) (adv (z m) ((pos z o p k).1, (pos z o p k).2)) e W) : At z o S v p w W (k + 1) (m + 1) := by
  refine ⟨?_, grown_same hV h.2 hM.2.2⟩
  have e1 : pos z o p (k + 1) = adv (z m) (pos z o p k) := by rw [hm]; rfl
  rw [e1]
  exact hM.2.1

theorem At.same {z : Nat → Int} {o S k m : Nat} {v : Value} {p : Int × Int} {w wr V : World} (h : At z o S v p w wr k m) (hV : SameMem wr V) : At z o S v p w V k m :=
  ⟨h.1.same hV, grown_trans h.2 ⟨hV.2.1, hV.2.2.1, hV.2.2.2, by rw [hV.1]; exact Nat.le_refl _, fun k _ _ => by rw [hV.1]⟩⟩

def Skipped (z : Nat → Int) (n o S : Nat) (v : Value) (p : Int × Int) (w : World) (e : Ending) (w' : World) : Prop := e = .returned (.tuple #[]) ∧ ∃ K, Ends z n o K ∧ ScanAt w' S v ((o + K : Nat) : Int) (pos z o p K).1 (pos z o p K).2 ∧ w.grownBy w' (some S)

set_option maxHeartbeats 4000000 in
set_option maxRecDepth 100000 in
theorem skip12 (z : Nat → Int) (S : Nat) (a : Option Addr) (n cap o : Nat) (l c : Int) (w : World) (HS : Hid (ScanAt w S (.slice a n cap) o l c)) (hn : n ≤ 1048576) (ho : o ≤ 9223372036854775807) (hz : Hid (∀ i, i < n → 0 ≤ z i ∧ z i < 256))
    (HX : Hid (0 < n → ∃ x, a = some x ∧ x.block ≠ S ∧ x.block < w.heap.size ∧ ∀ i, i < n → w.cell? (x.add i) = some (.int .u8 (z i)))) :
    Calls Try.prog 12 #[.pointer (some ⟨S, 0, none⟩)] w (Skipped z n o S (.slice a n cap) (l, c) w) := by
  have H0 : Hid (Inv z n o 0 ∧ At z o S (.slice a n cap) (l, c) w w 0 o) := ⟨inv_zero, HS.out, grown_refl _ _⟩
  have HE : Hid (∀ wr k m, m = o + k → Ends z n o k → At z o S (.slice a n cap) (l, c) w wr k m → ∀ V, SameMem wr V → Skipped z n o S (.slice a n cap) (l, c) w (.returned (.tuple #[])) V) := by
    intro wr k m hm he hat V hV
    refine ⟨rfl, k, he, ?_, ?_⟩
    · have := hat.1.same hV
      rw [hm] at this
      exact this
    · exact grown_trans hat.2 ⟨hV.2.1, hV.2.2.1, hV.2.2.2, by rw [hV.1]; exact Nat.le_refl _, fun k _ _ => by rw [hV.1]⟩
  have HXX : Hid (∀ wr, w.grownBy wr (some S) → 0 < n → ∃ x, a = some x ∧ ∀ i, i < n → wr.cell? (x.add i) = some (.int .u8 (z i))) := by
    intro wr hg h0
    obtain ⟨x, h1, h2, h3, h4⟩ := HX.out h0
    refine ⟨x, h1, fun i hi => ?_⟩
    have hb : wr.heap[(x.add i).block]? = w.heap[(x.add i).block]? := hg.block _ (by rw [add_blk]; exact h3) (by rw [add_blk]; simpa using h2)
    exact (World.cell?_of_block (w := w) hb).trans (h4 i hi)
  clear HS HX
  go_enter Try.func12, Try.ntmps12
  go_wp2
  go_loopw [2] (fun _ wr => ∃ k m : Nat, m = o + k ∧ (k = 0 ∨ m ≤ n) ∧ Hid (Inv z n o k ∧ At z o S (.slice a n cap) (l, c) w wr k m)) (fun _ wr => n - scanOff wr S)
  case atStart => exact ⟨0, o, rfl, .inl rfl, H0⟩
  case round =>
    obtain ⟨k, m, hm, hkm, HK⟩ := hrel
    obtain ⟨U, hU⟩ : ∃ U, U = wr := ⟨_, rfl⟩
    subst hU
    obtain ⟨c0, c1, c2, c3⟩ := HK.out.2.1.cells
    have HO : Hid (scanOff U S = m) := scanOff_at HK.out.2.1
    have HM : Hid (m = o + k) := hm
    clear hm
    by_cases hlt : m < n
    · obtain ⟨x, rfl, hx⟩ := HXX.out U HK.out.2.2 (by omega)
      have hb := hx m hlt
      obtain ⟨hz0, hz1⟩ := hz.out m hlt
      have hd1 : decide ((m : Int) < (n : Int)) = true := by simp; omega
      have HSC : Hid (ScanAt U S (.slice (some x) n cap) m (pos z o (l, c) k).1 (pos z o (l, c) k).2) := HK.out.2.1
      have HMV : Hid (∀ V W e, SameMem U V → Moved V S (.slice (some x) n cap) ((m : Int) + 1) (adv (z m) ((pos z o (l, c) k).1, (pos z o (l, c) k).2)) e W → At z o S (.slice (some x) n cap) (l, c) w W (k + 1) (m + 1)) := fun V W e h1 h2 => HK.out.2.step h1 HM.out h2
      by_cases hbl : blank (z m) = true
      · have HIV : Hid (Inv z n o (k + 1)) := inv_blank HK.out.1 (by rw [← HM.out]; exact hlt) (by rw [← HM.out]; exact hbl)
        have hbl' := blank_iff.1 hbl
        generalize z m = b at *
        generalize (pos z o (l, c) k).1 = pl at *
        generalize (pos z o (l, c) k).2 = pc at *
        clear hbl hx
        rcases hbl' with rfl | rfl | rfl | rfl
        all_goals
          go_wp2
          go_quiet (fail)
          go_wp2
          go_quiet (fail)
          go_wp2_with fail
          refine (advance13 S x n cap m pl pc _ _ ?_ hlt hn ?_ hz0 hz1).mono ?_
          · exact HSC
          · exact hb
          rintro e W hmv
          obtain rfl := hmv.1
          have HQ : Hid _ := HMV.out _ W _ (by exact ⟨rfl, rfl, rfl, rfl⟩) hmv
          clear hmv
          go_wp2
          go_roundw
          case rel => exact ⟨k + 1, m + 1, by have := HM.out; omega, .inr (by omega), HIV.out, HQ.out⟩
          case measure =>
            rw [scanOff_at HQ.out.1, HO.out]
            omega
      · have hbf : blank (z m) = false := by simpa using hbl
        have hnb : ¬ (z m = 32 ∨ z m = 9 ∨ z m = 13 ∨ z m = 10) := fun h => hbl (blank_iff.2 h)
        have t1 : (z m == 32) = false := by rw [beq_eq_false_iff_ne]; omega
        have t2 : (z m == 9) = false := by rw [beq_eq_false_iff_ne]; omega
        have t3 : (z m == 13) = false := by rw [beq_eq_false_iff_ne]; omega
        have t4 : (z m == 10) = false := by rw [beq_eq_false_iff_ne]; omega
        clear hbl hnb
        by_cases hs : slash2 z n m = true
        · obtain ⟨h47, hm1, h471⟩ := slash_not_blank hs
          have hpk := hx (m + 1) hm1
          rw [h471] at hpk
          have HIN : Hid (Inn z n o k k) := inv_comment HK.out.1 (by rw [← HM.out]; exact hlt) (by rw [← HM.out]; exact hs)
          rw [h47] at hb t1 t2 t3 t4
          have HAT : Hid (At z o S (.slice (some x) n cap) (l, c) w U k m) := HK.out.2
          clear hs hbf hx hz0 hz1 HMV
          generalize (pos z o (l, c) k).1 = pl at *
          generalize (pos z o (l, c) k).2 = pc at *
          go_wp2
          go_quiet (fail)
          go_wp2
          go_quiet (fail)
          go_wp2_with fail
          refine (peek14 S x n cap m pl pc 47 _ ?_ hlt hn ?_ ?_).mono ?_
          · exact HSC
          · exact fun _ => hpk
          · exact fun h => by omega
          rintro e W1 ⟨rfl, p1, p2, p3, p4⟩
          have HW1 : Hid (At z o S (.slice (some x) n cap) (l, c) w W1 k m) := HAT.out.same ⟨p1, p2, p3, p4⟩
          clear p1 p2 p3 p4 c0 c1 c2 c3 hb hpk HSC t1 t2 t3 t4 h47 h471 hd1
          go_wp2
          go_loopw [70] (fun _ wr => ∃ j m2 : Nat, m2 = o + j ∧ k ≤ j ∧ m2 ≤ n ∧ Hid (Inn z n o k j ∧ At z o S (.slice (some x) n cap) (l, c) w wr j m2)) (fun _ wr => n - scanOff wr S)
          case atStart => exact ⟨k, m, HM.out, Nat.le_refl _, by omega, HIN.out, HW1.out⟩
          case round =>
            obtain ⟨j, m2, hm2, hkj, hm2n, HJ⟩ := hrel
            obtain ⟨V, hV⟩ : ∃ V, V = wr := ⟨_, rfl⟩
            subst hV
            obtain ⟨c0, c1, c2, c3⟩ := HJ.out.2.1.cells
            have HO2 : Hid (scanOff V S = m2) := scanOff_at HJ.out.2.1
            have HM2 : Hid (m2 = o + j) := hm2
            clear hm2
            by_cases hlt2 : m2 < n
            · obtain ⟨x', hxe, hx⟩ := HXX.out V HJ.out.2.2 (by omega)
              cases hxe
              have hb := hx m2 hlt2
              obtain ⟨hz0, hz1⟩ := hz.out m2 hlt2
              have hd2 : decide ((m2 : Int) < (n : Int)) = true := by simp; omega
              have HSC : Hid (ScanAt V S (.slice (some x) n cap) m2 (pos z o (l, c) j).1 (pos z o (l, c) j).2) := HJ.out.2.1
              by_cases h10 : z m2 = 10
              · have t1 : (z m2 != 10) = false := by rw [h10]; rfl
                have HEX : Hid (Inv z n o j ∧ k < j) := inn_exit HJ.out.1 (.inr (by rw [← HM2.out]; exact h10))
                have HAV : Hid (∀ V', SameMem V V' → At z o S (.slice (some x) n cap) (l, c) w V' j m2) := fun V' h => HJ.out.2.same h
                clear h10 hx
                go_wp2
                go_quiet (fail)
                go_wp2
                go_roundw
                case rel => exact ⟨j, m2, HM2.out, .inr hm2n, HEX.out.1, HAV.out _ (by exact ⟨rfl, rfl, rfl, rfl⟩)⟩
                case measure =>
                  rw [scanOff_at (HAV.out _ (by exact ⟨rfl, rfl, rfl, rfl⟩)).1, HO.out]
                  have h1 := HEX.out.2
                  have h2 := HM.out
                  have h3 := HM2.out
                  omega
              · have t1 : (z m2 != 10) = true := by rw [bne_iff_ne]; exact h10
                have HIN2 : Hid (Inn z n o k (j + 1)) := inn_step HJ.out.1 (by rw [← HM2.out]; exact hlt2) (by rw [← HM2.out]; exact h10)
                have HMV : Hid (∀ V' W e, SameMem V V' → Moved V' S (.slice (some x) n cap) ((m2 : Int) + 1) (adv (z m2) ((pos z o (l, c) j).1, (pos z o (l, c) j).2)) e W → At z o S (.slice (some x) n cap) (l, c) w W (j + 1) (m2 + 1)) := fun V' W e h1 h2 => HJ.out.2.step h1 HM2.out h2
                clear h10 hx
                generalize z m2 = b at *
                generalize (pos z o (l, c) j).1 = pl2 at *
                generalize (pos z o (l, c) j).2 = pc2 at *
                go_wp2
                go_quiet (fail)
                go_wp2_with fail
                refine (advance13 S x n cap m2 pl2 pc2 _ _ ?_ hlt2 hn ?_ hz0 hz1).mono ?_
                · exact HSC
                · exact hb
                rintro e W hmv
                obtain rfl := hmv.1
                have HQ : Hid _ := HMV.out _ W _ (by exact ⟨rfl, rfl, rfl, rfl⟩) hmv
                clear hmv
                go_wp2
                go_roundw
                case rel => exact ⟨j + 1, m2 + 1, by have := HM2.out; omega, by omega, by omega, HIN2.out, HQ.out⟩
                case measure =>
                  rw [scanOff_at HQ.out.1, HO2.out]
                  omega
            · have hd2 : decide ((m2 : Int) < (n : Int)) = false := by simp; omega
              have HEX : Hid (Inv z n o j ∧ k < j) := inn_exit HJ.out.1 (.inl (by rw [← HM2.out]; omega))
              have HAV : Hid (∀ V', SameMem V V' → At z o S (.slice (some x) n cap) (l, c) w V' j m2) := fun V' h => HJ.out.2.same h
              go_wp2
              go_quiet (fail)
              go_wp2
              go_roundw
              case rel => exact ⟨j, m2, HM2.out, .inr hm2n, HEX.out.1, HAV.out _ (by exact ⟨rfl, rfl, rfl, rfl⟩)⟩
              case measure =>
                rw [scanOff_at (HAV.out _ (by exact ⟨rfl, rfl, rfl, rfl⟩)).1, HO.out]
                have h1 := HEX.out.2
                have h2 := HM.out
                have h3 := HM2.out
                omega
        · have hsf : slash2 z n m = false := by simpa using hs
          have HEE : Hid _ := HE.out U k m HM.out (ends_stop HK.out.1 (by rw [← HM.out]; exact hlt) (by rw [← HM.out]; exact hbf) (by rw [← HM.out]; exact hsf)) HK.out.2
          by_cases h47 : z m = 47
          · obtain ⟨pv, hp1, hp2, hp3⟩ : ∃ pv : Int, (m + 1 < n → U.cell? (x.add (m + 1)) = some (.int .u8 pv)) ∧ (n ≤ m + 1 → pv = 0) ∧ (pv == 47) = false := by
              by_cases h1 : m + 1 < n
              · refine ⟨z (m + 1), fun _ => hx _ h1, fun h => by omega, ?_⟩
                rw [beq_eq_false_iff_ne]
                intro h2
                apply hs
                unfold slash2
                simp [h47, h1, h2]
              · exact ⟨0, fun h => absurd h h1, fun _ => rfl, rfl⟩
            rw [h47] at hb t1 t2 t3 t4
            clear hs hsf hbf hx hz0 hz1 HMV h47
            generalize (pos z o (l, c) k).1 = pl at *
            generalize (pos z o (l, c) k).2 = pc at *
            have HP1 : Hid _ := hp1
            have HP2 : Hid _ := hp2
            clear hp1 hp2
            go_wp2
            go_quiet (fail)
            go_wp2
            go_quiet (fail)
            go_wp2_with fail
            refine (peek14 S x n cap m pl pc pv _ ?_ hlt hn ?_ ?_).mono ?_
            · exact HSC
            · exact HP1.out
            · exact HP2.out
            rintro e W1 ⟨rfl, p1, p2, p3, p4⟩
            have HEV : Hid (Skipped z n o S (.slice (some x) n cap) (l, c) w (.returned (.tuple #[])) W1) := HEE.out W1 ⟨p1, p2, p3, p4⟩
            clear p1 p2 p3 p4
            go_wp2
            refine bodyPost_ret (v := .tuple #[]) (by simp [results, Try.results12, go_sem]) rfl ?_
            exact HEV.out
          · have t5 : (z m == 47) = false := by rw [beq_eq_false_iff_ne]; exact h47
            clear hs hsf hbf hx hz0 hz1 HMV h47
            generalize z m = b at *
            go_wp2
            go_quiet (fail)
            go_wp2
            go_quiet (fail)
            go_wp2
            refine bodyPost_ret (v := .tuple #[]) (by simp [results, Try.results12, go_sem]) rfl ?_
            exact HEE.out _ (by exact ⟨rfl, rfl, rfl, rfl⟩)
    · have hd1 : decide ((m : Int) < (n : Int)) = false := by simp; omega
      have HEE : Hid _ := HE.out U k m HM.out (ends_past HK.out.1 (by have := HM.out; omega)) HK.out.2
      go_wp2
      go_quiet (fail)
      go_wp2
      refine bodyPost_end (v := .tuple #[]) (by simp [results, Try.results12, go_sem]) rfl ?_
      exact HEE.out _ ⟨rfl, rfl, rfl, rfl⟩
end Go.Proofs.Qxb6603949a
