/-
  FnKeyIndexAddScript: the walk.
-/
import Derived.Test.Qxb6603852aKi4
namespace Go.Proofs.Qxb6603852a
open Go.RowKit
set_option linter.unusedVariables false

theorem Idx.turned {w w' : World} {B X : Nat} {bv : Value} {bs : List Nat} {n : Nat} {s : Bool} {val : Nat → Int × Int} (H : Idx w B X bv bs n s val) (ht : Turned w w' []) : Idx w' B X bv bs n s val :=
  ⟨(ht.block X (lt_of_heap H.head) (by simp)).trans H.head, H.geX, own_keptL H.row (fun x hx => ht.block x (own_mem_lt H.row x hx).1 (by simp)), H.nodup, H.apart, H.xbs, H.ge, fun i g hg => by
    have hb := H.blocks i g hg
    obtain ⟨cur, h1, _⟩ := hb
    exact block_kept (H.blocks i g hg) (ht.block g (lt_of_heap h1) (by simp)) (fun _ _ => rfl), Nat.le_trans H.size ht.size, H.count⟩

theorem zzadd_any (B X : Nat) (bv : Value) (bs : List Nat) (n : Nat) (s : Bool) (val : Nat → Int × Int) (h o : Int) (w : World) (H : Idx w B X bv bs n s val) (hn : n ≤ 1000000) :
    Calls Try.prog 18 #[.pointer (some ⟨X, 0, none⟩), .agg #[.int .u64 h, .int .i64 o]] w (AddPost w B X bs n s val (h, o)) := by
  have HA : Hid _ := add_any B X bv bs n s val h o (w.alloc (.cells #[.int .u64 h, .int .i64 o] 57)) (H.turned (Turned.alloc w _ [])) hn
  have HB : Hid (B ≤ w.heap.size) := H.size
  clear H
  go_enter Try.func18, Try.ntmps18
  go_wp2_with fail
  refine Calls.mono HA.out ?_
  rintro e W1 ⟨rfl, bv', bs', q1, q2, q3⟩
  have HQ : Hid (AddPost w B X bs n s val (h, o) (.returned (.tuple #[])) W1) := ⟨rfl, bv', bs', q1, q2, ((Below.refl B w).alloc HB.out _).trans q3⟩
  clear q1 q2 q3
  go_wp2
  refine bodyPost_end (v := .tuple #[]) (by simp [results, Try.results18, go_sem]) rfl ?_
  exact HQ.out

/-- The lines that came in. -/
structure LinesAt (w : World) (B : Nat) (x : Addr) (L : List (Int × Int)) : Prop where
  lt : 0 < L.length → x.block < B
  cell : ∀ i (hi : i < L.length), w.cell? (x.add (i * 2)) = some (.int .u64 L[i].1) ∧ w.cell? ⟨(x.add (i * 2)).block, (x.add (i * 2)).off + 1, none⟩ = some (.int .i64 L[i].2)

theorem LinesAt.below {w w' : World} {B : Nat} {x : Addr} {L : List (Int × Int)} (h : LinesAt w B x L) (hb : Below B w w') : LinesAt w' B x L :=
  ⟨h.lt, fun i hi => ⟨(hb.cell (p := x.add (i * 2)) (by unfold Addr.add; split <;> exact h.lt (by omega))).trans (h.cell i hi).1, (hb.cell (p := ⟨(x.add (i * 2)).block, (x.add (i * 2)).off + 1, none⟩) (by show (x.add (i * 2)).block < B; unfold Addr.add; split <;> exact h.lt (by omega))).trans (h.cell i hi).2⟩⟩

def valL (L : List (Int × Int)) (i : Nat) : Nat → Int × Int := fun p => if p < i then L.getD p (0, 0) else (0, 0)

theorem valL_step (L : List (Int × Int)) (i m : Nat) (hi : i < L.length) (hm : m = (i + 4095) / 4096) : put (valL L i) i m L[i] = valL L (i + 1) := by
  funext p
  unfold put valL
  by_cases e : p = i
  · subst e
    rw [if_pos rfl, if_pos (by omega), List.getD_eq_getElem?_getD, List.getElem?_eq_getElem hi]
    rfl
  · rw [if_neg e]
    by_cases e2 : p < i
    · rw [if_pos (by omega), if_pos e2, if_pos (by omega)]
    · rw [if_neg e2, ite_self, if_neg (by omega)]

set_option maxHeartbeats 2000000 in
set_option maxRecDepth 100000 in
theorem script_row (a : Option Addr) (cap : Nat) (L : List (Int × Int)) (w : World) (hl : L.length ≤ 65536) (HL : Hid (∀ x, a = some x → LinesAt w w.heap.size x L)) (ha : 0 < L.length → ∃ x, a = some x) : Calls Try.prog 5 #[.slice a L.length cap] w fun e w' => e = .returned (.bool true) ∧ Below w.heap.size w w' := by
  have H21 : Hid _ := bytes21 a L.length cap w (by omega)
  obtain ⟨B, hB⟩ : ∃ B, B = w.heap.size := ⟨_, rfl⟩
  have HB : Hid (B = w.heap.size) := hB
  go_enter Try.func5, Try.ntmps5
  go_wp2_with fail
  refine Calls.mono H21.out ?_
  rintro e W0 ⟨bb, rfl, rfl⟩
  cases bb
  · go_wp2
    go_ret
    exact ⟨rfl, Below.refl _ _⟩
  · go_wp2_with fail
    refine (mkindex none 0 0 0 false W0).mono ?_
    rintro e W1 ⟨rfl, hW1⟩
    have H0 : Hid (Idx W1 B B (.slice none 0 0) [] 0 false (valL L 0) ∧ Below B W0 W1) := by
      subst hW1
      refine ⟨⟨?_, Nat.le_refl _, ⟨rfl, .inl ⟨rfl, rfl⟩⟩, List.nodup_nil, (fun x hx => by simp [Value.ownBlock] at hx), by simp, by simp, (fun i g hg => by simp at hg), by rw [hB]; exact (Turned.alloc W0 _ []).size, rfl⟩, (Below.refl _ _).alloc (by omega) _⟩
      rw [hB]
      exact heap_alloc_new W0 _
    rw [← hB]
    clear hW1 H21 hB
    go_wp2
    go_loopw [4] (fun s4 wr => ∃ (i : Nat) (bv : Value) (bs : List Nat), i ≤ L.length ∧ s4 = .int .i64 i ∧ Hid (Idx wr B B bv bs i false (valL L i) ∧ Below B W0 wr)) (fun s4 _ => L.length - (intOf s4).toNat)
    case atStart => exact ⟨0, _, _, Nat.zero_le _, by go_num, H0⟩
    case round =>
      obtain ⟨i, bv, bs, hi, rfl, HH⟩ := hrel
      by_cases hlt : i < L.length
      · obtain ⟨x, rfl⟩ := ha (by omega)
        have hL := ((HB.out ▸ HL.out x rfl : LinesAt W0 B x L).below HH.out.2).cell i hlt
        obtain ⟨c1, c2⟩ := hL
        have HA : Hid (∀ W' : World, W'.heap = wr.heap.push (.cells #[.int .u64 L[i].1, .int .i64 L[i].2] 57) → W'.os = wr.os ∧ W'.tape = wr.tape ∧ W'.output = wr.output → Calls Try.prog 18 #[.pointer (some ⟨B, 0, none⟩), .agg #[.int .u64 L[i].1, .int .i64 L[i].2]] W' fun e w' => e = .returned (.tuple #[]) ∧ ∃ bv' bs', Idx w' B B bv' bs' (i + 1) false (valL L (i + 1)) ∧ Below B W0 w') := by
          intro W' hW hos
          have ht : Turned wr W' [] := ⟨hos.1, hos.2.1, hos.2.2, by rw [hW]; simp, fun k hk _ => by rw [hW, Array.getElem?_push, if_neg (by omega)]⟩
          refine (zzadd_any B B bv bs i false (valL L i) _ _ W' (HH.out.1.turned ht) (by omega)).mono ?_
          rintro e w' ⟨rfl, bv', bs', q1, _, q3⟩
          have hv := valL_step L i bs.length hlt HH.out.1.count
          refine ⟨rfl, bv', bs', ?_, (HH.out.2.trans (ht.toBelow (fun x hx => by simp at hx) HH.out.1.size)).trans q3⟩
          rw [← hv]
          exact q1
        generalize L[i].1 = lh at *
        generalize L[i].2 = lo at *
        go_wp2_with fail
        go_region_with (first
          | (go_at_call 16; refine (mkline _ _ _).mono ?_; rintro e W' ⟨rfl, rfl⟩)
          | (go_at_call 18; refine Calls.mono (HA.out _ rfl ⟨rfl, rfl, rfl⟩) ?_; rintro e W2 ⟨rfl, bv', bs', q1, q2⟩))
        all_goals
          have HQ : Hid (Idx W2 B B bv' bs' (i + 1) false (valL L (i + 1)) ∧ Below B W0 W2) := ⟨q1, q2⟩
          clear q1 q2 HA HH c1 c2
          go_wp2
          go_roundw
          case rel => exact ⟨i + 1, bv', bs', by omega, by go_num, HQ⟩
          case measure => simp [intOf]; omega
      · obtain rfl : i = L.length := by omega
        have hcnt := HH.out.1.count
        obtain ⟨ab, cb, rfl, hab⟩ : ∃ ab cb, bv = .slice ab bs.length cb ∧ (0 < bs.length → ∃ gr, ab = some ⟨gr, 0, none⟩) := by
          rcases own_open HH.out.1.row with ⟨e1, e2⟩ | ⟨g, cap', cur, e1, _⟩
          · have e3 : bs = [] := List.map_eq_nil_iff.1 e2
            subst e3
            exact ⟨none, 0, e1, fun h => by simp at h⟩
          · rw [List.length_map] at e1
            exact ⟨_, _, e1, fun _ => ⟨g, rfl⟩⟩
        have k0 : wr.cell? ⟨B, 0, none⟩ = some (.slice ab bs.length cb) := by rw [cell_heap HH.out.1.head]; rfl
        have k1 : wr.cell? ⟨B, 1, none⟩ = some (.int .i64 (L.length : Nat)) := by rw [cell_heap HH.out.1.head]; rfl
        have k2 : wr.cell? ⟨B, 2, none⟩ = some (.bool false) := by rw [cell_heap HH.out.1.head]; rfl
        have e3 : ((bs.length : Int) != ((L.length : Int) + 4096 - 1) / 4096) = false := by
          have e4 : ((L.length : Int) + 4096 - 1) / 4096 = (bs.length : Int) := by omega
          rw [e4]
          simp
        have hbl : bs.length ≤ 16 := by omega
        have HV : Hid (∀ (W : World) (i : Nat) (hi : i < bs.length) (j : Nat), j < 4096 → Turned wr W [] → (∀ gr, ab = some ⟨gr, 0, none⟩ → W.cell? ⟨gr, i, none⟩ = some (.slice (some ⟨bs[i], 0, none⟩) 4096 4096)) ∧
            W.cell? ⟨bs[i], j * 2, none⟩ = some (.int .u64 (valL L L.length (i * 4096 + j)).1) ∧ W.cell? ⟨bs[i], j * 2 + 1, none⟩ = some (.int .i64 (valL L L.length (i * 4096 + j)).2)) := by
          intro W i hi j hj ht
          have I := HH.out.1.turned ht
          obtain ⟨c1, c2, _, _⟩ := cell_at (I.blocks i bs[i] (List.getElem?_eq_getElem hi)) j hj
          refine ⟨?_, c1, c2⟩
          rintro gr rfl
          exact (own_cell I.row (by simp [blk, hi])).1
        have HLL : Hid (∀ (W : World) (p : Nat) (hp : p < L.length), Turned wr W [] → ∃ x, a = some x ∧ W.cell? (x.add (p * 2)) = some (.int .u64 L[p].1) ∧ W.cell? ⟨(x.add (p * 2)).block, (x.add (p * 2)).off + 1, none⟩ = some (.int .i64 L[p].2)) := by
          intro W p hp ht
          obtain ⟨x, rfl⟩ := ha (by omega)
          exact ⟨x, rfl, ((HB.out ▸ HL.out x rfl : LinesAt W0 B x L).below (HH.out.2.trans (ht.toBelow (fun x hx => by simp at hx) HH.out.1.size))).cell p hp⟩
        have HW : Hid (Below B W0 wr ∧ B ≤ wr.heap.size) := ⟨HH.out.2, HH.out.1.size⟩
        clear hcnt HH HL ha
        go_wp2_with fail
        refine (parts B _ _ _ wr k0 k1 k2).mono ?_
        rintro e W2 ⟨rfl, q, hW2⟩
        have T2 : Hid (Turned wr W2 []) := by rw [hW2]; exact Turned.drewN wr q []
        clear hW2 k0 k1 k2
        go_wp2
        go_loopw [8] (fun s8 wr2 => ∃ i : Nat, i ≤ bs.length ∧ s8 = .int .i64 i ∧ Hid (Turned wr wr2 [])) (fun s8 _ => bs.length - (intOf s8).toNat)
        case atStart => exact ⟨0, Nat.zero_le _, by go_num, T2⟩
        case round =>
          obtain ⟨i, hi, rfl, HT⟩ := hrel
          by_cases hib : i < bs.length
          · obtain ⟨gr, rfl⟩ := hab (by omega)
            obtain ⟨d1, _, _⟩ := HV.out _ i hib 0 (by omega) HT.out
            have d1 := d1 gr rfl
            go_wp2
            go_loopw [9] (fun s9 wr3 => ∃ j : Nat, j ≤ 4096 ∧ s9 = .int .i64 j ∧ Hid (Turned wr wr3 [])) (fun s9 _ => 4096 - (intOf s9).toNat)
            case atStart => exact ⟨0, Nat.zero_le _, by go_num, Turned.refl _ _⟩
            case round =>
              obtain ⟨j, hj, rfl, HT3⟩ := hrel
              have HT4 := HT.out.trans HT3.out (fun x hx => .inl hx)
              by_cases hjb : j < 4096
              · obtain ⟨d2, d3, d4⟩ := HV.out _ i hib j hjb HT4
                have d2 := d2 gr rfl
                have HLp : Hid (∀ q lh lo, ∀ hp : i * 4096 + j < L.length, ∃ x, a = some x ∧ ((wr.alloc (.cells #[.int .u64 lh, .int .i64 lo] 57)).drewN q).cell? (x.add ((i * 4096 + j) * 2)) = some (.int .u64 L[i * 4096 + j].1) ∧ ((wr.alloc (.cells #[.int .u64 lh, .int .i64 lo] 57)).drewN q).cell? ⟨(x.add ((i * 4096 + j) * 2)).block, (x.add ((i * 4096 + j) * 2)).off + 1, none⟩ = some (.int .i64 L[i * 4096 + j].2)) := fun q lh lo hp =>
                  HLL.out _ _ hp ((HT4.trans (Turned.alloc wr _ []) (fun x hx => .inl hx)).trans (Turned.drewN _ q []) (fun x hx => .inl hx))
                have HT5 : Hid (∀ q lh lo, Turned wr ((wr.alloc (.cells #[.int .u64 lh, .int .i64 lo] 57)).drewN q) []) := fun q lh lo => (Turned.alloc wr _ []).trans (Turned.drewN _ q []) (fun x hx => .inl hx)
                have HT3' : Hid _ := HT3.out
                clear HT4
                by_cases hp : i * 4096 + j < L.length
                · have hv : valL L L.length (i * 4096 + j) = L[i * 4096 + j] := by
                    unfold valL
                    rw [if_pos hp, List.getD_eq_getElem?_getD, List.getElem?_eq_getElem hp]
                    rfl
                  rw [hv] at d3 d4
                  obtain ⟨x, rfl, _, _⟩ := HLp.out 0 0 0 hp
                  go_wp2_with fail
                  refine (lineparts _ _ wr).mono ?_
                  rintro e W5 ⟨rfl, q5, hW5⟩
                  obtain ⟨x', hx', y1, y2⟩ := HLp.out q5 L[i * 4096 + j].1 L[i * 4096 + j].2 hp
                  have T5 : Hid (Turned _ W5 []) := hW5 ▸ HT5.out q5 L[i * 4096 + j].1 L[i * 4096 + j].2
                  rw [← hW5] at y1 y2
                  cases hx'
                  clear hW5 HLp HT5 hv
                  generalize L[i * 4096 + j] = k at *
                  go_wp2
                  go_roundw
                  case rel => exact ⟨j + 1, by omega, by go_num, HT3.out.trans T5.out (fun x hx => .inl hx)⟩
                  case measure => simp [intOf]; omega
                · have hv : valL L L.length (i * 4096 + j) = (0, 0) := by
                    unfold valL
                    rw [if_neg hp]
                  rw [hv] at d3 d4
                  go_wp2_with fail
                  refine (lineparts _ _ wr).mono ?_
                  rintro e W5 ⟨rfl, q5, hW5⟩
                  have T5 : Hid (Turned _ W5 []) := hW5 ▸ HT5.out q5 0 0
                  clear hW5 HLp HT5 hv
                  go_wp2
                  go_roundw
                  case rel => exact ⟨j + 1, by omega, by go_num, HT3.out.trans T5.out (fun x hx => .inl hx)⟩
                  case measure => simp [intOf]; omega
              · obtain rfl : j = 4096 := by omega
                have HT6 : Hid _ := HT4
                clear HT4
                go_wp2
                go_roundw
                case rel => exact ⟨i + 1, by omega, by go_num, HT6⟩
                case measure => simp [intOf]; omega
          · go_wp2
            go_ret
            refine ⟨rfl, ?_⟩
            rw [← HB.out]
            exact HW.out.1.trans (HT.out.toBelow (fun x hx => by simp at hx) HW.out.2)
end Go.Proofs.Qxb6603852a
