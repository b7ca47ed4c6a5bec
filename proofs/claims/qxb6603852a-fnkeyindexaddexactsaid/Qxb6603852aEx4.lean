/-
  FnKeyIndexAddExact: the walk, where the blocks are not nil.
-/
import Derived.Test.Qxb6603852aEx3
import Derived.Laws.Cover3
import Derived.Lib.Builder
namespace Go.Proofs.Qxb6603852a
open Go.RowKit
set_option linter.unusedVariables false

theorem neq66 (w : World) (a : Addr) : (binOp .neq 66 (.pointer (some a)) (.pointer (some a))).run Try.prog w = .ok (.bool false) w := by
  obtain ⟨i0, hi0, _⟩ := info_parts infoL
  exact Lib.run_neq_ptr_same w a Try.underlying66 hi0

theorem own_first_heap {w : World} {B g n cap : Nat} {e : TypeId} {xs : List Value} (h : Own w B e (.slice (some ⟨g, 0, none⟩) n cap) xs) : ∃ cur, w.heap[g]? = some (.cells cur e (0, 0)) := by
  rcases own_open h with ⟨h, _⟩ | ⟨g', cap', cur, h, h2, h3, _⟩
  · cases h
  · simp only [Value.slice.injEq, Option.some.injEq, Addr.mk.injEq, and_true] at h
    obtain ⟨rfl, rfl, rfl⟩ := h
    exact ⟨cur, h3⟩

/-- The first j lines of L; zero behind them. -/
def lin (L : List (Int × Int)) (j : Nat) : Nat → Int × Int := fun q => if q < j then L.getD q (0, 0) else (0, 0)

theorem inner_step {w V : World} {G j : Nat} {L : List (Int × Int)} (ht : Turned w V []) (hG : w.heap.size ≤ G) (hb : BlockAt V G (lin L j)) (hj : j < 4096) (hL : j < L.length) :
    Turned w (((V.setCell ⟨G, j * 2, none⟩ (.int .u64 L[j].1)).setCell ⟨G, j * 2 + 1, none⟩ (.int .i64 L[j].2)).alloc (.cells #[.int .u64 L[j].1, .int .i64 L[j].2] 57)).drew [] ∧ BlockAt (((V.setCell ⟨G, j * 2, none⟩ (.int .u64 L[j].1)).setCell ⟨G, j * 2 + 1, none⟩ (.int .i64 L[j].2)).alloc (.cells #[.int .u64 L[j].1, .int .i64 L[j].2] 57)).drew G (lin L (j + 1)) := by
  obtain ⟨cur, h1, h2, h3⟩ := hb
  have hGV : G < V.heap.size := lt_of_heap h1
  have t1 : Turned w (V.setCell ⟨G, j * 2, none⟩ (.int .u64 L[j].1)) [] := ht.trans (Turned.setCell V ⟨G, j * 2, none⟩ _ (fp := [G]) (.inl (by simp))) (fun x hx => .inr (by rw [List.mem_singleton.1 hx]; exact hG))
  have t2 : Turned w ((V.setCell ⟨G, j * 2, none⟩ (.int .u64 L[j].1)).setCell ⟨G, j * 2 + 1, none⟩ (.int .i64 L[j].2)) [] := t1.trans (Turned.setCell _ ⟨G, j * 2 + 1, none⟩ _ (fp := [G]) (.inl (by simp))) (fun x hx => .inr (by rw [List.mem_singleton.1 hx]; exact hG))
  have t3 := t2.trans (Turned.alloc _ (.cells #[.int .u64 L[j].1, .int .i64 L[j].2] 57) []) (fun x hx => .inl hx)
  refine ⟨⟨t3.os, t3.tape, t3.output, t3.size, t3.block⟩, ?_⟩
  refine block_set (w := V) (r := j) h1 h2 h3 hj (h := L[j].1) (o := L[j].2) ?_ ?_
  · show (World.alloc _ _).heap[G]? = _
    rw [Below.heap_alloc _ _ _ (by simpa [World.setCell] using hGV)]
  · intro q hq
    unfold lin
    by_cases e : q = j
    · subst e
      rw [if_pos (by omega), if_pos rfl, List.getD_eq_getElem?_getD, List.getElem?_eq_getElem hL]
      rfl
    · rw [if_neg e]
      by_cases e2 : q < j
      · rw [if_pos (by omega), if_pos e2]
      · rw [if_neg (by omega), if_neg e2]

set_option maxHeartbeats 4000000 in
set_option maxRecDepth 100000 in
theorem exact_some (x : Addr) (cap : Nat) (bl : List Bl) (n : Int) (s : Bool) (h o : Int) (w : World) (hl : bl.length ≤ 9223372036854775807) (hn1 : -9223372036854775808 ≤ n) (hn2 : n ≤ 9223372036854775807) (HL : Hid (BlocksAt w w.heap.size x bl)) :
    Calls Try.prog 4 #[.slice (some x) bl.length cap, .int .i64 n, .bool s, .int .u64 h, .int .i64 o] w fun e w' => e = .returned (.bool true) ∧ Below w.heap.size w w' := by
  have H14 : Hid _ := bytes14 (some x) cap bl n s h o w.heap.size w hl (fun y hy => by cases hy; exact HL.out) (fun _ => ⟨x, rfl⟩)
  have H15 : Hid _ := shape15 (some x) cap bl n w.heap.size w hl hn1 hn2 (fun y hy => by cases hy; exact HL.out) (fun _ => ⟨x, rfl⟩)
  go_enter Try.func4, Try.ntmps4
  go_wp2_with fail
  refine Calls.mono H14.out ?_
  rintro e W0 ⟨bb, rfl, rfl⟩
  cases bb
  · go_wp2
    go_ret
    exact ⟨rfl, Below.refl _ _⟩
  · go_wp2_with fail
    refine Calls.mono H15.out ?_
    rintro e W0' ⟨bb, rfl, rfl, hfit⟩
    cases bb
    · clear hfit
      go_wp2
      go_ret
      exact ⟨rfl, Below.refl _ _⟩
    · obtain ⟨f1, f2, f3, f4, f5⟩ := hfit rfl
      obtain ⟨k, rfl⟩ : ∃ k : Nat, n = (k : Int) := ⟨n.toNat, by omega⟩
      rw [Int.toNat_natCast] at f3
      obtain ⟨Z2, hmk2, hZ2, hZl⟩ := mkrow bl.length (by omega)
      obtain ⟨Z, hmk, hZ, hZ0⟩ := mk4096
      have H0 : Hid (Copied (W0'.alloc (.cells Z2 54)) W0'.heap.size W0'.heap.size bl [] ∧ Below W0'.heap.size W0' (W0'.alloc (.cells Z2 54))) := by
        refine ⟨⟨?_, by simp, List.nodup_nil, by simp, by simp, (fun i g hg => by simp at hg), (Turned.alloc W0' (.cells Z2 54) []).size⟩, (Below.refl _ _).alloc (Nat.le_refl _) _⟩
        have e1 : ((List.map blk [] : List Value) ++ List.replicate (bl.length - ([] : List Nat).length) (Value.slice none 0 0)) = Z2.toList := by rw [hZl]; rfl
        rw [e1]
        have e2 : bl.length = Z2.toList.length := by rw [hZl, List.length_replicate]
        have h54 : (W0'.alloc (.cells Z2 54)).heap[W0'.heap.size]? = some (.cells Z2 54 (0, 0)) := heap_alloc_new W0' _
        have := own_mk (cap := bl.length) (xs := Z2.toList) (Nat.le_refl _) h54 hZ2 (by omega) (by unfold maxLen; omega) (fun j hj => by simp)
        rwa [← e2] at this
      have HF : Hid (FitShape bl k) := ⟨f1, f2, by rw [Int.toNat_natCast]; exact f3, f4, f5⟩
      have HZ : Hid (Z.size = 8192 ∧ ∀ j, j < 4096 → Z[j * 2]? = some (.int .u64 0) ∧ Z[j * 2 + 1]? = some (.int .i64 0)) := ⟨hZ, hZ0⟩
      clear hZ2 hZl hZ hZ0 H14 H15 f1 f2 f3 hfit
      go_wp2
      go_loopw [12] (fun s12 wr => ∃ gs : List Nat, s12 = .int .i64 gs.length ∧ Hid (Copied wr W0'.heap.size W0'.heap.size bl gs ∧ Below W0'.heap.size W0' wr ∧ W0'.heap.size < wr.heap.size)) (fun s12 _ => bl.length - (intOf s12).toNat)
      case atStart => exact ⟨[], by go_num, H0.out.1, H0.out.2, lt_of_heap (heap_alloc_new W0' _)⟩
      case round =>
        obtain ⟨gs, rfl, HC⟩ := hrel
        have hgl := HC.out.1.le
        by_cases hlt : gs.length < bl.length
        · have hbc := HL.out.below HC.out.2.1
          obtain ⟨c1, c2, c3, _⟩ := hbc.cell gs.length hlt
          have e4 : bl[gs.length].L.length = 4096 := HF.out.2.1 gs.length hlt
          obtain ⟨y, hy⟩ := c3 (by omega)
          rw [hy, e4] at c1
          have HY : Hid (∀ V, Turned wr V [] → V.cell? (x.add gs.length) = some (.slice (some y) 4096 bl[gs.length].c) ∧ LinesAt V W0'.heap.size y bl[gs.length].L) := by
            intro V ht
            have b1 : Below W0'.heap.size wr V := ht.toBelow (fun x hx => by simp at hx) (Nat.le_of_lt HC.out.2.2)
            exact ⟨(b1.cell (p := x.add gs.length) (by unfold Addr.add; split <;> exact HL.out.lt (by omega))).trans c1, (c2 y hy).below b1⟩
          have HI0 : Hid (Turned wr (wr.alloc (.cells Z 57)) [] ∧ BlockAt (wr.alloc (.cells Z 57)) wr.heap.size (lin bl[gs.length].L 0)) := ⟨Turned.alloc wr _ [], Z, heap_alloc_new wr _, HZ.out.1, HZ.out.2⟩
          have HE : Hid (bl[gs.length].L.length = 4096 ∧ valB bl = valB bl) := ⟨e4, rfl⟩
          have HV : Hid (∀ V G, wr.heap.size ≤ G → Turned wr V [] → BlockAt V G (lin bl[gs.length].L 4096) → Copied (V.setCell ⟨W0'.heap.size, gs.length, none⟩ (.slice (some ⟨G, 0, none⟩) 4096 4096)) W0'.heap.size W0'.heap.size bl (gs ++ [G]) ∧ Below W0'.heap.size W0' (V.setCell ⟨W0'.heap.size, gs.length, none⟩ (.slice (some ⟨G, 0, none⟩) 4096 4096)) ∧ W0'.heap.size < (V.setCell ⟨W0'.heap.size, gs.length, none⟩ (.slice (some ⟨G, 0, none⟩) 4096 4096)).heap.size ∧ V.cell? ⟨W0'.heap.size, gs.length, none⟩ = some (.slice none 0 0) ∧ V.frozen? ⟨W0'.heap.size, gs.length, none⟩ = false) := by
            intro V G hG ht hb
            have b1 : Below W0'.heap.size wr V := ht.toBelow (fun x hx => by simp at hx) (Nat.le_of_lt HC.out.2.2)
            have hrow : Own V W0'.heap.size 54 (.slice (some ⟨W0'.heap.size, 0, none⟩) bl.length bl.length) (gs.map blk ++ List.replicate (bl.length - gs.length) (.slice none 0 0)) := own_keptL HC.out.1.row (fun x hx => ht.block x (own_mem_lt HC.out.1.row x hx).1 (by simp))
            obtain ⟨r1, r2⟩ := own_cell hrow (j := gs.length) (x := .slice none 0 0) (by
              rw [List.getElem?_append_right (by simp), List.length_map, Nat.sub_self, List.getElem?_replicate, if_pos (by omega)])
            refine ⟨HC.out.1.step HC.out.2.2 hlt hG ht (block_kept hb rfl ?_), (HC.out.2.1.trans b1).setCell (p := ⟨W0'.heap.size, gs.length, none⟩) (Nat.le_refl _) _, ?_, r1, r2⟩
            · intro j hj
              rw [valB_at bl gs.length j hlt hj (by rw [e4]; exact hj)]
              unfold lin
              rw [if_pos hj, List.getD_eq_getElem?_getD, List.getElem?_eq_getElem (by rw [e4]; exact hj)]
              rfl
            · have h1 := HC.out.2.2
              have h2 := ht.size
              simp [World.setCell]
              omega
          obtain ⟨k1, _⟩ := HY.out _ HI0.out.1
          generalize bl[gs.length].c = ci at *
          generalize bl[gs.length].L = L at *
          clear c2 c3 hbc hy e4 HC
          go_wp2
          generalize hGd : wr.heap.size = G at *
          have HG : Hid (wr.heap.size = G) := hGd
          clear hGd c1
          go_loopw [14] (fun s14 wr3 => ∃ j : Nat, j ≤ 4096 ∧ s14 = .int .i64 j ∧ Hid (Turned wr wr3 [] ∧ BlockAt wr3 G (lin L j))) (fun s14 _ => 4096 - (intOf s14).toNat)
          case atStart => exact ⟨0, Nat.zero_le _, by go_num, HI0⟩
          case round =>
            obtain ⟨j, hj, rfl, HJ⟩ := hrel
            obtain ⟨k2, k3⟩ := HY.out _ HJ.out.1
            by_cases hj4 : j < 4096
            · have hjL : j < L.length := by have := HE.out.1; omega
              obtain ⟨k4, k5⟩ := k3.cell j hjL
              obtain ⟨m1, m2, m3, m4⟩ := cell_at HJ.out.2 j hj4
              have hGw : G < wr.heap.size := by
                obtain ⟨cur, h1, _⟩ := HJ.out.2
                exact lt_of_heap h1
              have HS := inner_step HJ.out.1 (Nat.le_of_eq HG.out) HJ.out.2 hj4 hjL
              have HSS : Hid _ := HS
              generalize L[j].1 = lh at *
              generalize L[j].2 = lo at *
              generalize (lin L j j).1 = z1 at *
              generalize (lin L j j).2 = z2 at *
              clear HS k3
              go_wp2_with fail
              go_region_with (go_at_call 16; refine (mkline _ _ _).mono ?_; rintro e W' ⟨rfl, rfl⟩)
              all_goals
                go_wp2
                go_roundw
                case rel => exact ⟨j + 1, by omega, by go_num, HSS⟩
                case measure => simp [intOf]; omega
            · obtain rfl : j = 4096 := by omega
              obtain ⟨v1, v2, v3, v4, v5⟩ := HV.out _ G (Nat.le_refl _) HJ.out.1 HJ.out.2
              have HQ : Hid _ := And.intro v1 (And.intro v2 v3)
              clear v1 v2 v3 k3
              go_wp2
              go_roundw
              case rel => exact ⟨gs ++ [G], by rw [List.length_append]; go_num, HQ⟩
              case measure => simp [intOf]; omega
        · have hall : gs.length = bl.length := by omega
          have HIX : Hid _ := HC.out.1.index HC.out.2.2 hall k s (by have := HF.out.2.2.1; rwa [Int.toNat_natCast] at this)
          have HW : Hid (Below W0'.heap.size W0' wr ∧ W0'.heap.size ≤ wr.heap.size) := ⟨HC.out.2.1, Nat.le_of_lt HC.out.2.2⟩
          have HR : Hid (∀ V : World, V.heap[W0'.heap.size]? = wr.heap[W0'.heap.size]? → ∀ i (hi : i < bl.length), V.cell? ⟨W0'.heap.size, i, none⟩ = some (.slice (some ⟨gs.getD i 0, 0, none⟩) 4096 4096)) := by
            intro V hV i hi
            have hig : i < gs.length := by omega
            have hrow := HC.out.1.row
            rw [hall, Nat.sub_self, List.replicate_zero, List.append_nil] at hrow
            have hO : Own V W0'.heap.size 54 (.slice (some ⟨W0'.heap.size, 0, none⟩) bl.length bl.length) (gs.map blk) := own_keptL hrow (fun x hx => by
              have hx' : x = W0'.heap.size := by simpa [Value.ownBlock] using hx
              subst hx'
              exact hV)
            exact (own_cell hO (by simp [blk, hig])).1
          have hRlt := HC.out.2.2
          clear HC hgl hlt
          rw [hall]
          go_wp2_with fail
          refine (mkindex (some ⟨W0'.heap.size, 0, none⟩) bl.length bl.length k s wr).mono ?_
          rintro e W2 ⟨rfl, hW2⟩
          rw [← hW2] at HIX
          have HR2 : Hid (W2.heap[W0'.heap.size]? = wr.heap[W0'.heap.size]? ∧ Below W0'.heap.size W0' W2) := by
            subst hW2
            exact ⟨Below.heap_alloc _ _ _ hRlt, HW.out.1.alloc HW.out.2 _⟩
          clear hW2 hRlt HW
          generalize wr.heap.size = X at *
          go_wp2_with fail
          refine (mkline h o W2).mono ?_
          rintro e W3 ⟨rfl, hW3⟩
          have HI3 : Hid (Idx W3 W0'.heap.size X (.slice (some ⟨W0'.heap.size, 0, none⟩) bl.length bl.length) gs k s (valB bl) ∧ W3.heap[W0'.heap.size]? = wr.heap[W0'.heap.size]? ∧ Below W0'.heap.size W0' W3) := by
            subst hW3
            exact ⟨HIX.out.turned (Turned.alloc W2 _ []), (Below.heap_alloc _ _ _ (lt_of_heap (own_first_heap HIX.out.row).choose_spec)).trans HR2.out.1, HR2.out.2.alloc HIX.out.size _⟩
          clear hW3 HIX HR2
          have HA : Hid _ := zzadd_anyF W0'.heap.size X _ gs k s (valB bl) h o W3 HI3.out.1 (some ⟨W0'.heap.size, 0, none⟩) (by rw [hall]) (by have := HF.out.2.2.2.2; omega)
          go_wp2_with fail
          refine Calls.mono HA.out ?_
          rintro e W4 ⟨rfl, bv', bs', q1, ⟨ex, q2⟩, q3, q4⟩
          have hcnt := q1.count
          obtain ⟨ab, cb, rfl, hab⟩ : ∃ ab cb, bv' = .slice ab bs'.length cb ∧ (0 < bs'.length → ∃ gr, ab = some ⟨gr, 0, none⟩) := by
            rcases own_open q1.row with ⟨e1, e2⟩ | ⟨g, cap', cur, e1, _⟩
            · have e3 : bs' = [] := List.map_eq_nil_iff.1 e2
              rw [e3] at hcnt
              simp at hcnt
              omega
            · rw [List.length_map] at e1
              exact ⟨_, _, e1, fun _ => ⟨g, rfl⟩⟩
          obtain ⟨gr, rfl⟩ := hab (by omega)
          have k0 : W4.cell? ⟨X, 0, none⟩ = some (.slice (some ⟨gr, 0, none⟩) bs'.length cb) := by rw [cell_heap q1.head]; rfl
          have k1 : W4.cell? ⟨X, 1, none⟩ = some (.int .i64 ((k : Int) + 1)) := by rw [cell_heap q1.head]; rfl
          have k2 : W4.cell? ⟨X, 2, none⟩ = some (.bool s) := by rw [cell_heap q1.head]; rfl
          have e3 : ((bs'.length : Int) != ((k : Int) + 4096) / 4096) = false := by
            have e4 : ((k : Int) + 4096) / 4096 = (bs'.length : Int) := by omega
            rw [e4]
            simp
          have hbl' : bs'.length ≤ 17 := by omega
          have HV : Hid (∀ (V : World) (i : Nat) (hi : i < bs'.length) (j : Nat), j < 4096 → Turned W4 V [] → V.cell? ⟨gr, i, none⟩ = some (.slice (some ⟨bs'[i], 0, none⟩) 4096 4096) ∧
              V.cell? ⟨bs'[i], j * 2, none⟩ = some (.int .u64 (put (valB bl) k bl.length (h, o) (i * 4096 + j)).1) ∧ V.cell? ⟨bs'[i], j * 2 + 1, none⟩ = some (.int .i64 (put (valB bl) k bl.length (h, o) (i * 4096 + j)).2)) := by
            intro V i hi j hj ht
            have I := q1.turned ht
            obtain ⟨c1, c2, _, _⟩ := cell_at (I.blocks i bs'[i] (List.getElem?_eq_getElem hi)) j hj
            rw [hall] at c1 c2
            exact ⟨(own_cell I.row (by simp [blk, hi])).1, c1, c2⟩
          have HXS : Hid (∀ (V : World) (i : Nat) (hi : i < bl.length) (hb : i < bs'.length), Turned W4 V [] → V.cell? ⟨W0'.heap.size, i, none⟩ = some (.slice (some ⟨bs'[i], 0, none⟩) 4096 4096)) := by
            intro V i hi hb ht
            have hR4 : V.heap[W0'.heap.size]? = wr.heap[W0'.heap.size]? := by
              have h1 := q4 W0'.heap.size (by simp [Value.ownBlock])
              have hlt4 : W0'.heap.size < W4.heap.size := by
                have h5 := lt_of_heap (own_first_heap HI3.out.1.row).choose_spec
                have h6 := q3.size
                omega
              exact (ht.block _ hlt4 (by simp)).trans (h1.trans HI3.out.2.1)
            have h2 := HR.out V hR4 i hi
            have hig : i < gs.length := by omega
            have h3 : bs'[i] = gs.getD i 0 := by
              simp only [q2]
              rw [List.getElem_append_left hig, List.getD_eq_getElem?_getD, List.getElem?_eq_getElem hig]
              rfl
            rw [h3]
            exact h2
          have HBL : Hid (∀ (V : World) (i : Nat) (hi : i < bl.length) (j : Nat), j < 4096 → Turned W4 V [] → ∃ y ci, V.cell? (x.add i) = some (.slice (some y) 4096 ci) ∧ V.cell? (y.add (j * 2)) = some (.int .u64 (valB bl (i * 4096 + j)).1) ∧ V.cell? ⟨(y.add (j * 2)).block, (y.add (j * 2)).off + 1, none⟩ = some (.int .i64 (valB bl (i * 4096 + j)).2)) := by
            intro V i hi j hj ht
            have hb := HL.out.below ((HI3.out.2.2.trans q3).trans (ht.toBelow (fun x hx => by simp at hx) q1.size))
            obtain ⟨c1, c2, c3, _⟩ := hb.cell i hi
            have e4 : bl[i].L.length = 4096 := HF.out.2.1 i hi
            obtain ⟨y, hy⟩ := c3 (by omega)
            rw [hy, e4] at c1
            obtain ⟨d1, d2⟩ := (c2 y hy).cell j (by omega)
            rw [valB_at bl i j hi hj (by omega)]
            exact ⟨y, _, c1, d1, d2⟩
          have HW : Hid (Below W0'.heap.size W0' W4 ∧ W0'.heap.size ≤ W4.heap.size) := ⟨HI3.out.2.2.trans q3, q1.size⟩
          have hbb : bl.length ≤ bs'.length := by rw [q2, List.length_append]; omega
          clear q1 q2 q3 q4 HA HI3 hcnt HR hab HL HF HZ hmk hmk2 H0
          go_wp2_with fail
          refine (parts X _ _ _ W4 k0 k1 k2).mono ?_
          rintro e W5 ⟨rfl, q, hW5⟩
          have T2 : Hid (Turned W4 W5 []) := by rw [hW5]; exact Turned.drewN W4 q []
          clear hW5 k0 k1 k2
          go_wp2
          go_loopw [19] (fun s19 wr2 => ∃ i : Nat, i ≤ bs'.length ∧ s19 = .int .i64 i ∧ Hid (Turned W4 wr2 [])) (fun s19 _ => bs'.length - (intOf s19).toNat)
          case atStart => exact ⟨0, Nat.zero_le _, by go_num, T2⟩
          case round =>
            obtain ⟨i, hi, rfl, HT⟩ := hrel
            by_cases hib : i < bs'.length
            · by_cases hxb : i < bl.length
              · obtain ⟨d1, _, _⟩ := HV.out _ i hib 0 (by omega) HT.out
                have d2 := HXS.out _ i hxb hib HT.out
                have hg1 : decide ((i : Int) < (bl.length : Int)) = true := by rw [decide_eq_true_iff]; omega
                have q66 := neq66
                have HTq : Hid (∀ q, Turned W4 (wr.drewN q) []) := fun q => HT.out.trans (Turned.drewN _ q []) (fun x hx => .inl hx)
                go_wp2
                go_quiet (fail)
                go_wp2
                go_loopw [20] (fun s20 wr3 => ∃ j : Nat, j ≤ 4096 ∧ s20 = .int .i64 j ∧ Hid (Turned W4 wr3 [])) (fun s20 _ => 4096 - (intOf s20).toNat)
                case atStart => exact ⟨0, Nat.zero_le _, by go_num, HTq.out _⟩
                case round =>
                  obtain ⟨j, hj, rfl, HT3⟩ := hrel
                  by_cases hjb : j < 4096
                  · obtain ⟨d1', d3, d4⟩ := HV.out _ i hib j hjb HT3.out
                    have HT5 : Hid (∀ q lh lo, Turned W4 ((wr.alloc (.cells #[.int .u64 lh, .int .i64 lo] 57)).drewN q) []) := fun q lh lo => (HT3.out.trans (Turned.alloc wr _ []) (fun x hx => .inl hx)).trans (Turned.drewN _ q []) (fun x hx => .inl hx)
                    by_cases hp : i * 4096 + j = k
                    · have hpk : (((i : Int) * 4096 + (j : Int)) == (k : Int)) = true := by rw [beq_iff_eq]; omega
                      have hv : put (valB bl) k bl.length (h, o) (i * 4096 + j) = (h, o) := by unfold put; rw [if_pos hp]
                      rw [hv] at d3 d4
                      go_wp2_with fail
                      refine (lineparts _ _ wr).mono ?_
                      rintro e W6 ⟨rfl, q6, hW6⟩
                      have T6 : Hid (Turned W4 W6 []) := by rw [hW6]; exact HT5.out q6 h o
                      clear hW6 HT5 hv hp d1 d1' d3 d4
                      go_wp2
                      go_roundw
                      case rel => exact ⟨j + 1, by omega, by go_num, T6⟩
                      case measure => simp [intOf]; omega
                    · have hpk : (((i : Int) * 4096 + (j : Int)) == (k : Int)) = false := by rw [beq_eq_false_iff_ne]; omega
                      have hv : put (valB bl) k bl.length (h, o) (i * 4096 + j) = valB bl (i * 4096 + j) := by unfold put; rw [if_neg hp, if_pos (by omega)]
                      rw [hv] at d3 d4
                      have HLp : Hid (∀ q lh lo, ∃ y ci, ((wr.alloc (.cells #[.int .u64 lh, .int .i64 lo] 57)).drewN q).cell? (x.add i) = some (.slice (some y) 4096 ci) ∧ ((wr.alloc (.cells #[.int .u64 lh, .int .i64 lo] 57)).drewN q).cell? (y.add (j * 2)) = some (.int .u64 (valB bl (i * 4096 + j)).1) ∧ ((wr.alloc (.cells #[.int .u64 lh, .int .i64 lo] 57)).drewN q).cell? ⟨(y.add (j * 2)).block, (y.add (j * 2)).off + 1, none⟩ = some (.int .i64 (valB bl (i * 4096 + j)).2)) := fun q lh lo => HBL.out _ i hxb j hjb (HT5.out q lh lo)
                      generalize valB bl (i * 4096 + j) = kk at *
                      go_wp2_with fail
                      refine (lineparts _ _ wr).mono ?_
                      rintro e W6 ⟨rfl, q6, hW6⟩
                      obtain ⟨y, ci, y1, y2, y3⟩ := HLp.out q6 kk.1 kk.2
                      rw [← hW6] at y1 y2 y3
                      have T6 : Hid (Turned W4 W6 []) := by rw [hW6]; exact HT5.out q6 kk.1 kk.2
                      clear hW6 HT5 hv hp d1 d1' d3 d4 HLp
                      go_wp2
                      go_roundw
                      case rel => exact ⟨j + 1, by omega, by go_num, T6⟩
                      case measure => simp [intOf]; omega
                  · obtain rfl : j = 4096 := by omega
                    go_wp2
                    go_roundw
                    case rel => exact ⟨i + 1, by omega, by go_num, HT3⟩
                    case measure => simp [intOf]; omega
              · obtain ⟨d1, _, _⟩ := HV.out _ i hib 0 (by omega) HT.out
                have hg1 : decide ((i : Int) < (bl.length : Int)) = false := by rw [decide_eq_false_iff_not]; omega
                have HTq : Hid (∀ q, Turned W4 (wr.drewN q) []) := fun q => HT.out.trans (Turned.drewN _ q []) (fun x hx => .inl hx)
                go_wp2
                go_quiet (fail)
                go_wp2
                go_loopw [20] (fun s20 wr3 => ∃ j : Nat, j ≤ 4096 ∧ s20 = .int .i64 j ∧ Hid (Turned W4 wr3 [])) (fun s20 _ => 4096 - (intOf s20).toNat)
                case atStart => exact ⟨0, Nat.zero_le _, by go_num, HTq.out _⟩
                case round =>
                  obtain ⟨j, hj, rfl, HT3⟩ := hrel
                  by_cases hjb : j < 4096
                  · obtain ⟨d1', d3, d4⟩ := HV.out _ i hib j hjb HT3.out
                    have HT5 : Hid (∀ q lh lo, Turned W4 ((wr.alloc (.cells #[.int .u64 lh, .int .i64 lo] 57)).drewN q) []) := fun q lh lo => (HT3.out.trans (Turned.alloc wr _ []) (fun x hx => .inl hx)).trans (Turned.drewN _ q []) (fun x hx => .inl hx)
                    by_cases hp : i * 4096 + j = k
                    · have hpk : (((i : Int) * 4096 + (j : Int)) == (k : Int)) = true := by rw [beq_iff_eq]; omega
                      have hv : put (valB bl) k bl.length (h, o) (i * 4096 + j) = (h, o) := by unfold put; rw [if_pos hp]
                      rw [hv] at d3 d4
                      go_wp2_with fail
                      refine (lineparts _ _ wr).mono ?_
                      rintro e W6 ⟨rfl, q6, hW6⟩
                      have T6 : Hid (Turned W4 W6 []) := by rw [hW6]; exact HT5.out q6 h o
                      clear hW6 HT5 hv hp d1 d1' d3 d4
                      go_wp2
                      go_roundw
                      case rel => exact ⟨j + 1, by omega, by go_num, T6⟩
                      case measure => simp [intOf]; omega
                    · have hpk : (((i : Int) * 4096 + (j : Int)) == (k : Int)) = false := by rw [beq_eq_false_iff_ne]; omega
                      have hv : put (valB bl) k bl.length (h, o) (i * 4096 + j) = (0, 0) := by unfold put; rw [if_neg hp, if_neg (by omega)]
                      rw [hv] at d3 d4
                      go_wp2_with fail
                      refine (lineparts _ _ wr).mono ?_
                      rintro e W6 ⟨rfl, q6, hW6⟩
                      have T6 : Hid (Turned W4 W6 []) := by rw [hW6]; exact HT5.out q6 0 0
                      clear hW6 HT5 hv hp d1 d1' d3 d4
                      go_wp2
                      go_roundw
                      case rel => exact ⟨j + 1, by omega, by go_num, T6⟩
                      case measure => simp [intOf]; omega
                  · obtain rfl : j = 4096 := by omega
                    go_wp2
                    go_roundw
                    case rel => exact ⟨i + 1, by omega, by go_num, HT3⟩
                    case measure => simp [intOf]; omega
            · go_wp2
              go_ret
              exact ⟨rfl, HW.out.1.trans (HT.out.toBelow (fun x hx => by simp at hx) HW.out.2)⟩
end Go.Proofs.Qxb6603852a
