/-
  regB1Pages (24) and regB1Maps (9): the maps lie in new blocks; each element is nil or a page of the copy.
-/
import Derived.Test.Qxb6603852aEn5
import Derived.Maps.Own
namespace Go.Proofs.Qxb6603852a
open Go.RowKit Go.Maps
set_option linter.unusedVariables false

/-- A page that can be read. -/
def PageV (w0 : World) (B0 : Nat) (v : Value) : Prop := ∃ s : Sl, v = .slice s.a s.n s.c ∧ BytesAt w0 (· < B0) s

open Classical in
/-- How an element of such a map reads: it is a page that can be read. -/
noncomputable def RD (w0 : World) (B0 : Nat) (v : Value) : Option (DataW Unit × List MemPlace) := if PageV w0 B0 v then some (.nil, []) else none

theorem rd_mk' {w0 : World} {B0 : Nat} {v : Value} (h : PageV w0 B0 v) : RD w0 B0 v = some (.nil, []) := by
  unfold RD
  rw [if_pos h]
theorem rd_inv {w0 : World} {B0 : Nat} {v : Value} {z : DataW Unit × List MemPlace} (h : RD w0 B0 v = some z) : PageV w0 B0 v := by
  unfold RD at h
  by_cases hp : PageV w0 B0 v
  · exact hp
  · rw [if_neg hp] at h
    cases h

theorem law2 : Keyed Try.prog 2 := int_keyed Try.underlying2

def IsMap (w0 : World) (B0 : Nat) (w : World) (b : Nat) : Prop := ∃ (n : Nat) (D : DataW Unit), w.ownsMap Try.prog 2 (RD w0 B0) b n D

theorem IsMap.same {w0 w w' : World} {B0 b : Nat} (h : IsMap w0 B0 w b) (hb : w'.heap[b]? = w.heap[b]?) : IsMap w0 B0 w' b := by
  obtain ⟨n, D, es, clock, h1, h2, h3, h4⟩ := h
  exact ⟨n, D, es, clock, hb.trans h1, h2, h3, h4⟩

def MapIn (w0 : World) (B0 : Nat) (w : World) (ok : Nat → Prop) (m : Option Nat) : Prop := ∀ b, m = some b → ok b ∧ IsMap w0 B0 w b

def Mapped (w0 : World) (B0 : Nat) (w : World) (e : Ending) (w' : World) : Prop := ∃ m, e = .returned (.map m) ∧ MapIn w0 B0 w' (New w w') m ∧ Below w.heap.size w w'

set_option maxHeartbeats 2000000 in
set_option maxRecDepth 100000 in
theorem pages24 (w0 : World) (B0 : Nat) (e : Ent) (w : World) (HE : Hid (EntIn w0 (· < B0) e)) (HF : Hid (EntFit e)) (HB : Hid (Below B0 w0 w ∧ B0 ≤ w.heap.size)) :
    Calls Try.prog 24 #[.agg #[.int .u32 e.d, .slice e.o.a e.o.n e.o.c, .slice e.p.a e.p.n e.p.c]] w (Mapped w0 B0 w) := by
  obtain ⟨d, ⟨oa, on, oc⟩, ⟨pa, pn, pc⟩, pg⟩ := e
  cases oa with
  | none =>
    go_enter Try.func24, Try.ntmps24
    go_wp2
    go_ret
    exact ⟨none, rfl, (fun b hb => by cases hb), below_alloc _ _⟩
  | some x =>
    have hmm := @run_makeMap Try.prog
    have hon : on ≤ 1048576 := HF.out.1
    have hpn : pn ≤ 1048576 := HF.out.2.1
    have H0 : Hid (((EntW w ⟨d, ⟨some x, on, oc⟩, ⟨pa, pn, pc⟩, pg⟩).alloc (.map #[] 0)).ownsMap Try.prog 2 (RD w0 B0) (w.heap.size + 1) 0 (.map []) ∧ Below w.heap.size w ((EntW w ⟨d, ⟨some x, on, oc⟩, ⟨pa, pn, pc⟩, pg⟩).alloc (.map #[] 0)) ∧ ((EntW w ⟨d, ⟨some x, on, oc⟩, ⟨pa, pn, pc⟩, pg⟩).alloc (.map #[] 0)).heap[w.heap.size]? = some (.cells #[.int .u32 d, .slice (some x) on oc, .slice pa pn pc] 47 (0, 0))) := by
      have hs : (EntW w ⟨d, ⟨some x, on, oc⟩, ⟨pa, pn, pc⟩, pg⟩).heap.size = w.heap.size + 1 := size_alloc _ _
      refine ⟨?_, (below_alloc w _).alloc (by rw [size_alloc]; omega) _, ?_⟩
      · have := World.ownsMap_made (EntW w ⟨d, ⟨some x, on, oc⟩, ⟨pa, pn, pc⟩, pg⟩) Try.prog 2 (RD w0 B0)
        rw [hs] at this
        exact this
      · rw [Below.heap_alloc _ _ _ (by omega)]
        exact heap_alloc_new w _
    have HX : Hid (∀ V, Below w.heap.size w V → (∀ j, j < on → ∃ z, V.cell? (x.add j) = some (.int .i64 z) ∧ (Lit.int .i64 z).wf = true) ∧ ∀ j, j < pn → ∃ y, pa = some y ∧ V.cell? (y.add j) = some (.slice (pg j).a (pg j).n (pg j).c)) := by
      intro V h
      have h1 : Below B0 w0 V := HB.out.1.trans (h.mono HB.out.2)
      have h2 : EntIn V (· < B0) ⟨d, ⟨some x, on, oc⟩, ⟨pa, pn, pc⟩, pg⟩ := HE.out.same (fun k hk => h1.block k hk) (fun _ h => h)
      refine ⟨fun j hj => h2.1.2 x rfl j hj, fun j hj => ?_⟩
      obtain ⟨y, hy, _⟩ := h2.2.1.1 (show 0 < pn by omega)
      exact ⟨y, hy, (h2.2.2 j hj).1 y hy⟩
    have HV : Hid (∀ j, j < pn → RD w0 B0 (.slice (pg j).a (pg j).n (pg j).c) = some (.nil, [])) := fun j hj => rd_mk' ⟨pg j, rfl, (HE.out.2.2 j hj).2⟩
    have HN : RD w0 B0 (.slice none 0 0) = some (.nil, []) := rd_mk' ⟨⟨none, 0, 0⟩, rfl, ⟨fun h => absurd h (Nat.lt_irrefl 0), Nat.zero_le _⟩, fun y hy => by cases hy⟩
    clear HE HF
    go_enter Try.func24, Try.ntmps24
    go_wp2
    generalize hG : w.heap.size = G at *
    have HG : Hid (w.heap.size = G) := hG
    clear hG
    go_loopw [4] (fun s4 wr => ∃ j : Nat, s4 = .int .i64 j ∧ j ≤ on ∧ Hid (∃ D, wr.ownsMap Try.prog 2 (RD w0 B0) (G + 1) j D ∧ Below G w wr ∧ wr.heap[G]? = some (.cells #[.int .u32 d, .slice (some x) on oc, .slice pa pn pc] 47 (0, 0)))) (fun s4 _ => on - (intOf s4).toNat)
    case atStart => exact ⟨0, by go_num, Nat.zero_le _, _, H0⟩
    case round =>
      obtain ⟨j, rfl, hj, HJ⟩ := hrel
      obtain ⟨D, hown, hbl, hbx⟩ := HJ.out
      have e1 : wr.cell? ⟨G, 1, none⟩ = some (.slice (some x) on oc) := by rw [cell_heap hbx]; rfl
      have e2 : wr.cell? ⟨G, 2, none⟩ = some (.slice pa pn pc) := by rw [cell_heap hbx]; rfl
      have HD : Hid (∀ w1 D1, w1.ownsMap Try.prog 2 (RD w0 B0) (G + 1) (j + 1) D1 → wr.grownBy w1 (some (G + 1)) → ∃ D, w1.ownsMap Try.prog 2 (RD w0 B0) (G + 1) (j + 1) D ∧ Below G w w1 ∧ w1.heap[G]? = some (.cells #[.int .u32 d, .slice (some x) on oc, .slice pa pn pc] 47 (0, 0))) := by
        intro w1 D1 h1 h2
        refine ⟨D1, h1, hbl.grown h2 (by have := hbl.size; have := HG.out; omega) (fun k hk => by cases hk; omega), ?_⟩
        rw [h2.block G (lt_of_heap hbx) (by simp)]
        exact hbx
      by_cases hlt : j < on
      · obtain ⟨z, hz, hwf⟩ := (HX.out wr hbl).1 j hlt
        have hkey := keyOf_int_mk (P := Try.prog) Try.underlying2 hwf
        by_cases hp : j < pn
        · obtain ⟨y, rfl, hy⟩ := (HX.out wr hbl).2 j hp
          have hval := HV.out j hp
          generalize pg j = pk at *
          obtain ⟨ga, gn, gc⟩ := pk
          simp only at hy hval
          have HO : Hid _ := hown
          clear hown hbl hbx HJ hwf
          go_wp2_with (first | (at_mapUpdate; refine wpList_mapUpdate_own _ rfl _ _ _ 37 rfl 2 32 law2 Try.underlying37 (RD w0 B0) (G + 1) j D rfl HO.out (by unfold maxLen; omega) _ _ _ rfl rfl hkey _ [] hval ?_; intro w1 hown1 hgrow1; have HQ : Hid _ := HD.out w1 _ hown1 hgrow1; clear hown1 hgrow1) | go_in)
          go_wp2
          go_roundw
          case rel => exact ⟨j + 1, by go_num, by omega, HQ⟩
          case measure => simp [intOf]; omega
        · have HO : Hid _ := hown
          clear hown hbl hbx HJ hwf
          go_wp2_with (first | (at_mapUpdate; refine wpList_mapUpdate_own _ rfl _ _ _ 37 rfl 2 32 law2 Try.underlying37 (RD w0 B0) (G + 1) j D rfl HO.out (by unfold maxLen; omega) _ _ _ rfl rfl hkey _ [] HN ?_; intro w1 hown1 hgrow1; have HQ : Hid _ := HD.out w1 _ hown1 hgrow1; clear hown1 hgrow1) | go_in)
          go_wp2
          go_roundw
          case rel => exact ⟨j + 1, by go_num, by omega, HQ⟩
          case measure => simp [intOf]; omega
      · obtain rfl : j = on := by omega
        have HQ : Hid (Mapped w0 B0 w (.returned (.map (some (G + 1)))) wr) := by
          refine ⟨some (G + 1), rfl, fun b hb => ?_, by rw [HG.out]; exact hbl⟩
          cases hb
          exact ⟨⟨by rw [HG.out]; omega, hown.lt⟩, _, _, hown⟩
        clear hown hbl hbx HJ HD
        go_wp2
        go_ret
        exact HQ.out

/-- A row of maps. -/
structure MR where
  s : Sl
  m : Nat → Option Nat

def RowIn (w0 : World) (B0 : Nat) (w : World) (ok : Nat → Prop) (r : MR) : Prop := Lies ok r.s ∧ ∀ j, j < r.s.n → (∀ y, r.s.a = some y → w.cell? (y.add j) = some (.map (r.m j))) ∧ MapIn w0 B0 w ok (r.m j)
def MapsAt (w0 : World) (B0 : Nat) (w : World) (ok : Nat → Prop) (s : Sl) (mr : Nat → MR) : Prop := Lies ok s ∧ ∀ i, i < s.n → (∀ y, s.a = some y → w.cell? (y.add i) = some (.slice (mr i).s.a (mr i).s.n (mr i).s.c)) ∧ RowIn w0 B0 w ok (mr i)

section
variable {w0 w w' : World} {B0 : Nat} {ok ok' : Nat → Prop}
theorem MapIn.same {m : Option Nat} (h : MapIn w0 B0 w ok m) (hs : ∀ k, ok k → w'.heap[k]? = w.heap[k]?) (hm : ∀ k, ok k → ok' k) : MapIn w0 B0 w' ok' m :=
  fun b hb => ⟨hm _ (h b hb).1, (h b hb).2.same (hs _ (h b hb).1)⟩
theorem RowIn.same {r : MR} (h : RowIn w0 B0 w ok r) (hs : ∀ k, ok k → w'.heap[k]? = w.heap[k]?) (hm : ∀ k, ok k → ok' k) : RowIn w0 B0 w' ok' r :=
  ⟨h.1.mono hm, fun j hj => ⟨fun y hy => (cellSame hs (by rw [add_blk]; exact h.1.at hy hj)).trans ((h.2 j hj).1 y hy), (h.2 j hj).2.same hs hm⟩⟩
theorem MapsAt.same {s : Sl} {mr : Nat → MR} (h : MapsAt w0 B0 w ok s mr) (hs : ∀ k, ok k → w'.heap[k]? = w.heap[k]?) (hm : ∀ k, ok k → ok' k) : MapsAt w0 B0 w' ok' s mr :=
  ⟨h.1.mono hm, fun j hj => ⟨fun y hy => (cellSame hs (by rw [add_blk]; exact h.1.at hy hj)).trans ((h.2 j hj).1 y hy), (h.2 j hj).2.same hs hm⟩⟩
end

def kM (w0 : World) (B0 : Nat) : Kd (Option Nat) where
  T := 37
  size := 1
  cells m := [.map m]
  good w ok m := MapIn w0 B0 w ok m
  len _ := rfl
  same h hs hm := h.same hs hm

def kW (w0 : World) (B0 : Nat) : Kd MR where
  T := 49
  size := 1
  cells r := [.slice r.s.a r.s.n r.s.c]
  good w ok r := RowIn w0 B0 w ok r
  len _ := rfl
  same h hs hm := h.same hs hm

theorem row_done {w0 w : World} {B0 P n : Nat} {m : Nat → Option Nat} (h : Filled (kM w0 B0) w P n n m) (hn : n ≤ 1048576) : RowIn w0 B0 w (fun b => P ≤ b ∧ b < w.heap.size) ⟨⟨some ⟨P, 0, none⟩, n, n⟩, m⟩ := by
  refine ⟨⟨fun _ => ⟨_, rfl, Nat.le_refl _, h.lt⟩, by show n ≤ _; omega⟩, fun j hj => ⟨fun y hy => ?_, (h.at hj).2.same (fun k hk => rfl) (fun k hk => ⟨by omega, hk.2⟩)⟩⟩
  cases hy
  rw [add_zero_off]
  have := (h.at hj).1 0 _ rfl
  have e : (kM w0 B0).size = 1 := rfl
  rw [e, Nat.mul_one] at this
  exact this

theorem maps_done {w0 w : World} {B0 P n : Nat} {mr : Nat → MR} (h : Filled (kW w0 B0) w P n n mr) (hn : n ≤ 1048576) : MapsAt w0 B0 w (fun b => P ≤ b ∧ b < w.heap.size) ⟨some ⟨P, 0, none⟩, n, n⟩ mr := by
  refine ⟨⟨fun _ => ⟨_, rfl, Nat.le_refl _, h.lt⟩, by show n ≤ _; omega⟩, fun j hj => ⟨fun y hy => ?_, (h.at hj).2.same (fun k hk => rfl) (fun k hk => ⟨by omega, hk.2⟩)⟩⟩
  cases hy
  rw [add_zero_off]
  have := (h.at hj).1 0 _ rfl
  have e : (kW w0 B0).size = 1 := rfl
  rw [e, Nat.mul_one] at this
  exact this

theorem map_step {w0 U V W : World} {B0 E en j : Nat} {f : Nat → Option Nat} {m : Option Nat} (F : Filled (kM w0 B0) V E en j f) (hj : j < en) (hU : Below E U V) (hE : E ≤ V.heap.size) (hW : Below V.heap.size V W) (hm : MapIn w0 B0 W (New V W) m) :
    (∃ f', Filled (kM w0 B0) (W.setCell ⟨E, j, none⟩ (.map m)) E en (j + 1) f' ∧ Below E U (W.setCell ⟨E, j, none⟩ (.map m))) ∧ ∃ v, W.cell? ⟨E, j, none⟩ = some v ∧ W.frozen? ⟨E, j, none⟩ = false := by
  have e : (kM w0 B0).size = 1 := rfl
  have hlt := F.lt
  have h1 := F.step hj hW m (hm.same (fun _ _ => rfl) (fun b hb => ⟨by have := hb.1; omega, hb.2⟩))
  have h2 := F.cell hW hj (t := 0) (show 0 < 1 by decide)
  rw [e, Nat.mul_one] at h1 h2
  exact ⟨⟨_, h1, (hU.trans (hW.mono hE)).setCell (p := ⟨E, j, none⟩) (Nat.le_refl _) _⟩, h2⟩

theorem row_step {w0 w U V : World} {B0 G n i : Nat} {f : Nat → MR} {x : MR} (L : Nat → Nat) (F : Filled (kW w0 B0) U G n i f) (hL : ∀ k, k < i → (f k).s.n = L k) (hi : i < n) (hw : Below G w U) (hG : G ≤ U.heap.size) (hV : Below U.heap.size U V) (hx : RowIn w0 B0 V (fun b => U.heap.size ≤ b ∧ b < V.heap.size) x) (hxL : x.s.n = L i) :
    (∃ f', Filled (kW w0 B0) (V.setCell ⟨G, i, none⟩ (.slice x.s.a x.s.n x.s.c)) G n (i + 1) f' ∧ (∀ k, k < i + 1 → (f' k).s.n = L k) ∧ Below G w (V.setCell ⟨G, i, none⟩ (.slice x.s.a x.s.n x.s.c))) ∧ ∃ v, V.cell? ⟨G, i, none⟩ = some v ∧ V.frozen? ⟨G, i, none⟩ = false := by
  have e : (kW w0 B0).size = 1 := rfl
  have hlt := F.lt
  have h1 := F.step hi hV x (hx.same (fun _ _ => rfl) (fun b hb => ⟨by have := hb.1; omega, hb.2⟩))
  have h2 := F.cell hV hi (t := 0) (show 0 < 1 by decide)
  rw [e, Nat.mul_one] at h1 h2
  refine ⟨⟨_, h1, fun k hk => ?_, (hw.trans (hV.mono hG)).setCell (p := ⟨G, i, none⟩) (Nat.le_refl _) _⟩, h2⟩
  by_cases ek : k = i
  · simp only [ek]
    exact hxL
  · simp only [if_neg ek]
    exact hL k (by omega)

theorem info37 : (Try.prog.info? 37).map (fun i => (i.zero, i.size, i.bytes)) = some (some (.map none), 1, 8) := by kernel_rfl
theorem info49 : (Try.prog.info? 49).map (fun i => (i.zero, i.size, i.bytes)) = some (some (.slice none 0 0), 1, 24) := by kernel_rfl

def Maps9 (w : World) (n : Nat) (r : Nat → Rn) (e : Ending) (w' : World) : Prop := ∃ (a : Option Addr) (c : Nat) (mr : Nat → MR), e = .returned (.slice a n c) ∧ MapsAt w w.heap.size w' (· < w'.heap.size) ⟨a, n, c⟩ mr ∧ (∀ i, i < n → (mr i).s.n = (r i).s.n) ∧ Below w.heap.size w w'

set_option maxHeartbeats 4000000 in
set_option maxRecDepth 100000 in
theorem maps9 (a : Option Addr) (n c : Nat) (r : Nat → Rn) (w : World) (HL : Hid (RunsAt w (· < w.heap.size) ⟨a, n, c⟩ r)) (HF : Hid (RunsFit ⟨a, n, c⟩ r)) : Calls Try.prog 9 #[.slice a n c] w (Maps9 w n r) := by
  have hn : n ≤ 1048576 := HF.out.1
  obtain ⟨Z, hmk, hZ⟩ := mkZ 28 49 _ 1 24 Try.underlying28 info49 n hn (by omega)
  have H0 : Hid (∃ f, Filled (kW w w.heap.size) (w.alloc (.cells Z 49)) w.heap.size n 0 f ∧ (∀ k, k < 0 → (f k).s.n = (r k).s.n) ∧ Below w.heap.size w (w.alloc (.cells Z 49))) := ⟨fun _ => ⟨⟨none, 0, 0⟩, fun _ => none⟩, Filled.start hZ _, fun k hk => absurd hk (Nat.not_lt_zero _), below_alloc _ _⟩
  have H9 : Hid (∀ wr f, Filled (kW w w.heap.size) wr w.heap.size n n f → (∀ k, k < n → (f k).s.n = (r k).s.n) → Below w.heap.size w wr → Maps9 w n r (.returned (.slice (some ⟨w.heap.size, 0, none⟩) n n)) wr) :=
    fun wr f h1 h2 h3 => ⟨_, n, f, rfl, (maps_done h1 hn).same (fun _ _ => rfl) (fun k hk => hk.2), h2, h3⟩
  clear hZ
  generalize hB : w.heap.size = B at *
  have HB : Hid (w.heap.size = B) := hB
  go_enter Try.func9, Try.ntmps9
  go_wp2
  clear hB
  go_loopw [4] (fun s4 wr => ∃ i : Nat, s4 = .int .i64 i ∧ i ≤ n ∧ Hid (∃ f, Filled (kW w B) wr B n i f ∧ (∀ k, k < i → (f k).s.n = (r k).s.n) ∧ Below B w wr)) (fun s4 _ => n - (intOf s4).toNat)
  case atStart => exact ⟨0, by go_num, Nat.zero_le _, H0⟩
  case round =>
    obtain ⟨i, rfl, hi, HI⟩ := hrel
    obtain ⟨U, hU⟩ : ∃ U, U = wr := ⟨_, rfl⟩
    subst hU
    obtain ⟨f0, F0, l0, b0⟩ := HI.out
    by_cases hlt : i < n
    · obtain ⟨x, rfl, _⟩ := HL.out.1.1 (show 0 < n by omega)
      have HC : Hid (∀ V, Below B w V → RnAt V (· < B) (r i) (x.add (i * 5)) ∧ RnIn V (· < B) (r i)) := fun V h => ⟨((HL.out.same (ok' := (· < B)) (fun k hk => h.block k hk) (fun _ h => h)).2 i hlt).1 x rfl, ((HL.out.same (ok' := (· < B)) (fun k hk => h.block k hk) (fun _ h => h)).2 i hlt).2⟩
      have HIN : Hid (RnIn w (· < B) (r i)) := (HL.out.2 i hlt).2
      have HFI : Hid (RnFit (r i)) := HF.out.2 i hlt
      have hBU : B ≤ U.heap.size := by
        have h1 := b0.size
        rw [HB.out] at h1
        exact h1
      have c3 := (HC.out U b0).1.2.2.2.1
      have HF0 : Hid (Filled (kW w B) U B n i f0 ∧ (∀ k, k < i → (f0 k).s.n = (r k).s.n) ∧ Below B w U ∧ B ≤ U.heap.size) := ⟨F0, l0, b0, hBU⟩
      have HST : Hid (∀ (V : World) (x : MR), Below U.heap.size U V → RowIn w B V (fun b => U.heap.size ≤ b ∧ b < V.heap.size) x → x.s.n = (r i).s.n → _) := fun V x h1 h2 h3 => row_step (fun k => (r k).s.n) HF0.out.1 HF0.out.2.1 hlt HF0.out.2.2.1 HF0.out.2.2.2 h1 h2 h3
      clear F0 l0 b0 hBU HI
      have k3 : (r i).s.n ≤ 1048576 := HFI.out.2.2.1
      generalize hri : r i = ri at *
      obtain ⟨nm, ⟨ha, hn', hc'⟩, f, ⟨ea, en, ec⟩, e, ed⟩ := ri
      simp only at c3 k3 HST
      clear hri
      obtain ⟨Z2, hmk2, hZ2⟩ := mkZ 49 37 _ 1 8 Try.underlying49 info37 en k3 (by omega)
      have H1 : Hid (∃ f9, Filled (kM w B) (U.alloc (.cells Z2 37)) U.heap.size en 0 f9 ∧ Below U.heap.size U (U.alloc (.cells Z2 37))) := ⟨fun _ => none, Filled.start hZ2 _, below_alloc _ _⟩
      clear hZ2
      go_wp2
      generalize hRd : U.heap.size = E at *
      have HRd : Hid (U.heap.size = E) := hRd
      clear hRd
      go_loopw [6] (fun s6 wr => ∃ j : Nat, s6 = .int .i64 j ∧ j ≤ en ∧ Hid (∃ f', Filled (kM w B) wr E en j f' ∧ Below E U wr)) (fun s6 _ => en - (intOf s6).toNat)
      case atStart => exact ⟨0, by go_num, Nat.zero_le _, H1⟩
      case round =>
        obtain ⟨j, rfl, hj, HJ⟩ := hrel
        obtain ⟨V, hV⟩ : ∃ V, V = wr := ⟨_, rfl⟩
        subst hV
        obtain ⟨f1, F1, b1⟩ := HJ.out
        have r3 : Below B w V := HF0.out.2.2.1.trans (b1.mono HF0.out.2.2.2)
        have hEV : E ≤ V.heap.size := by
          have h1 := b1.size
          rw [HRd.out] at h1
          exact h1
        have hBV : B ≤ V.heap.size := Nat.le_trans HF0.out.2.2.2 hEV
        have HF1 : Hid (Filled (kM w B) V E en j f1 ∧ Below E U V ∧ E ≤ V.heap.size ∧ Below B w V ∧ B ≤ V.heap.size) := ⟨F1, b1, hEV, r3, hBV⟩
        have c3' := (HC.out V r3).1.2.2.2.1
        simp only at c3'
        clear F1 b1 r3 hEV hBV HJ c3
        by_cases hlt2 : j < en
        · obtain ⟨y, hy, _⟩ := HIN.out.2.1.1.1 (show 0 < en by omega)
          simp only at hy
          subst hy
          obtain ⟨d0, d1, d2⟩ := ((HC.out V HF1.out.2.2.2.1).2.2.1.2 j hlt2).1 y rfl
          simp only at d0 d1 d2
          have H24 : Hid _ := pages24 w B (e j) V (HIN.out.2.1.2 j hlt2).2 (HFI.out.2.2.2.2 j hlt2) ⟨HF1.out.2.2.2.1, HF1.out.2.2.2.2⟩
          generalize e j = ej at *
          obtain ⟨d, ⟨oa, on, oc⟩, ⟨pa, pn, pc⟩, pg⟩ := ej
          simp only at d0 d1 d2 H24
          go_wp2_with fail
          refine Calls.mono H24.out ?_
          rintro e' W ⟨m, rfl, hm, hbw⟩
          obtain ⟨q0, v0, z0, y0⟩ := map_step HF1.out.1 hlt2 HF1.out.2.1 HF1.out.2.2.1 hbw hm
          have HQ : Hid _ := q0
          clear q0 hm hbw
          go_wp2
          go_roundw
          case rel => exact ⟨j + 1, by go_num, by omega, HQ⟩
          case measure => simp [intOf]; omega
        · obtain rfl : j = en := by omega
          obtain ⟨q0, v0, z0, y0⟩ := HST.out V ⟨⟨some ⟨E, 0, none⟩, j, j⟩, f1⟩ HF1.out.2.1 (row_done HF1.out.1 k3) rfl
          have HQ : Hid _ := q0
          clear q0
          go_wp2
          go_roundw
          case rel => exact ⟨i + 1, by go_num, by omega, HQ⟩
          case measure => simp [intOf]; omega
    · obtain rfl : i = n := by omega
      have HD : Hid _ := H9.out U f0 F0 l0 b0
      clear F0 l0 b0
      go_wp2
      go_ret
      exact HD.out
end Go.Proofs.Qxb6603852a
