/-
  regB1CloneRuns (function 8): all of the copy lies in new blocks, and is well formed.
-/
import Derived.Test.Qxb6603852aEn4
import Derived.BigQuiet
import Derived.Deep.RegionHeld3
namespace Go.Proofs.Qxb6603852a
open Go.RowKit
set_option linter.unusedVariables false

def SrcW (w : World) (r : Rn) : World := w.alloc (.cells #[.string r.nm, .slice r.h.a r.h.n r.h.c, .int .u64 r.f, .slice r.s.a r.s.n r.s.c, .string r.en] 35)
def EntW (w : World) (e : Ent) : World := w.alloc (.cells #[.int .u32 e.d, .slice e.o.a e.o.n e.o.c, .slice e.p.a e.p.n e.p.c] 47)

theorem size_alloc (w : World) (o : Obj) : (w.alloc o).heap.size = w.heap.size + 1 := by
  show (Array.push _ _).size = _
  rw [Array.size_push]

theorem below_alloc (w : World) (o : Obj) : Below w.heap.size w (w.alloc o) := (Below.refl _ _).alloc (Nat.le_refl _) _

/-- What the walk is told behind the copy of one page's bytes. -/
theorem page_step {V X W : World} {P pn k : Nat} {pg : Nat → Sl} {s' : Sl} (F : Filled kP X P pn k pg) (hk : k < pn) (hV : Below P V X) (hP : P ≤ X.heap.size) (hW : Below X.heap.size X W) (hs : s'.n ≤ 1048576) (hb : BytesAt W (New X W) s') :
    (∃ pg', Filled kP (W.setCell ⟨P, k, none⟩ (.slice s'.a s'.n s'.c)) P pn (k + 1) pg' ∧ Below P V (W.setCell ⟨P, k, none⟩ (.slice s'.a s'.n s'.c))) ∧ ∃ v, W.cell? ⟨P, k, none⟩ = some v ∧ W.frozen? ⟨P, k, none⟩ = false := by
  have e : kP.size = 1 := rfl
  have hlt := F.lt
  have h1 := F.step hk hW s' ⟨hb.same (fun _ _ => rfl) (fun b hb => ⟨by have := hb.1; omega, hb.2⟩), hs⟩
  have h2 := F.cell hW hk (t := 0) (by decide)
  rw [e, Nat.mul_one] at h1 h2
  exact ⟨⟨_, h1, (hV.trans (hW.mono hP)).setCell (p := ⟨P, k, none⟩) (Nat.le_refl _) _⟩, h2⟩

theorem ent_step {w1 V X W : World} {E en j : Nat} {f : Nat → Ent} {o' p' : Sl} {pg : Nat → Sl} (d : Int) (F : Filled kE V E en j f) (hj : j < en) (h1 : Below E w1 V) (hE : E ≤ V.heap.size) (hX : Below V.heap.size V X)
    (hp : PagesAt X (fun b => V.heap.size ≤ b ∧ b < X.heap.size) p' pg) (hpn : p'.n ≤ 1048576) (hpk : ∀ k, k < p'.n → (pg k).n ≤ 1048576) (hW : Below X.heap.size X W) (ho : OffsAt W (New X W) o') (hon : o'.n ≤ 1048576) :
    (∃ f', Filled kE (((W.setCell ⟨E, j * 3, none⟩ (.int .u32 d)).setCell ⟨E, j * 3 + 1, none⟩ (.slice o'.a o'.n o'.c)).setCell ⟨E, j * 3 + 2, none⟩ (.slice p'.a p'.n p'.c)) E en (j + 1) f' ∧
      Below E w1 (((W.setCell ⟨E, j * 3, none⟩ (.int .u32 d)).setCell ⟨E, j * 3 + 1, none⟩ (.slice o'.a o'.n o'.c)).setCell ⟨E, j * 3 + 2, none⟩ (.slice p'.a p'.n p'.c))) ∧
    (∃ v, W.cell? ⟨E, j * 3, none⟩ = some v ∧ W.frozen? ⟨E, j * 3, none⟩ = false) ∧ (∃ v, W.cell? ⟨E, j * 3 + 1, none⟩ = some v ∧ W.frozen? ⟨E, j * 3 + 1, none⟩ = false) ∧ (∃ v, W.cell? ⟨E, j * 3 + 2, none⟩ = some v ∧ W.frozen? ⟨E, j * 3 + 2, none⟩ = false) := by
  have hlt := F.lt
  have hs := hX.size
  have hVW : Below V.heap.size V W := hX.trans (hW.mono hs)
  have hs2 := hW.size
  have g := F.step hj hVW ⟨d, o', p', pg⟩ ⟨⟨ho.same (fun _ _ => rfl) (fun b hb => ⟨by have := hb.1; omega, hb.2⟩), hp.same (fun b hb => hW.block b hb.2) (fun b hb => ⟨by omega, by omega⟩)⟩, hon, hpn, hpk⟩
  refine ⟨⟨_, g, ?_⟩, F.cell hVW hj (t := 0) (by decide), F.cell hVW hj (t := 1) (by decide), F.cell hVW hj (t := 2) (by decide)⟩
  exact (((h1.trans (hVW.mono hE)).setCell (p := ⟨E, j * 3, none⟩) (Nat.le_refl _) _).setCell (p := ⟨E, j * 3 + 1, none⟩) (Nat.le_refl _) _).setCell (p := ⟨E, j * 3 + 2, none⟩) (Nat.le_refl _) _

theorem run_step {w U V W : World} {G n i : Nat} {f : Nat → Rn} {h' s' : Sl} {e : Nat → Ent} (nm en : ByteArray) (q : Int) (F : Filled kR U G n i f) (hi : i < n) (h1 : Below G w U) (hG : G ≤ U.heap.size) (hV : Below U.heap.size U V)
    (hp : EntsAt V (fun b => U.heap.size ≤ b ∧ b < V.heap.size) s' e) (hpn : s'.n ≤ 1048576) (hpk : ∀ k, k < s'.n → EntFit (e k)) (hW : Below V.heap.size V W) (ho : BytesAt W (New V W) h') (hon : h'.n ≤ 1048576) (hq : 0 ≤ q ∧ q < 18446744073709551616) (hnm : nm.size ≤ 1048576) (hen : en.size ≤ 1048576) :
    (∃ f', Filled kR (((((W.setCell ⟨G, i * 5, none⟩ (.string nm)).setCell ⟨G, i * 5 + 1, none⟩ (.slice h'.a h'.n h'.c)).setCell ⟨G, i * 5 + 2, none⟩ (.int .u64 q)).setCell ⟨G, i * 5 + 3, none⟩ (.slice s'.a s'.n s'.c)).setCell ⟨G, i * 5 + 4, none⟩ (.string en)) G n (i + 1) f' ∧
      Below G w (((((W.setCell ⟨G, i * 5, none⟩ (.string nm)).setCell ⟨G, i * 5 + 1, none⟩ (.slice h'.a h'.n h'.c)).setCell ⟨G, i * 5 + 2, none⟩ (.int .u64 q)).setCell ⟨G, i * 5 + 3, none⟩ (.slice s'.a s'.n s'.c)).setCell ⟨G, i * 5 + 4, none⟩ (.string en))) ∧
    (∃ v, W.cell? ⟨G, i * 5, none⟩ = some v ∧ W.frozen? ⟨G, i * 5, none⟩ = false) ∧ (∃ v, W.cell? ⟨G, i * 5 + 1, none⟩ = some v ∧ W.frozen? ⟨G, i * 5 + 1, none⟩ = false) ∧ (∃ v, W.cell? ⟨G, i * 5 + 2, none⟩ = some v ∧ W.frozen? ⟨G, i * 5 + 2, none⟩ = false) ∧ (∃ v, W.cell? ⟨G, i * 5 + 3, none⟩ = some v ∧ W.frozen? ⟨G, i * 5 + 3, none⟩ = false) ∧ (∃ v, W.cell? ⟨G, i * 5 + 4, none⟩ = some v ∧ W.frozen? ⟨G, i * 5 + 4, none⟩ = false) := by
  have hlt := F.lt
  have hs := hV.size
  have hUW : Below U.heap.size U W := hV.trans (hW.mono hs)
  have hs2 := hW.size
  have g := F.step hi hUW ⟨nm, h', q, s', e, en⟩ ⟨⟨ho.same (fun _ _ => rfl) (fun b hb => ⟨by have := hb.1; omega, hb.2⟩), hp.same (fun b hb => hW.block b hb.2) (fun b hb => ⟨by omega, by omega⟩), hq, by show nm.size ≤ _; omega, by show en.size ≤ _; omega⟩, hnm, hon, hpn, hen, hpk⟩
  refine ⟨⟨_, g, ?_⟩, F.cell hUW hi (t := 0) (by decide), F.cell hUW hi (t := 1) (by decide), F.cell hUW hi (t := 2) (by decide), F.cell hUW hi (t := 3) (by decide), F.cell hUW hi (t := 4) (by decide)⟩
  exact (((((h1.trans (hUW.mono hG)).setCell (p := ⟨G, i * 5, none⟩) (Nat.le_refl _) _).setCell (p := ⟨G, i * 5 + 1, none⟩) (Nat.le_refl _) _).setCell (p := ⟨G, i * 5 + 2, none⟩) (Nat.le_refl _) _).setCell (p := ⟨G, i * 5 + 3, none⟩) (Nat.le_refl _) _).setCell (p := ⟨G, i * 5 + 4, none⟩) (Nat.le_refl _) _

theorem src_kept {V W : World} {R : Nat} {nm ed : ByteArray} {ha ea : Option Addr} {hn hc en ec : Nat} {f : Int} (hr : V.heap[R]? = some (.cells #[.string nm, .slice ha hn hc, .int .u64 f, .slice ea en ec, .string ed] 35 (0, 0))) (hW : Below V.heap.size V W) :
    W.cell? ⟨R, 0, none⟩ = some (.string nm) ∧ W.cell? ⟨R, 1, none⟩ = some (.slice ha hn hc) ∧ W.cell? ⟨R, 2, none⟩ = some (.int .u64 f) ∧ W.cell? ⟨R, 3, none⟩ = some (.slice ea en ec) ∧ W.cell? ⟨R, 4, none⟩ = some (.string ed) := by
  have h := (hW.block R (lt_of_heap hr)).trans hr
  refine ⟨?_, ?_, ?_, ?_, ?_⟩ <;> rw [cell_heap h] <;> rfl

theorem ent_kept {V W : World} {R : Nat} {oa pa : Option Addr} {on oc pn pc : Nat} {d : Int} (hr : V.heap[R]? = some (.cells #[.int .u32 d, .slice oa on oc, .slice pa pn pc] 47 (0, 0))) (hW : Below V.heap.size V W) :
    W.cell? ⟨R, 0, none⟩ = some (.int .u32 d) ∧ W.cell? ⟨R, 1, none⟩ = some (.slice oa on oc) ∧ W.cell? ⟨R, 2, none⟩ = some (.slice pa pn pc) := by
  have h := (hW.block R (lt_of_heap hr)).trans hr
  refine ⟨?_, ?_, ?_⟩ <;> rw [cell_heap h] <;> rfl

theorem src_other {V W : World} {R B o : Nat} {nm ed : ByteArray} {ha ea : Option Addr} {hn hc en ec : Nat} {f : Int} (hr : V.heap[R]? = some (.cells #[.string nm, .slice ha hn hc, .int .u64 f, .slice ea en ec, .string ed] 35 (0, 0))) (hW : Below V.heap.size V W) (hne : R ≠ B) (vs : List Value) :
    (W.setCells B o vs).cell? ⟨R, 0, none⟩ = some (.string nm) ∧ (W.setCells B o vs).cell? ⟨R, 1, none⟩ = some (.slice ha hn hc) ∧ (W.setCells B o vs).cell? ⟨R, 2, none⟩ = some (.int .u64 f) ∧ (W.setCells B o vs).cell? ⟨R, 3, none⟩ = some (.slice ea en ec) ∧ (W.setCells B o vs).cell? ⟨R, 4, none⟩ = some (.string ed) := by
  have h := ((other_setCells B vs o W R hne).trans (hW.block R (lt_of_heap hr))).trans hr
  refine ⟨?_, ?_, ?_, ?_, ?_⟩ <;> rw [cell_heap h] <;> rfl

theorem ent_other {V W : World} {R B o : Nat} {oa pa : Option Addr} {on oc pn pc : Nat} {d : Int} (hr : V.heap[R]? = some (.cells #[.int .u32 d, .slice oa on oc, .slice pa pn pc] 47 (0, 0))) (hW : Below V.heap.size V W) (hne : R ≠ B) (vs : List Value) :
    (W.setCells B o vs).cell? ⟨R, 0, none⟩ = some (.int .u32 d) ∧ (W.setCells B o vs).cell? ⟨R, 1, none⟩ = some (.slice oa on oc) ∧ (W.setCells B o vs).cell? ⟨R, 2, none⟩ = some (.slice pa pn pc) := by
  have h := ((other_setCells B vs o W R hne).trans (hW.block R (lt_of_heap hr))).trans hr
  refine ⟨?_, ?_, ?_⟩ <;> rw [cell_heap h] <;> rfl

theorem src_chain {V W : World} {R B o : Nat} {nm ed : ByteArray} {ha ea : Option Addr} {hn hc en ec : Nat} {f : Int} (hr : V.heap[R]? = some (.cells #[.string nm, .slice ha hn hc, .int .u64 f, .slice ea en ec, .string ed] 35 (0, 0))) (hW : Below V.heap.size V W) (hne : R ≠ B) (v0 v1 v2 v3 v4 : Value) :
    (((((W.setCell ⟨B, o, none⟩ v0).setCell ⟨B, o + 1, none⟩ v1).setCell ⟨B, o + 2, none⟩ v2).setCell ⟨B, o + 3, none⟩ v3).setCell ⟨B, o + 4, none⟩ v4).cell? ⟨R, 0, none⟩ = some (.string nm) ∧ (((((W.setCell ⟨B, o, none⟩ v0).setCell ⟨B, o + 1, none⟩ v1).setCell ⟨B, o + 2, none⟩ v2).setCell ⟨B, o + 3, none⟩ v3).setCell ⟨B, o + 4, none⟩ v4).cell? ⟨R, 1, none⟩ = some (.slice ha hn hc) ∧ (((((W.setCell ⟨B, o, none⟩ v0).setCell ⟨B, o + 1, none⟩ v1).setCell ⟨B, o + 2, none⟩ v2).setCell ⟨B, o + 3, none⟩ v3).setCell ⟨B, o + 4, none⟩ v4).cell? ⟨R, 2, none⟩ = some (.int .u64 f) ∧ (((((W.setCell ⟨B, o, none⟩ v0).setCell ⟨B, o + 1, none⟩ v1).setCell ⟨B, o + 2, none⟩ v2).setCell ⟨B, o + 3, none⟩ v3).setCell ⟨B, o + 4, none⟩ v4).cell? ⟨R, 3, none⟩ = some (.slice ea en ec) ∧ (((((W.setCell ⟨B, o, none⟩ v0).setCell ⟨B, o + 1, none⟩ v1).setCell ⟨B, o + 2, none⟩ v2).setCell ⟨B, o + 3, none⟩ v3).setCell ⟨B, o + 4, none⟩ v4).cell? ⟨R, 4, none⟩ = some (.string ed) :=
  src_other hr hW hne [v0, v1, v2, v3, v4]

theorem ent_chain {V W : World} {R B o : Nat} {oa pa : Option Addr} {on oc pn pc : Nat} {d : Int} (hr : V.heap[R]? = some (.cells #[.int .u32 d, .slice oa on oc, .slice pa pn pc] 47 (0, 0))) (hW : Below V.heap.size V W) (hne : R ≠ B) (v0 v1 v2 : Value) :
    (((W.setCell ⟨B, o, none⟩ v0).setCell ⟨B, o + 1, none⟩ v1).setCell ⟨B, o + 2, none⟩ v2).cell? ⟨R, 0, none⟩ = some (.int .u32 d) ∧ (((W.setCell ⟨B, o, none⟩ v0).setCell ⟨B, o + 1, none⟩ v1).setCell ⟨B, o + 2, none⟩ v2).cell? ⟨R, 1, none⟩ = some (.slice oa on oc) ∧ (((W.setCell ⟨B, o, none⟩ v0).setCell ⟨B, o + 1, none⟩ v1).setCell ⟨B, o + 2, none⟩ v2).cell? ⟨R, 2, none⟩ = some (.slice pa pn pc) :=
  ent_other hr hW hne [v0, v1, v2]

def Cloned8 (w : World) (e : Ending) (w' : World) : Prop := ∃ (s' : Sl) (r' : Nat → Rn), e = .returned (.slice s'.a s'.n s'.c) ∧ RunsAt w' (· < w'.heap.size) s' r' ∧ RunsFit s' r' ∧ Below w.heap.size w w'

theorem nil_ents (w : World) (ok : Nat → Prop) (e : Nat → Ent) : EntsAt w ok ⟨none, 0, 0⟩ e := ⟨⟨fun h => absurd h (Nat.lt_irrefl 0), Nat.zero_le _⟩, fun j hj => absurd hj (Nat.not_lt_zero _)⟩
theorem nil_pages (w : World) (ok : Nat → Prop) (e : Nat → Sl) : PagesAt w ok ⟨none, 0, 0⟩ e := ⟨⟨fun h => absurd h (Nat.lt_irrefl 0), Nat.zero_le _⟩, fun j hj => absurd hj (Nat.not_lt_zero _)⟩
theorem nil_runs (w : World) (ok : Nat → Prop) (e : Nat → Rn) : RunsAt w ok ⟨none, 0, 0⟩ e ∧ RunsFit ⟨none, 0, 0⟩ e := ⟨⟨⟨fun h => absurd h (Nat.lt_irrefl 0), Nat.zero_le _⟩, fun j hj => absurd hj (Nat.not_lt_zero _)⟩, Nat.zero_le _, fun j hj => absurd hj (Nat.not_lt_zero _)⟩

set_option maxHeartbeats 8000000 in
set_option maxRecDepth 100000 in
theorem clone8 (a : Option Addr) (n c : Nat) (r : Nat → Rn) (w : World) (HL : Hid (RunsAt w (· < w.heap.size) ⟨a, n, c⟩ r)) (HF : Hid (RunsFit ⟨a, n, c⟩ r)) : Calls Try.prog 8 #[.slice a n c] w (Cloned8 w) := by
  cases a with
  | none =>
    go_enter Try.func8, Try.ntmps8
    go_wp2
    go_ret
    exact ⟨⟨none, 0, 0⟩, r, rfl, (nil_runs w _ r).1, (nil_runs w (fun _ => True) r).2, Below.refl _ _⟩
  | some x =>
    have hn : n ≤ 1048576 := HF.out.1
    obtain ⟨Z, hmk, hZ⟩ := mkZ 22 35 _ 5 88 Try.underlying22 info35 n hn (by omega)
    have H0 : Hid (∃ f, Filled kR (w.alloc (.cells Z 35)) w.heap.size n 0 f ∧ Below w.heap.size w (w.alloc (.cells Z 35))) := ⟨r, Filled.start hZ r, below_alloc _ _⟩
    clear hZ
    generalize hB : w.heap.size = B at *
    have HB : Hid (w.heap.size = B) := hB
    go_enter Try.func8, Try.ntmps8
    go_wp2
    clear hB
    go_loopw [4] (fun s4 wr => ∃ i : Nat, s4 = .int .i64 i ∧ i ≤ n ∧ Hid (∃ f, Filled kR wr B n i f ∧ Below B w wr)) (fun s4 _ => n - (intOf s4).toNat)
    case atStart => exact ⟨0, by go_num, Nat.zero_le _, H0⟩
    case round =>
      obtain ⟨i, rfl, hi, HI⟩ := hrel
      obtain ⟨U, hU⟩ : ∃ U, U = wr := ⟨_, rfl⟩
      subst hU
      by_cases hlt : i < n
      · obtain ⟨f0, F0, b0⟩ := HI.out
        obtain ⟨hc, hin⟩ := (HL.out.same (ok' := (· < B)) (fun k hk => b0.block k hk) (fun _ h => h)).2 i hlt
        obtain ⟨c0, c1, c2, c3, c4⟩ := hc x rfl
        have HIN : Hid (∀ V, Below B w V → RnIn V (· < B) (r i)) := fun V h => (HL.out.2 i hlt).2.same (fun k hk => h.block k hk) (fun _ h => h)
        have HFI : Hid (RnFit (r i)) := HF.out.2 i hlt
        have hBU : B ≤ U.heap.size := by
          have h1 := b0.size
          rw [HB.out] at h1
          exact h1
        have HF0 : Hid (Filled kR U B n i f0 ∧ Below B w U ∧ B ≤ U.heap.size) := ⟨F0, b0, hBU⟩
        clear hc hin F0 b0 hBU HI
        generalize r i = ri at *
        obtain ⟨nm, ⟨ha, hn', hc'⟩, f, ⟨ea, en, ec⟩, e, ed⟩ := ri
        simp only at c0 c1 c2 c3 c4
        have k2 : hn' ≤ 1048576 := HFI.out.2.1
        have k3 : en ≤ 1048576 := HFI.out.2.2.1
        have HST : Hid (∀ (ea : Option Addr) (en ec : Nat) (V W : World) (h' s' : Sl) (e' : Nat → Ent), Below U.heap.size U V → EntsAt V (fun b => U.heap.size ≤ b ∧ b < V.heap.size) s' e' → s'.n ≤ 1048576 → (∀ k, k < s'.n → EntFit (e' k)) → Below V.heap.size V W → BytesAt W (New V W) h' → h'.n ≤ 1048576 → _) :=
          fun ea en ec V W h' s' e' h1 h2 h3 h4 h5 h6 h7 => run_step nm ed f HF0.out.1 hlt HF0.out.2.1 HF0.out.2.2 h1 h2 h3 h4 h5 h6 h7 (HIN.out U HF0.out.2.1).2.2.1 HFI.out.1 HFI.out.2.2.2.1
        have HH : Hid (∀ V, Below B w V → BytesAt V (· < V.heap.size) ⟨ha, hn', hc'⟩) := fun V h => (HIN.out V h).1.same (fun _ _ => rfl) (fun k hk => by have h1 := h.size; rw [HB.out] at h1; omega)
        cases ea with
        | none =>
          have HV : Hid (Below U.heap.size U (SrcW U ⟨nm, ⟨ha, hn', hc'⟩, f, ⟨none, en, ec⟩, e, ed⟩) ∧ Below B w (SrcW U ⟨nm, ⟨ha, hn', hc'⟩, f, ⟨none, en, ec⟩, e, ed⟩)) := ⟨below_alloc _ _, HF0.out.2.1.alloc HF0.out.2.2 _⟩
          have HBY : Hid _ := HH.out _ HV.out.2
          have HR1 : Hid ((SrcW U ⟨nm, ⟨ha, hn', hc'⟩, f, ⟨none, en, ec⟩, e, ed⟩).heap[U.heap.size]? = some (.cells #[.string nm, .slice ha hn' hc', .int .u64 f, .slice none en ec, .string ed] 35 (0, 0))) := heap_alloc_new U _
          obtain ⟨e0, e1, e2, e3, e4⟩ := src_kept HR1.out (Below.refl _ _)
          have HNE : Hid (U.heap.size ≠ B) := fun h => by have := HF0.out.1.lt; omega
          have HN0 := HST.out none 0 0 (SrcW U ⟨nm, ⟨ha, hn', hc'⟩, f, ⟨none, en, ec⟩, e, ed⟩)
          have HN1 : Hid _ := HN0
          clear HN0
          go_wp2_with fail
          generalize hVd : U.alloc (Obj.cells #[Value.string nm, Value.slice ha hn' hc', Value.int .u64 f, Value.slice none en ec, Value.string ed] 35) = V
          have hVd2 : SrcW U ⟨nm, ⟨ha, hn', hc'⟩, f, ⟨none, en, ec⟩, e, ed⟩ = V := hVd
          rw [hVd2] at HV HBY HR1 e0 e1 e2 e3 e4 HN1
          clear hVd hVd2
          generalize hRd : U.heap.size = R at *
          clear hRd
          go_region_held3 (fun w' => w'.cell? ⟨R, 0, none⟩ = some (.string nm) ∧ w'.cell? ⟨R, 1, none⟩ = some (.slice ha hn' hc') ∧ w'.cell? ⟨R, 2, none⟩ = some (.int .u64 f) ∧ w'.cell? ⟨R, 3, none⟩ = some (.slice none en ec) ∧ w'.cell? ⟨R, 4, none⟩ = some (.string ed))
            (first | with_reducible exact ⟨a0, a1, a2, a3, a4⟩ | with_reducible exact HS.out | exact ⟨e0, e1, e2, e3, e4⟩)
            (first | (go_at_call 22; refine (clone22d ⟨ha, hn', hc'⟩ V _ ?_ HBY k2).mono ?_; exact ⟨rfl, rfl, rfl, rfl⟩; rintro e' W ⟨h', rfl, hn2, hby, hbw⟩; obtain ⟨q0, ⟨v0, z0, y0⟩, ⟨v1, z1, y1⟩, ⟨v2, z2, y2⟩, ⟨v3, z3, y3⟩, ⟨v4, z4, y4⟩⟩ := HN1.out W h' ⟨none, 0, 0⟩ e HV.out.1 (nil_ents _ _ _) (Nat.zero_le _) (fun k hk => absurd hk (Nat.not_lt_zero _)) hbw hby hn2; have HQ : Hid _ := q0; obtain ⟨a0, a1, a2, a3, a4⟩ := src_kept HR1.out hbw; have HS : Hid _ := src_chain (o := i * 5) HR1.out hbw HNE.out (.string nm) (.slice h'.a h'.n h'.c) (.int .u64 f) (.slice none 0 0) (.string ed); clear q0 hby hbw))
          all_goals
            go_wp2
            go_roundw
            case rel => exact ⟨i + 1, by go_num, by omega, HQ⟩
            case measure => simp [intOf]; omega
        | some y =>
          obtain ⟨Z2, hmk2, hZ2⟩ := mkZ 33 47 _ 3 56 Try.underlying33 info47 en k3 (by omega)
          have hS1 : Hid ((SrcW U ⟨nm, ⟨ha, hn', hc'⟩, f, ⟨some y, en, ec⟩, e, ed⟩).heap.size = U.heap.size + 1) := size_alloc _ _
          have H1 : Hid (∃ f9, Filled kE ((SrcW U ⟨nm, ⟨ha, hn', hc'⟩, f, ⟨some y, en, ec⟩, e, ed⟩).alloc (.cells Z2 47)) (U.heap.size + 1) en 0 f9 ∧ Below (U.heap.size + 1) (SrcW U ⟨nm, ⟨ha, hn', hc'⟩, f, ⟨some y, en, ec⟩, e, ed⟩) ((SrcW U ⟨nm, ⟨ha, hn', hc'⟩, f, ⟨some y, en, ec⟩, e, ed⟩).alloc (.cells Z2 47))) := by
            have h1 := Filled.start (K := kE) (w := SrcW U ⟨nm, ⟨ha, hn', hc'⟩, f, ⟨some y, en, ec⟩, e, ed⟩) hZ2 e
            have h2 := below_alloc (SrcW U ⟨nm, ⟨ha, hn', hc'⟩, f, ⟨some y, en, ec⟩, e, ed⟩) (.cells Z2 47)
            rw [hS1.out] at h1 h2
            exact ⟨e, h1, h2⟩
          have HR : Hid (∀ V, Below (U.heap.size + 1) (SrcW U ⟨nm, ⟨ha, hn', hc'⟩, f, ⟨some y, en, ec⟩, e, ed⟩) V → V.heap[U.heap.size]? = some (.cells #[.string nm, .slice ha hn' hc', .int .u64 f, .slice (some y) en ec, .string ed] 35 (0, 0)) ∧ Below U.heap.size U V ∧ Below B w V ∧ U.heap.size + 1 ≤ V.heap.size) := by
            intro V h
            have h1 : Below U.heap.size U V := (below_alloc _ _).trans (h.mono (Nat.le_succ _))
            refine ⟨(h.block _ (Nat.lt_succ_self _)).trans (heap_alloc_new U _), h1, HF0.out.2.1.trans (h1.mono HF0.out.2.2), ?_⟩
            have := h.size
            rw [hS1.out] at this
            exact this
          clear hZ2 hS1
          go_wp2
          generalize hRd : U.heap.size = R at *
          have HRd : Hid (U.heap.size = R) := hRd
          clear hRd
          go_loopw [7] (fun s7 wr => ∃ j : Nat, s7 = .int .i64 j ∧ j ≤ en ∧ Hid (∃ f', Filled kE wr (R + 1) en j f' ∧ Below (R + 1) (SrcW U ⟨nm, ⟨ha, hn', hc'⟩, f, ⟨some y, en, ec⟩, e, ed⟩) wr)) (fun s7 _ => en - (intOf s7).toNat)
          case atStart => exact ⟨0, by go_num, Nat.zero_le _, H1⟩
          case round =>
            obtain ⟨j, rfl, hj, HJ⟩ := hrel
            obtain ⟨V, hV⟩ : ∃ V, V = wr := ⟨_, rfl⟩
            subst hV
            obtain ⟨f1, F1, b1⟩ := HJ.out
            obtain ⟨r1, r2, r3, r4⟩ := HR.out V b1
            have HF1 : Hid (Filled kE V (R + 1) en j f1 ∧ Below (R + 1) (SrcW U ⟨nm, ⟨ha, hn', hc'⟩, f, ⟨some y, en, ec⟩, e, ed⟩) V ∧ R + 1 ≤ V.heap.size ∧ Below R U V ∧ Below B w V) := ⟨F1, b1, r4, r2, r3⟩
            have e0 : V.cell? ⟨R, 0, none⟩ = some (.string nm) := by rw [cell_heap r1]; rfl
            have e1 : V.cell? ⟨R, 1, none⟩ = some (.slice ha hn' hc') := by rw [cell_heap r1]; rfl
            have e2 : V.cell? ⟨R, 2, none⟩ = some (.int .u64 f) := by rw [cell_heap r1]; rfl
            have e3 : V.cell? ⟨R, 3, none⟩ = some (.slice (some y) en ec) := by rw [cell_heap r1]; rfl
            have e4 : V.cell? ⟨R, 4, none⟩ = some (.string ed) := by rw [cell_heap r1]; rfl
            have HR1 : Hid _ := r1
            clear F1 b1 r1 r2 r3 r4 HJ
            by_cases hlt2 : j < en
            · obtain ⟨hd, _⟩ := (HIN.out V HF1.out.2.2.2.2).2.1.2 j hlt2
              obtain ⟨d0, d1, d2⟩ := hd y rfl
              have HEN : Hid (∀ X, Below B w X → EntIn X (· < B) (e j)) := fun X h => ((HIN.out X h).2.1.2 j hlt2).2
              have HEF : Hid (EntFit (e j)) := HFI.out.2.2.2.2 j hlt2
              clear hd e0 e1 e2 e4
              simp only at d0 d1 d2
              generalize e j = ej at *
              obtain ⟨d, ⟨oa, on, oc⟩, ⟨pa, pn, pc⟩, pg⟩ := ej
              simp only at d0 d1 d2
              have g1 : on ≤ 1048576 := HEF.out.1
              have g2 : pn ≤ 1048576 := HEF.out.2.1
              have HST2 : Hid (∀ (X W : World) (o' p' : Sl) (pg' : Nat → Sl), Below V.heap.size V X → PagesAt X (fun b => V.heap.size ≤ b ∧ b < X.heap.size) p' pg' → p'.n ≤ 1048576 → (∀ k, k < p'.n → (pg' k).n ≤ 1048576) → Below X.heap.size X W → OffsAt W (New X W) o' → o'.n ≤ 1048576 → _) :=
                fun X W o' p' pg' h1 h2 h3 h4 h5 h6 h7 => ent_step d HF1.out.1 hlt2 HF1.out.2.1 HF1.out.2.2.1 h1 h2 h3 h4 h5 h6 h7
              have HO : Hid (∀ X, Below B w X → OffsAt X (· < X.heap.size) ⟨oa, on, oc⟩) := fun X h => (HEN.out X h).1.same (fun _ _ => rfl) (fun k hk => by have h1 := h.size; rw [HB.out] at h1; omega)
              have hBV : Hid (B ≤ V.heap.size) := by
                have h1 := HF1.out.2.2.2.2.size
                rw [HB.out] at h1
                exact h1
              cases pa with
              | none =>
                have HX : Hid (Below V.heap.size V (EntW V ⟨d, ⟨oa, on, oc⟩, ⟨none, pn, pc⟩, pg⟩) ∧ Below B w (EntW V ⟨d, ⟨oa, on, oc⟩, ⟨none, pn, pc⟩, pg⟩)) := ⟨below_alloc _ _, HF1.out.2.2.2.2.alloc hBV.out _⟩
                have HOX : Hid _ := HO.out _ HX.out.2
                have HR3 : Hid ((EntW V ⟨d, ⟨oa, on, oc⟩, ⟨none, pn, pc⟩, pg⟩).heap[V.heap.size]? = some (.cells #[.int .u32 d, .slice oa on oc, .slice none pn pc] 47 (0, 0))) := heap_alloc_new V _
                obtain ⟨m0, m1, m2⟩ := ent_kept HR3.out (Below.refl _ _)
                have HNE : Hid (V.heap.size ≠ R + 1) := fun h => by have := HF1.out.1.lt; omega
                have HN0 := HST2.out (EntW V ⟨d, ⟨oa, on, oc⟩, ⟨none, pn, pc⟩, pg⟩)
                have HN1 : Hid _ := HN0
                clear HN0
                go_wp2_with fail
                generalize hXd : V.alloc (Obj.cells #[Value.int .u32 d, Value.slice oa on oc, Value.slice none pn pc] 47) = X
                have hXd2 : EntW V ⟨d, ⟨oa, on, oc⟩, ⟨none, pn, pc⟩, pg⟩ = X := hXd
                rw [hXd2] at HX HOX HR3 m0 m1 m2 HN1
                clear hXd hXd2
                generalize hRd2 : V.heap.size = R2 at *
                clear hRd2
                go_region_held3 (fun w' => w'.cell? ⟨R2, 0, none⟩ = some (.int .u32 d) ∧ w'.cell? ⟨R2, 1, none⟩ = some (.slice oa on oc) ∧ w'.cell? ⟨R2, 2, none⟩ = some (.slice none pn pc))
                  (first | with_reducible exact ⟨a0, a1, a2⟩ | with_reducible exact HS.out | exact ⟨m0, m1, m2⟩)
                  (first | (go_at_call 23; refine (clone23d ⟨oa, on, oc⟩ X _ ?_ HOX g1).mono ?_; exact ⟨rfl, rfl, rfl, rfl⟩; rintro e' W ⟨o', rfl, hn2, hby, hbw⟩; obtain ⟨q0, ⟨v0, z0, y0⟩, ⟨v1, z1, y1⟩, ⟨v2, z2, y2⟩⟩ := HN1.out W o' ⟨none, 0, 0⟩ pg HX.out.1 (nil_pages _ _ _) (Nat.zero_le _) (fun k hk => absurd hk (Nat.not_lt_zero _)) hbw hby hn2; have HQ : Hid _ := q0; obtain ⟨a0, a1, a2⟩ := ent_kept HR3.out hbw; have HS : Hid _ := ent_chain (o := j * 3) HR3.out hbw HNE.out (.int .u32 d) (.slice o'.a o'.n o'.c) (.slice none 0 0); clear q0 hby hbw))
                all_goals
                  go_wp2
                  go_roundw
                  case rel => exact ⟨j + 1, by go_num, by omega, HQ⟩
                  case measure => simp [intOf]; omega
              | some z =>
                obtain ⟨Z3, hmk3, hZ3⟩ := mkZ 45 32 _ 1 24 Try.underlying45 info32 pn g2 (by omega)
                have hS2 : Hid ((EntW V ⟨d, ⟨oa, on, oc⟩, ⟨some z, pn, pc⟩, pg⟩).heap.size = V.heap.size + 1) := size_alloc _ _
                have H2 : Hid (∃ f9, Filled kP ((EntW V ⟨d, ⟨oa, on, oc⟩, ⟨some z, pn, pc⟩, pg⟩).alloc (.cells Z3 32)) (V.heap.size + 1) pn 0 f9 ∧ Below (V.heap.size + 1) (EntW V ⟨d, ⟨oa, on, oc⟩, ⟨some z, pn, pc⟩, pg⟩) ((EntW V ⟨d, ⟨oa, on, oc⟩, ⟨some z, pn, pc⟩, pg⟩).alloc (.cells Z3 32))) := by
                  have h1 := Filled.start (K := kP) (w := EntW V ⟨d, ⟨oa, on, oc⟩, ⟨some z, pn, pc⟩, pg⟩) hZ3 pg
                  have h2 := below_alloc (EntW V ⟨d, ⟨oa, on, oc⟩, ⟨some z, pn, pc⟩, pg⟩) (.cells Z3 32)
                  rw [hS2.out] at h1 h2
                  exact ⟨pg, h1, h2⟩
                have HR2 : Hid (∀ X, Below (V.heap.size + 1) (EntW V ⟨d, ⟨oa, on, oc⟩, ⟨some z, pn, pc⟩, pg⟩) X → X.heap[V.heap.size]? = some (.cells #[.int .u32 d, .slice oa on oc, .slice (some z) pn pc] 47 (0, 0)) ∧ Below V.heap.size V X ∧ Below B w X ∧ V.heap.size + 1 ≤ X.heap.size) := by
                  intro X h
                  have h1 : Below V.heap.size V X := (below_alloc _ _).trans (h.mono (Nat.le_succ _))
                  refine ⟨(h.block _ (Nat.lt_succ_self _)).trans (heap_alloc_new V _), h1, HF1.out.2.2.2.2.trans (h1.mono hBV.out), ?_⟩
                  have := h.size
                  rw [hS2.out] at this
                  exact this
                clear hZ3 hS2
                go_wp2
                generalize hRd2 : V.heap.size = R2 at *
                have HRd2 : Hid (V.heap.size = R2) := hRd2
                clear hRd2
                go_loopw [10] (fun s10 wr => ∃ k : Nat, s10 = .int .i64 k ∧ k ≤ pn ∧ Hid (∃ pg', Filled kP wr (R2 + 1) pn k pg' ∧ Below (R2 + 1) (EntW V ⟨d, ⟨oa, on, oc⟩, ⟨some z, pn, pc⟩, pg⟩) wr)) (fun s10 _ => pn - (intOf s10).toNat)
                case atStart => exact ⟨0, by go_num, Nat.zero_le _, H2⟩
                case round =>
                  obtain ⟨k, rfl, hk, HK⟩ := hrel
                  obtain ⟨X, hX⟩ : ∃ X, X = wr := ⟨_, rfl⟩
                  subst hX
                  obtain ⟨f2, F2, b2⟩ := HK.out
                  obtain ⟨s1, s2, s3, s4⟩ := HR2.out X b2
                  have HF2 : Hid (Filled kP X (R2 + 1) pn k f2 ∧ Below (R2 + 1) (EntW V ⟨d, ⟨oa, on, oc⟩, ⟨some z, pn, pc⟩, pg⟩) X ∧ R2 + 1 ≤ X.heap.size ∧ Below R2 V X ∧ Below B w X) := ⟨F2, b2, s4, s2, s3⟩
                  have m0 : X.cell? ⟨R2, 0, none⟩ = some (.int .u32 d) := by rw [cell_heap s1]; rfl
                  have m1 : X.cell? ⟨R2, 1, none⟩ = some (.slice oa on oc) := by rw [cell_heap s1]; rfl
                  have m2 : X.cell? ⟨R2, 2, none⟩ = some (.slice (some z) pn pc) := by rw [cell_heap s1]; rfl
                  have HR3 : Hid _ := s1
                  clear F2 b2 s1 s2 s3 s4 HK
                  by_cases hlt3 : k < pn
                  · have t1 := ((HEN.out X HF2.out.2.2.2.2).2.2 k hlt3).1 z rfl
                    have HBX : Hid (BytesAt X (· < X.heap.size) (pg k)) := ((HEN.out X HF2.out.2.2.2.2).2.2 k hlt3).2.same (fun _ _ => rfl) (fun b hb => by have h1 := HF2.out.2.2.2.2.size; rw [HB.out] at h1; omega)
                    have g3 := HEF.out.2.2 k hlt3
                    simp only at g3 t1
                    clear m0 m1
                    generalize pg k = pk at *
                    obtain ⟨ga, gn, gc⟩ := pk
                    simp only at t1 g3
                    go_wp2_with fail
                    refine (clone22d ⟨ga, gn, gc⟩ X _ (by exact ⟨rfl, rfl, rfl, rfl⟩) HBX g3).mono ?_
                    rintro e' W ⟨s', rfl, hn2, hby, hbw⟩
                    obtain ⟨q0, v0, z0, y0⟩ := page_step HF2.out.1 hlt3 HF2.out.2.1 HF2.out.2.2.1 hbw hn2 hby
                    have HQ : Hid _ := q0
                    clear q0 hby hbw
                    go_wp2
                    go_roundw
                    case rel => exact ⟨k + 1, by go_num, by omega, HQ⟩
                    case measure => simp [intOf]; omega
                  · obtain rfl : k = pn := by omega
                    have HPG : Hid (PagesAt X (fun b => R2 ≤ b ∧ b < X.heap.size) ⟨some ⟨R2 + 1, 0, none⟩, k, k⟩ f2 ∧ ∀ q, q < k → (f2 q).n ≤ 1048576) := ⟨(pages_done HF2.out.1 g2).1.same (fun _ _ => rfl) (fun b hb => ⟨by have := hb.1; omega, hb.2⟩), (pages_done HF2.out.1 g2).2⟩
                    have HOX : Hid _ := HO.out X HF2.out.2.2.2.2
                    go_wp2_with fail
                    have HNE : Hid (R2 ≠ R + 1) := fun h => by have h1 := HF1.out.1.lt; have h2 := HRd2.out; omega
                    go_region_held3 (fun w' => w'.cell? ⟨R2, 0, none⟩ = some (.int .u32 d) ∧ w'.cell? ⟨R2, 1, none⟩ = some (.slice oa on oc) ∧ w'.cell? ⟨R2, 2, none⟩ = some (.slice (some z) k pc))
                      (first | with_reducible exact ⟨a0, a1, a2⟩ | with_reducible exact HS.out | exact ⟨m0, m1, m2⟩)
                      (first | (go_at_call 23; refine (clone23d ⟨oa, on, oc⟩ X _ ?_ HOX g1).mono ?_; exact ⟨rfl, rfl, rfl, rfl⟩; rintro e' W ⟨o', rfl, hn2, hby, hbw⟩; obtain ⟨q0, ⟨v0, z0, y0⟩, ⟨v1, z1, y1⟩, ⟨v2, z2, y2⟩⟩ := HST2.out X W o' ⟨some ⟨R2 + 1, 0, none⟩, k, k⟩ f2 HF2.out.2.2.2.1 HPG.out.1 g2 HPG.out.2 hbw hby hn2; have HQ : Hid _ := q0; obtain ⟨a0, a1, a2⟩ := ent_kept HR3.out hbw; have HS : Hid _ := ent_chain (o := j * 3) HR3.out hbw HNE.out (.int .u32 d) (.slice o'.a o'.n o'.c) (.slice (some ⟨R2 + 1, 0, none⟩) k k); clear q0 hby hbw))
                    all_goals
                      go_wp2
                      go_roundw
                      case rel => exact ⟨j + 1, by go_num, by omega, HQ⟩
                      case measure => simp [intOf]; omega
            · obtain rfl : j = en := by omega
              have HES : Hid (EntsAt V (fun b => R ≤ b ∧ b < V.heap.size) ⟨some ⟨R + 1, 0, none⟩, j, j⟩ f1 ∧ ∀ q, q < j → EntFit (f1 q)) := ⟨(ents_done HF1.out.1 k3).1.same (fun _ _ => rfl) (fun b hb => ⟨by have := hb.1; omega, hb.2⟩), (ents_done HF1.out.1 k3).2⟩
              have HBY : Hid _ := HH.out V HF1.out.2.2.2.2
              go_wp2_with fail
              have HNE : Hid (R ≠ B) := fun h => by have h1 := HF0.out.1.lt; have h2 := HRd.out; omega
              go_region_held3 (fun w' => w'.cell? ⟨R, 0, none⟩ = some (.string nm) ∧ w'.cell? ⟨R, 1, none⟩ = some (.slice ha hn' hc') ∧ w'.cell? ⟨R, 2, none⟩ = some (.int .u64 f) ∧ w'.cell? ⟨R, 3, none⟩ = some (.slice (some y) j ec) ∧ w'.cell? ⟨R, 4, none⟩ = some (.string ed))
                (first | with_reducible exact ⟨a0, a1, a2, a3, a4⟩ | with_reducible exact HS.out | exact ⟨e0, e1, e2, e3, e4⟩)
                (first | (go_at_call 22; refine (clone22d ⟨ha, hn', hc'⟩ V _ ?_ HBY k2).mono ?_; exact ⟨rfl, rfl, rfl, rfl⟩; rintro e' W ⟨h', rfl, hn2, hby, hbw⟩; obtain ⟨q0, ⟨v0, z0, y0⟩, ⟨v1, z1, y1⟩, ⟨v2, z2, y2⟩, ⟨v3, z3, y3⟩, ⟨v4, z4, y4⟩⟩ := HST.out none 0 0 V W h' ⟨some ⟨R + 1, 0, none⟩, j, j⟩ f1 HF1.out.2.2.2.1 HES.out.1 k3 HES.out.2 hbw hby hn2; have HQ : Hid _ := q0; obtain ⟨a0, a1, a2, a3, a4⟩ := src_kept HR1.out hbw; have HS : Hid _ := src_chain (o := i * 5) HR1.out hbw HNE.out (.string nm) (.slice h'.a h'.n h'.c) (.int .u64 f) (.slice (some ⟨R + 1, 0, none⟩) j j) (.string ed); clear q0 hby hbw))
              all_goals
                go_wp2
                go_roundw
                case rel => exact ⟨i + 1, by go_num, by omega, HQ⟩
                case measure => simp [intOf]; omega
      · obtain rfl : i = n := by omega
        obtain ⟨f, h1, h2⟩ := HI.out
        have HD : Hid (Cloned8 w (.returned (.slice (some ⟨B, 0, none⟩) i i)) U) := ⟨⟨some ⟨B, 0, none⟩, i, i⟩, f, rfl, (runs_done h1 hn).1.same (fun _ _ => rfl) (fun k hk => hk.2), (runs_done h1 hn).2, by rw [HB.out]; exact h2⟩
        clear h1 h2
        go_wp2
        go_ret
        exact HD.out
end Go.Proofs.Qxb6603852a
