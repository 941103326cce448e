import Derived.Test.Qxb6618972aNewMsg
import Derived.Deep.Cut
namespace Go.Proofs.Qxb6618972a
open Go.RowKit

theorem info51 : (Try.prog.info? 51).map (fun i => (i.zero, i.size, i.bytes)) = some (some (.agg #[.int .u64 0, .int .u64 0, .int .u8 0, .slice none 0 0]), 4, 48) := by kernel_rfl

/-- 'make([]Ent, n)'. -/
theorem run_mkents (n : Nat) (hn : n ≤ 1048576) (w : World) : (Instr.makeSlice 46 (.int .i64 (n : Int)) (.int .i64 (n : Int))).run Try.prog w =
    .ok (.slice (some ⟨w.heap.size, 0, none⟩) n n) (w.alloc (.cells (madeCells #[.int .u64 0, .int .u64 0, .int .u8 0, .slice none 0 0] (n * 4)) 51)) := by
  obtain ⟨i, hi, hz, hs, hb⟩ := info_parts info51
  have h := run_make (P := Try.prog) w 46 51 i _ Try.underlying46 hi hz .i64 .i64 n n (by omega) (by omega) (by rw [hb]; omega) (by omega)
  rw [h, hs]
  simp [Value.cells]

theorem row_set {w : World} {g o : Nat} {arr : Array Value} {t : TypeId} (h : w.heap[g]? = some (.cells arr t (0, 0))) (v : Value) : (w.setCell ⟨g, o, none⟩ v).heap[g]? = some (.cells (arr.setIfInBounds o v) t (0, 0)) := by
  simp [World.setCell, Array.getElem?_modify, h]

/-- The first k entries are copied into block ge. -/
def Part (B ge : Nat) (w : World) (es : List Entry4) (k : Nat) : Prop := ∀ i (h : i < es.length), i < k → ∃ dv,
    w.cell? ⟨ge, i * 4, none⟩ = some (.int .u64 es[i].ix) ∧ w.cell? ⟨ge, i * 4 + 1, none⟩ = some (.int .u64 es[i].t) ∧ w.cell? ⟨ge, i * 4 + 2, none⟩ = some (.int .u8 es[i].kind) ∧ w.cell? ⟨ge, i * 4 + 3, none⟩ = some dv ∧
    RAt (fun b => B ≤ b ∧ b ≠ ge) w dv es[i].data

structure CpInv (w : World) (b2 ge : Nat) (C1 Z : Array Value) (es : List Entry4) (dv1 : Value) (ds : List Int) (k : Nat) (wr : World) : Prop where
  box : wr.heap[w.heap.size]? = some (.cells C1 48 (0, 0))
  res : wr.heap[b2]? = some (.cells Z 48 (0, 0))
  bel : Below w.heap.size w wr
  row : ∃ arr : Array Value, wr.heap[ge]? = some (.cells arr 51 (0, 0)) ∧ arr.size = es.length * 4
  part : Part (w.heap.size + 2) ge wr es k
  dat : RAt (fun b => w.heap.size + 2 ≤ b ∧ b ≠ ge) wr dv1 ds

/-- The world behind a round. -/
def cpNext (w2 : World) (wb ge k : Nat) (e : Entry4) (dv : Value) : World :=
  ((((w2.setCell ⟨wb, 3, none⟩ dv).setCell ⟨ge, k * 4, none⟩ (.int .u64 e.ix)).setCell ⟨ge, k * 4 + 1, none⟩ (.int .u64 e.t)).setCell ⟨ge, k * 4 + 2, none⟩ (.int .u8 e.kind)).setCell ⟨ge, k * 4 + 3, none⟩ dv

theorem setCell_os (w : World) (a : Addr) (v : Value) : (w.setCell a v).os = w.os := rfl
theorem setCell_tape (w : World) (a : Addr) (v : Value) : (w.setCell a v).tape = w.tape := rfl
theorem setCell_output (w : World) (a : Addr) (v : Value) : (w.setCell a v).output = w.output := rfl
theorem cpNext_streams (w2 : World) (wb ge k : Nat) (e : Entry4) (dv : Value) : (cpNext w2 wb ge k e dv).os = w2.os ∧ (cpNext w2 wb ge k e dv).tape = w2.tape ∧ (cpNext w2 wb ge k e dv).output = w2.output ∧ (cpNext w2 wb ge k e dv).heap.size = w2.heap.size :=
  ⟨by simp only [cpNext, setCell_os], by simp only [cpNext, setCell_tape], by simp only [cpNext, setCell_output], by simp only [cpNext, World.size_setCell]⟩

set_option maxHeartbeats 2000000 in
theorem CpInv.next {w : World} {b2 ge : Nat} {C1 Z : Array Value} {es : List Entry4} {dv1 : Value} {ds : List Int} {k : Nat} {wr w2 : World} (h : CpInv w b2 ge C1 Z es dv1 ds k wr) (hb2 : b2 = w.heap.size + 1) (hge : w.heap.size + 1 < ge) (hgl : ge < wr.heap.size)
    (hk : k < es.length) (en : Entry4) (hen : es[k] = en) (o : Obj) (hbel : Below (wr.alloc o).heap.size (wr.alloc o) w2) (dv : Value) (hm : Mine w2 dv (byts en.data)) (hown : ∀ g, dv.ownBlock = some g → (wr.alloc o).heap.size ≤ g) :
    CpInv w b2 ge C1 Z es dv1 ds (k + 1) (cpNext w2 wr.heap.size ge k en dv) := by
  obtain ⟨arr, ha, hs⟩ := h.row
  obtain ⟨s1, s2, s3, s4⟩ := cpNext_streams w2 wr.heap.size ge k en dv
  have hz := hbel.size
  rw [World.size_alloc] at hz hown
  have hbl : ∀ g, g < wr.heap.size → w2.heap[g]? = wr.heap[g]? := fun g hg => (hbel.block g (by rw [World.size_alloc]; omega)).trans (Below.heap_alloc wr o g hg)
  have hne : wr.heap.size ≠ ge := by omega
  have hother : ∀ g, g ≠ ge → g ≠ wr.heap.size → (cpNext w2 wr.heap.size ge k en dv).heap[g]? = w2.heap[g]? := fun g h1 h2 => by
    unfold cpNext
    rw [Below.heap_setCell _ _ _ _ h1, Below.heap_setCell _ _ _ _ h1, Below.heap_setCell _ _ _ _ h1, Below.heap_setCell _ _ _ _ h1, Below.heap_setCell _ _ _ _ h2]
  have hkeep : ∀ g, g < wr.heap.size → g ≠ ge → (cpNext w2 wr.heap.size ge k en dv).heap[g]? = wr.heap[g]? := fun g h1 h2 => (hother g h2 (by omega)).trans (hbl g h1)
  have hk2 : Kept (fun b => b = ge) wr (cpNext w2 wr.heap.size ge k en dv) := ⟨s1.trans hbel.os, s2.trans hbel.tape, s3.trans hbel.output, by omega, fun g hg hn => hkeep g hg hn⟩
  have h2ge : w2.heap[ge]? = some (.cells arr 51 (0, 0)) := (hbl ge hgl).trans ha
  have r0 : (w2.setCell ⟨wr.heap.size, 3, none⟩ dv).heap[ge]? = some (.cells arr 51 (0, 0)) := (Below.heap_setCell _ _ _ _ (fun e => hne e.symm)).trans h2ge
  have r1 := row_set (o := k * 4) r0 (.int .u64 en.ix)
  have r2 := row_set (o := k * 4 + 1) r1 (.int .u64 en.t)
  have r3 := row_set (o := k * 4 + 2) r2 (.int .u8 en.kind)
  have r4 : (cpNext w2 wr.heap.size ge k en dv).heap[ge]? = some (.cells ((((arr.setIfInBounds (k * 4) (.int .u64 en.ix)).setIfInBounds (k * 4 + 1) (.int .u64 en.t)).setIfInBounds (k * 4 + 2) (.int .u8 en.kind)).setIfInBounds (k * 4 + 3) dv) 51 (0, 0)) := by unfold cpNext; exact row_set (o := k * 4 + 3) r3 dv
  have hkl : k * 4 + 3 < arr.size := by omega
  have hcell : ∀ o, (cpNext w2 wr.heap.size ge k en dv).cell? ⟨ge, o, none⟩ = ((((arr.setIfInBounds (k * 4) (.int .u64 en.ix)).setIfInBounds (k * 4 + 1) (.int .u64 en.t)).setIfInBounds (k * 4 + 2) (.int .u8 en.kind)).setIfInBounds (k * 4 + 3) dv)[o]? := fun o => cell_of_row _ ge o _ 51 (0, 0) r4
  have hcold : ∀ o, wr.cell? ⟨ge, o, none⟩ = arr[o]? := fun o => cell_of_row _ ge o _ 51 (0, 0) ha
  have hws := h.bel.size
  have hks := hk2.size
  have hB : Below w.heap.size w (cpNext w2 wr.heap.size ge k en dv) :=
    ⟨hk2.os.trans h.bel.os, hk2.tape.trans h.bel.tape, hk2.output.trans h.bel.output, by omega, fun g hg => (hkeep g (by omega) (by omega)).trans (h.bel.block g hg)⟩
  have hbox := (hkeep w.heap.size (by omega) (by omega)).trans h.box
  have hres := (hkeep b2 (by omega) (by omega)).trans h.res
  have hdat := h.dat.kept hk2 fun b hb e => hb.2 e
  generalize cpNext w2 wr.heap.size ge k en dv = wn at *
  refine ⟨hbox, hres, hB, ⟨_, r4, by simpa using hs⟩, ?_, hdat⟩
  intro i hi hik
  by_cases hlt : i < k
  · obtain ⟨dvi, c0, c1, c2, c3, hr⟩ := h.part i hi hlt
    have ho : ∀ j, j < 4 → wn.cell? ⟨ge, i * 4 + j, none⟩ = wr.cell? ⟨ge, i * 4 + j, none⟩ := fun j hj => by
      rw [hcell, hcold, Array.getElem?_setIfInBounds_ne (by omega), Array.getElem?_setIfInBounds_ne (by omega), Array.getElem?_setIfInBounds_ne (by omega), Array.getElem?_setIfInBounds_ne (by omega)]
    exact ⟨dvi, (ho 0 (by omega)).trans c0, (ho 1 (by omega)).trans c1, (ho 2 (by omega)).trans c2, (ho 3 (by omega)).trans c3, hr.kept hk2 fun b hb e => hb.2 e⟩
  · obtain rfl : i = k := by omega
    rw [hen]
    have hm3 : Mine wn dv (byts en.data) := hm.of_block fun g hg => hother g (by have := hown g hg; omega) (by have := hown g hg; omega)
    refine ⟨dv, ?_, ?_, ?_, ?_, hm3.reads, fun _ b hb => ?_⟩
    · rw [hcell, Array.getElem?_setIfInBounds_ne (by omega), Array.getElem?_setIfInBounds_ne (by omega), Array.getElem?_setIfInBounds_ne (by omega), Array.getElem?_setIfInBounds_self_of_lt (by omega)]
    · rw [hcell, Array.getElem?_setIfInBounds_ne (by omega), Array.getElem?_setIfInBounds_ne (by omega), Array.getElem?_setIfInBounds_self_of_lt (by simp; omega)]
    · rw [hcell, Array.getElem?_setIfInBounds_ne (by omega), Array.getElem?_setIfInBounds_self_of_lt (by simp; omega)]
    · rw [hcell, Array.getElem?_setIfInBounds_self_of_lt (by simp; omega)]
    · have := hown b hb; have := h.bel.size; exact ⟨by omega, by omega⟩

def ZeroMsg : Array Value := #[.int .u8 0, .int .u64 0, .int .u64 0, .int .u64 0, .int .u64 0, .int .u64 0, .int .u64 0, .bool false, .bool false, .bool false, .int .u64 0, .int .u64 0, .slice none 0 0, .int .u64 0, .int .u64 0, .bool false, .int .u64 0, .int .u64 0, .slice none 0 0, .bool false]

def CMPost (w : World) (m : M20) (e : Ending) (w' : World) : Prop :=
  Below w.heap.size w w' ∧ ∃ ve' dv', e = .returned (.agg (mcells m ve' dv')) ∧ EAt (fun b => w.heap.size ≤ b) w' ve' m.es ∧ RAt (fun b => w.heap.size ≤ b) w' dv' m.data

theorem mcells_set18 (m : M20) (ve dv dv' : Value) : (mcells m ve dv).setIfInBounds 18 dv' = mcells m ve dv' := rfl
theorem mcells_set12 (m : M20) (ve dv ve' : Value) : (mcells m ve dv).setIfInBounds 12 ve' = mcells m ve' dv := rfl

/-- The result's block is laid: all else stands. -/
theorem copyEnd {w w2 : World} {m : M20} {ve' dv' : Value} (hB : Below w.heap.size w w2) (hd : RAt (fun b => w.heap.size + 2 ≤ b) w2 dv' m.data) (he : EAt (fun b => w.heap.size + 2 ≤ b) w2 ve' m.es) (cs : Array Value) :
    CMPost w m (.returned (.agg (mcells m ve' dv'))) (w2.setRow (w.heap.size + 1) cs) := by
  have hk : Kept (fun k => k = w.heap.size + 1) w2 (w2.setRow (w.heap.size + 1) cs) := ⟨rfl, rfl, rfl, by simp [World.setRow], fun k _ hn => setRow_other _ _ _ _ hn⟩
  have hd' := hd.kept hk fun b hb e => by omega
  have he' := he.kept hk fun b hb e => by omega
  exact ⟨⟨hk.os.trans hB.os, hk.tape.trans hB.tape, hk.output.trans hB.output, Nat.le_trans hB.size hk.size, fun k h => (hk.block k (by have := hB.size; omega) (by omega)).trans (hB.block k h)⟩, ve', dv', rfl, he'.mono fun b _ h => by omega, hd'.mono fun b _ h => by omega⟩

theorem Reads.below {w w' : World} {v : Value} {xs : List Value} (h : Reads w v xs) (hb : Below w.heap.size w w') : Reads w' v xs := by
  refine h.kept (Kept.of_below hb) fun hne b hbb => ?_
  rcases h with ⟨h, _⟩ | ⟨x, c, rfl, _, hx⟩
  · rw [h] at hbb; simp [Value.ownBlock] at hbb
  · obtain ⟨b', o, rfl, hc⟩ := hx hne
    simp [Value.ownBlock] at hbb
    subst hbb
    have := World.block_lt_of_cell? _ _ (hc 0 (List.length_pos_iff.2 hne))
    simp only at this
    omega

set_option maxRecDepth 20000 in
set_option maxHeartbeats 2000000 in
/-- (28) zzCopyMsg -/
theorem copyMsg (m : M20) (ve dv : Value) (w : World) (hd : Reads w dv (byts m.data)) (hE : EIn w ve m.es) (hn : m.es.length ≤ 1048576) (hl : m.data.length ≤ 1000000000) (hel : ∀ e ∈ m.es, e.data.length ≤ 1000000000) :
    Calls Try.prog 28 #[.agg (mcells m ve dv)] w (CMPost w m) := by
  have hnn := fun (w : World) (a : Option Addr) (n c n' c' : Nat) => run_neq_slice_nil_any (P := Try.prog) w 46 51 a n c n' c' Try.underlying46
  obtain ⟨ea, ec, rfl⟩ : ∃ a c, ve = .slice a m.es.length c := by obtain ⟨a, c, h, _⟩ := hE; exact ⟨a, c, h⟩
  obtain ⟨da, dc, hde⟩ := hd.form
  rw [byts_len] at hde
  subst hde
  go_enter Try.func28, Try.ntmps28
  go_upto_region 1 with fail
  change Code.wp Try.prog _ _ _ ((w.alloc (.cells (mcells m (.slice ea m.es.length ec) (.slice da m.data.length dc)) 48)).alloc (.cells ZeroMsg 48))
  have hb0 : ((w.alloc (.cells (mcells m (.slice ea m.es.length ec) (.slice da m.data.length dc)) 48)).alloc (.cells ZeroMsg 48)).heap[w.heap.size]? = some (.cells (mcells m (.slice ea m.es.length ec) (.slice da m.data.length dc)) 48 (0, 0)) :=
    (Below.heap_alloc _ _ _ (by simp)).trans (heap_alloc_new w _)
  have hr0 : ((w.alloc (.cells (mcells m (.slice ea m.es.length ec) (.slice da m.data.length dc)) 48)).alloc (.cells ZeroMsg 48)).heap[w.heap.size + 1]? = some (.cells ZeroMsg 48 (0, 0)) := by
    have := heap_alloc_new (w.alloc (.cells (mcells m (.slice ea m.es.length ec) (.slice da m.data.length dc)) 48)) (.cells ZeroMsg 48)
    rwa [World.size_alloc] at this
  have hB0 : Below w.heap.size w ((w.alloc (.cells (mcells m (.slice ea m.es.length ec) (.slice da m.data.length dc)) 48)).alloc (.cells ZeroMsg 48)) := ((Below.refl _ _).alloc (Nat.le_refl _) _).alloc (by simp) _
  have hz0 : ((w.alloc (.cells (mcells m (.slice ea m.es.length ec) (.slice da m.data.length dc)) 48)).alloc (.cells ZeroMsg 48)).heap.size = w.heap.size + 2 := by simp
  generalize (w.alloc (.cells (mcells m (.slice ea m.es.length ec) (.slice da m.data.length dc)) 48)).alloc (.cells ZeroMsg 48) = w0 at *
  have HZ0 : Hid (w0.heap.size = w.heap.size + 2) := hz0
  have hzl : w.heap.size + 1 < w0.heap.size := by omega
  clear hz0
  have q18 : w0.cell? ⟨w.heap.size, 18, none⟩ = some (.slice da m.data.length dc) := by rw [cell_of_row _ _ 18 _ _ _ hb0]; rfl
  have hd0 : Reads w0 (.slice da m.data.length dc) (byts m.data) := hd.below hB0
  go_wp2_with fail
  refine (cloneBytes _ m.data _ hd0 hl).mono ?_
  rintro e w1 ⟨hB1, v1, rfl, hm1, ho1⟩
  obtain ⟨d1, n1, c1, rfl⟩ := hm1.shape
  have hb1 : w1.heap[w.heap.size]? = some (.cells (mcells m (.slice ea m.es.length ec) (.slice da m.data.length dc)) 48 (0, 0)) := (hB1.block _ (by omega)).trans hb0
  have hr1 : w1.heap[w.heap.size + 1]? = some (.cells ZeroMsg 48 (0, 0)) := (hB1.block _ (by omega)).trans hr0
  have q1 : w1.cell? ⟨w.heap.size, 18, none⟩ = some (.slice da m.data.length dc) := by rw [cell_of_row _ _ 18 _ _ _ hb1]; rfl
  have qf : w1.frozen? ⟨w.heap.size, 18, none⟩ = false := by simp [World.frozen?, hb1]
  have hzl1 : w.heap.size + 1 < w1.heap.size := by have := hB1.size; omega
  -- the box behind the store of the data
  have hb2 : (w1.setCell ⟨w.heap.size, 18, none⟩ (.slice d1 n1 c1)).heap[w.heap.size]? = some (.cells (mcells m (.slice ea m.es.length ec) (.slice d1 n1 c1)) 48 (0, 0)) := row_set hb1 _
  have hr2 : (w1.setCell ⟨w.heap.size, 18, none⟩ (.slice d1 n1 c1)).heap[w.heap.size + 1]? = some (.cells ZeroMsg 48 (0, 0)) := (Below.heap_setCell _ _ _ _ (by simp)).trans hr1
  have hB2 : Below w.heap.size w (w1.setCell ⟨w.heap.size, 18, none⟩ (.slice d1 n1 c1)) := (hB0.trans (hB1.mono (by omega))).setCell (Nat.le_refl _) _
  have hm2 : RAt (fun b => w.heap.size + 2 ≤ b ∧ b ≠ w1.heap.size) (w1.setCell ⟨w.heap.size, 18, none⟩ (.slice d1 n1 c1)) (.slice d1 n1 c1) m.data :=
    ⟨(hm1.of_block fun g hg => Below.heap_setCell _ _ _ _ (by have := ho1 g hg; simp only; omega)).reads, fun _ b hb => ⟨by have := ho1 b hb; have := HZ0.out; omega, by have := hm1.lt b hb; omega⟩⟩
  have hz2 : (w1.setCell ⟨w.heap.size, 18, none⟩ (.slice d1 n1 c1)).heap.size = w1.heap.size := World.size_setCell _ _ _
  have q12 : (w1.setCell ⟨w.heap.size, 18, none⟩ (.slice d1 n1 c1)).cell? ⟨w.heap.size, 12, none⟩ = some (.slice ea m.es.length ec) := by rw [cell_of_row _ _ 12 _ _ _ hb2]; rfl
  go_upto_region 2 with fail
  generalize w1.setCell ⟨w.heap.size, 18, none⟩ (.slice d1 n1 c1) = w2 at *
  clear hb1 hr1 q1 qf hB1 hm1 ho1 hb0 hr0 q18 hd0 hB0
  have hcs : (Try.prog.info? 48).map (·.size) = some 20 := by kernel_rfl
  cases ea with
  | none =>
    have hes : m.es = [] := by
      obtain ⟨a, c, h1, _, h3⟩ := hE
      simp only [Value.slice.injEq] at h1
      obtain ⟨rfl, _, rfl⟩ := h1
      rcases Nat.eq_zero_or_pos m.es.length with h | h
      · exact List.eq_nil_of_length_eq_zero h
      · obtain ⟨g, o, dv, h, _⟩ := h3 0 h; cases h
    go_wp2_with (first
      | (refine wpList_load_row rfl 48 (.tmp 1) rfl w.heap.size rfl 48 (mcells m (.slice none m.es.length ec) (.slice d1 n1 c1)) (0, 0) _ hb2 Try.underlying48 rfl (by rw [mcells_size]; exact hcs) ?_)
      | (refine wpList_store_row rfl 48 (.tmp 2) (.tmp 39) rfl (w.heap.size + 1) (mcells m (.slice none m.es.length ec) (.slice d1 n1 c1)) rfl rfl 48 ZeroMsg hr2 (by rw [mcells_size]; exact hcs) rfl (mcells_one _ _ _ _ _ _ _) ?_))
    refine bodyPost_ret (v := .agg (mcells m (.slice none m.es.length ec) (.slice d1 n1 c1))) (results_cell_row Try.results28 _ _ (w.heap.size + 1) 48 _ (0, 0) _ rfl (setRow_heap _ _ _ _ _ _ hr2) Try.underlying48 rfl (by rw [mcells_size]; exact hcs)) rfl ?_
    refine copyEnd hB2 (hm2.mono fun k _ h => h.1) ?_ _
    exact ⟨none, ec, rfl, fun i hi => by rw [hes] at hi; simp at hi⟩
  | some x =>
    have hmk := run_mkents m.es.length hn
    go_wp2_with fail
    have hI0 : CpInv w (w.heap.size + 1) w1.heap.size (mcells m (.slice (some x) m.es.length ec) (.slice d1 n1 c1)) ZeroMsg m.es (.slice d1 n1 c1) m.data 0 (w2.alloc (.cells (madeCells #[.int .u64 0, .int .u64 0, .int .u8 0, .slice none 0 0] (m.es.length * 4)) 51)) := by
      refine ⟨(Below.heap_alloc _ _ _ (by omega)).trans hb2, (Below.heap_alloc _ _ _ (by omega)).trans hr2, hB2.alloc (by omega) _, ⟨_, by have := heap_alloc_new w2 (.cells (madeCells #[.int .u64 0, .int .u64 0, .int .u8 0, .slice none 0 0] (m.es.length * 4)) 51); rw [hz2] at this; exact this, by rw [size_madeCells]⟩, fun i hi h => by omega, hm2.kept ((Kept.refl (fun _ => False) w2).alloc _) fun _ _ h => h⟩
    have hgl0 : w1.heap.size < (w2.alloc (.cells (madeCells #[.int .u64 0, .int .u64 0, .int .u8 0, .slice none 0 0] (m.es.length * 4)) 51)).heap.size := by rw [World.size_alloc]; omega
    generalize w2.alloc (.cells (madeCells #[.int .u64 0, .int .u64 0, .int .u8 0, .slice none 0 0] (m.es.length * 4)) 51) = w3 at *
    clear hb2 hr2 hB2 hm2 hz2 q12
    generalize w1.heap.size = ge at *
    go_loopw [4] (fun i wr => ∃ k : Nat, k ≤ m.es.length ∧ i = .int .i64 k ∧ CpInv w (w.heap.size + 1) ge (mcells m (.slice (some x) m.es.length ec) (.slice d1 n1 c1)) ZeroMsg m.es (.slice d1 n1 c1) m.data k wr ∧ ge < wr.heap.size) (fun i _ => m.es.length - (intOf i).toNat)
    case atStart => exact ⟨0, Nat.zero_le _, rfl, hI0, hgl0⟩
    case round =>
      obtain ⟨k, hk, rfl, hI, hgl⟩ := hrel
      clear hI0 hgl0
      have q12 : wr.cell? ⟨w.heap.size, 12, none⟩ = some (.slice (some x) m.es.length ec) := by rw [cell_of_row _ _ 12 _ _ _ hI.box]; rfl
      by_cases hlt : k < m.es.length
      · obtain ⟨g, o, dvk, hx, e0, e1, e2, e3, hrd⟩ : ∃ g o dv, some x = some ⟨g, o, none⟩ ∧ w.cell? ⟨g, o + k * 4, none⟩ = some (.int .u64 m.es[k].ix) ∧ w.cell? ⟨g, o + k * 4 + 1, none⟩ = some (.int .u64 m.es[k].t) ∧ w.cell? ⟨g, o + k * 4 + 2, none⟩ = some (.int .u8 m.es[k].kind) ∧ w.cell? ⟨g, o + k * 4 + 3, none⟩ = some dv ∧ Reads w dv (byts m.es[k].data) := by
          obtain ⟨a, c, h1, _, h3⟩ := hE
          simp only [Value.slice.injEq] at h1
          obtain ⟨rfl, _, rfl⟩ := h1
          exact h3 k hlt
        obtain rfl : x = ⟨g, o, none⟩ := by simpa using hx
        have hgw : g < w.heap.size := World.block_lt_of_cell? _ _ e0
        have hel' := hel m.es[k] (List.getElem_mem hlt)
        have hNX := fun (o : Obj) (w2 : World) (hbel : Below (wr.alloc o).heap.size (wr.alloc o) w2) (dv : Value) => hI.next rfl (by omega) hgl hlt m.es[k] rfl o hbel dv
        obtain ⟨sa, sc, hsv⟩ := hrd.form
        rw [byts_len] at hsv
        subst hsv
        have hgr : ∀ o', wr.cell? ⟨g, o', none⟩ = w.cell? ⟨g, o', none⟩ := fun o' => hI.bel.cell (p := ⟨g, o', none⟩) hgw
        rw [← hgr] at e0 e1 e2 e3
        have hrr : Reads wr (.slice sa m.es[k].data.length sc) (byts m.es[k].data) := hrd.below hI.bel
        generalize m.es[k] = en at *
        clear hgr hx hrd
        go_wp2_with fail
        have hr4 : Reads (wr.alloc (.cells #[.int .u64 en.ix, .int .u64 en.t, .int .u8 en.kind, .slice sa en.data.length sc] 51)) (.slice sa en.data.length sc) (byts en.data) := hrr.below ((Below.refl _ _).alloc (Nat.le_refl _) _)
        have hc4 : ∀ j, (wr.alloc (.cells #[.int .u64 en.ix, .int .u64 en.t, .int .u8 en.kind, .slice sa en.data.length sc] 51)).cell? ⟨wr.heap.size, j, none⟩ = #[.int .u64 en.ix, .int .u64 en.t, .int .u8 en.kind, .slice sa en.data.length sc][j]? := fun j => by simp
        have hf4 : (wr.alloc (.cells #[.int .u64 en.ix, .int .u64 en.t, .int .u8 en.kind, .slice sa en.data.length sc] 51)).frozen? ⟨wr.heap.size, 3, none⟩ = false := by simp
        have hz4 : wr.heap.size < (wr.alloc (.cells #[.int .u64 en.ix, .int .u64 en.t, .int .u8 en.kind, .slice sa en.data.length sc] 51)).heap.size := by simp
        have hNX' := hNX (.cells #[.int .u64 en.ix, .int .u64 en.t, .int .u8 en.kind, .slice sa en.data.length sc] 51)
        have hge4 : (wr.alloc (.cells #[.int .u64 en.ix, .int .u64 en.t, .int .u8 en.kind, .slice sa en.data.length sc] 51)).heap[ge]? = wr.heap[ge]? := Below.heap_alloc _ _ _ hgl
        generalize wr.alloc (.cells #[.int .u64 en.ix, .int .u64 en.t, .int .u8 en.kind, .slice sa en.data.length sc] 51) = w4 at *
        clear hNX e0 e1 e2 e3
        refine (cloneBytes _ en.data _ hr4 hel').mono ?_
        rintro e w5 ⟨hB5, v5, rfl, hm5, ho5⟩
        obtain ⟨a5, n5, c5, rfl⟩ := hm5.shape
        have hnx := hNX' w5 hB5 _ hm5 ho5
        have r0 : w5.cell? ⟨wr.heap.size, 0, none⟩ = some (.int .u64 en.ix) := (hB5.cell (p := ⟨wr.heap.size, 0, none⟩) hz4).trans (hc4 0)
        have r1 : w5.cell? ⟨wr.heap.size, 1, none⟩ = some (.int .u64 en.t) := (hB5.cell (p := ⟨wr.heap.size, 1, none⟩) hz4).trans (hc4 1)
        have r2 : w5.cell? ⟨wr.heap.size, 2, none⟩ = some (.int .u8 en.kind) := (hB5.cell (p := ⟨wr.heap.size, 2, none⟩) hz4).trans (hc4 2)
        have r3 : w5.cell? ⟨wr.heap.size, 3, none⟩ = some (.slice sa en.data.length sc) := (hB5.cell (p := ⟨wr.heap.size, 3, none⟩) hz4).trans (hc4 3)
        have rf : w5.frozen? ⟨wr.heap.size, 3, none⟩ = false := (hB5.frozen (p := ⟨wr.heap.size, 3, none⟩) hz4).trans hf4
        obtain ⟨arr, ha, hsz⟩ := hI.row
        have ha5 : w5.heap[ge]? = some (.cells arr 51 (0, 0)) := (hB5.block ge (by omega)).trans (hge4.trans ha)
        have hg5 : ∀ o', w5.cell? ⟨ge, o', none⟩ = arr[o']? := fun o' => cell_of_row _ ge o' _ 51 (0, 0) ha5
        have hgf : ∀ o', w5.frozen? ⟨ge, o', none⟩ = false := fun o' => by simp [World.frozen?, ha5]
        obtain ⟨x0, t0⟩ := getElem?_some_of_lt hsz (by omega : k * 4 < m.es.length * 4)
        obtain ⟨x1, t1⟩ := getElem?_some_of_lt hsz (by omega : k * 4 + 1 < m.es.length * 4)
        obtain ⟨x2, t2⟩ := getElem?_some_of_lt hsz (by omega : k * 4 + 2 < m.es.length * 4)
        obtain ⟨x3, t3⟩ := getElem?_some_of_lt hsz (by omega : k * 4 + 3 < m.es.length * 4)
        have y0 : w5.cell? ⟨ge, k * 4, none⟩ = some x0 := (hg5 _).trans t0
        have y1 : w5.cell? ⟨ge, k * 4 + 1, none⟩ = some x1 := (hg5 _).trans t1
        have y2 : w5.cell? ⟨ge, k * 4 + 2, none⟩ = some x2 := (hg5 _).trans t2
        have y3 : w5.cell? ⟨ge, k * 4 + 3, none⟩ = some x3 := (hg5 _).trans t3
        have z0 := hgf (k * 4)
        have z1 := hgf (k * 4 + 1)
        have z2 := hgf (k * 4 + 2)
        have z3 := hgf (k * 4 + 3)
        have hne1 : wr.heap.size ≠ ge := by omega
        have hne2 : ge ≠ wr.heap.size := by omega
        have hgn : ge < (cpNext w5 wr.heap.size ge k en (.slice a5 n5 c5)).heap.size := by rw [(cpNext_streams _ _ _ _ _ _).2.2.2]; have := hB5.size; omega
        have hlt' : k < m.es.length := hlt
        clear hB5 hm5 ho5 hNX' hI hg5 hgf t0 t1 t2 t3 ha5 ha hc4 hf4 hr4 hrr hge4 hE
        go_wp2
        go_roundw
        case rel => exact ⟨k + 1, by omega, by go_num, hnx, hgn⟩
        case measure => simp [intOf]; omega
      · obtain rfl : k = m.es.length := by omega
        have hbx := hI.box
        have hrs := hI.res
        have hbf : wr.frozen? ⟨w.heap.size, 12, none⟩ = false := by simp [World.frozen?, hbx]
        have hnl := hI.bel.size
        have hEA : EAt (fun b => w.heap.size + 2 ≤ b) wr (.slice (some ⟨ge, 0, none⟩) m.es.length m.es.length) m.es := by
          refine ⟨some ⟨ge, 0, none⟩, m.es.length, rfl, fun i hi => ?_⟩
          obtain ⟨dvi, c0, c1, c2, c3, hr⟩ := hI.part i hi hi
          exact ⟨ge, dvi, rfl, by omega, c0, c1, c2, c3, hr.mono fun b _ h => h.1⟩
        have hdat := hI.dat
        have hBel := hI.bel
        go_upto_region 11 with fail
        have hb3 : (wr.setCell ⟨w.heap.size, 12, none⟩ (.slice (some ⟨ge, 0, none⟩) m.es.length m.es.length)).heap[w.heap.size]? = some (.cells (mcells m (.slice (some ⟨ge, 0, none⟩) m.es.length m.es.length) (.slice d1 n1 c1)) 48 (0, 0)) := row_set hbx _
        have hr3 : (wr.setCell ⟨w.heap.size, 12, none⟩ (.slice (some ⟨ge, 0, none⟩) m.es.length m.es.length)).heap[w.heap.size + 1]? = some (.cells ZeroMsg 48 (0, 0)) := (Below.heap_setCell _ _ _ _ (by simp)).trans hrs
        have hB3 : Below w.heap.size w (wr.setCell ⟨w.heap.size, 12, none⟩ (.slice (some ⟨ge, 0, none⟩) m.es.length m.es.length)) := hBel.setCell (Nat.le_refl _) _
        have hk3 : Kept (fun b => b = w.heap.size) wr (wr.setCell ⟨w.heap.size, 12, none⟩ (.slice (some ⟨ge, 0, none⟩) m.es.length m.es.length)) := Kept.setCell (S := fun b => b = w.heap.size) (Kept.refl _ _) (p := ⟨w.heap.size, 12, none⟩) rfl _
        have hd3 := hdat.kept hk3 fun b hb e => by omega
        have hE3 := hEA.kept hk3 fun b hb e => by omega
        generalize wr.setCell ⟨w.heap.size, 12, none⟩ (.slice (some ⟨ge, 0, none⟩) m.es.length m.es.length) = w9 at *
        clear hbx hrs hbf hI hEA hdat hBel hk3
        go_wp2_with (first
          | (refine wpList_load_row rfl 48 (.tmp 1) rfl w.heap.size rfl 48 (mcells m (.slice (some ⟨ge, 0, none⟩) m.es.length m.es.length) (.slice d1 n1 c1)) (0, 0) _ hb3 Try.underlying48 rfl (by rw [mcells_size]; exact hcs) ?_)
          | (refine wpList_store_row rfl 48 (.tmp 2) (.tmp 39) rfl (w.heap.size + 1) (mcells m (.slice (some ⟨ge, 0, none⟩) m.es.length m.es.length) (.slice d1 n1 c1)) rfl rfl 48 ZeroMsg hr3 (by rw [mcells_size]; exact hcs) rfl (mcells_one _ _ _ _ _ _ _) ?_))
        refine bodyPost_ret (v := .agg (mcells m (.slice (some ⟨ge, 0, none⟩) m.es.length m.es.length) (.slice d1 n1 c1))) (results_cell_row Try.results28 _ _ (w.heap.size + 1) 48 _ (0, 0) _ rfl (setRow_heap _ _ _ _ _ _ hr3) Try.underlying48 rfl (by rw [mcells_size]; exact hcs)) rfl ?_
        exact copyEnd hB3 (hd3.mono fun b _ h => h.1) hE3 _
end Go.Proofs.Qxb6618972a
