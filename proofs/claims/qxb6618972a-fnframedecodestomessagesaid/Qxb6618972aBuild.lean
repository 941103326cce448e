import Derived.Test.Qxb6618972aZBytes
import Derived.Test.Qxb6618972aReadUv
import Derived.BigQuiet
import Derived.Deep.CutRange
import Derived.Deep.RegionHeld3
namespace Go.Proofs.Qxb6618972a
open Go.RowKit

theorem ownsRow_of_block {w w' : World} {B : Nat} {e : TypeId} {sz : Nat} {v : Value} {n : Nat} {xs : List Value} (h : w.ownsRow B e sz v n xs) (hb : ∀ g, v.ownBlock = some g → w'.heap[g]? = w.heap[g]?) : w'.ownsRow B e sz v n xs := by
  obtain ⟨hl, h | ⟨g, cap, cur, rfl, hB, hg, h1, h2, h3, h4⟩⟩ := h
  · exact ⟨hl, .inl h⟩
  · exact ⟨hl, .inr ⟨g, cap, cur, rfl, hB, (hb g rfl).trans hg, h1, h2, h3, h4⟩⟩

def flatE (ys : List (Entry4 × Value)) : List Value := ys.flatMap fun p => ent4 p.1 p.2
theorem flatE_get (ys : List (Entry4 × Value)) (i j : Nat) (hj : j < 4) : (flatE ys)[i * 4 + j]? = (ys[i]?).bind fun p => (ent4 p.1 p.2)[j]? := by
  induction ys generalizing i with
  | nil => simp [flatE]
  | cons p ys ih =>
    have hl : (ent4 p.1 p.2).length = 4 := rfl
    have e : flatE (p :: ys) = ent4 p.1 p.2 ++ flatE ys := by simp [flatE]
    rw [e]
    cases i with
    | zero => rw [List.getElem?_append_left (by omega)]; simp
    | succ i =>
      rw [List.getElem?_append_right (by omega), hl]
      have : (i + 1) * 4 + j - 4 = i * 4 + j := by omega
      rw [this, ih i]; simp

/-- The loop that fills the message's entries: k of them stand. -/
def LpInv (wc : World) (bm : Nat) (m : M20) (dv8 : Value) (k : Nat) (wr : World) : Prop :=
  Kept (fun j => j = bm ∨ wc.heap.size ≤ j) wc wr ∧ ∃ vek ys, Msg wr bm m vek dv8 ∧ ys.map Prod.fst = m.es.take k ∧ wr.ownsRow wc.heap.size 101 4 vek k (flatE ys) ∧
    ∀ p ∈ ys, RAt (fun b => wc.heap.size ≤ b ∧ vek.ownBlock ≠ some b) wr p.2 p.1.data

theorem LpInv.start {wc : World} {bm : Nat} {m : M20} {dv8 : Value} (h : Msg wc bm m (.slice none 0 0) dv8) : LpInv wc bm m dv8 0 wc :=
  ⟨Kept.refl _ _, .slice none 0 0, [], h, by simp, World.ownsRow_nil _ _ _ _, fun p hp => by simp at hp⟩

theorem LpInv.next {wc : World} {bm : Nat} {m : M20} {dv8 : Value} {k : Nat} {wr w6 w7 : World} {v vek : Value} {ys : List (Entry4 × Value)} {e : Ending} (hbm : bm < wc.heap.size) (hk : k < m.es.length)
    (hK : Kept (fun j => j = bm ∨ wc.heap.size ≤ j) wc wr) (hys : ys.map Prod.fst = m.es.take k) (hown : wr.ownsRow wc.heap.size 101 4 vek k (flatE ys)) (hr : ∀ p ∈ ys, RAt (fun b => wc.heap.size ≤ b ∧ vek.ownBlock ≠ some b) wr p.2 p.1.data)
    (hB6 : Below wr.heap.size wr w6) (hm : Mine w6 v (byts m.es[k].data)) (ho : ∀ g, v.ownBlock = some g → wr.heap.size ≤ g)
    (hA : AddPost w6 wc.heap.size bm m dv8 vek (k + 1) (flatE ys ++ ent4 m.es[k] v) e w7) : LpInv wc bm m dv8 (k + 1) w7 := by
  obtain ⟨_, vek', hM', hown', hk7, hat⟩ := hA
  have hsz := hK.size
  have hz6 := hB6.size
  have hlt := fun g hg => (hown.lt g hg).2
  have hlb := fun g hg => (hown.lt g hg).1
  have hk6 : Kept (fun j => j = bm ∨ wc.heap.size ≤ j) wc w6 := hK.trans ((Kept.of_below hB6).mono fun j _ h => .inr (by omega))
  refine ⟨hk6.trans (hk7.mono fun j _ h => ?_), vek', ys ++ [(m.es[k], v)], hM', ?_, ?_, fun p hp => ?_⟩
  · rcases h with h | h
    · exact .inl h
    · exact .inr (hlb j h.symm)
  · rw [List.map_append, hys, List.take_add_one, List.getElem?_eq_getElem hk]; rfl
  · have : flatE (ys ++ [(m.es[k], v)]) = flatE ys ++ ent4 m.es[k] v := by simp [flatE]
    rw [this]; exact hown'
  · have hne : ∀ b, b < w6.heap.size → vek.ownBlock ≠ some b → vek'.ownBlock ≠ some b := fun b hb hn => by
      rcases hat with h | h
      · rw [h]; exact hn
      · rw [h]; intro e; simp only [Option.some.injEq] at e; omega
    rcases List.mem_append.1 hp with hp | hp
    · have h1 := (hr p hp).mono (F' := fun b => (wc.heap.size ≤ b ∧ vek.ownBlock ≠ some b) ∧ b < wr.heap.size) fun b hb h => ⟨h, hb⟩
      have h2 := h1.kept (Kept.of_below hB6) fun b hb h => by omega
      have h3 := h2.kept hk7 fun b hb h => by
        rcases h with h | h
        · have := hb.1.1; omega
        · exact hb.1.2 h.symm
      exact h3.mono fun b _ hb => ⟨hb.1.1, hne b (by have := hb.2; omega) hb.1.2⟩
    · simp only [List.mem_singleton] at hp
      subst hp
      have h1 : RAt (fun b => wr.heap.size ≤ b ∧ b < w6.heap.size) w6 v m.es[k].data := ⟨hm.reads, fun _ b hb => ⟨ho b hb, hm.lt b hb⟩⟩
      have h2 := h1.kept hk7 fun b hb h => by
        rcases h with h | h
        · omega
        · have := hlt b h.symm; omega
      exact h2.mono fun b _ hb => ⟨by omega, hne b hb.2 fun e => by have := hlt b e; omega⟩

/-- The loop's end: the message stands whole. -/
theorem LpInv.done {wc : World} {bm : Nat} {m : M20} {dv8 : Value} {wr : World} (h : LpInv wc bm m dv8 m.es.length wr) : ∃ vek, Msg wr bm m vek dv8 ∧ EAt (fun b => wc.heap.size ≤ b) wr vek m.es ∧ Kept (fun j => j = bm ∨ wc.heap.size ≤ j) wc wr := by
  obtain ⟨hK, vek, ys, hM, hys, hown, hr⟩ := h
  refine ⟨vek, hM, ?_, hK⟩
  rw [List.take_length] at hys
  have hlen : ys.length = m.es.length := by rw [← hys, List.length_map]
  obtain ⟨hl, ⟨rfl, h0⟩ | ⟨g, cap, cur, rfl, hB, hg, h1, h2, h3, h4⟩⟩ := id hown
  · exact ⟨none, 0, by rw [h0], fun i hi => by omega⟩
  · refine ⟨some ⟨g, 0, none⟩, cap, rfl, fun i hi => ?_⟩
    have hi' : i < ys.length := by omega
    have hp : ys[i].1 = m.es[i] := by
      have : (ys.map Prod.fst)[i]'(by simpa using hi') = m.es[i] := by simp only [hys]
      simpa using this
    have hc : ∀ j, j < 4 → wr.cell? ⟨g, i * 4 + j, none⟩ = (ent4 m.es[i] ys[i].2)[j]? := fun j hj => by
      rw [hown.cellAt (i * 4 + j) (by omega), flatE_get ys i j hj, List.getElem?_eq_getElem hi', ← hp]; rfl
    have hrr := hr ys[i] (List.getElem_mem hi')
    rw [hp] at hrr
    exact ⟨g, ys[i].2, rfl, hB, hc 0 (by omega), hc 1 (by omega), hc 2 (by omega), hc 3 (by omega), hrr.mono fun b _ h => h.1⟩

/-- The total that the law reckons over the first k entries. -/
def entTot : List Entry4 → Nat
  | [] => 0
  | e :: es => (48 + e.data.length) + entTot es

theorem entTot_take (es : List Entry4) (k : Nat) (h : k < es.length) : entTot (es.take (k + 1)) = entTot (es.take k) + (48 + es[k].data.length) := by
  induction es generalizing k with
  | nil => simp at h
  | cons e es ih =>
    cases k with
    | zero => simp [entTot]
    | succ k =>
      have := ih k (by simpa using h)
      simp only [List.take_succ_cons, entTot, List.getElem_cons_succ]
      rw [this]; omega

theorem EIn.get {w : World} {ea : Option Addr} {n ec : Nat} {es : List Entry4} (hE : EIn w (.slice ea n ec) es) {k : Nat} (hlt : k < es.length) : ∃ g o sa sc, ea = some ⟨g, o, none⟩ ∧ w.cell? ⟨g, o + k * 4, none⟩ = some (.int .u64 es[k].ix) ∧ w.cell? ⟨g, o + k * 4 + 1, none⟩ = some (.int .u64 es[k].t) ∧ w.cell? ⟨g, o + k * 4 + 2, none⟩ = some (.int .u8 es[k].kind) ∧ w.cell? ⟨g, o + k * 4 + 3, none⟩ = some (.slice sa es[k].data.length sc) ∧ Reads w (.slice sa es[k].data.length sc) (byts es[k].data) := by
  obtain ⟨a, c, h1, _, h3⟩ := hE
  simp only [Value.slice.injEq] at h1
  obtain ⟨rfl, _, rfl⟩ := h1
  obtain ⟨g, o, dv, ha, e0, e1, e2, e3, hr⟩ := h3 k hlt
  obtain ⟨sa, sc, hsv⟩ := hr.form
  rw [byts_len] at hsv
  subst hsv
  exact ⟨g, o, sa, sc, ha, e0, e1, e2, e3, hr⟩

theorem EIn.below {w w' : World} {ve : Value} {es : List Entry4} (h : EIn w ve es) (hb : Below w.heap.size w w') : EIn w' ve es := by
  obtain ⟨a, c, hv, hc, h⟩ := h
  refine ⟨a, c, hv, hc, fun i hi => ?_⟩
  obtain ⟨g, o, dv, ha, e0, e1, e2, e3, hr⟩ := h i hi
  have hg : g < w.heap.size := World.block_lt_of_cell? _ _ e0
  have hcell : ∀ o', w'.cell? ⟨g, o', none⟩ = w.cell? ⟨g, o', none⟩ := fun o' => hb.cell (p := ⟨g, o', none⟩) hg
  exact ⟨g, o, dv, ha, (hcell _).trans e0, (hcell _).trans e1, (hcell _).trans e2, (hcell _).trans e3, hr.below hb⟩

/-- What stands when the law's own bounds are passed. -/
structure Bounds (bs : List Int) (m : M20) : Prop where
  b : bs.length ≤ 1048576
  n : m.es.length ≤ 1048576
  d : m.data.length ≤ 1048576
  e : ∀ i (h : i < m.es.length), m.es[i].data.length ≤ 1048576
  tot : entTot m.es ≤ 1048576

theorem yLoad {ops : Array Oper} {S : World → Prop} {op : Oper} {a : Act} (hw : Region.wanted op (yielded ops a.tmps) = true) (ty : TypeId) (x : Operand) (ho : op.op = .load ty x)
    (b o : Nat) (hx : a.eval x = .pointer (some ⟨b, o, none⟩)) (v : Value) (hS : ∀ w, S w → w.cell? ⟨b, o, none⟩ = some v) (d : TypeDesc)
    (hu : Try.prog.underlying ty = some d) (hd : (match d with | .struct _ | .array _ _ => true | _ => false) = false) : YieldsIf Try.prog ops S op v a :=
  .inl ⟨hw, fun w hw' => by
    have hagg : (isAgg ty).run Try.prog w = .ok false w := by
      unfold isAgg
      rw [Sem.run_bind, run_underlying hu w]
      cases d <;> simp_all
    unfold execOp
    simp only [ho, hx, Instr.loadAt, Instr.sureAddr, Sem.run_bind, Sem.run_pure, Result.andThen_ok]
    simp [loadVar, Sem.run_bind, hagg, hS w hw']⟩

theorem wp_alloc58 {o : Oper} {a : Act} {w : World} {K : Act → World → Prop} {Q : Exit → Act → World → Prop} (ho : o.op = .alloc 58)
    (h : K (a.put o.dst (.pointer (some ⟨w.heap.size, 0, none⟩))) (w.alloc (.cells ZeroMsg 58))) : o.wp Try.prog a w K Q := by
  have hr : (execOp a.eval o).run Try.prog w = .ok (.value (.pointer (some ⟨w.heap.size, 0, none⟩))) (w.alloc (.cells ZeroMsg 58)) := by
    cases o; simp only at ho; subst ho; kernel_rfl
  unfold Oper.wp
  rw [hr]
  exact h
theorem wpAnyH_act {P : Program} {md : Region.Mode} {ops : Array Oper} {Q : Exit → Act → World → Prop} {S : World → Prop} {n : Nat} {l l' : Array Bool} {a a' : Act} {w : World} (hl : l = l') (ha : a = a') (h : wpAnyH P md ops Q S n l' a' w) : wpAnyH P md ops Q S n l a w := by
  subst hl ha; exact h

theorem wp_store58 {o : Oper} {a : Act} {w : World} {K : Act → World → Prop} {Q : Exit → Act → World → Prop} (ho : o.op = .store 58 (.tmp 8) (.tmp 93)) (g : Nat) (m : M20) (da : Option Addr) (dn dc : Nat)
    (hx : a.eval (.tmp 8) = .pointer (some ⟨g, 0, none⟩)) (hy : a.eval (.tmp 93) = .agg (mcells m (.slice none 0 0) (.slice da dn dc))) (hg : w.heap[g]? = some (.cells ZeroMsg 58 (0, 0)))
    (h : K (a.put o.dst undef) (w.setRow g (mcells m (.slice none 0 0) (.slice da dn dc)))) : o.wp Try.prog a w K Q :=
  wp_store_row 58 (.tmp 8) (.tmp 93) ho g _ hx hy 58 ZeroMsg hg (by rw [mcells_size]; kernel_rfl) rfl (mcells_one m _ _ _ _ _ _) h

theorem enter10 (args : Array Value) (w : World) : (callFunc 10 args).run Try.prog w = .ok (.enter 10 args) w := by kernel_rfl
theorem enter29 (args : Array Value) (w : World) : (callFunc 29 args).run Try.prog w = .ok (.enter 29 args) w := by kernel_rfl


/-- The message's numbers fit their types. -/
structure MNum (m : M20) : Prop where
  kind : m.kind < 256
  from_ : m.from_ < 18446744073709551616
  to_ : m.to_ < 18446744073709551616
  term : m.term < 18446744073709551616
  cluster : m.cluster < 18446744073709551616
  li : m.li < 18446744073709551616
  lt : m.lt < 18446744073709551616
  pi : m.pi < 18446744073709551616
  pt : m.pt < 18446744073709551616
  commit : m.commit < 18446744073709551616
  round : m.round < 18446744073709551616
  index : m.index < 18446744073709551616
  offset : m.offset < 18446744073709551616
  ents : ∀ e ∈ m.es, e.ix < 18446744073709551616 ∧ e.t < 18446744073709551616

theorem entsRoom_le (es : List Entry4) : entsRoom es ≤ entTot es := by
  induction es with
  | nil => simp [entsRoom, entTot]
  | cons e es ih => simp only [entsRoom, entTot, List.map_cons, List.sum_cons] at ih ⊢; omega

theorem MNum.ok {m : M20} {bs : List Int} (h : MNum m) (hb : Bounds bs m) : MOk m :=
  ⟨h.kind, h.from_, h.to_, h.term, h.cluster, h.li, h.lt, h.pi, h.pt, h.commit, h.round, h.index, h.offset, h.ents, by have := entsRoom_le m.es; have := hb.tot; have := hb.d; omega, hb.n⟩

theorem frame_len {m : M20} {bs : List Int} (hb : Bounds bs m) : (frame m).length ≤ 3000000 := by
  have h1 := payload_len m
  have h2 := uv_len (payload m).length
  have h3 := entsRoom_le m.es
  have h4 := hb.tot
  have h5 := hb.d
  simp only [frame, List.length_append]
  omega

theorem payload_head (m : M20) : ∃ rest, payload m = (m.kind : Int) :: rest := ⟨_, rfl⟩
theorem uv_pos (x : Nat) : 0 < (uv x).length := by
  unfold uv
  unfold uvF
  split <;> simp

/-- The message stands anew, with no entries yet. -/
def MMade (w5 w' : World) (m : M20) (v : Value) : Prop := ∃ bm da dn dc, v = .pointer (some ⟨bm, 0, none⟩) ∧ w5.heap.size ≤ bm ∧ Below w5.heap.size w5 w' ∧ Msg w' bm m (.slice none 0 0) (.slice da dn dc) ∧ RAt (fun b => w5.heap.size ≤ b ∧ b ≠ bm) w' (.slice da dn dc) m.data

theorem mmade_end {w5 wS : World} {m : M20} {bm : Nat} {da : Option Addr} {dn dc : Nat} (hbm : w5.heap.size ≤ bm) (hB : Below w5.heap.size w5 wS) (hz : wS.heap[bm]? = some (.cells ZeroMsg 58 (0, 0))) (hr : RAt (fun b => w5.heap.size ≤ b ∧ b ≠ bm) wS (.slice da dn dc) m.data) :
    MMade w5 (wS.setRow bm (mcells m (.slice none 0 0) (.slice da dn dc))) m (.pointer (some ⟨bm, 0, none⟩)) := by
  have hk : Kept (fun k => k = bm) wS (wS.setRow bm (mcells m (.slice none 0 0) (.slice da dn dc))) := ⟨rfl, rfl, rfl, by simp [World.setRow], fun k _ hn => setRow_other _ _ _ _ hn⟩
  exact ⟨bm, da, dn, dc, rfl, hbm, hB.trans (hk.below hB.size (fun k h => by omega)), setRow_heap _ _ _ _ _ _ hz, hr.kept hk fun b hb e => hb.2 e⟩

theorem World.kept_setRow (w : World) (g : Nat) (cs : Array Value) : Kept (fun k => k = g) w (w.setRow g cs) := ⟨rfl, rfl, rfl, by simp [World.setRow], fun k _ hn => setRow_other _ _ _ _ hn⟩

theorem below_drew {B : Nat} {w w' : World} (h : Below B w w') : Below B w w'.drew := ⟨h.os, h.tape, h.output, h.size, h.block⟩

def Said (w : World) (e : Ending) (w' : World) : Prop := Below w.heap.size w w' ∧ e = .returned (.bool true)

end Go.Proofs.Qxb6618972a
