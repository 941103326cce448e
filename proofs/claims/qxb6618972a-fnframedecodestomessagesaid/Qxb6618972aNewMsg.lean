/- ZZnewMessage, ZZaddEntry (seat b6618972a). -/
import Derived.Test.Qxb6618972aUtil
namespace Go.Proofs.Qxb6618972a
open Go.RowKit
attribute [local go_sem ↓] Go.wp_at_zero Go.wp_at_succ

/-- The bytes ds behind sv lie in blocks of F. -/
def RAt (F : Nat → Prop) (w : World) (sv : Value) (ds : List Int) : Prop := Reads w sv (byts ds) ∧ (ds ≠ [] → ∀ b, sv.ownBlock = some b → F b)
/-- The entries es behind ve (from a block's head) lie in blocks of F. -/
def EAt (F : Nat → Prop) (w : World) (ve : Value) (es : List Entry4) : Prop :=
  ∃ a c, ve = .slice a es.length c ∧ ∀ i (h : i < es.length), ∃ g dv, a = some ⟨g, 0, none⟩ ∧ F g ∧
    w.cell? ⟨g, i * 4, none⟩ = some (.int .u64 es[i].ix) ∧ w.cell? ⟨g, i * 4 + 1, none⟩ = some (.int .u64 es[i].t) ∧ w.cell? ⟨g, i * 4 + 2, none⟩ = some (.int .u8 es[i].kind) ∧ w.cell? ⟨g, i * 4 + 3, none⟩ = some dv ∧
    RAt F w dv es[i].data
/-- The entries as they came in. -/
def EIn (w : World) (ve : Value) (es : List Entry4) : Prop :=
  ∃ a c, ve = .slice a es.length c ∧ (a = none → c = 0) ∧ ∀ i (h : i < es.length), ∃ g o dv, a = some ⟨g, o, none⟩ ∧
    w.cell? ⟨g, o + i * 4, none⟩ = some (.int .u64 es[i].ix) ∧ w.cell? ⟨g, o + i * 4 + 1, none⟩ = some (.int .u64 es[i].t) ∧ w.cell? ⟨g, o + i * 4 + 2, none⟩ = some (.int .u8 es[i].kind) ∧ w.cell? ⟨g, o + i * 4 + 3, none⟩ = some dv ∧
    Reads w dv (byts es[i].data)

theorem EAt.fix {F : Nat → Prop} {w : World} {ve : Value} {es : List Entry4} {N x : Nat} (h : EAt F w ve es) (hF : ∀ k, F k → ¬ Free N x k) : EFix N x w ve es := by
  obtain ⟨a, c, hv, h⟩ := h
  refine ⟨a, c, hv, fun i hi => ?_⟩
  obtain ⟨g, dv, ha, hg, h1, h2, h3, h4, hf⟩ := h i hi
  exact ⟨g, dv, ha, hF g hg, h1, h2, h3, h4, hf.1, fun hne b hb => hF b (hf.2 hne b hb)⟩
theorem RAt.fix {F : Nat → Prop} {w : World} {sv : Value} {ds : List Int} {N x : Nat} (h : RAt F w sv ds) (hF : ∀ k, F k → ¬ Free N x k) : Fix N x w sv ds := ⟨h.1, fun hne b hb => hF b (h.2 hne b hb)⟩
theorem RAt.kept {F S : Nat → Prop} {w w' : World} {sv : Value} {ds : List Int} (h : RAt F w sv ds) (hk : Kept S w w') (hF : ∀ k, F k → ¬ S k) : RAt F w' sv ds :=
  ⟨h.1.kept hk fun hne b hb => hF b (h.2 (fun e => hne (by simp [e, byts])) b hb), h.2⟩
theorem RAt.mono {F F' : Nat → Prop} {w : World} {sv : Value} {ds : List Int} (h : RAt F w sv ds) (hF : ∀ k, k < w.heap.size → F k → F' k) : RAt F' w sv ds := by
  refine ⟨h.1, fun hne b hb => hF b ?_ (h.2 hne b hb)⟩
  rcases h.1 with ⟨rfl, _⟩ | ⟨x, c, rfl, _, hx⟩
  · simp [Value.ownBlock] at hb
  · obtain ⟨b', o, rfl, hc⟩ := hx (by simpa [byts] using hne)
    simp [Value.ownBlock] at hb
    subst hb
    have hp : 0 < (byts ds).length := by rw [byts_len]; exact List.length_pos_iff.2 hne
    exact World.block_lt_of_cell? _ _ (hc 0 hp)
theorem EAt.kept {F S : Nat → Prop} {w w' : World} {ve : Value} {es : List Entry4} (h : EAt F w ve es) (hk : Kept S w w') (hF : ∀ k, F k → ¬ S k) : EAt F w' ve es := by
  obtain ⟨a, c, hv, h⟩ := h
  refine ⟨a, c, hv, fun i hi => ?_⟩
  obtain ⟨g, dv, ha, hg, h1, h2, h3, h4, hf⟩ := h i hi
  have hn := hF g hg
  exact ⟨g, dv, ha, hg, cell_kept hk hn h1, cell_kept hk hn h2, cell_kept hk hn h3, cell_kept hk hn h4, hf.kept hk hF⟩
theorem EAt.mono {F F' : Nat → Prop} {w : World} {ve : Value} {es : List Entry4} (h : EAt F w ve es) (hF : ∀ k, k < w.heap.size → F k → F' k) : EAt F' w ve es := by
  obtain ⟨a, c, hv, h⟩ := h
  refine ⟨a, c, hv, fun i hi => ?_⟩
  obtain ⟨g, dv, ha, hg, h1, h2, h3, h4, hf⟩ := h i hi
  exact ⟨g, dv, ha, hF g (World.block_lt_of_cell? _ _ h1) hg, h1, h2, h3, h4, hf.mono hF⟩
theorem RAt.form {F : Nat → Prop} {w : World} {sv : Value} {ds : List Int} (h : RAt F w sv ds) : ∃ a n c, sv = .slice a n c := by
  obtain ⟨a, c, hv⟩ := h.1.form; exact ⟨a, _, c, hv⟩

/-- (29) ZZnewMessage's literal. -/
theorem build58 (m : M20) (da : Option Addr) (dn dc : Nat) (w : World) :
    (Instr.build 58 #[(0, .int .u8 m.kind), (1, .int .u64 m.from_), (2, .int .u64 m.to_), (3, .int .u64 m.term), (4, .int .u64 m.cluster), (5, .agg #[.int .u64 m.li, .int .u64 m.lt]), (6, .bool m.granted), (7, .bool m.pre), (8, .bool m.transfer),
      (9, .agg #[.int .u64 m.pi, .int .u64 m.pt]), (11, .int .u64 m.commit), (12, .int .u64 m.round), (13, .bool m.success), (14, .int .u64 m.index), (15, .int .u64 m.offset), (16, .slice da dn dc), (17, .bool m.done)]).run Try.prog w =
      .ok (.agg (mcells m (.slice none 0 0) (.slice da dn dc))) w := by kernel_rfl

theorem wpList_build58 {ops : Array Oper} {rest : List Oper} {o : Oper} {a : Act} {w : World} {Q : Exit → Act → World → Prop} (hg : o.guard = none) (parts : Array (Nat × Operand)) (ho : o.op = .build 58 parts) (m : M20) (da : Option Addr) (dn dc : Nat)
    (hp : parts.map (fun (i, x) => (i, a.eval x)) = #[(0, .int .u8 m.kind), (1, .int .u64 m.from_), (2, .int .u64 m.to_), (3, .int .u64 m.term), (4, .int .u64 m.cluster), (5, .agg #[.int .u64 m.li, .int .u64 m.lt]), (6, .bool m.granted), (7, .bool m.pre), (8, .bool m.transfer),
      (9, .agg #[.int .u64 m.pi, .int .u64 m.pt]), (11, .int .u64 m.commit), (12, .int .u64 m.round), (13, .bool m.success), (14, .int .u64 m.index), (15, .int .u64 m.offset), (16, .slice da dn dc), (17, .bool m.done)])
    (h : wpList Try.prog ops Q rest (a.put o.dst (.agg (mcells m (.slice none 0 0) (.slice da dn dc)))) w) : wpList Try.prog ops Q (o :: rest) a w := by
  refine wpList_plain hg fun K hK => ?_
  unfold Oper.wp execOp
  simp only [ho, hp, Sem.run_bind, build58, Result.andThen_ok]
  exact hK _ _ h

theorem mcells_size (m : M20) (ve dv : Value) : (mcells m ve dv).size = 20 := rfl

theorem mcells_one (m : M20) (ea : Option Addr) (en ec : Nat) (da : Option Addr) (dn dc : Nat) : (mcells m (.slice ea en ec) (.slice da dn dc)).all (·.oneCell') = true := by simp [mcells, Value.oneCell']

def NPost (w : World) (m : M20) (dv : Value) (e : Ending) (w' : World) : Prop := e = .returned (.agg (mcells m (.slice none 0 0) dv)) ∧ Below w.heap.size w w'

set_option maxRecDepth 20000 in
set_option maxHeartbeats 1000000 in
theorem newMessage (m : M20) (da : Option Addr) (dn dc : Nat) (w : World) :
    Calls Try.prog 29 #[.int .u8 m.kind, .int .u64 m.from_, .int .u64 m.to_, .int .u64 m.term, .int .u64 m.cluster, .int .u64 m.li, .int .u64 m.lt, .bool m.granted, .bool m.pre, .bool m.transfer, .int .u64 m.pi, .int .u64 m.pt, .int .u64 m.commit, .int .u64 m.round, .bool m.success, .int .u64 m.index, .int .u64 m.offset, .slice da dn dc, .bool m.done] w
      (NPost w m (.slice da dn dc)) := by
  go_enter Try.func29, Try.ntmps29
  go_wp2_with (first
    | (refine wpList_build58 rfl _ rfl m da dn dc (by simp [Act.eval]) ?_)
    | (refine wpList_store_row rfl 58 (.tmp 38) (.tmp 60) rfl w.heap.size (mcells m (.slice none 0 0) (.slice da dn dc)) rfl rfl 58 _ (heap_alloc_new w _) (by rw [mcells_size]; kernel_rfl) (by rw [mcells_size]; rfl) (mcells_one m _ _ _ _ _ _) ?_))
  refine bodyPost_ret (v := .agg (mcells m (.slice none 0 0) (.slice da dn dc))) (results_cell_row Try.results29 _ _ w.heap.size 58 _ (0, 0) _ rfl (setRow_heap _ _ _ _ _ _ (heap_alloc_new w _)) Try.underlying58 rfl (by rw [mcells_size]; kernel_rfl)) rfl ⟨rfl, ?_⟩
  refine ⟨rfl, rfl, rfl, by simp [World.setRow], fun k hk => ?_⟩
  rw [setRow_other _ _ _ _ (by omega)]
  exact Below.heap_alloc _ _ _ hk

/-- The message under way: block bm; its entries, so far es, lie in a row from B on. -/
def Msg (w : World) (bm : Nat) (m : M20) (ve dv : Value) : Prop := w.heap[bm]? = some (.cells (mcells m ve dv) 58 (0, 0))

theorem Msg.cell12 {w : World} {bm : Nat} {m : M20} {ve dv : Value} (h : Msg w bm m ve dv) : w.cell? ⟨bm, 12, none⟩ = some ve ∧ w.frozen? ⟨bm, 12, none⟩ = false ∧ bm < w.heap.size := by
  have h' : w.heap[bm]? = some (.cells (mcells m ve dv) 58 (0, 0)) := h
  refine ⟨?_, by simp [World.frozen?, h'], (Array.getElem?_eq_some_iff.1 h).1⟩
  rw [cell_of_row w bm 12 _ 58 (0, 0) h]; rfl
theorem Msg.store {w : World} {bm : Nat} {m : M20} {ve dv : Value} (h : Msg w bm m ve dv) (ve' : Value) : Msg (w.setCell ⟨bm, 12, none⟩ ve') bm m ve' dv := by
  have : (w.setCell ⟨bm, 12, none⟩ ve').heap[bm]? = some (.cells ((mcells m ve dv).setIfInBounds 12 ve') 58 (0, 0)) := by
    have h' : w.heap[bm]? = some (.cells (mcells m ve dv) 58 (0, 0)) := h
    simp [World.setCell, Array.getElem?_modify, h']
  exact this

/-- One entry's cells. -/
def ent4 (e : Entry4) (dv : Value) : List Value := [.int .u64 e.ix, .int .u64 e.t, .int .u8 e.kind, dv]

def AddPost (w : World) (B bm : Nat) (m : M20) (dv ve : Value) (n : Nat) (xs : List Value) (e : Ending) (w' : World) : Prop :=
  e = .returned (.tuple #[]) ∧ ∃ ve', Msg w' bm m ve' dv ∧ w'.ownsRow B 101 4 ve' n xs ∧ Kept (fun k => k = bm ∨ some k = ve.ownBlock) w w' ∧ (ve'.ownBlock = ve.ownBlock ∨ ve'.ownBlock = some (w.heap.size + 1))

set_option maxRecDepth 20000 in
set_option maxHeartbeats 1000000 in
/-- (30) ZZaddEntry -/
theorem addEntry (B bm : Nat) (m : M20) (dv ve : Value) (n : Nat) (xs : List Value) (e : Entry4) (da : Option Addr) (dn dc : Nat) (w : World)
    (hs : Msg w bm m ve dv) (hown : w.ownsRow B 101 4 ve n xs) (hb : bm < B) (hB : B ≤ w.heap.size) (hn : n ≤ 1048576) :
    Calls Try.prog 30 #[.pointer (some ⟨bm, 0, none⟩), .int .u64 e.ix, .int .u64 e.t, .int .u8 e.kind, .slice da dn dc] w (AddPost w B bm m dv ve (n + 1) (xs ++ ent4 e (.slice da dn dc))) := by
  obtain ⟨hc, hf, hbl⟩ := hs.cell12
  have hne : ve.ownBlock ≠ some bm := fun e => by have := (hown.lt bm e).1; omega
  obtain ⟨i0, hi, hz0, hz1, hz2⟩ := info_parts info101
  go_enter Try.func30, Try.ntmps30
  go_wp2_with (at_builtin; refine wpList_append_lies _ rfl (.tmp 14) (.tmp 21) 56 rfl B 101 i0 (.agg #[.int .u64 0, .int .u64 0, .int .u8 0, .slice none 0 0]) 4 48 Try.underlying56 hi hz0 hz1 hz2 rfl (by omega) ve n xs rfl (hown.alloc _) ⟨w.heap.size, 0, none⟩ 1 1 [.int .u64 e.ix, .int .u64 e.t, .int .u8 e.kind, .slice da dn dc] rfl rfl (World.news_of_block (heap_alloc_new w _)) (by simp [Value.oneCell']) (by omega) (by unfold maxLen; omega) (by omega) (by simp; omega) (w.heap.size + 1) (by simp) ?_; intro g cap w1 hown1 hgrow hat hlt; have hb1 := (hgrow.block bm (by simp; omega) (fun e => hne e.symm)).trans (Below.heap_alloc w (.cells #[.int .u64 e.ix, .int .u64 e.t, .int .u8 e.kind, .slice da dn dc] 101) bm hbl); have hs1 : Msg w1 bm m ve dv := hb1.trans hs; clear hb1; obtain ⟨hc1, hf1, _⟩ := hs1.cell12)
  go_end0
  refine ⟨rfl, _, hs1.store _, ownsRow_setCell_below hown1 hb _, ⟨?_, ?_, ?_, ?_, ?_⟩, ?_⟩
  · exact hgrow.os
  · exact hgrow.tape
  · exact hgrow.output
  · have := hgrow.size; simp at this ⊢; omega
  · intro k hk hS
    rw [Below.heap_setCell _ _ _ _ (fun e => hS (.inl e)), hgrow.block k (by simp; omega) (fun e => hS (.inr e)), Below.heap_alloc _ _ _ hk]
  · rcases hat with h | h
    · left; rw [h]; rfl
    · right; rw [h]; rfl
end Go.Proofs.Qxb6618972a
