/- The entries of a message, encoded (seat b6618972a). -/
import Derived.Test.Qxb6618972aEnt
namespace Go.Proofs.Qxb6618972a
open Go.RowKit
attribute [local go_sem ↓] Go.wp_at_zero Go.wp_at_succ

/-- The entries es behind the slice ve (four cells each, from the head of a block) lie in memory that does not turn. -/
def EFix (N x : Nat) (w : World) (ve : Value) (es : List Entry4) : Prop :=
  ∃ a c, ve = .slice a es.length c ∧ ∀ i (h : i < es.length), ∃ g dv, a = some ⟨g, 0, none⟩ ∧ ¬ Free N x g ∧
    w.cell? ⟨g, i * 4, none⟩ = some (.int .u64 es[i].ix) ∧ w.cell? ⟨g, i * 4 + 1, none⟩ = some (.int .u64 es[i].t) ∧ w.cell? ⟨g, i * 4 + 2, none⟩ = some (.int .u8 es[i].kind) ∧ w.cell? ⟨g, i * 4 + 3, none⟩ = some dv ∧
    Fix N x w dv es[i].data

theorem cell_kept {S : Nat → Prop} {w w' : World} (hk : Kept S w w') {g o : Nat} {u : Value} (hg : ¬ S g) (h : w.cell? ⟨g, o, none⟩ = some u) : w'.cell? ⟨g, o, none⟩ = some u := by
  rw [World.cell?_of_block (w := w) (hk.block g (World.block_lt_of_cell? _ _ h) hg)]; exact h

theorem EFix.kept {N x : Nat} {w w' : World} {ve : Value} {es : List Entry4} (h : EFix N x w ve es) (hk : Kept (Free N x) w w') : EFix N x w' ve es := by
  obtain ⟨a, c, hv, h⟩ := h
  refine ⟨a, c, hv, fun i hi => ?_⟩
  obtain ⟨g, dv, ha, hg, h1, h2, h3, h4, hf⟩ := h i hi
  exact ⟨g, dv, ha, hg, cell_kept hk hg h1, cell_kept hk hg h2, cell_kept hk hg h3, cell_kept hk hg h4, hf.kept hk⟩

/-- The bytes of a list of entries, each behind its length. -/
def entsBytes (es : List Entry4) : List Int := es.flatMap fun e => uv (17 + e.data.length) ++ entBytes e

/-- How many bytes the entries may take. -/
def entsRoom (es : List Entry4) : Nat := (es.map fun e => 27 + e.data.length).sum

theorem entsBytes_len (es : List Entry4) : (entsBytes es).length ≤ entsRoom es := by
  induction es with
  | nil => simp [entsBytes, entsRoom]
  | cons e es ih =>
    have h1 := uv_len (17 + e.data.length)
    have h2 : (entBytes e).length = 17 + e.data.length := by simp [entBytes, le8]; omega
    simp only [entsBytes, entsRoom, List.flatMap_cons, List.length_append, List.map_cons, List.sum_cons] at ih ⊢
    omega
theorem entsRoom_at (es : List Entry4) (j : Nat) (h : j < es.length) : es[j].data.length ≤ entsRoom es := by
  induction es generalizing j with
  | nil => simp at h
  | cons e es ih =>
    cases j with
    | zero => simp only [List.getElem_cons_zero, entsRoom, List.map_cons, List.sum_cons]; omega
    | succ j => have := ih j (by simpa using h); simp only [List.getElem_cons_succ, entsRoom, List.map_cons, List.sum_cons] at this ⊢; omega
theorem entsRoom_both (es : List Entry4) (j : Nat) (h : j < es.length) : entsRoom (es.take j) + es[j].data.length ≤ entsRoom es := by
  induction es generalizing j with
  | nil => simp at h
  | cons e es ih =>
    cases j with
    | zero => simp only [List.getElem_cons_zero, entsRoom, List.take_zero, List.map_nil, List.sum_nil, List.map_cons, List.sum_cons]; omega
    | succ j => have := ih j (by simpa using h); simp only [List.getElem_cons_succ, List.take_succ_cons, entsRoom, List.map_cons, List.sum_cons] at this ⊢; omega
theorem entsBytes_snoc (es : List Entry4) (j : Nat) (h : j < es.length) : entsBytes (es.take (j + 1)) = entsBytes (es.take j) ++ (uv (17 + es[j].data.length) ++ entBytes es[j]) := by
  unfold entsBytes
  rw [List.take_succ_eq_append_getElem h, List.flatMap_append]
  simp

theorem Enc.alloc {w : World} {be : Nat} {v : Value} {bs : List Int} (h : Enc w be v bs) (o : Obj) : Enc (w.alloc o) be v bs := by
  have hb := Below.heap_alloc w o be h.lt
  exact ⟨(World.cell?_of_block (a := ⟨be, 0, none⟩) hb).trans h.1, (World.frozen?_of_block (a := ⟨be, 0, none⟩) hb).trans h.2.1, h.2.2.1.alloc o, h.2.2.2⟩

/-- One entry is added to an encoder's buffer: the loop's round, as facts on worlds. -/
theorem EncS.lt {N x : Nat} {w : World} {be : Nat} {bs : List Int} (h : EncS N x w be bs) : be < w.heap.size := by
  obtain ⟨_, v, h, _⟩ := h; exact h.lt

theorem entRound {N x be : Nat} {wr w2 w4 : World} {v2 v3 : Value} {cur : List Int} (hS2 : Kept (Free N x) wr w2) (hv2 : ∀ g, v2.ownBlock = some g → Free N x g) (hbe : Free N x be)
    (hE3 : Enc w4 be v3 cur) (hG3 : EGrew be w2 w4 v2 v3) (hN : N ≤ wr.heap.size) : EncS N x w4 be cur ∧ Kept (Free N x) wr w4 := by
  have h1 := hS2.size
  have h2 := hG3.kept.size
  refine ⟨⟨by omega, v3, hE3, hbe, fun g hg => ?_⟩, hS2.trans (hG3.kept.mono fun k _ hk => ?_)⟩
  · rcases hG3.lies g hg with e | e
    · exact hv2 g e
    · left; omega
  · rcases hk with rfl | hk
    · exact hbe
    · exact hv2 k hk.symm

set_option maxRecDepth 20000 in
set_option maxHeartbeats 2000000 in
/-- (82) encoder.entries -/
theorem entriesS (N x be : Nat) (es : List Entry4) (ve : Value) (pb po : Nat) (bs : List Int) (w : World) (h : EncS N x w be bs) (hp : w.cell? ⟨pb, po, none⟩ = some ve) (hpf : ¬ Free N x pb) (hE : EFix N x w ve es)
    (hw : ∀ e ∈ es, e.ix < 18446744073709551616 ∧ e.t < 18446744073709551616) (hb : bs.length + entsRoom es ≤ 549755000000) (hn : es.length ≤ 1048576) :
    Calls Try.prog 82 #[.pointer (some ⟨be, 0, none⟩), .pointer (some ⟨pb, po, none⟩)] w (EPost N x be w (bs ++ uv es.length ++ entsBytes es)) := by
  obtain ⟨a, c, rfl⟩ : ∃ a c, ve = .slice a es.length c := by obtain ⟨a, c, h, _⟩ := hE; exact ⟨a, c, h⟩
  have hl := uv_len es.length
  go_enter Try.func82, Try.ntmps82
  go_wp2_with fail
  refine (uvS N x be es.length bs _ h (by omega) (by omega)).mono ?_
  rintro e w1 ⟨rfl, h1, hk1⟩
  have hp1 := cell_kept hk1 hpf hp
  clear h hp
  go_wp2_with fail
  go_loopw [17] (fun i wr => ∃ j : Nat, j ≤ es.length ∧ i = .int .i64 j ∧ EncS N x wr be (bs ++ uv es.length ++ entsBytes (es.take j)) ∧ Kept (Free N x) w wr) (fun i _ => es.length - (intOf i).toNat)
  case atStart => exact ⟨0, Nat.zero_le _, rfl, by simpa [entsBytes] using h1, hk1⟩
  case round =>
    obtain ⟨j, hj, rfl, hS, hk⟩ := hrel
    clear h1 hk1 hp1
    by_cases hlt : j < es.length
    · have hroom : (bs ++ uv es.length ++ entsBytes (es.take j)).length + es[j].data.length ≤ 549755100000 := by
        have g1 := entsBytes_len (es.take j)
        have g2 := entsRoom_both es j hlt
        simp only [List.length_append]; omega
      have hdl := entsRoom_at es j hlt
      obtain ⟨a', c', he, hEj⟩ := hE.kept hk
      obtain ⟨g, dv, rfl, hg, q0, q1, q2, q3, hf⟩ := hEj j hlt
      obtain ⟨rfl, rfl⟩ : a = some ⟨g, 0, none⟩ ∧ c = c' := by simpa using he
      clear he hEj
      obtain ⟨hN, v, hEn, hbe, hv⟩ := hS
      have hbl := hEn.lt
      have hwj := hw es[j] (List.getElem_mem hlt)
      have hsn := entsBytes_snoc es j hlt
      have HSN : Hid (entsBytes (es.take (j + 1)) = entsBytes (es.take j) ++ (uv (17 + es[j].data.length) ++ entBytes es[j])) := hsn
      clear hsn
      generalize es[j] = en at *
      have HSN2 := HSN
      clear HSN
      generalize hcur : bs ++ uv es.length ++ entsBytes (es.take j) = cur at *
      have HCU : Hid (cur = bs ++ uv es.length ++ entsBytes (es.take j)) := hcur.symm
      have HSN := HSN2
      clear hcur HSN2
      obtain ⟨sa, sc, hsv⟩ := hf.1.form
      rw [byts_len] at hsv
      subst hsv
      go_wp2_with fail
      have hz : wr.heap.size < (wr.alloc (.cells #[.int .u64 en.ix, .int .u64 en.t, .int .u8 en.kind, .slice sa en.data.length sc] 101)).heap.size := by simp
      have b0 : ∀ o, (wr.alloc (.cells #[.int .u64 en.ix, .int .u64 en.t, .int .u8 en.kind, .slice sa en.data.length sc] 101)).cell? ⟨wr.heap.size, o, none⟩ = #[.int .u64 en.ix, .int .u64 en.t, .int .u8 en.kind, .slice sa en.data.length sc][o]? := fun o => by simp
      have hk0 : Kept (Free N x) wr (wr.alloc (.cells #[.int .u64 en.ix, .int .u64 en.t, .int .u8 en.kind, .slice sa en.data.length sc] 101)) := (Kept.refl _ _).alloc _
      have hEn0 := hEn.alloc (.cells #[.int .u64 en.ix, .int .u64 en.t, .int .u8 en.kind, .slice sa en.data.length sc] 101)
      generalize wr.alloc (.cells #[.int .u64 en.ix, .int .u64 en.t, .int .u8 en.kind, .slice sa en.data.length sc] 101) = w0 at *
      have hnb : v.ownBlock ≠ some wr.heap.size := fun e => by have := hEn.2.2.1.lt _ e; omega
      refine (encUvarint be (17 + en.data.length) v cur _ hEn0 (by omega) (by omega)).mono ?_
      rintro e w2 ⟨rfl, v2, hEn2, hG2⟩
      have hnb2 : v2.ownBlock ≠ some wr.heap.size := fun e => by rcases hG2.lies _ e with e' | e'; exact hnb e'; omega
      have b2 : ∀ o, w2.cell? ⟨wr.heap.size, o, none⟩ = #[.int .u64 en.ix, .int .u64 en.t, .int .u8 en.kind, .slice sa en.data.length sc][o]? := fun o => (World.cell?_of_block (a := ⟨wr.heap.size, o, none⟩) (hG2.kept.block _ hz (fun e => by rcases e with e | e; exact absurd e (by simp only; omega); exact hnb e.symm))).trans (b0 o)
      have r0 : w2.cell? ⟨wr.heap.size, 0, none⟩ = some (.int .u64 en.ix) := b2 0
      have r1 : w2.cell? ⟨wr.heap.size, 1, none⟩ = some (.int .u64 en.t) := b2 1
      have r2 : w2.cell? ⟨wr.heap.size, 2, none⟩ = some (.int .u8 en.kind) := b2 2
      have r3 : w2.cell? ⟨wr.heap.size, 3, none⟩ = some (.slice sa en.data.length sc) := b2 3
      have hS2 : Kept (Free N x) wr w2 := hk0.trans (hG2.kept.mono fun k _ hk => by rcases hk with rfl | hk; exact hbe; exact hv k hk.symm)
      have hv2 : ∀ g, v2.ownBlock = some g → Free N x g := fun g hg => by rcases hG2.lies g hg with e | e; exact hv g e; left; have := hk0.size; omega
      have hf2 := hf.kept hS2
      have hul := uv_len (17 + en.data.length)
      have hcut : ∀ b, en.data ≠ [] → (Value.slice sa en.data.length sc).ownBlock = some b → v2.ownBlock ≠ some b := fun b hne hb e => hf2.2 hne b hb (hv2 b e)
      have c2 := hEn2.1
      have f2 := hEn2.2.1
      have n2 := hEn2.2.2.2
      have l2 := hEn2.lt
      clear b0 b2 hEn0 hG2 hk0 hnb hEn hf q0 q1 q2 q3
      obtain ⟨a2, m2, k2, rfl⟩ := hEn2.2.2.1.shape
      go_wp2_with fail
      have hcall : Calls Try.prog 86 #[.agg #[.int .u64 en.ix, .int .u64 en.t, .int .u8 en.kind, .slice sa en.data.length sc], .slice a2 m2 k2] w2.drew (UvPost (.slice a2 m2 k2) w2.drew (cur ++ uv (17 + en.data.length) ++ entBytes en)) :=
        entAppendTo en (.slice sa en.data.length sc) (.slice a2 m2 k2) (cur ++ uv (17 + en.data.length)) w2.drew hEn2.2.2.1 hf2.1 (fun hne b hb => hcut b hne hb) hwj.1 hwj.2 (by simp; omega)
      go_region_with (first | (go_at_call 86; go_must (refine hcall.mono ?_; rintro e w3 ⟨v3, rfl, hm3, hg3⟩; obtain ⟨a3, m3, k3, rfl⟩ := hm3.shape; have c3 := (World.cell?_of_block (a := ⟨be, 0, none⟩) (hg3.kept.block be l2 (fun e => n2 e.symm))).trans c2; have f3 := (World.frozen?_of_block (a := ⟨be, 0, none⟩) (hg3.kept.block be l2 (fun e => n2 e.symm))).trans f2)))
      all_goals
        have hg3' : Grew w2 w3 (.slice a2 m2 k2) (.slice a3 m3 k3) := ⟨⟨hg3.kept.os, hg3.kept.tape, hg3.kept.output, hg3.kept.size, hg3.kept.block⟩, hg3.lies⟩
        obtain ⟨hE3, hG3⟩ := hEn2.stored hm3 hg3'
        have hnx := entRound hS2 hv2 hbe hE3 hG3 hN
        rw [HCU.out, List.append_assoc (bs ++ uv es.length ++ entsBytes (es.take j)), List.append_assoc (bs ++ uv es.length), ← HSN.out] at hnx
        clear hg3 hg3' hE3 hG3 c3 f3 hm3 hcall hEn2 hf2 hcut r0 r1 r2 r3 c2 f2
        go_wp2
        go_roundw
        case rel => exact ⟨j + 1, by omega, by go_num, hnx.1, hk.trans hnx.2⟩
        case measure => simp [intOf]; omega
    · obtain rfl : j = es.length := by omega
      go_wp2
      go_end0
      rw [List.take_length] at hS
      exact ⟨rfl, hS, hk⟩
end Go.Proofs.Qxb6618972a
