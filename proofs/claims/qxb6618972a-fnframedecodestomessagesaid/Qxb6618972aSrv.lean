/- The server of the log laws (seat b6618972a): what a server in memory is, and the contracts of the functions that read and grow it. -/
import Derived.Test.Qxb6618972aRows
import Derived.WalkKit
import Derived.WalkSpells
import Derived.WalkLawsBesides
import Derived.Laws.OwnMore
import Derived.Deep.AppendLies
namespace Go.Proofs.Qxb6618972a
open Go.RowKit

theorem info101 : (Try.prog.info? 101).map (fun i => (i.zero, i.size, i.bytes)) = some (some (.agg #[.int .u64 0, .int .u64 0, .int .u8 0, .slice none 0 0]), 4, 48) := by kernel_rfl

def SrvCells (c : Array Value) (bi bt : Int) : Prop :=
  c.size = 133 ∧ c[12]? = some (.int .u64 bi) ∧ c[13]? = some (.int .u64 bt) ∧ c[15]? = some (.int .u64 bi) ∧ c[16]? = some (.int .u64 bt)

/-- Block b is a server with base and snapshot (bi, bt), its log the value v. -/
def Srv (w : World) (b : Nat) (bi bt : Int) (v : Value) : Prop := ∃ c : Array Value, w.heap[b]? = some (.cells c 98 (0, 0)) ∧ SrvCells c bi bt ∧ c[17]? = some v

theorem Srv.lt {w : World} {b : Nat} {bi bt : Int} {v : Value} (h : Srv w b bi bt v) : b < w.heap.size := by
  obtain ⟨c, h, _⟩ := h
  exact (Array.getElem?_eq_some_iff.1 h).1

theorem Srv.cells {w : World} {b : Nat} {bi bt : Int} {v : Value} (h : Srv w b bi bt v) :
    w.cell? ⟨b, 12, none⟩ = some (.int .u64 bi) ∧ w.cell? ⟨b, 13, none⟩ = some (.int .u64 bt) ∧ w.cell? ⟨b, 15, none⟩ = some (.int .u64 bi) ∧ w.cell? ⟨b, 16, none⟩ = some (.int .u64 bt) ∧
    w.cell? ⟨b, 17, none⟩ = some v ∧ w.frozen? ⟨b, 17, none⟩ = false := by
  obtain ⟨c, h, ⟨h0, h1, h2, h3, h4⟩, h5⟩ := h
  refine ⟨?_, ?_, ?_, ?_, ?_, ?_⟩
  · rw [cell_of_row w b 12 c 98 (0, 0) h]; exact h1
  · rw [cell_of_row w b 13 c 98 (0, 0) h]; exact h2
  · rw [cell_of_row w b 15 c 98 (0, 0) h]; exact h3
  · rw [cell_of_row w b 16 c 98 (0, 0) h]; exact h4
  · rw [cell_of_row w b 17 c 98 (0, 0) h]; exact h5
  · simp [World.frozen?, h]

theorem Srv.of_block {w w' : World} {b : Nat} {bi bt : Int} {v : Value} (h : Srv w b bi bt v) (hb : w'.heap[b]? = w.heap[b]?) : Srv w' b bi bt v := by
  obtain ⟨c, h, h2⟩ := h
  exact ⟨c, hb.trans h, h2⟩

theorem Srv.store {w : World} {b : Nat} {bi bt : Int} {v : Value} (h : Srv w b bi bt v) (v' : Value) : Srv (w.setCell ⟨b, 17, none⟩ v') b bi bt v' := by
  obtain ⟨c, h, ⟨h0, h1, h2, h3, h4⟩, h5⟩ := h
  refine ⟨c.setIfInBounds 17 v', ?_, ⟨by simpa using h0, ?_, ?_, ?_, ?_⟩, ?_⟩
  · simp [World.setCell, Array.getElem?_modify, h]
  · rw [Array.getElem?_setIfInBounds_ne (by decide)]; exact h1
  · rw [Array.getElem?_setIfInBounds_ne (by decide)]; exact h2
  · rw [Array.getElem?_setIfInBounds_ne (by decide)]; exact h3
  · rw [Array.getElem?_setIfInBounds_ne (by decide)]; exact h4
  · rw [Array.getElem?_setIfInBounds_self_of_lt (by omega)]

theorem Srv.made (w : World) {c : Array Value} {bi bt : Int} (hc : SrvCells c bi bt) (h17 : c[17]? = some (.slice none 0 0)) : Srv (w.alloc (.cells c 98)) w.heap.size bi bt (.slice none 0 0) :=
  ⟨c, heap_alloc_new w _, hc, h17⟩

theorem build98 (bi bt : Int) (w : World) : ∃ c : Array Value, (Instr.build 98 #[(14, .agg #[.int .u64 bi, .int .u64 bt]), (12, .agg #[.int .u64 bi, .int .u64 bt])]).run Try.prog w = .ok (.agg c) w ∧
    c.size = 133 ∧ c[12]? = some (.int .u64 bi) ∧ c[13]? = some (.int .u64 bt) ∧ c[15]? = some (.int .u64 bi) ∧ c[16]? = some (.int .u64 bt) ∧ c[17]? = some (.slice none 0 0) := by
  have h : (match (Instr.build 98 #[(14, .agg #[.int .u64 bi, .int .u64 bt]), (12, .agg #[.int .u64 bi, .int .u64 bt])]).run Try.prog w with
     | .ok (.agg c) w' => some (w', c.size, c[12]?, c[13]?, c[15]?, c[16]?, c[17]?) | _ => none) = some (w, 133, some (.int .u64 bi), some (.int .u64 bt), some (.int .u64 bi), some (.int .u64 bt), some (.slice none 0 0)) := by kernel_rfl
  generalize (Instr.build 98 #[(14, .agg #[.int .u64 bi, .int .u64 bt]), (12, .agg #[.int .u64 bi, .int .u64 bt])]).run Try.prog w = r at h ⊢
  split at h
  · rename_i c w'
    simp only [Option.some.injEq, Prod.mk.injEq] at h
    obtain ⟨rfl, h⟩ := h
    exact ⟨c, rfl, h⟩
  · cases h

theorem wpList_build98 {ops : Array Oper} {rest : List Oper} {o : Oper} {a : Act} {w : World} {Q : Exit → Act → World → Prop} (hg : o.guard = none) (x y : Operand) (ho : o.op = .build 98 #[(14, x), (12, y)]) (bi bt : Int)
    (hx : a.eval x = .agg #[.int .u64 bi, .int .u64 bt]) (hy : a.eval y = .agg #[.int .u64 bi, .int .u64 bt])
    (h : ∀ c : Array Value, SrvCells c bi bt → c[17]? = some (.slice none 0 0) → wpList Try.prog ops Q rest (a.put o.dst (.agg c)) w) : wpList Try.prog ops Q (o :: rest) a w := by
  refine wpList_plain hg fun K hK => ?_
  obtain ⟨c, hrun, h1, h2, h3, h4, h5, h6⟩ := build98 bi bt w
  unfold Oper.wp execOp
  simp only [ho, List.map_toArray, List.map_cons, List.map_nil, hx, hy, Sem.run_bind, hrun, Result.andThen_ok]
  exact hK _ _ (h c ⟨h1, h2, h3, h4, h5⟩ h6)

set_option maxHeartbeats 400000 in
theorem newServer (bi bt : Int) (w : World) :
    Calls Try.prog 20 #[.int .u64 bi, .int .u64 bt] w fun e w' => e = .returned (.pointer (some ⟨w.heap.size, 0, none⟩)) ∧
      ∃ c : Array Value, w' = w.alloc (.cells c 98) ∧ SrvCells c bi bt ∧ c[17]? = some (.slice none 0 0) := by
  go_enter Try.func20, Try.ntmps20
  go_wp2_with (refine wpList_build98 rfl (.tmp 7) (.tmp 10) rfl bi bt rfl rfl ?_; intro c hc h17)
  go_ret
  exact ⟨rfl, _, rfl, hc, h17⟩
/-- One entry's four cells. -/
def ent (p : Int × Int) : List Value := [.int .u64 p.1, .int .u64 p.2, .int .u8 0, .slice none 0 0]

/-- All but the blocks of S (and new ones) is as it was. -/
structure Kept (S : Nat → Prop) (w w' : World) : Prop where
  os : w'.os = w.os
  tape : w'.tape = w.tape
  output : w'.output = w.output
  size : w.heap.size ≤ w'.heap.size
  block : ∀ k, k < w.heap.size → ¬ S k → w'.heap[k]? = w.heap[k]?

theorem Kept.below {S : Nat → Prop} {w w' : World} (h : Kept S w w') {B : Nat} (hB : B ≤ w.heap.size) (hS : ∀ k, S k → B ≤ k) : Below B w w' :=
  ⟨h.os, h.tape, h.output, h.size, fun k hk => h.block k (by omega) (fun hs => by have := hS k hs; omega)⟩

set_option maxRecDepth 20000 in
set_option maxHeartbeats 400000 in
theorem appendEntry (b : Nat) (ix t : Int) (bi bt : Int) (v : Value) (n : Nat) (xs : List Value) (B : Nat) (w : World)
    (hs : Srv w b bi bt v) (hown : w.ownsRow B 101 4 v n xs) (hb : b < B) (hB : B ≤ w.heap.size) (hn : n ≤ 65536) :
    Calls Try.prog 21 #[.pointer (some ⟨b, 0, none⟩), .int .u64 ix, .int .u64 t] w fun e w' => e = .returned (.tuple #[]) ∧
      ∃ v', Srv w' b bi bt v' ∧ w'.ownsRow B 101 4 v' (n + 1) (xs ++ ent (ix, t)) ∧ (v'.ownBlock = v.ownBlock ∨ v'.ownBlock = some (w.heap.size + 1)) ∧ Kept (fun k => k = b ∨ some k = v.ownBlock) w w' := by
  have hbl := hs.lt
  obtain ⟨_, _, _, _, hc, hf⟩ := hs.cells
  have hne : v.ownBlock ≠ some b := fun e => by have := (hown.lt b e).1; omega
  obtain ⟨i0, hi, hz0, hz1, hz2⟩ := info_parts info101
  go_enter Try.func21, Try.ntmps21
  go_wp2_with (at_builtin; refine wpList_append_lies _ rfl (.tmp 10) (.tmp 15) 56 rfl B 101 i0 (.agg #[.int .u64 0, .int .u64 0, .int .u8 0, .slice none 0 0]) 4 48 Try.underlying56 hi hz0 hz1 hz2 rfl (by omega) v n xs rfl (hown.alloc _) ⟨w.heap.size, 0, none⟩ 1 1 [.int .u64 ix, .int .u64 t, .int .u8 0, .slice none 0 0] rfl rfl (World.news_of_block (heap_alloc_new w _)) (by simp [Value.oneCell']) (by omega) (by unfold maxLen; omega) (by omega) (by simp; omega) (w.heap.size + 1) (by simp) ?_; intro g cap w1 hown1 hgrow hat hlt; have hb1 := hgrow.block b (by simp; omega) (fun e => hne e.symm); have hb0 := Below.heap_alloc w (.cells #[.int .u64 ix, .int .u64 t, .int .u8 0, .slice none 0 0] 101) b hbl; have hs1 := hs.of_block (hb1.trans hb0); clear hb1 hb0; obtain ⟨_, _, _, _, hc1, hf1⟩ := hs1.cells)
  go_end0
  refine ⟨rfl, _, hs1.store _, ownsRow_setCell_below hown1 hb _, ?_, ⟨?_, ?_, ?_, ?_, ?_⟩⟩
  · rcases hat with h | h
    · left; rw [h]; rfl
    · right; rw [h]; rfl
  · exact hgrow.os
  · exact hgrow.tape
  · exact hgrow.output
  · have := hgrow.size; simp at this ⊢; omega
  · intro k hk hS
    rw [Below.heap_setCell _ _ _ _ (fun e => hS (.inl e)), hgrow.block k (by simp; omega) (fun e => hS (.inr e)), Below.heap_alloc _ _ _ hk]

theorem u64_bd {x : Int} (h : (Lit.int .u64 x).wf = true) : 0 ≤ x ∧ x ≤ 18446744073709551615 := by
  simp [Lit.wf, IntKind.min, IntKind.max, IntKind.signed, IntKind.bits] at h
  exact ⟨by omega, by omega⟩

/-- (35) position. -/
def pos (ix bi : Int) : Int := IntKind.u64.wrap (IntKind.u64.wrap (ix - bi) - 1)

set_option maxRecDepth 20000 in
set_option maxHeartbeats 400000 in
theorem position (b : Nat) (ix bi bt : Int) (v : Value) (w : World) (hs : Srv w b bi bt v) :
    Calls Try.prog 35 #[.pointer (some ⟨b, 0, none⟩), .int .u64 ix] w fun e w' => e = .returned (.int .u64 (pos ix bi)) ∧ w' = w := by
  obtain ⟨_, _, hc, _, _, _⟩ := hs.cells
  go_enter Try.func35, Try.ntmps35
  go_wp2
  go_ret
  exact ⟨rfl, rfl⟩

set_option maxRecDepth 20000 in
set_option maxHeartbeats 400000 in
theorem zzPosition (b : Nat) (ix bi bt : Int) (v : Value) (w : World) (hs : Srv w b bi bt v) :
    Calls Try.prog 22 #[.pointer (some ⟨b, 0, none⟩), .int .u64 ix] w fun e w' => e = .returned (.int .u64 (pos ix bi)) ∧ w' = w := by
  go_enter Try.func22, Try.ntmps22
  go_wp2_with (go_at_call 35; refine (position b ix bi bt v _ hs).mono ?_; rintro e w' ⟨rfl, rfl⟩)
  go_ret
  exact ⟨rfl, rfl⟩

/-- The value v is a log of the entries es (index, term). -/
def Log (w : World) (B : Nat) (v : Value) (es : List (Int × Int)) : Prop := w.ownsRow B 101 4 v es.length (es.flatMap ent)

theorem ent_at (es : List (Int × Int)) (k : Nat) (h : k < es.length) : (es.flatMap ent)[k * 4]? = some (.int .u64 es[k].1) ∧ (es.flatMap ent)[k * 4 + 1]? = some (.int .u64 es[k].2) := by
  induction es generalizing k with
  | nil => simp at h
  | cons e es ih =>
    cases k with
    | zero => simp [ent]
    | succ k =>
      have := ih k (by simpa using h)
      rw [show (k + 1) * 4 = k * 4 + 4 from by omega, show k * 4 + 4 + 1 = k * 4 + 1 + 4 from by omega]
      simpa [ent] using this

theorem Log.at {w : World} {B : Nat} {v : Value} {es : List (Int × Int)} (h : Log w B v es) (k : Nat) (hk : k < es.length) :
    ∃ g cap, v = .slice (some ⟨g, 0, none⟩) es.length cap ∧ B ≤ g ∧ w.cell? ⟨g, k * 4, none⟩ = some (.int .u64 es[k].1) ∧ w.cell? ⟨g, k * 4 + 1, none⟩ = some (.int .u64 es[k].2) := by
  have hx := ent_at es k hk
  rcases h.2 with ⟨_, h0⟩ | ⟨g, cap, cur, hv, hb, _⟩
  · omega
  · have h1 := h.cells (g := g) (by rw [hv]; rfl) (k * 4) _ hx.1
    have h2 := h.cells (g := g) (by rw [hv]; rfl) (k * 4 + 1) _ hx.2
    rw [Addr.add_lit, Nat.zero_add] at h1 h2
    exact ⟨g, cap, hv, hb, h1, h2⟩

theorem Log.form {w : World} {B : Nat} {v : Value} {es : List (Int × Int)} (h : Log w B v es) : ∃ a cap, v = .slice a es.length cap := by
  rcases h.2 with ⟨hv, h0⟩ | ⟨g, cap, cur, hv, hb, _⟩
  · exact ⟨none, 0, by rw [hv, h0]⟩
  · exact ⟨_, _, hv⟩

set_option maxRecDepth 20000 in
set_option maxHeartbeats 400000 in
theorem entryIndex (b B : Nat) (k : Nat) (bi bt : Int) (v : Value) (es : List (Int × Int)) (w : World) (hs : Srv w b bi bt v) (hl : Log w B v es) (hk : k < es.length) (_hm : es.length ≤ 65536) :
    Calls Try.prog 23 #[.pointer (some ⟨b, 0, none⟩), .int .i64 k] w fun e w' => e = .returned (.int .u64 es[k].1) ∧ w' = w := by
  obtain ⟨g, cap, rfl, _, h1, _⟩ := hl.at k hk
  obtain ⟨_, _, _, _, hc, _⟩ := hs.cells
  generalize es[k].1 = x at h1 ⊢
  go_enter Try.func23, Try.ntmps23
  go_wp2
  go_ret
  exact ⟨rfl, rfl⟩

/-- The last id. -/
def lastOf (bi bt : Int) (es : List (Int × Int)) : Int × Int := es.getLastD (bi, bt)

set_option maxRecDepth 20000 in
set_option maxHeartbeats 400000 in
theorem lastID_nil (b : Nat) (bi bt : Int) (a : Option Addr) (cap : Nat) (w : World) (hs : Srv w b bi bt (.slice a 0 cap)) :
    Calls Try.prog 36 #[.pointer (some ⟨b, 0, none⟩)] w fun e w' => e = .returned (.agg #[.int .u64 bi, .int .u64 bt]) ∧ Below w.heap.size w w' := by
  have hbl := hs.lt
  obtain ⟨_, _, hc1, hc2, hc, _⟩ := hs.cells
  go_enter Try.func36, Try.ntmps36
  go_wp2
  refine bodyPost_ret (v := .agg #[.int .u64 bi, .int .u64 bt]) (by simp [results, Try.results36, go_sem]) rfl ⟨rfl, ?_⟩
  exact ((Below.refl _ _).alloc (Nat.le_refl _) _)

set_option maxRecDepth 20000 in
set_option maxHeartbeats 400000 in
theorem lastID_cons (b B : Nat) (bi bt : Int) (v : Value) (es : List (Int × Int)) (k : Nat) (hk : es.length = k + 1) (w : World) (hs : Srv w b bi bt v) (hl : Log w B v es) (hm : k ≤ 65536) :
    Calls Try.prog 36 #[.pointer (some ⟨b, 0, none⟩)] w fun e w' => e = .returned (.agg #[.int .u64 es[k].1, .int .u64 es[k].2]) ∧ Below w.heap.size w w' := by
  have hbl := hs.lt
  obtain ⟨g, cap, rfl, _, h1, h2⟩ := hl.at k (by omega)
  have hgl : g < w.heap.size := World.block_lt_of_cell? _ _ h1
  obtain ⟨_, _, _, _, hc, _⟩ := hs.cells
  generalize es[k].1 = x at h1 ⊢
  generalize es[k].2 = y at h2 ⊢
  rw [hk] at hc
  go_enter Try.func36, Try.ntmps36
  go_wp2
  go_region
  go_wp2
  refine bodyPost_ret (v := .agg #[.int .u64 x, .int .u64 y]) (by simp [results, Try.results36, go_sem]) rfl ⟨rfl, ?_⟩
  exact ((Below.refl _ _).alloc (Nat.le_refl _) _).drew

theorem lastID (b B : Nat) (bi bt : Int) (v : Value) (es : List (Int × Int)) (w : World) (hs : Srv w b bi bt v) (hl : Log w B v es) (hm : es.length ≤ 65536) :
    Calls Try.prog 36 #[.pointer (some ⟨b, 0, none⟩)] w fun e w' => e = .returned (.agg #[.int .u64 (lastOf bi bt es).1, .int .u64 (lastOf bi bt es).2]) ∧ Below w.heap.size w w' := by
  rcases List.eq_nil_or_concat es with rfl | ⟨es0, e, rfl⟩
  · obtain ⟨a, cap, rfl⟩ := hl.form
    exact lastID_nil b bi bt a cap w hs
  · have := lastID_cons b B bi bt v (es0 ++ [e]) es0.length (by simp) w (by simpa using hs) (by simpa using hl) (by simp at hm; omega)
    simpa [lastOf] using this

set_option maxRecDepth 20000 in
set_option maxHeartbeats 400000 in
theorem lastIndex (b B : Nat) (bi bt : Int) (v : Value) (es : List (Int × Int)) (w : World) (hs : Srv w b bi bt v) (hl : Log w B v es) (hm : es.length ≤ 65536) :
    Calls Try.prog 24 #[.pointer (some ⟨b, 0, none⟩)] w fun e w' => e = .returned (.int .u64 (lastOf bi bt es).1) ∧ Below w.heap.size w w' := by
  have hfld : ∀ (x y : Int) (w : World), (Instr.field 55 (.agg #[.int .u64 x, .int .u64 y]) 0).run Try.prog w = .ok (.int .u64 x) w := fun _ _ _ => by kernel_rfl
  go_enter Try.func24, Try.ntmps24
  go_wp2_with (go_at_call 36; refine (lastID b B bi bt v es _ hs hl hm).mono ?_; rintro e w' ⟨rfl, hb⟩)
  go_ret
  exact ⟨rfl, hb⟩

/-- The slice at a holds the numbers zs. -/
def Row (k : IntKind) (w : World) (a : Option Addr) (zs : List Int) : Prop :=
  zs = [] ∨ ∃ b off, a = some ⟨b, off, none⟩ ∧ b < w.heap.size ∧ ∀ i, i < zs.length → w.cell? ⟨b, off + i, none⟩ = some (.int k (zs.getD i 0))

theorem Row.get {k : IntKind} {w : World} {a : Option Addr} {zs : List Int} (h : Row k w a zs) {i : Nat} (hi : i < zs.length) :
    ∃ b off, a = some ⟨b, off, none⟩ ∧ b < w.heap.size ∧ ∀ i, i < zs.length → w.cell? ⟨b, off + i, none⟩ = some (.int k (zs.getD i 0)) := by
  rcases h with rfl | h
  · simp at hi
  · exact h

def ReachPost (bi : Int) (n : Nat) (e : Ending) : Prop := ∃ r, e = .returned (.bool r) ∧ (r = true → bi + n + 1 ≤ 18446744073709551615)

set_option maxRecDepth 20000 in
set_option maxHeartbeats 400000 in
theorem reachable (bi bt : Int) (a : Option Addr) (cap : Nat) (zs : List Int) (w : World) (hbi : 0 ≤ bi) (hbt : 0 ≤ bt) (hr : Row .u64 w a zs) (hm : zs.length ≤ 65536) :
    Calls Try.prog 18 #[.int .u64 bi, .int .u64 bt, .slice a zs.length cap] w fun e w' => w' = w ∧ ReachPost bi zs.length e := by
  by_cases hA : 18446744073709551615 - (zs.length : Int) - 1 < bi
  · go_enter Try.func18, Try.ntmps18
    go_wp2
    go_ret
    exact ⟨rfl, false, rfl, by simp⟩
  by_cases h0 : bi = 0
  · by_cases h1 : bt = 0
    · subst h0 h1
      go_enter Try.func18, Try.ntmps18
      go_wp2
      go_loop [7, 8] (fun p i => (∃ q : Int, p = .int .u64 q) ∧ ∃ k : Nat, k ≤ zs.length ∧ i = .int .i64 k) (fun _ i => zs.length - (intOf i).toNat)
      case atStart => exact ⟨⟨_, rfl⟩, 0, Nat.zero_le _, rfl⟩
      case round =>
        obtain ⟨⟨q, rfl⟩, k, hk, rfl⟩ := hrel
        by_cases hlt : k < zs.length
        · obtain ⟨b, off, rfl, _, hc⟩ := hr.get hlt
          have hck := hc k hlt
          clear hc
          go_wp2
          · go_ret
            exact ⟨rfl, false, rfl, by simp⟩
          · go_round
            case rel => exact ⟨⟨_, rfl⟩, k + 1, by omega, by go_num⟩
            case measure => simp [intOf]; omega
        · go_wp2
          go_ret
          exact ⟨rfl, true, rfl, fun _ => by omega⟩
    · subst h0
      go_enter Try.func18, Try.ntmps18
      go_wp2
      go_ret
      exact ⟨rfl, false, rfl, by simp⟩
  · by_cases h1 : bt = 0
    · subst h1
      go_enter Try.func18, Try.ntmps18
      go_wp2
      go_ret
      exact ⟨rfl, false, rfl, by simp⟩
    · have h0' : (bi == 0) = false := by simp [h0]
      have h1' : (bt == 0) = false := by simp [h1]
      go_enter Try.func18, Try.ntmps18
      go_wp2
      go_loop [7, 8] (fun p i => (∃ q : Int, p = .int .u64 q) ∧ ∃ k : Nat, k ≤ zs.length ∧ i = .int .i64 k) (fun _ i => zs.length - (intOf i).toNat)
      case atStart => exact ⟨⟨_, rfl⟩, 0, Nat.zero_le _, rfl⟩
      case round =>
        obtain ⟨⟨q, rfl⟩, k, hk, rfl⟩ := hrel
        by_cases hlt : k < zs.length
        · obtain ⟨b, off, rfl, _, hc⟩ := hr.get hlt
          have hck := hc k hlt
          clear hc
          go_wp2
          · go_ret
            exact ⟨rfl, false, rfl, by simp⟩
          · go_round
            case rel => exact ⟨⟨_, rfl⟩, k + 1, by omega, by go_num⟩
            case measure => simp [intOf]; omega
        · go_wp2
          go_ret
          exact ⟨rfl, true, rfl, fun _ => by omega⟩
end Go.Proofs.Qxb6618972a
