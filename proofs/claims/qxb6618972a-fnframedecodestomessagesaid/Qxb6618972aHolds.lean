/- holds, termAt, entryAt (seat b6618972a): regions that draw their order, walked once in the class of worlds that keep what was there. -/
import Derived.Test.Qxb6618972aPosWalk
import Derived.Deep.RegionHeld3
import Derived.Deep.DrawnRows
import Derived.Deep.QuietTactic
import Derived.BigQuiet
namespace Go.Proofs.Qxb6618972a
open Go.RowKit
attribute [local go_sem ↓] Go.wp_at_zero Go.wp_at_succ

theorem ent_at2 (es : List (Int × Int)) (k : Nat) (h : k < es.length) : (es.flatMap ent)[k * 4 + 2]? = some (.int .u8 0) ∧ (es.flatMap ent)[k * 4 + 3]? = some (.slice none 0 0) := by
  induction es generalizing k with
  | nil => simp at h
  | cons e es ih =>
    cases k with
    | zero => simp [ent]
    | succ k =>
      have := ih k (by simpa using h)
      rw [show (k + 1) * 4 + 2 = k * 4 + 2 + 4 from by omega, show (k + 1) * 4 + 3 = k * 4 + 3 + 4 from by omega]
      simpa [ent] using this

theorem Log.at2 {w : World} {B : Nat} {v : Value} {es : List (Int × Int)} (h : Log w B v es) (k : Nat) (hk : k < es.length) {g cap : Nat} (hv : v = .slice (some ⟨g, 0, none⟩) es.length cap) :
    w.cell? ⟨g, k * 4 + 2, none⟩ = some (.int .u8 0) ∧ w.cell? ⟨g, k * 4 + 3, none⟩ = some (.slice none 0 0) := by
  have hx := ent_at2 es k hk
  have h1 := h.cells (g := g) (by rw [hv]; rfl) (k * 4 + 2) _ hx.1
  have h2 := h.cells (g := g) (by rw [hv]; rfl) (k * 4 + 3) _ hx.2
  rw [Addr.add_lit, Nat.zero_add] at h1 h2
  exact ⟨h1, h2⟩

theorem position' (b : Nat) (ix bi bt : Int) (v : Value) (w : World) (y : Int) (hs : Srv w b bi bt v) (hy : pos ix bi = y) :
    Calls Try.prog 35 #[.pointer (some ⟨b, 0, none⟩), .int .u64 ix] w fun e w' => e = .returned (.int .u64 y) ∧ w' = w := by
  subst hy; exact position b ix bi bt v w hs

theorem Srv.drew {w : World} {b : Nat} {bi bt : Int} {v : Value} (h : Srv w b bi bt v) : Srv w.drew b bi bt v := h
theorem Srv.alloc {w : World} {b : Nat} {bi bt : Int} {v : Value} (h : Srv w b bi bt v) (o : Obj) : Srv (w.alloc o) b bi bt v := h.of_block (Below.heap_alloc w o b h.lt)

theorem Log.drew {w : World} {B : Nat} {v : Value} {es : List (Int × Int)} (h : Log w B v es) : Log w.drew B v es := h
theorem Log.alloc {w : World} {B : Nat} {v : Value} {es : List (Int × Int)} (h : Log w B v es) (o : Obj) : Log (w.alloc o) B v es := World.ownsRow.alloc h o

set_option maxRecDepth 20000 in
set_option maxHeartbeats 1000000 in
theorem entryAt (b B : Nat) (ix bi bt : Int) (v : Value) (es : List (Int × Int)) (k : Nat) (w : World) (hs : Srv w b bi bt v) (hl : Log w B v es) (hk : k < es.length) (_hm : es.length ≤ 65536) (hp : pos ix bi = k) :
    Calls Try.prog 47 #[.pointer (some ⟨b, 0, none⟩), .int .u64 ix] w fun e w' => e = .returned (.agg #[.int .u64 es[k].1, .int .u64 es[k].2, .int .u8 0, .slice none 0 0]) ∧ Below w.heap.size w w' := by
  have hbl := hs.lt
  obtain ⟨g, cap, rfl, _, h1, h2⟩ := hl.at k hk
  obtain ⟨h3, h4⟩ := hl.at2 k hk rfl
  have hgl : g < w.heap.size := World.block_lt_of_cell? _ _ h1
  obtain ⟨_, _, _, _, hc, _⟩ := hs.cells
  have HP : Hid (pos ix bi = k) := hp
  have HS : Hid (Srv w b bi bt (.slice (some ⟨g, 0, none⟩) es.length cap)) := hs
  clear hl hp hs
  generalize es[k].1 = x at h1 ⊢
  generalize es[k].2 = y at h2 ⊢
  generalize es.length = n at *
  have hk1 : (0 : Int) ≤ (k : Int) := by omega
  have hk2 : (k : Int) < (n : Int) := by omega
  go_enter Try.func47, Try.ntmps47
  go_wp2
  go_region_held3 (fun w' => w'.cell? ⟨b, 17, none⟩ = some (.slice (some ⟨g, 0, none⟩) n cap) ∧ w'.cell? ⟨g, k * 4, none⟩ = some (.int .u64 x) ∧ w'.cell? ⟨g, k * 4 + 1, none⟩ = some (.int .u64 y) ∧ w'.cell? ⟨g, k * 4 + 2, none⟩ = some (.int .u8 0) ∧ w'.cell? ⟨g, k * 4 + 3, none⟩ = some (.slice none 0 0)) (go_keep)
    (first | (go_at_call 35; refine (position' b ix bi bt _ _ k (by exact (HS.out.alloc _).drew) HP.out).mono ?_; rintro e w' ⟨rfl, rfl⟩))
  go_wp2
  refine bodyPost_ret (v := .agg #[.int .u64 x, .int .u64 y, .int .u8 0, .slice none 0 0]) (by simp [results, Try.results47, go_sem]) rfl ⟨rfl, ?_⟩
  exact ((Below.refl _ _).alloc (Nat.le_refl _) _).drew

set_option maxRecDepth 20000 in
set_option maxHeartbeats 400000 in
theorem termAt_base (b : Nat) (bi bt : Int) (v : Value) (w : World) (hs : Srv w b bi bt v) :
    Calls Try.prog 44 #[.pointer (some ⟨b, 0, none⟩), .int .u64 bi] w fun e w' => e = .returned (.int .u64 bt) ∧ Below w.heap.size w w' := by
  obtain ⟨_, _, hc1, hc2, _, _⟩ := hs.cells
  go_enter Try.func44, Try.ntmps44
  go_wp2
  go_ret
  exact ⟨rfl, Below.refl _ _⟩

set_option maxRecDepth 20000 in
set_option maxHeartbeats 400000 in
theorem termAt_log (b B : Nat) (ix bi bt : Int) (v : Value) (es : List (Int × Int)) (k : Nat) (t : Int) (w : World) (hs : Srv w b bi bt v) (hl : Log w B v es) (hk : k < es.length) (hm : es.length ≤ 65536) (hp : pos ix bi = k) (hne : (ix == bi) = false) (ht : es[k].2 = t) :
    Calls Try.prog 44 #[.pointer (some ⟨b, 0, none⟩), .int .u64 ix] w fun e w' => e = .returned (.int .u64 t) ∧ Below w.heap.size w w' := by
  obtain ⟨_, _, hc1, hc2, _, _⟩ := hs.cells
  have hfld : ∀ (x y z : Int) (w : World), (Instr.field 101 (.agg #[.int .u64 x, .int .u64 y, .int .u8 z, .slice none 0 0]) 0).run Try.prog w = .ok (.agg #[.int .u64 x, .int .u64 y]) w := fun _ _ _ _ => by kernel_rfl
  have hfld2 : ∀ (x y : Int) (w : World), (Instr.field 55 (.agg #[.int .u64 x, .int .u64 y]) 1).run Try.prog w = .ok (.int .u64 y) w := fun _ _ _ => by kernel_rfl
  have HP : Hid (pos ix bi = k) := hp
  have HT : Hid (es[k].2 = t) := ht
  clear hp ht
  go_enter Try.func44, Try.ntmps44
  go_wp2_with fail
  refine (entryAt b B ix bi bt v es k _ hs hl hk hm HP.out).mono ?_
  rintro e w' ⟨rfl, hb⟩
  rw [HT.out]
  go_wp2
  go_ret
  exact ⟨rfl, hb⟩


theorem field55_0 (x y : Int) (w : World) : (Instr.field 55 (.agg #[.int .u64 x, .int .u64 y]) 0).run Try.prog w = .ok (.int .u64 x) w := by kernel_rfl

set_option maxRecDepth 20000 in
set_option maxHeartbeats 1000000 in
theorem holds_lt (b : Nat) (ix t bi bt : Int) (v : Value) (w : World) (hs : Srv w b bi bt v) (h : ix < bi) :
    Calls Try.prog 37 #[.pointer (some ⟨b, 0, none⟩), .agg #[.int .u64 ix, .int .u64 t]] w fun e w' => e = .returned (.bool true) ∧ Below w.heap.size w w' := by
  have hbl := hs.lt
  obtain ⟨hc, _, _, _, _, _⟩ := hs.cells
  have hd : decide (ix < bi) = true := by simpa using h
  go_enter Try.func37, Try.ntmps37
  go_wp2
  go_quiet (fail)
  go_wp2
  go_ret
  exact ⟨rfl, below_drewN ((Below.refl _ _).alloc (Nat.le_refl _) _) _⟩

/-- A world in which all that was there in w0 is as it was. -/
def In (w0 : World) : Type := { x : World // Below w0.heap.size w0 x }

/-- A REGION THAT DRAWS ITS ORDER, whose operations only read what was there and whose callees only make new memory: one walk of the lexical order. -/
theorem wp_region_in {P : Program} {id : Nat} {Q : Exit → Act → World → Prop} {a : Act} {w : World} {l : List Oper} (hm : P.follows .mixedOrders = true) (hB : Region.lexB .any l.toArray = true)
    (h : wpQuiet P l.toArray (fun w' => ∃ u : In w, w' = u.1) (fun a' => ∀ w', (∃ u : In w, w' = u.1) → Q .normal a' w') l a) : (Code.region id l.toArray true).wp P Q a w :=
  wp_region_quiet (C := fun w' => ∃ u : In w, w' = u.1) hm hB ⟨⟨w.drew, (Below.refl _ _).drew⟩, rfl⟩ (by simpa using h)

/-- A callee's contract, met in such a world. -/
theorem calls_in {P : Program} {f : FuncId} {args : Array Value} {w : World} (u : In w) {v : Value} (h : Calls P f args u.1 fun e w' => e = .returned v ∧ Below u.1.heap.size u.1 w') :
    Calls P f args u.1 fun e w'' => e = .returned v ∧ ∃ u' : In w, w'' = u'.1 :=
  h.mono fun _ w' ⟨he, hb⟩ => ⟨he, ⟨w', u.2.trans (hb.mono u.2.size)⟩, rfl⟩

theorem Srv.in {w : World} {b : Nat} {bi bt : Int} {v : Value} (h : Srv w b bi bt v) (u : In w) : Srv u.1 b bi bt v := h.of_block (u.2.block _ h.lt)
theorem Log.in {w : World} {B : Nat} {v : Value} {es : List (Int × Int)} (h : Log w B v es) (u : In w) : Log u.1 B v es := by
  refine World.ownsRow.kept (row := none) h ⟨u.2.os, u.2.tape, u.2.output, u.2.size, fun k hk _ => u.2.block k hk⟩ ?_
  cases hv : v.ownBlock <;> simp

/-- The term of the entry at ix. -/
def termOf (bi bt : Int) (zs : List Int) (ix : Int) : Int := if ix = bi then bt else zs.getD (ix - bi - 1).toNat 0
/-- What holds answers for a log of the first n entries. -/
def holdsB (bi bt : Int) (zs : List Int) (n : Nat) (ix t : Int) : Bool := decide (ix < bi) || (decide (ix ≤ bi + n) && (termOf bi bt zs ix == t))

theorem termAt (b B : Nat) (ix bi bt : Int) (v : Value) (zs : List Int) (n : Nat) (w : World) (hs : Srv w b bi bt v) (hl : Log w B v (ents bi zs n)) (hn : n ≤ 65536) (h0 : 0 ≤ bi) (hfit : bi + n + 1 ≤ 18446744073709551615) (h1 : bi ≤ ix) (h2 : ix ≤ bi + n) :
    Calls Try.prog 44 #[.pointer (some ⟨b, 0, none⟩), .int .u64 ix] w fun e w' => e = .returned (.int .u64 (termOf bi bt zs ix)) ∧ Below w.heap.size w w' := by
  unfold termOf
  by_cases h : ix = bi
  · rw [if_pos h]
    subst h
    exact termAt_base b ix bt v w hs
  · rw [if_neg h]
    obtain ⟨k, hk⟩ := Int.eq_ofNat_of_zero_le (show 0 ≤ ix - bi - 1 by omega)
    have hix : ix = bi + k + 1 := by omega
    rw [hk, Int.toNat_natCast]
    subst hix
    exact termAt_log b B _ bi bt v (ents bi zs n) k _ w hs hl (by rw [ents_len]; omega) (by rw [ents_len]; omega) (pos_at bi k h0 (by omega)) (by simp; omega) (by rw [ents_at])

set_option maxRecDepth 20000 in
set_option maxHeartbeats 1000000 in
theorem holds_gt (b B : Nat) (ix t bi bt : Int) (v : Value) (zs : List Int) (n : Nat) (w : World) (hs : Srv w b bi bt v) (hl : Log w B v (ents bi zs n)) (hn : n ≤ 65536) (h : ¬ ix < bi) (h2 : bi + n < ix) :
    Calls Try.prog 37 #[.pointer (some ⟨b, 0, none⟩), .agg #[.int .u64 ix, .int .u64 t]] w fun e w' => e = .returned (.bool false) ∧ Below w.heap.size w w' := by
  have hbl := hs.lt
  have hd : decide (ix < bi) = false := by simpa using h
  have hd2 : decide (ix ≤ bi + n) = false := by simpa using h2
  have hf := field55_0
  go_enter Try.func37, Try.ntmps37
  go_wp2
  have hs2 := hs.alloc (.cells #[.int .u64 ix, .int .u64 t] 55)
  have hl2 := hl.alloc (.cells #[.int .u64 ix, .int .u64 t] 55)
  have c0 : (w.alloc (.cells #[.int .u64 ix, .int .u64 t] 55)).cell? ⟨w.heap.size, 0, none⟩ = some (.int .u64 ix) := by simp
  have hz : w.heap.size < (w.alloc (.cells #[.int .u64 ix, .int .u64 t] 55)).heap.size := by simp
  have hB2 : Below w.heap.size w (w.alloc (.cells #[.int .u64 ix, .int .u64 t] 55)) := (Below.refl _ _).alloc (Nat.le_refl _) _
  generalize w.alloc (.cells #[.int .u64 ix, .int .u64 t] 55) = w2 at *
  have k0 : ∀ u : In w2, u.1.cell? ⟨w.heap.size, 0, none⟩ = some (.int .u64 ix) := fun u => (u.2.cell (p := ⟨w.heap.size, 0, none⟩) hz).trans c0
  have k2 : ∀ u : In w2, u.1.cell? ⟨b, 12, none⟩ = some (.int .u64 bi) := fun u => (hs2.in u).cells.1
  clear c0
  have hne : Nonempty (In w2) := ⟨⟨w2, Below.refl _ _⟩⟩
  refine wp_region_in (by kernel_rfl) (by kernel_rfl) ?_
  repeat (go_big_quiet_step ((go_at_call 36; rename_i u; have hh := lastID b B bi bt v (ents bi zs n) u.1 (hs2.in u) (hl2.in u) (by rw [ents_len]; exact hn); rw [ents_last] at hh; exact calls_in u hh)))
  refine wpQuiet_nil ?_
  intro _ hw'
  obtain ⟨u, rfl⟩ := hw'
  go_wp2
  go_ret
  exact ⟨rfl, hB2.trans (u.2.mono hB2.size)⟩

set_option maxRecDepth 20000 in
set_option maxHeartbeats 1000000 in
theorem holds_le (b B : Nat) (ix t bi bt : Int) (v : Value) (zs : List Int) (n : Nat) (w : World) (hs : Srv w b bi bt v) (hl : Log w B v (ents bi zs n)) (hn : n ≤ 65536) (h0 : 0 ≤ bi) (hfit : bi + n + 1 ≤ 18446744073709551615) (h : ¬ ix < bi) (h2 : ix ≤ bi + n) :
    Calls Try.prog 37 #[.pointer (some ⟨b, 0, none⟩), .agg #[.int .u64 ix, .int .u64 t]] w fun e w' => e = .returned (.bool (termOf bi bt zs ix == t)) ∧ Below w.heap.size w w' := by
  have hbl := hs.lt
  have hd : decide (ix < bi) = false := by simpa using h
  have hd2 : decide (ix ≤ bi + n) = true := by simpa using h2
  have hf := field55_0
  go_enter Try.func37, Try.ntmps37
  go_wp2
  have hs2 := hs.alloc (.cells #[.int .u64 ix, .int .u64 t] 55)
  have hl2 := hl.alloc (.cells #[.int .u64 ix, .int .u64 t] 55)
  have c0 : (w.alloc (.cells #[.int .u64 ix, .int .u64 t] 55)).cell? ⟨w.heap.size, 0, none⟩ = some (.int .u64 ix) := by simp
  have c1 : (w.alloc (.cells #[.int .u64 ix, .int .u64 t] 55)).cell? ⟨w.heap.size, 1, none⟩ = some (.int .u64 t) := by simp
  have hz : w.heap.size < (w.alloc (.cells #[.int .u64 ix, .int .u64 t] 55)).heap.size := by simp
  have hB2 : Below w.heap.size w (w.alloc (.cells #[.int .u64 ix, .int .u64 t] 55)) := (Below.refl _ _).alloc (Nat.le_refl _) _
  generalize w.alloc (.cells #[.int .u64 ix, .int .u64 t] 55) = w2 at *
  have k0 : ∀ u : In w2, u.1.cell? ⟨w.heap.size, 0, none⟩ = some (.int .u64 ix) := fun u => (u.2.cell (p := ⟨w.heap.size, 0, none⟩) hz).trans c0
  have k1 : ∀ u : In w2, u.1.cell? ⟨w.heap.size, 1, none⟩ = some (.int .u64 t) := fun u => (u.2.cell (p := ⟨w.heap.size, 1, none⟩) hz).trans c1
  have k2 : ∀ u : In w2, u.1.cell? ⟨b, 12, none⟩ = some (.int .u64 bi) := fun u => (hs2.in u).cells.1
  clear c0 c1
  have hne : Nonempty (In w2) := ⟨⟨w2, Below.refl _ _⟩⟩
  refine wp_region_in (by kernel_rfl) (by kernel_rfl) ?_
  repeat (go_big_quiet_step (first | (go_at_call 36; rename_i u; have hh := lastID b B bi bt v (ents bi zs n) u.1 (hs2.in u) (hl2.in u) (by rw [ents_len]; exact hn); rw [ents_last] at hh; exact calls_in u hh) | (go_at_call 44; rename_i u; exact calls_in u (termAt b B ix bi bt v zs n u.1 (hs2.in u) (hl2.in u) hn h0 hfit (by omega) h2))))
  refine wpQuiet_nil ?_
  intro _ hw'
  obtain ⟨u, rfl⟩ := hw'
  go_wp2
  go_ret
  exact ⟨rfl, hB2.trans (u.2.mono hB2.size)⟩

theorem holds (b B : Nat) (ix t bi bt : Int) (zs : List Int) (n : Nat) (w : World) (hs : Has w b B bi bt zs n) (hn : n ≤ 65536) (h0 : 0 ≤ bi) (hfit : bi + n + 1 ≤ 18446744073709551615) :
    Calls Try.prog 37 #[.pointer (some ⟨b, 0, none⟩), .agg #[.int .u64 ix, .int .u64 t]] w fun e w' => e = .returned (.bool (holdsB bi bt zs n ix t)) ∧ Below w.heap.size w w' := by
  obtain ⟨v, hs, hl⟩ := hs
  unfold holdsB
  by_cases h1 : ix < bi
  · simp only [h1, decide_true, Bool.true_or]
    exact holds_lt b ix t bi bt v w hs h1
  by_cases h2 : ix ≤ bi + n
  · simp only [h1, h2, decide_true, decide_false, Bool.false_or, Bool.true_and]
    exact holds_le b B ix t bi bt v zs n w hs hl hn h0 hfit h1 h2
  · simp only [h1, h2, decide_false, Bool.false_or, Bool.false_and]
    exact holds_gt b B ix t bi bt v zs n w hs hl hn h1 (by omega)

set_option maxHeartbeats 400000 in
theorem zzHolds (b B : Nat) (ix t bi bt : Int) (zs : List Int) (n : Nat) (w : World) (hs : Has w b B bi bt zs n) (hn : n ≤ 65536) (h0 : 0 ≤ bi) (hfit : bi + n + 1 ≤ 18446744073709551615) :
    Calls Try.prog 26 #[.pointer (some ⟨b, 0, none⟩), .int .u64 ix, .int .u64 t] w fun e w' => e = .returned (.bool (holdsB bi bt zs n ix t)) ∧ Below w.heap.size w w' := by
  go_enter Try.func26, Try.ntmps26
  go_wp2_with (go_at_call 37; refine (holds b B ix t bi bt zs n _ hs hn h0 hfit).mono ?_; rintro e w' ⟨rfl, hb⟩)
  go_ret
  exact ⟨rfl, hb⟩
end Go.Proofs.Qxb6618972a
