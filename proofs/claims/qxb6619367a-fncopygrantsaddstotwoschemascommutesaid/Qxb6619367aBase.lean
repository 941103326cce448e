/- Slices of one-cell elements: one's own, grown by append; and read. Maps, by what they hold (seat b6619367a). -/
import Derived.Test.Qxb6619367aRows
import Derived.WalkKit
import Derived.WalkSpells
import Derived.WalkLawsBesides
import Derived.Laws.OwnMore
import Derived.Deep.AppendLies
import Derived.Deep.RegionHeld3
import Derived.Deep.DrawnRows
import Derived.Deep.QuietTactic
import Derived.BigQuiet
import Derived.MapKept
import Derived.Deep.Cut
import Derived.Deep.CutRange
import Derived.Deep.MidRow
namespace Go.Proofs.Qxb6619367a
open Go.RowKit Go.MapKept

/-- All but the blocks of S (and new ones) is as it was. -/
structure Kept (S : Nat → Prop) (w w' : World) : Prop where
  os : w'.os = w.os
  tape : w'.tape = w.tape
  output : w'.output = w.output
  size : w.heap.size ≤ w'.heap.size
  block : ∀ k, k < w.heap.size → ¬ S k → w'.heap[k]? = w.heap[k]?

theorem Kept.below {S : Nat → Prop} {w w' : World} (h : Kept S w w') {B : Nat} (hB : B ≤ w.heap.size) (hS : ∀ k, S k → B ≤ k) : Below B w w' :=
  ⟨h.os, h.tape, h.output, h.size, fun k hk => h.block k (by omega) (fun hs => by have := hS k hs; omega)⟩

/-- 'make([]T, n)', one cell an element. -/
theorem run_mkrow {P : Program} {t e : TypeId} {z : Value} {bytes : Nat} (ht : P.underlying t = some (.slice e)) (hinfo : (P.info? e).map (fun i => (i.zero, i.size, i.bytes)) = some (some z, 1, bytes)) (hz1 : z.cells = #[z])
    (n : Nat) (hbytes : bytes * n ≤ 281474976710656) (h63 : n ≤ 9223372036854775807) (w : World) :
    (Instr.makeSlice t (.int .i64 (n : Int)) (.int .i64 (n : Int))).run P w = .ok (.slice (some ⟨w.heap.size, 0, none⟩) n n) (w.alloc (.cells (madeCells #[z] n) e)) := by
  obtain ⟨i, hi, hz, hs, hb⟩ := info_parts hinfo
  have h := run_make (P := P) w t e i z ht hi hz .i64 .i64 n n (by omega) (by omega) (by rw [hb, ← Int.natCast_mul]; omega) (by omega)
  rw [h, hs, hz1]
  simp

/-! ### Bytes in memory that may be written (a block of whatever type), and bytes that are only read -/

/-- The slice v holds the cells xs, from the head of a block that may be written. -/
def Mine (w : World) (v : Value) (xs : List Value) : Prop :=
  (v = .slice none 0 0 ∧ xs = []) ∨
  ∃ g cap cur tag, v = .slice (some ⟨g, 0, none⟩) xs.length cap ∧ w.heap[g]? = some (.cells cur tag (0, 0)) ∧ xs.length ≤ cap ∧ cap ≤ maxLen ∧ cur.size = cap ∧ cur.toList.take xs.length = xs

/-- The slice v holds the cells xs. -/
def Reads (w : World) (v : Value) (xs : List Value) : Prop :=
  (v = .slice none 0 0 ∧ xs = []) ∨ ∃ x c, v = .slice (some x) xs.length c ∧ xs.length ≤ c ∧ (xs ≠ [] → ∃ b o, x = ⟨b, o, none⟩ ∧ ∀ i (h : i < xs.length), w.cell? ⟨b, o + i, none⟩ = some xs[i])

theorem Mine.lt {w : World} {v : Value} {xs : List Value} (h : Mine w v xs) : ∀ k, v.ownBlock = some k → k < w.heap.size := by
  intro k hk
  rcases h with ⟨rfl, _⟩ | ⟨g, cap, cur, tag, rfl, hg, _⟩
  · simp [Value.ownBlock] at hk
  · simp [Value.ownBlock] at hk
    subst hk
    exact (Array.getElem?_eq_some_iff.1 hg).1

theorem Mine.of_block {w w' : World} {v : Value} {xs : List Value} (h : Mine w v xs) (hb : ∀ g, v.ownBlock = some g → w'.heap[g]? = w.heap[g]?) : Mine w' v xs := by
  rcases h with h | ⟨g, cap, cur, tag, hv, hg, r⟩
  · exact .inl h
  · exact .inr ⟨g, cap, cur, tag, hv, (hb g (by rw [hv]; rfl)).trans hg, r⟩

theorem row_cells {w : World} {xs : List Value} {g : Nat} {cur : Array Value} {tag : TypeId} (hg : w.heap[g]? = some (.cells cur tag (0, 0))) (ht : cur.toList.take xs.length = xs) :
    ∀ j u, xs[j]? = some u → w.cell? ((⟨g, 0, none⟩ : Addr).add j) = some u := by
  intro j u hu
  have hadd : (⟨g, 0, none⟩ : Addr).add j = ⟨g, j, none⟩ := by unfold Addr.add; split <;> simp_all
  rw [hadd, cell_of_row w g j cur tag (0, 0) hg]
  rw [← ht, List.getElem?_take] at hu
  split at hu
  · simpa using hu
  · cases hu

theorem Mine.reads {w : World} {v : Value} {xs : List Value} (h : Mine w v xs) : Reads w v xs := by
  rcases h with h | ⟨g, cap, cur, tag, hv, hg, hc, _, hs, ht⟩
  · exact .inl h
  · refine .inr ⟨⟨g, 0, none⟩, cap, hv, hc, fun _ => ⟨g, 0, rfl, fun i hi => ?_⟩⟩
    have := row_cells hg ht i xs[i] (by simp [hi])
    rwa [Addr.add_lit] at this

theorem Reads.form {w : World} {v : Value} {xs : List Value} (h : Reads w v xs) : ∃ a c, v = .slice a xs.length c := by
  rcases h with ⟨rfl, rfl⟩ | ⟨x, c, rfl, _⟩
  · exact ⟨none, 0, rfl⟩
  · exact ⟨_, _, rfl⟩

/-- A fact that the walk wants: the cell at i. -/
theorem Reads.get {w : World} {v : Value} {xs : List Value} (h : Reads w v xs) {i : Nat} (hi : i < xs.length) : ∃ b o c, v = .slice (some ⟨b, o, none⟩) xs.length c ∧ ∀ i (h : i < xs.length), w.cell? ⟨b, o + i, none⟩ = some xs[i] := by
  rcases h with ⟨rfl, rfl⟩ | ⟨x, c, rfl, _, hx⟩
  · simp at hi
  · obtain ⟨b, o, rfl, hc⟩ := hx (by intro e; simp [e] at hi)
    exact ⟨b, o, c, rfl, hc⟩

section
variable {P : Program} (w : World)

theorem run_append_room_any (t ty e : TypeId) (i : TypeInfo) (ht : P.underlying t = some (.slice e)) (hi : P.info? e = some i) (h1s : i.size = 1)
    (g sLen sCap : Nat) (cur : Array Value) (tag : TypeId) (hg : w.heap[g]? = some (.cells cur tag (0, 0)))
    (a : Addr) (m c : Nat) (news : List Value) (hl : news.length = m) (hnews : ∀ j u, news[j]? = some u → w.cell? (a.add j) = some u) (h1 : ∀ u ∈ news, u.oneCell' = true)
    (hroom : sLen + m ≤ sCap) (hfit : sLen + news.length ≤ cur.size) :
    (Builtin.append_ #[t, t] ty #[.slice (some ⟨g, 0, none⟩) sLen sCap, .slice (some a) m c]).run P w =
      .ok (.slice (some ⟨g, 0, none⟩) (sLen + m) sCap) (w.setRow g (cur.toList.take sLen ++ news ++ cur.toList.drop (sLen + news.length)).toArray) := by
  have hf := run_firstCells_some (P := P) w i.size m a m c news (by rw [h1s, hl, Nat.mul_one]) hnews
  have hst := run_storeCells_at P g (sLen * i.size) tag news 0 cur w hg (by simpa [h1s] using hfit) h1
  simp only [Nat.add_zero, h1s, Nat.mul_one] at hst
  rw [h1s] at hf
  simp [Builtin.append_, run_underlying ht, sizeOf, typeInfo, hi, Builtin.lenOf, hroom, hf, h1s, Addr.add_lit, hst]

/-- append of one-cell elements onto a slice of one's own. -/
theorem run_append_mine (t ty e : TypeId) (z : Value) (bytes : Nat) (ht : P.underlying t = some (.slice e)) (hinfo : (P.info? e).map (fun i => (i.zero, i.size, i.bytes)) = some (some z, 1, bytes)) (hz1 : z.cells.size = 1)
    (v : Value) (xs : List Value) (hm : Mine w v xs) (sv : Value) (ys : List Value) (hs : Reads w sv ys) (h1 : ∀ u ∈ ys, u.oneCell' = true) (hbd : xs.length + ys.length ≤ 1099511627776) (hby : bytes ≤ 64) :
    ∃ v' w', (Builtin.append_ #[t, t] ty #[v, sv]).run P w = .ok v' w' ∧ Mine w' v' (xs ++ ys) ∧ Kept (fun k => some k = v.ownBlock) w w' ∧ (v'.ownBlock = v.ownBlock ∨ v'.ownBlock = some w.heap.size) := by
  obtain ⟨i, hi, hz, hsz, hbb⟩ := info_parts hinfo
  have hbytes : (xs.length + ys.length) * bytes ≤ 140737488355328 := by
    have h2 := Nat.mul_le_mul hbd hby
    omega
  have keptRefl : Kept (fun k => some k = v.ownBlock) w w := ⟨rfl, rfl, rfl, Nat.le_refl _, fun _ _ _ => rfl⟩
  rcases hs with ⟨rfl, rfl⟩ | ⟨a, c, rfl, hyc, hy⟩
  · refine ⟨v, w, ?_, by simpa using hm, keptRefl, .inl rfl⟩
    rcases hm with ⟨rfl, rfl⟩ | ⟨g, cap, cur, tag, rfl, hg, hc, _⟩
    · simp [Builtin.append_, run_underlying ht, sizeOf, typeInfo, hi, Builtin.lenOf, Builtin.firstCells]
    · simp [Builtin.append_, run_underlying ht, sizeOf, typeInfo, hi, Builtin.lenOf, Builtin.firstCells, hc, storeCells]
  · have hnews : ∀ j u, ys[j]? = some u → w.cell? (a.add j) = some u := by
      intro j u hu
      have hj := (List.getElem?_eq_some_iff.1 hu).1
      obtain ⟨b, o, rfl, hcell⟩ := hy (by intro e; simp [e] at hj)
      rw [Addr.add_lit, hcell j hj]
      simpa [hj] using hu
    have grown : ∀ (cap : Nat), cap < xs.length + ys.length → ∀ w1, w1 = w.drew.alloc (.cells (xs.toArray ++ ys.toArray ++ Builtin.zeroCells z.cells (grownCap w (xs.length + ys.length) cap e - (xs.length + ys.length))) e) →
        Mine w1 (.slice (some ⟨w.heap.size, 0, none⟩) (xs.length + ys.length) (grownCap w (xs.length + ys.length) cap e)) (xs ++ ys) ∧ Kept (fun k => some k = v.ownBlock) w w1 := by
      intro cap hcap w1 hw1
      subst hw1
      have hge := grownCap_ge w (xs.length + ys.length) cap e
      have hle := grownCap_le_maxLen w (xs.length + ys.length) cap e (by unfold maxLen; omega)
      refine ⟨.inr ⟨w.heap.size, _, _, e, by simp, heap_alloc_new w.drew _, by simpa using hge, hle, ?_, ?_⟩, ⟨rfl, rfl, rfl, by simp, fun k hk _ => Below.heap_alloc w.drew _ k hk⟩⟩
      · simp [size_zeroCells, hz1]; omega
      · simp only [Array.toList_append, List.append_assoc]
        rw [← List.append_assoc]
        exact List.take_left
    rcases hm with ⟨rfl, rfl⟩ | ⟨g, cap, cur, tag, rfl, hg, hc, hcm, hcs, htake⟩
    · by_cases h0 : ys.length = 0
      · obtain rfl := List.eq_nil_of_length_eq_zero h0
        refine ⟨.slice none 0 0, w, ?_, .inl ⟨rfl, rfl⟩, keptRefl, .inl rfl⟩
        simp [Builtin.append_, run_underlying ht, sizeOf, typeInfo, hi, Builtin.lenOf, Builtin.firstCells, loadCells, loadCellsFrom]
      · have hr := run_append_nil (P := P) w t ty e i z ht hi hz a ys.length c ys (by rw [hsz, Nat.mul_one]) hnews (by omega) (by omega) (by rw [hbb]; simp at hbytes; omega)
        have hg := grown 0 (by simp; omega) _ rfl
        simp only [List.length_nil, Nat.zero_add, List.nil_append, Array.empty_append] at hg ⊢
        exact ⟨_, _, hr, hg.1, hg.2, .inr rfl⟩
    · by_cases hroom : xs.length + ys.length ≤ cap
      · have hr := run_append_room_any (P := P) w t ty e i ht hi hsz g xs.length cap cur tag hg a ys.length c ys rfl hnews h1 hroom (by omega)
        refine ⟨_, _, hr, .inr ⟨g, cap, _, tag, by simp, setRow_heap w g cur _ tag _ hg, by simpa using hroom, hcm, ?_, ?_⟩, ⟨rfl, rfl, rfl, by simp, fun k _ hk => setRow_other w g k _ (fun e => hk (by simp [Value.ownBlock, e]))⟩, .inl rfl⟩
        · simp; omega
        · rw [htake]
          exact List.take_left
      · have holds : ∀ j u, xs[j]? = some u → w.cell? ((⟨g, 0, none⟩ : Addr).add j) = some u := row_cells hg htake
        have hr := run_append_grow (P := P) w t ty e i z ht hi hz ⟨g, 0, none⟩ xs.length cap xs (by rw [hsz, Nat.mul_one]) holds a ys.length c ys (by rw [hsz, Nat.mul_one]) hnews (by omega) (by omega) (by rw [hbb]; exact growslice_fits (by omega) hbytes)
        have hgr := grown cap (by omega) _ rfl
        exact ⟨_, _, hr, hgr.1, hgr.2, .inr rfl⟩

theorem wpList_append_mine {ops : Array Oper} {rest : List Oper} {o : Oper} {a : Act} {Q : Exit → Act → World → Prop} (hgd : o.guard = none) (s x : Operand) (t : TypeId)
    (ho : o.op = .call { callee := .builtin .append, args := #[s, x], argTypes := #[t, t] })
    (e : TypeId) (z : Value) (bytes : Nat) (ht : P.underlying t = some (.slice e)) (hinfo : (P.info? e).map (fun i => (i.zero, i.size, i.bytes)) = some (some z, 1, bytes)) (hz1 : z.cells.size = 1)
    (v : Value) (xs : List Value) (hv : a.eval s = v) (hm : Mine w v xs) (sv : Value) (ys : List Value) (hx : a.eval x = sv) (hs : Reads w sv ys) (h1 : ∀ u ∈ ys, u.oneCell' = true) (hbd : xs.length + ys.length ≤ 1099511627776) (hby : bytes ≤ 64)
    (h : ∀ v' w', Mine w' v' (xs ++ ys) → Kept (fun k => some k = v.ownBlock) w w' → (v'.ownBlock = v.ownBlock ∨ v'.ownBlock = some w.heap.size) → wpList P ops Q rest (a.put o.dst v') w') : wpList P ops Q (o :: rest) a w := by
  refine wpList_plain hgd fun K hK => ?_
  obtain ⟨v', w', hr, h2, h3, h4⟩ := run_append_mine (P := P) w t o.type e z bytes ht hinfo hz1 v xs hm sv ys hs h1 hbd hby
  unfold Oper.wp execOp
  simp only [ho, resolve, invoke, builtin, Sem.run_bind, Sem.run_pure, Result.andThen_ok, List.map_toArray, List.map_cons, List.map_nil, hv, hx, hr]
  exact hK _ _ (h v' w' h2 h3 h4)
end

theorem Mine.form {w : World} {v : Value} {xs : List Value} (h : Mine w v xs) : ∃ a n c, v = .slice a n c ∧ n = xs.length := by
  rcases h with ⟨rfl, rfl⟩ | ⟨g, cap, cur, tag, rfl, _⟩
  · exact ⟨none, 0, 0, rfl, rfl⟩
  · exact ⟨_, _, _, rfl, rfl⟩

/-- One cell in a block of its own, as a slice of one. -/
theorem reads_one (w : World) (u : Value) (t : TypeId) : Reads (w.alloc (.cells #[u] t)) (.slice (some ⟨w.heap.size, 0, none⟩) 1 1) [u] :=
  .inr ⟨_, 1, rfl, by simp, fun _ => ⟨w.heap.size, 0, rfl, fun i hi => by
    have : i = 0 := by simpa using hi
    subst this
    simp⟩⟩

theorem Mine.alloc {w : World} {v : Value} {xs : List Value} (h : Mine w v xs) (o : Obj) : Mine (w.alloc o) v xs := h.of_block fun g hg => Below.heap_alloc w o g (h.lt g hg)

theorem Kept.trans {S : Nat → Prop} {a b c : World} (h : Kept S a b) (k : Kept S b c) : Kept S a c :=
  ⟨k.os.trans h.os, k.tape.trans h.tape, k.output.trans h.output, Nat.le_trans h.size k.size, fun i hi hs => (k.block i (Nat.lt_of_lt_of_le hi h.size) hs).trans (h.block i hi hs)⟩
theorem Kept.mono {S S' : Nat → Prop} {a b : World} (h : Kept S a b) (hs : ∀ k, k < a.heap.size → S k → S' k) : Kept S' a b :=
  ⟨h.os, h.tape, h.output, h.size, fun i hi hn => h.block i hi (fun e => hn (hs i hi e))⟩
theorem Kept.refl (S : Nat → Prop) (w : World) : Kept S w w := ⟨rfl, rfl, rfl, Nat.le_refl _, fun _ _ _ => rfl⟩
theorem Kept.alloc {S : Nat → Prop} {a b : World} (h : Kept S a b) (o : Obj) : Kept S a (b.alloc o) :=
  ⟨h.os, h.tape, h.output, by have := h.size; simp; omega, fun i hi hn => (Below.heap_alloc b o i (Nat.lt_of_lt_of_le hi h.size)).trans (h.block i hi hn)⟩
theorem Kept.drew {S : Nat → Prop} {a b : World} (h : Kept S a b) : Kept S a b.drew := ⟨h.os, h.tape, h.output, h.size, h.block⟩
theorem Kept.setCell {S : Nat → Prop} {a b : World} (h : Kept S a b) {p : Addr} (hp : S p.block) (u : Value) : Kept S a (b.setCell p u) :=
  ⟨h.os, h.tape, h.output, by have := h.size; simpa using this, fun i hi hn => (Below.heap_setCell b p u i (fun e => hn (e ▸ hp))).trans (h.block i hi hn)⟩
theorem Kept.of_below {B : Nat} {a b : World} (h : Below B a b) : Kept (fun k => B ≤ k) a b := ⟨h.os, h.tape, h.output, h.size, fun i _ hn => h.block i (by omega)⟩

/-- What a growing slice does to memory: its own block may turn; where it lies afterwards. -/
structure Grew (w w' : World) (v v' : Value) : Prop where
  kept : Kept (fun k => some k = v.ownBlock) w w'
  lies : ∀ g, v'.ownBlock = some g → v.ownBlock = some g ∨ w.heap.size ≤ g

theorem Grew.refl (w : World) (v : Value) : Grew w w v v := ⟨Kept.refl _ _, fun _ h => .inl h⟩
theorem Grew.trans {a b c : World} {u v x : Value} (h : Grew a b u v) (k : Grew b c v x) : Grew a c u x := by
  refine ⟨⟨k.kept.os.trans h.kept.os, k.kept.tape.trans h.kept.tape, k.kept.output.trans h.kept.output, Nat.le_trans h.kept.size k.kept.size, fun i hi hs => ?_⟩, fun g hg => ?_⟩
  · refine (k.kept.block i (Nat.lt_of_lt_of_le hi h.kept.size) (fun e => ?_)).trans (h.kept.block i hi hs)
    rcases h.lies i e.symm with e' | e'
    · exact hs e'.symm
    · omega
  · rcases k.lies g hg with e | e
    · exact h.lies g e
    · exact .inr (Nat.le_trans h.kept.size e)

/-! ### Strings -/
/-- Strings as cells. -/
def strs (ss : List ByteArray) : List Value := ss.map Value.string
theorem strs_one (ss : List ByteArray) : ∀ u ∈ strs ss, u.oneCell' = true := by
  intro u hu
  obtain ⟨s, _, rfl⟩ := List.mem_map.1 hu
  rfl
theorem strs_app (a b : List ByteArray) : strs (a ++ b) = strs a ++ strs b := by simp [strs]
theorem strs_len (a : List ByteArray) : (strs a).length = a.length := by simp [strs]

theorem info9 : (Try.prog.info? 9).map (fun i => (i.zero, i.size, i.bytes)) = some (some (.string ⟨#[]⟩), 1, 16) := by kernel_rfl

/-! ### Maps -/
/-- Block b is a map of n entries that holds what f says, keys by K. -/
def MapIs {α : Type} (K : α → Value) (w : World) (b : Nat) (f : α → Option Value) (n : Nat) : Prop :=
  ∃ es clock, w.heap[b]? = some (.map es clock) ∧ (∀ x ∈ es.toList, ∃ a, x.key = K a) ∧ es.toList.Pairwise (fun x y => x.key ≠ y.key) ∧ es.size = n ∧ ∀ a v, f a = some v ↔ ∃ e ∈ es.toList, e.key = K a ∧ e.val = v

/-- What a key's type must give. -/
structure KeyT {α : Type} (P : Program) (kt : TypeId) (d : TypeDesc) (K : α → Value) : Prop where
  under : P.underlying kt = some d
  isKey : ∀ a, IsKey d (K a)
  inj : ∀ a b, K a = K b → a = b
  bits : ∀ a, Instr.sameBits 10000 (K a) (K a) = true

section
variable {α : Type} {P : Program} {kt et t : TypeId} {d : TypeDesc} {K : α → Value} {w w' : World} {b n : Nat} {f : α → Option Value}

theorem MapIs.lt (h : MapIs K w b f n) : b < w.heap.size := by obtain ⟨es, c, hb, _⟩ := h; exact (Array.getElem?_eq_some_iff.1 hb).1
theorem MapIs.of_block (h : MapIs K w b f n) (hb : w'.heap[b]? = w.heap[b]?) : MapIs K w' b f n := by
  obtain ⟨es, c, h1, h2⟩ := h
  exact ⟨es, c, hb.trans h1, h2⟩
theorem MapIs.made (w : World) (K : α → Value) : MapIs K (w.alloc (.map #[] 0)) w.heap.size (fun _ => none) 0 :=
  ⟨#[], 0, (MapKept.heap_alloc w _).1, by simp, by simp, rfl, by simp⟩

theorem MapIs.find (h : MapIs K w b f n) (hK : KeyT P kt d K) (a : α) : ∃ es clock, w.heap[b]? = some (.map es clock) ∧
    ((Instr.findNow d (K a) es.toList 0 = some none ∧ f a = none ∧ ∀ x ∈ es.toList, x.key ≠ K a) ∨ ∃ j e, Instr.findNow d (K a) es.toList 0 = some (some (j, e.val)) ∧ es[j]? = some e ∧ e.key = K a ∧ f a = some e.val) ∧
    (∀ x ∈ es.toList, ∃ a, x.key = K a) ∧ es.toList.Pairwise (fun x y => x.key ≠ y.key) ∧ es.size = n ∧ ∀ a v, f a = some v ↔ ∃ e ∈ es.toList, e.key = K a ∧ e.val = v := by
  obtain ⟨es, clock, hb, hk, hp, hn, hf⟩ := h
  refine ⟨es, clock, hb, ?_, hk, hp, hn, hf⟩
  rcases findNow_spec (hK.isKey a) es.toList 0 (fun x hx => by obtain ⟨c, hc⟩ := hk x hx; rw [hc]; exact hK.isKey c) with ⟨h1, h2⟩ | ⟨j, e, h1, h2, h3⟩
  · refine .inl ⟨h1, ?_, h2⟩
    cases hfa : f a with
    | none => rfl
    | some v => obtain ⟨e, he, hek, _⟩ := (hf a v).1 hfa; exact absurd hek (h2 e he)
  · rw [Nat.zero_add] at h1
    exact .inr ⟨j, e, h1, by simpa using h2, h3, (hf a e.val).2 ⟨e, List.mem_of_getElem? h2, h3, rfl⟩⟩

theorem MapIs.lookup (h : MapIs K w b f n) (hK : KeyT P kt d K) (ht : P.underlying t = some (.map kt et)) {z : Value} (hz : (zeroValue et).run P w = .ok z w) (a : α) (c : Bool) :
    (Instr.lookup t (.map (some b)) (K a) c).run P w = .ok (if c then .tuple #[(f a).getD z, .bool (f a).isSome] else (f a).getD z) w := by
  obtain ⟨es, clock, hb, hfind, _⟩ := h.find hK a
  unfold Instr.lookup
  rcases hfind with ⟨h1, h2, _⟩ | ⟨j, e, h1, _, _, h2⟩
  · simp only [Sem.run_bind, run_underlying ht, Result.andThen_ok, MapKept.run_getObj_map hb, Sem.run_pure, run_checkKey hK.under (hK.isKey a), run_findKey hK.under h1, hz, h2]
    rfl
  · simp only [Sem.run_bind, run_underlying ht, Result.andThen_ok, MapKept.run_getObj_map hb, Sem.run_pure, run_checkKey hK.under (hK.isKey a), run_findKey hK.under h1, h2]
    rfl

theorem lookup_nil (hK : KeyT P kt d K) (ht : P.underlying t = some (.map kt et)) {z : Value} (hz : (zeroValue et).run P w = .ok z w) (a : α) (c : Bool) :
    (Instr.lookup t (.map none) (K a) c).run P w = .ok (if c then .tuple #[z, .bool false] else z) w := by
  unfold Instr.lookup
  have h1 : Instr.findNow d (K a) (#[] : Array MapEntry).toList 0 = some none := rfl
  simp only [Sem.run_bind, run_underlying ht, Result.andThen_ok, Sem.run_pure, run_checkKey hK.under (hK.isKey a), run_findKey hK.under h1, hz]

/-- The map with v at a. -/
def upd {β : Type} [DecidableEq α] (f : α → Option β) (a : α) (v : β) : α → Option β := fun x => if x = a then some v else f x

theorem MapIs.update [DecidableEq α] (h : MapIs K w b f n) (hK : KeyT P kt d K) (ht : P.underlying t = some (.map kt et)) (a : α) (v : Value) :
    ∃ w', (Instr.mapUpdate t (.map (some b)) (K a) v).run P w = .ok () w' ∧ MapIs K w' b (upd f a v) (n + if (f a).isSome then 0 else 1) ∧ Kept (fun k => k = b) w w' ∧ w'.heap.size = w.heap.size := by
  obtain ⟨es, clock, hb, hfind, hk, hp, hn, hf⟩ := h.find hK a
  have kept : ∀ o, Kept (fun k => k = b) w { w with heap := w.heap.setIfInBounds b o } := fun o => ⟨rfl, rfl, rfl, by simp, fun k _ hne => (heap_set hb).2 k hne⟩
  unfold Instr.mapUpdate
  rcases hfind with ⟨h1, h2, h3⟩ | ⟨j, e, h1, hj, hek, h2⟩
  · refine ⟨{ w with heap := w.heap.setIfInBounds b (.map (es.push { key := K a, val := v, born := clock }) (clock + 1)) }, by simp only [Sem.run_bind, run_underlying ht, Result.andThen_ok, MapKept.run_getObj_map hb, run_checkKey hK.under (hK.isKey a), run_findKey hK.under h1, MapKept.run_setObj_map _ hb], ?_, kept _, by simp⟩
    refine ⟨_, _, (heap_set hb).1, ?_, ?_, by simp [hn, h2], ?_⟩
    · intro x hx
      simp only [Array.toList_push, List.mem_append, List.mem_singleton] at hx
      rcases hx with hx | rfl
      · exact hk x hx
      · exact ⟨a, rfl⟩
    · simp only [Array.toList_push, List.pairwise_append, List.mem_singleton, List.pairwise_singleton, true_and]
      exact ⟨hp, fun x hx y hy => by subst hy; exact h3 x hx⟩
    · intro c u
      unfold upd
      simp only [Array.toList_push, List.mem_append, List.mem_singleton]
      split
      · rename_i hc
        subst hc
        constructor
        · intro hu; cases hu; exact ⟨_, .inr rfl, rfl, rfl⟩
        · rintro ⟨x, hx | rfl, hxk, hxv⟩
          · exact absurd hxk (h3 x hx)
          · rw [← hxv]
      · rename_i hc
        rw [hf c u]
        constructor
        · rintro ⟨x, hx, q⟩; exact ⟨x, .inl hx, q⟩
        · rintro ⟨x, hx | rfl, hxk, hxv⟩
          · exact ⟨x, hx, hxk, hxv⟩
          · exact absurd (hK.inj _ _ hxk).symm hc
  · have hstay : (Instr.keyThatStays (((es[j]?).map (·.key)).getD (K a)) (K a)).run P w = .ok (K a) w := by
      rw [hj]
      simp only [Option.map_some, Option.getD_some, hek]
      unfold Instr.keyThatStays
      rw [if_pos (hK.bits a)]
      rfl
    have hjl : j < es.toList.length := by have := (Array.getElem?_eq_some_iff.1 hj).1; simpa using this
    have hjl' : es.toList[j]? = some e := by simpa using hj
    have hmod : ∀ g : MapEntry → MapEntry, (es.modify j g).toList = es.toList.set j (g e) := by
      intro g
      rw [Array.toList_modify]
      apply List.ext_getElem?
      intro i
      rw [List.getElem?_modify, List.getElem?_set]
      by_cases hij : j = i
      · subst hij; simp [hjl']; simpa using hjl
      · simp [hij]
    refine ⟨{ w with heap := w.heap.setIfInBounds b (.map (es.modify j fun e => { e with key := K a, val := v }) clock) }, by simp only [Sem.run_bind, run_underlying ht, Result.andThen_ok, MapKept.run_getObj_map hb, run_checkKey hK.under (hK.isKey a), run_findKey hK.under h1, hstay, MapKept.run_setObj_map _ hb], ?_, kept _, by simp⟩
    refine ⟨_, _, (heap_set hb).1, ?_, ?_, by simp [hn, h2], ?_⟩
    · rw [hmod]
      intro x hx
      rcases List.mem_or_eq_of_mem_set hx with hx | rfl
      · exact hk x hx
      · exact ⟨a, rfl⟩
    · rw [hmod, List.pairwise_iff_getElem] 
      rw [List.pairwise_iff_getElem] at hp
      intro i i' hi hi' hlt
      simp only [List.length_set] at hi hi'
      have he : es.toList[j] = e := (List.getElem?_eq_some_iff.1 hjl').2
      have := hp i i' hi hi' hlt
      simp only [List.getElem_set]
      split <;> split
      · omega
      · rename_i h1 h2; subst h1; simpa [he, hek] using this
      · rename_i h1 h2; subst h2; simpa [he, hek] using this
      · exact this
    · intro c u
      rw [hmod]
      unfold upd
      have he : es.toList[j] = e := (List.getElem?_eq_some_iff.1 hjl').2
      split
      · rename_i hc
        subst hc
        constructor
        · intro hu; cases hu; exact ⟨_, List.mem_set hjl _, rfl, rfl⟩
        · rintro ⟨x, hx, hxk, hxv⟩
          obtain ⟨i, hi, rfl⟩ := List.getElem_of_mem hx
          rw [List.length_set] at hi
          rw [List.getElem_set] at hxk hxv
          split at hxv
          · rw [← hxv]
          · rename_i hne
            rw [if_neg hne] at hxk
            exfalso
            rw [List.pairwise_iff_getElem] at hp
            rcases Nat.lt_or_ge i j with hlt | hge
            · exact hp i j hi hjl hlt (by rw [hxk, he, hek])
            · exact hp j i hjl hi (by omega) (by rw [hxk, he, hek])
      · rename_i hc
        rw [hf c u]
        constructor
        · rintro ⟨x, hx, hxk, hxv⟩
          obtain ⟨i, hi, rfl⟩ := List.getElem_of_mem hx
          have hne : j ≠ i := by
            rintro rfl
            rw [he, hek] at hxk
            exact hc (hK.inj _ _ hxk).symm
          exact ⟨_, List.getElem_mem (l := es.toList.set j _) (by simpa using hi), by rw [List.getElem_set_ne hne]; exact ⟨hxk, hxv⟩⟩
        · rintro ⟨x, hx, hxk, hxv⟩
          rcases List.mem_or_eq_of_mem_set hx with hx | rfl
          · exact ⟨x, hx, hxk, hxv⟩
          · exact absurd (hK.inj _ _ hxk).symm hc

theorem MapIs.len (h : MapIs K w b f n) (ht : P.underlying t = some (.map kt et)) (ty : TypeId) : (Builtin.len_ #[t] ty #[.map (some b)]).run P w = .ok (goInt n) w := by
  obtain ⟨es, clock, hb, _, _, hn, _⟩ := h
  simp [Builtin.len_, run_underlying ht, MapKept.run_getObj_map hb, hn]
end

end Go.Proofs.Qxb6619367a
