/- add (seat b6617448a). -/
import Derived.Test.Qxb6617448aQState
import Derived.RegionTactic
import Derived.LoopTactic
import Derived.ChangeAlike
import Derived.Maps.Own
namespace Go.Proofs.Qxb6617448a
open Go.RowKit

/-- A queue: its heap hp, its spares sp, all in blocks from N on. -/
def QS (N : Nat) (w : World) (B : Nat) (hp : List Elt) (sp : List Nat) : Prop :=
  ∃ hv mv sv f, QR N w B hv mv sv hp sp f ∧ Mine 42 w hv (hp.map fun x => ptr x.1) ∧ (∀ g, hv.ownBlock = some g → N ≤ g ∧ sv.ownBlock ≠ some g) ∧ HeapF (ky hp) hp.length

def AddPost (N : Nat) (w : World) (B : Nat) (a : Int) (hp : List Elt) (sp : List Nat) (e : Ending) (w' : World) : Prop :=
  Below N w w' ∧ ∃ g hp' sp', e = .returned (ptr g) ∧ QS N w' B hp' sp' ∧ hp'.Perm (hp ++ [(g, a)]) ∧ sp'.length = sp.length - 1 ∧ IsI w' g a

/-- An instant to hand, out of the spares or new. -/
def Got (N : Nat) (w : World) (B : Nat) (hv mv : Value) (hp : List Elt) (n : Nat) (f : Int → Option Value) (v : Value) (w' : World) : Prop :=
  Below N w w' ∧ ∃ g sv sp a, v = ptr g ∧ QR N w' B hv mv sv hp sp f ∧ Mine 42 w' hv (hp.map fun x => ptr x.1) ∧ (∀ g, hv.ownBlock = some g → sv.ownBlock ≠ some g) ∧ sp.length = n - 1 ∧ IsI w' g a ∧ N ≤ g ∧ g ∉ hp.map (·.1) ∧ g ∉ sp

theorem Mine.set {tg : TypeId} {w : World} {g n c : Nat} {xs : List Value} (h : Mine tg w (.slice (some ⟨g, 0, none⟩) n c) xs) (i : Nat) (u : Value) : Mine tg (w.setCell ⟨g, i, none⟩ u) (.slice (some ⟨g, 0, none⟩) n c) (xs.set i u) := by
  rcases h with ⟨h, _⟩ | ⟨g', cap, cur, h1, h2, h3, h4, h5, h6⟩
  · cases h
  · simp only [Value.slice.injEq, Option.some.injEq, Addr.mk.injEq] at h1
    obtain ⟨⟨rfl, _⟩, rfl, rfl⟩ := h1
    refine .inr ⟨g, c, cur.setIfInBounds i u, by simp, set_cells h2 i u, by simpa using h3, h4, by simpa using h5, ?_⟩
    rw [List.length_set, Array.toList_setIfInBounds, List.take_set, h6]

theorem Mine.at {tg : TypeId} {w : World} {g n c : Nat} {xs : List Value} (h : Mine tg w (.slice (some ⟨g, 0, none⟩) n c) xs) {i : Nat} {u : Value} (hi : xs[i]? = some u) : w.cell? ⟨g, i, none⟩ = some u := by
  rcases h with ⟨h, _⟩ | ⟨g', cap, cur, h1, h2, h3, h4, h5, h6⟩
  · cases h
  · simp only [Value.slice.injEq, Option.some.injEq, Addr.mk.injEq] at h1
    obtain ⟨⟨rfl, _⟩, rfl, rfl⟩ := h1
    have := row_cells h2 h6 i u hi
    rwa [Addr.add_lit, Nat.zero_add] at this
theorem Mine.fro {tg : TypeId} {w : World} {g n c : Nat} {xs : List Value} (h : Mine tg w (.slice (some ⟨g, 0, none⟩) n c) xs) (i : Nat) : w.frozen? ⟨g, i, none⟩ = false := by
  rcases h with ⟨h, _⟩ | ⟨g', cap, cur, h1, h2, _⟩
  · cases h
  · simp only [Value.slice.injEq, Option.some.injEq, Addr.mk.injEq] at h1
    obtain ⟨⟨rfl, _⟩, rfl, rfl⟩ := h1
    simp [World.frozen?, h2]

theorem IsI.cells {w : World} {g : Nat} {a : Int} (h : IsI w g a) : w.cell? ⟨g, 0, none⟩ = some (.int .i64 a) ∧ w.cell? ⟨g, 1, none⟩ = some (.slice none 0 0) ∧ w.cell? ⟨g, 2, none⟩ = some (.int .i64 0) ∧ ∀ o, w.frozen? ⟨g, o, none⟩ = false := by
  refine ⟨by rw [cell_of_row w g 0 _ _ _ h]; rfl, by rw [cell_of_row w g 1 _ _ _ h]; rfl, by rw [cell_of_row w g 2 _ _ _ h]; rfl, fun o => by simp [World.frozen?, show w.heap[g]? = _ from h]⟩

theorem wpList_update {ops : Array Oper} {rest : List Oper} {o : Oper} {a : Act} {w : World} {Q : Exit → Act → World → Prop} (hg : o.guard = none) (m x v : Operand) (ho : o.op = .mapUpdate 41 m x v)
    {mb : Nat} {f : Int → Option Value} {n : Nat} (hm : a.eval m = .map (some mb)) (hmap : MapIs (Value.int .i64) w mb f n) (key : Int) (val : Value) (hx : a.eval x = .int .i64 key) (hv : a.eval v = val)
    (h : ∀ w', MapIs (Value.int .i64) w' mb (upd f key val) (n + if (f key).isSome then 0 else 1) → Kept (fun k => k = mb) w w' → wpList Try.prog ops Q rest (a.put o.dst undef) w') : wpList Try.prog ops Q (o :: rest) a w := by
  refine wpList_plain hg fun K hK => ?_
  obtain ⟨w', hr, h1, h2, _⟩ := hmap.update (t := 41) intKey Try.underlying41 key val
  unfold Oper.wp
  simp [execOp, ho, hm, hx, hv, hr, Result.andThen]
  exact hK _ _ (h w' h1 h2)

theorem QR.mkMap {N B : Nat} {w : World} {hv sv : Value} {sp : List Nat} {f : Int → Option Value} (h : QR N w B hv (.map none) sv [] sp f) (hN : N ≤ w.heap.size) :
    QR N ((w.setCell ⟨B, 1, none⟩ (.map (some w.heap.size))).alloc (.map #[] 0)) B hv (.map (some w.heap.size)) sv [] sp f := by
  have hf : f = fun _ => none := by
    funext a
    cases hfa : f a with
    | none => rfl
    | some v => obtain ⟨x, hx, _⟩ := (h.fm a v).1 hfa; cases hx
  have h1 := h.kept (S := fun _ => False) (w' := w.alloc (.map #[] 0)) ((Kept.refl _ _).alloc _) (fun _ h => h.elim)
  have h2 := h1.store1 w.heap.size hN (by rw [hf]; exact MapIs.made w _)
  rwa [World.setCell_alloc_past _ _ _ _ h.lt] at h2

/-- The map is there. -/
def Mapped (N : Nat) (w : World) (B : Nat) (hv sv : Value) (hp : List Elt) (sp : List Nat) (f : Int → Option Value) (g : Nat) (a : Int) (w' : World) : Prop :=
  Below N w w' ∧ ∃ mb, QR N w' B hv (.map (some mb)) sv hp sp f ∧ Mine 42 w' hv (hp.map fun x => ptr x.1) ∧ IsI w' g a

/-- The heap's slice while a new instant rises. -/
def ALoop (hb n c : Nat) (w5 : World) (l0 : List Elt) (k : Nat) (l : List Elt) (wr : World) : Prop :=
  Kept (fun b => b = hb) w5 wr ∧ Mine 42 wr (.slice (some ⟨hb, 0, none⟩) n c) (l.map fun x => ptr x.1) ∧ l.Perm l0 ∧ Up (ky l) l.length k

/-- The instant at j, while the heap's slice turns. -/
theorem inst_at {N B : Nat} {w5 wr : World} {hv mv sv : Value} {l0 l : List Elt} {sp : List Nat} {f : Int → Option Value} {hb n c : Nat} (hR : QR N w5 B hv mv sv l0 sp f) (hk : Kept (fun b => b = hb) w5 wr) (hm0 : ∃ cur, w5.heap[hb]? = some (.cells cur 42 (0, 0))) (hm : Mine 42 wr (.slice (some ⟨hb, 0, none⟩) n c) (l.map fun x => ptr x.1)) (hp : l.Perm l0) {j : Nat} (hj : j < l.length) :
    wr.cell? ⟨hb, j, none⟩ = some (.pointer (some ⟨(l.getD j dE).1, 0, none⟩)) ∧ IsI wr (l.getD j dE).1 (ky l j) := by
  have hmem : l.getD j dE ∈ l := by simp [List.getD_eq_getElem?_getD, hj]
  refine ⟨hm.at (u := ptr (l.getD j dE).1) (by simp [hj, List.getD_eq_getElem?_getD]), ?_⟩
  have hI := hR.inst _ (hp.mem_iff.1 hmem)
  obtain ⟨cur, hc⟩ := hm0
  exact (hk.block _ (Array.getElem?_eq_some_iff.1 hI).1 (obj_ne hI hc (by simp))).trans hI

theorem add_done {N B hb n c g : Nat} {a : Int} {w w5 wr : World} {hv mv sv : Value} {l0 l hp : List Elt} {sp sp1 : List Nat} {f : Int → Option Value} (hN : N ≤ w5.heap.size) (hb0 : Below N w w5) (hRw : QR N wr B hv mv sv l0 sp1 f) (hkw : Kept (fun b => b = hb) w5 wr)
    (hml : Mine 42 wr (.slice (some ⟨hb, 0, none⟩) n c) (l.map fun x => ptr x.1)) (hpl : l.Perm l0) (hheap : HeapF (ky l) l.length) (hhb : N ≤ hb ∧ sv.ownBlock ≠ some hb) (hl0 : hp ++ [(g, a)] = l0) (hsl : sp1.length = sp.length - 1) :
    AddPost N w B a hp sp (.returned (.pointer (some ⟨g, 0, none⟩))) (wr.setCell ⟨B, 0, none⟩ (.slice (some ⟨hb, 0, none⟩) n c)) := by
  have hne : hb ≠ B := fun e => hRw.apart hml rfl hhb.2 (.inl e)
  have hBN := hRw.bN
  refine ⟨(hb0.trans (hkw.below hN fun k e => by omega)).setCell (by exact hBN) _, g, l, sp1, rfl, ⟨_, _, _, _, (hRw.perm hpl).store0 _, hml.of_block fun g' hg' => Below.heap_setCell _ _ _ _ (by simp [Value.ownBlock] at hg'; subst hg'; exact hne), fun g' hg' => by simp [Value.ownBlock] at hg'; subst hg'; exact hhb, hheap⟩, by rw [hl0]; exact hpl, hsl, ?_⟩
  have hI := hRw.inst (g, a) (by rw [← hl0]; simp)
  obtain ⟨cs, h1, _⟩ := hRw.q
  exact (Below.heap_setCell _ _ _ _ (obj_ne hI h1 (by simp))).trans hI

/-- Two cells of the heap's slice change places. -/
theorem Mine.swap {w : World} {hb n c k p : Nat} {l : List Elt} (h : Mine 42 w (.slice (some ⟨hb, 0, none⟩) n c) (l.map fun x => ptr x.1)) :
    Mine 42 ((w.setCell ⟨hb, k, none⟩ (.pointer (some ⟨(l.getD p dE).1, 0, none⟩))).setCell ⟨hb, p, none⟩ (.pointer (some ⟨(l.getD k dE).1, 0, none⟩))) (.slice (some ⟨hb, 0, none⟩) n c) ((sw l k p).map fun x => ptr x.1) := by
  have h1 := (h.set k (ptr (l.getD p dE).1)).set p (ptr (l.getD k dE).1)
  have e : ((l.map fun x => ptr x.1).set k (ptr (l.getD p dE).1)).set p (ptr (l.getD k dE).1) = (sw l k p).map fun x => ptr x.1 := by
    simp [sw, List.map_set]
  rw [e] at h1
  exact h1
theorem kept_swap (w : World) (hb k p : Nat) (u v : Value) : Kept (fun b => b = hb) w ((w.setCell ⟨hb, k, none⟩ u).setCell ⟨hb, p, none⟩ v) :=
  (setCell_kept w ⟨hb, k, none⟩ u).trans (setCell_kept (w.setCell ⟨hb, k, none⟩ u) ⟨hb, p, none⟩ v)

theorem nil_or_snoc {α : Type} (l : List α) : l = [] ∨ ∃ l0 x, l = l0 ++ [x] := by
  rcases List.eq_nil_or_concat l with h | ⟨l0, x, h⟩
  · exact .inl h
  · exact .inr ⟨l0, x, by rw [h, List.concat_eq_append]⟩

set_option maxRecDepth 20000 in
set_option maxHeartbeats 1000000 in
theorem qadd (N B : Nat) (hp : List Elt) (sp : List Nat) (a : Int) (w : World) (hQ : QS N w B hp sp) (hN : N ≤ w.heap.size) (ha : a ∉ hp.map (·.2)) (hb1 : hp.length ≤ 100000) (hb2 : sp.length ≤ 256) :
    Calls Try.prog 18 #[ptr B, .int .i64 a] w (AddPost N w B a hp sp) := by
  obtain ⟨hv, mv, sv, f, h, hm, hap, hheap⟩ := hQ
  obtain ⟨mo, rfl⟩ : ∃ mo, mv = .map mo := by
    rcases h.map with ⟨h1, _⟩ | ⟨mb, h1, _⟩
    · exact ⟨_, h1⟩
    · exact ⟨_, h1⟩
  obtain ⟨c0, c1, c3, _⟩ := h.cells
  have f0 := h.frozen 0
  have f1 := h.frozen 1
  have f3 := h.frozen 16386
  obtain ⟨ha1, hn1, hc1, rfl⟩ := hm.shape
  obtain ⟨sa, sn, sc, rfl, hsn⟩ := h.sm.form
  rw [List.length_map] at hsn
  have HSN : Hid (sn = sp.length) := hsn
  have hsb : sn ≤ 256 := by omega
  clear hsn
  unfold ptr
  go_enter Try.func18, Try.ntmps18
  go_upto_if 17 with fail
  go_cut [5] from 18 to 35 (fun v w' => Got N w B (.slice ha1 hn1 hc1) (.map mo) hp sp.length f v w')
  case first =>
    rcases nil_or_snoc sp with rfl | ⟨sp0, g, rfl⟩
    · obtain rfl : sn = 0 := HSN.out
      go_wp2
      go_meet
      case rel =>
        refine ⟨(Below.refl _ _).alloc hN _, w.heap.size, _, [], 0, rfl, h.kept (S := fun _ => False) ((Kept.refl _ _).alloc _) (fun _ h => h.elim), hm.alloc _, fun g hg => (hap g hg).2, rfl, heap_alloc_new w _, hN, fun e => ?_, by simp⟩
        obtain ⟨x, hx, hxe⟩ := List.mem_map.1 e
        have := (Array.getElem?_eq_some_iff.1 (h.inst x hx)).1
        omega
    · obtain ⟨m, rfl⟩ : ∃ m, sn = m + 1 := ⟨sp0.length, by rw [HSN.out]; simp⟩
      have HM : Hid (m = sp0.length) := by have := HSN.out; simp at this; exact this
      obtain ⟨sb, cur, hs1, hs2, hs3, hs4, hs5, hs6⟩ : ∃ sb cur, sa = some ⟨sb, 0, none⟩ ∧ w.heap[sb]? = some (.cells cur 42 (0, 0)) ∧ m + 1 ≤ sc ∧ cur.size = sc ∧ cur.toList.take (m + 1) = (sp0 ++ [g]).map ptr ∧ sc ≤ maxLen := by
        rcases h.sm with ⟨h1, h2⟩ | ⟨sb, cap, cur, h1, h2, h3, h4, h5, h6⟩
        · simp at h2
        · simp only [Value.slice.injEq] at h1
          obtain ⟨rfl, h7, rfl⟩ := h1
          rw [← h7] at h3 h6
          exact ⟨sb, cur, rfl, h2, h3, h5, h6, h4⟩
      subst hs1
      have hce : w.cell? ⟨sb, m, none⟩ = some (.pointer (some ⟨g, 0, none⟩)) := by
        rw [cell_of_row w sb _ _ _ _ hs2]
        have := congrArg (·[m]?) hs5
        rw [HM.out] at this ⊢
        simpa [ptr, List.getElem?_take] using this
      have g1 : (0 : Int) ≤ (m : Int) := by omega
      have g2 : (m : Int) < ((m + 1 : Nat) : Int) := by omega
      have g3 : m ≤ sc := by omega
      have g4 : (m : Int) ≤ (sc : Int) := by omega
      go_wp2
      go_region
      go_wp2
      go_meet
      case rel =>
        have hsm' : Mine 42 w (.slice (some ⟨sb, 0, none⟩) m sc) (sp0.map ptr) := by
          refine .inr ⟨sb, sc, cur, by rw [List.length_map, HM.out], hs2, by rw [List.length_map, ← HM.out]; omega, hs6, hs4, ?_⟩
          have := congrArg (List.take m) hs5
          rw [List.take_take, Nat.min_eq_left (by omega)] at this
          rw [List.length_map, ← HM.out, this, HM.out]; simp
        obtain ⟨p1, ⟨a0, p2⟩, p3, p4, p5⟩ := h.pop _ hsm' h.sB
        have hk0 := setCell_kept w ⟨B, 16386, none⟩ (.slice (some ⟨sb, 0, none⟩) m sc)
        have hBne : ∀ g, (Value.slice ha1 hn1 hc1).ownBlock = some g → g ≠ B := fun g hg e => by
          subst e
          exact h.apart hm hg (hap g hg).2 (.inl rfl)
        refine ⟨⟨rfl, rfl, rfl, by simp [World.setCell], fun k hk => Below.heap_setCell _ _ _ _ (by have := h.bN; show k ≠ B; omega)⟩, g, _, sp0, a0, rfl, p1.kept (S := fun _ => False) (Kept.refl _ _).drew (fun _ h => h.elim), hm.of_block fun g' hg' => hk0.block g' (hm.lt g' hg') (hBne g' hg'), fun g' hg' => (hap g' hg').2, by simp, p2, p3, p4, p5⟩
  case rest =>
    obtain ⟨hbA, g, sv, sp1, a0, hv5, hR, hm1, hap1, hsl, hI, hgN, hg1, hg2⟩ := hcut
    unfold ptr at hv5
    subst hv5
    obtain ⟨i0, _, _, if0⟩ := hI.cells
    have if00 := if0 0
    go_upto_region 7 with fail
    have hI2 : IsI (wc.setCell ⟨g, 0, none⟩ (.int .i64 a)) g a := set_cells hI 0 _
    have hk2 := setCell_kept wc ⟨g, 0, none⟩ (.int .i64 a)
    have hR2 := hR.kept hk2 (fun k hk => by subst hk; exact hR.apartI hI hg1 hg2)
    have hm2 : Mine 42 (wc.setCell ⟨g, 0, none⟩ (.int .i64 a)) (.slice ha1 hn1 hc1) (hp.map fun x => ptr x.1) := hm1.of_block fun g' hg' => hk2.block g' (hm1.lt g' hg') (fun e => by
      simp only at e; subst e
      rcases hm1 with ⟨h1, _⟩ | ⟨g2, cap, cur, h1, h2, _⟩
      · rw [h1] at hg'; cases hg'
      · rw [h1] at hg'; simp only [Value.ownBlock, Option.some.injEq] at hg'; subst hg'
        rw [show wc.heap[g2]? = _ from hI] at h2; cases h2)
    have hb2' : Below N w (wc.setCell ⟨g, 0, none⟩ (.int .i64 a)) := hbA.trans (hk2.below (by have := hbA.size; omega) fun k e => by simp only at e; omega)
    obtain ⟨w2, hw2⟩ : ∃ w2, wc.setCell ⟨g, 0, none⟩ (.int .i64 a) = w2 := ⟨_, rfl⟩
    rw [hw2] at hI2 hR2 hm2 hb2' ⊢
    clear hw2 hk2 hI hR hm1 hbA i0 if0 if00 hm h c0 c1 c3 f0 f1 f3
    have hnl := fun (w : World) (r : Option Nat) => run_eql_map_nil (P := Try.prog) w 41 2 42 r Try.underlying41
    have hmm := @run_makeMap Try.prog
    obtain ⟨_, c1, _, _⟩ := hR2.cells
    have f1 := hR2.frozen 1
    go_upto_if 44 with fail
    go_cut [4] from 45 to 48 (fun _ w' => Mapped N w2 B (.slice ha1 hn1 hc1) sv hp sp1 f g a w')
    case first =>
      rcases hR2.map with ⟨hmo, rfl⟩ | ⟨mb, hmo, _, _⟩
      · simp only [Value.map.injEq] at hmo
        subst hmo
        have hlt := hR2.lt
        go_wp2
        go_meet
        case rel =>
          have hsz2 : N ≤ w2.heap.size := Nat.le_trans hN hb2'.size
          have hkk : Below N w2 ((w2.setCell ⟨B, 1, none⟩ (.map (some w2.heap.size))).alloc (.map #[] 0)) := ((setCell_kept w2 ⟨B, 1, none⟩ (.map (some w2.heap.size))).below hsz2 (fun k e => by simp only at e; have := hR2.bN; omega)).alloc (by simpa using hsz2) _
          refine ⟨hkk, w2.heap.size, hR2.mkMap hsz2, (hm2.of_block (w' := w2.setCell ⟨B, 1, none⟩ (.map (some w2.heap.size))) fun g' hg' => Below.heap_setCell _ _ _ _ (fun e => hR2.apart hm2 hg' (hap1 g' hg') (.inl e))).alloc _, (Below.heap_alloc _ _ _ ?_).trans ((Below.heap_setCell _ _ _ _ ?_).trans hI2)⟩
          · simpa using (Array.getElem?_eq_some_iff.1 hI2).1
          · obtain ⟨cs, h1, _⟩ := hR2.q
            exact obj_ne hI2 h1 (by simp)
      · simp only [Value.map.injEq] at hmo
        subst hmo
        go_wp2
        go_meet
        case rel => exact ⟨Below.refl _ _, mb, hR2, hm2, hI2⟩
    case rest =>
      obtain ⟨hb3, mb, hR3, hm3, hI3⟩ := hcut
      replace hb2' : Below N w wc := hb2'.trans hb3
      clear hb3 hR2 hm2 hI2 c1 f1 hnl hmm
      obtain ⟨c0, c1, _, _⟩ := hR3.cells
      obtain ⟨hmbN, hmap⟩ := hR3.isMap
      have hfn := hR3.fnone ha
      go_upto_region 10 with (at_mapUpdate; refine wpList_update rfl (.tmp 52) (.tmp 53) (.tmp 54) rfl rfl hmap a (ptr g) rfl rfl ?_; intro w4 hmap4 hk4)
      have hR4 := hR3.mapAdd hI3 hgN hg1 hg2 ha hmap4 (by rw [hfn]; rfl) hk4
      have c04 := hR4.cells.1
      have hm4 : Mine 42 w4 (.slice ha1 hn1 hc1) (hp.map fun x => ptr x.1) := hm3.of_block fun g' hg' => hk4.block g' (hm3.lt g' hg') (fun e => hR3.apart hm3 hg' (hap1 g' hg') (.inr (.inr (.inr (.inr (by rw [e]))))))
      have hb4 : Below N w w4 := hb2'.trans (hk4.below (by have := hb2'.size; omega) fun k e => by omega)
      clear hmap4 hk4 hb2' hR3 hm3 hI3 c0 c1 hmap hfn
      go_upto_region 11 with (at_builtin; refine wpList_append_mine _ rfl (.tmp 58) (.tmp 60) 40 rfl 42 (.pointer none) 8 Try.underlying40 info42 rfl (.slice ha1 hn1 hc1) _ rfl (hm4.alloc _) _ [ptr g] rfl (reads_one _ _ _) (fun u hu => by simp at hu; subst hu; rfl) (by rw [List.length_map]; simp; omega) (by omega) ?_; intro h5 w5 hm5 hk5 hat5)
      obtain ⟨l0, hl0⟩ : ∃ l0, hp ++ [(g, a)] = l0 := ⟨_, rfl⟩
      rw [hl0] at hR4
      rw [show (hp.map fun x => ptr x.1) ++ [ptr g] = l0.map fun x => ptr x.1 from by rw [← hl0]; simp] at hm5
      have hlen : l0.length = hp.length + 1 := by rw [← hl0]; simp
      obtain ⟨hb, n5, c5, rfl, hn5⟩ : ∃ hb n c, h5 = .slice (some ⟨hb, 0, none⟩) n c ∧ n = l0.length := by
        rcases hm5 with ⟨_, h1⟩ | ⟨hb, cap, cur, h1, _⟩
        · have := congrArg List.length h1; simp at this; rw [this] at hlen; simp at hlen
        · exact ⟨hb, _, _, h1, by simp⟩
      have hR5a := hR4.kept (S := fun _ => False) (w' := w4.alloc (.cells #[.pointer (some ⟨g, 0, none⟩)] 42)) ((Kept.refl _ _).alloc _) (fun _ h => h.elim)
      have hR5 := hR5a.kept hk5 (fun k hk => hR5a.apart (hm4.alloc _) hk.symm (hap1 k hk.symm))
      have hb5 : Below N w w5 := (hb4.alloc (by have := hb4.size; omega) _).trans (hk5.below (by have := hb4.size; simp; omega) fun k e => (hap k e.symm).1)
      have hhb : N ≤ hb ∧ sv.ownBlock ≠ some hb := by
        rcases hat5 with e | e
        · exact ⟨(hap hb e.symm).1, hap1 hb e.symm⟩
        · simp only [Value.ownBlock, Option.some.injEq] at e
          have h1 := hb4.size
          rw [World.size_alloc] at e
          refine ⟨by omega, fun e' => ?_⟩
          have := hR4.sm.lt hb e'
          omega
      have hcur : ∃ cur, w5.heap[hb]? = some (.cells cur 42 (0, 0)) := by
        rcases hm5 with ⟨h1, _⟩ | ⟨g', cap, cur, h1, h2, _⟩
        · cases h1
        · simp only [Value.slice.injEq, Option.some.injEq, Addr.mk.injEq] at h1
          obtain ⟨⟨rfl, _⟩, _⟩ := h1
          exact ⟨cur, h2⟩
      have hup : Up (ky l0) l0.length hp.length := by
        have hky : ∀ j, j < hp.length → ky l0 j = ky hp j := fun j hj => by rw [← hl0]; simp [ky, List.getD_eq_getElem?_getD, List.getElem?_append_left hj]
        refine ⟨by omega, fun j h0 hj hne => ?_, fun h0 j hj0 hj hjp => by omega⟩
        rw [hky j (by omega), hky _ (by omega)]
        exact hheap j h0 (by omega)
      have hRk : ∀ wr, Kept (fun b => b = hb) w5 wr → QR N wr B (.slice ha1 hn1 hc1) (.map (some mb)) sv l0 sp1 _ := fun wr hk => hR5.kept hk (fun k e => by subst e; exact hR5.apart hm5 rfl hhb.2)
      have hN5 : N ≤ w5.heap.size := Nat.le_trans hN hb5.size
      have h0rel : ALoop hb n5 c5 w5 l0 hp.length l0 w5 := ⟨Kept.refl _ _, hm5, List.Perm.refl _, hup⟩
      have HN5 : Hid (n5 = l0.length) := hn5
      have HLEN : Hid (l0.length = hp.length + 1) := hlen
      have HL0 : Hid (hp ++ [(g, a)] = l0) := hl0
      obtain ⟨m5, hm5n⟩ : ∃ m, m = hp.length := ⟨_, rfl⟩
      have hn5m : n5 = m5 + 1 := by omega
      subst hn5m
      have HM5 : Hid (m5 = hp.length) := hm5n
      rw [← hm5n] at h0rel
      have hm5b : m5 ≤ 100000 := by omega
      clear hm5n hn5 hlen hl0 hup hm5 hk5 hat5 hR5a hR4 hm4 hb4 c04 hheap
      go_wp2
      go_loopw [8] (fun i wr => ∃ (k : Nat) (l : List Elt), i = .int .i64 k ∧ ALoop hb (m5 + 1) c5 w5 l0 k l wr) (fun i _ => (intOf i).toNat)
      case atStart => exact ⟨m5, l0, by go_num, h0rel⟩
      case round =>
        clear h0rel
        obtain ⟨k, l, rfl, hkw, hml, hpl, hul⟩ := hrel
        have hll : l.length = m5 + 1 := by rw [hpl.length_eq, HLEN.out, HM5.out]
        have hkm : k ≤ m5 := by have := hul.lt; omega
        have HLL : Hid (l.length = m5 + 1) := hll
        by_cases hk0 : 0 < k
        · obtain ⟨p, hp'⟩ : ∃ p, p = (k - 1) / 2 := ⟨_, rfl⟩
          have hpk : p < k := by omega
          obtain ⟨e1, i1⟩ := inst_at hR5 hkw hcur hml hpl (j := k) (by omega)
          obtain ⟨e2, i2⟩ := inst_at hR5 hkw hcur hml hpl (j := p) (by omega)
          have d1 := i1.cells.1
          have d2 := i2.cells.1
          have hq : Int.tdiv ((k : Int) - 1) 2 = (p : Int) := by
            rw [hp', Int.tdiv_eq_ediv_of_nonneg (by omega)]; omega
          have HP : Hid (p = (k - 1) / 2) := hp'
          have g1 : (0 : Int) ≤ (k : Int) := by omega
          have g2 : (k : Int) < ((m5 + 1 : Nat) : Int) := by omega
          have g3 : (0 : Int) ≤ (p : Int) := by omega
          have g4 : (p : Int) < ((m5 + 1 : Nat) : Int) := by omega
          obtain ⟨x1, hx1⟩ : ∃ x, (l.getD k dE).1 = x := ⟨_, rfl⟩
          obtain ⟨x2, hx2⟩ : ∃ x, (l.getD p dE).1 = x := ⟨_, rfl⟩
          obtain ⟨y1, hy1⟩ : ∃ x, ky l k = x := ⟨_, rfl⟩
          obtain ⟨y2, hy2⟩ : ∃ x, ky l p = x := ⟨_, rfl⟩
          rw [hx1] at e1 d1
          rw [hx2] at e2 d2
          rw [hy1] at d1
          rw [hy2] at d2
          clear hp' hll
          have hRw := hRk wr hkw
          obtain ⟨c0, _, _, _⟩ := hRw.cells
          have f0 := hRw.frozen 0
          by_cases hlt : y2 < y1
          · go_wp2
            go_quiet (fail)
            go_wp2
            go_ret
            have hRd := hRk (wr.drewN nq) (hkw.drewN nq)
            exact add_done hN5 hb5 hRd (hkw.drewN nq) hml hpl (hul.done (.inr (by rw [← HP.out, hy1, hy2]; exact hlt))) hhb HL0.out hsl
          · clear c0 f0 hRw
            have fr1 := hml.fro k
            have fr2 := hml.fro p
            go_wp2
            go_quiet (fail)
            go_wp2
            go_region
            go_wp2
            go_roundw
            case rel =>
              have hll := HLL.out
              have hkl : k < l.length := by omega
              have hpl' : p < l.length := by omega
              have hne : y1 ≠ y2 := fun e => by
                have hnd := (hpl.map (fun x : Elt => x.2)).nodup_iff.2 hR5.ats
                have := List.pairwise_iff_getElem.1 hnd p k (by simpa using hpl') (by simpa using hkl) hpk
                simp only [List.getElem_map] at this
                rw [← hy1, ← hy2] at e
                apply this
                simp only [ky, List.getD_eq_getElem?_getD, List.getElem?_eq_getElem hkl, List.getElem?_eq_getElem hpl', Option.getD_some] at e
                exact e.symm
              refine ⟨p, sw l k p, rfl, (hkw.drewN (nq + 1)).trans (kept_swap _ _ _ _ _ _), ?_, (sw_perm hkl hpl').trans hpl, ?_⟩
              · rw [← hx1, ← hx2]
                exact Mine.swap (w := wr.drewN (nq + 1)) hml
              · rw [ky_sw hkl hpl', sw_len]
                have := hul.step hk0 (by rw [← HP.out, hy1, hy2]; omega)
                rw [← HP.out] at this
                exact this
            case measure => simp [intOf]; omega
        · obtain rfl : k = 0 := by omega
          have hRw := hRk wr hkw
          obtain ⟨c0, _, _, _⟩ := hRw.cells
          have f0 := hRw.frozen 0
          go_wp2
          go_ret
          exact add_done hN5 hb5 hRw hkw hml hpl (hul.done (.inl rfl)) hhb HL0.out hsl
end Go.Proofs.Qxb6617448a
