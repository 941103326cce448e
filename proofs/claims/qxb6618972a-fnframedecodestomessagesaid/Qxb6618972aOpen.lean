import Derived.Test.Qxb6618972aBuild
import Derived.ProofKit
import Derived.OpenShut
import Derived.ShutString
import Derived.ChangeOld
import Derived.Below
import Derived.Deep.Slices
import Derived.Lib.SmallJoins
namespace Go.Proofs.Qxb6618972a
open Go.ChangeShapes Go.WideShapes Go.ChangeAt Go.RowKit Go.Deep Go.Joins

section
variable {H : Type} {enc : TypeId × Value → H} {w : World} {spare : Nat → Bool} {held : Bool}

theorem wf_u64 {z : Int} (h : (Lit.int .u64 z).wf = true) : ∃ k : Nat, z = (k : Int) ∧ k < 18446744073709551616 := by
  simp [Lit.wf, IntKind.min, IntKind.max, IntKind.signed, IntKind.bits] at h
  exact ⟨z.toNat, by omega, by omega⟩
theorem wf_u8 {z : Int} (h : (Lit.int .u8 z).wf = true) : ∃ k : Nat, z = (k : Int) ∧ k < 256 := by
  simp [Lit.wf, IntKind.min, IntKind.max, IntKind.signed, IntKind.bits] at h
  exact ⟨z.toNat, by omega, by omega⟩

/-- One cell out of a struct's. -/
theorem one_of {l : List Value} {o : Nat} {v : Value} (h : (l.drop o).take 1 = [v]) : l[o]? = some v := by
  have := congrArg (·[0]?) h
  simpa using this

theorem cells5 : Try.prog.cellsOf 5 = 1 := by kernel_rfl
theorem cells34 : Try.prog.cellsOf 34 = 1 := by kernel_rfl
theorem cells4 : Try.prog.cellsOf 4 = 1 := by kernel_rfl
theorem cells22 : Try.prog.cellsOf 22 = 1 := by kernel_rfl
theorem cells46 : Try.prog.cellsOf 46 = 1 := by kernel_rfl
theorem cells51 : Try.prog.cellsOf 51 = 4 := by kernel_rfl
theorem cells48 : Try.prog.cellsOf 48 = 20 := by kernel_rfl

theorem fld8 {n o : Nat} {l : List Value} {xs : Option (DataW H × List MemPlace)} (h : DataW.trod enc Try.prog w 0 spare held n 5 ((l.drop o).take (Try.prog.cellsOf 5)) = xs) (hx : ∃ y, xs = some y) : ∃ k : Nat, l[o]? = some (.int .u8 k) ∧ k < 256 := by
  obtain ⟨y, rfl⟩ := hx
  obtain ⟨z, hz, _, hw⟩ := DataW.trod_int Try.underlying5 h
  rw [cells5] at hz
  obtain ⟨k, rfl, hk⟩ := wf_u8 hw
  exact ⟨k, one_of hz, hk⟩
theorem fld64 {n o : Nat} {l : List Value} {xs : Option (DataW H × List MemPlace)} (h : DataW.trod enc Try.prog w 0 spare held n 34 ((l.drop o).take (Try.prog.cellsOf 34)) = xs) (hx : ∃ y, xs = some y) : ∃ k : Nat, l[o]? = some (.int .u64 k) ∧ k < 18446744073709551616 := by
  obtain ⟨y, rfl⟩ := hx
  obtain ⟨z, hz, _, hw⟩ := DataW.trod_int Try.underlying34 h
  rw [cells34] at hz
  obtain ⟨k, rfl, hk⟩ := wf_u64 hw
  exact ⟨k, one_of hz, hk⟩
theorem fldb {n o : Nat} {l : List Value} {xs : Option (DataW H × List MemPlace)} (h : DataW.trod enc Try.prog w 0 spare held n 4 ((l.drop o).take (Try.prog.cellsOf 4)) = xs) (hx : ∃ y, xs = some y) : ∃ b : Bool, l[o]? = some (.bool b) := by
  obtain ⟨y, rfl⟩ := hx
  obtain ⟨z, hz, _⟩ := DataW.trod_bool Try.underlying4 h
  rw [cells4] at hz
  exact ⟨z, one_of hz⟩

/-- Bytes that came in. -/
theorem openBytes {n : Nat} {cs : List Value} {x : DataW H × List MemPlace} (h : DataW.trod enc Try.prog w 0 (fun _ => true) held n 22 cs = some x) : ∃ v ds, cs = [v] ∧ Reads w v (byts ds) := by
  rcases open_ints Try.underlying22 Try.underlying5 cells5 h with ⟨hcs, _⟩ | ⟨a, l, c, zs, hcs, _, hl, hm, hz, _, hcell, _⟩
  · exact ⟨_, [], hcs, .inl ⟨rfl, rfl⟩⟩
  · simp at hz
    have hlen : (byts (zs.take l)).length = l := by rw [byts_len, List.length_take]; omega
    refine ⟨_, zs.take l, hcs, .inr ⟨a, c, by rw [hlen], by omega, fun hne => ?_⟩⟩
    have hl0 : 0 < l := by
      rcases Nat.eq_zero_or_pos l with h | h
      · subst h; simp [byts] at hne
      · exact h
    obtain ⟨b, off, spot⟩ := a
    have hspot : spot = none := by simpa [Addr.add] using World.cell?_spot (hcell 0 (by omega))
    subst hspot
    refine ⟨b, off, rfl, fun i hi => ?_⟩
    rw [hlen] at hi
    have := hcell i (by omega)
    rw [Addr.add_lit] at this
    rw [this]
    simp [byts, List.getD_eq_getElem?_getD, List.getElem?_eq_getElem (show i < zs.length by omega)]

theorem fldS {n o : Nat} {l : List Value} {xs : Option (DataW H × List MemPlace)} (h : DataW.trod enc Try.prog w 0 (fun _ => true) held n 22 ((l.drop o).take (Try.prog.cellsOf 22)) = xs) (hx : ∃ y, xs = some y) : ∃ v ds, l[o]? = some v ∧ Reads w v (byts ds) := by
  obtain ⟨y, rfl⟩ := hx
  obtain ⟨v, ds, hv, hr⟩ := openBytes h
  rw [cells22] at hv
  exact ⟨v, ds, one_of hv, hr⟩

theorem choose_list {α : Type} (p : Nat → α → Prop) : ∀ n, (∀ i, i < n → ∃ a, p i a) → ∃ l : List α, l.length = n ∧ ∀ i (h : i < l.length), p i l[i]
  | 0, _ => ⟨[], rfl, fun i h => by simp at h⟩
  | n + 1, h => by
    obtain ⟨l, hl, hp⟩ := choose_list p n fun i hi => h i (by omega)
    obtain ⟨a, ha⟩ := h n (by omega)
    refine ⟨l ++ [a], by simp [hl], fun i hi => ?_⟩
    by_cases hi' : i < l.length
    · rw [List.getElem_append_left hi']; exact hp i hi'
    · simp at hi
      have : i = l.length := by omega
      subst this
      simp; rwa [hl]

/-- One entry that came in. -/
def EntAt (w : World) (g o i : Nat) (e : Entry4) : Prop := ∃ dv, w.cell? ⟨g, o + i * 4, none⟩ = some (.int .u64 e.ix) ∧ w.cell? ⟨g, o + i * 4 + 1, none⟩ = some (.int .u64 e.t) ∧ w.cell? ⟨g, o + i * 4 + 2, none⟩ = some (.int .u8 e.kind) ∧ w.cell? ⟨g, o + i * 4 + 3, none⟩ = some dv ∧
    Reads w dv (byts e.data) ∧ e.ix < 18446744073709551616 ∧ e.t < 18446744073709551616

set_option maxRecDepth 20000 in
theorem openEnts {n : Nat} {cs : List Value} {x : DataW H × List MemPlace} (h : DataW.trod enc Try.prog w 0 (fun _ => true) held n 46 cs = some x) : ∃ v es, cs = [v] ∧ EIn w v es ∧ ∀ e ∈ es, e.ix < 18446744073709551616 ∧ e.t < 18446744073709551616 := by
  rcases open_slice Try.underlying46 h with ⟨hcs, _⟩ | ⟨a, l, c, m, n, D, Pl, hcs, _, hl, hm, hmm, _, hx⟩
  · exact ⟨_, [], hcs, ⟨none, 0, rfl, fun _ => rfl, fun i hi => by simp at hi⟩, fun e he => by simp at he⟩
  · simp at hmm
    subst hmm
    obtain ⟨b, off, spot⟩ := a
    by_cases hl0 : l = 0
    · subst hl0
      exact ⟨_, [], hcs, ⟨_, m, rfl, fun h => (Option.some_ne_none _ h).elim, fun i hi => by simp at hi⟩, fun e he => by simp at he⟩
    have hspot : spot = none := by
      obtain ⟨cs', h1, _⟩ := hx 0 (by omega)
      obtain ⟨_, hlen, hc⟩ := World.cells?_some h1
      rw [cells51] at hlen hc
      have := hc 0 (by omega)
      rw [List.getElem?_eq_getElem (by omega)] at this
      simpa [Addr.add] using World.cell?_spot this
    subst hspot
    obtain ⟨es, hes, hE⟩ := choose_list (EntAt w b off) l fun i hi => by
      obtain ⟨cs', h1, h2⟩ := hx i (by omega)
      obtain ⟨_, hlen, hc⟩ := World.cells?_some h1
      rw [cells51] at hlen hc
      obtain ⟨y0, y1, y2, y3, n', _, _, t0, t1, t2, t3⟩ := trod_struct4 Try.underlying51 h2
      obtain ⟨k0, e0, b0⟩ := fld64 (o := 0) t0 ⟨_, rfl⟩
      obtain ⟨k1, e1, b1⟩ := fld64 (o := 1) t1 ⟨_, rfl⟩
      obtain ⟨k2, e2, b2⟩ := fld8 (o := 2) t2 ⟨_, rfl⟩
      obtain ⟨dv, ds, e3, hr⟩ := fldS (o := 3) t3 ⟨_, rfl⟩
      have hc' : ∀ j, j < 4 → w.cell? ⟨b, off + i * 4 + j, none⟩ = cs'[j]? := fun j hj => by
        have := hc j hj
        rw [Addr.add_lit, Addr.add_lit] at this
        exact this
      exact ⟨⟨k0, k1, k2, ds⟩, dv, (hc' 0 (by omega)).trans e0, (hc' 1 (by omega)).trans e1, (hc' 2 (by omega)).trans e2, (hc' 3 (by omega)).trans e3, hr, b0, b1⟩
    refine ⟨_, es, hcs, ⟨some ⟨b, off, none⟩, m, by rw [hes], fun h => (Option.some_ne_none _ h).elim, fun i hi => ?_⟩, fun e he => ?_⟩
    · obtain ⟨dv, e0, e1, e2, e3, hr, _⟩ := hE i hi
      exact ⟨b, off, dv, rfl, e0, e1, e2, e3, hr⟩
    · obtain ⟨i, hi, rfl⟩ := List.getElem_of_mem he
      obtain ⟨dv, _, _, _, _, _, b0, b1⟩ := hE i hi
      exact ⟨b0, b1⟩

theorem fldE {n o : Nat} {l : List Value} {xs : Option (DataW H × List MemPlace)} (h : DataW.trod enc Try.prog w 0 (fun _ => true) held n 46 ((l.drop o).take (Try.prog.cellsOf 46)) = xs) (hx : ∃ y, xs = some y) : ∃ v es, l[o]? = some v ∧ EIn w v es ∧ ∀ e ∈ es, e.ix < 18446744073709551616 ∧ e.t < 18446744073709551616 := by
  obtain ⟨y, rfl⟩ := hx
  obtain ⟨v, es, hv, hr⟩ := openEnts h
  rw [cells46] at hv
  exact ⟨v, es, one_of hv, hr⟩

set_option maxRecDepth 20000 in
set_option maxHeartbeats 1000000 in
/-- A message that came in. -/
theorem openMsg {r : Reach} {b0 : Nat} {v : Value} {d : DataW H} {p : List MemPlace} (hv : Value.okWide Try.prog w r b0 48 v) (h : DataW.Trod enc Try.prog w 0 (fun _ => true) held 48 v d p) :
    ∃ m ve dv, v = .agg (mcells m ve dv) ∧ MNum m ∧ EIn w ve m.es ∧ Reads w dv (byts m.data) := by
  obtain ⟨cs, rfl, hsz⟩ := okWide_struct Try.underlying48 hv
  rw [cells48] at hsz
  obtain ⟨fuel, hf⟩ := h
  obtain ⟨xs, n, _, _, _, hlen, hfd⟩ := DataW.trod_struct Try.underlying48 hf
  have hlen' : xs.length = 20 := hlen
  have hx : ∀ i, i < 20 → ∃ y, xs[i]? = some y := fun i hi => ⟨_, List.getElem?_eq_getElem (by omega)⟩
  obtain ⟨a0, e0, b0⟩ := fld8 (o := 0) (hfd 0 _ rfl) (hx 0 (by omega))
  obtain ⟨a1, e1, b1⟩ := fld64 (o := 1) (hfd 1 _ rfl) (hx 1 (by omega))
  obtain ⟨a2, e2, b2⟩ := fld64 (o := 2) (hfd 2 _ rfl) (hx 2 (by omega))
  obtain ⟨a3, e3, b3⟩ := fld64 (o := 3) (hfd 3 _ rfl) (hx 3 (by omega))
  obtain ⟨a4, e4, b4⟩ := fld64 (o := 4) (hfd 4 _ rfl) (hx 4 (by omega))
  obtain ⟨a5, e5, b5⟩ := fld64 (o := 5) (hfd 5 _ rfl) (hx 5 (by omega))
  obtain ⟨a6, e6, b6⟩ := fld64 (o := 6) (hfd 6 _ rfl) (hx 6 (by omega))
  obtain ⟨a7, e7⟩ := fldb (o := 7) (hfd 7 _ rfl) (hx 7 (by omega))
  obtain ⟨a8, e8⟩ := fldb (o := 8) (hfd 8 _ rfl) (hx 8 (by omega))
  obtain ⟨a9, e9⟩ := fldb (o := 9) (hfd 9 _ rfl) (hx 9 (by omega))
  obtain ⟨a10, e10, b10⟩ := fld64 (o := 10) (hfd 10 _ rfl) (hx 10 (by omega))
  obtain ⟨a11, e11, b11⟩ := fld64 (o := 11) (hfd 11 _ rfl) (hx 11 (by omega))
  obtain ⟨ve, es, e12, hE, bE⟩ := fldE (o := 12) (hfd 12 _ rfl) (hx 12 (by omega))
  obtain ⟨a13, e13, b13⟩ := fld64 (o := 13) (hfd 13 _ rfl) (hx 13 (by omega))
  obtain ⟨a14, e14, b14⟩ := fld64 (o := 14) (hfd 14 _ rfl) (hx 14 (by omega))
  obtain ⟨a15, e15⟩ := fldb (o := 15) (hfd 15 _ rfl) (hx 15 (by omega))
  obtain ⟨a16, e16, b16⟩ := fld64 (o := 16) (hfd 16 _ rfl) (hx 16 (by omega))
  obtain ⟨a17, e17, b17⟩ := fld64 (o := 17) (hfd 17 _ rfl) (hx 17 (by omega))
  obtain ⟨dv, ds, e18, hD⟩ := fldS (o := 18) (hfd 18 _ rfl) (hx 18 (by omega))
  obtain ⟨a19, e19⟩ := fldb (o := 19) (hfd 19 _ rfl) (hx 19 (by omega))
  refine ⟨⟨a0, a1, a2, a3, a4, a5, a6, a7, a8, a9, a10, a11, es, a13, a14, a15, a16, a17, ds, a19⟩, ve, dv, ?_, ⟨b0, b1, b2, b3, b4, b5, b6, b10, b11, b13, b14, b16, b17, bE⟩, hE, hD⟩
  clear hfd hx hlen hlen' hf hv
  obtain ⟨l⟩ := cs
  match l, hsz with
  | [c0, c1, c2, c3, c4, c5, c6, c7, c8, c9, c10, c11, c12, c13, c14, c15, c16, c17, c18, c19], _ =>
    simp only [Value.cells, List.getElem?_cons_zero, List.getElem?_cons_succ, Option.some.injEq] at e0 e1 e2 e3 e4 e5 e6 e7 e8 e9 e10 e11 e12 e13 e14 e15 e16 e17 e18 e19
    subst e0 e1 e2 e3 e4 e5 e6 e7 e8 e9 e10 e11 e12 e13 e14 e15 e16 e17 e18 e19
    rfl
end
end Go.Proofs.Qxb6618972a
