/- The script's steps opened (seat b6617448a). -/
import Derived.Test.Qxb6617448aOpen
import Derived.Test.Qxb6617448aMain4
namespace Go.Proofs.Qxb6617448a
open Go.ChangeShapes Go.WideShapes Go.ChangeAt Go.RowKit Go.Deep Go.Joins

section
variable {H : Type} {enc : TypeId × Value → H} {w : World} {held : Bool}

theorem cells35 : Try.prog.cellsOf 35 = 2 := by kernel_rfl
theorem cells4 : Try.prog.cellsOf 4 = 1 := by kernel_rfl

/-- One cell out of a struct's. -/
theorem one_of {l : List Value} {o : Nat} {v : Value} (h : (l.drop o).take 1 = [v]) : l[o]? = some v := by
  have := congrArg (·[0]?) h
  simpa using this

theorem choose_list {α : Type} (p : Nat → α → Prop) : ∀ n, (∀ i, i < n → ∃ a, p i a) → ∃ l : List α, l.length = n ∧ ∀ i (h : i < l.length), p i l[i]
  | 0, _ => ⟨[], rfl, fun i h => by simp at h⟩
  | n + 1, h => by
    obtain ⟨l, hl, hp⟩ := choose_list p n fun i hi => h i (by omega)
    obtain ⟨a, ha⟩ := h n (by omega)
    refine ⟨l ++ [a], by simp [hl], fun i hi => ?_⟩
    by_cases hi' : i < l.length
    · rw [List.getElem_append_left hi']; exact hp i hi'
    · simp at hi
      have : i = l.length := by omega
      subst this
      simp; rwa [hl]

theorem openOps {n : Nat} {cs : List Value} {x : DataW H × List MemPlace} (h : DataW.trod enc Try.prog w 0 (fun _ => true) held n 32 cs = some x) : ∃ v os, cs = [v] ∧ OpsIn w v os := by
  rcases open_slice Try.underlying32 h with ⟨hcs, _⟩ | ⟨a, l, c, m, n, D, Pl, hcs, _, hl, hm, hmm, _, hx⟩
  · exact ⟨_, [], hcs, none, 0, rfl, fun i hi => by simp at hi⟩
  · simp at hmm
    subst hmm
    obtain ⟨b, off, spot⟩ := a
    by_cases hl0 : l = 0
    · subst hl0
      exact ⟨_, [], hcs, _, m, rfl, fun i hi => by simp at hi⟩
    have hspot : spot = none := by
      obtain ⟨cs', h1, _⟩ := hx 0 (by omega)
      obtain ⟨_, hlen, hc⟩ := World.cells?_some h1
      rw [cells35] at hlen hc
      have := hc 0 (by omega)
      rw [List.getElem?_eq_getElem (by omega)] at this
      simpa [Addr.add] using World.cell?_spot this
    subst hspot
    obtain ⟨os, hos, hE⟩ := choose_list (fun i (p : Int × Bool) => w.cell? ⟨b, off + i * 2, none⟩ = some (.int .i64 p.1) ∧ w.cell? ⟨b, off + i * 2 + 1, none⟩ = some (.bool p.2)) l fun i hi => by
      obtain ⟨cs', h1, h2⟩ := hx i (by omega)
      obtain ⟨_, hlen, hc⟩ := World.cells?_some h1
      rw [cells35] at hlen hc
      obtain ⟨y0, y1, n', _, _, t0, t1⟩ := trod_struct2 Try.underlying35 h2
      obtain ⟨z0, hz0, _, _⟩ := DataW.trod_int Try.underlying2 t0
      obtain ⟨z1, hz1, _⟩ := DataW.trod_bool Try.underlying4 t1
      rw [cells2] at hz0
      rw [cells4] at hz1
      have e0 := one_of (o := 0) hz0
      have e1 := one_of (o := 1) hz1
      have hc' : ∀ j, j < 2 → w.cell? ⟨b, off + i * 2 + j, none⟩ = cs'[j]? := fun j hj => by
        have := hc j hj
        rw [Addr.add_lit, Addr.add_lit] at this
        exact this
      exact ⟨(z0, z1), (hc' 0 (by omega)).trans e0, (hc' 1 (by omega)).trans e1⟩
    refine ⟨_, os, hcs, some ⟨b, off, none⟩, m, by rw [hos], fun i hi => ⟨b, off, rfl, ?_⟩⟩
    have := hE i hi
    simpa [List.getD_eq_getElem?_getD, hi] using this
end
end Go.Proofs.Qxb6617448a
