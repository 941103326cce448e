/- The arguments opened (seat b6619367a). -/
import Derived.Test.Qxb6619367aJoin
import Derived.ProofKit
import Derived.OpenShut
import Derived.ShutString
import Derived.ChangeOld
import Derived.Below
import Derived.Deep.Slices
import Derived.Lib.SmallJoins
namespace Go.Proofs.Qxb6619367a
open Go.ChangeShapes Go.WideShapes Go.ChangeAt Go.RowKit Go.Deep Go.Joins

section
variable {H : Type} {enc : TypeId × Value → H} {w : World} {held : Bool}

theorem cells9 : Try.prog.cellsOf 9 = 1 := by kernel_rfl
theorem cells22 : Try.prog.cellsOf 22 = 1 := by kernel_rfl

theorem choose_list {α : Type} (p : Nat → α → Prop) : ∀ n, (∀ i, i < n → ∃ a, p i a) → ∃ l : List α, l.length = n ∧ ∀ i (h : i < l.length), p i l[i]
  | 0, _ => ⟨[], rfl, fun i h => by simp at h⟩
  | n + 1, h => by
    obtain ⟨l, hl, hp⟩ := choose_list p n fun i hi => h i (by omega)
    obtain ⟨a, ha⟩ := h n (by omega)
    refine ⟨l ++ [a], by simp [hl], fun i hi => ?_⟩
    by_cases hi' : i < l.length
    · rw [List.getElem_append_left hi']; exact hp i hi'
    · simp at hi
      have : i = l.length := by omega
      subst this
      simp; rwa [hl]

/-- A row of one-cell elements that came in. -/
theorem openRow {n : Nat} {t e : TypeId} {cs : List Value} {x : DataW H × List MemPlace} (ht : Try.prog.underlying t = some (.slice e)) (he : Try.prog.cellsOf e = 1) (h : DataW.trod enc Try.prog w 0 (fun _ => true) held n t cs = some x) :
    ∃ v xs, cs = [v] ∧ Reads w v xs ∧ ∀ u ∈ xs, ∃ n y, DataW.trod enc Try.prog w 0 (fun _ => true) held n e [u] = some y := by
  rcases open_slice ht h with ⟨hcs, _⟩ | ⟨a, l, c, m, n, D, Pl, hcs, _, hl, hm, hmm, _, hx⟩
  · exact ⟨_, [], hcs, .inl ⟨rfl, rfl⟩, fun e he => by simp at he⟩
  · simp at hmm
    subst hmm
    obtain ⟨b, off, spot⟩ := a
    by_cases hl0 : l = 0
    · subst hl0
      exact ⟨_, [], hcs, .inr ⟨_, m, rfl, by simp, fun h => absurd rfl h⟩, fun e he => by simp at he⟩
    have hspot : spot = none := by
      obtain ⟨cs', h1, _⟩ := hx 0 (by omega)
      obtain ⟨_, hlen, hc⟩ := World.cells?_some h1
      rw [he] at hlen hc
      have := hc 0 (by omega)
      rw [List.getElem?_eq_getElem (by omega)] at this
      simpa [Addr.add] using World.cell?_spot this
    subst hspot
    obtain ⟨us, hus, hE⟩ := choose_list (fun i u => w.cell? ⟨b, off + i, none⟩ = some u ∧ ∃ n y, DataW.trod enc Try.prog w 0 (fun _ => true) held n e [u] = some y) l fun i hi => by
      obtain ⟨cs', h1, h2⟩ := hx i (by omega)
      obtain ⟨_, hlen, hc⟩ := World.cells?_some h1
      rw [he] at hlen hc
      match cs', hlen with
      | [u], _ =>
        have := hc 0 (by omega)
        rw [Addr.add_lit, Addr.add_lit] at this
        simp only [Nat.mul_one, Nat.add_zero, List.getElem?_cons_zero] at this
        exact ⟨u, this, _, _, h2⟩
    refine ⟨_, us, hcs, .inr ⟨⟨b, off, none⟩, m, by rw [hus], by omega, fun _ => ⟨b, off, rfl, fun i hi => (hE i hi).1⟩⟩, fun u hu => ?_⟩
    obtain ⟨i, hi, rfl⟩ := List.getElem_of_mem hu
    exact (hE i hi).2

theorem list_of {α β : Type} (f : α → β) : ∀ xs : List β, (∀ u ∈ xs, ∃ a, u = f a) → ∃ l : List α, xs = l.map f
  | [], _ => ⟨[], rfl⟩
  | u :: xs, h => by
    obtain ⟨a, ha⟩ := h u (.head _)
    obtain ⟨l, hl⟩ := list_of f xs fun u hu => h u (.tail _ hu)
    exact ⟨a :: l, by rw [ha, hl]; rfl⟩

/-- Strings that came in. -/
theorem openStrs {n : Nat} {cs : List Value} {x : DataW H × List MemPlace} (h : DataW.trod enc Try.prog w 0 (fun _ => true) held n 22 cs = some x) : ∃ v ss, cs = [v] ∧ Reads w v (strs ss) := by
  obtain ⟨v, xs, hcs, hr, hall⟩ := openRow Try.underlying22 cells9 h
  obtain ⟨l, rfl⟩ := list_of Value.string xs fun u hu => by
    obtain ⟨n, y, hy⟩ := hall u hu
    obtain ⟨s, hs, _⟩ := DataW.trod_string Try.underlying9 hy
    simp at hs
    exact ⟨s, hs⟩
  exact ⟨v, l, hcs, hr⟩

/-- Lists of strings that came in. -/
theorem openLists {n : Nat} {cs : List Value} {x : DataW H × List MemPlace} (h : DataW.trod enc Try.prog w 0 (fun _ => true) held n 23 cs = some x) : ∃ v vs, cs = [v] ∧ VAt (fun _ => True) w v vs := by
  obtain ⟨v, xs, hcs, hr, hall⟩ := openRow Try.underlying23 cells22 h
  obtain ⟨vs, hvs, hE⟩ := choose_list (fun i ss => Reads w (xs.getD i (.slice none 0 0)) (strs ss)) xs.length fun i hi => by
    obtain ⟨n, y, hy⟩ := hall xs[i] (List.getElem_mem hi)
    obtain ⟨v', ss, hv', hr'⟩ := openStrs hy
    simp at hv'
    exact ⟨ss, by simp [List.getD_eq_getElem?_getD, hi]; rw [hv']; exact hr'⟩
  refine ⟨v, vs, hcs, xs, hr, fun _ _ _ => trivial, hvs.symm, fun i hi => ⟨?_, fun _ _ _ => trivial⟩⟩
  have := hE i hi
  simpa [List.getD_eq_getElem?_getD, hi] using this
end
end Go.Proofs.Qxb6619367a
