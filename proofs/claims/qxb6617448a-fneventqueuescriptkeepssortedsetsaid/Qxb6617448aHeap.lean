/- Heaps, without Go: sift up, sift down; a list's swap (seat b6617448a). -/
import Derived.Test.Qxb6617448aBase
namespace Go.Proofs.Qxb6617448a

def HeapF (K : Nat → Int) (n : Nat) : Prop := ∀ j, 0 < j → j < n → K ((j - 1) / 2) < K j
def swapF (K : Nat → Int) (i p : Nat) : Nat → Int := fun j => if j = i then K p else if j = p then K i else K j
theorem swapF_i (K : Nat → Int) (i p : Nat) : swapF K i p i = K p := by simp [swapF]
theorem swapF_p (K : Nat → Int) (i p : Nat) : swapF K i p p = K i := by unfold swapF; split <;> simp_all
theorem swapF_ne (K : Nat → Int) {i p j : Nat} (h1 : j ≠ i) (h2 : j ≠ p) : swapF K i p j = K j := by simp [swapF, h1, h2]

theorem HeapF.min {K : Nat → Int} {n : Nat} (h : HeapF K n) : ∀ j, j < n → K 0 ≤ K j := by
  intro j
  induction j using Nat.strongRecOn with
  | ind j ih =>
    intro hj
    rcases Nat.eq_zero_or_pos j with rfl | h0
    · exact Int.le_refl _
    · have h1 := h j h0 hj
      have h2 := ih ((j - 1) / 2) (by omega) (by omega)
      omega

/-- All is in order but, perhaps, at i against its parent. -/
structure Up (K : Nat → Int) (n i : Nat) : Prop where
  lt : i < n
  ok : ∀ j, 0 < j → j < n → j ≠ i → K ((j - 1) / 2) < K j
  ch : 0 < i → ∀ j, 0 < j → j < n → (j - 1) / 2 = i → K ((i - 1) / 2) < K j

theorem Up.done {K : Nat → Int} {n i : Nat} (h : Up K n i) (hd : i = 0 ∨ K ((i - 1) / 2) < K i) : HeapF K n := by
  intro j h0 hj
  by_cases e : j = i
  · subst e
    rcases hd with e | e
    · omega
    · exact e
  · exact h.ok j h0 hj e

theorem Up.step {K : Nat → Int} {n i : Nat} (h : Up K n i) (h0 : 0 < i) (hlt : K i < K ((i - 1) / 2)) : Up (swapF K i ((i - 1) / 2)) n ((i - 1) / 2) := by
  obtain ⟨p, hp⟩ : ∃ p, p = (i - 1) / 2 := ⟨_, rfl⟩
  rw [← hp] at hlt ⊢
  have hpi : p < i := by omega
  have hilt := h.lt
  refine ⟨by omega, fun j hj0 hj hne => ?_, fun hp0 j hj0 hj hjp => ?_⟩
  · by_cases e : j = i
    · subst e
      rw [← hp, swapF_p, swapF_i]; exact hlt
    · rw [swapF_ne K e hne]
      by_cases e1 : (j - 1) / 2 = i
      · rw [e1, swapF_i]
        have := h.ch h0 j hj0 hj e1
        rw [← hp] at this; exact this
      · by_cases e2 : (j - 1) / 2 = p
        · rw [e2, swapF_p]
          have := h.ok j hj0 hj e
          rw [e2] at this; omega
        · rw [swapF_ne K e1 e2]; exact h.ok j hj0 hj e
  · have hpp := h.ok p hp0 (by omega) (by omega)
    rw [swapF_ne K (by omega : (p - 1) / 2 ≠ i) (by omega : (p - 1) / 2 ≠ p)]
    by_cases e : j = i
    · subst e; rw [swapF_i]; exact hpp
    · rw [swapF_ne K e (by omega : j ≠ p)]
      have := h.ok j hj0 hj e
      rw [hjp] at this; omega

/-- All is in order but, perhaps, at i against its children. -/
structure Down (K : Nat → Int) (n i : Nat) : Prop where
  ok : ∀ j, 0 < j → j < n → (j - 1) / 2 ≠ i → K ((j - 1) / 2) < K j
  ch : 0 < i → ∀ j, 0 < j → j < n → (j - 1) / 2 = i → K ((i - 1) / 2) < K j

theorem Down.leaf {K : Nat → Int} {n i : Nat} (h : Down K n i) (hd : n ≤ 2 * i + 1) : HeapF K n := by
  intro j h0 hj
  exact h.ok j h0 hj (by omega)

theorem Down.done {K : Nat → Int} {n i c : Nat} (h : Down K n i) (hmin : ∀ j, 0 < j → j < n → (j - 1) / 2 = i → K c ≤ K j) (hd : K i < K c) : HeapF K n := by
  intro j h0 hj
  by_cases e : (j - 1) / 2 = i
  · have := hmin j h0 hj e; rw [e]; omega
  · exact h.ok j h0 hj e

theorem Down.step {K : Nat → Int} {n i c : Nat} (h : Down K n i) (hc : c < n) (hci : (c - 1) / 2 = i) (hc0 : 0 < c) (hmin : ∀ j, 0 < j → j < n → (j - 1) / 2 = i → j ≠ c → K c < K j) (hlt : K c < K i) : Down (swapF K i c) n c := by
  refine ⟨fun j hj0 hj hne => ?_, fun _ j hj0 hj hjc => ?_⟩
  · by_cases e1 : (j - 1) / 2 = i
    · rw [e1, swapF_i]
      by_cases e : j = c
      · subst e; rw [swapF_p]; exact hlt
      · rw [swapF_ne K (by omega : j ≠ i) e]; exact hmin j hj0 hj e1 e
    · rw [swapF_ne K e1 hne]
      by_cases e : j = i
      · subst e
        rw [swapF_i]
        exact h.ch hj0 c hc0 hc hci
      · rw [swapF_ne K e (by intro e'; subst e'; exact e1 hci)]
        exact h.ok j hj0 hj e1
  · rw [hci, swapF_i, swapF_ne K (by omega : j ≠ i) (by omega : j ≠ c)]
    have := h.ok j hj0 hj (by omega)
    rw [hjc] at this; exact this

/-! ### lists -/
abbrev Elt := Nat × Int
def dE : Elt := (0, 0)
/-- The key at j. -/
def ky (l : List Elt) (j : Nat) : Int := (l.getD j dE).2
/-- i and j change places. -/
def sw (l : List Elt) (i j : Nat) : List Elt := (l.set i (l.getD j dE)).set j (l.getD i dE)
theorem sw_len (l : List Elt) (i j : Nat) : (sw l i j).length = l.length := by simp [sw]
theorem sw_getD {l : List Elt} {i j : Nat} (hi : i < l.length) (hj : j < l.length) (k : Nat) : (sw l i j).getD k dE = if k = j then l.getD i dE else if k = i then l.getD j dE else l.getD k dE := by
  simp only [sw, List.getD_eq_getElem?_getD, List.getElem?_set, List.length_set]
  by_cases h1 : j = k
  · subst h1; simp [hj]
  · by_cases h2 : i = k
    · subst h2; simp [h1, hi, Ne.symm h1]
    · simp [h1, h2, Ne.symm h1, Ne.symm h2]
theorem ky_sw {l : List Elt} {i j : Nat} (hi : i < l.length) (hj : j < l.length) : ky (sw l i j) = swapF (ky l) i j := by
  funext k
  unfold ky swapF
  rw [sw_getD hi hj]
  by_cases h1 : k = j
  · subst h1
    by_cases h2 : k = i
    · subst h2; simp
    · simp [h2]
  · by_cases h2 : k = i
    · subst h2; simp [h1]
    · simp [h1, h2]
theorem sw_perm {l : List Elt} {i j : Nat} (hi : i < l.length) (hj : j < l.length) : (sw l i j).Perm l := by
  have h := Array.swap_perm (xs := l.toArray) (i := i) (j := j) (by simpa using hi) (by simpa using hj)
  have e : (l.toArray.swap i j (by simpa using hi) (by simpa using hj)).toList = sw l i j := by
    simp [Array.swap, sw, hi, hj, List.getD_eq_getElem?_getD]
  have := h.toList
  rw [e] at this
  simpa using this
end Go.Proofs.Qxb6617448a
