/- Merging, without Go: counts and order over ranges of functions (seat b6617448a). -/
import Derived.Test.Qxb6617448aBase
namespace Go.Proofs.Qxb6617448a

/-- How often v stands among the m from lo on. -/
def cnt (f : Nat → Int) (v : Int) (lo : Nat) : Nat → Nat
  | 0 => 0
  | m + 1 => cnt f v lo m + if f (lo + m) = v then 1 else 0
theorem cnt_add (f : Nat → Int) (v : Int) (lo m : Nat) : ∀ p, cnt f v lo (m + p) = cnt f v lo m + cnt f v (lo + m) p
  | 0 => rfl
  | p + 1 => by
    rw [← Nat.add_assoc]
    simp only [cnt]
    rw [cnt_add f v lo m p, Nat.add_assoc lo m p, Nat.add_assoc]
theorem cnt_congr {f g : Nat → Int} (v : Int) (lo : Nat) : ∀ m, (∀ x, lo ≤ x → x < lo + m → f x = g x) → cnt f v lo m = cnt g v lo m
  | 0, _ => rfl
  | m + 1, h => by
    simp only [cnt]
    rw [cnt_congr v lo m (fun x h1 h2 => h x h1 (by omega)), h (lo + m) (by omega) (by omega)]

def setF (f : Nat → Int) (k : Nat) (v : Int) : Nat → Int := fun x => if x = k then v else f x
theorem setF_same (f : Nat → Int) (k : Nat) (v : Int) : setF f k v k = v := by simp [setF]
theorem setF_ne (f : Nat → Int) {k x : Nat} (v : Int) (h : x ≠ k) : setF f k v x = f x := by simp [setF, h]

/-- In order between lo and hi. -/
def Ord (f : Nat → Int) (lo hi : Nat) : Prop := ∀ x y, lo ≤ x → x ≤ y → y < hi → f x ≤ f y

/-- i of the left, j of the right are merged. -/
structure MI (A B : Nat → Int) (lo mid hi i j k : Nat) : Prop where
  i0 : lo ≤ i
  i1 : i ≤ mid
  j0 : mid ≤ j
  j1 : j ≤ hi
  k0 : k + mid = i + j
  ord : Ord B lo k
  le1 : ∀ x y, lo ≤ x → x < k → i ≤ y → y < mid → B x ≤ A y
  le2 : ∀ x y, lo ≤ x → x < k → j ≤ y → y < hi → B x ≤ A y
  num : ∀ v, cnt B v lo (k - lo) = cnt A v lo (i - lo) + cnt A v mid (j - mid)

theorem MI.start {A B : Nat → Int} {lo mid hi : Nat} (h1 : lo ≤ mid) (h2 : mid ≤ hi) : MI A B lo mid hi lo mid lo :=
  ⟨Nat.le_refl _, h1, Nat.le_refl _, h2, by omega, fun x y h1 h2 h3 => by omega, fun x y h1 h2 => by omega, fun x y h1 h2 => by omega, fun v => by simp [cnt]⟩

theorem cnt_setF (B : Nat → Int) (v u : Int) {lo k : Nat} (h : lo ≤ k) : cnt (setF B k u) v lo (k + 1 - lo) = cnt B v lo (k - lo) + if u = v then 1 else 0 := by
  rw [show k + 1 - lo = (k - lo) + 1 by omega]
  simp only [cnt]
  rw [show lo + (k - lo) = k by omega, setF_same, cnt_congr (g := B) v lo (k - lo) (fun x h1 h2 => setF_ne B u (by omega))]

theorem MI.left {A B : Nat → Int} {lo mid hi i j k : Nat} (h : MI A B lo mid hi i j k) (hA : Ord A lo mid) (hi' : i < mid) (hle : j < hi → ∀ y, j ≤ y → y < hi → A i ≤ A y) : MI A (setF B k (A i)) lo mid hi (i + 1) j (k + 1) := by
  have hi0 := h.i0
  have hj0 := h.j0
  have hk := h.k0
  refine ⟨by omega, by omega, hj0, h.j1, by omega, fun x y h1 h2 h3 => ?_, fun x y h1 h2 h3 h4 => ?_, fun x y h1 h2 h3 h4 => ?_, fun v => ?_⟩
  · by_cases e : y = k
    · subst e
      rw [setF_same]
      by_cases e' : x = y
      · rw [e', setF_same]; exact Int.le_refl _
      · rw [setF_ne _ _ e']; exact h.le1 x i h1 (by omega) (Nat.le_refl _) hi'
    · rw [setF_ne _ _ e, setF_ne _ _ (by omega : x ≠ k)]; exact h.ord x y h1 h2 (by omega)
  · by_cases e : x = k
    · subst e; rw [setF_same]; exact hA i y hi0 (by omega) h4
    · rw [setF_ne _ _ e]; exact h.le1 x y h1 (by omega) (by omega) h4
  · by_cases e : x = k
    · subst e; rw [setF_same]; exact hle (by omega) y h3 h4
    · rw [setF_ne _ _ e]; exact h.le2 x y h1 (by omega) h3 h4
  · rw [cnt_setF B v (A i) (by omega), h.num v, show i + 1 - lo = (i - lo) + 1 by omega]
    simp only [cnt]
    rw [show lo + (i - lo) = i by omega]
    omega

theorem MI.right {A B : Nat → Int} {lo mid hi i j k : Nat} (h : MI A B lo mid hi i j k) (hA : Ord A mid hi) (hj' : j < hi) (hle : i < mid → ∀ y, i ≤ y → y < mid → A j ≤ A y) : MI A (setF B k (A j)) lo mid hi i (j + 1) (k + 1) := by
  have hi0 := h.i0
  have hi1 := h.i1
  have hj0 := h.j0
  have hk := h.k0
  refine ⟨hi0, hi1, by omega, by omega, by omega, fun x y h1 h2 h3 => ?_, fun x y h1 h2 h3 h4 => ?_, fun x y h1 h2 h3 h4 => ?_, fun v => ?_⟩
  · by_cases e : y = k
    · subst e
      rw [setF_same]
      by_cases e' : x = y
      · rw [e', setF_same]; exact Int.le_refl _
      · rw [setF_ne _ _ e']; exact h.le2 x j h1 (by omega) (Nat.le_refl _) hj'
    · rw [setF_ne _ _ e, setF_ne _ _ (by omega : x ≠ k)]; exact h.ord x y h1 h2 (by omega)
  · by_cases e : x = k
    · subst e; rw [setF_same]; exact hle (by omega) y h3 h4
    · rw [setF_ne _ _ e]; exact h.le1 x y h1 (by omega) h3 h4
  · by_cases e : x = k
    · subst e; rw [setF_same]; exact hA j y hj0 (by omega) h4
    · rw [setF_ne _ _ e]; exact h.le2 x y h1 (by omega) (by omega) h4
  · rw [cnt_setF B v (A j) (by omega), h.num v, show j + 1 - mid = (j - mid) + 1 by omega]
    simp only [cnt]
    rw [show mid + (j - mid) = j by omega]
    omega

/-- Where a buffer's part below lo does not turn. -/
def Same (B B' : Nat → Int) (lo : Nat) : Prop := ∀ x, x < lo → B' x = B x

/-- Chunks of width w are in order. -/
def Chunks (A : Nat → Int) (w n : Nat) : Prop := ∀ d, Ord A (d * w) (min (d * w + w) n)

/-- The first c chunks of width W lie merged in B. -/
structure LI (A B : Nat → Int) (W n c : Nat) : Prop where
  ord : ∀ d, d < c → Ord B (d * W) (min (d * W + W) n)
  num : ∀ v, cnt B v 0 (min (c * W) n) = cnt A v 0 (min (c * W) n)

theorem LI.start (A B : Nat → Int) (W n : Nat) : LI A B W n 0 := ⟨fun d h => by omega, fun v => by simp [cnt]⟩

theorem LI.next {A B B' : Nat → Int} {W n c mid hi : Nat} (h : LI A B W n c) (hc : c * W < n) (hhi : hi = min (c * W + W) n) (hs : Same B B' (c * W)) (hm : MI A B' (c * W) mid hi mid hi hi) (hmid : c * W ≤ mid) (hmh : mid ≤ hi) : LI A B' W n (c + 1) := by
  have e1 : (c + 1) * W = c * W + W := Nat.succ_mul c W
  refine ⟨fun d hd => ?_, fun v => ?_⟩
  · by_cases e : d = c
    · subst e; rw [← hhi]; exact hm.ord
    · have hdc : d < c := by omega
      have h2 : (d + 1) * W ≤ c * W := Nat.mul_le_mul_right W (by omega)
      rw [Nat.succ_mul] at h2
      intro x y hx hxy hy
      rw [hs x (by omega), hs y (by omega)]
      exact h.ord d hdc x y hx hxy hy
  · rw [e1, ← hhi, show hi = c * W + (hi - c * W) by omega, cnt_add, cnt_add]
    rw [Nat.zero_add, cnt_congr (f := B') (g := B) v 0 (c * W) (fun x _ h2 => hs x (by omega))]
    have h1 := h.num v
    rw [Nat.min_eq_left (Nat.le_of_lt hc)] at h1
    rw [h1, hm.num v]
    have h3 : cnt A v (c * W) (hi - c * W) = cnt A v (c * W) (mid - c * W) + cnt A v mid (hi - mid) := by
      rw [show hi - c * W = (mid - c * W) + (hi - mid) by omega, cnt_add, show c * W + (mid - c * W) = mid by omega]
    rw [h3]

theorem LI.done {A B : Nat → Int} {W n c : Nat} (h : LI A B W n c) (hc : n ≤ c * W) : Chunks B W n ∧ ∀ v, cnt B v 0 n = cnt A v 0 n := by
  refine ⟨fun d => ?_, fun v => ?_⟩
  · by_cases hd : d < c
    · exact h.ord d hd
    · have : c * W ≤ d * W := Nat.mul_le_mul_right W (by omega)
      intro x y h1 h2 h3
      omega
  · have := h.num v; rwa [Nat.min_eq_right hc] at this

theorem chunks_one (A : Nat → Int) (n : Nat) : Chunks A 1 n := fun d x y h1 h2 h3 => by
  have : x = y := by omega
  rw [this]; exact Int.le_refl _
theorem Chunks.all {A : Nat → Int} {w n : Nat} (h : Chunks A w n) (hw : n ≤ w) : Ord A 0 n := fun x y h1 h2 h3 => h 0 x y (by omega) h2 (by omega)

/-! ### lists -/
def fn (l : List Int) : Nat → Int := fun x => l.getD x 0
theorem fn_set (l : List Int) (k : Nat) (v : Int) (h : k < l.length) : fn (l.set k v) = setF (fn l) k v := by
  funext x
  unfold fn setF
  simp only [List.getD_eq_getElem?_getD, List.getElem?_set]
  by_cases e : k = x
  · subst e; simp [h]
  · simp [e, Ne.symm e]
theorem count_fn (v : Int) : ∀ l : List Int, l.count v = cnt (fn l) v 0 l.length := by
  intro l
  suffices h : ∀ m, m ≤ l.length → (l.take m).count v = cnt (fn l) v 0 m by
    have := h l.length (Nat.le_refl _); rwa [List.take_length] at this
  intro m
  induction m with
  | zero => intro _; simp [cnt]
  | succ m ih =>
    intro hm
    rw [take_getD l m 0 (by omega), List.count_append, ih (by omega)]
    simp only [cnt, Nat.zero_add]
    rw [List.count_singleton]
    simp [fn]
theorem perm_of_cnt {l l' : List Int} (hl : l.length = l'.length) (h : ∀ v, cnt (fn l) v 0 l.length = cnt (fn l') v 0 l.length) : l.Perm l' := by
  rw [List.perm_iff_count]
  intro v
  rw [count_fn, count_fn, ← hl]; exact h v
end Go.Proofs.Qxb6617448a
