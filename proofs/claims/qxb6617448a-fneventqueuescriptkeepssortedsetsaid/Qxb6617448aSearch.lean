/- zzSearch (seat b6617448a). -/
import Derived.Test.Qxb6617448aMerge
import Derived.Test.Qxb6617448aQRead
namespace Go.Proofs.Qxb6617448a
open Go.RowKit

/-- Strictly rising. -/
def Rise (ms : List Int) : Prop := ∀ x y, x < y → y < ms.length → fn ms x < fn ms y

/-- Where t belongs. -/
structure Spot (ms : List Int) (t : Int) (p : Nat) : Prop where
  le : p ≤ ms.length
  lo : ∀ x, x < p → fn ms x < t
  hi : ∀ x, p ≤ x → x < ms.length → t ≤ fn ms x

theorem Spot.found {ms : List Int} {t : Int} {p : Nat} (h : Spot ms t p) (hs : Rise ms) : (p < ms.length ∧ fn ms p = t) ↔ t ∈ ms := by
  constructor
  · rintro ⟨h1, h2⟩
    rw [← h2]; simp [fn, List.getD_eq_getElem?_getD, h1]
  · intro hm
    obtain ⟨j, hj, he⟩ := List.getElem_of_mem hm
    have e : fn ms j = t := by rw [← he]; simp [fn, List.getD_eq_getElem?_getD, hj]
    have hpj : p ≤ j := by
      rcases Nat.lt_or_ge j p with h1 | h1
      · have := h.lo j h1; omega
      · exact h1
    have h2 := h.hi p (Nat.le_refl _)
    rcases Nat.lt_or_ge p ms.length with h1 | h1
    · refine ⟨h1, ?_⟩
      by_cases hh : p = j
      · rw [hh]; exact e
      · have h3 := hs p j (by omega) hj
        have h4 := h2 h1
        omega
    · omega

def SPost (ms : List Int) (t : Int) (w : World) (e : Ending) (w' : World) : Prop :=
  (∃ n, w' = w.drewN n) ∧ ∃ p, Spot ms t p ∧ e = .returned (.tuple #[.int .i64 p, .bool (decide (t ∈ ms))])

set_option maxHeartbeats 1000000 in
/-- (15) zzSearch -/
theorem search (v : Value) (ms : List Int) (t : Int) (w : World) (hr : Reads w v (nums ms)) (hs : Rise ms) (hb : ms.length ≤ 100000) :
    Calls Try.prog 15 #[v, .int .i64 t] w (SPost ms t w) := by
  obtain ⟨a, c, hv⟩ := hr.form
  rw [nums_len] at hv
  subst hv
  go_enter Try.func15, Try.ntmps15
  go_wp2
  go_loopw [6, 7] (fun x y wr => ∃ lo hi : Nat, x = .int .i64 lo ∧ y = .int .i64 hi ∧ wr = w ∧ lo ≤ hi ∧ hi ≤ ms.length ∧ (∀ x, x < lo → fn ms x < t) ∧ ∀ x, hi ≤ x → x < ms.length → t ≤ fn ms x) (fun x y _ => (intOf y).toNat - (intOf x).toNat)
  case atStart => exact ⟨0, ms.length, rfl, rfl, rfl, by omega, Nat.le_refl _, fun x h => by omega, fun x h1 h2 => by omega⟩
  case round =>
    obtain ⟨lo, hi, rfl, rfl, rfl, hlh, hhn, hl, hh⟩ := hrel
    by_cases hlt : lo < hi
    · obtain ⟨d, hd⟩ : ∃ d, d = (hi - lo) / 2 := ⟨_, rfl⟩
      have hq : Int.tdiv ((hi : Int) - (lo : Int)) 2 = (d : Int) := by
        rw [hd, Int.tdiv_eq_ediv_of_nonneg (by omega)]; omega
      obtain ⟨m, hm⟩ : ∃ m, m = lo + d := ⟨_, rfl⟩
      have hmi : (lo : Int) + (d : Int) = (m : Int) := by omega
      have hm1 : lo ≤ m := by omega
      have hm2 : m < hi := by omega
      obtain ⟨b, o, _, hq', hc⟩ := hr.num (j := m) (by omega)
      simp only [Value.slice.injEq] at hq'
      obtain ⟨rfl, _, rfl⟩ := hq'
      have q := hc m (by omega)
      have g1 : (0 : Int) ≤ (m : Int) := by omega
      have g2 : (m : Int) < (ms.length : Int) := by omega
      obtain ⟨y, hy⟩ : ∃ y, ms.getD m 0 = y := ⟨_, rfl⟩
      rw [hy] at q
      have hfy : fn ms m = y := hy
      clear hc hm hd hy
      by_cases hyt : y < t
      · go_wp2
        go_roundw
        case rel =>
          refine ⟨m + 1, hi, by go_num, rfl, trivial, by omega, hhn, fun x hx => ?_, hh⟩
          by_cases e : x = m
          · rw [e, hfy]; exact hyt
          · have := hs x m (by omega) (by omega); omega
        case measure => simp [intOf]; omega
      · go_wp2
        go_roundw
        case rel =>
          refine ⟨lo, m, rfl, rfl, trivial, by omega, by omega, hl, fun x h1 h2 => ?_⟩
          by_cases e : x = m
          · rw [e, hfy]; omega
          · have := hs m x (by omega) h2; omega
        case measure => simp [intOf]; omega
    · obtain rfl : lo = hi := by omega
      have hsp : Spot ms t lo := ⟨hhn, hl, hh⟩
      by_cases hln : lo < ms.length
      · obtain ⟨b, o, _, hq', hc⟩ := hr.num (j := lo) hln
        simp only [Value.slice.injEq] at hq'
        obtain ⟨rfl, _, rfl⟩ := hq'
        have q := hc lo hln
        have g1 : (0 : Int) ≤ (lo : Int) := by omega
        have g2 : (lo : Int) < (ms.length : Int) := by omega
        obtain ⟨y, hy⟩ : ∃ y, ms.getD lo 0 = y := ⟨_, rfl⟩
        rw [hy] at q
        have hfy : fn ms lo = y := hy
        clear hc hy
        go_wp2
        go_quiet (fail)
        go_wp2
        go_ret2
        refine ⟨⟨_, rfl⟩, lo, hsp, ?_⟩
        have h1 := hsp.found hs
        rw [hfy] at h1
        have : decide (t ∈ ms) = (y == t) := by
          rw [Bool.eq_iff_iff]; simp only [decide_eq_true_eq, beq_iff_eq]
          exact ⟨fun h => (h1.2 h).2, fun h => h1.1 ⟨hln, h⟩⟩
        rw [this]
        rfl
      · have hgd : decide ((lo : Int) < (ms.length : Int)) = false := by simp; omega
        have hgd2 : decide (lo < ms.length) = false := by simp; omega
        go_wp2
        go_quiet (fail)
        go_wp2
        go_ret2
        refine ⟨⟨_, rfl⟩, lo, hsp, ?_⟩
        have : decide (t ∈ ms) = false := by
          simp only [decide_eq_false_iff_not]
          exact fun h => hln ((hsp.found hs).2 h).1
        rw [this]
        rfl

end Go.Proofs.Qxb6617448a
