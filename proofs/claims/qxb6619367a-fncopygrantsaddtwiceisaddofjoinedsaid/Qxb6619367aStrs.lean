/- Slices of strings: compared, searched, cloned, joined (seat b6619367a). -/
import Derived.Test.Qxb6619367aBase
namespace Go.Proofs.Qxb6619367a
open Go.RowKit

theorem Mine.shape {w : World} {v : Value} {xs : List Value} (h : Mine w v xs) : ∃ a n c, v = .slice a n c := by
  obtain ⟨a, n, c, h, _⟩ := h.form
  exact ⟨a, n, c, h⟩

/-- Is x among them? -/
def has (x : ByteArray) (ss : List ByteArray) : Bool := ss.any fun y => decide (y = x)
theorem has_yes {x : ByteArray} {ss : List ByteArray} (h : x ∈ ss) : has x ss = true := by
  unfold has; rw [List.any_eq_true]; exact ⟨x, h, by simp⟩
theorem has_mem {x : ByteArray} {ss : List ByteArray} (h : has x ss = true) : x ∈ ss := by
  unfold has at h; rw [List.any_eq_true] at h
  obtain ⟨y, hy, e⟩ := h
  rw [← of_decide_eq_true e]; exact hy
theorem has_no {x : ByteArray} {ss : List ByteArray} (h : ¬ x ∈ ss) : has x ss = false := by
  cases e : has x ss with
  | false => rfl
  | true => exact absurd (has_mem e) h
theorem has_ne {x : ByteArray} {ss : List ByteArray} (h : ¬ x ∈ ss) : ¬ has x ss = true := fun e => h (has_mem e)

/-- How the walk compares two strings. -/
theorem same_str (a b : ByteArray) : (a.toList == b.toList) = decide (a = b) := by
  rw [ByteArray.toList_eq, ByteArray.toList_eq, Bool.eq_iff_iff]
  simp only [beq_iff_eq, decide_eq_true_eq]
  constructor
  · intro h
    obtain ⟨x⟩ := a
    obtain ⟨y⟩ := b
    congr 1
    exact Array.toList_inj.1 h
  · rintro rfl; rfl
theorem same_ne {a b : ByteArray} (h : a ≠ b) : (a.toList == b.toList) = false := by rw [same_str]; simp [h]

/-- The cell at j, of strings. -/
theorem Reads.str {w : World} {v : Value} {ss : List ByteArray} (h : Reads w v (strs ss)) {j : Nat} (hj : j < ss.length) : ∃ b o c, v = .slice (some ⟨b, o, none⟩) ss.length c ∧ ∀ k, k < ss.length → w.cell? ⟨b, o + k, none⟩ = some (.string (ss.getD k ⟨#[]⟩)) := by
  obtain ⟨b, o, c, hv, hc⟩ := h.get (i := j) (by rw [strs_len]; exact hj)
  rw [strs_len] at hv
  refine ⟨b, o, c, hv, fun k hk => ?_⟩
  have := hc k (by rw [strs_len]; exact hk)
  simp only [strs, List.getElem_map] at this
  rw [this]; simp [hk]

theorem take_getD {α : Type} (l : List α) (k : Nat) (d : α) (h : k < l.length) : l.take (k + 1) = l.take k ++ [l.getD k d] := by
  rw [List.take_add_one]; simp [h, List.getD_eq_getElem?_getD]

set_option maxHeartbeats 400000 in
/-- (18) sameStrsZZ -/
theorem sameStrs (v v' : Value) (ss ts : List ByteArray) (w : World) (h : Reads w v (strs ss)) (h' : Reads w v' (strs ts)) (hm : ss.length ≤ 1000000000) (hm' : ts.length ≤ 1000000000) :
    Calls Try.prog 18 #[v, v'] w fun e w' => e = .returned (.bool (decide (ss = ts))) ∧ ∃ n, w' = w.drewN n := by
  obtain ⟨a, c, hv⟩ := h.form
  obtain ⟨a', c', hv'⟩ := h'.form
  rw [strs_len] at hv hv'
  subst hv hv'
  by_cases hl : ss.length = ts.length
  · have hne : ((ss.length : Int) != (ts.length : Int)) = false := by simp [hl]
    go_enter Try.func18, Try.ntmps18
    go_wp2
    go_loopw [5] (fun i wr => ∃ k : Nat, k ≤ ss.length ∧ i = .int .i64 k ∧ (∃ n, wr = w.drewN n) ∧ ss.take k = ts.take k) (fun i _ => ss.length - (intOf i).toNat)
    case atStart => exact ⟨0, Nat.zero_le _, rfl, ⟨0, rfl⟩, by simp⟩
    case round =>
      obtain ⟨k, hk, rfl, ⟨n, rfl⟩, heq⟩ := hrel
      by_cases hlt : k < ss.length
      · have hlt' : k < ts.length := by omega
        obtain ⟨b, o, _, hq, hc⟩ := h.str hlt
        obtain ⟨b', o', _, hq', hc'⟩ := h'.str hlt'
        simp only [Value.slice.injEq] at hq hq'
        obtain ⟨rfl, _, _⟩ := hq
        obtain ⟨rfl, _, _⟩ := hq'
        have q := hc k hlt
        have q' := hc' k hlt'
        have g1 : (0 : Int) ≤ (k : Int) := by omega
        have g2 : (k : Int) < (ss.length : Int) := by omega
        have g3 : (k : Int) < (ts.length : Int) := by omega
        have e1 := take_getD ss k ⟨#[]⟩ hlt
        have e2 := take_getD ts k ⟨#[]⟩ hlt'
        obtain ⟨x, hx⟩ : ∃ x, ss.getD k ⟨#[]⟩ = x := ⟨_, rfl⟩
        obtain ⟨y, hy⟩ : ∃ y, ts.getD k ⟨#[]⟩ = y := ⟨_, rfl⟩
        rw [hx] at q e1
        rw [hy] at q' e2
        clear hc hc' hx hy hl
        by_cases hxy : x = y
        · subst hxy
          go_wp2
          go_quiet (fail)
          go_wp2
          go_roundw
          case rel => exact ⟨k + 1, by omega, by go_num, ⟨n + nq, rfl⟩, by rw [e1, e2, heq]⟩
          case measure => simp [intOf]; omega
        · have hb := same_ne hxy
          have hne2 : ss ≠ ts := fun e => hxy (by subst e; rw [e1] at e2; simpa using e2)
          go_wp2
          go_quiet (fail)
          go_wp2
          go_ret
          exact ⟨by simp [hne2], n + nq, by rw [World.drewN_drewN]⟩
      · go_wp2
        go_ret
        have : ss = ts := by rwa [List.take_of_length_le (by omega), List.take_of_length_le (by omega)] at heq
        exact ⟨by simp [this], n, rfl⟩
  · have hne : ((ss.length : Int) != (ts.length : Int)) = true := by simp; omega
    have hne2 : ss ≠ ts := fun e => hl (by rw [e])
    go_enter Try.func18, Try.ntmps18
    go_wp2
    go_ret
    exact ⟨by simp [hne2], 0, rfl⟩

theorem mem_take_succ {l : List ByteArray} {k : Nat} {x : ByteArray} (h : k < l.length) (hn : x ∉ l.take k) (hx : l.getD k ⟨#[]⟩ ≠ x) : x ∉ l.take (k + 1) := by
  rw [take_getD l k ⟨#[]⟩ h, List.mem_append]
  simp only [List.mem_singleton]
  exact fun e => e.elim hn (fun e => hx e.symm)
theorem mem_getD {l : List ByteArray} {k : Nat} (h : k < l.length) : l.getD k ⟨#[]⟩ ∈ l := by simp [List.getD_eq_getElem?_getD, h]

set_option maxHeartbeats 400000 in
/-- (30) hasStrZZ -/
theorem hasStr (v : Value) (ss : List ByteArray) (x : ByteArray) (w : World) (h : Reads w v (strs ss)) (hm : ss.length ≤ 1000000000) :
    Calls Try.prog 30 #[v, .string x] w fun e w' => e = .returned (.bool (has x ss)) ∧ w' = w := by
  obtain ⟨a, c, hv⟩ := h.form
  rw [strs_len] at hv
  subst hv
  go_enter Try.func30, Try.ntmps30
  go_wp2
  go_loopw [5] (fun i wr => ∃ k : Nat, k ≤ ss.length ∧ i = .int .i64 k ∧ wr = w ∧ x ∉ ss.take k) (fun i _ => ss.length - (intOf i).toNat)
  case atStart => exact ⟨0, Nat.zero_le _, rfl, rfl, by simp⟩
  case round =>
    obtain ⟨k, hk, rfl, rfl, hn⟩ := hrel
    by_cases hlt : k < ss.length
    · obtain ⟨b, o, _, hq, hc⟩ := h.str hlt
      simp only [Value.slice.injEq] at hq
      obtain ⟨rfl, _, _⟩ := hq
      have q := hc k hlt
      have g1 : (0 : Int) ≤ (k : Int) := by omega
      have g2 : (k : Int) < (ss.length : Int) := by omega
      have hst := mem_take_succ (x := x) hlt hn
      have hmem := mem_getD hlt
      obtain ⟨y, hy⟩ : ∃ y, ss.getD k ⟨#[]⟩ = y := ⟨_, rfl⟩
      rw [hy] at q hst hmem
      clear hc hy
      by_cases hxy : y = x
      · subst hxy
        go_wp2
        go_ret
        exact ⟨by simp [has_yes hmem], rfl⟩
      · have hb := same_ne hxy
        go_wp2
        go_roundw
        case rel => exact ⟨k + 1, by omega, by go_num, trivial, hst hxy⟩
        case measure => simp [intOf]; omega
    · go_wp2
      go_ret
      have : x ∉ ss := by rwa [List.take_of_length_le (by omega)] at hn
      exact ⟨by simp [has_no this], rfl⟩

set_option maxHeartbeats 400000 in
/-- (29) slices.Index: whether it finds. -/
theorem indexStr (v : Value) (ss : List ByteArray) (x : ByteArray) (w : World) (h : Reads w v (strs ss)) (hm : ss.length ≤ 1000000000) :
    Calls Try.prog 29 #[v, .string x] w fun e w' => ∃ i : Int, e = .returned (.int .i64 i) ∧ decide (i ≥ 0) = has x ss ∧ w' = w := by
  obtain ⟨a, c, hv⟩ := h.form
  rw [strs_len] at hv
  subst hv
  go_enter Try.func29, Try.ntmps29
  go_wp2
  go_loopw [8] (fun i wr => ∃ k : Nat, k ≤ ss.length ∧ i = .int .i64 k ∧ wr = w ∧ x ∉ ss.take k) (fun i _ => ss.length - (intOf i).toNat)
  case atStart => exact ⟨0, Nat.zero_le _, rfl, rfl, by simp⟩
  case round =>
    obtain ⟨k, hk, rfl, rfl, hn⟩ := hrel
    by_cases hlt : k < ss.length
    · obtain ⟨b, o, _, hq, hc⟩ := h.str hlt
      simp only [Value.slice.injEq] at hq
      obtain ⟨rfl, _, _⟩ := hq
      have q := hc k hlt
      have g1 : (0 : Int) ≤ (k : Int) := by omega
      have g2 : (k : Int) < (ss.length : Int) := by omega
      have hst := mem_take_succ (x := x) hlt hn
      have hmem := mem_getD hlt
      obtain ⟨y, hy⟩ : ∃ y, ss.getD k ⟨#[]⟩ = y := ⟨_, rfl⟩
      rw [hy] at q hst hmem
      clear hc hy
      by_cases hxy : y = x
      · subst hxy
        go_wp2
        go_ret
        exact ⟨k, rfl, by simp [has_yes hmem], rfl⟩
      · have hb := same_ne (Ne.symm hxy)
        go_wp2
        go_roundw
        case rel => exact ⟨k + 1, by omega, by go_num, trivial, hst hxy⟩
        case measure => simp [intOf]; omega
    · go_wp2
      go_ret
      have : x ∉ ss := by rwa [List.take_of_length_le (by omega)] at hn
      exact ⟨-1, rfl, by simp [has_no this], rfl⟩

set_option maxHeartbeats 400000 in
/-- (24) slices.Contains -/
theorem contains (v : Value) (ss : List ByteArray) (x : ByteArray) (w : World) (h : Reads w v (strs ss)) (hm : ss.length ≤ 1000000000) :
    Calls Try.prog 24 #[v, .string x] w fun e w' => e = .returned (.bool (has x ss)) ∧ w' = w := by
  obtain ⟨a, c, hv⟩ := h.form
  have hcall := indexStr v ss x w h hm
  subst hv
  go_enter Try.func24, Try.ntmps24
  go_wp2_with fail
  refine hcall.mono ?_
  rintro e w' ⟨i, rfl, hi, rfl⟩
  go_wp2
  go_ret
  exact ⟨by simp [← hi], rfl⟩

end Go.Proofs.Qxb6619367a
