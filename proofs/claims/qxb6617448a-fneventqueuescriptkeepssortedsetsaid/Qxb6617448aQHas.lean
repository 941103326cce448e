/- ZZMapsToSlot, ZZHas; zzBytes (seat b6617448a). -/
import Derived.Test.Qxb6617448aQRead
import Derived.LaidEqlPtr
namespace Go.Proofs.Qxb6617448a
open Go.RowKit

theorem eql_same (w : World) (a : Addr) : (binOp .eql 42 (.pointer (some a)) (.pointer (some a))).run Try.prog w = .ok (.bool true) w :=
  run_eql_ptr_same (P := Try.prog) w a Try.underlying42 (j := Try.t49) (by kernel_rfl)

theorem zero42 (w : World) : (zeroValue 42).run Try.prog w = .ok (.pointer none) w := by kernel_rfl

section
variable {N : Nat} {w : World} {B : Nat} {hp : List Elt} {sp : List Nat}

set_option maxHeartbeats 400000 in
/-- (16) ZZMapsToSlot -/
theorem mapsToSlot (h : QS N w B hp sp) {k : Nat} (hk : k < hp.length) : Calls Try.prog 16 #[ptr B, .int .i64 k] w fun e w' => e = .returned (.bool true) ∧ ∃ n, w' = w.drewN n := by
  obtain ⟨hb, c, c0, e, hI⟩ := h.at hk
  obtain ⟨hv, mv, sv, f, hR, _⟩ := id h
  obtain ⟨i0, _⟩ := hI.cells
  obtain ⟨_, c1, _⟩ := hR.cells
  have hmem : hp.getD k dE ∈ hp := by simp [List.getD_eq_getElem?_getD, hk]
  have hf := (hR.fm (ky hp k) (ptr (hp.getD k dE).1)).2 ⟨_, hmem, rfl, rfl⟩
  obtain ⟨mb, rfl⟩ : ∃ mb, mv = .map (some mb) := by
    rcases hR.map with ⟨_, h1⟩ | ⟨mb, h1, _⟩
    · subst h1; simp at hk
    · exact ⟨_, h1⟩
  have hl : ∀ n, (Instr.lookup 41 (.map (some mb)) (.int .i64 (ky hp k)) false).run Try.prog (w.drewN n) = .ok (.pointer (some ⟨(hp.getD k dE).1, 0, none⟩)) (w.drewN n) := fun n => by
    have := (hR.isMap.2.of_block (w' := w.drewN n) rfl).lookup (t := 41) intKey Try.underlying41 (zero42 _) (ky hp k) false
    rw [if_neg (by decide), hf] at this
    exact this
  obtain ⟨x, hx⟩ : ∃ x, (hp.getD k dE).1 = x := ⟨_, rfl⟩
  obtain ⟨y, hy⟩ : ∃ y, ky hp k = y := ⟨_, rfl⟩
  rw [hx] at e i0 hl
  rw [hy] at i0 hl
  have hes := eql_same
  have g1 : (0 : Int) ≤ (k : Int) := by omega
  have g2 : (k : Int) < (hp.length : Int) := by omega
  clear h hI hx hR hf hmem hy
  unfold ptr
  go_enter Try.func16, Try.ntmps16
  go_wp2
  go_quiet (fail)
  go_wp2
  go_ret
  exact ⟨rfl, _, rfl⟩

set_option maxHeartbeats 400000 in
/-- (17) ZZHas -/
theorem zzHas (h : QS N w B hp sp) (t : Int) : Calls Try.prog 17 #[ptr B, .int .i64 t] w fun e w' => e = .returned (.bool (decide (t ∈ hp.map (·.2)))) ∧ w' = w := by
  obtain ⟨hv, mv, sv, f, hR, _⟩ := h
  obtain ⟨_, c1, _⟩ := hR.cells
  rcases hR.map with ⟨rfl, rfl⟩ | ⟨mb, rfl, _, hmap⟩
  · have hl := lookup_nil (w := w) intKey (t := 41) Try.underlying41 (zero42 w) t true
    rw [if_pos rfl] at hl
    clear hR
    unfold ptr
    go_enter Try.func17, Try.ntmps17
    go_wp2
    go_ret
    exact ⟨by simp, rfl⟩
  · have hl := hmap.lookup (t := 41) intKey Try.underlying41 (zero42 w) t true
    rw [if_pos rfl] at hl
    by_cases hm : t ∈ hp.map (·.2)
    · obtain ⟨x, hx, hxt⟩ := List.mem_map.1 hm
      rw [(hR.fm t (ptr x.1)).2 ⟨x, hx, hxt, rfl⟩] at hl
      have hI := hR.inst x hx
      rw [hxt] at hI
      obtain ⟨i0, _⟩ := hI.cells
      obtain ⟨g, hg⟩ : ∃ g, x.1 = g := ⟨_, rfl⟩
      simp only [Option.getD_some, Option.isSome_some] at hl
      unfold ptr at hl
      rw [hg] at hl i0
      rw [show decide (t ∈ hp.map (·.2)) = true from by simp only [decide_eq_true_eq]; exact hm]
      clear hR hI hm hmap hx hxt
      unfold ptr
      go_enter Try.func17, Try.ntmps17
      go_wp2
      go_ret
      exact ⟨rfl, rfl⟩
    · rw [hR.fnone hm] at hl
      simp only [Option.getD_none, Option.isSome_none] at hl
      rw [show decide (t ∈ hp.map (·.2)) = false from by simp only [decide_eq_false_iff_not]; exact hm]
      clear hR hm hmap
      unfold ptr
      go_enter Try.func17, Try.ntmps17
      go_wp2
      go_ret
      exact ⟨rfl, rfl⟩
end

/-- (14) zzBytes -/
theorem zzBytes14 (a b : Option Addr) (n c m d : Nat) (w : World) : Calls Try.prog 14 #[.slice a n c, .slice b m d] w fun e w' => (∃ r : Bool, e = .returned (.bool r)) ∧ w' = w := by
  by_cases h1 : n ≤ 1048576
  · by_cases h2 : m ≤ 1048576
    · by_cases h3 : n + m ≤ 1048576
      · go_enter Try.func14, Try.ntmps14
        go_wp2
        go_ret
        exact ⟨⟨_, rfl⟩, rfl⟩
      · have h3' : 1048576 < n + m := by omega
        go_enter Try.func14, Try.ntmps14
        go_wp2
        go_ret
        exact ⟨⟨_, rfl⟩, rfl⟩
    · have h2' : 1048576 < m := by omega
      go_enter Try.func14, Try.ntmps14
      go_wp2
      go_ret
      exact ⟨⟨_, rfl⟩, rfl⟩
  · have h1' : 1048576 < n := by omega
    go_enter Try.func14, Try.ntmps14
    go_wp2
    go_ret
    exact ⟨⟨_, rfl⟩, rfl⟩

end Go.Proofs.Qxb6617448a
