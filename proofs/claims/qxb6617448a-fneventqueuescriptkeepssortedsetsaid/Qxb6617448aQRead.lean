/- A new queue; its readers; ZZAdd (seat b6617448a). -/
import Derived.Test.Qxb6617448aQAdd
namespace Go.Proofs.Qxb6617448a
open Go.RowKit

theorem wpList_build45 {ops : Array Oper} {rest : List Oper} {o : Oper} {a : Act} {w : World} {Q : Exit → Act → World → Prop} (hg : o.guard = none) (ho : o.op = .build 45 #[])
    (h : wpList Try.prog ops Q rest (a.put o.dst (.agg ZQ.toArray)) w) : wpList Try.prog ops Q (o :: rest) a w := by
  refine wpList_plain hg fun K hK => ?_
  have hr := build45 w
  rw [zero_cells] at hr
  unfold Oper.wp
  simp [execOp, ho, hr, Result.andThen]
  exact hK _ _ h

theorem box45 (w : World) : (Instr.box 45 (.agg ZQ.toArray)).run Try.prog w = .ok (.pointer (some ⟨w.heap.size, 0, none⟩)) (w.alloc (.cells ZQ.toArray 45)) := by
  generalize ZQ.toArray = Z
  kernel_rfl

theorem zq_facts (n : Nat) : ∀ l : List Value, l = .slice none 0 0 :: .map none :: (List.replicate n (.pointer none) ++ [.slice none 0 0, .int .i64 0]) →
    l.length = n + 4 ∧ l[0]? = some (.slice none 0 0) ∧ l[1]? = some (.map none) ∧ (∀ i, i < n → l[2 + i]? = some (.pointer none)) ∧ l[n + 2]? = some (.slice none 0 0) := by
  rintro l rfl
  refine ⟨by simp, rfl, rfl, fun i hi => ?_, ?_⟩
  · rw [show 2 + i = i + 1 + 1 by omega, List.getElem?_cons_succ, List.getElem?_cons_succ, List.getElem?_append_left (by simpa using hi)]
    simp [hi]
  · rw [List.getElem?_cons_succ, List.getElem?_cons_succ, List.getElem?_append_right (by simp)]
    simp
theorem zq_cells : QCells ZQ.toArray (.slice none 0 0) (.map none) (.slice none 0 0) := by
  obtain ⟨h1, h2, h3, h4, h5⟩ := zq_facts 16384 ZQ rfl
  generalize ZQ = l at *
  exact ⟨by rw [List.size_toArray, h1], by rw [List.getElem?_toArray]; exact h2, by rw [List.getElem?_toArray]; exact h3, fun i hi => by rw [List.getElem?_toArray]; exact h4 i hi, by rw [List.getElem?_toArray]; exact h5⟩

/-- (7) ZZNewQueue -/
theorem newQueue (w : World) : Calls Try.prog 7 #[] w fun e w' => e = .returned (.pointer (some ⟨w.heap.size, 0, none⟩)) ∧ Below w.heap.size w w' ∧ QS w.heap.size w' w.heap.size [] [] := by
  have hbx := box45
  generalize hZ : ZQ.toArray = Z at *
  go_enter Try.func7, Try.ntmps7
  go_wp2_with (refine wpList_build45 rfl rfl ?_; rw [hZ])
  go_ret
  refine ⟨rfl, (Below.refl _ _).alloc (Nat.le_refl _) _, .slice none 0 0, .map none, .slice none 0 0, fun _ => none, ⟨⟨Z, heap_alloc_new w _, by rw [← hZ]; exact zq_cells⟩, .inl ⟨rfl, rfl⟩, fun _ h => (by cases h), fun _ h => (by cases h), by simp, by simp, .inl ⟨rfl, rfl⟩, fun _ _ => by simp, Nat.le_refl _, fun _ h => (by cases h), fun _ h => (by cases h), fun _ h => (by cases h)⟩, .inl ⟨rfl, rfl⟩, fun _ h => (by cases h), fun j _ h => by simp at h⟩

section
variable {N : Nat} {w : World} {B : Nat} {hp : List Elt} {sp : List Nat}

/-- (9) ZZLen -/
theorem zzLen (h : QS N w B hp sp) : Calls Try.prog 9 #[ptr B] w fun e w' => e = .returned (.int .i64 hp.length) ∧ w' = w := by
  obtain ⟨hv, mv, sv, f, hR, hm, _⟩ := h
  obtain ⟨c0, _⟩ := hR.cells
  obtain ⟨a, n, c, rfl, hn⟩ := hm.form
  rw [List.length_map] at hn
  subst hn
  clear hR hm
  unfold ptr
  go_enter Try.func9, Try.ntmps9
  go_wp2
  go_ret
  exact ⟨rfl, rfl⟩

/-- (13) ZZSpares -/
theorem zzSpares (h : QS N w B hp sp) : Calls Try.prog 13 #[ptr B] w fun e w' => e = .returned (.int .i64 sp.length) ∧ w' = w := by
  obtain ⟨hv, mv, sv, f, hR, hm, _⟩ := h
  obtain ⟨_, _, c3, _⟩ := hR.cells
  obtain ⟨a, n, c, rfl, hn⟩ := hR.sm.form
  rw [List.length_map] at hn
  subst hn
  clear hR hm
  unfold ptr
  go_enter Try.func13, Try.ntmps13
  go_wp2
  go_ret
  exact ⟨rfl, rfl⟩

/-- (10) ZZMapLen -/
theorem zzMapLen (h : QS N w B hp sp) : Calls Try.prog 10 #[ptr B] w fun e w' => e = .returned (.int .i64 hp.length) ∧ w' = w := by
  obtain ⟨hv, mv, sv, f, hR, hm, _⟩ := h
  obtain ⟨_, c1, _⟩ := hR.cells
  rcases hR.map with ⟨rfl, rfl⟩ | ⟨mb, rfl, _, hmap⟩
  · clear hR hm
    unfold ptr
    go_enter Try.func10, Try.ntmps10
    go_wp2
    go_ret
    exact ⟨rfl, rfl⟩
  · have hl := fun ty => hmap.len (P := Try.prog) (t := 41) (kt := 2) (et := 42) Try.underlying41 ty
    clear hR hm
    unfold ptr
    go_enter Try.func10, Try.ntmps10
    go_wp2
    go_ret
    exact ⟨rfl, rfl⟩

theorem QS.at (h : QS N w B hp sp) {k : Nat} (hk : k < hp.length) : ∃ hb c, w.cell? ⟨B, 0, none⟩ = some (.slice (some ⟨hb, 0, none⟩) hp.length c) ∧ w.cell? ⟨hb, k, none⟩ = some (.pointer (some ⟨(hp.getD k dE).1, 0, none⟩)) ∧ IsI w (hp.getD k dE).1 (ky hp k) := by
  obtain ⟨hv, mv, sv, f, hR, hm, _⟩ := h
  obtain ⟨c0, _⟩ := hR.cells
  obtain ⟨hb, c, rfl⟩ : ∃ hb c, hv = .slice (some ⟨hb, 0, none⟩) hp.length c := by
    rcases hm with ⟨_, h1⟩ | ⟨hb, cap, cur, h1, _⟩
    · have : hp = [] := by simpa using h1
      subst this; simp at hk
    · exact ⟨hb, cap, by rw [h1, List.length_map]⟩
  exact ⟨hb, c, c0, hm.at (u := ptr (hp.getD k dE).1) (by simp [hk, List.getD_eq_getElem?_getD]), hR.inst _ (by simp [hk, List.getD_eq_getElem?_getD])⟩

/-- (11) ZZAtOf -/
theorem zzAtOf (h : QS N w B hp sp) {k : Nat} (hk : k < hp.length) : Calls Try.prog 11 #[ptr B, .int .i64 k] w fun e w' => e = .returned (.int .i64 (ky hp k)) ∧ w' = w := by
  obtain ⟨hb, c, c0, e, hI⟩ := h.at hk
  obtain ⟨i0, _⟩ := hI.cells
  obtain ⟨x, hx⟩ : ∃ x, (hp.getD k dE).1 = x := ⟨_, rfl⟩
  rw [hx] at e i0
  have g1 : (0 : Int) ≤ (k : Int) := by omega
  have g2 : (k : Int) < (hp.length : Int) := by omega
  clear h hI hx
  unfold ptr
  go_enter Try.func11, Try.ntmps11
  go_wp2
  go_ret
  exact ⟨rfl, rfl⟩
end

def ZAddPost (N : Nat) (w : World) (B : Nat) (a : Int) (hp : List Elt) (sp : List Nat) (e : Ending) (w' : World) : Prop :=
  Below N w w' ∧ e = .returned (.tuple #[.int .i64 a, .int .i64 0, .int .i64 0, .bool false]) ∧ ∃ g hp' sp', QS N w' B hp' sp' ∧ hp'.Perm (hp ++ [(g, a)]) ∧ sp'.length = sp.length - 1

theorem QS.drewN {N B : Nat} {w : World} {hp : List Elt} {sp : List Nat} (h : QS N w B hp sp) (n : Nat) : QS N (w.drewN n) B hp sp := by
  obtain ⟨hv, mv, sv, f, hR, hm, r⟩ := h
  exact ⟨hv, mv, sv, f, hR.kept (S := fun _ => False) ((Kept.refl _ _).drewN n) (fun _ h => h.elim), hm, r⟩

set_option maxHeartbeats 400000 in
/-- (8) ZZAdd -/
theorem zzAdd (N B : Nat) (hp : List Elt) (sp : List Nat) (a : Int) (w : World) (hQ : QS N w B hp sp) (hN : N ≤ w.heap.size) (ha : a ∉ hp.map (·.2)) (hb1 : hp.length ≤ 100000) (hb2 : sp.length ≤ 256) :
    Calls Try.prog 8 #[ptr B, .int .i64 a] w (ZAddPost N w B a hp sp) := by
  have hc := qadd N B hp sp a w hQ hN ha hb1 hb2
  unfold ptr at hc ⊢
  go_enter Try.func8, Try.ntmps8
  go_wp2_with fail
  refine hc.mono ?_
  rintro e w1 ⟨hb, g, hp', sp', rfl, hQ', hperm, hsl, hI⟩
  obtain ⟨i0, i1, i2, _⟩ := hI.cells
  unfold ptr
  go_wp2
  go_quiet (fail)
  go_wp2
  refine bodyPost_ret (v := .tuple #[.int .i64 a, .int .i64 0, .int .i64 0, .bool false]) (by kernel_rfl) rfl ?_
  exact ⟨below_drewN' hb, rfl, g, hp', sp', hQ'.drewN _, hperm, hsl⟩

end Go.Proofs.Qxb6617448a
