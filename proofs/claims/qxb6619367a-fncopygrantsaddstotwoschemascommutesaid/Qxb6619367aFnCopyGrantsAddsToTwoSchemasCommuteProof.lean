/- A proof of 'Rows.FnCopyGrantsAddsToTwoSchemasCommuteSaid' (seat b6619367a): the row's step after the guide's way, the arguments opened (Qxb6619367aOpen), the walk in Qxb6619367aMain4. -/
import Derived.Test.Qxb6619367aRows
import Derived.WalkKit
import Derived.ProofKit
import Derived.OpenShut
import Derived.ShutString
import Derived.ChangeOld
import Derived.Below
import Derived.Test.Qxb6619367aMain4
import Derived.Test.Qxb6619367aOpen
namespace Go.Proofs.Qxb6619367a.fnCopyGrantsAddsToTwoSchemasCommute
open Go.ChangeShapes Go.WideShapes Go.ChangeAt Go.RowKit
open Go.ChangeMaps (open_string shut_string)

theorem own : ownKnob Try.prog.godebug = none := by kernel_rfl
theorem laidOut : laidOutB Try.prog = true := by kernel_rfl

set_option maxRecDepth 100000 in
theorem lifted (os : Os) (started : os.Started) (H : Type) (enc : TypeId × Value → H) :
    ReturnsInHanded {} Try.checked os 4 .any (Rows.fnCopyGrantsAddsToTwoSchemasCommuteSpec.pre6 enc Try.prog Try.f4 Rows.fnCopyGrantsAddsToTwoSchemasCommuteRow.domain false) (Rows.fnCopyGrantsAddsToTwoSchemasCommuteSpec.post enc Try.prog Try.f4 false true false false) := by
  refine returnsInHanded_of_change (C := Try.checked) own started (by kernel_rfl) Try.func4
    (ChangeSpec.witness6 (enc := enc) (C := Try.checked) false ⟨#[], #[.slice none 0 0, .slice none 0 0, .slice none 0 0, .string ⟨#[]⟩, .slice none 0 0, .slice none 0 0, .string ⟨#[]⟩, .slice none 0 0, .slice none 0 0], []⟩ 8 (by kernel_rfl) (by kernel_rfl) (by kernel_rfl) (by kernel_rfl)) ?_
  intro W base args ds gs before hval0 hW hcnd _
  have hval : ∀ (j : Nat) t v, Try.f4.params[j]? = some t → args[j]? = some v → Value.okWide Try.prog W .any base t v := hval0
  have hW' := hW
  obtain ⟨p, q, hA0, hV, rfl, hfz, hnd⟩ := hW
  have hA : DataW.TrodAll enc Try.prog W 0 (fun _ => true) true Try.f4.params.toList args.toList ds p := hA0
  rw [Try.params4] at hA hval
  obtain ⟨v0, vs0, d0, ds0, p0, q0, hargs, rfl, rfl, h0, r0⟩ := trodAll_cons hA
  obtain ⟨v1, vs1, d1, ds1, p1, q1, rfl, rfl, rfl, h1, r1⟩ := trodAll_cons r0
  obtain ⟨v2, vs2, d2, ds2, p2, q2, rfl, rfl, rfl, h2, r2⟩ := trodAll_cons r1
  obtain ⟨v3, vs3, d3, ds3, p3, q3, rfl, rfl, rfl, h3, r3⟩ := trodAll_cons r2
  obtain ⟨v4, vs4, d4, ds4, p4, q4, rfl, rfl, rfl, h4, r4⟩ := trodAll_cons r3
  obtain ⟨v5, vs5, d5, ds5, p5, q5, rfl, rfl, rfl, h5, r5⟩ := trodAll_cons r4
  obtain ⟨v6, vs6, d6, ds6, p6, q6, rfl, rfl, rfl, h6, r6⟩ := trodAll_cons r5
  obtain ⟨v7, vs7, d7, ds7, p7, q7, rfl, rfl, rfl, h7, r7⟩ := trodAll_cons r6
  obtain ⟨v8, vs8, d8, ds8, p8, q8, rfl, rfl, rfl, h8, r8⟩ := trodAll_cons r7
  obtain ⟨rfl, rfl, rfl⟩ := trodAll_nil r8
  obtain rfl : args = #[v0, v1, v2, v3, v4, v5, v6, v7, v8] := by cases args; simp_all
  obtain ⟨rfl, rfl⟩ := trodVars_none hV
  have k0 := h0
  have lt0 : ∀ x ∈ p0, x.block < W.heap.size := by obtain ⟨m, hm⟩ := k0; exact DataW.trod_lt m _ _ _ hm
  have k1 := h1
  have lt1 : ∀ x ∈ p1, x.block < W.heap.size := by obtain ⟨m, hm⟩ := k1; exact DataW.trod_lt m _ _ _ hm
  have k2 := h2
  have lt2 : ∀ x ∈ p2, x.block < W.heap.size := by obtain ⟨m, hm⟩ := k2; exact DataW.trod_lt m _ _ _ hm
  have k3 := h3
  have lt3 : ∀ x ∈ p3, x.block < W.heap.size := by obtain ⟨m, hm⟩ := k3; exact DataW.trod_lt m _ _ _ hm
  have k4 := h4
  have lt4 : ∀ x ∈ p4, x.block < W.heap.size := by obtain ⟨m, hm⟩ := k4; exact DataW.trod_lt m _ _ _ hm
  have k5 := h5
  have lt5 : ∀ x ∈ p5, x.block < W.heap.size := by obtain ⟨m, hm⟩ := k5; exact DataW.trod_lt m _ _ _ hm
  have k6 := h6
  have lt6 : ∀ x ∈ p6, x.block < W.heap.size := by obtain ⟨m, hm⟩ := k6; exact DataW.trod_lt m _ _ _ hm
  have k7 := h7
  have lt7 : ∀ x ∈ p7, x.block < W.heap.size := by obtain ⟨m, hm⟩ := k7; exact DataW.trod_lt m _ _ _ hm
  have k8 := h8
  have lt8 : ∀ x ∈ p8, x.block < W.heap.size := by obtain ⟨m, hm⟩ := k8; exact DataW.trod_lt m _ _ _ hm
  obtain ⟨a0, len0, cap0, rfl⟩ := okWide_slice Try.underlying22 (hval 0 22 v0 rfl rfl)
  obtain ⟨l0, hr0⟩ : ∃ l, Reads W (.slice a0 len0 cap0) (strs l) := by
    obtain ⟨fuel, hf⟩ := h0
    obtain ⟨v, ds, hv, hr⟩ := openStrs hf
    simp [Value.cells] at hv
    subst hv
    exact ⟨ds, hr⟩
  obtain ⟨a1, len1, cap1, rfl⟩ := okWide_slice Try.underlying22 (hval 1 22 v1 rfl rfl)
  obtain ⟨l1, hr1⟩ : ∃ l, Reads W (.slice a1 len1 cap1) (strs l) := by
    obtain ⟨fuel, hf⟩ := h1
    obtain ⟨v, ds, hv, hr⟩ := openStrs hf
    simp [Value.cells] at hv
    subst hv
    exact ⟨ds, hr⟩
  obtain ⟨a2, len2, cap2, rfl⟩ := okWide_slice Try.underlying23 (hval 2 23 v2 rfl rfl)
  obtain ⟨l2, hr2⟩ : ∃ l, VAt (fun _ => True) W (.slice a2 len2 cap2) l := by
    obtain ⟨fuel, hf⟩ := h2
    obtain ⟨v, ds, hv, hr⟩ := openLists hf
    simp [Value.cells] at hv
    subst hv
    exact ⟨ds, hr⟩
  obtain ⟨l3, rfl⟩ := okWide_string Try.underlying9 (hval 3 9 v3 rfl rfl)
  obtain ⟨a4, len4, cap4, rfl⟩ := okWide_slice Try.underlying22 (hval 4 22 v4 rfl rfl)
  obtain ⟨l4, hr4⟩ : ∃ l, Reads W (.slice a4 len4 cap4) (strs l) := by
    obtain ⟨fuel, hf⟩ := h4
    obtain ⟨v, ds, hv, hr⟩ := openStrs hf
    simp [Value.cells] at hv
    subst hv
    exact ⟨ds, hr⟩
  obtain ⟨a5, len5, cap5, rfl⟩ := okWide_slice Try.underlying22 (hval 5 22 v5 rfl rfl)
  obtain ⟨l5, hr5⟩ : ∃ l, Reads W (.slice a5 len5 cap5) (strs l) := by
    obtain ⟨fuel, hf⟩ := h5
    obtain ⟨v, ds, hv, hr⟩ := openStrs hf
    simp [Value.cells] at hv
    subst hv
    exact ⟨ds, hr⟩
  obtain ⟨l6, rfl⟩ := okWide_string Try.underlying9 (hval 6 9 v6 rfl rfl)
  obtain ⟨a7, len7, cap7, rfl⟩ := okWide_slice Try.underlying22 (hval 7 22 v7 rfl rfl)
  obtain ⟨l7, hr7⟩ : ∃ l, Reads W (.slice a7 len7 cap7) (strs l) := by
    obtain ⟨fuel, hf⟩ := h7
    obtain ⟨v, ds, hv, hr⟩ := openStrs hf
    simp [Value.cells] at hv
    subst hv
    exact ⟨ds, hr⟩
  obtain ⟨a8, len8, cap8, rfl⟩ := okWide_slice Try.underlying22 (hval 8 22 v8 rfl rfl)
  obtain ⟨l8, hr8⟩ : ∃ l, Reads W (.slice a8 len8 cap8) (strs l) := by
    obtain ⟨fuel, hf⟩ := h8
    obtain ⟨v, ds, hv, hr⟩ := openStrs hf
    simp [Value.cells] at hv
    subst hv
    exact ⟨ds, hr⟩
  clear hA0 hval0
  refine (main4 _ _ _ _ _ _ _ l0 l1 l2 l3 l6 l4 l7 l5 l8 W hr0 hr1 hr2 hr4 hr7 hr5 hr8).mono fun e W' ⟨bel, he⟩ => ?_
  subst he
  exact ⟨_, rfl, _, _, _, [], _, [], hW', trodAll_mk1 (shut_bool Try.underlying4 _), (trodAll_cons_mk (Below.trod laidOut (by kernel_rfl) (of_decide_eq_true (by kernel_rfl)) k0 bel lt0) (trodAll_cons_mk (Below.trod laidOut (by kernel_rfl) (of_decide_eq_true (by kernel_rfl)) k1 bel lt1) (trodAll_cons_mk (Below.trod laidOut (by kernel_rfl) (of_decide_eq_true (by kernel_rfl)) k2 bel lt2) (trodAll_cons_mk (Below.trod laidOut (by kernel_rfl) (of_decide_eq_true (by kernel_rfl)) k3 bel lt3) (trodAll_cons_mk (Below.trod laidOut (by kernel_rfl) (of_decide_eq_true (by kernel_rfl)) k4 bel lt4) (trodAll_cons_mk (Below.trod laidOut (by kernel_rfl) (of_decide_eq_true (by kernel_rfl)) k5 bel lt5) (trodAll_cons_mk (Below.trod laidOut (by kernel_rfl) (of_decide_eq_true (by kernel_rfl)) k6 bel lt6) (trodAll_cons_mk (Below.trod laidOut (by kernel_rfl) (of_decide_eq_true (by kernel_rfl)) k7 bel lt7) (trodAll_cons_mk (Below.trod laidOut (by kernel_rfl) (of_decide_eq_true (by kernel_rfl)) k8 bel lt8) trodAll_mk0))))))))), rfl, bel.frame _, fun h => by cases h⟩

theorem over : Rows.fnCopyGrantsAddsToTwoSchemasCommuteRow.holds Try.pinned (OpenSpec.ofChange Rows.fnCopyGrantsAddsToTwoSchemasCommuteSpec) :=
  OpenClaim.holds_of_wide 4 Try.f4 rfl rfl rfl rfl rfl rfl rfl ⟨rfl, rfl, rfl, rfl, rfl⟩ rfl rfl rfl rfl rfl (by kernel_rfl) Try.func4 (by kernel_rfl)
    (of_decide_eq_true (by kernel_rfl)) (by unfold Func.isWrapper; first | (rw [if_pos (by decide +kernel)]; kernel_rfl) | (rw [if_neg (by decide +kernel)]; exact ⟨rfl, rfl⟩))
    (fun os started H enc _ => lifted os started H enc)

/-- THE STATEMENT -/
theorem proved : Rows.FnCopyGrantsAddsToTwoSchemasCommuteSaid := over
#print axioms proved
end Go.Proofs.Qxb6619367a.fnCopyGrantsAddsToTwoSchemasCommute
