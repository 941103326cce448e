/- oneSchemaStateZZ, twoSchemasStateZZ (seat b6619367a). -/
import Derived.Test.Qxb6619367aKeptU
namespace Go.Proofs.Qxb6619367a
open Go.RowKit

section
variable {w : World} {T F : Nat → Prop} {p : Nat} {gv mv : Value} {gs : List ByteArray} {f : ByteArray → Option Value} {U : ByteArray → Option (List ByteArray)} {n b : Nat}

theorem VAt.below {v : Value} {vs : List (List ByteArray)} {w' : World} (h : VAt (fun k => k < w.heap.size) w v vs) (hb : Below w.heap.size w w') : VAt (fun k => k < w.heap.size) w' v vs := h.kept (Kept.of_below hb) fun k hk e => by omega
theorem VAt.all {F : Nat → Prop} {v : Value} {vs : List (List ByteArray)} (h : VAt F w v vs) : VAt (fun _ => True) w v vs := by
  obtain ⟨xs, h1, h2, h3, h4⟩ := h
  exact ⟨xs, h1, fun _ _ _ => trivial, h3, fun i hi => ⟨(h4 i hi).1, fun _ _ _ => trivial⟩⟩

set_option maxHeartbeats 1000000 in
/-- (12) oneSchemaStateZZ -/
theorem oneState (h : St w T F p gv (.map (some b)) gs f U n) (hT : ∀ k, T k → k < w.heap.size) (wv kv vv ev : Value) (ks : List ByteArray) (vs : List (List ByteArray)) (s : ByteArray) (gees : List ByteArray) (hw : Reads w wv (strs gs)) (hk : Reads w kv (strs ks)) (hv : VAt (fun k => k < w.heap.size) w vv vs) (he : Reads w ev (strs gees))
    (hl : ks.length = vs.length) (hn : ks.Nodup) (hb0 : gs.length ≤ 1000000000) (hb1 : ks.length ≤ 1000000000) (hb3 : ∀ i, i < vs.length → (vs.getD i []).length ≤ 1000000000) (hb2 : ((look ks vs s).getD []).length + gees.length ≤ 1000000000)
    (hU : U = setO (look ks vs) s (foldO (look ks vs s) gees)) (hN : n = ks.length + cntO (look ks vs s) (foldO (look ks vs s) gees)) :
    Calls Try.prog 12 #[.pointer (some ⟨p, 0, none⟩), wv, kv, vv, .string s, ev] w fun e w' => Below w.heap.size w w' ∧ e = .returned (.bool true) := by
  obtain ⟨wa, wc, hwe⟩ := hw.form
  obtain ⟨ka, kc, hke⟩ := hk.form
  obtain ⟨va, vc, hve⟩ := hv.form
  obtain ⟨ea, ec, hee⟩ := he.form
  obtain ⟨ga, gn, gc, rfl⟩ := h.mine.shape
  rw [strs_len] at hwe hke hee
  subst hwe hke hve hee
  have HL : Hid (ks.length = vs.length) := hl
  have hUs : U s = foldO (look ks vs s) gees := by rw [hU, setO_same]
  have hUo : ∀ k, k ≠ s → k ≠ s → U k = look ks vs k := fun k hk _ => by rw [hU, setO_other _ _ hk]
  obtain ⟨c, hc⟩ : ∃ c, cntO (look ks vs s) (foldO (look ks vs s) gees) = c := ⟨_, rfl⟩
  have hc1 : c ≤ 1 := by rw [← hc]; unfold cntO; split <;> (try split) <;> omega
  have hg := zzGrants h
  have hsame := sameStrs _ _ gs gs w h.mine.reads hw hb0 hb0
  rw [show decide (gs = gs) = true from by simp] at hsame
  clear hU hl
  rw [hc] at hN
  go_enter Try.func12, Try.ntmps12
  go_wp2_with fail
  refine hg.mono ?_
  rintro e w1 ⟨rfl, hw1⟩
  subst hw1
  go_wp2_with fail
  refine hsame.mono ?_
  rintro e w2 ⟨rfl, m2, hw2⟩
  have hb2' : Below w1.heap.size w1 w2 := by rw [hw2]; exact below_drewN' (Below.refl _ _)
  clear hw2 hg hsame
  go_wp2_with fail
  refine (zzIsNil (h.below hT hb2')).mono ?_
  rintro e w3 ⟨rfl, hw3⟩
  subst hw3
  go_wp2_with fail
  refine (usageAt (h.below hT hb2') _ _ _ ks vs s gees (hk.below hb2') (hv.below hb2').all (he.below hb2') HL.out hb1 hb2 hUs).mono ?_
  rintro e w4 ⟨hb4, rfl⟩
  rw [hc]
  have hb4' : Below w1.heap.size w1 w4 := hb2'.trans ⟨hb4.os, hb4.tape, hb4.output, hb4.size, fun k hk => hb4.block k (Nat.lt_of_lt_of_le hk hb2'.size)⟩
  go_wp2_with fail
  refine (zzLen (h.below hT hb4')).mono ?_
  rintro e w5 ⟨rfl, hw5⟩
  subst hw5
  have hg1 : (((n : Nat) : Int) != (ks.length : Int) + (c : Int)) = false := by rw [hN]; simp
  have hg2 : ((ks.length : Int) + (c : Int)) = ((n : Nat) : Int) := by rw [hN]; simp
  clear hN
  go_wp2_with fail
  refine (usageKept (h.below hT hb4') _ _ ks vs s s (hk.below hb4') (hv.below hb4').all HL.out hn hb1 hb3 hUo).mono ?_
  rintro e w6 ⟨rfl, m6, rfl⟩
  go_wp2
  go_ret
  exact ⟨below_drewN' hb4', rfl⟩

set_option maxHeartbeats 1000000 in
/-- (14) twoSchemasStateZZ -/
theorem twoState (h : St w T F p gv (.map (some b)) gs f U n) (hT : ∀ k, T k → k < w.heap.size) (wv kv vv ev dv : Value) (ks : List ByteArray) (vs : List (List ByteArray)) (s1 s2 : ByteArray) (g1 g2 : List ByteArray) (hw : Reads w wv (strs gs)) (hk : Reads w kv (strs ks)) (hv : VAt (fun k => k < w.heap.size) w vv vs) (he : Reads w ev (strs g1)) (hd : Reads w dv (strs g2))
    (hl : ks.length = vs.length) (hn : ks.Nodup) (hb0 : gs.length ≤ 1000000000) (hb1 : ks.length ≤ 1000000000) (hb3 : ∀ i, i < vs.length → (vs.getD i []).length ≤ 1000000000) (hb2 : ((look ks vs s1).getD []).length + g1.length ≤ 1000000000) (hb4 : ((look ks vs s2).getD []).length + g2.length ≤ 1000000000)
    (hU1 : U s1 = foldO (look ks vs s1) g1) (hU2 : U s2 = foldO (look ks vs s2) g2) (hUo : ∀ k, k ≠ s1 → k ≠ s2 → U k = look ks vs k)
    (hN : n = ks.length + cntO (look ks vs s1) (foldO (look ks vs s1) g1) + cntO (look ks vs s2) (foldO (look ks vs s2) g2)) :
    Calls Try.prog 14 #[.pointer (some ⟨p, 0, none⟩), wv, kv, vv, .string s1, ev, .string s2, dv] w fun e w' => Below w.heap.size w w' ∧ e = .returned (.bool true) := by
  obtain ⟨wa, wc, hwe⟩ := hw.form
  obtain ⟨ka, kc, hke⟩ := hk.form
  obtain ⟨va, vc, hve⟩ := hv.form
  obtain ⟨ea, ec, hee⟩ := he.form
  obtain ⟨da, dc, hde⟩ := hd.form
  obtain ⟨ga, gn, gc, rfl⟩ := h.mine.shape
  rw [strs_len] at hwe hke hee hde
  subst hwe hke hve hee hde
  have HL : Hid (ks.length = vs.length) := hl
  obtain ⟨c, hc⟩ : ∃ c, cntO (look ks vs s1) (foldO (look ks vs s1) g1) = c := ⟨_, rfl⟩
  obtain ⟨d, hd'⟩ : ∃ c, cntO (look ks vs s2) (foldO (look ks vs s2) g2) = c := ⟨_, rfl⟩
  have hc1 : c ≤ 1 := by rw [← hc]; unfold cntO; split <;> (try split) <;> omega
  have hd1 : d ≤ 1 := by rw [← hd']; unfold cntO; split <;> (try split) <;> omega
  have hg := zzGrants h
  have hsame := sameStrs _ _ gs gs w h.mine.reads hw hb0 hb0
  rw [show decide (gs = gs) = true from by simp] at hsame
  clear hl
  rw [hc, hd'] at hN
  go_enter Try.func14, Try.ntmps14
  go_wp2_with fail
  refine hg.mono ?_
  rintro e w1 ⟨rfl, hw1⟩
  subst hw1
  go_wp2_with fail
  refine hsame.mono ?_
  rintro e w2 ⟨rfl, m2, hw2⟩
  have hb2' : Below w1.heap.size w1 w2 := by rw [hw2]; exact below_drewN' (Below.refl _ _)
  clear hw2 hg hsame
  go_wp2_with fail
  refine (zzIsNil (h.below hT hb2')).mono ?_
  rintro e w3 ⟨rfl, hw3⟩
  subst hw3
  go_wp2_with fail
  refine (usageAt (h.below hT hb2') _ _ _ ks vs s1 g1 (hk.below hb2') (hv.below hb2').all (he.below hb2') HL.out hb1 hb2 hU1).mono ?_
  rintro e w4 ⟨hq4, rfl⟩
  rw [hc]
  have hb4' : Below w1.heap.size w1 w4 := hb2'.trans ⟨hq4.os, hq4.tape, hq4.output, hq4.size, fun k hk => hq4.block k (Nat.lt_of_lt_of_le hk hb2'.size)⟩
  go_wp2_with fail
  refine (usageAt (h.below hT hb4') _ _ _ ks vs s2 g2 (hk.below hb4') (hv.below hb4').all (hd.below hb4') HL.out hb1 hb4 hU2).mono ?_
  rintro e w7 ⟨hq7, rfl⟩
  rw [hd']
  have hb7' : Below w1.heap.size w1 w7 := hb4'.trans ⟨hq7.os, hq7.tape, hq7.output, hq7.size, fun k hk => hq7.block k (Nat.lt_of_lt_of_le hk hb4'.size)⟩
  go_wp2_with fail
  refine (zzLen (h.below hT hb7')).mono ?_
  rintro e w5 ⟨rfl, hw5⟩
  subst hw5
  have hg1 : (((n : Nat) : Int) != (ks.length : Int) + (c : Int) + (d : Int)) = false := by rw [hN]; simp
  have hg2 : ((ks.length : Int) + (c : Int) + (d : Int)) = ((n : Nat) : Int) := by rw [hN]; simp
  clear hN
  go_wp2_with fail
  refine (usageKept (h.below hT hb7') _ _ ks vs s1 s2 (hk.below hb7') (hv.below hb7').all HL.out hn hb1 hb3 hUo).mono ?_
  rintro e w6 ⟨rfl, m6, rfl⟩
  go_wp2
  go_ret
  exact ⟨below_drewN' hb7', rfl⟩

end
end Go.Proofs.Qxb6619367a
