/- The law's own checks of a state (seat b6619367a). -/
import Derived.Test.Qxb6619367aMake
namespace Go.Proofs.Qxb6619367a
open Go.RowKit

theorem Below.reads {w w' : World} {v : Value} {xs : List Value} (hb : Below w.heap.size w w') (h : Reads w v xs) : Reads w' v xs := h.below hb
theorem below_drewN' {w w' : World} {n : Nat} (h : Below w.heap.size w w') : Below w.heap.size w (w'.drewN n) := ⟨h.os, h.tape, h.output, h.size, h.block⟩

section
variable {w : World} {T F : Nat → Prop} {p : Nat} {gv mv : Value} {gs : List ByteArray} {f : ByteArray → Option Value} {U : ByteArray → Option (List ByteArray)} {n b : Nat}

theorem St.below {w' : World} (h : St w T F p gv mv gs f U n) (hT : ∀ k, T k → k < w.heap.size) (hb : Below w.heap.size w w') : St w' T F p gv mv gs f U n :=
  h.kept (Kept.of_below hb) fun k hk e => by have := hT k hk; omega

set_option maxHeartbeats 1000000 in
/-- (21) usageAtZZ -/
theorem usageAt (h : St w T F p gv (.map (some b)) gs f U n) (kv vv ev : Value) (ks : List ByteArray) (vs : List (List ByteArray)) (s : ByteArray) (gees : List ByteArray) (hk : Reads w kv (strs ks)) (hv : VAt (fun _ => True) w vv vs) (he : Reads w ev (strs gees))
    (hl : ks.length = vs.length) (hb1 : ks.length ≤ 1000000000) (hb2 : ((look ks vs s).getD []).length + gees.length ≤ 1000000000) (hU : U s = foldO (look ks vs s) gees) :
    Calls Try.prog 21 #[.pointer (some ⟨p, 0, none⟩), kv, vv, .string s, ev] w fun e w' => Below w.heap.size w w' ∧ e = .returned (.tuple #[.bool true, .int .i64 (cntO (look ks vs s) (foldO (look ks vs s) gees))]) := by
  obtain ⟨ka, kc, hke⟩ := hk.form
  obtain ⟨va, vc, hve⟩ := hv.form
  obtain ⟨ea, ec, hee⟩ := he.form
  rw [strs_len] at hke hee
  have hlook := lookup (fun _ => True) kv vv ks vs s w hk hv hl hb1
  have hhas := zzHas h s
  have husage := zzUsage h s
  obtain ⟨hat, _, _⟩ := h.us.at s
  have hsome := foldO_isSome (look ks vs s) gees
  have hgd := foldO_getD gees (look ks vs s)
  rw [hU] at hhas hat
  rw [hgd] at hat
  obtain ⟨o, ho⟩ : ∃ o, look ks vs s = o := ⟨_, rfl⟩
  rw [ho] at hlook hhas hat hsome hb2 ⊢
  obtain ⟨ov, hov⟩ : ∃ ov, (f s).getD (.slice none 0 0) = ov := ⟨_, rfl⟩
  rw [hov] at husage hat
  obtain ⟨oa, on, oc, rfl⟩ := hat.shape
  subst hke hve hee
  have hgl := grant_len gees (o.getD [])
  clear h hk hv hl hU hgd ho hov
  by_cases hp : o.isSome = true
  · obtain ⟨l, rfl⟩ := Option.isSome_iff_exists.1 hp
    have hs : (foldO (some l) gees).isSome = true := by rw [hsome]; rfl
    have hcn : cntO (some l) (foldO (some l) gees) = 0 := rfl
    rw [hcn]
    rw [hs] at hhas
    simp only [Option.getD_some] at *
    clear hsome hs hcn hp
    go_enter Try.func21, Try.ntmps21
    go_wp2_with fail
    refine hlook.mono ?_
    rintro e w' ⟨hw, a1, c1, rfl, hr1⟩
    subst hw
    go_wp2_with fail
    refine hhas.mono ?_
    rintro e w1 ⟨rfl, hw⟩
    subst hw
    go_wp2_with fail
    refine husage.mono ?_
    rintro e w2 ⟨rfl, hw⟩
    subst hw
    go_wp2_with fail
    refine (grantedAfter _ _ l gees _ hr1.1 he hb2).mono ?_
    rintro e w3 ⟨hb3, u, rfl, hm3, _⟩
    obtain ⟨ua, un, uc, rfl⟩ := hm3.shape
    go_wp2_with fail
    refine (sameStrs _ _ _ _ _ (hat.reads.below hb3) hm3.reads (by omega) (by omega)).mono ?_
    rintro e w4 ⟨rfl, nn, rfl⟩
    go_wp2
    go_ret2
    exact ⟨below_drewN' hb3, by simp⟩
  · have : o = none := by cases o <;> simp_all
    subst this
    clear hp
    by_cases hz : gees = []
    · subst hz
      have hs : (foldO none []).isSome = false := rfl
      have hcn : cntO none (foldO none []) = 0 := rfl
      rw [hcn]
      rw [hs] at hhas
      clear hsome hs hcn
      go_enter Try.func21, Try.ntmps21
      go_wp2_with fail
      refine hlook.mono ?_
      rintro e w' ⟨hw, a1, c1, rfl, hr1⟩
      subst hw
      go_wp2_with fail
      refine hhas.mono ?_
      rintro e w1 ⟨rfl, hw⟩
      subst hw
      go_wp2
      go_ret2
      exact ⟨Below.refl _ _, rfl⟩
    · have hlen : 0 < gees.length := List.length_pos_iff.2 hz
      have hs : (foldO none gees).isSome = true := by rw [hsome]; simp [hz]
      have hcn : cntO none (foldO none gees) = 1 := by unfold cntO; rw [hs]; rfl
      rw [hcn]
      rw [hs] at hhas
      simp only [Option.getD_none] at *
      have hg0 : decide ((gees.length : Int) > 0) = true := by simp; omega
      have hg1 : (0 : Int) < (gees.length : Int) := by omega
      clear hsome hs hcn hz
      go_enter Try.func21, Try.ntmps21
      go_wp2_with fail
      refine hlook.mono ?_
      rintro e w' ⟨hw, a1, c1, rfl, hr1⟩
      subst hw
      go_wp2_with fail
      refine hhas.mono ?_
      rintro e w1 ⟨rfl, hw⟩
      subst hw
      go_wp2_with fail
      refine husage.mono ?_
      rintro e w2 ⟨rfl, hw⟩
      subst hw
      go_wp2_with fail
      refine (grantedAfter _ _ [] gees _ hr1.1 he hb2).mono ?_
      rintro e w3 ⟨hb3, u, rfl, hm3, _⟩
      obtain ⟨ua, un, uc, rfl⟩ := hm3.shape
      go_wp2_with fail
      refine (sameStrs _ _ _ _ _ (hat.reads.below hb3) hm3.reads (by omega) (by omega)).mono ?_
      rintro e w4 ⟨rfl, nn, rfl⟩
      go_wp2
      go_ret2
      exact ⟨below_drewN' hb3, by simp⟩
end

end Go.Proofs.Qxb6619367a
