/- usageKeptZZ (seat b6619367a). -/
import Derived.Test.Qxb6619367aCheck
namespace Go.Proofs.Qxb6619367a
open Go.RowKit

theorem enter27 (args : Array Value) (w : World) : (callFunc 27 args).run Try.prog w = .ok (.enter 27 args) w := by kernel_rfl
theorem enter18 (args : Array Value) (w : World) : (callFunc 18 args).run Try.prog w = .ok (.enter 18 args) w := by kernel_rfl

theorem look_nodup {ks : List ByteArray} {vs : List (List ByteArray)} (hl : ks.length = vs.length) (hn : ks.Nodup) {k : Nat} (hk : k < ks.length) : look ks vs (ks.getD k ⟨#[]⟩) = some (vs.getD k []) := by
  refine look_at ks vs _ k hk (by omega) ?_ rfl
  intro hm
  obtain ⟨j, hj, he⟩ := List.getElem_of_mem hm
  rw [List.length_take] at hj
  rw [List.getElem_take] at he
  have : ks.getD k ⟨#[]⟩ = ks[k] := by simp [hk]
  rw [this] at he
  exact List.pairwise_iff_getElem.1 hn j k (by omega) hk (by omega) he

section
variable {w : World} {T F : Nat → Prop} {p : Nat} {gv mv : Value} {gs : List ByteArray} {f : ByteArray → Option Value} {U : ByteArray → Option (List ByteArray)} {n b : Nat}

theorem St.drewN (h : St w T F p gv mv gs f U n) (m : Nat) : St (w.drewN m) T F p gv mv gs f U n := h.kept (S := fun _ => False) ⟨rfl, rfl, rfl, Nat.le_refl _, fun _ _ _ => rfl⟩ (fun _ _ h => h)
theorem VAt.drewN {F : Nat → Prop} {v : Value} {vs : List (List ByteArray)} (h : VAt F w v vs) (m : Nat) : VAt F (w.drewN m) v vs := h.kept (S := fun _ => False) ⟨rfl, rfl, rfl, Nat.le_refl _, fun _ _ _ => rfl⟩ (fun _ _ h => h)

set_option maxHeartbeats 1000000 in
/-- (23) usageKeptZZ -/
theorem usageKept (h : St w T F p gv (.map (some b)) gs f U n) (kv vv : Value) (ks : List ByteArray) (vs : List (List ByteArray)) (s1 s2 : ByteArray) (hk : Reads w kv (strs ks)) (hv : VAt (fun _ => True) w vv vs)
    (hl : ks.length = vs.length) (hn : ks.Nodup) (hb1 : ks.length ≤ 1000000000) (hb2 : ∀ i, i < vs.length → (vs.getD i []).length ≤ 1000000000) (hU : ∀ k, k ≠ s1 → k ≠ s2 → U k = look ks vs k) :
    Calls Try.prog 23 #[.pointer (some ⟨p, 0, none⟩), kv, vv, .string s1, .string s2] w fun e w' => e = .returned (.bool true) ∧ ∃ n, w' = w.drewN n := by
  obtain ⟨ka, kc, hke⟩ := hk.form
  obtain ⟨va, vc, hve⟩ := hv.form
  rw [strs_len] at hke
  subst hke hve
  have HL : Hid (ks.length = vs.length) := hl
  have hlook := fun k (h : k < ks.length) => look_nodup hl hn h
  clear hl
  go_enter Try.func23, Try.ntmps23
  go_wp2
  go_loopw [11] (fun i wr => ∃ k : Nat, k ≤ ks.length ∧ i = .int .i64 k ∧ ∃ n, wr = w.drewN n) (fun i _ => ks.length - (intOf i).toNat)
  case atStart => exact ⟨0, Nat.zero_le _, rfl, 0, rfl⟩
  case round =>
    obtain ⟨k, hk', rfl, m, rfl⟩ := hrel
    by_cases hlt : k < ks.length
    · obtain ⟨b1, o1, _, hq, hc⟩ := hk.str hlt
      simp only [Value.slice.injEq] at hq
      obtain ⟨rfl, _, rfl⟩ := hq
      obtain ⟨b2, o2, _, hq2, hc2⟩ := hv.get (j := k) (by have := HL.out; omega)
      simp only [Value.slice.injEq] at hq2
      obtain ⟨rfl, _, rfl⟩ := hq2
      have q := hc k hlt
      have hltv : k < vs.length := by have := HL.out; omega
      obtain ⟨a3, c3, q2, hr3⟩ := hc2 k hltv
      have hlk := hlook k hlt
      have hb4 := hb2 k hltv
      obtain ⟨y, hy⟩ : ∃ y, ks.getD k ⟨#[]⟩ = y := ⟨_, rfl⟩
      obtain ⟨l, hll⟩ : ∃ l, vs.getD k [] = l := ⟨_, rfl⟩
      rw [hy] at q hlk
      rw [hll] at q2 hr3 hlk hb4
      have g1 : (0 : Int) ≤ (k : Int) := by omega
      have g2 : (k : Int) < (ks.length : Int) := by omega
      have g3 : (k : Int) < (vs.length : Int) := by omega
      have Hlk : Hid (look ks vs y = some l) := hlk
      clear hc hc2 hy hll hlk hlook
      by_cases h1 : y = s1
      · subst h1
        clear hU
        go_wp2
        go_roundw
        case rel => exact ⟨k + 1, by omega, by go_num, m, rfl⟩
        case measure => simp [intOf]; omega
      · have e1 := same_ne h1
        by_cases h2 : y = s2
        · subst h2
          clear hU
          go_wp2
          go_roundw
          case rel => exact ⟨k + 1, by omega, by go_num, m, rfl⟩
          case measure => simp [intOf]; omega
        · have e2 := same_ne h2
          have hUy := hU y h1 h2
          rw [Hlk.out] at hUy
          have hhas := zzHas (h.drewN m) y
          rw [hUy] at hhas
          obtain ⟨hat, _, _⟩ := h.us.at y
          rw [hUy] at hat
          have husage := zzUsage (h.drewN (m + 1)) y
          obtain ⟨ov, hov⟩ : ∃ ov, (f y).getD (.slice none 0 0) = ov := ⟨_, rfl⟩
          rw [hov] at husage hat
          obtain ⟨oa, on, oc, rfl⟩ := hat.shape
          simp only [Option.isSome_some, Option.getD_some] at hhas hat
          clear hU hUy hov
          go_wp2_with fail
          refine hhas.mono ?_
          rintro e w1 ⟨rfl, hw⟩
          subst hw
          clear hhas
          go_wp2
          rename_i K hKK
          have hSd : ∀ j, (w.drewN j).cell? ⟨b1, o1 + k, none⟩ = some (.string y) ∧ (w.drewN j).cell? ⟨b2, o2 + k, none⟩ = some (.slice a3 l.length c3) := fun j => ⟨q, q2⟩
          refine wp_region_held (S := fun w' => w'.cell? ⟨b1, o1 + k, none⟩ = some (.string y) ∧ w'.cell? ⟨b2, o2 + k, none⟩ = some (.slice a3 l.length c3)) (by kernel_rfl) ?_
          change wpAnyH _ _ _ _ _ 12 (Array.replicate 12 false) _ (w.drewN (m + 1))
          refine wpAnyH_take (i := 0) (v := .pointer (some ⟨p, 0, none⟩)) rfl (by kernel_rfl) (by kernel_rfl) (by kernel_rfl) (fun _ _ _ h => h) (.inl ⟨by kernel_rfl, fun w' _ => by kernel_rfl⟩) (hSd _) ?_
          refine wpAnyH_take (i := 1) (v := .slice (some ⟨b1, o1, none⟩) ks.length kc) rfl (by kernel_rfl) (by kernel_rfl) (by kernel_rfl) (fun _ _ _ h => h) (.inl ⟨by kernel_rfl, fun w' _ => by kernel_rfl⟩) (hSd _) ?_
          refine wpAnyH_take (i := 2) (v := .int .i64 k) rfl (by kernel_rfl) (by kernel_rfl) (by kernel_rfl) (fun _ _ _ h => h) (.inl ⟨by kernel_rfl, fun w' _ => by kernel_rfl⟩) (hSd _) ?_
          refine wpAnyH_take (i := 3) (v := .pointer (some ⟨b1, o1 + k, none⟩)) rfl (by kernel_rfl) (by kernel_rfl) (by kernel_rfl) (fun _ _ _ h => h) (.inl ⟨by kernel_rfl, fun w' _ => run_idx22 _ _ (.tmp 40) (.tmp 41) rfl b1 o1 ks.length kc k (by kernel_rfl) (by kernel_rfl) hlt w'⟩) (hSd _) ?_
          refine wpAnyH_take (i := 4) (v := .string y) rfl (by kernel_rfl) (by kernel_rfl) (by kernel_rfl) (fun _ _ _ h => h) (yLoad (by kernel_rfl) 9 (.tmp 42) rfl b1 (o1 + k) (by kernel_rfl) _ (fun _ h => h.1) _ Try.underlying9 rfl) (hSd _) ?_
          refine wpAnyH_take (i := 6) (v := .slice (some ⟨b2, o2, none⟩) vs.length vc) rfl (by kernel_rfl) (by kernel_rfl) (by kernel_rfl) (fun _ _ _ h => h) (.inl ⟨by kernel_rfl, fun w' _ => by kernel_rfl⟩) (hSd _) ?_
          refine wpAnyH_take (i := 7) (v := .int .i64 k) rfl (by kernel_rfl) (by kernel_rfl) (by kernel_rfl) (fun _ _ _ h => h) (.inl ⟨by kernel_rfl, fun w' _ => by kernel_rfl⟩) (hSd _) ?_
          refine wpAnyH_take (i := 8) (v := .pointer (some ⟨b2, o2 + k, none⟩)) rfl (by kernel_rfl) (by kernel_rfl) (by kernel_rfl) (fun _ _ _ h => h) (.inl ⟨by kernel_rfl, fun w' _ => run_idx23 _ _ (.tmp 45) (.tmp 46) rfl b2 o2 vs.length vc k (by kernel_rfl) (by kernel_rfl) hltv w'⟩) (hSd _) ?_
          refine wpAnyH_take (i := 9) (v := .slice a3 l.length c3) rfl (by kernel_rfl) (by kernel_rfl) (by kernel_rfl) (fun _ _ _ h => h) (yLoad (by kernel_rfl) 22 (.tmp 47) rfl b2 (o2 + k) (by kernel_rfl) _ (fun _ h => h.2) _ Try.underlying22 rfl) (hSd _) ?_
          refine wpAnyH_act (l' := #[true, true, true, true, true, false, true, true, true, true, false, false]) (a' := ⟨#[.pointer (some ⟨p, 0, none⟩), .slice (some ⟨b1, o1, none⟩) ks.length kc, .slice (some ⟨b2, o2, none⟩) vs.length vc, .string s1, .string s2, undef, undef, undef, undef, undef, u10, .int .i64 k, .int .i64 k, .slice (some ⟨b1, o1, none⟩) ks.length kc, .int .i64 ks.length, .bool true, u16, u17, .slice (some ⟨b1, o1, none⟩) ks.length kc, .int .i64 k, .pointer (some ⟨b1, o1 + k, none⟩), .string y, .string s1, .bool false, .bool false, .slice (some ⟨b1, o1, none⟩) ks.length kc, .int .i64 k, .pointer (some ⟨b1, o1 + k, none⟩), .string y, .string s2, .bool false, .bool false, .pointer (some ⟨p, 0, none⟩), .slice (some ⟨b1, o1, none⟩) ks.length kc, .int .i64 k, .pointer (some ⟨b1, o1 + k, none⟩), .string y, .bool true, .bool false, .pointer (some ⟨p, 0, none⟩), .slice (some ⟨b1, o1, none⟩) ks.length kc, .int .i64 k, .pointer (some ⟨b1, o1 + k, none⟩), .string y, u44, .slice (some ⟨b2, o2, none⟩) vs.length vc, .int .i64 k, .pointer (some ⟨b2, o2 + k, none⟩), .slice a3 l.length c3, u49, u50], []⟩) (by kernel_rfl) (by kernel_rfl) ?_
          refine wpAnyH_all (rs := [5]) (by kernel_rfl) (by simp) ?_
          intro i hi
          obtain rfl : i = 5 := by simpa using hi
          refine .inl (wp_call 27 #[.tmp 39, .tmp 43] #[28, 9] rfl #[.pointer (some ⟨p, 0, none⟩), .string y] (by kernel_rfl) (enter27 _ _) husage ?_)
          rintro e w1 ⟨rfl, hw⟩
          subst hw
          refine ⟨_, rfl, hSd _, ?_⟩
          refine wpAnyH_act (l' := #[true, true, true, true, true, true, true, true, true, true, false, false]) (a' := ⟨#[.pointer (some ⟨p, 0, none⟩), .slice (some ⟨b1, o1, none⟩) ks.length kc, .slice (some ⟨b2, o2, none⟩) vs.length vc, .string s1, .string s2, undef, undef, undef, undef, undef, u10, .int .i64 k, .int .i64 k, .slice (some ⟨b1, o1, none⟩) ks.length kc, .int .i64 ks.length, .bool true, u16, u17, .slice (some ⟨b1, o1, none⟩) ks.length kc, .int .i64 k, .pointer (some ⟨b1, o1 + k, none⟩), .string y, .string s1, .bool false, .bool false, .slice (some ⟨b1, o1, none⟩) ks.length kc, .int .i64 k, .pointer (some ⟨b1, o1 + k, none⟩), .string y, .string s2, .bool false, .bool false, .pointer (some ⟨p, 0, none⟩), .slice (some ⟨b1, o1, none⟩) ks.length kc, .int .i64 k, .pointer (some ⟨b1, o1 + k, none⟩), .string y, .bool true, .bool false, .pointer (some ⟨p, 0, none⟩), .slice (some ⟨b1, o1, none⟩) ks.length kc, .int .i64 k, .pointer (some ⟨b1, o1 + k, none⟩), .string y, .slice oa on oc, .slice (some ⟨b2, o2, none⟩) vs.length vc, .int .i64 k, .pointer (some ⟨b2, o2 + k, none⟩), .slice a3 l.length c3, u49, u50], []⟩) (by kernel_rfl) (by kernel_rfl) ?_
          refine wpAnyH_all (rs := [10]) (by kernel_rfl) (by simp) ?_
          intro i hi
          obtain rfl : i = 10 := by simpa using hi
          have hsame := sameStrs (.slice oa on oc) (.slice a3 l.length c3) l l (w.drewN (m + 1)) hat.reads hr3.1 hb4 hb4
          refine .inl (wp_call 18 #[.tmp 44, .tmp 48] #[22, 22] rfl #[.slice oa on oc, .slice a3 l.length c3] (by kernel_rfl) (enter18 _ _) hsame ?_)
          rintro e w1 ⟨rfl, j, rfl⟩
          rw [World.drewN_drewN]
          refine ⟨_, rfl, hSd _, ?_⟩
          rw [show decide (l = l) = true from by simp]
          refine wpAnyH_take (i := 11) (v := .bool false) rfl (by kernel_rfl) (by kernel_rfl) (by kernel_rfl) (fun _ _ _ h => h) (.inl ⟨by kernel_rfl, fun w' _ => by kernel_rfl⟩) (hSd _) ?_
          refine wpAnyH_act (l' := #[true, true, true, true, true, true, true, true, true, true, true, true]) (a' := ⟨#[.pointer (some ⟨p, 0, none⟩), .slice (some ⟨b1, o1, none⟩) ks.length kc, .slice (some ⟨b2, o2, none⟩) vs.length vc, .string s1, .string s2, undef, undef, undef, undef, undef, u10, .int .i64 k, .int .i64 k, .slice (some ⟨b1, o1, none⟩) ks.length kc, .int .i64 ks.length, .bool true, u16, u17, .slice (some ⟨b1, o1, none⟩) ks.length kc, .int .i64 k, .pointer (some ⟨b1, o1 + k, none⟩), .string y, .string s1, .bool false, .bool false, .slice (some ⟨b1, o1, none⟩) ks.length kc, .int .i64 k, .pointer (some ⟨b1, o1 + k, none⟩), .string y, .string s2, .bool false, .bool false, .pointer (some ⟨p, 0, none⟩), .slice (some ⟨b1, o1, none⟩) ks.length kc, .int .i64 k, .pointer (some ⟨b1, o1 + k, none⟩), .string y, .bool true, .bool false, .pointer (some ⟨p, 0, none⟩), .slice (some ⟨b1, o1, none⟩) ks.length kc, .int .i64 k, .pointer (some ⟨b1, o1 + k, none⟩), .string y, .slice oa on oc, .slice (some ⟨b2, o2, none⟩) vs.length vc, .int .i64 k, .pointer (some ⟨b2, o2 + k, none⟩), .slice a3 l.length c3, .bool true, .bool false], []⟩) (by kernel_rfl) (by kernel_rfl) ?_
          refine wpAnyH_done (by kernel_rfl) ?_ _
          refine hKK _ _ ?_
          clear hsame husage hat q q2 hr3 hSd
          go_wp2
          go_roundw
          case rel => exact ⟨k + 1, by omega, by go_num, _, rfl⟩
          case measure => simp [intOf]; omega
    · go_wp2
      go_ret
      exact ⟨rfl, m, rfl⟩
end

end Go.Proofs.Qxb6619367a
