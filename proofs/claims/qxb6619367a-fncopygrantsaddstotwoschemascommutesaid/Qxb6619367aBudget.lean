/- The budgets; the receiver's fitness (seat b6619367a). -/
import Derived.Test.Qxb6619367aJoin
namespace Go.Proofs.Qxb6619367a
open Go.RowKit

/-- What a budget answers: some number, at least -1. -/
def BPost (w : World) (e : Ending) (w' : World) : Prop := w' = w ∧ ∃ r : Int, -1 ≤ r ∧ r ≤ 1048576 ∧ e = .returned (.int .i64 r)

set_option maxHeartbeats 400000 in
/-- (7) budgetStrsZZ -/
theorem budgetStrs (v : Value) (ss : List ByteArray) (r : Int) (w : World) (h : Reads w v (strs ss)) (hm : ss.length ≤ 1000000000) (hr0 : -1 ≤ r) (hr1 : r ≤ 1048576) :
    Calls Try.prog 7 #[v, .int .i64 r] w (BPost w) := by
  obtain ⟨a, c, hv⟩ := h.form
  rw [strs_len] at hv
  subst hv
  by_cases hneg : r < 0
  · go_enter Try.func7, Try.ntmps7
    go_wp2
    go_ret
    exact ⟨rfl, -1, by omega, by omega, rfl⟩
  · have hr2 : 0 ≤ r := by omega
    go_enter Try.func7, Try.ntmps7
    go_wp2
    go_loopw [1, 5] (fun x i wr => ∃ (k : Nat) (r : Int), k ≤ ss.length ∧ i = .int .i64 k ∧ wr = w ∧ x = .int .i64 r ∧ 0 ≤ r ∧ r ≤ 1048576) (fun _ i _ => ss.length - (intOf i).toNat)
    case atStart => exact ⟨0, r, Nat.zero_le _, rfl, rfl, rfl, by omega, by omega⟩
    case round =>
      clear hr0 hr1 hneg hr2
      obtain ⟨k, r, hk, rfl, rfl, rfl, hr0, hr1⟩ := hrel
      by_cases hlt : k < ss.length
      · obtain ⟨b, o, _, hq, hc⟩ := h.str hlt
        simp only [Value.slice.injEq] at hq
        obtain ⟨rfl, _, rfl⟩ := hq
        have q := hc k hlt
        obtain ⟨y, hy⟩ : ∃ y, ss.getD k ⟨#[]⟩ = y := ⟨_, rfl⟩
        rw [hy] at q
        have g1 : (0 : Int) ≤ (k : Int) := by omega
        have g2 : (k : Int) < (ss.length : Int) := by omega
        clear hc hy
        by_cases h16 : r < 16
        · go_wp2
          go_ret
          exact ⟨rfl, -1, by omega, by omega, rfl⟩
        · by_cases hs : (y.size : Int) > r - 16
          · go_wp2
            go_ret
            exact ⟨rfl, -1, by omega, by omega, rfl⟩
          · go_wp2
            go_roundw
            case rel => exact ⟨k + 1, r - 16 - y.size, by omega, by go_num, trivial, rfl, by omega, by omega⟩
            case measure => simp [intOf]; omega
      · go_wp2
        go_ret
        exact ⟨rfl, r, by omega, by omega, rfl⟩

set_option maxHeartbeats 400000 in
/-- (6) budgetGrantsZZ -/
theorem budgetGrants (gv kv vv : Value) (gs ks : List ByteArray) (vs : List (List ByteArray)) (w : World) (hg : Reads w gv (strs gs)) (hk : Reads w kv (strs ks)) (hv : VAt (fun _ => True) w vv vs)
    (hb1 : gs.length ≤ 1000000000) (hb2 : ks.length ≤ 1000000000) (hb3 : vs.length ≤ 1000000000) (hb4 : ∀ i, i < vs.length → (vs.getD i []).length ≤ 1000000000) :
    Calls Try.prog 6 #[gv, kv, vv, .int .i64 1048576] w (BPost w) := by
  obtain ⟨ga, gc, hge⟩ := hg.form
  obtain ⟨ka, kc, hke⟩ := hk.form
  obtain ⟨va, vc, hve⟩ := hv.form
  rw [strs_len] at hge hke
  subst hge hke hve
  go_enter Try.func6, Try.ntmps6
  go_wp2_with fail
  refine (budgetStrs _ gs _ w hg hb1 (by omega) (by omega)).mono ?_
  rintro e w1 ⟨hw, r1, h1, h1', rfl⟩
  subst hw
  go_wp2_with fail
  refine (budgetStrs _ ks _ w1 hk hb2 (by omega) (by omega)).mono ?_
  rintro e w2 ⟨hw, r2, h2, h2', rfl⟩
  subst hw
  clear h1 h1'
  go_wp2
  go_loopw [3, 9] (fun x i wr => ∃ (k : Nat) (r : Int), k ≤ vs.length ∧ i = .int .i64 k ∧ wr = w2 ∧ x = .int .i64 r ∧ -1 ≤ r ∧ r ≤ 1048576) (fun _ i _ => vs.length - (intOf i).toNat)
  case atStart => exact ⟨0, r2, Nat.zero_le _, rfl, rfl, rfl, by omega, by omega⟩
  case round =>
    clear h2 h2'
    obtain ⟨k, r, hk', rfl, rfl, rfl, hr0, hr1⟩ := hrel
    by_cases hlt : k < vs.length
    · obtain ⟨b2, o2, _, hq2, hc2⟩ := hv.get (j := k) hlt
      simp only [Value.slice.injEq] at hq2
      obtain ⟨rfl, _, rfl⟩ := hq2
      obtain ⟨a3, c3, q, hr3⟩ := hc2 k hlt
      have hb5 := hb4 k hlt
      obtain ⟨l, hll⟩ : ∃ l, vs.getD k [] = l := ⟨_, rfl⟩
      rw [hll] at q hr3 hb5
      have g1 : (0 : Int) ≤ (k : Int) := by omega
      have g2 : (k : Int) < (vs.length : Int) := by omega
      clear hc2 hll
      by_cases h24 : r < 24
      · go_wp2
        go_ret
        exact ⟨rfl, -1, by omega, by omega, rfl⟩
      · by_cases hs : (l.length : Int) > 4096
        · go_wp2
          go_ret
          exact ⟨rfl, -1, by omega, by omega, rfl⟩
        · go_wp2_with fail
          refine (budgetStrs _ l _ _ hr3.1 hb5 (by omega) (by omega)).mono ?_
          rintro e w3 ⟨hw, r3, h3, h3', rfl⟩
          subst hw
          by_cases hn : r3 < 0
          · go_wp2
            go_ret
            exact ⟨rfl, -1, by omega, by omega, rfl⟩
          · go_wp2
            go_roundw
            case rel => exact ⟨k + 1, r3, by omega, by go_num, trivial, rfl, by omega, by omega⟩
            case measure => simp [intOf]; omega
    · go_wp2
      go_ret
      exact ⟨rfl, r, by omega, by omega, rfl⟩

/-- What receiverFitsZZ answers. -/
def FPost (ks : List ByteArray) (vs : List (List ByteArray)) (w : World) (e : Ending) (w' : World) : Prop := (∃ n, w' = w.drewN n) ∧ ∃ r : Bool, e = .returned (.bool r) ∧ (r = true → ks.length = vs.length ∧ ks.Nodup)

theorem nodup_snoc {l : List ByteArray} {x : ByteArray} (h : l.Nodup) (hx : x ∉ l) : (l ++ [x]).Nodup := by
  rw [List.nodup_append]
  exact ⟨h, by simp, fun a ha b hb => by simp at hb; subst hb; exact fun e => hx (e ▸ ha)⟩

set_option maxHeartbeats 400000 in
/-- (8) receiverFitsZZ -/
theorem receiverFits (kv vv : Value) (ks : List ByteArray) (vs : List (List ByteArray)) (w : World) (hk : Reads w kv (strs ks)) (hv : VAt (fun _ => True) w vv vs) (hb1 : ks.length ≤ 1000000000) :
    Calls Try.prog 8 #[kv, vv] w (FPost ks vs w) := by
  obtain ⟨ka, kc, hke⟩ := hk.form
  obtain ⟨va, vc, hve⟩ := hv.form
  rw [strs_len] at hke
  subst hke hve
  by_cases hl : ks.length = vs.length
  · have hne : ((ks.length : Int) != (vs.length : Int)) = false := by simp [hl]
    have HL : Hid (ks.length = vs.length) := hl
    clear hl hv
    go_enter Try.func8, Try.ntmps8
    go_wp2
    go_loopw [5] (fun i wr => ∃ k : Nat, k ≤ ks.length ∧ i = .int .i64 k ∧ (∃ n, wr = w.drewN n) ∧ (ks.take k).Nodup) (fun i _ => ks.length - (intOf i).toNat)
    case atStart => exact ⟨0, Nat.zero_le _, rfl, ⟨0, rfl⟩, by simp⟩
    case round =>
      obtain ⟨k, hk', rfl, ⟨n, rfl⟩, hnd⟩ := hrel
      by_cases hlt : k < ks.length
      · obtain ⟨b, o, _, hq, hc⟩ := hk.str hlt
        simp only [Value.slice.injEq] at hq
        obtain ⟨rfl, _, rfl⟩ := hq
        have q := hc k hlt
        have e1 := take_getD ks k ⟨#[]⟩ hlt
        obtain ⟨y, hy⟩ : ∃ y, ks.getD k ⟨#[]⟩ = y := ⟨_, rfl⟩
        rw [hy] at q e1
        have g1 : (0 : Int) ≤ (k : Int) := by omega
        have g2 : (k : Int) < (ks.length : Int) := by omega
        clear hy
        go_wp2
        go_loopw [6] (fun i wr => ∃ j : Nat, j ≤ k ∧ i = .int .i64 j ∧ (∃ n, wr = w.drewN n) ∧ y ∉ ks.take j) (fun i _ => k - (intOf i).toNat)
        case atStart => exact ⟨0, Nat.zero_le _, rfl, ⟨n, rfl⟩, by simp⟩
        case round =>
          obtain ⟨j, hj, rfl, ⟨n, rfl⟩, hno⟩ := hrel
          by_cases hjk : j < k
          · have hjl : j < ks.length := by omega
            have q2 := hc j hjl
            have hst := mem_take_succ (x := y) hjl hno
            obtain ⟨z, hz⟩ : ∃ y, ks.getD j ⟨#[]⟩ = y := ⟨_, rfl⟩
            rw [hz] at q2 hst
            have g3 : (0 : Int) ≤ (j : Int) := by omega
            have g4 : (j : Int) < (ks.length : Int) := by omega
            clear hc hz
            by_cases hyz : y = z
            · subst hyz
              go_wp2
              go_quiet (fail)
              go_wp2
              go_ret
              exact ⟨⟨_, World.drewN_drewN ..⟩, false, rfl, fun h => by cases h⟩
            · have hb := same_ne hyz
              go_wp2
              go_quiet (fail)
              go_wp2
              go_roundw
              case rel => exact ⟨j + 1, by omega, by go_num, ⟨n + nq, rfl⟩, hst (Ne.symm hyz)⟩
              case measure => simp [intOf]; omega
          · obtain rfl : j = k := by omega
            have hnd' := nodup_snoc hnd hno
            rw [← e1] at hnd'
            clear hc
            go_wp2
            go_roundw
            case rel => exact ⟨j + 1, by omega, by go_num, ⟨n, rfl⟩, hnd'⟩
            case measure => simp [intOf]; omega
      · go_wp2
        go_ret
        rw [List.take_of_length_le (by omega)] at hnd
        exact ⟨⟨n, rfl⟩, true, rfl, fun _ => ⟨HL.out, hnd⟩⟩
  · have hne : ((ks.length : Int) != (vs.length : Int)) = true := by simp; omega
    go_enter Try.func8, Try.ntmps8
    go_wp2
    go_ret
    exact ⟨⟨0, rfl⟩, false, rfl, fun h => by cases h⟩

end Go.Proofs.Qxb6619367a
