/- zzBytes (seat b6619367a). Typed by program. -/
import Derived.Test.Qxb6619367aJoin
namespace Go.Proofs.Qxb6619367a
open Go.RowKit

def ZPost (vs : List (List ByteArray)) (w : World) (e : Ending) (w' : World) : Prop := w' = w ∧ ∃ r : Bool, e = .returned (.bool r) ∧ (r = true → ∀ i, i < vs.length → (vs.getD i []).length ≤ 1048576)

set_option maxRecDepth 20000 in
set_option maxHeartbeats 4000000 in
/-- (5) zzBytes -/
theorem zzBytes5 (gv kv vv av bv ev dv : Value) (g0 ks la lb g1 g2 : List ByteArray) (vs : List (List ByteArray)) (s1 : ByteArray) (w : World) (hG : Reads w gv (strs g0)) (hK : Reads w kv (strs ks)) (hV : VAt (fun _ => True) w vv vs) (hA : Reads w av (strs la)) (hB : Reads w bv (strs lb)) (hE : Reads w ev (strs g1)) (hD : Reads w dv (strs g2)) :
    Calls Try.prog 5 #[gv, kv, vv, .string s1, av, bv, ev, dv] w (ZPost vs w) := by
  obtain ⟨aG, cG, heG⟩ := hG.form
  obtain ⟨aK, cK, heK⟩ := hK.form
  obtain ⟨aV, cV, heV⟩ := hV.form
  obtain ⟨aA, cA, heA⟩ := hA.form
  obtain ⟨aB, cB, heB⟩ := hB.form
  obtain ⟨aE, cE, heE⟩ := hE.form
  obtain ⟨aD, cD, heD⟩ := hD.form
  rw [strs_len] at heG heK heA heB heE heD
  subst heG heK heV heA heB heE heD
  go_enter Try.func5, Try.ntmps5
  by_cases hLG : g0.length ≤ 1048576
  case neg =>
    have hLG' : 1048576 < g0.length := by omega
    go_wp2
    go_ret
    exact ⟨rfl, false, rfl, fun h => by cases h⟩
  have hSG : 0 + g0.length ≤ 1048576 := by omega
  go_wp2
  go_loop [17, 18] (fun n i => ∃ (t k : Nat), k ≤ g0.length ∧ t ≤ 1048576 ∧ n = .int .i64 t ∧ i = .int .i64 k) (fun _ i => g0.length - (intOf i).toNat)
  case atStart => exact ⟨0 + g0.length, 0, Nat.zero_le _, hSG, by go_num, rfl⟩
  case round =>
    obtain ⟨tG, kG, hk, htG, rfl, rfl⟩ := hrel
    by_cases hlt : kG < g0.length
    case pos =>
      obtain ⟨b, o, _, hq, hc⟩ := hG.str hlt
      simp only [Value.slice.injEq] at hq
      obtain ⟨rfl, _, rfl⟩ := hq
      have q := hc kG hlt
      obtain ⟨y, hy⟩ : ∃ y, g0.getD kG ⟨#[]⟩ = y := ⟨_, rfl⟩
      rw [hy] at q
      have gg1 : (0 : Int) ≤ (kG : Int) := by omega
      have gg2 : (kG : Int) < (g0.length : Int) := by omega
      clear hc hy
      by_cases hy1 : y.size ≤ 1048576
      case neg =>
        have hy1' : 1048576 < y.size := by omega
        go_wp2
        go_ret
        exact ⟨rfl, false, rfl, fun h => by cases h⟩
      by_cases hy2 : tG + y.size ≤ 1048576
      case neg =>
        have hy2' : 1048576 < tG + y.size := by omega
        go_wp2
        go_ret
        exact ⟨rfl, false, rfl, fun h => by cases h⟩
      go_wp2
      go_round
      case rel => exact ⟨tG + y.size, kG + 1, by omega, hy2, by go_num, by go_num⟩
      case measure => simp [intOf]; omega
    have hkk : kG = g0.length := by omega
    by_cases hLK : ks.length ≤ 1048576
    case neg =>
      have hLK' : 1048576 < ks.length := by omega
      go_wp2
      go_ret
      exact ⟨rfl, false, rfl, fun h => by cases h⟩
    by_cases hSK : tG + ks.length ≤ 1048576
    case neg =>
      have hSK' : 1048576 < tG + ks.length := by omega
      go_wp2
      go_ret
      exact ⟨rfl, false, rfl, fun h => by cases h⟩
    go_wp2
    go_loop [17, 19] (fun n i => ∃ (t k : Nat), k ≤ ks.length ∧ t ≤ 1048576 ∧ n = .int .i64 t ∧ i = .int .i64 k) (fun _ i => ks.length - (intOf i).toNat)
    case atStart => exact ⟨tG + ks.length, 0, Nat.zero_le _, hSK, by go_num, rfl⟩
    case round =>
      obtain ⟨tK, kK, hk, htK, rfl, rfl⟩ := hrel
      by_cases hlt : kK < ks.length
      case pos =>
        obtain ⟨b, o, _, hq, hc⟩ := hK.str hlt
        simp only [Value.slice.injEq] at hq
        obtain ⟨rfl, _, rfl⟩ := hq
        have q := hc kK hlt
        obtain ⟨y, hy⟩ : ∃ y, ks.getD kK ⟨#[]⟩ = y := ⟨_, rfl⟩
        rw [hy] at q
        have gg1 : (0 : Int) ≤ (kK : Int) := by omega
        have gg2 : (kK : Int) < (ks.length : Int) := by omega
        clear hc hy
        by_cases hy1 : y.size ≤ 1048576
        case neg =>
          have hy1' : 1048576 < y.size := by omega
          go_wp2
          go_ret
          exact ⟨rfl, false, rfl, fun h => by cases h⟩
        by_cases hy2 : tK + y.size ≤ 1048576
        case neg =>
          have hy2' : 1048576 < tK + y.size := by omega
          go_wp2
          go_ret
          exact ⟨rfl, false, rfl, fun h => by cases h⟩
        go_wp2
        go_round
        case rel => exact ⟨tK + y.size, kK + 1, by omega, hy2, by go_num, by go_num⟩
        case measure => simp [intOf]; omega
      have hkk : kK = ks.length := by omega
      by_cases hLV : vs.length ≤ 1048576
      case neg =>
        have hLV' : 1048576 < vs.length := by omega
        go_wp2
        go_ret
        exact ⟨rfl, false, rfl, fun h => by cases h⟩
      by_cases hSV : tK + vs.length ≤ 1048576
      case neg =>
        have hSV' : 1048576 < tK + vs.length := by omega
        go_wp2
        go_ret
        exact ⟨rfl, false, rfl, fun h => by cases h⟩
      go_wp2
      go_loop [17, 20] (fun n i => ∃ (t k : Nat), k ≤ vs.length ∧ t ≤ 1048576 ∧ n = .int .i64 t ∧ i = .int .i64 k ∧ ∀ i, i < k → (vs.getD i []).length ≤ 1048576) (fun _ i => vs.length - (intOf i).toNat)
      case atStart => exact ⟨tK + vs.length, 0, Nat.zero_le _, hSV, by go_num, rfl, fun i hi => by omega⟩
      case round =>
        obtain ⟨tV, kV, hk, htV, rfl, rfl, hall⟩ := hrel
        by_cases hlt : kV < vs.length
        case pos =>
          obtain ⟨b2, o2, _, hq2, hc2⟩ := hV.get (j := kV) hlt
          simp only [Value.slice.injEq] at hq2
          obtain ⟨rfl, _, rfl⟩ := hq2
          obtain ⟨a3, c3, q, hr3⟩ := hc2 kV hlt
          obtain ⟨l, hll⟩ : ∃ l, vs.getD kV [] = l := ⟨_, rfl⟩
          rw [hll] at q hr3
          have HLL : Hid (vs.getD kV [] = l) := hll
          have gg1 : (0 : Int) ≤ (kV : Int) := by omega
          have gg2 : (kV : Int) < (vs.length : Int) := by omega
          clear hc2 hll
          by_cases hy1 : l.length ≤ 1048576
          case neg =>
            have hy1' : 1048576 < l.length := by omega
            go_wp2
            go_ret
            exact ⟨rfl, false, rfl, fun h => by cases h⟩
          by_cases hy2 : tV + l.length ≤ 1048576
          case neg =>
            have hy2' : 1048576 < tV + l.length := by omega
            go_wp2
            go_ret
            exact ⟨rfl, false, rfl, fun h => by cases h⟩
          go_wp2
          go_loop [17, 21] (fun n i => ∃ (t k : Nat), k ≤ l.length ∧ t ≤ 1048576 ∧ n = .int .i64 t ∧ i = .int .i64 k) (fun _ i => l.length - (intOf i).toNat)
          case atStart => exact ⟨tV + l.length, 0, Nat.zero_le _, hy2, by go_num, rfl⟩
          case round =>
            obtain ⟨tj, j, hj, htj, rfl, rfl⟩ := hrel
            by_cases hjl : j < l.length
            case pos =>
              obtain ⟨b, o, _, hq, hc⟩ := hr3.1.str hjl
              simp only [Value.slice.injEq] at hq
              obtain ⟨rfl, _, rfl⟩ := hq
              have q1 := hc j hjl
              obtain ⟨y, hy⟩ : ∃ y, l.getD j ⟨#[]⟩ = y := ⟨_, rfl⟩
              rw [hy] at q1
              have gg3 : (0 : Int) ≤ (j : Int) := by omega
              have gg4 : (j : Int) < (l.length : Int) := by omega
              clear hc hy
              by_cases hz1 : y.size ≤ 1048576
              case neg =>
                have hz1' : 1048576 < y.size := by omega
                go_wp2
                go_ret
                exact ⟨rfl, false, rfl, fun h => by cases h⟩
              by_cases hz2 : tj + y.size ≤ 1048576
              case neg =>
                have hz2' : 1048576 < tj + y.size := by omega
                go_wp2
                go_ret
                exact ⟨rfl, false, rfl, fun h => by cases h⟩
              go_wp2
              go_round
              case rel => exact ⟨tj + y.size, j + 1, by omega, hz2, by go_num, by go_num⟩
              case measure => simp [intOf]; omega
            case neg =>
              go_wp2
              go_round
              case rel => exact ⟨tj, kV + 1, by omega, htj, rfl, by go_num, fun i hi => by rcases Nat.lt_succ_iff_lt_or_eq.1 hi with e | e; exact hall i e; subst e; rw [HLL.out]; exact hy1⟩
              case measure => simp [intOf]; omega
        have hall' : ∀ i, i < vs.length → (vs.getD i []).length ≤ 1048576 := fun i hi => hall i (by omega)
        clear hall
        have hkk : kV = vs.length := by omega
        by_cases hLC : s1.size ≤ 1048576
        case neg =>
          have hLC' : 1048576 < s1.size := by omega
          go_wp2
          go_ret
          exact ⟨rfl, false, rfl, fun h => by cases h⟩
        by_cases hSC : tV + s1.size ≤ 1048576
        case neg =>
          have hSC' : 1048576 < tV + s1.size := by omega
          go_wp2
          go_ret
          exact ⟨rfl, false, rfl, fun h => by cases h⟩
        obtain ⟨tC, htC⟩ : ∃ x : Nat, x = tV + s1.size := ⟨_, rfl⟩
        by_cases hLA : la.length ≤ 1048576
        case neg =>
          have hLA' : 1048576 < la.length := by omega
          go_wp2
          go_ret
          exact ⟨rfl, false, rfl, fun h => by cases h⟩
        by_cases hSA : (tV + s1.size) + la.length ≤ 1048576
        case neg =>
          have hSA' : 1048576 < (tV + s1.size) + la.length := by omega
          go_wp2
          go_ret
          exact ⟨rfl, false, rfl, fun h => by cases h⟩
        go_wp2
        go_loop [17, 22] (fun n i => ∃ (t k : Nat), k ≤ la.length ∧ t ≤ 1048576 ∧ n = .int .i64 t ∧ i = .int .i64 k) (fun _ i => la.length - (intOf i).toNat)
        case atStart => exact ⟨(tV + s1.size) + la.length, 0, Nat.zero_le _, hSA, by go_num, rfl⟩
        case round =>
          obtain ⟨tA, kA, hk, htA, rfl, rfl⟩ := hrel
          by_cases hlt : kA < la.length
          case pos =>
            obtain ⟨b, o, _, hq, hc⟩ := hA.str hlt
            simp only [Value.slice.injEq] at hq
            obtain ⟨rfl, _, rfl⟩ := hq
            have q := hc kA hlt
            obtain ⟨y, hy⟩ : ∃ y, la.getD kA ⟨#[]⟩ = y := ⟨_, rfl⟩
            rw [hy] at q
            have gg1 : (0 : Int) ≤ (kA : Int) := by omega
            have gg2 : (kA : Int) < (la.length : Int) := by omega
            clear hc hy
            by_cases hy1 : y.size ≤ 1048576
            case neg =>
              have hy1' : 1048576 < y.size := by omega
              go_wp2
              go_ret
              exact ⟨rfl, false, rfl, fun h => by cases h⟩
            by_cases hy2 : tA + y.size ≤ 1048576
            case neg =>
              have hy2' : 1048576 < tA + y.size := by omega
              go_wp2
              go_ret
              exact ⟨rfl, false, rfl, fun h => by cases h⟩
            go_wp2
            go_round
            case rel => exact ⟨tA + y.size, kA + 1, by omega, hy2, by go_num, by go_num⟩
            case measure => simp [intOf]; omega
          have hkk : kA = la.length := by omega
          by_cases hLB : lb.length ≤ 1048576
          case neg =>
            have hLB' : 1048576 < lb.length := by omega
            go_wp2
            go_ret
            exact ⟨rfl, false, rfl, fun h => by cases h⟩
          by_cases hSB : tA + lb.length ≤ 1048576
          case neg =>
            have hSB' : 1048576 < tA + lb.length := by omega
            go_wp2
            go_ret
            exact ⟨rfl, false, rfl, fun h => by cases h⟩
          go_wp2
          go_loop [17, 23] (fun n i => ∃ (t k : Nat), k ≤ lb.length ∧ t ≤ 1048576 ∧ n = .int .i64 t ∧ i = .int .i64 k) (fun _ i => lb.length - (intOf i).toNat)
          case atStart => exact ⟨tA + lb.length, 0, Nat.zero_le _, hSB, by go_num, rfl⟩
          case round =>
            obtain ⟨tB, kB, hk, htB, rfl, rfl⟩ := hrel
            by_cases hlt : kB < lb.length
            case pos =>
              obtain ⟨b, o, _, hq, hc⟩ := hB.str hlt
              simp only [Value.slice.injEq] at hq
              obtain ⟨rfl, _, rfl⟩ := hq
              have q := hc kB hlt
              obtain ⟨y, hy⟩ : ∃ y, lb.getD kB ⟨#[]⟩ = y := ⟨_, rfl⟩
              rw [hy] at q
              have gg1 : (0 : Int) ≤ (kB : Int) := by omega
              have gg2 : (kB : Int) < (lb.length : Int) := by omega
              clear hc hy
              by_cases hy1 : y.size ≤ 1048576
              case neg =>
                have hy1' : 1048576 < y.size := by omega
                go_wp2
                go_ret
                exact ⟨rfl, false, rfl, fun h => by cases h⟩
              by_cases hy2 : tB + y.size ≤ 1048576
              case neg =>
                have hy2' : 1048576 < tB + y.size := by omega
                go_wp2
                go_ret
                exact ⟨rfl, false, rfl, fun h => by cases h⟩
              go_wp2
              go_round
              case rel => exact ⟨tB + y.size, kB + 1, by omega, hy2, by go_num, by go_num⟩
              case measure => simp [intOf]; omega
            have hkk : kB = lb.length := by omega
            by_cases hLE : g1.length ≤ 1048576
            case neg =>
              have hLE' : 1048576 < g1.length := by omega
              go_wp2
              go_ret
              exact ⟨rfl, false, rfl, fun h => by cases h⟩
            by_cases hSE : tB + g1.length ≤ 1048576
            case neg =>
              have hSE' : 1048576 < tB + g1.length := by omega
              go_wp2
              go_ret
              exact ⟨rfl, false, rfl, fun h => by cases h⟩
            go_wp2
            go_loop [17, 24] (fun n i => ∃ (t k : Nat), k ≤ g1.length ∧ t ≤ 1048576 ∧ n = .int .i64 t ∧ i = .int .i64 k) (fun _ i => g1.length - (intOf i).toNat)
            case atStart => exact ⟨tB + g1.length, 0, Nat.zero_le _, hSE, by go_num, rfl⟩
            case round =>
              obtain ⟨tE, kE, hk, htE, rfl, rfl⟩ := hrel
              by_cases hlt : kE < g1.length
              case pos =>
                obtain ⟨b, o, _, hq, hc⟩ := hE.str hlt
                simp only [Value.slice.injEq] at hq
                obtain ⟨rfl, _, rfl⟩ := hq
                have q := hc kE hlt
                obtain ⟨y, hy⟩ : ∃ y, g1.getD kE ⟨#[]⟩ = y := ⟨_, rfl⟩
                rw [hy] at q
                have gg1 : (0 : Int) ≤ (kE : Int) := by omega
                have gg2 : (kE : Int) < (g1.length : Int) := by omega
                clear hc hy
                by_cases hy1 : y.size ≤ 1048576
                case neg =>
                  have hy1' : 1048576 < y.size := by omega
                  go_wp2
                  go_ret
                  exact ⟨rfl, false, rfl, fun h => by cases h⟩
                by_cases hy2 : tE + y.size ≤ 1048576
                case neg =>
                  have hy2' : 1048576 < tE + y.size := by omega
                  go_wp2
                  go_ret
                  exact ⟨rfl, false, rfl, fun h => by cases h⟩
                go_wp2
                go_round
                case rel => exact ⟨tE + y.size, kE + 1, by omega, hy2, by go_num, by go_num⟩
                case measure => simp [intOf]; omega
              have hkk : kE = g1.length := by omega
              by_cases hLD : g2.length ≤ 1048576
              case neg =>
                have hLD' : 1048576 < g2.length := by omega
                go_wp2
                go_ret
                exact ⟨rfl, false, rfl, fun h => by cases h⟩
              by_cases hSD : tE + g2.length ≤ 1048576
              case neg =>
                have hSD' : 1048576 < tE + g2.length := by omega
                go_wp2
                go_ret
                exact ⟨rfl, false, rfl, fun h => by cases h⟩
              go_wp2
              go_loop [17, 25] (fun n i => ∃ (t k : Nat), k ≤ g2.length ∧ t ≤ 1048576 ∧ n = .int .i64 t ∧ i = .int .i64 k) (fun _ i => g2.length - (intOf i).toNat)
              case atStart => exact ⟨tE + g2.length, 0, Nat.zero_le _, hSD, by go_num, rfl⟩
              case round =>
                obtain ⟨tD, kD, hk, htD, rfl, rfl⟩ := hrel
                by_cases hlt : kD < g2.length
                case pos =>
                  obtain ⟨b, o, _, hq, hc⟩ := hD.str hlt
                  simp only [Value.slice.injEq] at hq
                  obtain ⟨rfl, _, rfl⟩ := hq
                  have q := hc kD hlt
                  obtain ⟨y, hy⟩ : ∃ y, g2.getD kD ⟨#[]⟩ = y := ⟨_, rfl⟩
                  rw [hy] at q
                  have gg1 : (0 : Int) ≤ (kD : Int) := by omega
                  have gg2 : (kD : Int) < (g2.length : Int) := by omega
                  clear hc hy
                  by_cases hy1 : y.size ≤ 1048576
                  case neg =>
                    have hy1' : 1048576 < y.size := by omega
                    go_wp2
                    go_ret
                    exact ⟨rfl, false, rfl, fun h => by cases h⟩
                  by_cases hy2 : tD + y.size ≤ 1048576
                  case neg =>
                    have hy2' : 1048576 < tD + y.size := by omega
                    go_wp2
                    go_ret
                    exact ⟨rfl, false, rfl, fun h => by cases h⟩
                  go_wp2
                  go_round
                  case rel => exact ⟨tD + y.size, kD + 1, by omega, hy2, by go_num, by go_num⟩
                  case measure => simp [intOf]; omega
                have hkk : kD = g2.length := by omega
                go_wp2
                go_ret
                exact ⟨rfl, true, rfl, fun _ => hall'⟩

end Go.Proofs.Qxb6619367a
