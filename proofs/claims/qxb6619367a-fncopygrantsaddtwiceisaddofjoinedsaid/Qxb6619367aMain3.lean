/- FnCopyGrantsAddTwiceIsAddOfJoined: the walk (seat b6619367a). -/
import Derived.Test.Qxb6619367aFront
import Derived.Test.Qxb6619367aZB5
namespace Go.Proofs.Qxb6619367a
open Go.RowKit

def Said (w : World) (e : Ending) (w' : World) : Prop := Below w.heap.size w w' ∧ e = .returned (.bool true)

set_option maxRecDepth 20000 in
set_option maxHeartbeats 4000000 in
/-- (3) FnCopyGrantsAddTwiceIsAddOfJoined -/
theorem main3 (gv kv vv av bv ev dv : Value) (g0 ks : List ByteArray) (vs : List (List ByteArray)) (s1 : ByteArray) (la lb g1 g2 : List ByteArray) (w : World)
    (hG : Reads w gv (strs g0)) (hK : Reads w kv (strs ks)) (hV : VAt (fun _ => True) w vv vs) (hA : Reads w av (strs la)) (hB : Reads w bv (strs lb)) (hE : Reads w ev (strs g1)) (hD : Reads w dv (strs g2)) :
    Calls Try.prog 3 #[gv, kv, vv, .string s1, av, bv, ev, dv] w (Said w) := by
  have hz := zzBytes5 gv kv vv av bv ev dv g0 ks la lb g1 g2 vs s1 w hG hK hV hA hB hE hD
  obtain ⟨gva, gvc, hgv⟩ := hG.form
  obtain ⟨kva, kvc, hkv⟩ := hK.form
  obtain ⟨vva, vvc, hvv⟩ := hV.form
  obtain ⟨ava, avc, hav⟩ := hA.form
  obtain ⟨bva, bvc, hbv⟩ := hB.form
  obtain ⟨eva, evc, hev⟩ := hE.form
  obtain ⟨dva, dvc, hdv⟩ := hD.form
  rw [strs_len] at hgv hkv hav hbv hev hdv
  subst hgv hkv hvv hav hbv hev hdv
  have hnl := run_neq_nil
  go_enter Try.func3, Try.ntmps3
  go_wp2_with fail
  refine hz.mono ?_
  rintro e w1 ⟨hw, r, rfl, hvl⟩
  subst hw
  clear hz
  cases r with
  | false =>
    clear hvl
    go_wp2
    go_ret
    exact ⟨Below.refl _ _, rfl⟩
  | true =>
    replace hvl := hvl rfl
    by_cases b1 : g0.length ≤ 4096
    case neg =>
      have b1' : 4096 < g0.length := by omega
      go_wp2
      go_ret
      exact ⟨Below.refl _ _, rfl⟩
    by_cases b2 : ks.length ≤ 4096
    case neg =>
      have b2' : 4096 < ks.length := by omega
      go_wp2
      go_ret
      exact ⟨Below.refl _ _, rfl⟩
    by_cases b3 : vs.length ≤ 4096
    case neg =>
      have b3' : 4096 < vs.length := by omega
      go_wp2
      go_ret
      exact ⟨Below.refl _ _, rfl⟩
    by_cases b4 : la.length ≤ 4096
    case neg =>
      have b4' : 4096 < la.length := by omega
      go_wp2
      go_ret
      exact ⟨Below.refl _ _, rfl⟩
    by_cases b5 : lb.length ≤ 4096
    case neg =>
      have b5' : 4096 < lb.length := by omega
      go_wp2
      go_ret
      exact ⟨Below.refl _ _, rfl⟩
    by_cases b6 : g1.length ≤ 4096
    case neg =>
      have b6' : 4096 < g1.length := by omega
      go_wp2
      go_ret
      exact ⟨Below.refl _ _, rfl⟩
    by_cases b7 : g2.length ≤ 4096
    case neg =>
      have b7' : 4096 < g2.length := by omega
      go_wp2
      go_ret
      exact ⟨Below.refl _ _, rfl⟩
    go_upto_if 69 with fail
    go_cut [4, 17] from 70 to 76 (fun v _ w' => Cp w1 la v w')
    case first =>
      cases ava with
      | none =>
        go_wp2
        go_meet
        case rel => exact ⟨Below.refl _ _, _, _, rfl, hA⟩
      | some sa =>
        have hmk := run_mkrow Try.underlying22 info9 rfl la.length (by omega) (by omega)
        go_upto_region 9 with fail
        go_wp2_with (refine wpList_copyStr w1 rfl (.tmp 73) (.tmp 74) rfl la sa avc rfl rfl hA (by omega) ?_; intro w2 hm2 hb2)
        go_meet
        case rel => exact ⟨hb2, _, _, rfl, hm2.reads⟩
    case rest =>
      obtain ⟨hbA, aA, cA, rfl, hA'⟩ := hcut
      obtain ⟨xA, hwc⟩ : ∃ y, wc = y := ⟨_, rfl⟩
      rw [hwc] at hbA hA' ⊢
      clear hwc
      clear hA
      replace hG := hG.below hbA
      replace hK := hK.below hbA
      replace hV := VAt.all (hV.of.below hbA)
      replace hB := hB.below hbA
      replace hE := hE.below hbA
      replace hD := hD.below hbA
      have hbz : Below w1.heap.size w1 xA := hbA
      clear hbA
      go_upto_if 78 with fail
      go_cut [5, 18] from 79 to 85 (fun v _ w' => Cp xA lb v w')
      case first =>
        cases bva with
        | none =>
          go_wp2
          go_meet
          case rel => exact ⟨Below.refl _ _, _, _, rfl, hB⟩
        | some sa =>
          have hmk := run_mkrow Try.underlying22 info9 rfl lb.length (by omega) (by omega)
          go_upto_region 13 with fail
          go_wp2_with (refine wpList_copyStr xA rfl (.tmp 82) (.tmp 83) rfl lb sa bvc rfl rfl hB (by omega) ?_; intro w2 hm2 hb2)
          go_meet
          case rel => exact ⟨hb2, _, _, rfl, hm2.reads⟩
      case rest =>
        obtain ⟨hbB, aB, cB, rfl, hB'⟩ := hcut
        obtain ⟨xB, hwc⟩ : ∃ y, wc = y := ⟨_, rfl⟩
        rw [hwc] at hbB hB' ⊢
        clear hwc
        clear hB
        replace hG := hG.below hbB
        replace hK := hK.below hbB
        replace hV := VAt.all (hV.of.below hbB)
        replace hA' := hA'.below hbB
        replace hE := hE.below hbB
        replace hD := hD.below hbB
        replace hbz : Below w1.heap.size w1 xB := hbz.trans ⟨hbB.os, hbB.tape, hbB.output, hbB.size, fun k hk => hbB.block k (Nat.lt_of_lt_of_le hk hbz.size)⟩
        clear hbB
        go_upto_if 87 with fail
        go_cut [6, 19] from 88 to 94 (fun v _ w' => Cp xB g1 v w')
        case first =>
          cases eva with
          | none =>
            go_wp2
            go_meet
            case rel => exact ⟨Below.refl _ _, _, _, rfl, hE⟩
          | some sa =>
            have hmk := run_mkrow Try.underlying22 info9 rfl g1.length (by omega) (by omega)
            go_upto_region 17 with fail
            go_wp2_with (refine wpList_copyStr xB rfl (.tmp 91) (.tmp 92) rfl g1 sa evc rfl rfl hE (by omega) ?_; intro w2 hm2 hb2)
            go_meet
            case rel => exact ⟨hb2, _, _, rfl, hm2.reads⟩
        case rest =>
          obtain ⟨hbE, aE, cE, rfl, hE'⟩ := hcut
          obtain ⟨xE, hwc⟩ : ∃ y, wc = y := ⟨_, rfl⟩
          rw [hwc] at hbE hE' ⊢
          clear hwc
          clear hE
          replace hG := hG.below hbE
          replace hK := hK.below hbE
          replace hV := VAt.all (hV.of.below hbE)
          replace hA' := hA'.below hbE
          replace hB' := hB'.below hbE
          replace hD := hD.below hbE
          replace hbz : Below w1.heap.size w1 xE := hbz.trans ⟨hbE.os, hbE.tape, hbE.output, hbE.size, fun k hk => hbE.block k (Nat.lt_of_lt_of_le hk hbz.size)⟩
          clear hbE
          go_upto_if 96 with fail
          go_cut [7, 20] from 97 to 103 (fun v _ w' => Cp xE g2 v w')
          case first =>
            cases dva with
            | none =>
              go_wp2
              go_meet
              case rel => exact ⟨Below.refl _ _, _, _, rfl, hD⟩
            | some sa =>
              have hmk := run_mkrow Try.underlying22 info9 rfl g2.length (by omega) (by omega)
              go_upto_region 21 with fail
              go_wp2_with (refine wpList_copyStr xE rfl (.tmp 100) (.tmp 101) rfl g2 sa dvc rfl rfl hD (by omega) ?_; intro w2 hm2 hb2)
              go_meet
              case rel => exact ⟨hb2, _, _, rfl, hm2.reads⟩
          case rest =>
            obtain ⟨hbD, aD, cD, rfl, hD'⟩ := hcut
            obtain ⟨xD, hwc⟩ : ∃ y, wc = y := ⟨_, rfl⟩
            rw [hwc] at hbD hD' ⊢
            clear hwc
            clear hD
            replace hG := hG.below hbD
            replace hK := hK.below hbD
            replace hV := VAt.all (hV.of.below hbD)
            replace hA' := hA'.below hbD
            replace hB' := hB'.below hbD
            replace hE' := hE'.below hbD
            replace hbz : Below w1.heap.size w1 xD := hbz.trans ⟨hbD.os, hbD.tape, hbD.output, hbD.size, fun k hk => hbD.block k (Nat.lt_of_lt_of_le hk hbz.size)⟩
            clear hbD
            go_wp2_with fail
            refine (budgetGrants _ _ _ g0 ks vs _ hG hK hV (by omega) (by omega) (by omega) (fun i hi => by have := hvl i hi; omega)).mono ?_
            rintro e y1 ⟨hw, r1, hr1, hr1', rfl⟩
            subst hw
            go_wp2_with fail
            refine (budgetStrs _ la _ _ hA' (by omega) (by omega) (by omega)).mono ?_
            rintro e y2 ⟨hw, r2, hr2, hr2', rfl⟩
            subst hw
            clear hr1 hr1'
            go_wp2_with fail
            refine (budgetStrs _ lb _ _ hB' (by omega) (by omega) (by omega)).mono ?_
            rintro e y3 ⟨hw, r3, hr3, hr3', rfl⟩
            subst hw
            clear hr2 hr2'
            go_wp2_with fail
            refine (budgetStrs _ g1 _ _ hE' (by omega) (by omega) (by omega)).mono ?_
            rintro e y4 ⟨hw, r4, hr4, hr4', rfl⟩
            subst hw
            clear hr3 hr3'
            go_wp2_with fail
            refine (budgetStrs _ g2 _ _ hD' (by omega) (by omega) (by omega)).mono ?_
            rintro e y5 ⟨hw, r5, hr5, hr5', rfl⟩
            subst hw
            clear hr4 hr4'
            by_cases hneg : r5 < 0
            case pos =>
              go_wp2
              go_ret
              exact ⟨hbz, rfl⟩
            by_cases hsz : (s1.size : Int) > r5
            case pos =>
              go_wp2
              go_ret
              exact ⟨hbz, rfl⟩
            go_wp2_with fail
            refine (receiverFits _ _ ks vs _ hK hV (by omega)).mono ?_
            rintro e y6 ⟨⟨m6, hy6⟩, r6, rfl, hfit⟩
            have hby : Below y5.heap.size y5 y6 := by rw [hy6]; exact below_drewN' (Below.refl _ _)
            clear hy6 m6
            replace hbz : Below w1.heap.size w1 y6 := hbz.trans ⟨hby.os, hby.tape, hby.output, hby.size, fun k hk => hby.block k (Nat.lt_of_lt_of_le hk hbz.size)⟩
            replace hG := hG.below hby
            replace hK := hK.below hby
            replace hV := VAt.all (hV.of.below hby)
            replace hA' := hA'.below hby
            replace hB' := hB'.below hby
            replace hE' := hE'.below hby
            replace hD' := hD'.below hby
            clear hby hneg hsz hr5 hr5'
            cases r6 with
            | false =>
              clear hfit
              go_wp2
              go_ret
              exact ⟨hbz, rfl⟩
            | true =>
              obtain ⟨hl, hnd⟩ := hfit rfl
              clear hfit
              have hI : Ins y6.heap.size y6 _ _ _ _ _ _ _ g0 ks vs la lb g1 g2 := ⟨RAt.of hG, RAt.of hK, hV.of, RAt.of hA', RAt.of hB', RAt.of hE', RAt.of hD'⟩
              have HL : Hid (ks.length = vs.length) := hl
              clear hl
              have hlk := look_len (B := 1048576) ks vs s1 hvl
              have hvb : ∀ i, i < vs.length → (vs.getD i []).length ≤ 1000000000 := fun i hi => by have := hvl i hi; omega
              clear hG hK hV hA' hB' hE' hD' hvl hnl
              go_wp2_with fail
              refine (makeGrants _ _ _ g0 ks vs y6 hI.g.1 hI.k.1 hI.v HL.out hnd (by omega) (by omega) hvb).mono ?_
              rintro e z1 ⟨hb1, p1, rfl, hg1⟩
              replace hI := hI.kept (Kept.of_below hb1) (fun k hk h => by omega)
              have hs1 := hb1.size
              have hbb : Below y6.heap.size y6 z1 := hb1
              clear hb1
              go_wp2_with fail
              refine (makeGrants _ _ _ g0 ks vs z1 hI.g.1 hI.k.1 hI.v.all.of HL.out hnd (by omega) (by omega) hvb).mono ?_
              rintro e z2 ⟨hb2, p2, rfl, hg2⟩
              replace hI := hI.kept (Kept.of_below hb2) (fun k hk h => by omega)
              have hs2 := hb2.size
              replace hg1 := hg1.kept (Kept.of_below hb2) (fun k hk h => by omega)
              replace hbb := hbb.trans (hb2.mono hs1)
              clear hb2
              go_wp2_with fail
              refine (zzAdd _ p1 g0 la g1 (look ks vs) ks.length s1 _ _ z2 hg1 (fun k hk => by omega) (hI.a.mono fun k _ hk h => by omega) (hI.e.mono fun k _ hk h => by omega) (by omega) (by omega)).mono ?_
              rintro e z3 ⟨rfl, hk3, F3, gv3, bb3, f3, hst3⟩
              have hs3 := hk3.size
              replace hI := hI.kept hk3 (fun k hk h => by omega)
              replace hg2 := hg2.kept hk3 (fun k hk h => by omega)
              replace hbb := hbb.trans (hk3.below (by omega) fun k hk => hk.1)
              clear hk3 hg1
              go_wp2_with fail
              refine (zzAdd _ p1 (g0 ++ la) lb g2 _ _ s1 _ _ z3 ⟨_, _, _, _, hst3⟩ (fun k hk => by omega) (hI.b.mono fun k _ hk h => by omega) (hI.d.mono fun k _ hk h => by omega) (by rw [List.length_append]; omega) (by rw [setO_same, foldO_getD]; have := grant_len g1 ((look ks vs s1).getD []); omega)).mono ?_
              rintro e z4 ⟨rfl, hk4, F4, gv4, bb4, f4, hst4⟩
              have hs4 := hk4.size
              replace hI := hI.kept hk4 (fun k hk h => by omega)
              replace hg2 := hg2.kept hk4 (fun k hk h => by omega)
              replace hbb := hbb.trans (hk4.below (by omega) fun k hk => by omega)
              clear hk4 hst3
              rw [setO_same, setO_twice, foldO_app, Nat.add_assoc, cntO_add _ _ _ (foldO_some g1 _) (fun h => by rw [← foldO_app]; exact foldO_some g2 _ h), List.append_assoc] at hst4
              go_wp2_with fail
              refine (concatStrs _ _ la lb z4 hI.a.1 hI.b.1 (by omega)).mono ?_
              rintro e z5 ⟨hb5, v5, rfl, hm5, hn5⟩
              obtain ⟨a5, n5, c5, rfl⟩ := hm5.shape
              have hs5 := hb5.size
              replace hI := hI.kept (Kept.of_below hb5) (fun k hk h => by omega)
              replace hg2 := hg2.kept (Kept.of_below hb5) (fun k hk h => by omega)
              replace hst4 := hst4.below (fun k hk => by omega) hb5
              replace hbb := hbb.trans (hb5.mono (by omega))
              clear hb5
              have hr5 : RAt (fun k => z4.heap.size ≤ k ∧ k < z5.heap.size) z5 (.slice a5 n5 c5) (la ++ lb) := ⟨hm5.reads, fun _ b hb => ⟨hn5 b hb, hm5.lt b hb⟩⟩
              clear hm5 hn5
              go_wp2_with fail
              refine (concatStrs _ _ g1 g2 z5 hI.e.1 hI.d.1 (by omega)).mono ?_
              rintro e z6 ⟨hb6, v6, rfl, hm6, hn6⟩
              obtain ⟨a6, n6, c6, rfl⟩ := hm6.shape
              have hs6 := hb6.size
              replace hI := hI.kept (Kept.of_below hb6) (fun k hk h => by omega)
              replace hg2 := hg2.kept (Kept.of_below hb6) (fun k hk h => by omega)
              replace hst4 := hst4.kept (Kept.of_below hb6) (fun k hk h => by omega)
              replace hr5 := hr5.kept (Kept.of_below hb6) (fun k hk h => by omega)
              replace hbb := hbb.trans (hb6.mono (by omega))
              clear hb6
              have hr6 : RAt (fun k => z5.heap.size ≤ k ∧ k < z6.heap.size) z6 (.slice a6 n6 c6) (g1 ++ g2) := ⟨hm6.reads, fun _ b hb => ⟨hn6 b hb, hm6.lt b hb⟩⟩
              clear hm6 hn6
              go_wp2_with fail
              refine (zzAdd _ p2 g0 (la ++ lb) (g1 ++ g2) (look ks vs) ks.length s1 _ _ z6 hg2 (fun k hk => by omega) (hr5.mono fun k _ hk h => by omega) (hr6.mono fun k _ hk h => by omega) (by rw [List.length_append]; omega) (by rw [List.length_append]; omega)).mono ?_
              rintro e z7 ⟨rfl, hk7, F7, gv7, bb7, f7, hst7⟩
              have hs7 := hk7.size
              replace hI := hI.kept hk7 (fun k hk h => by omega)
              replace hst4 := hst4.kept hk7 (fun k hk h => by omega)
              replace hr5 := hr5.kept hk7 (fun k hk h => by omega)
              replace hr6 := hr6.kept hk7 (fun k hk h => by omega)
              replace hbb := hbb.trans (hk7.below (by omega) fun k hk => by omega)
              clear hk7 hg2
              go_wp2_with fail
              refine (concatStrs _ _ g0 (la ++ lb) z7 hI.g.1 hr5.1 (by rw [List.length_append]; omega)).mono ?_
              rintro e z8 ⟨hb8, v8, rfl, hm8, hn8⟩
              obtain ⟨a8, n8, c8, rfl⟩ := hm8.shape
              have hs8 := hb8.size
              replace hI := hI.kept (Kept.of_below hb8) (fun k hk h => by omega)
              replace hst4 := hst4.kept (Kept.of_below hb8) (fun k hk h => by omega)
              replace hst7 := hst7.below (fun k hk => by omega) hb8
              replace hr6 := hr6.kept (Kept.of_below hb8) (fun k hk h => by omega)
              replace hbb := hbb.trans (hb8.mono (by omega))
              clear hb8 hr5 hn8
              have hbg : ((look ks vs s1).getD []).length + (g1 ++ g2).length ≤ 1000000000 := by rw [List.length_append]; omega
              have hbw : (g0 ++ (la ++ lb)).length ≤ 1000000000 := by rw [List.length_append, List.length_append]; omega
              go_wp2_with fail
              refine (oneState hst4 (fun k hk => by omega) _ _ _ _ ks vs s1 (g1 ++ g2) hm8.reads hI.k.1 hI.v.all.of hr6.1 HL.out hnd hbw (by omega) hvb hbg rfl rfl).mono ?_
              rintro e z9 ⟨hb9, rfl⟩
              have hs9 := hb9.size
              replace hI := hI.kept (Kept.of_below hb9) (fun k hk h => by omega)
              replace hst7 := hst7.kept (Kept.of_below hb9) (fun k hk h => by omega)
              replace hr6 := hr6.kept (Kept.of_below hb9) (fun k hk h => by omega)
              have hm9 := hm8.reads.below hb9
              replace hbb := hbb.trans (hb9.mono (by omega))
              clear hb9 hm8 hst4
              go_wp2_with fail
              refine (oneState hst7 (fun k hk => by omega) _ _ _ _ ks vs s1 (g1 ++ g2) hm9 hI.k.1 hI.v.all.of hr6.1 HL.out hnd hbw (by omega) hvb hbg rfl rfl).mono ?_
              rintro e z10 ⟨hb10, rfl⟩
              go_wp2
              go_ret
              exact ⟨(hbz.trans (hbb.mono hbz.size)).trans (hb10.mono (by have := hbz.size; omega)), rfl⟩

end Go.Proofs.Qxb6619367a
