/- FnCopyGrantsAddsToTwoSchemasCommute: the walk (seat b6619367a). -/
import Derived.Test.Qxb6619367aFront
import Derived.Test.Qxb6619367aZB13
namespace Go.Proofs.Qxb6619367a
open Go.RowKit

def Said (w : World) (e : Ending) (w' : World) : Prop := Below w.heap.size w w' ∧ e = .returned (.bool true)

set_option maxRecDepth 20000 in
set_option maxHeartbeats 4000000 in
/-- (4) FnCopyGrantsAddsToTwoSchemasCommute -/
theorem main4 (gv kv vv av bv ev dv : Value) (g0 ks : List ByteArray) (vs : List (List ByteArray)) (s1 s2 : ByteArray) (la lb g1 g2 : List ByteArray) (w : World)
    (hG : Reads w gv (strs g0)) (hK : Reads w kv (strs ks)) (hV : VAt (fun _ => True) w vv vs) (hA : Reads w av (strs la)) (hB : Reads w bv (strs lb)) (hE : Reads w ev (strs g1)) (hD : Reads w dv (strs g2)) :
    Calls Try.prog 4 #[gv, kv, vv, .string s1, av, ev, .string s2, bv, dv] w (Said w) := by
  have hz := zzBytes13 gv kv vv av bv ev dv g0 ks la lb g1 g2 vs s1 s2 w hG hK hV hA hB hE hD
  obtain ⟨gva, gvc, hgv⟩ := hG.form
  obtain ⟨kva, kvc, hkv⟩ := hK.form
  obtain ⟨vva, vvc, hvv⟩ := hV.form
  obtain ⟨ava, avc, hav⟩ := hA.form
  obtain ⟨bva, bvc, hbv⟩ := hB.form
  obtain ⟨eva, evc, hev⟩ := hE.form
  obtain ⟨dva, dvc, hdv⟩ := hD.form
  rw [strs_len] at hgv hkv hav hbv hev hdv
  subst hgv hkv hvv hav hbv hev hdv
  have hnl := run_neq_nil
  go_enter Try.func4, Try.ntmps4
  go_wp2_with fail
  refine hz.mono ?_
  rintro e w1 ⟨hw, r, rfl, hvl⟩
  subst hw
  clear hz
  cases r with
  | false =>
    clear hvl
    go_wp2
    go_ret
    exact ⟨Below.refl _ _, rfl⟩
  | true =>
    replace hvl := hvl rfl
    by_cases b1 : g0.length ≤ 4096
    case neg =>
      have b1' : 4096 < g0.length := by omega
      go_wp2
      go_ret
      exact ⟨Below.refl _ _, rfl⟩
    by_cases b2 : ks.length ≤ 4096
    case neg =>
      have b2' : 4096 < ks.length := by omega
      go_wp2
      go_ret
      exact ⟨Below.refl _ _, rfl⟩
    by_cases b3 : vs.length ≤ 4096
    case neg =>
      have b3' : 4096 < vs.length := by omega
      go_wp2
      go_ret
      exact ⟨Below.refl _ _, rfl⟩
    by_cases b4 : la.length ≤ 4096
    case neg =>
      have b4' : 4096 < la.length := by omega
      go_wp2
      go_ret
      exact ⟨Below.refl _ _, rfl⟩
    by_cases b5 : lb.length ≤ 4096
    case neg =>
      have b5' : 4096 < lb.length := by omega
      go_wp2
      go_ret
      exact ⟨Below.refl _ _, rfl⟩
    by_cases b6 : g1.length ≤ 4096
    case neg =>
      have b6' : 4096 < g1.length := by omega
      go_wp2
      go_ret
      exact ⟨Below.refl _ _, rfl⟩
    by_cases b7 : g2.length ≤ 4096
    case neg =>
      have b7' : 4096 < g2.length := by omega
      go_wp2
      go_ret
      exact ⟨Below.refl _ _, rfl⟩
    go_upto_if 71 with fail
    go_cut [4, 19] from 72 to 78 (fun v _ w' => Cp w1 la v w')
    case first =>
      cases ava with
      | none =>
        go_wp2
        go_meet
        case rel => exact ⟨Below.refl _ _, _, _, rfl, hA⟩
      | some sa =>
        have hmk := run_mkrow Try.underlying22 info9 rfl la.length (by omega) (by omega)
        go_upto_region 9 with fail
        go_wp2_with (refine wpList_copyStr w1 rfl (.tmp 75) (.tmp 76) rfl la sa avc rfl rfl hA (by omega) ?_; intro w2 hm2 hb2)
        go_meet
        case rel => exact ⟨hb2, _, _, rfl, hm2.reads⟩
    case rest =>
      obtain ⟨hbA, aA, cA, rfl, hA'⟩ := hcut
      obtain ⟨xA, hwc⟩ : ∃ y, wc = y := ⟨_, rfl⟩
      rw [hwc] at hbA hA' ⊢
      clear hwc
      clear hA
      replace hG := hG.below hbA
      replace hK := hK.below hbA
      replace hV := VAt.all (hV.of.below hbA)
      replace hB := hB.below hbA
      replace hE := hE.below hbA
      replace hD := hD.below hbA
      have hbz : Below w1.heap.size w1 xA := hbA
      clear hbA
      go_upto_if 80 with fail
      go_cut [5, 20] from 81 to 87 (fun v _ w' => Cp xA g1 v w')
      case first =>
        cases eva with
        | none =>
          go_wp2
          go_meet
          case rel => exact ⟨Below.refl _ _, _, _, rfl, hE⟩
        | some sa =>
          have hmk := run_mkrow Try.underlying22 info9 rfl g1.length (by omega) (by omega)
          go_upto_region 13 with fail
          go_wp2_with (refine wpList_copyStr xA rfl (.tmp 84) (.tmp 85) rfl g1 sa evc rfl rfl hE (by omega) ?_; intro w2 hm2 hb2)
          go_meet
          case rel => exact ⟨hb2, _, _, rfl, hm2.reads⟩
      case rest =>
        obtain ⟨hbE, aE, cE, rfl, hE'⟩ := hcut
        obtain ⟨xE, hwc⟩ : ∃ y, wc = y := ⟨_, rfl⟩
        rw [hwc] at hbE hE' ⊢
        clear hwc
        clear hE
        replace hG := hG.below hbE
        replace hK := hK.below hbE
        replace hV := VAt.all (hV.of.below hbE)
        replace hA' := hA'.below hbE
        replace hB := hB.below hbE
        replace hD := hD.below hbE
        replace hbz : Below w1.heap.size w1 xE := hbz.trans ⟨hbE.os, hbE.tape, hbE.output, hbE.size, fun k hk => hbE.block k (Nat.lt_of_lt_of_le hk hbz.size)⟩
        clear hbE
        go_upto_if 89 with fail
        go_cut [7, 21] from 90 to 96 (fun v _ w' => Cp xE lb v w')
        case first =>
          cases bva with
          | none =>
            go_wp2
            go_meet
            case rel => exact ⟨Below.refl _ _, _, _, rfl, hB⟩
          | some sa =>
            have hmk := run_mkrow Try.underlying22 info9 rfl lb.length (by omega) (by omega)
            go_upto_region 17 with fail
            go_wp2_with (refine wpList_copyStr xE rfl (.tmp 93) (.tmp 94) rfl lb sa bvc rfl rfl hB (by omega) ?_; intro w2 hm2 hb2)
            go_meet
            case rel => exact ⟨hb2, _, _, rfl, hm2.reads⟩
        case rest =>
          obtain ⟨hbB, aB, cB, rfl, hB'⟩ := hcut
          obtain ⟨xB, hwc⟩ : ∃ y, wc = y := ⟨_, rfl⟩
          rw [hwc] at hbB hB' ⊢
          clear hwc
          clear hB
          replace hG := hG.below hbB
          replace hK := hK.below hbB
          replace hV := VAt.all (hV.of.below hbB)
          replace hA' := hA'.below hbB
          replace hE' := hE'.below hbB
          replace hD := hD.below hbB
          replace hbz : Below w1.heap.size w1 xB := hbz.trans ⟨hbB.os, hbB.tape, hbB.output, hbB.size, fun k hk => hbB.block k (Nat.lt_of_lt_of_le hk hbz.size)⟩
          clear hbB
          go_upto_if 98 with fail
          go_cut [8, 22] from 99 to 105 (fun v _ w' => Cp xB g2 v w')
          case first =>
            cases dva with
            | none =>
              go_wp2
              go_meet
              case rel => exact ⟨Below.refl _ _, _, _, rfl, hD⟩
            | some sa =>
              have hmk := run_mkrow Try.underlying22 info9 rfl g2.length (by omega) (by omega)
              go_upto_region 21 with fail
              go_wp2_with (refine wpList_copyStr xB rfl (.tmp 102) (.tmp 103) rfl g2 sa dvc rfl rfl hD (by omega) ?_; intro w2 hm2 hb2)
              go_meet
              case rel => exact ⟨hb2, _, _, rfl, hm2.reads⟩
          case rest =>
            obtain ⟨hbD, aD, cD, rfl, hD'⟩ := hcut
            obtain ⟨xD, hwc⟩ : ∃ y, wc = y := ⟨_, rfl⟩
            rw [hwc] at hbD hD' ⊢
            clear hwc
            clear hD
            replace hG := hG.below hbD
            replace hK := hK.below hbD
            replace hV := VAt.all (hV.of.below hbD)
            replace hA' := hA'.below hbD
            replace hB' := hB'.below hbD
            replace hE' := hE'.below hbD
            replace hbz : Below w1.heap.size w1 xD := hbz.trans ⟨hbD.os, hbD.tape, hbD.output, hbD.size, fun k hk => hbD.block k (Nat.lt_of_lt_of_le hk hbz.size)⟩
            clear hbD
            go_wp2_with fail
            refine (budgetGrants _ _ _ g0 ks vs _ hG hK hV (by omega) (by omega) (by omega) (fun i hi => by have := hvl i hi; omega)).mono ?_
            rintro e y1 ⟨hw, r1, hr1, hr1', rfl⟩
            subst hw
            go_wp2_with fail
            refine (budgetStrs _ la _ _ hA' (by omega) (by omega) (by omega)).mono ?_
            rintro e y2 ⟨hw, r2, hr2, hr2', rfl⟩
            subst hw
            clear hr1 hr1'
            go_wp2_with fail
            refine (budgetStrs _ lb _ _ hB' (by omega) (by omega) (by omega)).mono ?_
            rintro e y3 ⟨hw, r3, hr3, hr3', rfl⟩
            subst hw
            clear hr2 hr2'
            go_wp2_with fail
            refine (budgetStrs _ g1 _ _ hE' (by omega) (by omega) (by omega)).mono ?_
            rintro e y4 ⟨hw, r4, hr4, hr4', rfl⟩
            subst hw
            clear hr3 hr3'
            go_wp2_with fail
            refine (budgetStrs _ g2 _ _ hD' (by omega) (by omega) (by omega)).mono ?_
            rintro e y5 ⟨hw, r5, hr5, hr5', rfl⟩
            subst hw
            clear hr4 hr4'
            by_cases hneg : r5 < 0
            case pos =>
              go_wp2
              go_ret
              exact ⟨hbz, rfl⟩
            by_cases hsz : (s1.size : Int) > r5
            case pos =>
              go_wp2
              go_ret
              exact ⟨hbz, rfl⟩
            by_cases hsz2 : (s2.size : Int) > r5 - (s1.size : Int)
            case pos =>
              go_wp2
              go_ret
              exact ⟨hbz, rfl⟩
            go_wp2_with fail
            refine (receiverFits _ _ ks vs _ hK hV (by omega)).mono ?_
            rintro e y6 ⟨⟨m6, hy6⟩, r6, rfl, hfit⟩
            have hby : Below y5.heap.size y5 y6 := by rw [hy6]; exact below_drewN' (Below.refl _ _)
            clear hy6 m6
            replace hbz : Below w1.heap.size w1 y6 := hbz.trans ⟨hby.os, hby.tape, hby.output, hby.size, fun k hk => hby.block k (Nat.lt_of_lt_of_le hk hbz.size)⟩
            replace hG := hG.below hby
            replace hK := hK.below hby
            replace hV := VAt.all (hV.of.below hby)
            replace hA' := hA'.below hby
            replace hB' := hB'.below hby
            replace hE' := hE'.below hby
            replace hD' := hD'.below hby
            clear hby hneg hsz hsz2 hr5 hr5'
            cases r6 with
            | false =>
              clear hfit
              go_wp2
              go_ret
              exact ⟨hbz, rfl⟩
            | true =>
              obtain ⟨hl, hnd⟩ := hfit rfl
              clear hfit
              have hI : Ins y6.heap.size y6 _ _ _ _ _ _ _ g0 ks vs la lb g1 g2 := ⟨RAt.of hG, RAt.of hK, hV.of, RAt.of hA', RAt.of hB', RAt.of hE', RAt.of hD'⟩
              have HL : Hid (ks.length = vs.length) := hl
              clear hl
              by_cases hss : s1 = s2
              case pos =>
                subst hss
                go_wp2
                go_ret
                exact ⟨hbz, rfl⟩
              have hsn := same_ne hss
              have hlk1 := look_len (B := 1048576) ks vs s1 hvl
              have hlk2 := look_len (B := 1048576) ks vs s2 hvl
              have hvb : ∀ i, i < vs.length → (vs.getD i []).length ≤ 1000000000 := fun i hi => by have := hvl i hi; omega
              clear hG hK hV hA' hB' hE' hD' hvl hnl
              go_wp2_with fail
              refine (makeGrants _ _ _ g0 ks vs y6 hI.g.1 hI.k.1 hI.v HL.out hnd (by omega) (by omega) hvb).mono ?_
              rintro e z1 ⟨hb1, p1, rfl, hg1⟩
              replace hI := hI.kept (Kept.of_below hb1) (fun k hk h => by omega)
              have hs1 := hb1.size
              have hbb : Below y6.heap.size y6 z1 := hb1
              clear hb1 hsn
              go_wp2_with fail
              refine (makeGrants _ _ _ g0 ks vs z1 hI.g.1 hI.k.1 hI.v.all.of HL.out hnd (by omega) (by omega) hvb).mono ?_
              rintro e z2 ⟨hb2, p2, rfl, hg2⟩
              replace hI := hI.kept (Kept.of_below hb2) (fun k hk h => by omega)
              have hs2 := hb2.size
              replace hg1 := hg1.kept (Kept.of_below hb2) (fun k hk h => by omega)
              replace hbb := hbb.trans (hb2.mono hs1)
              clear hb2
              go_wp2_with fail
              refine (zzAdd _ p1 g0 la g1 (look ks vs) ks.length s1 _ _ z2 hg1 (fun k hk => by omega) (hI.a.mono fun k _ hk h => by omega) (hI.e.mono fun k _ hk h => by omega) (by omega) (by omega)).mono ?_
              rintro e z3 ⟨rfl, hk3, F3, gv3, bb3, f3, hst3⟩
              have hs3 := hk3.size
              replace hI := hI.kept hk3 (fun k hk h => by omega)
              replace hg2 := hg2.kept hk3 (fun k hk h => by omega)
              replace hbb := hbb.trans (hk3.below (by omega) fun k hk => hk.1)
              clear hk3 hg1
              go_wp2_with fail
              refine (zzAdd _ p1 (g0 ++ la) lb g2 _ _ s2 _ _ z3 ⟨_, _, _, _, hst3⟩ (fun k hk => by omega) (hI.b.mono fun k _ hk h => by omega) (hI.d.mono fun k _ hk h => by omega) (by rw [List.length_append]; omega) (by rw [setO_other _ _ (Ne.symm hss)]; omega)).mono ?_
              rintro e z4 ⟨rfl, hk4, F4, gv4, bb4, f4, hst4⟩
              have hs4 := hk4.size
              replace hI := hI.kept hk4 (fun k hk h => by omega)
              replace hg2 := hg2.kept hk4 (fun k hk h => by omega)
              replace hbb := hbb.trans (hk4.below (by omega) fun k hk => by omega)
              clear hk4 hst3
              rw [setO_other _ _ (Ne.symm hss)] at hst4
              go_wp2_with fail
              refine (zzAdd _ p2 g0 lb g2 (look ks vs) ks.length s2 _ _ z4 hg2 (fun k hk => by omega) (hI.b.mono fun k _ hk h => by omega) (hI.d.mono fun k _ hk h => by omega) (by omega) (by omega)).mono ?_
              rintro e z5 ⟨rfl, hk5, F5, gv5, bb5, f5, hst5⟩
              have hs5 := hk5.size
              replace hI := hI.kept hk5 (fun k hk h => by omega)
              replace hst4 := hst4.kept hk5 (fun k hk h => by omega)
              replace hbb := hbb.trans (hk5.below (by omega) fun k hk => by omega)
              clear hk5 hg2
              go_wp2_with fail
              refine (zzAdd _ p2 (g0 ++ lb) la g1 _ _ s1 _ _ z5 ⟨_, _, _, _, hst5⟩ (fun k hk => by omega) (hI.a.mono fun k _ hk h => by omega) (hI.e.mono fun k _ hk h => by omega) (by rw [List.length_append]; omega) (by rw [setO_other _ _ hss]; omega)).mono ?_
              rintro e z6 ⟨rfl, hk6, F6, gv6, bb6, f6, hst6⟩
              have hs6 := hk6.size
              replace hI := hI.kept hk6 (fun k hk h => by omega)
              replace hst4 := hst4.kept hk6 (fun k hk h => by omega)
              replace hbb := hbb.trans (hk6.below (by omega) fun k hk => by omega)
              clear hk6 hst5
              rw [setO_other _ _ hss] at hst6
              go_wp2_with fail
              refine (concatStrs _ _ g0 la z6 hI.g.1 hI.a.1 (by omega)).mono ?_
              rintro e z7 ⟨hb7, v7, rfl, hm7, hn7⟩
              obtain ⟨a7, n7, c7, rfl⟩ := hm7.shape
              have hs7 := hb7.size
              replace hI := hI.kept (Kept.of_below hb7) (fun k hk h => by omega)
              replace hst4 := hst4.kept (Kept.of_below hb7) (fun k hk h => by omega)
              replace hst6 := hst6.kept (Kept.of_below hb7) (fun k hk h => by omega)
              replace hbb := hbb.trans (hb7.mono (by omega))
              clear hb7 hn7
              go_wp2_with fail
              refine (concatStrs _ _ (g0 ++ la) lb z7 hm7.reads hI.b.1 (by rw [List.length_append]; omega)).mono ?_
              rintro e z8 ⟨hb8, v8, rfl, hm8, hn8⟩
              obtain ⟨a8, n8, c8, rfl⟩ := hm8.shape
              have hs8 := hb8.size
              replace hI := hI.kept (Kept.of_below hb8) (fun k hk h => by omega)
              replace hst4 := hst4.kept (Kept.of_below hb8) (fun k hk h => by omega)
              replace hst6 := hst6.kept (Kept.of_below hb8) (fun k hk h => by omega)
              replace hbb := hbb.trans (hb8.mono (by omega))
              clear hb8 hn8 hm7
              have hr8 := hm8.reads
              clear hm8
              go_wp2_with fail
              refine (concatStrs _ _ g0 lb z8 hI.g.1 hI.b.1 (by omega)).mono ?_
              rintro e z9 ⟨hb9, v9, rfl, hm9, hn9⟩
              obtain ⟨a9, n9, c9, rfl⟩ := hm9.shape
              have hs9 := hb9.size
              replace hI := hI.kept (Kept.of_below hb9) (fun k hk h => by omega)
              replace hst4 := hst4.kept (Kept.of_below hb9) (fun k hk h => by omega)
              replace hst6 := hst6.kept (Kept.of_below hb9) (fun k hk h => by omega)
              replace hr8 := hr8.below hb9
              replace hbb := hbb.trans (hb9.mono (by omega))
              clear hb9 hn9
              go_wp2_with fail
              refine (concatStrs _ _ (g0 ++ lb) la z9 hm9.reads hI.a.1 (by rw [List.length_append]; omega)).mono ?_
              rintro e z10 ⟨hb10, v10, rfl, hm10, hn10⟩
              obtain ⟨a10, n10, c10, rfl⟩ := hm10.shape
              have hs10 := hb10.size
              replace hI := hI.kept (Kept.of_below hb10) (fun k hk h => by omega)
              replace hst4 := hst4.kept (Kept.of_below hb10) (fun k hk h => by omega)
              replace hst6 := hst6.kept (Kept.of_below hb10) (fun k hk h => by omega)
              replace hr8 := hr8.below hb10
              replace hbb := hbb.trans (hb10.mono (by omega))
              clear hb10 hn10 hm9
              have hr10 := hm10.reads
              clear hm10
              have hbw : ((g0 ++ la) ++ lb).length ≤ 1000000000 := by rw [List.length_append, List.length_append]; omega
              have hbw2 : ((g0 ++ lb) ++ la).length ≤ 1000000000 := by rw [List.length_append, List.length_append]; omega
              go_wp2_with fail
              refine (twoState hst4 (fun k hk => by omega) _ _ _ _ _ ks vs s1 s2 g1 g2 hr8 hI.k.1 hI.v.all.of hI.e.1 hI.d.1 HL.out hnd hbw (by omega) hvb (by omega) (by omega) (by rw [setO_other _ _ hss, setO_same]) (by rw [setO_same]) (fun k h1 h2 => by rw [setO_other _ _ h2, setO_other _ _ h1]) rfl).mono ?_
              rintro e z11 ⟨hb11, rfl⟩
              have hs11 := hb11.size
              replace hI := hI.kept (Kept.of_below hb11) (fun k hk h => by omega)
              replace hst6 := hst6.kept (Kept.of_below hb11) (fun k hk h => by omega)
              replace hr10 := hr10.below hb11
              replace hbb := hbb.trans (hb11.mono (by omega))
              clear hb11 hst4 hr8
              go_wp2_with fail
              refine (twoState hst6 (fun k hk => by omega) _ _ _ _ _ ks vs s1 s2 g1 g2 hr10 hI.k.1 hI.v.all.of hI.e.1 hI.d.1 HL.out hnd hbw2 (by omega) hvb (by omega) (by omega) (by rw [setO_same]) (by rw [setO_other _ _ (Ne.symm hss), setO_same]) (fun k h1 h2 => by rw [setO_other _ _ h1, setO_other _ _ h2]) (by omega)).mono ?_
              rintro e z12 ⟨hb12, rfl⟩
              go_wp2
              go_ret
              exact ⟨(hbz.trans (hbb.mono hbz.size)).trans (hb12.mono (by have := hbz.size; omega)), rfl⟩

end Go.Proofs.Qxb6619367a
