/- FnEventQueueDrainsInOrder: the walk (seat b6617448a). -/
import Derived.Test.Qxb6617448aSort
import Derived.Test.Qxb6617448aQRem
import Derived.Test.Qxb6617448aQRead
namespace Go.Proofs.Qxb6617448a
open Go.RowKit

def Said (w : World) (e : Ending) (w' : World) : Prop := Below w.heap.size w w' ∧ e = .returned (.bool true)

/-- 'copy(sorted, ats)', sorted just made. -/
theorem wpList_copyNew {ops : Array Oper} {rest : List Oper} {o : Oper} {a : Act} {Q : Exit → Act → World → Prop} (wd : World) (hgd : o.guard = none) (d s : Operand)
    (ho : o.op = .call { callee := .builtin .copy, args := #[d, s], argTypes := #[22, 22] }) (ss : List Int) (sa : Option Addr) (sc : Nat)
    (hd : a.eval d = .slice (some ⟨wd.heap.size, 0, none⟩) ss.length ss.length) (hs : a.eval s = .slice sa ss.length sc) (hr : Reads wd (.slice sa ss.length sc) (nums ss)) (hb : ss.length ≤ 549755813888)
    (h : ∀ w', Mine 2 w' (.slice (some ⟨wd.heap.size, 0, none⟩) ss.length ss.length) (nums ss) → Below wd.heap.size wd w' → wpList Try.prog ops Q rest (a.put o.dst (goInt ss.length)) w') :
    wpList Try.prog ops Q (o :: rest) a (wd.alloc (.cells (madeCells #[.int .i64 0] ss.length) 2)) := by
  have hsz : (Try.prog.info? 2).map (·.size) = some 1 := by kernel_rfl
  by_cases hz : ss = []
  · subst hz
    refine wpList_copy_nothing hgd d s 22 22 ho 2 Try.underlying22 hsz _ _ _ _ _ _ hd hs (by simp) ?_
    exact h _ (.inr ⟨_, 0, _, rfl, heap_alloc_new wd _, by simp [nums], by unfold maxLen; omega, by simp [madeCells], by simp [nums]⟩) ((Below.refl _ _).alloc (Nat.le_refl _) _)
  · have hnew := heap_alloc_new wd (.cells (madeCells #[.int .i64 0] ss.length) 2)
    obtain ⟨b, o', rfl, hc⟩ : ∃ b o, sa = some ⟨b, o, none⟩ ∧ ∀ i (h : i < (nums ss).length), wd.cell? ⟨b, o + i, none⟩ = some (nums ss)[i] := by
      rcases hr with ⟨_, hr⟩ | ⟨x, c, hx, _, hx2⟩
      · exact absurd (by simpa [nums] using hr) hz
      · simp only [Value.slice.injEq] at hx
        obtain ⟨rfl, _, rfl⟩ := hx
        obtain ⟨b, o, rfl, hc⟩ := hx2 (by simpa [nums] using hz)
        exact ⟨b, o, rfl, hc⟩
    have hlen : (madeCells #[.int .i64 0] ss.length).toList.length = ss.length := by simp [madeCells]
    refine wpList_copy_own hgd d s 22 22 ho 2 Try.underlying22 hsz wd.heap.size 0 ss.length ss.length ⟨b, o', none⟩ ss.length sc hd hs _ 2 hnew (nums ss) (by rw [nums_len]; simp) (fun j v hj => ?_) (by simp [madeCells, nums_len]) (nums_one _) ?_
    · have hjl := (List.getElem?_eq_some_iff.1 hj).1
      have hcj := hc j hjl
      have hlt := World.block_lt_of_cell? _ _ hcj
      rw [Addr.add_lit, World.cell?_alloc_past _ _ _ hlt, hcj]
      rw [← hj]; simp [hjl]
    · rw [nums_len]
      refine h _ ?_ (below_setRow ((Below.refl _ _).alloc (Nat.le_refl _) _) (Nat.le_refl _) _)
      refine .inr ⟨wd.heap.size, ss.length, _, by rw [nums_len], setRow_heap _ _ _ _ 2 _ hnew, by rw [nums_len]; exact Nat.le_refl _, by unfold maxLen; omega, ?_, ?_⟩
      · simp [nums_len, hlen]
      · simp [List.drop_eq_nil_of_le (Nat.le_of_eq hlen), List.take_of_length_le, nums_len]

/-- (5) zzBytes -/
theorem zzBytes5 (a : Option Addr) (n c : Nat) (w : World) : Calls Try.prog 5 #[.slice a n c] w fun e w' => e = .returned (.bool (decide (n ≤ 1048576))) ∧ w' = w := by
  by_cases h : n ≤ 1048576
  · go_enter Try.func5, Try.ntmps5
    go_wp2
    go_ret
    exact ⟨by simp [h], rfl⟩
  · have h' : 1048576 < n := by omega
    go_enter Try.func5, Try.ntmps5
    go_wp2
    go_ret
    exact ⟨by simp [h], rfl⟩

/-- (12) ZZRemove -/
theorem zzRemove (N B : Nat) (hp : List Elt) (sp : List Nat) (w : World) (hQ : QS N w B hp sp) (hN : N ≤ w.heap.size) (hne : hp ≠ []) (hb1 : hp.length ≤ 100000) (hb2 : sp.length ≤ 256) :
    Calls Try.prog 12 #[ptr B] w (RemPost N w B hp sp) := by
  have hc := qremove N B hp sp w hQ hN hne hb1 hb2
  unfold ptr at hc ⊢
  go_enter Try.func12, Try.ntmps12
  go_wp2_with fail
  refine hc.mono ?_
  rintro e w1 ⟨hb, rfl, r⟩
  go_wp2
  go_end0
  exact ⟨hb, rfl, r⟩

/-- The queue while the times go in. -/
def Adds (N B : Nat) (w0 : World) (zs : List Int) (k : Nat) (x7 : Value) (wr : World) : Prop :=
  ∃ hp : List Elt, Below N w0 wr ∧ QS N wr B hp [] ∧ (hp.map (·.2)).Perm (zs.take k) ∧ ∃ m, x7 = .int .i64 m ∧ (0 < k → m ∈ zs.take k ∧ ∀ z ∈ zs.take k, m ≤ z)
/-- .. while they come out. -/
def Rems (N B : Nat) (w0 : World) (ys : List Int) (k : Nat) (wr : World) : Prop :=
  ∃ (hp : List Elt) (sp : List Nat), Below N w0 wr ∧ QS N wr B hp sp ∧ (hp.map (·.2)).Perm (ys.drop k) ∧ sp.length = min k 256

theorem top_min {N B : Nat} {w : World} {hp : List Elt} {sp : List Nat} (h : QS N w B hp sp) {l : List Int} (hl : (hp.map (·.2)).Perm l) {m : Int} (hm : m ∈ l) (hmin : ∀ z ∈ l, m ≤ z) : ky hp 0 = m := by
  obtain ⟨_, _, _, _, _, _, _, hh⟩ := h
  have hpos : 0 < hp.length := by
    rcases Nat.eq_zero_or_pos hp.length with e | e
    · have : hp = [] := List.eq_nil_of_length_eq_zero e
      subst this
      have := hl.mem_iff.2 hm
      simp at this
    · exact e
  have h0 : ky hp 0 ∈ l := hl.mem_iff.1 (List.mem_map.2 ⟨hp.getD 0 dE, by simp [List.getD_eq_getElem?_getD, hpos], rfl⟩)
  have h1 := hmin _ h0
  obtain ⟨x, hx, hxm⟩ := List.mem_map.1 (hl.mem_iff.2 hm)
  obtain ⟨j, hj, rfl⟩ := List.getElem_of_mem hx
  have h2 := hh.min j hj
  have e : ky hp j = hp[j].2 := by simp [ky, List.getD_eq_getElem?_getD, hj]
  rw [e, hxm] at h2
  omega

theorem strict_lt {ys : List Int} {n : Nat} (h : ∀ x, x + 1 < n → fn ys x < fn ys (x + 1)) : ∀ j i, i < j → j < n → fn ys i < fn ys j := by
  intro j
  induction j with
  | zero => intro i h1; omega
  | succ j ih =>
    intro i h1 h2
    have h3 := h j h2
    by_cases e : i = j
    · subst e; exact h3
    · have := ih i (by omega) (by omega); omega
theorem strict_nodup {ys : List Int} (h : ∀ x, x + 1 < ys.length → fn ys x < fn ys (x + 1)) : ys.Nodup := by
  rw [List.Nodup, List.pairwise_iff_getElem]
  intro i j hi hj hij e
  have := strict_lt h j i hij hj
  simp only [fn, List.getD_eq_getElem?_getD, List.getElem?_eq_getElem hi, List.getElem?_eq_getElem hj, Option.getD_some] at this
  omega

set_option maxRecDepth 20000 in
set_option maxHeartbeats 4000000 in
/-- (3) FnEventQueueDrainsInOrder -/
theorem main3 (v : Value) (zs : List Int) (w : World) (hr : Reads w v (nums zs)) : Calls Try.prog 3 #[v] w (Said w) := by
  obtain ⟨a, c, hv⟩ := hr.form
  rw [nums_len] at hv
  subst hv
  have hz := zzBytes5 a zs.length c w
  by_cases hbig : zs.length ≤ 65536
  case neg =>
    by_cases hb2 : zs.length ≤ 1048576
    · rw [show decide (zs.length ≤ 1048576) = true from by simp [hb2]] at hz
      have hb3 : 65536 < zs.length := by omega
      go_enter Try.func3, Try.ntmps3
      go_wp2_with fail
      refine hz.mono ?_
      rintro e w1 ⟨rfl, hw⟩
      subst hw
      go_wp2
      go_ret
      exact ⟨Below.refl _ _, rfl⟩
    · rw [show decide (zs.length ≤ 1048576) = false from by simp [hb2]] at hz
      go_enter Try.func3, Try.ntmps3
      go_wp2_with fail
      refine hz.mono ?_
      rintro e w1 ⟨rfl, hw⟩
      subst hw
      go_wp2
      go_ret
      exact ⟨Below.refl _ _, rfl⟩
  rw [show decide (zs.length ≤ 1048576) = true from by simp; omega] at hz
  have hmk := run_mkrow Try.underlying22 info2 rfl zs.length (by omega) (by omega)
  go_enter Try.func3, Try.ntmps3
  go_wp2_with fail
  refine hz.mono ?_
  rintro e w1 ⟨rfl, hw⟩
  subst hw
  clear hz
  go_upto_region 7 with fail
  go_upto_region 8 with (refine wpList_copyNew w1 rfl (.tmp 26) (.tmp 27) rfl zs a c rfl rfl hr (by omega) ?_; intro w2 hm2 hb2)
  obtain ⟨ga, hga⟩ : ∃ ga, w1.heap.size = ga := ⟨_, rfl⟩
  rw [hga] at hm2 ⊢
  have hsort := sortInts ga zs.length zs.length zs w2 hm2 rfl hbig
  go_wp2_with fail
  refine hsort.mono ?_
  rintro e w3 ⟨rfl, hk3, ys, hm3, hpy, hord⟩
  have hbz : Below w1.heap.size w1 w3 := hb2.trans (hk3.below hb2.size fun k e => by omega)
  have hyl : ys.length = zs.length := hpy.length_eq
  have HYL : Hid (ys.length = zs.length) := hyl
  clear hsort hk3 hb2 hm2 hmk hyl
  go_wp2
  go_loopw [5] (fun x wr => ∃ k m : Nat, x = .int .i64 k ∧ 1 ≤ k ∧ k ≤ zs.length + 1 ∧ wr = w3.drewN m ∧ ∀ x, x + 1 < k → x + 1 < zs.length → fn ys x < fn ys (x + 1)) (fun x _ => zs.length - (intOf x).toNat)
  case atStart => exact ⟨1, 0, rfl, by omega, by omega, rfl, fun x h => by omega⟩
  case round =>
    obtain ⟨k, m, rfl, hk1, hk2, rfl, hst⟩ := hrel
    by_cases hlt : k < zs.length
    · obtain ⟨j, rfl⟩ : ∃ j, k = j + 1 := ⟨k - 1, by omega⟩
      have e1 := hm3.at (nums_at (l := ys) (k := j) (by have := HYL.out; omega))
      have e2 := hm3.at (nums_at (l := ys) (k := j + 1) (by have := HYL.out; omega))
      have hle := hord j (j + 1) (by omega) (by omega) (by omega)
      obtain ⟨y1, hy1⟩ : ∃ y, fn ys j = y := ⟨_, rfl⟩
      obtain ⟨y2, hy2⟩ : ∃ y, fn ys (j + 1) = y := ⟨_, rfl⟩
      rw [hy1] at e1
      rw [hy2] at e2
      have g1 : (0 : Int) ≤ (j : Int) := by omega
      have g2 : (j : Int) < (zs.length : Int) := by omega
      have g3 : ((j : Int) + 1) < (zs.length : Int) := by omega
      by_cases he : y1 = y2
      · have he' : (y1 == y2) = true := by simp [he]
        subst he
        go_wp2
        go_quiet (fail)
        go_wp2
        go_ret
        exact ⟨below_drewN' (below_drewN' hbz), rfl⟩
      · have he' : (y1 == y2) = false := by simp [he]
        go_wp2
        go_quiet (fail)
        go_wp2
        go_roundw
        case rel => exact ⟨j + 1 + 1, m + nq, by go_num, by omega, by omega, rfl, fun x h1 h2 => by
          by_cases e : x = j
          · subst e; rw [hy1, hy2]; rw [hy1, hy2] at hle; omega
          · exact hst x (by omega) h2⟩
        case measure => simp [intOf]; omega
    · have hstr : ∀ x, x + 1 < zs.length → fn ys x < fn ys (x + 1) := fun x h => hst x (by omega) h
      have hbz4 : Below w1.heap.size w1 (w3.drewN m) := below_drewN' hbz
      have hr4 : Reads (w3.drewN m) (.slice a zs.length c) (nums zs) := hr.below hbz4
      have hm4 : Mine 2 (w3.drewN m) (.slice (some ⟨ga, 0, none⟩) zs.length zs.length) (nums ys) := hm3
      obtain ⟨w4, hw4⟩ : ∃ y, w3.drewN m = y := ⟨_, rfl⟩
      rw [hw4] at hbz4 hr4 hm4 ⊢
      clear hw4 hst hm3 hbz hr
      go_wp2_with fail
      refine (newQueue w4).mono ?_
      rintro e w5 ⟨rfl, hb5, hQ5⟩
      obtain ⟨N, hN⟩ : ∃ N, w4.heap.size = N := ⟨_, rfl⟩
      rw [hN] at hb5 hQ5 ⊢
      have HN4 : Hid (w4.heap.size = N) := hN
      clear hN
      go_wp2
      have hnd : zs.Nodup := hpy.nodup_iff.1 (strict_nodup fun x hx => hstr x (by have := HYL.out; omega))
      have hb45 : Below N w4 w5 := hb5
      have hN5 : N ≤ w5.heap.size := by have := hb5.size; have := HN4.out; omega
      have h0rel : Adds N N w5 zs 0 (.int .i64 0) w5 := ⟨[], Below.refl _ _, hQ5, by simp, 0, rfl, fun h => by omega⟩
      go_loopw [7, 8] (fun x7 x8 wr => ∃ k : Nat, x8 = .int .i64 k ∧ k ≤ zs.length ∧ Adds N N w5 zs k x7 wr) (fun _ x _ => zs.length - (intOf x).toNat)
      case atStart => exact ⟨0, rfl, by omega, h0rel⟩
      case round =>
        clear h0rel hQ5
        obtain ⟨k, rfl, hkn, hp, hbr, hQr, hpr, mn, rfl, hmn⟩ := hrel
        have hNr : N ≤ wr.heap.size := Nat.le_trans hN5 hbr.size
        have hpl : hp.length = k := by have := hpr.length_eq; simp at this; omega
        by_cases hlt2 : k < zs.length
        · have hrr : Reads wr (.slice a zs.length c) (nums zs) := hr4.below (by rw [HN4.out]; exact hb45.trans hbr)
          obtain ⟨b, o, _, hq, hc⟩ := hrr.num hlt2
          simp only [Value.slice.injEq] at hq
          obtain ⟨rfl, _, rfl⟩ := hq
          have q := hc k hlt2
          have e1 := take_getD zs k 0 hlt2
          have hat : zs.getD k 0 ∉ hp.map (·.2) := fun h => by
            have h1 := hpr.mem_iff.1 h
            obtain ⟨j, hj, hje⟩ := List.getElem_of_mem h1
            rw [List.length_take] at hj
            rw [List.getElem_take] at hje
            have : zs.getD k 0 = zs[k] := by simp [hlt2]
            rw [this] at hje
            exact List.pairwise_iff_getElem.1 hnd j k (by omega) hlt2 (by omega) hje
          obtain ⟨y, hy⟩ : ∃ y, zs.getD k 0 = y := ⟨_, rfl⟩
          rw [hy] at q e1 hat
          have hadd := zzAdd N N hp [] y wr hQr hNr hat (by omega) (by simp)
          unfold ptr at hadd
          have g1 : (0 : Int) ≤ (k : Int) := by omega
          have g2 : (k : Int) < (zs.length : Int) := by omega
          clear hc hy hat hrr
          go_wp2_with fail
          refine hadd.mono ?_
          rintro e w6 ⟨hb6, rfl, g, hp', sp', hQ6, hperm, hsl⟩
          obtain rfl : sp' = [] := List.eq_nil_of_length_eq_zero (by simpa using hsl)
          have hpr' : (hp'.map (·.2)).Perm (zs.take (k + 1)) := by
            rw [e1]
            refine (hperm.map _).trans ?_
            simp only [List.map_append, List.map_cons, List.map_nil]
            exact hpr.append_right _
          have hpl' : hp'.length = k + 1 := by rw [hperm.length_eq]; simp [hpl]
          have hbr6 : Below N w5 w6 := hbr.trans hb6
          clear hadd hQr hpr hperm hsl hb6 hbr hpl
          obtain ⟨mn', hmn', hmv⟩ : ∃ mn', (mn' ∈ zs.take (k + 1) ∧ ∀ z ∈ zs.take (k + 1), mn' ≤ z) ∧ mn' = if k = 0 ∨ y < mn then y else mn := by
            refine ⟨_, ?_, rfl⟩
            rw [e1]
            by_cases hk0 : k = 0
            · subst hk0; simp
            · obtain ⟨h1, h2⟩ := hmn (by omega)
              by_cases h3 : y < mn
              · rw [if_pos (.inr h3)]
                refine ⟨by simp, fun z hz => ?_⟩
                rw [List.mem_append, List.mem_singleton] at hz
                rcases hz with hz | rfl
                · have := h2 z hz; omega
                · exact Int.le_refl _
              · rw [if_neg (by omega)]
                refine ⟨by simp [h1], fun z hz => ?_⟩
                rw [List.mem_append, List.mem_singleton] at hz
                rcases hz with hz | rfl
                · exact h2 z hz
                · omega
          have h9 := zzLen hQ6
          have h10 := zzMapLen hQ6
          have h11 := zzAtOf hQ6 (k := 0) (by omega)
          rw [hpl'] at h9 h10
          rw [top_min hQ6 hpr' hmn'.1 hmn'.2] at h11
          unfold ptr at h9 h10 h11
          have hrel' : Adds N N w5 zs (k + 1) (.int .i64 mn') w6 := ⟨hp', hbr6, hQ6, hpr', mn', rfl, fun _ => hmn'⟩
          have hg : (((k + 1 : Nat) : Int) != (k : Int) + 1) = false := by simp
          have hgg : (mn' != mn') = false := by simp
          clear hmn hmn' hpr' hQ6 hbr6 hpl' e1
          by_cases hk0 : k = 0
          · obtain rfl : mn' = y := by rw [hmv, if_pos (.inl hk0)]
            have hk0' : ((k : Int) == 0) = true := by simp [hk0]
            clear hmv
            go_wp2_with fail
            refine h9.mono ?_
            rintro e w7 ⟨rfl, hw⟩
            subst hw
            go_wp2_with fail
            refine h10.mono ?_
            rintro e w7 ⟨rfl, hw⟩
            subst hw
            go_wp2_with fail
            refine h11.mono ?_
            rintro e w7 ⟨rfl, hw⟩
            subst hw
            clear h9 h10 h11
            go_wp2
            go_roundw
            case rel => exact ⟨k + 1, by go_num, by omega, hrel'⟩
            case measure => simp [intOf]; omega
          · have hk0' : ((k : Int) == 0) = false := by simp [hk0]
            by_cases hym : y < mn
            · obtain rfl : mn' = y := by rw [hmv, if_pos (.inr hym)]
              clear hmv
              go_wp2_with fail
              refine h9.mono ?_
              rintro e w7 ⟨rfl, hw⟩
              subst hw
              go_wp2_with fail
              refine h10.mono ?_
              rintro e w7 ⟨rfl, hw⟩
              subst hw
              go_wp2_with fail
              refine h11.mono ?_
              rintro e w7 ⟨rfl, hw⟩
              subst hw
              clear h9 h10 h11
              go_wp2
              go_roundw
              case rel => exact ⟨k + 1, by go_num, by omega, hrel'⟩
              case measure => simp [intOf]; omega
            · obtain rfl : mn' = mn := by rw [hmv, if_neg (by omega)]
              clear hmv
              go_wp2_with fail
              refine h9.mono ?_
              rintro e w7 ⟨rfl, hw⟩
              subst hw
              go_wp2_with fail
              refine h10.mono ?_
              rintro e w7 ⟨rfl, hw⟩
              subst hw
              go_wp2_with fail
              refine h11.mono ?_
              rintro e w7 ⟨rfl, hw⟩
              subst hw
              clear h9 h10 h11
              go_wp2
              go_roundw
              case rel => exact ⟨k + 1, by go_num, by omega, hrel'⟩
              case measure => simp [intOf]; omega
        · obtain rfl : k = zs.length := by omega
          have h0r : Rems N N w5 ys 0 wr := ⟨hp, [], hbr, hQr, by rw [List.take_length] at hpr; simpa using hpr.trans hpy.symm, by simp⟩
          clear hmn hQr hpr hpl hbr hNr hlt2
          go_wp2
          go_loopw [14] (fun x wr => ∃ k : Nat, x = .int .i64 k ∧ k ≤ zs.length ∧ Rems N N w5 ys k wr) (fun x _ => zs.length - (intOf x).toNat)
          case atStart => exact ⟨0, rfl, by omega, h0r⟩
          case round =>
            clear h0r
            obtain ⟨k, rfl, hkn, hp, sp, hbr, hQr, hpr, hsl⟩ := hrel
            have hNr : N ≤ wr.heap.size := Nat.le_trans hN5 hbr.size
            have hyl := HYL.out
            have hpl : hp.length = zs.length - k := by have := hpr.length_eq; simp at this; omega
            by_cases hlt3 : k < zs.length
            · have hky : k < ys.length := by omega
              have hdr : ys.drop k = fn ys k :: ys.drop (k + 1) := by
                rw [List.drop_eq_getElem_cons hky]
                simp [fn, hky, List.getD_eq_getElem?_getD]
              have htop : ky hp 0 = fn ys k := top_min hQr hpr (by rw [hdr]; simp) (fun z hz => by
                rw [hdr, List.mem_cons] at hz
                rcases hz with rfl | hz
                · exact Int.le_refl _
                · obtain ⟨j, hj, rfl⟩ := List.getElem_of_mem hz
                  rw [List.length_drop] at hj
                  rw [List.getElem_drop]
                  have := strict_lt hstr (k + 1 + j) k (by omega) (by omega)
                  have e : fn ys (k + 1 + j) = ys[k + 1 + j] := by simp [fn, List.getD_eq_getElem?_getD, show k + 1 + j < ys.length by omega]
                  rw [e] at this; omega)
              have h9 : ∀ n, Calls Try.prog 9 #[.pointer (some ⟨N, 0, none⟩)] (wr.drewN n) fun e w' => e = .returned (.int .i64 ((zs.length : Int) - (k : Int))) ∧ w' = wr.drewN n := fun n => by
                have := zzLen (hQr.drewN n)
                rw [show ((hp.length : Nat) : Int) = (zs.length : Int) - (k : Int) by omega] at this
                exact this
              have h11 : ∀ n, Calls Try.prog 11 #[.pointer (some ⟨N, 0, none⟩), .int .i64 0] (wr.drewN n) fun e w' => e = .returned (.int .i64 (fn ys k)) ∧ w' = wr.drewN n := fun n => by
                have := zzAtOf (hQr.drewN n) (k := 0) (by omega)
                rw [htop] at this
                exact this
              have hmr : Mine 2 wr (.slice (some ⟨ga, 0, none⟩) zs.length zs.length) (nums ys) := hm4.of_block fun g hg => (hb45.trans hbr).block g (by have := hm4.lt g hg; have := HN4.out; omega)
              have ek := hmr.at (nums_at (l := ys) (k := k) hky)
              obtain ⟨y, hy⟩ : ∃ y, fn ys k = y := ⟨_, rfl⟩
              rw [hy] at h11 ek
              have hrm := fun m => zzRemove N N hp sp (wr.drewN m) (hQr.drewN m) (by exact hNr) (by intro e; rw [e] at hpl; simp at hpl; omega) (by omega) (by omega)
              unfold ptr at hrm
              have g1 : (0 : Int) ≤ (k : Int) := by omega
              have g2 : (k : Int) < (zs.length : Int) := by omega
              have gd1 : (((zs.length : Int) - (k : Int)) != ((zs.length : Int) - (k : Int))) = false := by simp
              have gd2 : (y != y) = false := by simp
              have HPL : Hid (hp.length = zs.length - k) := hpl
              have HSL : Hid (sp.length = min k 256) := hsl
              clear hyl hpl hsl hmr
              go_wp2
              go_quiet (first | (go_at_call 9; refine Calls.quiet_of_same (h9 _)) | (go_at_call 11; refine Calls.quiet_of_same (h11 _)))
              go_wp2_with fail
              refine (hrm _).mono ?_
              rintro e w7 ⟨hb7, rfl, hp', sp', hQ7, hperm, hsl'⟩
              have hrel' : Rems N N w5 ys (k + 1) w7 := by
                refine ⟨hp', sp', (below_drewN' hbr).trans hb7, hQ7, ?_, by have := HSL.out; omega⟩
                have h1 : (ky hp 0 :: hp'.map (·.2)).Perm (hp.map (·.2)) := hperm.map (fun x : Elt => x.2)
                have h2 := h1.trans hpr
                rw [hdr, htop] at h2
                exact h2.cons_inv
              clear hperm hQ7 hb7 hrm
              go_wp2
              go_roundw
              case rel => exact ⟨k + 1, by go_num, by omega, hrel'⟩
              case measure => simp [intOf]; omega
            · obtain rfl : k = zs.length := by omega
              have hhp : hp = [] := List.eq_nil_of_length_eq_zero (by omega)
              subst hhp
              have h9 := zzLen hQr
              have h10 := zzMapLen hQr
              have h13 := zzSpares hQr
              rw [hsl] at h13
              unfold ptr at h9 h10 h13
              have hfin : Below w1.heap.size w1 wr := hbz4.trans ((hb45.trans hbr).mono (by have := hbz4.size; have := HN4.out; omega))
              have gd0 : ((([] : List Elt).length : Int) == 0) = true := by simp
              clear hpr hQr hyl hpl
              by_cases hbig2 : zs.length ≤ 256
              · rw [Nat.min_eq_left hbig2] at h13
                go_wp2_with fail
                refine h9.mono ?_
                rintro e w7 ⟨rfl, hw⟩
                subst hw
                go_wp2_with fail
                refine h10.mono ?_
                rintro e w7 ⟨rfl, hw⟩
                subst hw
                go_wp2_with fail
                refine h13.mono ?_
                rintro e w7 ⟨rfl, hw⟩
                subst hw
                go_wp2
                go_ret
                exact ⟨hfin, rfl⟩
              · rw [Nat.min_eq_right (by omega)] at h13
                have hbig2' : 256 < zs.length := by omega
                go_wp2_with fail
                refine h9.mono ?_
                rintro e w7 ⟨rfl, hw⟩
                subst hw
                go_wp2_with fail
                refine h10.mono ?_
                rintro e w7 ⟨rfl, hw⟩
                subst hw
                go_wp2_with fail
                refine h13.mono ?_
                rintro e w7 ⟨rfl, hw⟩
                subst hw
                go_wp2
                go_ret
                exact ⟨hfin, rfl⟩
end Go.Proofs.Qxb6617448a
