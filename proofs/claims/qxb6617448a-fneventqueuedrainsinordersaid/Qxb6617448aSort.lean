/- zzSortInt64s (seat b6617448a). -/
import Derived.Test.Qxb6617448aMerge
import Derived.Test.Qxb6617448aQAdd
import Derived.Laws.CopyOwn
namespace Go.Proofs.Qxb6617448a
open Go.RowKit

theorem nums_set (l : List Int) (k : Nat) (v : Int) : nums (l.set k v) = (nums l).set k (.int .i64 v) := by simp [nums, List.map_set]
theorem nums_at {l : List Int} {k : Nat} (h : k < l.length) : (nums l)[k]? = some (.int .i64 (fn l k)) := by simp [nums, fn, h, List.getD_eq_getElem?_getD]

/-- The buffer turns, all else since wp stands. -/
def SW (gb n : Nat) (wp : World) (bs : List Int) (wr : World) : Prop := Kept (fun k => k = gb) wp wr ∧ Mine 2 wr (.slice (some ⟨gb, 0, none⟩) n n) (nums bs) ∧ bs.length = n

theorem SW.facts {ga gb n ca : Nat} {wp wr : World} {xs bs : List Int} (h : SW gb n wp bs wr) (ha : Mine 2 wp (.slice (some ⟨ga, 0, none⟩) n ca) (nums xs)) (hal : xs.length = n) (hne : ga ≠ gb) :
    (∀ x, x < n → wr.cell? ⟨ga, x, none⟩ = some (.int .i64 (fn xs x))) ∧ (∀ x, x < n → wr.cell? ⟨gb, x, none⟩ = some (.int .i64 (fn bs x))) ∧ ∀ x, wr.frozen? ⟨gb, x, none⟩ = false := by
  have ha' : Mine 2 wr (.slice (some ⟨ga, 0, none⟩) n ca) (nums xs) := ha.of_block fun g hg => h.1.block g (ha.lt g hg) (fun e => by simp [Value.ownBlock] at hg; omega)
  exact ⟨fun x hx => ha'.at (nums_at (by omega)), fun x hx => h.2.1.at (nums_at (by have := h.2.2; omega)), fun x => h.2.1.fro x⟩
theorem SW.store {gb n k : Nat} {wp wr : World} {bs : List Int} (h : SW gb n wp bs wr) (v : Int) : SW gb n wp (bs.set k v) (wr.setCell ⟨gb, k, none⟩ (.int .i64 v)) := by
  refine ⟨h.1.trans (setCell_kept wr ⟨gb, k, none⟩ _), ?_, by simpa using h.2.2⟩
  rw [nums_set]; exact h.2.1.set k _
theorem SW.drewN {gb n : Nat} {wp wr : World} {bs : List Int} (h : SW gb n wp bs wr) (m : Nat) : SW gb n wp bs (wr.drewN m) := ⟨h.1.drewN m, h.2.1, h.2.2⟩

theorem wpList_copyInts {ops : Array Oper} {rest : List Oper} {o : Oper} {a : Act} {w : World} {Q : Exit → Act → World → Prop} (hgd : o.guard = none) (d s : Operand)
    (ho : o.op = .call { callee := .builtin .copy, args := #[d, s], argTypes := #[22, 22] }) {ga gb n ca : Nat} {xs bs : List Int}
    (hd : a.eval d = .slice (some ⟨ga, 0, none⟩) n ca) (hs : a.eval s = .slice (some ⟨gb, 0, none⟩) n n) (ha : Mine 2 w (.slice (some ⟨ga, 0, none⟩) n ca) (nums xs)) (hb : Mine 2 w (.slice (some ⟨gb, 0, none⟩) n n) (nums bs)) (hbl : bs.length = n)
    (h : ∀ w', Mine 2 w' (.slice (some ⟨ga, 0, none⟩) n ca) (nums bs) → Kept (fun k => k = ga) w w' → wpList Try.prog ops Q rest (a.put o.dst (goInt n)) w') : wpList Try.prog ops Q (o :: rest) a w := by
  have hsz : (Try.prog.info? 2).map (·.size) = some 1 := by kernel_rfl
  have hlen : (nums bs).length = n := by rw [nums_len, hbl]
  obtain ⟨cur, h2, h3, h4, h5, h6⟩ : ∃ cur, w.heap[ga]? = some (.cells cur 2 (0, 0)) ∧ n ≤ ca ∧ ca ≤ maxLen ∧ cur.size = ca ∧ True := by
    rcases ha with ⟨h1, _⟩ | ⟨g', cap, cur, h1, h2, h3, h4, h5, h6⟩
    · cases h1
    · simp only [Value.slice.injEq, Option.some.injEq, Addr.mk.injEq] at h1
      obtain ⟨⟨rfl, _⟩, h7, rfl⟩ := h1
      exact ⟨cur, h2, by omega, h4, h5, trivial⟩
  refine wpList_copy_own hgd d s 22 22 ho 2 Try.underlying22 hsz ga 0 n ca ⟨gb, 0, none⟩ n n hd hs cur 2 h2 (nums bs) (by rw [hlen]; simp) (fun j v hj => ?_) (by rw [hlen]; omega) (nums_one _) ?_
  · rw [Addr.add_lit, Nat.zero_add]; exact hb.at hj
  · rw [hlen]
    refine h _ ?_ ⟨rfl, rfl, rfl, by simp [World.setRow], fun k _ hk => setRow_other w ga k _ hk⟩
    refine .inr ⟨ga, ca, _, by rw [hlen], setRow_heap _ _ _ _ 2 _ h2, by rw [hlen]; exact h3, h4, ?_, ?_⟩
    · simp [hlen]; omega
    · simp [hlen]

def SortPost (ga n ca : Nat) (zs : List Int) (w : World) (e : Ending) (w' : World) : Prop :=
  e = .returned (.tuple #[]) ∧ Kept (fun k => k = ga) w w' ∧ ∃ zs', Mine 2 w' (.slice (some ⟨ga, 0, none⟩) n ca) (nums zs') ∧ zs'.Perm zs ∧ Ord (fn zs') 0 n

/-- Between two passes. -/
def PI (ga gb n ca : Nat) (w : World) (zs : List Int) (W : Nat) (wr : World) : Prop :=
  Kept (fun k => k = ga) w wr ∧ ∃ xs bs : List Int, Mine 2 wr (.slice (some ⟨ga, 0, none⟩) n ca) (nums xs) ∧ xs.length = n ∧ Mine 2 wr (.slice (some ⟨gb, 0, none⟩) n n) (nums bs) ∧ bs.length = n ∧ Chunks (fn xs) W n ∧ ∀ v, cnt (fn xs) v 0 n = cnt (fn zs) v 0 n

set_option maxRecDepth 20000 in
set_option maxHeartbeats 4000000 in
/-- (6) zzSortInt64s -/
theorem sortInts (ga n ca : Nat) (zs : List Int) (w : World) (ha : Mine 2 w (.slice (some ⟨ga, 0, none⟩) n ca) (nums zs)) (hn : zs.length = n) (hb : n ≤ 65536) :
    Calls Try.prog 6 #[.slice (some ⟨ga, 0, none⟩) n ca] w (SortPost ga n ca zs w) := by
  have hmk := run_mkrow Try.underlying22 info2 rfl n (by omega) (by omega)
  have hga := ha.lt ga rfl
  have hne : ga ≠ w.heap.size := by omega
  have h0 : PI ga w.heap.size n ca w zs 1 (w.alloc (.cells (madeCells #[.int .i64 0] n) 2)) := by
    refine ⟨(Kept.refl _ _).alloc _, zs, List.replicate n 0, ha.alloc _, hn, ?_, by simp, chunks_one _ _, fun _ => rfl⟩
    refine .inr ⟨w.heap.size, n, _, by rw [nums_len, List.length_replicate], heap_alloc_new w _, by rw [nums_len, List.length_replicate]; exact Nat.le_refl _, by unfold maxLen; omega, by simp [madeCells], ?_⟩
    rw [nums_len, List.length_replicate]
    apply List.ext_getElem?
    intro j
    by_cases hj : j < n
    · simp [hj, madeCells, nums, Nat.mod_one]
    · rw [List.getElem?_eq_none (by simp [madeCells]; omega), List.getElem?_eq_none (by simp [nums]; omega)]
  have HN : Hid (zs.length = n) := hn
  obtain ⟨gb, hgb⟩ : ∃ gb, w.heap.size = gb := ⟨_, rfl⟩
  rw [hgb] at h0 hne
  clear hn ha
  go_enter Try.func6, Try.ntmps6
  go_wp2
  clear hmk
  go_loopw [4] (fun x wr => ∃ W : Nat, x = .int .i64 W ∧ 1 ≤ W ∧ W ≤ 131072 ∧ PI ga gb n ca w zs W wr) (fun x _ => n - (intOf x).toNat)
  case atStart => exact ⟨1, rfl, by omega, by omega, h0⟩
  case round =>
    clear h0
    obtain ⟨W, rfl, hW1, hW2, hkw, xs, bs0, ham, hal, hbm0, hbl0, hch, hcn⟩ := hrel
    by_cases hlt : W < n
    · have hs0 : SW gb n wr bs0 wr := ⟨Kept.refl _ _, hbm0, hbl0⟩
      have HAL : Hid (xs.length = n) := hal
      obtain ⟨wp, hwp⟩ : ∃ wp, wr = wp := ⟨_, rfl⟩
      rw [hwp] at hkw ham hs0 ⊢
      clear hal hbm0 hbl0 hwp
      go_wp2
      go_loopw [5] (fun x wr => ∃ (c L : Nat) (bs : List Int), x = .int .i64 L ∧ Hid (L = c * (2 * W)) ∧ L ≤ n + 2 * W ∧ SW gb n wp bs wr ∧ LI (fn xs) (fn bs) (2 * W) n c) (fun x _ => n - (intOf x).toNat)
      case atStart => exact ⟨0, 0, bs0, rfl, by show 0 = 0 * _; simp, by omega, hs0, LI.start _ _ _ _⟩
      case round =>
        clear hs0
        obtain ⟨c, L, bs1, rfl, HLc, hLb, hsw, hli⟩ := hrel
        by_cases hLn : L < n
        · obtain ⟨M, hM⟩ : ∃ M, M = min (L + W) n := ⟨_, rfl⟩
          obtain ⟨H, hH⟩ : ∃ H, H = min (L + 2 * W) n := ⟨_, rfl⟩
          have hM1 : L ≤ M := by omega
          have hM2 : M ≤ H := by omega
          have hH1 : H ≤ n := by omega
          have hAl : Ord (fn xs) L M := fun x y h1 h2 h3 => by
            have e := HLc.out
            have e2 : (2 * c) * W = c * (2 * W) := by rw [Nat.mul_comm 2 c, Nat.mul_assoc]
            exact hch (2 * c) x y (by omega) h2 (by omega)
          have hAr : Ord (fn xs) M H := fun x y h1 h2 h3 => by
            have e := HLc.out
            have e2 : (2 * c + 1) * W = c * (2 * W) + W := by rw [Nat.succ_mul, Nat.mul_comm 2 c, Nat.mul_assoc]
            exact hch (2 * c + 1) x y (by omega) h2 (by omega)
          have HM : Hid (M = min (L + W) n) := hM
          have HH : Hid (H = min (L + 2 * W) n) := hH
          clear hM hH
          go_upto_if 32 with fail
          go_cut [6] from 33 to 33 (fun v w' => v = .int .i64 M ∧ w' = wr)
          case first =>
            have hM := HM.out
            by_cases h1 : L + W > n
            · have h1' : (L : Int) + (W : Int) > (n : Int) := by omega
              clear hM
              go_wp2
              go_meet
              case rel => exact ⟨by have := HM.out; congr 1; omega, rfl⟩
            · have h1' : ¬ ((L : Int) + (W : Int) > (n : Int)) := by omega
              clear hM
              go_wp2
              go_meet
              case rel => exact ⟨by have := HM.out; congr 1; omega, rfl⟩
          case rest =>
            obtain ⟨rfl, hwc⟩ := hcut
            rw [hwc]
            clear hwc
            go_upto_if 40 with fail
            go_cut [7] from 41 to 41 (fun v w' => v = .int .i64 H ∧ w' = wr)
            case first =>
              by_cases h1 : L + 2 * W > n
              · have h1' : (L : Int) + 2 * (W : Int) > (n : Int) := by omega
                go_wp2
                go_meet
                case rel => exact ⟨by have := HH.out; congr 1; omega, rfl⟩
              · have h1' : ¬ ((L : Int) + 2 * (W : Int) > (n : Int)) := by omega
                go_wp2
                go_meet
                case rel => exact ⟨by have := HH.out; congr 1; omega, rfl⟩
            case rest =>
              obtain ⟨rfl, hwc⟩ := hcut
              rw [hwc]
              clear hwc
              go_wp2
              go_loopw [8, 9, 10] (fun xi xj xk wr => ∃ (i j k : Nat) (bs : List Int), xi = .int .i64 i ∧ xj = .int .i64 j ∧ xk = .int .i64 k ∧ SW gb n wp bs wr ∧ MI (fn xs) (fn bs) L M H i j k ∧ Same (fn bs1) (fn bs) L) (fun xi xj _ _ => (M + H) - (intOf xi).toNat - (intOf xj).toNat)
              case atStart => exact ⟨L, M, L, bs1, rfl, rfl, rfl, hsw, MI.start hM1 hM2, fun _ _ => rfl⟩
              case round =>
                obtain ⟨i, j, k, bs, rfl, rfl, rfl, hsb, hmi, hsame⟩ := hrel
                obtain ⟨fa, fb, ff⟩ := hsb.facts ham HAL.out hne
                have q1 := hmi.i0
                have q2 := hmi.i1
                have q3 := hmi.j0
                have q4 := hmi.j1
                have q5 := hmi.k0
                by_cases h12 : i < M ∧ j < H
                · obtain ⟨h1, h2⟩ := h12
                  have ei := fa i (by omega)
                  have ej := fa j (by omega)
                  have ek := fb k (by omega)
                  have fk := ff k
                  have g1 : (i : Int) < (M : Int) := by omega
                  have g2 : (j : Int) < (H : Int) := by omega
                  have g3 : (0 : Int) ≤ (i : Int) := by omega
                  have g4 : (0 : Int) ≤ (j : Int) := by omega
                  have g5 : (0 : Int) ≤ (k : Int) := by omega
                  have g6 : (i : Int) < (n : Int) := by omega
                  have g7 : (j : Int) < (n : Int) := by omega
                  have g8 : (k : Int) < (n : Int) := by omega
                  obtain ⟨yi, hyi⟩ : ∃ y, fn xs i = y := ⟨_, rfl⟩
                  obtain ⟨yj, hyj⟩ : ∃ y, fn xs j = y := ⟨_, rfl⟩
                  obtain ⟨yk, hyk⟩ : ∃ y, fn bs k = y := ⟨_, rfl⟩
                  rw [hyi] at ei
                  rw [hyj] at ej
                  rw [hyk] at ek
                  clear fa fb ff hyk q5
                  by_cases hji : yj < yi
                  · go_wp2
                    go_quiet (fail)
                    go_wp2
                    go_roundw
                    case rel =>
                      refine ⟨i, j + 1, k + 1, bs.set k yj, rfl, by go_num, by go_num, (hsb.drewN _).store yj, ?_, fun x hx => ?_⟩
                      · rw [fn_set _ _ _ (by have := hsb.2.2; omega), ← hyj]
                        exact hmi.right hAr h2 (fun _ y h3 h4 => by have := hAl i y q1 h3 h4; rw [hyi] at this; rw [hyj]; omega)
                      · rw [fn_set _ _ _ (by have := hsb.2.2; omega), setF_ne _ _ (by have := hmi.k0; omega)]; exact hsame x hx
                    case measure => simp [intOf]; omega
                  · go_wp2
                    go_quiet (fail)
                    go_wp2
                    go_roundw
                    case rel =>
                      refine ⟨i + 1, j, k + 1, bs.set k yi, by go_num, rfl, by go_num, (hsb.drewN _).store yi, ?_, fun x hx => ?_⟩
                      · rw [fn_set _ _ _ (by have := hsb.2.2; omega), ← hyi]
                        exact hmi.left hAl h1 (fun _ y h3 h4 => by have := hAr j y q3 h3 h4; rw [hyj] at this; rw [hyi]; omega)
                      · rw [fn_set _ _ _ (by have := hsb.2.2; omega), setF_ne _ _ (by have := hmi.k0; omega)]; exact hsame x hx
                    case measure => simp [intOf]; omega
                · by_cases h1 : i < M
                  · have h2 : ¬ j < H := fun h => h12 ⟨h1, h⟩
                    clear fa fb ff q5 h12
                    go_wp2
                    go_loopw [8, 10] (fun xi xk wr => ∃ (i k : Nat) (bs : List Int), xi = .int .i64 i ∧ xk = .int .i64 k ∧ SW gb n wp bs wr ∧ MI (fn xs) (fn bs) L M H i j k ∧ Same (fn bs1) (fn bs) L ∧ (i < M → j = H)) (fun xi _ _ => M - (intOf xi).toNat)
                    case atStart => exact ⟨i, k, bs, rfl, rfl, hsb, hmi, hsame, fun h => by omega⟩
                    case round =>
                      clear hsb hmi hsame q1 q2 q3 q4
                      obtain ⟨i, k, bs, rfl, rfl, hsb, hmi, hsame, hij⟩ := hrel
                      obtain ⟨fa, fb, ff⟩ := hsb.facts ham HAL.out hne
                      have q1 := hmi.i0
                      have q2 := hmi.i1
                      have q3 := hmi.j0
                      have q4 := hmi.j1
                      have q5 := hmi.k0
                      by_cases h1 : i < M
                      · have hjH := hij h1
                        have ei := fa i (by omega)
                        have ek := fb k (by omega)
                        have fk := ff k
                        have g1 : (i : Int) < (M : Int) := by omega
                        have g3 : (0 : Int) ≤ (i : Int) := by omega
                        have g5 : (0 : Int) ≤ (k : Int) := by omega
                        have g6 : (i : Int) < (n : Int) := by omega
                        have g8 : (k : Int) < (n : Int) := by omega
                        obtain ⟨yi, hyi⟩ : ∃ y, fn xs i = y := ⟨_, rfl⟩
                        obtain ⟨yk, hyk⟩ : ∃ y, fn bs k = y := ⟨_, rfl⟩
                        rw [hyi] at ei
                        rw [hyk] at ek
                        have HJ : Hid (j = H) := hjH
                        clear fa fb ff hyk q5 hjH
                        go_wp2
                        go_roundw
                        case rel =>
                          refine ⟨i + 1, k + 1, bs.set k yi, by go_num, by go_num, hsb.store yi, ?_, fun x hx => ?_, fun _ => HJ.out⟩
                          · rw [fn_set _ _ _ (by have := hsb.2.2; omega), ← hyi]
                            exact hmi.left hAl h1 (fun h => by have := HJ.out; omega)
                          · rw [fn_set _ _ _ (by have := hsb.2.2; omega), setF_ne _ _ (by have := hmi.k0; omega)]; exact hsame x hx
                        case measure => simp [intOf]; omega
                      · obtain rfl : i = M := by omega
                        clear fa fb ff q5
                        go_wp2
                        go_loopw [9, 10] (fun xj xk wr => ∃ (j k : Nat) (bs : List Int), xj = .int .i64 j ∧ xk = .int .i64 k ∧ SW gb n wp bs wr ∧ MI (fn xs) (fn bs) L i H i j k ∧ Same (fn bs1) (fn bs) L) (fun xj _ _ => H - (intOf xj).toNat)
                        case atStart => exact ⟨j, k, bs, rfl, rfl, hsb, hmi, hsame⟩
                        case round =>
                          clear hsb hmi hsame q1 q2 q3 q4 hij
                          obtain ⟨j, k, bs, rfl, rfl, hsb, hmi, hsame⟩ := hrel
                          obtain ⟨fa, fb, ff⟩ := hsb.facts ham HAL.out hne
                          have q3 := hmi.j0
                          have q4 := hmi.j1
                          have q5 := hmi.k0
                          by_cases h1 : j < H
                          · have ej := fa j (by omega)
                            have ek := fb k (by omega)
                            have fk := ff k
                            have g2 : (j : Int) < (H : Int) := by omega
                            have g4 : (0 : Int) ≤ (j : Int) := by omega
                            have g5 : (0 : Int) ≤ (k : Int) := by omega
                            have g7 : (j : Int) < (n : Int) := by omega
                            have g8 : (k : Int) < (n : Int) := by omega
                            obtain ⟨yj, hyj⟩ : ∃ y, fn xs j = y := ⟨_, rfl⟩
                            obtain ⟨yk, hyk⟩ : ∃ y, fn bs k = y := ⟨_, rfl⟩
                            rw [hyj] at ej
                            rw [hyk] at ek
                            clear fa fb ff hyk q5
                            go_wp2
                            go_roundw
                            case rel =>
                              refine ⟨j + 1, k + 1, bs.set k yj, by go_num, by go_num, hsb.store yj, ?_, fun x hx => ?_⟩
                              · rw [fn_set _ _ _ (by have := hsb.2.2; omega), ← hyj]
                                exact hmi.right hAr h1 (fun h => by omega)
                              · rw [fn_set _ _ _ (by have := hsb.2.2; omega), setF_ne _ _ (by have := hmi.k0; omega)]; exact hsame x hx
                            case measure => simp [intOf]; omega
                          · obtain rfl : j = H := by omega
                            have hkj : k = j := by omega
                            subst hkj
                            have hli' : LI (fn xs) (fn bs) (2 * W) n (c + 1) := by
                              have e := HLc.out
                              rw [e] at hmi hsame hM1
                              exact hli.next (by omega) (by rw [← e]; exact HH.out) hsame hmi hM1 hM2
                            clear fa fb ff q5
                            go_wp2
                            go_roundw
                            case rel => exact ⟨c + 1, L + 2 * W, bs, by go_num, by have e := HLc.out; show _ = _; rw [e, Nat.succ_mul c (2 * W)], by omega, hsb, hli'⟩
                            case measure => simp [intOf]; omega
                  · clear fa fb ff q5 h12
                    go_wp2
                    go_loopw [8, 10] (fun xi xk wr => ∃ (i k : Nat) (bs : List Int), xi = .int .i64 i ∧ xk = .int .i64 k ∧ SW gb n wp bs wr ∧ MI (fn xs) (fn bs) L M H i j k ∧ Same (fn bs1) (fn bs) L ∧ (i < M → j = H)) (fun xi _ _ => M - (intOf xi).toNat)
                    case atStart => exact ⟨i, k, bs, rfl, rfl, hsb, hmi, hsame, fun h => by omega⟩
                    case round =>
                      clear hsb hmi hsame q1 q2 q3 q4
                      obtain ⟨i, k, bs, rfl, rfl, hsb, hmi, hsame, hij⟩ := hrel
                      obtain ⟨fa, fb, ff⟩ := hsb.facts ham HAL.out hne
                      have q1 := hmi.i0
                      have q2 := hmi.i1
                      have q3 := hmi.j0
                      have q4 := hmi.j1
                      have q5 := hmi.k0
                      by_cases h1 : i < M
                      · have hjH := hij h1
                        have ei := fa i (by omega)
                        have ek := fb k (by omega)
                        have fk := ff k
                        have g1 : (i : Int) < (M : Int) := by omega
                        have g3 : (0 : Int) ≤ (i : Int) := by omega
                        have g5 : (0 : Int) ≤ (k : Int) := by omega
                        have g6 : (i : Int) < (n : Int) := by omega
                        have g8 : (k : Int) < (n : Int) := by omega
                        obtain ⟨yi, hyi⟩ : ∃ y, fn xs i = y := ⟨_, rfl⟩
                        obtain ⟨yk, hyk⟩ : ∃ y, fn bs k = y := ⟨_, rfl⟩
                        rw [hyi] at ei
                        rw [hyk] at ek
                        have HJ : Hid (j = H) := hjH
                        clear fa fb ff hyk q5 hjH
                        go_wp2
                        go_roundw
                        case rel =>
                          refine ⟨i + 1, k + 1, bs.set k yi, by go_num, by go_num, hsb.store yi, ?_, fun x hx => ?_, fun _ => HJ.out⟩
                          · rw [fn_set _ _ _ (by have := hsb.2.2; omega), ← hyi]
                            exact hmi.left hAl h1 (fun h => by have := HJ.out; omega)
                          · rw [fn_set _ _ _ (by have := hsb.2.2; omega), setF_ne _ _ (by have := hmi.k0; omega)]; exact hsame x hx
                        case measure => simp [intOf]; omega
                      · obtain rfl : i = M := by omega
                        clear fa fb ff q5
                        go_wp2
                        go_loopw [9, 10] (fun xj xk wr => ∃ (j k : Nat) (bs : List Int), xj = .int .i64 j ∧ xk = .int .i64 k ∧ SW gb n wp bs wr ∧ MI (fn xs) (fn bs) L i H i j k ∧ Same (fn bs1) (fn bs) L) (fun xj _ _ => H - (intOf xj).toNat)
                        case atStart => exact ⟨j, k, bs, rfl, rfl, hsb, hmi, hsame⟩
                        case round =>
                          clear hsb hmi hsame q1 q2 q3 q4 hij
                          obtain ⟨j, k, bs, rfl, rfl, hsb, hmi, hsame⟩ := hrel
                          obtain ⟨fa, fb, ff⟩ := hsb.facts ham HAL.out hne
                          have q3 := hmi.j0
                          have q4 := hmi.j1
                          have q5 := hmi.k0
                          by_cases h1 : j < H
                          · have ej := fa j (by omega)
                            have ek := fb k (by omega)
                            have fk := ff k
                            have g2 : (j : Int) < (H : Int) := by omega
                            have g4 : (0 : Int) ≤ (j : Int) := by omega
                            have g5 : (0 : Int) ≤ (k : Int) := by omega
                            have g7 : (j : Int) < (n : Int) := by omega
                            have g8 : (k : Int) < (n : Int) := by omega
                            obtain ⟨yj, hyj⟩ : ∃ y, fn xs j = y := ⟨_, rfl⟩
                            obtain ⟨yk, hyk⟩ : ∃ y, fn bs k = y := ⟨_, rfl⟩
                            rw [hyj] at ej
                            rw [hyk] at ek
                            clear fa fb ff hyk q5
                            go_wp2
                            go_roundw
                            case rel =>
                              refine ⟨j + 1, k + 1, bs.set k yj, by go_num, by go_num, hsb.store yj, ?_, fun x hx => ?_⟩
                              · rw [fn_set _ _ _ (by have := hsb.2.2; omega), ← hyj]
                                exact hmi.right hAr h1 (fun h => by omega)
                              · rw [fn_set _ _ _ (by have := hsb.2.2; omega), setF_ne _ _ (by have := hmi.k0; omega)]; exact hsame x hx
                            case measure => simp [intOf]; omega
                          · obtain rfl : j = H := by omega
                            have hkj : k = j := by omega
                            subst hkj
                            have hli' : LI (fn xs) (fn bs) (2 * W) n (c + 1) := by
                              have e := HLc.out
                              rw [e] at hmi hsame hM1
                              exact hli.next (by omega) (by rw [← e]; exact HH.out) hsame hmi hM1 hM2
                            clear fa fb ff q5
                            go_wp2
                            go_roundw
                            case rel => exact ⟨c + 1, L + 2 * W, bs, by go_num, by have e := HLc.out; show _ = _; rw [e, Nat.succ_mul c (2 * W)], by omega, hsb, hli'⟩
                            case measure => simp [intOf]; omega
        · have hdone := hli.done (by have := HLc.out; omega)
          have hk2 : Kept (fun k => k = ga) w wr := hkw.then hsw.1 (fun k hk e => by omega)
          have ham2 : Mine 2 wr (.slice (some ⟨ga, 0, none⟩) n ca) (nums xs) := ham.of_block fun g hg => hsw.1.block g (ham.lt g hg) (fun e => by simp [Value.ownBlock] at hg; omega)
          go_upto_region 32 with fail
          go_wp2_with (refine wpList_copyInts rfl (.tmp 110) (.tmp 111) rfl rfl rfl ham2 hsw.2.1 hsw.2.2 ?_; intro w9 hm9 hk9)
          go_roundw
          case rel =>
            refine ⟨2 * W, by go_num, by omega, by omega, hk2.trans hk9, bs1, bs1, hm9, hsw.2.2, ?_, hsw.2.2, hdone.1, fun v => (hdone.2 v).trans (hcn v)⟩
            exact hsw.2.1.of_block fun g hg => hk9.block g (hsw.2.1.lt g hg) (fun e => by simp [Value.ownBlock] at hg; omega)
          case measure => simp [intOf]; omega
    · go_wp2
      go_end0
      exact ⟨rfl, hkw, xs, ham, perm_of_cnt (by rw [hal, HN.out]) (by rw [hal]; exact hcn), hch.all (by omega)⟩
end Go.Proofs.Qxb6617448a
