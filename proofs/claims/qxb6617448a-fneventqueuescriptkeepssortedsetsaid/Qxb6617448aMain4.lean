/- FnEventQueueScriptKeepsSortedSet: the walk (seat b6617448a). -/
import Derived.Test.Qxb6617448aModel
namespace Go.Proofs.Qxb6617448a
open Go.RowKit

def Said (w : World) (e : Ending) (w' : World) : Prop := Below w.heap.size w w' ∧ e = .returned (.bool true)

/-- The script's steps, as they came in. -/
def OpsIn (w : World) (v : Value) (os : List (Int × Bool)) : Prop :=
  ∃ a c, v = .slice a os.length c ∧ ∀ i, i < os.length → ∃ b o, a = some ⟨b, o, none⟩ ∧ w.cell? ⟨b, o + i * 2, none⟩ = some (.int .i64 (os.getD i (0, false)).1) ∧ w.cell? ⟨b, o + i * 2 + 1, none⟩ = some (.bool (os.getD i (0, false)).2)
theorem OpsIn.below {w w' : World} {v : Value} {os : List (Int × Bool)} (h : OpsIn w v os) (hb : Below w.heap.size w w') : OpsIn w' v os := by
  obtain ⟨a, c, h1, h2⟩ := h
  refine ⟨a, c, h1, fun i hi => ?_⟩
  obtain ⟨b, o, h3, h4, h5⟩ := h2 i hi
  have hlt : b < w.heap.size := World.block_lt_of_cell? _ _ h4
  exact ⟨b, o, h3, (hb.cell (p := ⟨b, o + i * 2, none⟩) hlt).trans h4, (hb.cell (p := ⟨b, o + i * 2 + 1, none⟩) hlt).trans h5⟩

/-- (12) ZZRemove -/
theorem zzRemove (N B : Nat) (hp : List Elt) (sp : List Nat) (w : World) (hQ : QS N w B hp sp) (hN : N ≤ w.heap.size) (hne : hp ≠ []) (hb1 : hp.length ≤ 100000) (hb2 : sp.length ≤ 256) :
    Calls Try.prog 12 #[ptr B] w (RemPost N w B hp sp) := by
  have hc := qremove N B hp sp w hQ hN hne hb1 hb2
  unfold ptr at hc ⊢
  go_enter Try.func12, Try.ntmps12
  go_wp2_with fail
  refine hc.mono ?_
  rintro e w1 ⟨hb, rfl, r⟩
  go_wp2
  go_end0
  exact ⟨hb, rfl, r⟩

theorem top_min {N B : Nat} {w : World} {hp : List Elt} {sp : List Nat} (h : QS N w B hp sp) {l : List Int} (hl : (hp.map (·.2)).Perm l) {m : Int} (hm : m ∈ l) (hmin : ∀ z ∈ l, m ≤ z) : ky hp 0 = m := by
  obtain ⟨_, _, _, _, _, _, _, hh⟩ := h
  have hpos : 0 < hp.length := by
    rcases Nat.eq_zero_or_pos hp.length with e | e
    · have : hp = [] := List.eq_nil_of_length_eq_zero e
      subst this
      have := hl.mem_iff.2 hm
      simp at this
    · exact e
  have h0 : ky hp 0 ∈ l := hl.mem_iff.1 (List.mem_map.2 ⟨hp.getD 0 dE, by simp [List.getD_eq_getElem?_getD, hpos], rfl⟩)
  have h1 := hmin _ h0
  obtain ⟨x, hx, hxm⟩ := List.mem_map.1 (hl.mem_iff.2 hm)
  obtain ⟨j, hj, rfl⟩ := List.getElem_of_mem hx
  have h2 := hh.min j hj
  have e : ky hp j = hp[j].2 := by simp [ky, List.getD_eq_getElem?_getD, hj]
  rw [e, hxm] at h2
  omega

/-- The queue and the model, between two steps. -/
def ScrI (N B gm C : Nat) (w0 : World) (k : Nat) (ms : List Int) (hp : List Elt) (sp : List Nat) (wr : World) : Prop :=
  Mine 2 wr (.slice (some ⟨gm, 0, none⟩) ms.length C) (nums ms) ∧ Rise ms ∧ QS N wr B hp sp ∧ (hp.map (·.2)).Perm ms ∧ sp.length ≤ 256 ∧ ms.length ≤ k ∧ Below gm w0 wr

theorem nums_at' {l : List Int} {k : Nat} (h : k < l.length) : (nums l)[k]? = some (.int .i64 (fn l k)) := by simp [nums, fn, h, List.getD_eq_getElem?_getD]

theorem ScrI.next {N B gm C k : Nat} {w0 wr : World} {ms : List Int} {hp : List Elt} {sp : List Nat} (h : ScrI N B gm C w0 k ms hp sp wr) : ScrI N B gm C w0 (k + 1) ms hp sp wr :=
  ⟨h.1, h.2.1, h.2.2.1, h.2.2.2.1, h.2.2.2.2.1, Nat.le_succ_of_le h.2.2.2.2.2.1, h.2.2.2.2.2.2⟩
theorem ScrI.drewN {N B gm C k : Nat} {w0 wr : World} {ms : List Int} {hp : List Elt} {sp : List Nat} (h : ScrI N B gm C w0 k ms hp sp wr) (n : Nat) : ScrI N B gm C w0 k ms hp sp (wr.drewN n) :=
  ⟨h.1, h.2.1, h.2.2.1.drewN n, h.2.2.2.1, h.2.2.2.2.1, h.2.2.2.2.2.1, below_drewN' h.2.2.2.2.2.2⟩
theorem ScrI.len {N B gm C k : Nat} {w0 wr : World} {ms : List Int} {hp : List Elt} {sp : List Nat} (h : ScrI N B gm C w0 k ms hp sp wr) : hp.length = ms.length := by
  have := h.2.2.2.1.length_eq; simpa using this

theorem ScrI.top {N B gm C k : Nat} {w0 wr : World} {ms : List Int} {hp : List Elt} {sp : List Nat} (h : ScrI N B gm C w0 k ms hp sp wr) (h0 : 0 < ms.length) : ky hp 0 = fn ms 0 :=
  top_min h.2.2.1 h.2.2.2.1 (by simp [fn, List.getD_eq_getElem?_getD, h0]) (fun z hz => by
    obtain ⟨j, hj, rfl⟩ := List.getElem_of_mem hz
    have e : fn ms j = ms[j] := by simp [fn, List.getD_eq_getElem?_getD, hj]
    rcases Nat.eq_zero_or_pos j with rfl | h1
    · omega
    · have := h.2.1 0 j h1 hj; omega)

theorem made0 {P : Program} {t e : TypeId} {z : Value} {bytes : Nat} (ht : P.underlying t = some (.slice e)) (hinfo : (P.info? e).map (fun i => (i.zero, i.size, i.bytes)) = some (some z, 1, bytes)) (hz1 : z.cells = #[z])
    (n : Nat) (hbytes : bytes * n ≤ 281474976710656) (h63 : n ≤ 9223372036854775807) (w : World) :
    (Instr.makeSlice t (.int .i64 0) (.int .i64 (n : Int))).run P w = .ok (.slice (some ⟨w.heap.size, 0, none⟩) 0 n) (w.alloc (.cells (madeCells #[z] n) e)) := by
  obtain ⟨i, hi, hz, hs, hb⟩ := info_parts hinfo
  have h := run_make (P := P) w t e i z ht hi hz .i64 .i64 0 n (by omega) (by omega) (by rw [hb, ← Int.natCast_mul]; omega) (by omega)
  rw [h, hs, hz1]
  simp

theorem run_low (o : Oper) (a : Act) (x y : Operand) (ho : o.op = .slice 22 x (some y) none none) (gm n c L : Nat) (hx : a.eval x = .slice (some ⟨gm, 0, none⟩) n c) (hy : a.eval y = .int .i64 ((L : Nat) : Int)) (h1 : L ≤ n) (h2 : n ≤ c) (w : World) :
    (execOp a.eval o).run Try.prog w = .ok (.value (.slice (some ⟨gm, if c = L then 0 else L, none⟩) (n - L) (c - L))) w := by
  have h0 : (0 : Int) ≤ (L : Int) := by omega
  have h3 : (L : Int) ≤ (n : Int) := by omega
  have h4 : (n : Int) ≤ (c : Int) := by omega
  have hu := Try.underlying22
  by_cases h5 : c = L
  · rw [if_pos h5]
    unfold execOp
    simp only [ho, hx, Option.map, hy]
    go_simp
  · rw [if_neg h5]
    unfold execOp
    simp only [ho, hx, Option.map, hy]
    go_simp
theorem run_lowhigh (o : Oper) (a : Act) (x y z : Operand) (ho : o.op = .slice 22 x (some y) (some z) none) (gm n c L H : Nat) (hx : a.eval x = .slice (some ⟨gm, 0, none⟩) n c) (hy : a.eval y = .int .i64 ((L : Nat) : Int)) (hz : a.eval z = .int .i64 ((H : Nat) : Int)) (h1 : L ≤ H) (h2 : H ≤ c) (h5 : ¬ c = L) (w : World) :
    (execOp a.eval o).run Try.prog w = .ok (.value (.slice (some ⟨gm, L, none⟩) (H - L) (c - L))) w := by
  have h0 : (0 : Int) ≤ (L : Int) := by omega
  have h3 : (L : Int) ≤ (H : Int) := by omega
  have h4 : (H : Int) ≤ (c : Int) := by omega
  have h6 : (0 : Int) ≤ (H : Int) := by omega
  have hu := Try.underlying22
  unfold execOp
  simp only [ho, hx, Option.map, hy, hz]
  go_simp
theorem run_add1 (o : Oper) (a : Act) (x : Operand) (ho : o.op = .binOp .add 3 x (.const (.int .i64 1)) 3) (p : Nat) (hx : a.eval x = .int .i64 ((p : Nat) : Int)) (hb : p ≤ 100000) (w : World) :
    (execOp a.eval o).run Try.prog w = .ok (.value (.int .i64 ((p + 1 : Nat) : Int))) w := by
  have hu := Try.underlying3
  have hc : a.eval (.const (.int .i64 1)) = .int .i64 1 := rfl
  unfold execOp
  simp only [ho, hx, hc]
  go_simp
  rw [IntKind.wrap_i64]; omega
theorem run_sub1 (o : Oper) (a : Act) (x : Operand) (ho : o.op = .binOp .sub 3 x (.const (.int .i64 1)) 3) (p : Nat) (hx : a.eval x = .int .i64 ((p + 1 : Nat) : Int)) (hb : p ≤ 100000) (w : World) :
    (execOp a.eval o).run Try.prog w = .ok (.value (.int .i64 ((p : Nat) : Int))) w := by
  have hu := Try.underlying3
  have hc : a.eval (.const (.int .i64 1)) = .int .i64 1 := rfl
  unfold execOp
  simp only [ho, hx, hc]
  go_simp
  rw [IntKind.wrap_i64]; omega

set_option maxRecDepth 20000 in
set_option maxHeartbeats 4000000 in
/-- (4) FnEventQueueScriptKeepsSortedSet -/
theorem main4 (v v' : Value) (os : List (Int × Bool)) (ps : List Int) (w : World) (ho : OpsIn w v os) (hr : Reads w v' (nums ps)) : Calls Try.prog 4 #[v, v'] w (Said w) := by
  obtain ⟨oa, oc, hoe, _⟩ := id ho
  obtain ⟨pa, pc, hpe⟩ := hr.form
  rw [nums_len] at hpe
  subst hoe hpe
  have hz := zzBytes14 oa pa os.length oc ps.length pc w
  go_enter Try.func4, Try.ntmps4
  go_wp2_with fail
  refine hz.mono ?_
  rintro e w1 ⟨⟨r, rfl⟩, hw⟩
  subst hw
  clear hz
  cases r with
  | false =>
    go_wp2
    go_ret
    exact ⟨Below.refl _ _, rfl⟩
  | true =>
    by_cases b1 : os.length ≤ 4096
    case neg =>
      have b1' : 4096 < os.length := by omega
      go_wp2
      go_ret
      exact ⟨Below.refl _ _, rfl⟩
    by_cases b2 : ps.length ≤ 4096
    case neg =>
      have b2' : 4096 < ps.length := by omega
      go_wp2
      go_ret
      exact ⟨Below.refl _ _, rfl⟩
    have hmk := made0 Try.underlying22 info2 rfl os.length (by omega) (by omega)
    go_upto_region 9 with fail
    have hm0 : Mine 2 (w1.alloc (.cells (madeCells #[.int .i64 0] os.length) 2)) (.slice (some ⟨w1.heap.size, 0, none⟩) 0 os.length) (nums []) := .inr ⟨w1.heap.size, os.length, _, rfl, heap_alloc_new w1 _, by simp [nums], by unfold maxLen; omega, by simp [madeCells], by simp [nums]⟩
    have hb0 : Below w1.heap.size w1 (w1.alloc (.cells (madeCells #[.int .i64 0] os.length) 2)) := (Below.refl _ _).alloc (Nat.le_refl _) _
    have hsz0 : (w1.alloc (.cells (madeCells #[.int .i64 0] os.length) 2)).heap.size = w1.heap.size + 1 := by simp
    obtain ⟨w2, hw2⟩ : ∃ y, w1.alloc (.cells (madeCells #[.int .i64 0] os.length) 2) = y := ⟨_, rfl⟩
    rw [hw2] at hm0 hb0 hsz0 ⊢
    clear hw2 hmk
    obtain ⟨gm, hgm⟩ : ∃ g, w1.heap.size = g := ⟨_, rfl⟩
    rw [hgm] at hm0 hb0 hsz0 ⊢
    have HGM : Hid (w1.heap.size = gm) := hgm
    clear hgm
    go_wp2_with fail
    refine (newQueue w2).mono ?_
    rintro e w3 ⟨rfl, hb3, hQ3⟩
    rw [hsz0] at hb3 hQ3 ⊢
    have hN3 : gm + 1 ≤ w3.heap.size := by have := hb3.size; omega
    have h0rel : ScrI (gm + 1) (gm + 1) gm os.length w1 0 [] [] [] w3 := ⟨hm0.of_block fun g hg => hb3.block g (by simp [Value.ownBlock] at hg; omega), fun x y h1 h2 => by simp at h2, hQ3, by simp, by simp, by simp, hb0.trans (hb3.mono (by omega))⟩
    clear hm0 hb0 hb3 hQ3 hsz0
    go_wp2
    go_loopw [5, 6, 8] (fun x5 x6 x8 wr => ∃ (k : Nat) (ms : List Int) (hp : List Elt) (sp : List Nat), x5 = .slice (some ⟨gm, 0, none⟩) ms.length os.length ∧ x6 = .int .i64 sp.length ∧ x8 = .int .i64 k ∧ k ≤ os.length ∧ ScrI (gm + 1) (gm + 1) gm os.length w1 k ms hp sp wr) (fun _ _ x _ => os.length - (intOf x).toNat)
    case atStart => exact ⟨0, [], [], [], rfl, rfl, rfl, by omega, h0rel⟩
    case round =>
      clear h0rel
      obtain ⟨k, ms, hp, sp, rfl, rfl, rfl, hkn, hI⟩ := hrel
      obtain ⟨hmm, hrise, hQ, hperm, hspl, hmk, hbw⟩ := id hI
      have hlen := hI.len
      have hNr : gm + 1 ≤ wr.heap.size := by
        have h1 := hmm.lt gm rfl
        omega
      by_cases hlt : k < os.length
      · obtain ⟨b, o, rfl, q1, q2⟩ : ∃ b o, oa = some ⟨b, o, none⟩ ∧ wr.cell? ⟨b, o + k * 2, none⟩ = some (.int .i64 (os.getD k (0, false)).1) ∧ wr.cell? ⟨b, o + k * 2 + 1, none⟩ = some (.bool (os.getD k (0, false)).2) := by
          obtain ⟨a', c', h1, h2⟩ := ho.below (w' := wr) (by rw [HGM.out]; exact hbw)
          simp only [Value.slice.injEq] at h1
          obtain ⟨rfl, _, _⟩ := h1
          obtain ⟨b, o, h3, h4, h5⟩ := h2 k hlt
          exact ⟨b, o, h3, h4, h5⟩
        obtain ⟨t, ht⟩ : ∃ t, (os.getD k (0, false)).1 = t := ⟨_, rfl⟩
        obtain ⟨rm, hrm⟩ : ∃ t, (os.getD k (0, false)).2 = t := ⟨_, rfl⟩
        rw [ht] at q1
        rw [hrm] at q2
        have g1 : (0 : Int) ≤ (k : Int) := by omega
        have g2 : (k : Int) < (os.length : Int) := by omega
        obtain ⟨n, hn⟩ : ∃ n, ms.length = n := ⟨_, rfl⟩
        rw [hn] at hmm hmk hlen ⊢
        have HN : Hid (ms.length = n) := hn
        have hn4 : n ≤ 4096 := by omega
        have hnC : n ≤ os.length := by omega
        obtain ⟨S, hS⟩ : ∃ S, sp.length = S := ⟨_, rfl⟩
        rw [hS] at hspl ⊢
        have HS : Hid (sp.length = S) := hS
        clear ht hrm hn hS
        cases rm with
        | true =>
          by_cases hn0 : n = 0
          · have hn0' : ((n : Int) == 0) = true := by simp [hn0]
            go_wp2
            go_roundw
            case rel => exact ⟨k + 1, ms, hp, sp, by rw [HN.out], by rw [HS.out], by go_num, by omega, hI.next⟩
            case measure => simp [intOf]; omega
          · have hn0' : ((n : Int) == 0) = false := by simp [hn0]
            have hrem := zzRemove (gm + 1) (gm + 1) hp sp wr hQ hNr (by intro e; rw [e] at hlen; simp at hlen; omega) (by omega) (by rw [HS.out]; exact hspl)
            unfold ptr at hrem
            go_wp2_with fail
            refine hrem.mono ?_
            rintro e w5 ⟨hb5, rfl, hp', sp', hQ5, hperm', hsl'⟩
            have hm5 : Mine 2 w5 (.slice (some ⟨gm, 0, none⟩) n os.length) (nums ms) := hmm.of_block fun g hg => hb5.block g (by simp [Value.ownBlock] at hg; omega)
            obtain ⟨y, tl, rfl⟩ : ∃ y tl, ms = y :: tl := by
              cases ms with
              | nil => have := HN.out; simp at this; omega
              | cons y tl => exact ⟨y, tl, rfl⟩
            obtain ⟨m, rfl⟩ : ∃ m, n = m + 1 := ⟨n - 1, by omega⟩
            have HM : Hid (tl.length = m) := by have := HN.out; simp at this; exact this
            have htop : ky hp 0 = y := by
              have := hI.top (by simp)
              simpa [fn] using this
            have hperm2 : (hp'.map (·.2)).Perm tl := by
              have h1 : (ky hp 0 :: hp'.map (·.2)).Perm (hp.map (·.2)) := hperm'.map (fun x : Elt => x.2)
              rw [htop] at h1
              exact (h1.trans hperm).cons_inv
            clear hrem hperm' hmm
            go_upto_region 17 with fail
            go_cut [10] from 58 to 61 (fun _ w' => Mine 2 w' (.slice (some ⟨gm, 0, none⟩) m os.length) (nums tl) ∧ Kept (fun b => b = gm) w5 w')
            case first =>
              have k1 : (1 : Int) ≤ ((m + 1 : Nat) : Int) := by omega
              have k2 : ((m + 1 : Nat) : Int) ≤ (os.length : Int) := by omega
              have hfin : ∀ w', Mine 2 w' (.slice (some ⟨gm, 0, none⟩) (m + 1) os.length) (nums ((y :: tl).take 0 ++ (((y :: tl).drop 1).take m ++ (y :: tl).drop (0 + m)))) → Mine 2 w' (.slice (some ⟨gm, 0, none⟩) m os.length) (nums tl) := fun w' hw' => by
                have h1 := hw'.take (m := m) (by rw [nums_len]; simp [HM.out])
                have e : (nums ((y :: tl).take 0 ++ (((y :: tl).drop 1).take m ++ (y :: tl).drop (0 + m)))).take m = nums tl := by
                  have hm' := HM.out
                  simp only [List.take_zero, List.nil_append, List.drop_one, List.tail_cons]
                  rw [List.take_of_length_le (by omega : tl.length ≤ m)]
                  simp only [nums, List.map_append]
                  exact List.take_left' (by simpa using hm')
                rw [e] at h1; exact h1
              by_cases hC : os.length = 1
              · go_wp2_with (refine wpList_copy_in rfl (.tmp 58) (.tmp 60) rfl hm5 0 1 m 0 0 (m + 1) os.length m 0 rfl (by kernel_rfl) (by omega) (fun h => by omega) (by omega) (by omega) ?_; intro w6 hm6 hk6)
                go_meet
                case rel => exact ⟨hfin _ hm6, hk6⟩
              · go_wp2_with (refine wpList_copy_in rfl (.tmp 58) (.tmp 60) rfl hm5 0 1 m 0 1 (m + 1) os.length m (os.length - 1) rfl (by kernel_rfl) (by omega) (fun h => ⟨rfl, rfl⟩) (by omega) (by omega) ?_; intro w6 hm6 hk6)
                go_meet
                case rel => exact ⟨hfin _ hm6, hk6⟩
            case rest =>
              obtain ⟨hm6, hk6⟩ := hcut
              have hI2 : ScrI (gm + 1) (gm + 1) gm os.length w1 (k + 1) tl hp' sp' wc := ⟨by rw [HM.out]; exact hm6, hrise.tail, hQ5.keptLow hk6 (fun k e => by omega), hperm2, by omega, by have := HM.out; omega, (hbw.trans (hb5.mono (by omega))).trans (hk6.below (by have := hb5.size; omega) fun k e => by omega)⟩
              obtain ⟨S', hS'⟩ : ∃ S', sp'.length = S' := ⟨_, rfl⟩
              have HM2 : Hid (tl.length = m) := HM
              have HS2 : Hid (sp'.length = S') := hS'
              have hSS : S' = min (S + 1) 256 := by have := HS.out; omega
              have HSS : Hid (S' = min (S + 1) 256) := hSS
              have j1 : (0 : Int) ≤ (m : Int) := by omega
              have j2 : (m : Int) ≤ (os.length : Int) := by omega
              clear hI hm5 hQ5 hperm2 hsl' hS' hSS hb5 hk6 hm6 hperm hQ
              go_upto_if 68 with fail
              obtain ⟨w8, hw8⟩ : ∃ y, wc = y := ⟨_, rfl⟩
              rw [hw8] at hI2 ⊢
              clear hw8
              go_cut [6] from 69 to 70 (fun v w' => v = .int .i64 S' ∧ w' = w8)
              case first =>
                by_cases hS2 : S < 256
                · have hS3 : (S : Int) < 256 := by omega
                  go_wp2
                  go_meet
                  case rel => exact ⟨by have := HSS.out; congr 1; omega, rfl⟩
                · have hS3 : ¬ (S : Int) < 256 := by omega
                  go_wp2
                  go_meet
                  case rel => exact ⟨by have := HSS.out; congr 1; omega, rfl⟩
              case rest =>
                obtain ⟨rfl, hwc⟩ := hcut
                rw [hwc]
                clear hwc
                have hl2 := hI2.len
                have h9 := zzLen hI2.2.2.1
                have h13 := zzSpares hI2.2.2.1
                rw [hl2, HM2.out] at h9
                rw [HS2.out] at h13
                unfold ptr at h9 h13
                have gd1 : (((m : Nat) : Int) != ((m : Nat) : Int)) = false := by simp
                have gd2 : (((S' : Nat) : Int) != ((S' : Nat) : Int)) = false := by simp
                go_wp2_with fail
                refine h9.mono ?_
                rintro e w7 ⟨rfl, hw⟩
                subst hw
                go_wp2_with fail
                refine h13.mono ?_
                rintro e w7 ⟨rfl, hw⟩
                subst hw
                clear h9 h13
                by_cases hz0 : m = 0
                · have hz1 : decide ((m : Int) > 0) = false := by simp; omega
                  have hz2 : decide (0 < m) = false := by simp; omega
                  have hz3 : decide (0 < (m : Int)) = false := by simp; omega
                  go_wp2
                  go_quiet (fail)
                  go_wp2
                  go_roundw
                  case rel => exact ⟨k + 1, tl, hp', sp', by rw [HM2.out, hz0], by rw [HS2.out], by go_num, by omega, hI2.drewN _⟩
                  case measure => simp [intOf]; omega
                · have hz1 : (0 : Int) < ((m : Nat) : Int) := by omega
                  have hz4 : 0 < m := by omega
                  have hz5 : decide (0 < ((m : Nat) : Int)) = true := decide_eq_true (by omega)
                  have hz6 : decide (0 < m) = true := decide_eq_true (by omega)
                  have h11 : ∀ n, Calls Try.prog 11 #[.pointer (some ⟨gm + 1, 0, none⟩), .int .i64 0] (w7.drewN n) fun e w' => e = .returned (.int .i64 (fn (tl) 0)) ∧ w' = w7.drewN n := fun n => by
                    have := zzAtOf (hI2.2.2.1.drewN n) (k := 0) (by have := HM2.out; omega)
                    rw [hI2.top (by have := HM2.out; omega)] at this
                    exact this
                  have ek := hI2.1.at (nums_at' (l := tl) (k := 0) (by have := HM2.out; omega))
                  obtain ⟨yy, hyy⟩ : ∃ yy, fn (tl) 0 = yy := ⟨_, rfl⟩
                  rw [hyy] at h11 ek
                  have gd3 : (yy != yy) = false := by simp
                  go_wp2
                  go_quiet (first | (go_at_call 11; refine Calls.quiet_of_same (h11 _)))
                  go_wp2
                  go_roundw
                  case rel => exact ⟨k + 1, tl, hp', sp', by rw [HM2.out], by rw [HS2.out], by go_num, by omega, hI2.drewN _⟩
                  case measure => simp [intOf]; omega
        | false =>
          have hsr := search (.slice (some ⟨gm, 0, none⟩) n os.length) ms t wr (by have := hmm.reads; exact this) hrise (by have := HN.out; omega)
          go_wp2_with fail
          refine hsr.mono ?_
          rintro e w5 ⟨⟨m5, hw5⟩, p, hspot, rfl⟩
          have hI5 : ScrI (gm + 1) (gm + 1) gm os.length w1 k ms hp sp w5 := by rw [hw5]; exact hI.drewN m5
          clear hsr hw5 hI hmm hQ
          by_cases hin : t ∈ ms
          · rw [show decide (t ∈ ms) = true from by simp [hin]]
            go_wp2
            go_roundw
            case rel => exact ⟨k + 1, ms, hp, sp, by rw [HN.out], by rw [HS.out], by go_num, by omega, hI5.next⟩
            case measure => simp [intOf]; omega
          · rw [show decide (t ∈ ms) = false from by simp [hin]]
            obtain ⟨hm5, _, hQ5, _, _, _, hbw5⟩ := hI5
            have hN5 : gm + 1 ≤ w5.heap.size := by have h1 := hm5.lt gm rfl; omega
            have hadd := zzAdd (gm + 1) (gm + 1) hp sp t w5 hQ5 hN5 (fun h => hin (hperm.mem_iff.1 h)) (by omega) (by rw [HS.out]; exact hspl)
            unfold ptr at hadd
            rw [HN.out] at hm5
            go_wp2_with fail
            refine hadd.mono ?_
            rintro e w6 ⟨hb6, rfl, g, hp', sp', hQ6, hperm', hsl'⟩
            have hm6 : Mine 2 w6 (.slice (some ⟨gm, 0, none⟩) n os.length) (nums ms) := hm5.of_block fun g hg => hb6.block g (by simp [Value.ownBlock] at hg; omega)
            have hbw6 : Below gm w1 w6 := hbw5.trans (hb6.mono (by omega))
            have hperm2 : (hp'.map (·.2)).Perm (ms ++ [t]) := by
              refine (hperm'.map _).trans ?_
              simp only [List.map_append, List.map_cons, List.map_nil]
              exact hperm.append_right _
            have hpn : p ≤ n := by have := hspot.le; have := HN.out; omega
            have hroom : n < os.length := by omega
            have hgg : (t != t) = false := by simp
            have hN6 : gm + 1 ≤ w6.heap.size := by have h1 := hm6.lt gm rfl; omega
            clear hadd hperm' hQ5 hm5 hb6 hbw5 hperm hbw
            go_upto_region 27 with (at_builtin; refine wpList_append_room rfl (.tmp 100) (.tmp 101) rfl rfl (hm6.alloc _) hroom w6.heap.size 0 rfl (by simp) ?_; intro w7 hm7 hk7)
            obtain ⟨q, hq⟩ : ∃ q, (if os.length = p + 1 then 0 else p + 1) = q := ⟨_, rfl⟩
            have HQ : Hid ((if os.length = p + 1 then 0 else p + 1) = q) := hq
            clear hq
            have hm7' : Mine 2 w7.drew (.slice (some ⟨gm, 0, none⟩) (n + 1) os.length) (nums (ms ++ [0])) := hm7
            go_cut [12] from 103 to 113 (fun _ w' => Mine 2 w' (.slice (some ⟨gm, 0, none⟩) (n + 1) os.length) (nums ((ms ++ [0]).take (p + 1) ++ (((ms ++ [0]).drop p).take (n - p) ++ (ms ++ [0]).drop (p + 1 + (n - p))))) ∧ Kept (fun b => b = gm) w7 w')
            case first =>
              refine wp_region_held (S := fun _ => True) (by kernel_rfl) ?_
              change wpAnyH _ _ _ _ _ 11 (Array.replicate 11 false) _ w7.drew
              refine wpAnyH_take (i := 0) (v := Value.slice (some ⟨gm, 0, none⟩) (n + 1) os.length) rfl (by kernel_rfl) (by kernel_rfl) (by kernel_rfl) (fun _ _ _ h => h) (.inl ⟨by kernel_rfl, fun w' _ => by kernel_rfl⟩) trivial ?_
              refine wpAnyH_take (i := 1) (v := Value.int IntKind.i64 ((p : Nat) : Int)) rfl (by kernel_rfl) (by kernel_rfl) (by kernel_rfl) (fun _ _ _ h => h) (.inl ⟨by kernel_rfl, fun w' _ => by kernel_rfl⟩) trivial ?_
              refine wpAnyH_take (i := 2) (v := Value.int IntKind.i64 ((p + 1 : Nat) : Int)) rfl (by kernel_rfl) (by kernel_rfl) (by kernel_rfl) (fun _ _ _ h => h) (.inl ⟨by kernel_rfl, fun w' _ => run_add1 _ _ (.tmp 104) rfl p (by kernel_rfl) (by omega) w'⟩) trivial ?_
              refine wpAnyH_take (i := 3) (v := Value.slice (some ⟨gm, q, none⟩) (n + 1 - (p + 1)) (os.length - (p + 1))) rfl (by kernel_rfl) (by kernel_rfl) (by kernel_rfl) (fun _ _ _ h => h) (.inl ⟨by kernel_rfl, fun w' _ => HQ.out ▸ run_low _ _ (.tmp 103) (.tmp 105) rfl gm (n + 1) os.length (p + 1) (by kernel_rfl) (by kernel_rfl) (by omega) (by omega) w'⟩) trivial ?_
              refine wpAnyH_take (i := 4) (v := Value.slice (some ⟨gm, 0, none⟩) (n + 1) os.length) rfl (by kernel_rfl) (by kernel_rfl) (by kernel_rfl) (fun _ _ _ h => h) (.inl ⟨by kernel_rfl, fun w' _ => by kernel_rfl⟩) trivial ?_
              refine wpAnyH_take (i := 5) (v := Value.int IntKind.i64 ((p : Nat) : Int)) rfl (by kernel_rfl) (by kernel_rfl) (by kernel_rfl) (fun _ _ _ h => h) (.inl ⟨by kernel_rfl, fun w' _ => by kernel_rfl⟩) trivial ?_
              refine wpAnyH_take (i := 6) (v := Value.slice (some ⟨gm, 0, none⟩) (n + 1) os.length) rfl (by kernel_rfl) (by kernel_rfl) (by kernel_rfl) (fun _ _ _ h => h) (.inl ⟨by kernel_rfl, fun w' _ => by kernel_rfl⟩) trivial ?_
              refine wpAnyH_take (i := 7) (v := Value.int IntKind.i64 ((n + 1 : Nat) : Int)) rfl (by kernel_rfl) (by kernel_rfl) (by kernel_rfl) (fun _ _ _ h => h) (.inl ⟨by kernel_rfl, fun w' _ => by kernel_rfl⟩) trivial ?_
              refine wpAnyH_take (i := 8) (v := Value.int IntKind.i64 ((n : Nat) : Int)) rfl (by kernel_rfl) (by kernel_rfl) (by kernel_rfl) (fun _ _ _ h => h) (.inl ⟨by kernel_rfl, fun w' _ => run_sub1 _ _ (.tmp 110) rfl n (by kernel_rfl) (by omega) w'⟩) trivial ?_
              refine wpAnyH_take (i := 9) (v := Value.slice (some ⟨gm, p, none⟩) (n - p) (os.length - p)) rfl (by kernel_rfl) (by kernel_rfl) (by kernel_rfl) (fun _ _ _ h => h) (.inl ⟨by kernel_rfl, fun w' _ => run_lowhigh _ _ (.tmp 107) (.tmp 108) (.tmp 111) rfl gm (n + 1) os.length p n (by kernel_rfl) (by kernel_rfl) (by kernel_rfl) (by omega) (by omega) (by omega) w'⟩) trivial ?_
              refine wpAnyH_all (rs := [10]) (by kernel_rfl) (by simp) ?_
              intro i hi
              obtain rfl : i = 10 := by simpa using hi
              refine .inl (wp_copy_in (.tmp 106) (.tmp 112) rfl hm7' (p + 1) p (n - p) q p (n + 1 - (p + 1)) (os.length - (p + 1)) (n - p) (os.length - p) (by kernel_rfl) (by kernel_rfl) (by omega) (fun h => ⟨by have := HQ.out; rw [if_neg (by omega)] at this; exact this.symm, rfl⟩) (by omega) (by omega) ?_)
              intro w8 hm8 hk8
              have hk8' : Kept (fun b => b = gm) w7 w8 := ⟨hk8.os, hk8.tape, hk8.output, hk8.size, hk8.block⟩
              refine ⟨trivial, ?_⟩
              refine wpAnyH_act (l' := #[true, true, true, true, true, true, true, true, true, true, true]) (a' := ⟨#[Value.slice (some ⟨b, o, none⟩) os.length oc, Value.slice pa ps.length pc, undef, undef, u4, Value.slice (some ⟨gm, 0, none⟩) (n + 1) os.length, Value.int IntKind.i64 (S : Int), Value.pointer (some ⟨gm + 1, 0, none⟩), Value.int IntKind.i64 (k : Int), Value.int IntKind.i64 t, Value.int IntKind.i64 (p : Int), Value.bool false, Value.int IntKind.i64 t, Value.int IntKind.i64 0, Value.int IntKind.i64 0, Value.bool false, undef, undef, undef, undef, undef, undef, undef, Value.slice (some ⟨b, o, none⟩) os.length oc, Value.slice pa ps.length pc, Value.bool true, Value.bool false, Value.slice (some ⟨b, o, none⟩) os.length oc, Value.int IntKind.i64 (os.length : Int), Value.bool (decide ((4096 : Int) < (os.length : Int))), Value.slice pa ps.length pc, Value.int IntKind.i64 (ps.length : Int), Value.bool (decide ((4096 : Int) < (ps.length : Int))), Value.slice (some ⟨b, o, none⟩) os.length oc, Value.int IntKind.i64 (os.length : Int), Value.slice (some ⟨gm, 0, none⟩) 0 os.length, Value.pointer (some ⟨gm + 1, 0, none⟩), Value.int IntKind.i64 (k : Int), Value.slice (some ⟨b, o, none⟩) os.length oc, Value.int IntKind.i64 (os.length : Int), Value.bool true, u41, u42, Value.slice (some ⟨b, o, none⟩) os.length oc, Value.int IntKind.i64 (k : Int), Value.pointer (some ⟨b, o + k * 2, none⟩), Value.pointer (some ⟨b, o + k * 2, none⟩), Value.int IntKind.i64 t, Value.slice (some ⟨b, o, none⟩) os.length oc, Value.int IntKind.i64 (k : Int), Value.pointer (some ⟨b, o + k * 2, none⟩), Value.pointer (some ⟨b, o + k * 2 + 1, none⟩), Value.bool false, u53, u54, u55, u56, u57, u58, u59, u60, u61, u62, u63, u64, u65, u66, u67, u68, u69, u70, Value.tuple #[Value.int IntKind.i64 (p : Int), Value.bool false], Value.slice (some ⟨gm, 0, none⟩) n os.length, Value.int IntKind.i64 t, Value.tuple #[Value.int IntKind.i64 (p : Int), Value.bool false], Value.int IntKind.i64 (p : Int), Value.bool false, Value.bool false, Value.tuple #[Value.int IntKind.i64 t, Value.int IntKind.i64 0, Value.int IntKind.i64 0, Value.bool false], Value.pointer (some ⟨gm + 1, 0, none⟩), Value.int IntKind.i64 t, Value.tuple #[Value.int IntKind.i64 t, Value.int IntKind.i64 0, Value.int IntKind.i64 0, Value.bool false], Value.int IntKind.i64 t, Value.int IntKind.i64 0, Value.int IntKind.i64 0, Value.bool false, Value.bool false, Value.bool false, Value.int IntKind.i64 t, Value.int IntKind.i64 t, Value.bool false, Value.bool false, Value.bool false, Value.int IntKind.i64 0, Value.bool false, Value.bool false, Value.bool false, Value.int IntKind.i64 0, Value.bool false, Value.bool false, Value.slice (some ⟨gm, 0, none⟩) n os.length, Value.slice (some ⟨w6.heap.size, 0, none⟩) 1 1, Value.slice (some ⟨gm, 0, none⟩) (n + 1) os.length, Value.slice (some ⟨gm, 0, none⟩) (n + 1) os.length, Value.int IntKind.i64 ((p : Nat) : Int), Value.int IntKind.i64 ((p + 1 : Nat) : Int), Value.slice (some ⟨gm, q, none⟩) (n + 1 - (p + 1)) (os.length - (p + 1)), Value.slice (some ⟨gm, 0, none⟩) (n + 1) os.length, Value.int IntKind.i64 ((p : Nat) : Int), Value.slice (some ⟨gm, 0, none⟩) (n + 1) os.length, Value.int IntKind.i64 ((n + 1 : Nat) : Int), Value.int IntKind.i64 ((n : Nat) : Int), Value.slice (some ⟨gm, p, none⟩) (n - p) (os.length - p), goInt ((n - p : Nat) : Int), u114, u115, u116, u117, u118, u119, u120, u121, u122, u123, u124, u125, u126, u127, u128, u129, u130, u131, u132, u133, u134, u135, u136, u137, u138, u139, u140, u141, u142, u143, undef, undef, undef, undef, undef, undef, undef, undef, undef, undef, undef, undef, undef, undef, undef, undef, undef, undef, undef, undef, undef, undef, undef, undef, undef, undef, undef, undef, undef, undef, undef, undef, undef, undef, undef, undef, undef, undef, undef, undef, undef, undef, undef, undef, undef, undef, undef, undef, undef, undef, undef, undef, undef, undef, undef, undef, undef, undef, undef, undef, undef, undef, undef, undef, undef, undef, undef, undef, undef, undef, undef, undef], []⟩) (by kernel_rfl) (by kernel_rfl) ?_
              refine wpAnyH_done (by kernel_rfl) ?_ _
              go_wp2
              go_meet
              case rel => exact ⟨hm8, hk8'⟩
            case rest =>
              obtain ⟨hm8, hk8⟩ := hcut
              have hmade := ins_made (p := p) t (show p ≤ ms.length by rw [HN.out]; exact hpn)
              rw [HN.out] at hmade
              obtain ⟨L8, hL8⟩ : ∃ L8, (ms ++ [0]).take (p + 1) ++ (((ms ++ [0]).drop p).take (n - p) ++ (ms ++ [0]).drop (p + 1 + (n - p))) = L8 := ⟨_, rfl⟩
              rw [hL8] at hmade hm8
              have hl8 : L8.length = n + 1 := by
                have := hm8.blk
                obtain ⟨_, _, h1, _⟩ := this
                rw [nums_len] at h1
                exact h1.symm
              have ep := hm8.at (nums_at' (l := L8) (k := p) (by omega))
              obtain ⟨yp, hyp⟩ : ∃ y, fn L8 p = y := ⟨_, rfl⟩
              rw [hyp] at ep
              have fp := hm8.fro p
              have j1 : (0 : Int) ≤ (p : Int) := by omega
              have j2 : (p : Int) < ((n + 1 : Nat) : Int) := by omega
              have j3 : (p : Int) < (n : Int) + 1 := by omega
              have hm9 : Mine 2 (wc.setCell ⟨gm, p, none⟩ (.int .i64 t)) (.slice (some ⟨gm, 0, none⟩) (n + 1) os.length) (nums (ins ms p t)) := by
                have h1 := hm8.set p (.int .i64 t)
                rw [← hmade]
                have e : (nums L8).set p (.int .i64 t) = nums (L8.set p t) := by simp [nums, List.map_set]
                rw [e] at h1; exact h1
              have hk9 : Kept (fun b => b = gm) w6 (wc.setCell ⟨gm, p, none⟩ (.int .i64 t)) := ((((Kept.refl _ w6).alloc _).trans hk7).trans hk8).trans (setCell_kept wc ⟨gm, p, none⟩ _)
              have hlen9 : (ins ms p t).length = n + 1 := by rw [ins_len t hspot.le, HN.out]
              have hI2 : ScrI (gm + 1) (gm + 1) gm os.length w1 (k + 1) (ins ms p t) hp' sp' (wc.setCell ⟨gm, p, none⟩ (.int .i64 t)) := ⟨by rw [hlen9]; exact hm9, ins_rise hrise hspot hin, hQ6.keptLow hk9 (fun k e => by omega), hperm2.trans (ins_perm ms p t).symm, by have := HS.out; omega, by omega, hbw6.trans (hk9.below (by omega) fun k e => by omega)⟩
              obtain ⟨S', hS'⟩ : ∃ S', sp'.length = S' := ⟨_, rfl⟩
              have HM2 : Hid ((ins ms p t).length = n + 1) := hlen9
              have HS2 : Hid (sp'.length = S') := hS'
              have HSS : Hid (S' = S - 1) := by have := HS.out; show _ = _; omega
              clear hm7 hm7' hk7 hk8 hm8 hm9 hk9 hlen9 hmade hL8 hl8 hyp hS' hQ6 hperm2 hsl' hm6
              go_upto_if 119 with fail
              obtain ⟨w9, hw9⟩ : ∃ y, wc.setCell ⟨gm, p, none⟩ (.int .i64 t) = y := ⟨_, rfl⟩
              rw [hw9] at hI2 ⊢
              clear hw9 ep fp
              go_cut [6] from 120 to 121 (fun v w' => v = .int .i64 S' ∧ w' = w9)
              case first =>
                by_cases hS2 : 0 < S
                · have hS3 : (0 : Int) < (S : Int) := by omega
                  go_wp2
                  go_meet
                  case rel => exact ⟨by have := HSS.out; congr 1; omega, rfl⟩
                · obtain rfl : S = 0 := by omega
                  go_wp2
                  go_meet
                  case rel => exact ⟨by have := HSS.out; congr 1; omega, rfl⟩
              case rest =>
                obtain ⟨rfl, hwc⟩ := hcut
                rw [hwc]
                clear hwc
                have hl2 := hI2.len
                have h9 := zzLen hI2.2.2.1
                have h13 := zzSpares hI2.2.2.1
                rw [hl2, HM2.out] at h9
                rw [HS2.out] at h13
                unfold ptr at h9 h13
                have gd1 : (((n + 1 : Nat) : Int) != ((n + 1 : Nat) : Int)) = false := by simp
                have gd2 : (((S' : Nat) : Int) != ((S' : Nat) : Int)) = false := by simp
                go_wp2_with fail
                refine h9.mono ?_
                rintro e w7 ⟨rfl, hw⟩
                subst hw
                go_wp2_with fail
                refine h13.mono ?_
                rintro e w7 ⟨rfl, hw⟩
                subst hw
                clear h9 h13
                have hz1 : (0 : Int) < ((n + 1 : Nat) : Int) := by omega
                have hz4 : 0 < n + 1 := by omega
                have hz5 : decide (0 < ((n + 1 : Nat) : Int)) = true := decide_eq_true (by omega)
                have hz6 : decide (0 < n + 1) = true := decide_eq_true (by omega)
                have h11 : ∀ n, Calls Try.prog 11 #[.pointer (some ⟨gm + 1, 0, none⟩), .int .i64 0] (w7.drewN n) fun e w' => e = .returned (.int .i64 (fn (ins ms p t) 0)) ∧ w' = w7.drewN n := fun n => by
                  have := zzAtOf (hI2.2.2.1.drewN n) (k := 0) (by have := HM2.out; omega)
                  rw [hI2.top (by have := HM2.out; omega)] at this
                  exact this
                have ek := hI2.1.at (nums_at' (l := ins ms p t) (k := 0) (by have := HM2.out; omega))
                obtain ⟨yy, hyy⟩ : ∃ yy, fn (ins ms p t) 0 = yy := ⟨_, rfl⟩
                rw [hyy] at h11 ek
                have gd3 : (yy != yy) = false := by simp
                go_wp2
                go_quiet (first | (go_at_call 11; refine Calls.quiet_of_same (h11 _)))
                go_wp2
                go_roundw
                case rel => exact ⟨k + 1, ins ms p t, hp', sp', by rw [HM2.out], by rw [HS2.out], by go_num, by omega, hI2.drewN _⟩
                case measure => simp [intOf]; omega
      · obtain rfl : k = os.length := by omega
        obtain ⟨n, hn⟩ : ∃ n, ms.length = n := ⟨_, rfl⟩
        rw [hn] at hmm hmk hlen ⊢
        have HN : Hid (ms.length = n) := hn
        have hn4 : n ≤ 4096 := by omega
        have hheap : HeapF (ky hp) hp.length := by obtain ⟨_, _, _, _, _, _, _, hh⟩ := hQ; exact hh
        rw [hlen] at hheap
        have h9 := zzLen hQ
        have h10 := zzMapLen hQ
        rw [hlen] at h9 h10
        have HLEN : Hid (hp.length = n) := hlen
        have hfin : ∀ m, Said w1 (.returned (.bool true)) (wr.drewN m) := fun m => ⟨by rw [HGM.out]; exact below_drewN' hbw, rfl⟩
        have hrp : Reads wr (.slice pa ps.length pc) (nums ps) := hr.below (by rw [HGM.out]; exact hbw)
        have gd1 : (((n : Nat) : Int) != ((n : Nat) : Int)) = false := by simp
        unfold ptr at h9 h10
        clear hn hlen hmk hI
        go_wp2_with fail
        refine h9.mono ?_
        rintro e w7 ⟨rfl, hw⟩
        subst hw
        go_wp2_with fail
        refine h10.mono ?_
        rintro e w8 ⟨rfl, hw⟩
        subst hw
        clear h9 h10
        go_wp2
        go_loopw [17] (fun x wx => ∃ j : Nat, x = .int .i64 j ∧ 1 ≤ j ∧ j ≤ n + 1 ∧ wx = w8) (fun x _ => n - (intOf x).toNat)
        case atStart => exact ⟨1, rfl, by omega, by omega, rfl⟩
        case round =>
          obtain ⟨j, rfl, hj1, hj2, hwx⟩ := hrel
          rw [hwx]
          clear hwx
          by_cases hj : j < n
          · obtain ⟨q, hq⟩ : ∃ q, q = (j - 1) / 2 := ⟨_, rfl⟩
            have hqi : Int.tdiv ((j : Int) - 1) 2 = (q : Int) := by
              rw [hq, Int.tdiv_eq_ediv_of_nonneg (by omega)]; omega
            have hh := hheap j (by omega) hj
            rw [← hq] at hh
            have ha := zzAtOf hQ (k := q) (by have := HLEN.out; omega)
            have hb := zzAtOf hQ (k := j) (by have := HLEN.out; omega)
            unfold ptr at ha hb
            obtain ⟨ya, hya⟩ : ∃ y, ky hp q = y := ⟨_, rfl⟩
            obtain ⟨yb, hyb⟩ : ∃ y, ky hp j = y := ⟨_, rfl⟩
            rw [hya] at ha hh
            rw [hyb] at hb hh
            have hqb : q ≤ 4096 := by omega
            clear hq hya hyb
            go_wp2_with fail
            refine ha.mono ?_
            rintro e w9 ⟨rfl, hw⟩
            rw [hw]
            clear hw
            go_wp2_with fail
            refine hb.mono ?_
            rintro e w9' ⟨rfl, hw⟩
            rw [hw]
            clear hw ha hb
            go_wp2
            go_roundw
            case rel => exact ⟨j + 1, by go_num, by omega, by omega, trivial⟩
            case measure => simp [intOf]; omega
          · go_wp2
            go_loopw [18] (fun x wx => ∃ j m : Nat, x = .int .i64 j ∧ j ≤ n ∧ wx = w8.drewN m) (fun x _ => n - (intOf x).toNat)
            case atStart => exact ⟨0, 0, rfl, by omega, rfl⟩
            case round =>
              clear hj1 hj2 hj
              obtain ⟨j, m, rfl, hj1, hwx⟩ := hrel
              rw [hwx]
              clear hwx
              by_cases hj : j < n
              · have hms := mapsToSlot (hQ.drewN m) (k := j) (by have := HLEN.out; omega)
                unfold ptr at hms
                go_wp2_with fail
                refine hms.mono ?_
                rintro e w9 ⟨rfl, m', hw⟩
                rw [hw, World.drewN_drewN]
                clear hw hms
                go_wp2
                go_roundw
                case rel => exact ⟨j + 1, m + m', by go_num, by omega, rfl⟩
                case measure => simp [intOf]; omega
              · go_wp2
                go_loopw [19] (fun x wx => ∃ j : Nat, x = .int .i64 j ∧ j ≤ n ∧ wx = w8.drewN m) (fun x _ => n - (intOf x).toNat)
                case atStart => exact ⟨0, rfl, by omega, rfl⟩
                case round =>
                  clear hj1 hj
                  obtain ⟨j, rfl, hj1, hwx⟩ := hrel
                  rw [hwx]
                  clear hwx
                  by_cases hj : j < n
                  · have ej : (w8.drewN m).cell? ⟨gm, j, none⟩ = some (.int .i64 (fn ms j)) := hmm.at (nums_at' (l := ms) (k := j) (by have := HN.out; omega))
                    have hin : fn ms j ∈ hp.map (·.2) := hperm.mem_iff.2 (by have := HN.out; simp [fn, List.getD_eq_getElem?_getD, show j < ms.length by omega])
                    have hhs := zzHas (hQ.drewN m) (fn ms j)
                    rw [show decide (fn ms j ∈ hp.map (·.2)) = true from decide_eq_true hin] at hhs
                    unfold ptr at hhs
                    obtain ⟨y, hy⟩ : ∃ y, fn ms j = y := ⟨_, rfl⟩
                    rw [hy] at ej hhs
                    have g1 : (0 : Int) ≤ (j : Int) := by omega
                    have g2 : (j : Int) < (n : Int) := by omega
                    clear hin hy
                    go_wp2_with fail
                    refine hhs.mono ?_
                    rintro e w9 ⟨rfl, hw⟩
                    rw [hw]
                    clear hw hhs
                    go_wp2
                    go_roundw
                    case rel => exact ⟨j + 1, by go_num, by omega, trivial⟩
                    case measure => simp [intOf]; omega
                  · go_wp2
                    go_loopw [20] (fun x wx => ∃ j m : Nat, x = .int .i64 j ∧ j ≤ ps.length ∧ wx = w8.drewN m) (fun x _ => ps.length - (intOf x).toNat)
                    case atStart => exact ⟨0, m, rfl, by omega, rfl⟩
                    case round =>
                      clear hj1 hj
                      obtain ⟨j, m, rfl, hj1, hwx⟩ := hrel
                      rw [hwx]
                      clear hwx
                      by_cases hj : j < ps.length
                      · obtain ⟨b3, o3, _, hq3, hc3⟩ := hrp.num (j := j) hj
                        simp only [Value.slice.injEq] at hq3
                        obtain ⟨rfl, _, rfl⟩ := hq3
                        have ej := hc3 j hj
                        obtain ⟨y, hy⟩ : ∃ y, ps.getD j 0 = y := ⟨_, rfl⟩
                        rw [hy] at ej
                        have hsr := search (.slice (some ⟨gm, 0, none⟩) n os.length) ms y (w8.drewN m) (by have := hmm.reads; exact this) hrise (by have := HN.out; omega)
                        have hhs := fun m' => zzHas (hQ.drewN m') y
                        have hiff : decide (y ∈ hp.map (·.2)) = decide (y ∈ ms) := by
                          rw [Bool.eq_iff_iff]; simp only [decide_eq_true_eq]; exact hperm.mem_iff
                        rw [hiff] at hhs
                        unfold ptr at hhs
                        obtain ⟨fd, hfd⟩ : ∃ fd, decide (y ∈ ms) = fd := ⟨_, rfl⟩
                        have g1 : (0 : Int) ≤ (j : Int) := by omega
                        have g2 : (j : Int) < (ps.length : Int) := by omega
                        clear hc3 hy hiff
                        go_wp2_with fail
                        refine hsr.mono ?_
                        rintro e w9 ⟨⟨m2, hw⟩, p, _, rfl⟩
                        rw [hw, World.drewN_drewN]
                        rw [hfd] at hhs ⊢
                        clear hw hsr
                        go_wp2_with fail
                        refine (hhs _).mono ?_
                        rintro e w9' ⟨rfl, hw⟩
                        rw [hw]
                        clear hw hhs
                        cases fd
                        · go_wp2
                          go_roundw
                          case rel => exact ⟨j + 1, m + m2, by go_num, by omega, rfl⟩
                          case measure => simp [intOf]; omega
                        · go_wp2
                          go_roundw
                          case rel => exact ⟨j + 1, m + m2, by go_num, by omega, rfl⟩
                          case measure => simp [intOf]; omega
                      · go_wp2
                        go_ret
                        exact hfin _
end Go.Proofs.Qxb6617448a
