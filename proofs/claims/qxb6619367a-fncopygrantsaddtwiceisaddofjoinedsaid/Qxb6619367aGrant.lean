/- Two slices joined; the grantees after (seat b6619367a). -/
import Derived.Test.Qxb6619367aJoin
namespace Go.Proofs.Qxb6619367a
open Go.RowKit

/-- Our own new slice, at a world behind w. -/
structure Own (w wr : World) (v : Value) (ss : List ByteArray) : Prop where
  mine : Mine wr v (strs ss)
  below : Below w.heap.size w wr
  new : ∀ g, v.ownBlock = some g → w.heap.size ≤ g

theorem Own.snoc {w wr w1 : World} {v v' : Value} {ss ys : List ByteArray} {o : Obj} (h : Own w wr v ss) (hm : Mine w1 v' (strs ss ++ strs ys)) (hk : Kept (fun k => some k = v.ownBlock) (wr.alloc o) w1) (hat : v'.ownBlock = v.ownBlock ∨ v'.ownBlock = some (wr.alloc o).heap.size) : Own w w1 v' (ss ++ ys) := by
  refine ⟨by rw [strs_app]; exact hm, ?_, fun g hg => ?_⟩
  · have h1 : Below w.heap.size w (wr.alloc o) := h.below.alloc h.below.size _
    exact h1.trans (hk.below h1.size fun k hk => h.new k hk.symm)
  · rcases hat with e | e
    · exact h.new g (e ▸ hg)
    · rw [e] at hg; cases hg; have := h.below.size; simp; omega

theorem made0 {P : Program} {t e : TypeId} {z : Value} {bytes : Nat} (ht : P.underlying t = some (.slice e)) (hinfo : (P.info? e).map (fun i => (i.zero, i.size, i.bytes)) = some (some z, 1, bytes)) (hz1 : z.cells = #[z])
    (n : Nat) (hbytes : bytes * n ≤ 281474976710656) (h63 : n ≤ 9223372036854775807) (w : World) :
    (Instr.makeSlice t (.int .i64 0) (.int .i64 (n : Int))).run P w = .ok (.slice (some ⟨w.heap.size, 0, none⟩) 0 n) (w.alloc (.cells (madeCells #[z] n) e)) := by
  obtain ⟨i, hi, hz, hs, hb⟩ := info_parts hinfo
  have h := run_make (P := P) w t e i z ht hi hz .i64 .i64 0 n (by omega) (by omega) (by rw [hb, ← Int.natCast_mul]; omega) (by omega)
  rw [h, hs, hz1]
  simp

theorem Own.made (w : World) (n : Nat) (hn : n ≤ 549755813888) : Own w (w.alloc (.cells (madeCells #[.string ⟨#[]⟩] n) 9)) (.slice (some ⟨w.heap.size, 0, none⟩) 0 n) [] :=
  ⟨.inr ⟨w.heap.size, n, _, 9, rfl, heap_alloc_new w _, by simp [strs], by unfold maxLen; omega, by simp [madeCells], by simp [strs]⟩, (Below.refl _ _).alloc (Nat.le_refl _) _, fun g hg => by simp [Value.ownBlock] at hg; omega⟩

theorem Reads.below {w w' : World} {v : Value} {xs : List Value} (h : Reads w v xs) (hb : Below w.heap.size w w') : Reads w' v xs := by
  rcases h with h | ⟨x, c, rfl, hc, hx⟩
  · exact .inl h
  · refine .inr ⟨x, c, rfl, hc, fun hne => ?_⟩
    obtain ⟨b, o, rfl, hcell⟩ := hx hne
    refine ⟨b, o, rfl, fun i hi => ?_⟩
    have h1 := hcell i hi
    exact (World.cell?_of_block (a := ⟨b, o + i, none⟩) (hb.block b (World.block_lt_of_cell? _ _ h1))).trans h1

set_option maxHeartbeats 1000000 in
/-- (11) concatStrsZZ -/
theorem concatStrs (v v' : Value) (ds es : List ByteArray) (w : World) (h : Reads w v (strs ds)) (h' : Reads w v' (strs es)) (hm : ds.length + es.length ≤ 1000000000) :
    Calls Try.prog 11 #[v, v'] w (CPost w (ds ++ es)) := by
  obtain ⟨a, c, hv⟩ := h.form
  obtain ⟨a', c', hv'⟩ := h'.form
  rw [strs_len] at hv hv'
  subst hv hv'
  have hmk := made0 Try.underlying22 info9 rfl (ds.length + es.length) (by omega) (by omega)
  rw [show ((ds.length + es.length : Nat) : Int) = (ds.length : Int) + (es.length : Int) from by omega] at hmk
  have h0 := Own.made w (ds.length + es.length) (by omega)
  go_enter Try.func11, Try.ntmps11
  go_wp2
  go_loopw [5, 6] (fun u i wr => ∃ k : Nat, k ≤ ds.length ∧ i = .int .i64 k ∧ Own w wr u (ds.take k)) (fun _ i _ => ds.length - (intOf i).toNat)
  case atStart => exact ⟨0, Nat.zero_le _, rfl, by simpa using h0⟩
  case round =>
    clear h0
    obtain ⟨k, hk, rfl, ho⟩ := hrel
    obtain ⟨ua, un, uc, rfl⟩ := ho.mine.shape
    by_cases hlt : k < ds.length
    · obtain ⟨b, o, _, hq, hc⟩ := (h.below ho.below).str hlt
      simp only [Value.slice.injEq] at hq
      obtain ⟨rfl, _, rfl⟩ := hq
      have q := hc k hlt
      have e1 := take_getD ds k ⟨#[]⟩ hlt
      obtain ⟨y, hy⟩ : ∃ y, ds.getD k ⟨#[]⟩ = y := ⟨_, rfl⟩
      rw [hy] at q e1
      have g1 : (0 : Int) ≤ (k : Int) := by omega
      have g2 : (k : Int) < (ds.length : Int) := by omega
      clear hc hmk hy
      go_wp2_with (at_builtin; refine wpList_append_mine _ rfl (.tmp 20) (.tmp 25) 22 rfl 9 (.string ⟨#[]⟩) 16 Try.underlying22 info9 rfl (.slice ua un uc) _ rfl (ho.mine.alloc _) _ (strs [y]) rfl (reads_one _ _ _) (strs_one _) (by rw [strs_len, strs_len, List.length_take]; simp; omega) (by omega) ?_; intro u' w1 hm1 hk1 hat)
      have ho' := ho.snoc hm1 hk1 hat
      rw [← e1] at ho'
      clear e1 hm1 hk1 hat ho
      go_wp2
      go_roundw
      case rel => exact ⟨k + 1, by omega, by go_num, ho'⟩
      case measure => simp [intOf]; omega
    · obtain rfl : k = ds.length := by omega
      rw [List.take_length] at ho
      go_wp2
      go_loopw [5, 7] (fun u i wr => ∃ k : Nat, k ≤ es.length ∧ i = .int .i64 k ∧ Own w wr u (ds ++ es.take k)) (fun _ i _ => es.length - (intOf i).toNat)
      case atStart => exact ⟨0, Nat.zero_le _, rfl, by simpa using ho⟩
      case round =>
        clear ho
        obtain ⟨k, hk, rfl, ho⟩ := hrel
        obtain ⟨ua, un, uc, rfl⟩ := ho.mine.shape
        by_cases hlt : k < es.length
        · obtain ⟨b, o, _, hq, hc⟩ := (h'.below ho.below).str hlt
          simp only [Value.slice.injEq] at hq
          obtain ⟨rfl, _, rfl⟩ := hq
          have q := hc k hlt
          have e1 := take_getD es k ⟨#[]⟩ hlt
          obtain ⟨y, hy⟩ : ∃ y, es.getD k ⟨#[]⟩ = y := ⟨_, rfl⟩
          rw [hy] at q e1
          have g1 : (0 : Int) ≤ (k : Int) := by omega
          have g2 : (k : Int) < (es.length : Int) := by omega
          clear hc hmk hy
          go_wp2_with (at_builtin; refine wpList_append_mine _ rfl (.tmp 33) (.tmp 38) 22 rfl 9 (.string ⟨#[]⟩) 16 Try.underlying22 info9 rfl (.slice ua un uc) _ rfl (ho.mine.alloc _) _ (strs [y]) rfl (reads_one _ _ _) (strs_one _) (by rw [strs_len, strs_len, List.length_append, List.length_take]; simp; omega) (by omega) ?_; intro u' w1 hm1 hk1 hat)
          have ho' := ho.snoc hm1 hk1 hat
          rw [List.append_assoc, ← e1] at ho'
          clear e1 hm1 hk1 hat ho
          go_wp2
          go_roundw
          case rel => exact ⟨k + 1, by omega, by go_num, ho'⟩
          case measure => simp [intOf]; omega
        · obtain rfl : k = es.length := by omega
          rw [List.take_length] at ho
          go_wp2
          go_ret
          exact ⟨ho.below, _, rfl, ho.mine, ho.new⟩

/-! ### the grantees after -/
/-- One grantee more, unless it is there. -/
def addOne (l : List ByteArray) (x : ByteArray) : List ByteArray := if has x l then l else l ++ [x]
/-- old, then each of gs that is not yet there. -/
def grant (old gs : List ByteArray) : List ByteArray := gs.foldl addOne old

theorem mem_grant (x : ByteArray) : ∀ (gs old : List ByteArray), x ∈ grant old gs ↔ x ∈ old ∨ x ∈ gs
  | [], old => by simp [grant]
  | g :: gs, old => by
    have := mem_grant x gs (addOne old g)
    simp only [grant, List.foldl_cons] at this ⊢
    rw [this]
    unfold addOne
    split
    · rename_i hg
      simp only [List.mem_cons]
      constructor
      · rintro (h | h)
        · exact .inl h
        · exact .inr (.inr h)
      · rintro (h | rfl | h)
        · exact .inl h
        · exact .inl (has_mem hg)
        · exact .inr h
    · simp [or_assoc]

theorem grant_snoc (old l : List ByteArray) (x : ByteArray) : grant old (l ++ [x]) = addOne (grant old l) x := by simp [grant]
theorem grant_len : ∀ (gs old : List ByteArray), (grant old gs).length ≤ old.length + gs.length
  | [], old => by simp [grant]
  | g :: gs, old => by
    have h := grant_len gs (addOne old g)
    have h2 : (addOne old g).length ≤ old.length + 1 := by unfold addOne; split <;> simp
    have e : grant old (g :: gs) = grant (addOne old g) gs := rfl
    rw [e, List.length_cons]
    omega

theorem Reads.take {w : World} {b o n c : Nat} {gs : List ByteArray} (h : Reads w (.slice (some ⟨b, o, none⟩) n c) (strs gs)) {k : Nat} (hk : k ≤ gs.length) : Reads w (.slice (some ⟨b, o, none⟩) k c) (strs (gs.take k)) := by
  rcases h with ⟨h, _⟩ | ⟨x, c', h, hc, hx⟩
  · cases h
  · simp only [Value.slice.injEq, Option.some.injEq] at h
    obtain ⟨rfl, rfl, rfl⟩ := h
    rw [strs_len] at hc
    refine .inr ⟨_, c, ?_, ?_, fun hne => ⟨b, o, rfl, fun i hi => ?_⟩⟩
    · rw [strs_len, List.length_take, Nat.min_eq_left hk]
    · rw [strs_len, List.length_take]; omega
    · obtain ⟨b', o', he, hcell⟩ := hx (by
        intro e
        have : gs = [] := by simpa [strs] using e
        subst this
        simp [strs] at hne)
      cases he
      rw [strs_len, List.length_take] at hi
      rw [hcell i (by rw [strs_len]; omega)]
      simp [strs]

set_option maxHeartbeats 1000000 in
/-- (28) grantedAfterZZ -/
theorem grantedAfter (v v' : Value) (old gs : List ByteArray) (w : World) (h : Reads w v (strs old)) (h' : Reads w v' (strs gs)) (hm : old.length + gs.length ≤ 1000000000) :
    Calls Try.prog 28 #[v, v'] w (CPost w (grant old gs)) := by
  obtain ⟨a, c, hv⟩ := h.form
  obtain ⟨a', c', hv'⟩ := h'.form
  rw [strs_len] at hv hv'
  subst hv hv'
  have hcl := cloneStrs (.slice a old.length c) old w h (by omega)
  go_enter Try.func28, Try.ntmps28
  go_wp2_with fail
  refine hcl.mono ?_
  rintro e w0 ⟨hb0, u0, rfl, hm0, hn0⟩
  have h0 : Own w w0 u0 old := ⟨hm0, hb0, hn0⟩
  obtain ⟨ua, un, uc, rfl⟩ := hm0.shape
  clear hcl hm0 hb0 hn0
  go_wp2
  go_loopw [5, 6] (fun u i wr => ∃ k : Nat, k ≤ gs.length ∧ i = .int .i64 k ∧ Own w wr u (grant old (gs.take k))) (fun _ i _ => gs.length - (intOf i).toNat)
  case atStart => exact ⟨0, Nat.zero_le _, rfl, by simpa [grant] using h0⟩
  case round =>
    clear h0
    obtain ⟨k, hk, rfl, ho⟩ := hrel
    obtain ⟨va, vn, vc, rfl⟩ := ho.mine.shape
    by_cases hlt : k < gs.length
    · have hr' := h'.below ho.below
      obtain ⟨b, o, _, hq, hc⟩ := hr'.str hlt
      simp only [Value.slice.injEq] at hq
      obtain ⟨rfl, _, rfl⟩ := hq
      have q := hc k hlt
      have e1 := take_getD gs k ⟨#[]⟩ hlt
      have hpre := hr'.take hk
      have hcap : gs.length ≤ c' := by
        rcases hr' with ⟨h, _⟩ | ⟨x, c2, h, hc2, _⟩
        · cases h
        · simp only [Value.slice.injEq] at h
          rw [strs_len] at hc2
          omega
      obtain ⟨y, hy⟩ : ∃ y, gs.getD k ⟨#[]⟩ = y := ⟨_, rfl⟩
      rw [hy] at q e1
      have g1 : (0 : Int) ≤ (k : Int) := by omega
      have g2 : (k : Int) < (gs.length : Int) := by omega
      have g3 : (k : Int) ≤ (c' : Int) := by omega
      have g4 : k ≤ c' := by omega
      have hgl := grant_len (gs.take k) old
      rw [List.length_take] at hgl
      have hstep : grant old (gs.take (k + 1)) = addOne (grant old (gs.take k)) y := by rw [e1, grant_snoc]
      have hmem := mem_grant y (gs.take k) old
      have hc1 := hasStr _ old y _ (h.below ho.below) (by omega)
      have hc2 := hasStr _ (gs.take k) y _ hpre (by rw [List.length_take]; omega)
      clear hc hy hr' hpre e1 hcap
      by_cases hy1 : y ∈ old
      · rw [has_yes hy1] at hc1
        have ho' : Own w wr (.slice va vn vc) (grant old (gs.take (k + 1))) := by rw [hstep]; unfold addOne; rw [if_pos (has_yes (hmem.2 (.inl hy1)))]; exact ho
        clear hstep hmem hc2 hy1
        go_wp2_with fail
        refine hc1.mono ?_
        rintro e w1 ⟨rfl, hw⟩
        subst hw
        clear hc1
        go_wp2
        go_roundw
        case rel => exact ⟨k + 1, by omega, by go_num, ho'⟩
        case measure => simp [intOf]; omega
      · rw [has_no hy1] at hc1
        by_cases hy2 : y ∈ gs.take k
        · rw [has_yes hy2] at hc2
          have ho' : Own w wr (.slice va vn vc) (grant old (gs.take (k + 1))) := by rw [hstep]; unfold addOne; rw [if_pos (has_yes (hmem.2 (.inr hy2)))]; exact ho
          clear hstep hmem hy1 hy2
          go_wp2_with fail
          refine hc1.mono ?_
          rintro e w1 ⟨rfl, hw⟩
          subst hw
          clear hc1
          go_wp2_with fail
          refine hc2.mono ?_
          rintro e w2 ⟨rfl, hw⟩
          subst hw
          clear hc2
          go_wp2
          go_roundw
          case rel => exact ⟨k + 1, by omega, by go_num, ho'⟩
          case measure => simp [intOf]; omega
        · rw [has_no hy2] at hc2
          have hnm : y ∉ grant old (gs.take k) := fun e => (hmem.1 e).elim hy1 hy2
          have HS : Hid (grant old (gs.take k) ++ [y] = grant old (gs.take (k + 1))) := by show _ = _; rw [hstep]; unfold addOne; rw [if_neg (has_ne hnm)]
          clear hstep hmem hy1 hy2 hnm
          go_wp2_with fail
          refine hc1.mono ?_
          rintro e w1 ⟨rfl, hw⟩
          subst hw
          clear hc1
          go_wp2_with fail
          refine hc2.mono ?_
          rintro e w2 ⟨rfl, hw⟩
          subst hw
          clear hc2
          go_wp2_with (at_builtin; refine wpList_append_mine _ rfl (.tmp 32) (.tmp 34) 22 rfl 9 (.string ⟨#[]⟩) 16 Try.underlying22 info9 rfl (.slice va vn vc) _ rfl (ho.mine.alloc _) _ (strs [y]) rfl (reads_one _ _ _) (strs_one _) (by rw [strs_len, strs_len]; simp; omega) (by omega) ?_; intro u' w3 hm3 hk3 hat)
          have ho' := ho.snoc hm3 hk3 hat
          rw [HS.out] at ho'
          clear HS hm3 hk3 hat ho
          go_wp2
          go_roundw
          case rel => exact ⟨k + 1, by omega, by go_num, ho'⟩
          case measure => simp [intOf]; omega
    · obtain rfl : k = gs.length := by omega
      rw [List.take_length] at ho
      go_wp2
      go_ret
      exact ⟨ho.below, _, rfl, ho.mine, ho.new⟩

end Go.Proofs.Qxb6619367a
