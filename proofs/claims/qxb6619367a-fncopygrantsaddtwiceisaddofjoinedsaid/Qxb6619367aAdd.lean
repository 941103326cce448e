/- The readers of a copyGrants; add (seat b6619367a). -/
import Derived.Test.Qxb6619367aState
namespace Go.Proofs.Qxb6619367a
open Go.RowKit

section
variable {w : World} {T F : Nat → Prop} {p : Nat} {gv mv : Value} {gs : List ByteArray} {f : ByteArray → Option Value} {U : ByteArray → Option (List ByteArray)} {n b : Nat}

theorem St.isMap (h : St w T F p gv (.map (some b)) gs f U n) : MapIs Value.string w b f n ∧ F b := by
  rcases h.us.map with ⟨h1, _⟩ | ⟨b', h1, h2, h3⟩
  · cases h1
  · cases h1; exact ⟨h3, h2⟩

/-- (19) ZZGrants -/
theorem zzGrants (h : St w T F p gv mv gs f U n) : Calls Try.prog 19 #[.pointer (some ⟨p, 0, none⟩)] w fun e w' => e = .returned gv ∧ w' = w := by
  obtain ⟨h0, _⟩ := h.cells
  obtain ⟨a, m, c, rfl⟩ := h.mine.shape
  clear h
  go_enter Try.func19, Try.ntmps19
  go_wp2
  go_ret
  exact ⟨rfl, rfl⟩

/-- (20) ZZUsageIsNil -/
theorem zzIsNil (h : St w T F p gv (.map (some b)) gs f U n) : Calls Try.prog 20 #[.pointer (some ⟨p, 0, none⟩)] w fun e w' => e = .returned (.bool false) ∧ w' = w := by
  obtain ⟨_, h1, _⟩ := h.cells
  have hnl := fun (w : World) (r : Option Nat) => run_eql_map_nil (P := Try.prog) w 35 9 22 r Try.underlying35
  clear h
  go_enter Try.func20, Try.ntmps20
  go_wp2
  go_ret
  exact ⟨rfl, rfl⟩

/-- (22) ZZUsageLen -/
theorem zzLen (h : St w T F p gv (.map (some b)) gs f U n) : Calls Try.prog 22 #[.pointer (some ⟨p, 0, none⟩)] w fun e w' => e = .returned (.int .i64 n) ∧ w' = w := by
  obtain ⟨_, h1, _⟩ := h.cells
  have hl := fun ty => h.isMap.1.len (P := Try.prog) (t := 35) (kt := 9) (et := 22) Try.underlying35 ty
  clear h
  go_enter Try.func22, Try.ntmps22
  go_wp2
  go_ret
  exact ⟨rfl, rfl⟩

/-- (26) ZZHasUsage -/
theorem zzHas (h : St w T F p gv (.map (some b)) gs f U n) (s : ByteArray) : Calls Try.prog 26 #[.pointer (some ⟨p, 0, none⟩), .string s] w fun e w' => e = .returned (.bool (U s).isSome) ∧ w' = w := by
  obtain ⟨_, h1, _⟩ := h.cells
  have hl := h.isMap.1.lookup (t := 35) strKey Try.underlying35 (zero22 w) s true
  obtain ⟨hm, _, hs⟩ := h.us.at s
  rw [if_pos rfl, hs] at hl
  obtain ⟨a, m, c, hv⟩ := hm.shape
  rw [hv] at hl
  clear h hs hm hv
  go_enter Try.func26, Try.ntmps26
  go_wp2
  go_ret
  exact ⟨rfl, rfl⟩

/-- (27) ZZUsage -/
theorem zzUsage (h : St w T F p gv (.map (some b)) gs f U n) (s : ByteArray) : Calls Try.prog 27 #[.pointer (some ⟨p, 0, none⟩), .string s] w fun e w' => e = .returned ((f s).getD (.slice none 0 0)) ∧ w' = w := by
  obtain ⟨_, h1, _⟩ := h.cells
  have hl := h.isMap.1.lookup (t := 35) strKey Try.underlying35 (zero22 w) s false
  obtain ⟨hm, _, hs⟩ := h.us.at s
  rw [if_neg (by decide)] at hl
  obtain ⟨a, m, c, hv⟩ := hm.shape
  rw [hv] at hl ⊢
  clear h hs hm hv
  go_enter Try.func27, Try.ntmps27
  go_wp2
  go_ret
  exact ⟨rfl, rfl⟩
end

/-! ### what add does to one schema's list -/
/-- One grantee given. -/
def giveO (o : Option (List ByteArray)) (x : ByteArray) : Option (List ByteArray) := if has x (o.getD []) then o else some (o.getD [] ++ [x])
def foldO (o : Option (List ByteArray)) (gs : List ByteArray) : Option (List ByteArray) := gs.foldl giveO o
theorem foldO_snoc (o : Option (List ByteArray)) (l : List ByteArray) (x : ByteArray) : foldO o (l ++ [x]) = giveO (foldO o l) x := by simp [foldO]
theorem giveO_some {o : Option (List ByteArray)} (x : ByteArray) (h : o.isSome = true) : (giveO o x).isSome = true := by
  unfold giveO; split <;> simp [h]
theorem foldO_some : ∀ (gs : List ByteArray) (o : Option (List ByteArray)), o.isSome = true → (foldO o gs).isSome = true
  | [], _, h => h
  | g :: gs, o, h => foldO_some gs (giveO o g) (giveO_some g h)
theorem giveO_getD (o : Option (List ByteArray)) (x : ByteArray) : (giveO o x).getD [] = addOne (o.getD []) x := by
  unfold giveO addOne; split <;> rfl
theorem foldO_getD : ∀ (gs : List ByteArray) (o : Option (List ByteArray)), (foldO o gs).getD [] = grant (o.getD []) gs
  | [], _ => rfl
  | g :: gs, o => by
    have := foldO_getD gs (giveO o g)
    rw [giveO_getD] at this
    exact this
theorem giveO_isSome (o : Option (List ByteArray)) (x : ByteArray) : (giveO o x).isSome = true := by
  cases o with
  | none => simp [giveO, has]
  | some l => exact giveO_some x rfl
theorem foldO_isSome (o : Option (List ByteArray)) : ∀ gs : List ByteArray, (foldO o gs).isSome = (o.isSome || !gs.isEmpty)
  | [] => by simp [foldO]
  | g :: gs => by
    have h : (foldO o (g :: gs)).isSome = true := foldO_some gs (giveO o g) (giveO_isSome o g)
    simp [h]

/-- A key more? -/
def cntO (o o' : Option (List ByteArray)) : Nat := if o.isSome then 0 else if o'.isSome then 1 else 0

/-- U, with o at s. -/
def setO (U : ByteArray → Option (List ByteArray)) (s : ByteArray) (o : Option (List ByteArray)) : ByteArray → Option (List ByteArray) := fun x => if x = s then o else U x
theorem setO_same (U : ByteArray → Option (List ByteArray)) (s : ByteArray) (o : Option (List ByteArray)) : setO U s o s = o := by simp [setO]
theorem setO_self (U : ByteArray → Option (List ByteArray)) (s : ByteArray) : setO U s (U s) = U := by
  funext x; unfold setO; split
  · rename_i e; rw [e]
  · rfl
theorem upd_setO (U : ByteArray → Option (List ByteArray)) (s : ByteArray) (o : Option (List ByteArray)) (l : List ByteArray) : upd (setO U s o) s l = setO U s (some l) := by
  funext x; unfold upd setO; split <;> rfl
theorem setO_other (U : ByteArray → Option (List ByteArray)) {s x : ByteArray} (o : Option (List ByteArray)) (h : x ≠ s) : setO U s o x = U x := by simp [setO, h]

theorem wp_val {P : Program} {o : Oper} {a : Act} {w w' : World} {v : Value} {K : Act → World → Prop} {Q : Exit → Act → World → Prop} (hr : (execOp a.eval o).run P w = .ok (.value v) w') (h : K (a.put o.dst v) w') : o.wp P a w K Q := by
  unfold Oper.wp; rw [hr]; exact h

theorem yLoad {ops : Array Oper} {S : World → Prop} {op : Oper} {a : Act} (hw : Region.wanted op (yielded ops a.tmps) = true) (ty : TypeId) (x : Operand) (ho : op.op = .load ty x)
    (b o : Nat) (hx : a.eval x = .pointer (some ⟨b, o, none⟩)) (v : Value) (hS : ∀ w, S w → w.cell? ⟨b, o, none⟩ = some v) (d : TypeDesc)
    (hu : Try.prog.underlying ty = some d) (hd : (match d with | .struct _ | .array _ _ => true | _ => false) = false) : YieldsIf Try.prog ops S op v a :=
  .inl ⟨hw, fun w hw' => by
    have hagg : (isAgg ty).run Try.prog w = .ok false w := by
      unfold isAgg
      rw [Sem.run_bind, run_underlying hu w]
      cases d <;> simp_all
    unfold execOp
    simp only [ho, hx, Instr.loadAt, Instr.sureAddr, Sem.run_bind, Sem.run_pure, Result.andThen_ok]
    simp [loadVar, Sem.run_bind, hagg, hS w hw']⟩

theorem wpAnyH_act {P : Program} {md : Region.Mode} {ops : Array Oper} {Q : Exit → Act → World → Prop} {S : World → Prop} {n : Nat} {l l' : Array Bool} {a a' : Act} {w : World} (hl : l = l') (ha : a = a') (h : wpAnyH P md ops Q S n l' a' w) : wpAnyH P md ops Q S n l a w := by
  subst hl ha; exact h

theorem wp_lookup {o : Oper} {a : Act} {w : World} {K : Act → World → Prop} {Q : Exit → Act → World → Prop} {b : Nat} {s : ByteArray} (x y : Operand) (ho : o.op = .lookup 35 x y false) (hx : a.eval x = .map (some b)) (hy : a.eval y = .string s) (v : Value)
    (hr : (Instr.lookup 35 (.map (some b)) (.string s) false).run Try.prog w = .ok v w) (h : K (a.put o.dst v) w) : o.wp Try.prog a w K Q := by
  refine wp_val (v := v) ?_ h
  unfold execOp
  simp only [ho, hx, hy, Sem.run_bind, hr, Result.andThen_ok, Sem.run_pure]

theorem wp_one {o : Oper} {a : Act} {w : World} {K : Act → World → Prop} {Q : Exit → Act → World → Prop} {s : ByteArray} (x : Operand) (ho : o.op = .buildSlice 22 1 #[(0, x)]) (hx : a.eval x = .string s)
    (h : K (a.put o.dst (.slice (some ⟨w.heap.size, 0, none⟩) 1 1)) (w.alloc (.cells #[.string s] 9))) : o.wp Try.prog a w K Q := by
  refine wp_val (v := .slice (some ⟨w.heap.size, 0, none⟩) 1 1) ?_ h
  have hr : (Instr.buildSlice 22 1 #[(0, .string s)]).run Try.prog w = .ok (.slice (some ⟨w.heap.size, 0, none⟩) 1 1) (w.alloc (.cells #[.string s] 9)) := by kernel_rfl
  unfold execOp
  simp [ho, hx, hr, Result.andThen_ok]

theorem wp_append {o : Oper} {a : Act} {w : World} {K : Act → World → Prop} {Q : Exit → Act → World → Prop} (s x : Operand) (ho : o.op = .call { callee := .builtin .append, args := #[s, x], argTypes := #[22, 22] })
    (v : Value) (xs : List ByteArray) (hv : a.eval s = v) (hm : Mine w v (strs xs)) (sv : Value) (ys : List ByteArray) (hx : a.eval x = sv) (hs : Reads w sv (strs ys)) (hbd : xs.length + ys.length ≤ 1099511627776)
    (h : ∀ v' w', Mine w' v' (strs (xs ++ ys)) → Kept (fun k => some k = v.ownBlock) w w' → (v'.ownBlock = v.ownBlock ∨ v'.ownBlock = some w.heap.size) → K (a.put o.dst v') w') : o.wp Try.prog a w K Q := by
  obtain ⟨v', w', hr, h2, h3, h4⟩ := run_append_mine (P := Try.prog) w 22 o.type 9 (.string ⟨#[]⟩) 16 Try.underlying22 info9 rfl v (strs xs) hm sv (strs ys) hs (strs_one _) (by rw [strs_len, strs_len]; exact hbd) (by omega)
  unfold Oper.wp execOp
  simp only [ho, resolve, invoke, builtin, Sem.run_bind, Sem.run_pure, Result.andThen_ok, List.map_toArray, List.map_cons, List.map_nil, hv, hx, hr]
  exact h v' w' (by rw [strs_app]; exact h2) h3 h4

theorem wp_update {o : Oper} {a : Act} {w w' : World} {K : Act → World → Prop} {Q : Exit → Act → World → Prop} {b : Nat} {s : ByteArray} {v : Value} (x y z : Operand) (ho : o.op = .mapUpdate 35 x y z) (hx : a.eval x = .map (some b)) (hy : a.eval y = .string s) (hz : a.eval z = v)
    (hr : (Instr.mapUpdate 35 (.map (some b)) (.string s) v).run Try.prog w = .ok () w') (h : K (a.put o.dst undef) w') : o.wp Try.prog a w K Q := by
  unfold Oper.wp execOp
  simp only [ho, hx, hy, hz, Sem.run_bind, hr, Result.andThen_ok, Sem.run_pure]
  exact h

theorem Kept.then {T S : Nat → Prop} {a b c : World} (h : Kept T a b) (k : Kept S b c) (hs : ∀ k, k < a.heap.size → S k → T k) : Kept T a c :=
  ⟨k.os.trans h.os, k.tape.trans h.tape, k.output.trans h.output, Nat.le_trans h.size k.size, fun i hi hn => (k.block i (Nat.lt_of_lt_of_le hi h.size) (fun e => hn (hs i hi e))).trans (h.block i hi hn)⟩

def APost (T : Nat → Prop) (p : Nat) (gs : List ByteArray) (U : ByteArray → Option (List ByteArray)) (n : Nat) (w : World) (e : Ending) (w' : World) : Prop :=
  e = .returned (.tuple #[]) ∧ Kept T w w' ∧ ∃ F gv b f, St w' (fun k => T k ∨ (w.heap.size ≤ k ∧ k < w'.heap.size)) F p gv (.map (some b)) gs f U n

/-- The loop's relation. -/
def LRel (T : Nat → Prop) (p : Nat) (gv : Value) (b : Nat) (gs : List ByteArray) (U : ByteArray → Option (List ByteArray)) (n : Nat) (s : ByteArray) (gees : List ByteArray) (w : World) (k : Nat) (wr : World) : Prop :=
  Kept T w wr ∧ ∃ F f, St wr (fun k => T k ∨ w.heap.size ≤ k) F p gv (.map (some b)) gs f (setO U s (foldO (U s) (gees.take k))) (n + cntO (U s) (foldO (U s) (gees.take k)))

set_option maxHeartbeats 1000000 in
/-- (17) add -/
theorem add_some (T F : Nat → Prop) (p b : Nat) (gs grs gees : List ByteArray) (f : ByteArray → Option Value) (U : ByteArray → Option (List ByteArray)) (n : Nat) (s : ByteArray) (gv grv gev : Value) (w : World)
    (h : St w T F p gv (.map (some b)) gs f U n) (hT : ∀ k, T k → k < w.heap.size) (hr : RAt (fun k => ¬ T k) w grv grs) (he : RAt (fun k => ¬ T k) w gev gees)
    (hb1 : gs.length + grs.length ≤ 1000000000) (hb2 : ((U s).getD []).length + gees.length ≤ 1000000000) :
    Calls Try.prog 17 #[.pointer (some ⟨p, 0, none⟩), .string s, grv, gev] w (APost T p (gs ++ grs) (setO U s (foldO (U s) gees)) (n + cntO (U s) (foldO (U s) gees)) w) := by
  obtain ⟨h0, h1, f0, f1⟩ := h.cells
  obtain ⟨ga, gn, gc, rfl⟩ := h.mine.shape
  obtain ⟨ra, rc, rfl⟩ := hr.form
  obtain ⟨ea, ec, rfl⟩ := he.form
  have hnl := fun (w : World) (r : Option Nat) => run_eql_map_nil (P := Try.prog) w 35 9 22 r Try.underlying35
  have hplt := h.lt
  have hpne := fun e => (h.gT p e).2.2 rfl
  go_enter Try.func17, Try.ntmps17
  go_wp2_with (at_builtin; refine wpList_append_mine _ rfl (.tmp 14) (.tmp 15) 22 rfl 9 (.string ⟨#[]⟩) 16 Try.underlying22 info9 rfl (.slice ga gn gc) _ rfl h.mine _ _ rfl hr.1 (strs_one _) (by rw [strs_len, strs_len]; omega) (by omega) ?_; intro u1 w1 hm1 hk1 hat1; obtain ⟨ua, un, uc, rfl⟩ := hm1.shape; have hb1 := hk1.block p hplt (fun e => hpne e.symm); have hc1 := (World.cell?_of_block (a := ⟨p, 0, none⟩) hb1).trans h0; have hf1 := (World.frozen?_of_block (a := ⟨p, 0, none⟩) hb1).trans f0; have hd1 := (World.cell?_of_block (a := ⟨p, 1, none⟩) hb1).trans h1; clear hb1)
  obtain ⟨hst, hkT⟩ := h.grown (gs' := gs ++ grs) hT (by rw [strs_app]; exact hm1) hk1 hat1
  have h0rel : LRel T p (.slice ua un uc) b (gs ++ grs) U n s gees w 0 (w1.setCell ⟨p, 0, none⟩ (.slice ua un uc)) := ⟨hkT, F, f, by
    have e : n + cntO (U s) (U s) = n := by unfold cntO; split <;> simp_all
    simp only [List.take_zero, foldO, List.foldl_nil, setO_self, e]
    exact hst⟩
  clear hst hkT hm1 hk1 hat1 hc1 hf1 hd1 h0 h1 f0 f1 hpne h hr hb1
  go_loopw [30] (fun i wr => ∃ k : Nat, k ≤ gees.length ∧ i = .int .i64 k ∧ LRel T p (.slice ua un uc) b (gs ++ grs) U n s gees w k wr) (fun i _ => gees.length - (intOf i).toNat)
  case atStart => exact ⟨0, Nat.zero_le _, rfl, h0rel⟩
  case round =>
    clear h0rel
    obtain ⟨k, hk, rfl, hK, F', f', hS⟩ := hrel
    by_cases hlt : k < gees.length
    · obtain ⟨c0, c1, f0, f1⟩ := hS.cells
      obtain ⟨b1, o1, _, hq, hc⟩ := (he.kept hK fun _ a b => a b).1.str hlt
      simp only [Value.slice.injEq] at hq
      obtain ⟨rfl, _, rfl⟩ := hq
      have q := hc k hlt
      have e1 := take_getD gees k ⟨#[]⟩ hlt
      obtain ⟨x, hx⟩ : ∃ x, gees.getD k ⟨#[]⟩ = x := ⟨_, rfl⟩
      rw [hx] at q e1
      have hl := hS.isMap.1.lookup (t := 35) strKey Try.underlying35 (zero22 wr) s false
      obtain ⟨hm, hmF, hs⟩ := hS.us.at s
      rw [if_neg (by decide)] at hl
      rw [setO_same] at hm hs
      obtain ⟨va, vn, vc, hv⟩ := hm.shape
      have hlen : ((foldO (U s) (gees.take k)).getD []).length ≤ 1000000000 := by
        rw [foldO_getD]
        have := grant_len (gees.take k) ((U s).getD [])
        rw [List.length_take] at this
        omega
      rw [hv] at hl hm
      have hct := contains (.slice va vn vc) _ x wr hm.reads hlen
      have g1 : (0 : Int) ≤ (k : Int) := by omega
      have g2 : (k : Int) < (gees.length : Int) := by omega
      clear hc hx
      by_cases hin : x ∈ (foldO (U s) (gees.take k)).getD []
      · have hstep : foldO (U s) (gees.take (k + 1)) = foldO (U s) (gees.take k) := by rw [e1, foldO_snoc]; unfold giveO; rw [if_pos (has_yes hin)]
        have hrel' : LRel T p (.slice ua un uc) b (gs ++ grs) U n s gees w (k + 1) wr := ⟨hK, F', f', by rw [hstep]; exact hS⟩
        rw [has_yes hin] at hct
        clear hstep e1 hin hlen hm hv hS hs hmF
        go_wp2_with fail
        refine hct.mono ?_
        rintro e w2 ⟨rfl, hw⟩
        subst hw
        clear hct hl
        go_wp2
        go_roundw
        case rel => exact ⟨k + 1, by omega, by go_num, hrel'⟩
        case measure => simp [intOf]; omega
      · rw [has_no hin] at hct
        go_wp2_with fail
        refine hct.mono ?_
        rintro e w2 ⟨rfl, hw⟩
        subst hw
        clear hct
        go_wp2
        have hstep : foldO (U s) (gees.take (k + 1)) = some ((foldO (U s) (gees.take k)).getD [] ++ [x]) := by rw [e1, foldO_snoc]; unfold giveO; rw [if_neg (has_ne hin)]
        have hcnt : n + cntO (U s) (foldO (U s) (gees.take k)) + (if (f' s).isSome then 0 else 1) = n + cntO (U s) (some ((foldO (U s) (gees.take k)).getD [] ++ [x])) := by
          rw [hs]
          have := foldO_some (gees.take k) (U s)
          unfold cntO
          cases h1 : (U s).isSome <;> cases h2 : (foldO (U s) (gees.take k)).isSome <;> simp_all
        rename_i Q' K hKK
        have hSd : w2.drew.heap[p]? = some (.cells #[.slice ua un uc, .map (some b)] 47 (0, 0)) := hS.cell
        have hcell : ∀ w' : World, w'.heap[p]? = some (.cells #[.slice ua un uc, .map (some b)] 47 (0, 0)) → w'.cell? ⟨p, 1, none⟩ = some (.map (some b)) := fun w' h => by rw [cell_of_row w' p 1 _ _ _ h]; rfl
        have hmapd : MapIs Value.string w2.drew b f' _ := hS.isMap.1.of_block rfl
        have hmd : Mine (w2.drew.alloc (.cells #[.string x] 9)) (.slice va vn vc) _ := (hm.of_block (w' := w2.drew) fun _ _ => rfl).alloc _
        refine wp_region_held (S := fun w' => w'.heap[p]? = some (.cells #[.slice ua un uc, .map (some b)] 47 (0, 0))) (by kernel_rfl) ?_
        change wpAnyH _ _ _ _ _ 15 (Array.replicate 15 false) _ w2.drew
        refine wpAnyH_take (i := 0) (v := .pointer (some ⟨p, 0, none⟩)) rfl (by kernel_rfl) (by kernel_rfl) (by kernel_rfl) (fun _ _ _ h => h) (.inl ⟨by kernel_rfl, fun w' _ => by kernel_rfl⟩) hSd ?_
        refine wpAnyH_take (i := 1) (v := .pointer (some ⟨p, 0, none⟩)) rfl (by kernel_rfl) (by kernel_rfl) (by kernel_rfl) (fun _ _ _ h => h) (.inl ⟨by kernel_rfl, fun w' _ => by kernel_rfl⟩) hSd ?_
        refine wpAnyH_take (i := 2) (v := .pointer (some ⟨p, 1, none⟩)) rfl (by kernel_rfl) (by kernel_rfl) (by kernel_rfl) (fun _ _ _ h => h) (.inl ⟨by kernel_rfl, fun w' _ => by kernel_rfl⟩) hSd ?_
        refine wpAnyH_take (i := 3) (v := .map (some b)) rfl (by kernel_rfl) (by kernel_rfl) (by kernel_rfl) (fun _ _ _ h => h) (yLoad (by kernel_rfl) 35 (.tmp 45) rfl p 1 (by kernel_rfl) _ hcell _ Try.underlying35 rfl) hSd ?_
        refine wpAnyH_take (i := 4) (v := .string s) rfl (by kernel_rfl) (by kernel_rfl) (by kernel_rfl) (fun _ _ _ h => h) (.inl ⟨by kernel_rfl, fun w' _ => by kernel_rfl⟩) hSd ?_
        refine wpAnyH_take (i := 5) (v := .pointer (some ⟨p, 0, none⟩)) rfl (by kernel_rfl) (by kernel_rfl) (by kernel_rfl) (fun _ _ _ h => h) (.inl ⟨by kernel_rfl, fun w' _ => by kernel_rfl⟩) hSd ?_
        refine wpAnyH_take (i := 6) (v := .pointer (some ⟨p, 0, none⟩)) rfl (by kernel_rfl) (by kernel_rfl) (by kernel_rfl) (fun _ _ _ h => h) (.inl ⟨by kernel_rfl, fun w' _ => by kernel_rfl⟩) hSd ?_
        refine wpAnyH_take (i := 7) (v := .pointer (some ⟨p, 1, none⟩)) rfl (by kernel_rfl) (by kernel_rfl) (by kernel_rfl) (fun _ _ _ h => h) (.inl ⟨by kernel_rfl, fun w' _ => by kernel_rfl⟩) hSd ?_
        refine wpAnyH_take (i := 8) (v := .map (some b)) rfl (by kernel_rfl) (by kernel_rfl) (by kernel_rfl) (fun _ _ _ h => h) (yLoad (by kernel_rfl) 35 (.tmp 50) rfl p 1 (by kernel_rfl) _ hcell _ Try.underlying35 rfl) hSd ?_
        refine wpAnyH_take (i := 9) (v := .string s) rfl (by kernel_rfl) (by kernel_rfl) (by kernel_rfl) (fun _ _ _ h => h) (.inl ⟨by kernel_rfl, fun w' _ => by kernel_rfl⟩) hSd ?_
        refine wpAnyH_take (i := 11) (v := .string x) rfl (by kernel_rfl) (by kernel_rfl) (by kernel_rfl) (fun _ _ _ h => h) (.inl ⟨by kernel_rfl, fun w' _ => by kernel_rfl⟩) hSd ?_
        refine wpAnyH_act (l' := #[true, true, true, true, true, true, true, true, true, true, false, true, false, false, false]) (a' := ⟨#[.pointer (some ⟨p, 0, none⟩), .string s, .slice ra grs.length rc, .slice (some ⟨b1, o1, none⟩) gees.length ec, undef, undef, undef, undef, undef, .string x, .pointer (some ⟨p, 0, none⟩), .pointer (some ⟨p, 0, none⟩), .pointer (some ⟨p, 0, none⟩), .pointer (some ⟨p, 0, none⟩), .slice ga gn gc, .slice ra grs.length rc, .slice ua un uc, .pointer (some ⟨p, 0, none⟩), .pointer (some ⟨p, 0, none⟩), .pointer (some ⟨p, 0, none⟩), .pointer (some ⟨p, 0, none⟩), .pointer (some ⟨p, 1, none⟩), .map (some b), .bool false, undef, undef, undef, undef, .slice (some ⟨b1, o1, none⟩) gees.length ec, .int .i64 gees.length, .int .i64 k, .bool true, .pointer (some ⟨b1, o1 + k, none⟩), .string x, .pointer (some ⟨p, 0, none⟩), .pointer (some ⟨p, 0, none⟩), .pointer (some ⟨p, 1, none⟩), .map (some b), .string s, .slice va vn vc, .string x, .bool false, .bool true, .pointer (some ⟨p, 0, none⟩), .pointer (some ⟨p, 0, none⟩), .pointer (some ⟨p, 1, none⟩), .map (some b), .string s, .pointer (some ⟨p, 0, none⟩), .pointer (some ⟨p, 0, none⟩), .pointer (some ⟨p, 1, none⟩), .map (some b), .string s, u53, .string x, u55, u56, u57], []⟩) (by kernel_rfl) (by kernel_rfl) ?_
        refine wpAnyH_all (rs := [10, 12]) (by kernel_rfl) (by simp) ?_
        intro i hi
        have hi' : i = 10 ∨ i = 12 := by simpa using hi
        have hplt2 := hS.lt
        rcases hi' with rfl | rfl
        refine .inl (wp_lookup (b := b) (s := s) (.tmp 51) (.tmp 52) rfl (by kernel_rfl) (by kernel_rfl) (.slice va vn vc) (by have := hmapd.lookup (t := 35) strKey Try.underlying35 (zero22 _) s false; rw [if_neg (by decide), hv] at this; exact this) ?_)
        refine ⟨hSd, ?_⟩
        refine wpAnyH_act (l' := #[true, true, true, true, true, true, true, true, true, true, true, true, false, false, false]) (a' := ⟨#[.pointer (some ⟨p, 0, none⟩), .string s, .slice ra grs.length rc, .slice (some ⟨b1, o1, none⟩) gees.length ec, undef, undef, undef, undef, undef, .string x, .pointer (some ⟨p, 0, none⟩), .pointer (some ⟨p, 0, none⟩), .pointer (some ⟨p, 0, none⟩), .pointer (some ⟨p, 0, none⟩), .slice ga gn gc, .slice ra grs.length rc, .slice ua un uc, .pointer (some ⟨p, 0, none⟩), .pointer (some ⟨p, 0, none⟩), .pointer (some ⟨p, 0, none⟩), .pointer (some ⟨p, 0, none⟩), .pointer (some ⟨p, 1, none⟩), .map (some b), .bool false, undef, undef, undef, undef, .slice (some ⟨b1, o1, none⟩) gees.length ec, .int .i64 gees.length, .int .i64 k, .bool true, .pointer (some ⟨b1, o1 + k, none⟩), .string x, .pointer (some ⟨p, 0, none⟩), .pointer (some ⟨p, 0, none⟩), .pointer (some ⟨p, 1, none⟩), .map (some b), .string s, .slice va vn vc, .string x, .bool false, .bool true, .pointer (some ⟨p, 0, none⟩), .pointer (some ⟨p, 0, none⟩), .pointer (some ⟨p, 1, none⟩), .map (some b), .string s, .pointer (some ⟨p, 0, none⟩), .pointer (some ⟨p, 0, none⟩), .pointer (some ⟨p, 1, none⟩), .map (some b), .string s, .slice va vn vc, .string x, u55, u56, u57], []⟩) (by kernel_rfl) (by kernel_rfl) ?_
        refine wpAnyH_all (rs := [12]) (by kernel_rfl) (by simp) ?_
        intro i hi
        obtain rfl : i = 12 := by simpa using hi
        refine .inl (wp_one (s := x) (.tmp 54) rfl (by kernel_rfl) ?_)
        rotate_left
        refine .inl (wp_one (s := x) (.tmp 54) rfl (by kernel_rfl) ?_)
        refine ⟨(Below.heap_alloc w2.drew _ p hplt2).trans hSd, ?_⟩
        refine wpAnyH_act (l' := #[true, true, true, true, true, true, true, true, true, true, false, true, true, false, false]) (a' := ⟨#[.pointer (some ⟨p, 0, none⟩), .string s, .slice ra grs.length rc, .slice (some ⟨b1, o1, none⟩) gees.length ec, undef, undef, undef, undef, undef, .string x, .pointer (some ⟨p, 0, none⟩), .pointer (some ⟨p, 0, none⟩), .pointer (some ⟨p, 0, none⟩), .pointer (some ⟨p, 0, none⟩), .slice ga gn gc, .slice ra grs.length rc, .slice ua un uc, .pointer (some ⟨p, 0, none⟩), .pointer (some ⟨p, 0, none⟩), .pointer (some ⟨p, 0, none⟩), .pointer (some ⟨p, 0, none⟩), .pointer (some ⟨p, 1, none⟩), .map (some b), .bool false, undef, undef, undef, undef, .slice (some ⟨b1, o1, none⟩) gees.length ec, .int .i64 gees.length, .int .i64 k, .bool true, .pointer (some ⟨b1, o1 + k, none⟩), .string x, .pointer (some ⟨p, 0, none⟩), .pointer (some ⟨p, 0, none⟩), .pointer (some ⟨p, 1, none⟩), .map (some b), .string s, .slice va vn vc, .string x, .bool false, .bool true, .pointer (some ⟨p, 0, none⟩), .pointer (some ⟨p, 0, none⟩), .pointer (some ⟨p, 1, none⟩), .map (some b), .string s, .pointer (some ⟨p, 0, none⟩), .pointer (some ⟨p, 0, none⟩), .pointer (some ⟨p, 1, none⟩), .map (some b), .string s, u53, .string x, .slice (some ⟨w2.heap.size, 0, none⟩) 1 1, u56, u57], []⟩) (by kernel_rfl) (by kernel_rfl) ?_
        refine wpAnyH_all (rs := [10]) (by kernel_rfl) (by simp) ?_
        intro i hi
        obtain rfl : i = 10 := by simpa using hi
        refine .inl (wp_lookup (b := b) (s := s) (.tmp 51) (.tmp 52) rfl (by kernel_rfl) (by kernel_rfl) (.slice va vn vc) (by have := (hmapd.of_block (Below.heap_alloc w2.drew (.cells #[.string x] 9) b hmapd.lt)).lookup (t := 35) strKey Try.underlying35 (zero22 _) s false; rw [if_neg (by decide), hv] at this; exact this) ?_)
        all_goals
          refine ⟨(Below.heap_alloc w2.drew _ p hplt2).trans hSd, ?_⟩
          refine wpAnyH_act (l' := #[true, true, true, true, true, true, true, true, true, true, true, true, true, false, false]) (a' := ⟨#[.pointer (some ⟨p, 0, none⟩), .string s, .slice ra grs.length rc, .slice (some ⟨b1, o1, none⟩) gees.length ec, undef, undef, undef, undef, undef, .string x, .pointer (some ⟨p, 0, none⟩), .pointer (some ⟨p, 0, none⟩), .pointer (some ⟨p, 0, none⟩), .pointer (some ⟨p, 0, none⟩), .slice ga gn gc, .slice ra grs.length rc, .slice ua un uc, .pointer (some ⟨p, 0, none⟩), .pointer (some ⟨p, 0, none⟩), .pointer (some ⟨p, 0, none⟩), .pointer (some ⟨p, 0, none⟩), .pointer (some ⟨p, 1, none⟩), .map (some b), .bool false, undef, undef, undef, undef, .slice (some ⟨b1, o1, none⟩) gees.length ec, .int .i64 gees.length, .int .i64 k, .bool true, .pointer (some ⟨b1, o1 + k, none⟩), .string x, .pointer (some ⟨p, 0, none⟩), .pointer (some ⟨p, 0, none⟩), .pointer (some ⟨p, 1, none⟩), .map (some b), .string s, .slice va vn vc, .string x, .bool false, .bool true, .pointer (some ⟨p, 0, none⟩), .pointer (some ⟨p, 0, none⟩), .pointer (some ⟨p, 1, none⟩), .map (some b), .string s, .pointer (some ⟨p, 0, none⟩), .pointer (some ⟨p, 0, none⟩), .pointer (some ⟨p, 1, none⟩), .map (some b), .string s, .slice va vn vc, .string x, .slice (some ⟨w2.heap.size, 0, none⟩) 1 1, u56, u57], []⟩) (by kernel_rfl) (by kernel_rfl) ?_
          refine wpAnyH_all (rs := [13]) (by kernel_rfl) (by simp) ?_
          intro i hi
          obtain rfl : i = 13 := by simpa using hi
          refine .inl (wp_append (.tmp 53) (.tmp 55) rfl (.slice va vn vc) _ (by kernel_rfl) hmd (.slice (some ⟨w2.heap.size, 0, none⟩) 1 1) [x] (by kernel_rfl) (reads_one _ _ _) (by simp; omega) ?_)
          intro v' w3 hm3 hk3 hat3
          have hk23 : Kept (fun k => some k = ((f' s).getD (.slice none 0 0)).ownBlock) w2 w3 := by
            rw [hv]
            exact ((Kept.refl _ w2).drew.alloc _).trans hk3
          have hnp : ((f' s).getD (.slice none 0 0)).ownBlock ≠ some p := fun e => hS.pF (hmF p e)
          have hp3 := (hk23.block p hplt2 (fun e => hnp e.symm)).trans hS.cell
          refine ⟨hp3, ?_⟩
          obtain ⟨va', vn', vc', rfl⟩ := hm3.shape
          refine wpAnyH_act (l' := #[true, true, true, true, true, true, true, true, true, true, true, true, true, true, false]) (a' := ⟨#[.pointer (some ⟨p, 0, none⟩), .string s, .slice ra grs.length rc, .slice (some ⟨b1, o1, none⟩) gees.length ec, undef, undef, undef, undef, undef, .string x, .pointer (some ⟨p, 0, none⟩), .pointer (some ⟨p, 0, none⟩), .pointer (some ⟨p, 0, none⟩), .pointer (some ⟨p, 0, none⟩), .slice ga gn gc, .slice ra grs.length rc, .slice ua un uc, .pointer (some ⟨p, 0, none⟩), .pointer (some ⟨p, 0, none⟩), .pointer (some ⟨p, 0, none⟩), .pointer (some ⟨p, 0, none⟩), .pointer (some ⟨p, 1, none⟩), .map (some b), .bool false, undef, undef, undef, undef, .slice (some ⟨b1, o1, none⟩) gees.length ec, .int .i64 gees.length, .int .i64 k, .bool true, .pointer (some ⟨b1, o1 + k, none⟩), .string x, .pointer (some ⟨p, 0, none⟩), .pointer (some ⟨p, 0, none⟩), .pointer (some ⟨p, 1, none⟩), .map (some b), .string s, .slice va vn vc, .string x, .bool false, .bool true, .pointer (some ⟨p, 0, none⟩), .pointer (some ⟨p, 0, none⟩), .pointer (some ⟨p, 1, none⟩), .map (some b), .string s, .pointer (some ⟨p, 0, none⟩), .pointer (some ⟨p, 0, none⟩), .pointer (some ⟨p, 1, none⟩), .map (some b), .string s, .slice va vn vc, .string x, .slice (some ⟨w2.heap.size, 0, none⟩) 1 1, .slice va' vn' vc', u57], []⟩) (by kernel_rfl) (by kernel_rfl) ?_
          refine wpAnyH_all (rs := [14]) (by kernel_rfl) (by simp) ?_
          intro i hi
          obtain rfl : i = 14 := by simpa using hi
          have hmap3 : MapIs Value.string w3 b f' _ := hS.isMap.1.of_block (hk23.block b hS.isMap.1.lt (fun e => by
            obtain ⟨es, clk, hbm, _⟩ := hS.isMap.1
            rw [hv] at e
            exact hm.ne_map e.symm hbm rfl))
          obtain ⟨w4, hrun, hmap4, hk4, _⟩ := hmap3.update (t := 35) strKey Try.underlying35 s (.slice va' vn' vc')
          refine .inl (wp_update (b := b) (s := s) (.tmp 46) (.tmp 47) (.tmp 56) rfl (by kernel_rfl) (by kernel_rfl) (by kernel_rfl) hrun ?_)
          have hput := hS.put (l := (foldO (U s) (gees.take k)).getD [] ++ [x]) (fun k => (by
            by_cases e : k < w2.heap.size
            · exact .inl e
            · exact .inr (.inr (by have := hK.size; omega)))) hm3 hk23 (fun g hg => by
              rw [hv]
              rcases hat3 with e | e
              · exact .inl (e ▸ hg)
              · rw [e] at hg; cases hg; exact .inr (by rw [World.size_alloc]; exact Nat.le_succ _)) hmap4 hk4
          rw [upd_setO, hcnt, ← hstep] at hput
          obtain ⟨hS4, hk24⟩ := hput
          have hrel' : LRel T p (.slice ua un uc) b (gs ++ grs) U n s gees w (k + 1) w4 := ⟨hK.then hk24 (fun k hk hF => (hS.sub k hF).elim id fun e => by omega), _, _, hS4⟩
          refine ⟨hS4.cell, ?_⟩
          refine wpAnyH_act (l' := #[true, true, true, true, true, true, true, true, true, true, true, true, true, true, true]) (a' := ⟨#[.pointer (some ⟨p, 0, none⟩), .string s, .slice ra grs.length rc, .slice (some ⟨b1, o1, none⟩) gees.length ec, undef, undef, undef, undef, undef, .string x, .pointer (some ⟨p, 0, none⟩), .pointer (some ⟨p, 0, none⟩), .pointer (some ⟨p, 0, none⟩), .pointer (some ⟨p, 0, none⟩), .slice ga gn gc, .slice ra grs.length rc, .slice ua un uc, .pointer (some ⟨p, 0, none⟩), .pointer (some ⟨p, 0, none⟩), .pointer (some ⟨p, 0, none⟩), .pointer (some ⟨p, 0, none⟩), .pointer (some ⟨p, 1, none⟩), .map (some b), .bool false, undef, undef, undef, undef, .slice (some ⟨b1, o1, none⟩) gees.length ec, .int .i64 gees.length, .int .i64 k, .bool true, .pointer (some ⟨b1, o1 + k, none⟩), .string x, .pointer (some ⟨p, 0, none⟩), .pointer (some ⟨p, 0, none⟩), .pointer (some ⟨p, 1, none⟩), .map (some b), .string s, .slice va vn vc, .string x, .bool false, .bool true, .pointer (some ⟨p, 0, none⟩), .pointer (some ⟨p, 0, none⟩), .pointer (some ⟨p, 1, none⟩), .map (some b), .string s, .pointer (some ⟨p, 0, none⟩), .pointer (some ⟨p, 0, none⟩), .pointer (some ⟨p, 1, none⟩), .map (some b), .string s, .slice va vn vc, .string x, .slice (some ⟨w2.heap.size, 0, none⟩) 1 1, .slice va' vn' vc', u57], []⟩) (by kernel_rfl) (by kernel_rfl) ?_
          refine wpAnyH_done (by kernel_rfl) ?_ _
          refine hKK _ _ ?_
          clear hS4 hk24 hmap4 hmap3 hrun hk4 hm3 hk3 hat3 hk23 hp3 hnp hS hm hmd hmapd hSd hcell hstep hcnt hl c0 c1 f0 f1 q e1 hin hmF hs hv hlen
          go_wp2
          go_roundw
          case rel => exact ⟨k + 1, by omega, by go_num, hrel'⟩
          case measure => simp [intOf]; omega
    · obtain rfl : k = gees.length := by omega
      rw [List.take_length] at hS
      go_wp2
      go_end0
      exact ⟨rfl, hK, _, _, _, _, hS.wide fun k hk h => h.imp id fun e => ⟨e, hk⟩⟩

set_option maxHeartbeats 1000000 in
/-- (17) add, the map nil -/
theorem add_nil (T F : Nat → Prop) (p : Nat) (gs grs gees : List ByteArray) (f : ByteArray → Option Value) (U : ByteArray → Option (List ByteArray)) (n : Nat) (s : ByteArray) (gv grv gev : Value) (w : World)
    (h : St w T F p gv (.map none) gs f U n) (hT : ∀ k, T k → k < w.heap.size) (hr : RAt (fun k => ¬ T k) w grv grs) (he : RAt (fun k => ¬ T k) w gev gees)
    (hb1 : gs.length + grs.length ≤ 1000000000) (hb2 : ((U s).getD []).length + gees.length ≤ 1000000000) :
    Calls Try.prog 17 #[.pointer (some ⟨p, 0, none⟩), .string s, grv, gev] w (APost T p (gs ++ grs) (setO U s (foldO (U s) gees)) (n + cntO (U s) (foldO (U s) gees)) w) := by
  obtain ⟨h0, h1, f0, f1⟩ := h.cells
  obtain ⟨ga, gn, gc, rfl⟩ := h.mine.shape
  obtain ⟨ra, rc, rfl⟩ := hr.form
  obtain ⟨ea, ec, rfl⟩ := he.form
  have hnl := fun (w : World) (r : Option Nat) => run_eql_map_nil (P := Try.prog) w 35 9 22 r Try.underlying35
  have hmm := @run_makeMap Try.prog
  have hplt := h.lt
  have hpne := fun e => (h.gT p e).2.2 rfl
  go_enter Try.func17, Try.ntmps17
  go_wp2_with (at_builtin; refine wpList_append_mine _ rfl (.tmp 14) (.tmp 15) 22 rfl 9 (.string ⟨#[]⟩) 16 Try.underlying22 info9 rfl (.slice ga gn gc) _ rfl h.mine _ _ rfl hr.1 (strs_one _) (by rw [strs_len, strs_len]; omega) (by omega) ?_; intro u1 w1 hm1 hk1 hat1; obtain ⟨ua, un, uc, rfl⟩ := hm1.shape; have hb1 := hk1.block p hplt (fun e => hpne e.symm); have hc1 := (World.cell?_of_block (a := ⟨p, 0, none⟩) hb1).trans h0; have hf1 := (World.frozen?_of_block (a := ⟨p, 0, none⟩) hb1).trans f0; have hd1 := (World.cell?_of_block (a := ⟨p, 1, none⟩) hb1).trans h1; have hg1 := (World.frozen?_of_block (a := ⟨p, 1, none⟩) hb1).trans f1; have hz1 : p < w1.heap.size := Nat.lt_of_lt_of_le hplt hk1.size; clear hb1)
  obtain ⟨hst, hkT⟩ := h.grown (gs' := gs ++ grs) hT (by rw [strs_app]; exact hm1) hk1 hat1
  have hsz : (w1.setCell ⟨p, 0, none⟩ (.slice ua un uc)).heap.size = w1.heap.size := by simp
  obtain ⟨hst2, hk2⟩ := hst.made
  rw [hsz, World.setCell_alloc_past _ _ _ _ (by rw [hsz]; exact hz1)] at hst2 hk2
  have hst3 := hst2.wide (T' := fun k => T k ∨ w.heap.size ≤ k) (fun k _ h => h.elim id fun e => .inr (by have := hk1.size; omega))
  have h0rel : LRel T p (.slice ua un uc) w1.heap.size (gs ++ grs) U n s gees w 0 (((w1.setCell ⟨p, 0, none⟩ (.slice ua un uc)).setCell ⟨p, 1, none⟩ (.map (some w1.heap.size))).alloc (.map #[] 0)) := ⟨hkT.then hk2 (fun k hk h => h.elim id fun e => by omega), _, f, by
    have e : n + cntO (U s) (U s) = n := by unfold cntO; split <;> simp_all
    simp only [List.take_zero, foldO, List.foldl_nil, setO_self, e]
    exact hst3⟩
  clear hst3 hst2 hk2 hst hkT hm1 hk1 hat1 hc1 hf1 hd1 h0 h1 f0 f1 hpne h hr hb1 hg1 hz1 hsz hmm
  obtain ⟨b, hb⟩ : ∃ b, w1.heap.size = b := ⟨_, rfl⟩
  rw [hb] at h0rel ⊢
  obtain ⟨w0, hw0⟩ : ∃ w0, (((w1.setCell ⟨p, 0, none⟩ (.slice ua un uc)).setCell ⟨p, 1, none⟩ (.map (some b))).alloc (.map #[] 0)) = w0 := ⟨_, rfl⟩
  rw [hw0] at h0rel ⊢
  clear hw0 hb
  go_loopw [30] (fun i wr => ∃ k : Nat, k ≤ gees.length ∧ i = .int .i64 k ∧ LRel T p (.slice ua un uc) b (gs ++ grs) U n s gees w k wr) (fun i _ => gees.length - (intOf i).toNat)
  case atStart => exact ⟨0, Nat.zero_le _, rfl, h0rel⟩
  case round =>
    clear h0rel
    obtain ⟨k, hk, rfl, hK, F', f', hS⟩ := hrel
    by_cases hlt : k < gees.length
    · obtain ⟨c0, c1, f0, f1⟩ := hS.cells
      obtain ⟨b1, o1, _, hq, hc⟩ := (he.kept hK fun _ a b => a b).1.str hlt
      simp only [Value.slice.injEq] at hq
      obtain ⟨rfl, _, rfl⟩ := hq
      have q := hc k hlt
      have e1 := take_getD gees k ⟨#[]⟩ hlt
      obtain ⟨x, hx⟩ : ∃ x, gees.getD k ⟨#[]⟩ = x := ⟨_, rfl⟩
      rw [hx] at q e1
      have hl := hS.isMap.1.lookup (t := 35) strKey Try.underlying35 (zero22 wr) s false
      obtain ⟨hm, hmF, hs⟩ := hS.us.at s
      rw [if_neg (by decide)] at hl
      rw [setO_same] at hm hs
      obtain ⟨va, vn, vc, hv⟩ := hm.shape
      have hlen : ((foldO (U s) (gees.take k)).getD []).length ≤ 1000000000 := by
        rw [foldO_getD]
        have := grant_len (gees.take k) ((U s).getD [])
        rw [List.length_take] at this
        omega
      rw [hv] at hl hm
      have hct := contains (.slice va vn vc) _ x wr hm.reads hlen
      have g1 : (0 : Int) ≤ (k : Int) := by omega
      have g2 : (k : Int) < (gees.length : Int) := by omega
      clear hc hx
      by_cases hin : x ∈ (foldO (U s) (gees.take k)).getD []
      · have hstep : foldO (U s) (gees.take (k + 1)) = foldO (U s) (gees.take k) := by rw [e1, foldO_snoc]; unfold giveO; rw [if_pos (has_yes hin)]
        have hrel' : LRel T p (.slice ua un uc) b (gs ++ grs) U n s gees w (k + 1) wr := ⟨hK, F', f', by rw [hstep]; exact hS⟩
        rw [has_yes hin] at hct
        clear hstep e1 hin hlen hm hv hS hs hmF
        go_wp2_with fail
        refine hct.mono ?_
        rintro e w2 ⟨rfl, hw⟩
        subst hw
        clear hct hl
        go_wp2
        go_roundw
        case rel => exact ⟨k + 1, by omega, by go_num, hrel'⟩
        case measure => simp [intOf]; omega
      · rw [has_no hin] at hct
        go_wp2_with fail
        refine hct.mono ?_
        rintro e w2 ⟨rfl, hw⟩
        subst hw
        clear hct
        go_wp2
        have hstep : foldO (U s) (gees.take (k + 1)) = some ((foldO (U s) (gees.take k)).getD [] ++ [x]) := by rw [e1, foldO_snoc]; unfold giveO; rw [if_neg (has_ne hin)]
        have hcnt : n + cntO (U s) (foldO (U s) (gees.take k)) + (if (f' s).isSome then 0 else 1) = n + cntO (U s) (some ((foldO (U s) (gees.take k)).getD [] ++ [x])) := by
          rw [hs]
          have := foldO_some (gees.take k) (U s)
          unfold cntO
          cases h1 : (U s).isSome <;> cases h2 : (foldO (U s) (gees.take k)).isSome <;> simp_all
        rename_i Q' K hKK
        have hSd : w2.drew.heap[p]? = some (.cells #[.slice ua un uc, .map (some b)] 47 (0, 0)) := hS.cell
        have hcell : ∀ w' : World, w'.heap[p]? = some (.cells #[.slice ua un uc, .map (some b)] 47 (0, 0)) → w'.cell? ⟨p, 1, none⟩ = some (.map (some b)) := fun w' h => by rw [cell_of_row w' p 1 _ _ _ h]; rfl
        have hmapd : MapIs Value.string w2.drew b f' _ := hS.isMap.1.of_block rfl
        have hmd : Mine (w2.drew.alloc (.cells #[.string x] 9)) (.slice va vn vc) _ := (hm.of_block (w' := w2.drew) fun _ _ => rfl).alloc _
        refine wp_region_held (S := fun w' => w'.heap[p]? = some (.cells #[.slice ua un uc, .map (some b)] 47 (0, 0))) (by kernel_rfl) ?_
        change wpAnyH _ _ _ _ _ 15 (Array.replicate 15 false) _ w2.drew
        refine wpAnyH_take (i := 0) (v := .pointer (some ⟨p, 0, none⟩)) rfl (by kernel_rfl) (by kernel_rfl) (by kernel_rfl) (fun _ _ _ h => h) (.inl ⟨by kernel_rfl, fun w' _ => by kernel_rfl⟩) hSd ?_
        refine wpAnyH_take (i := 1) (v := .pointer (some ⟨p, 0, none⟩)) rfl (by kernel_rfl) (by kernel_rfl) (by kernel_rfl) (fun _ _ _ h => h) (.inl ⟨by kernel_rfl, fun w' _ => by kernel_rfl⟩) hSd ?_
        refine wpAnyH_take (i := 2) (v := .pointer (some ⟨p, 1, none⟩)) rfl (by kernel_rfl) (by kernel_rfl) (by kernel_rfl) (fun _ _ _ h => h) (.inl ⟨by kernel_rfl, fun w' _ => by kernel_rfl⟩) hSd ?_
        refine wpAnyH_take (i := 3) (v := .map (some b)) rfl (by kernel_rfl) (by kernel_rfl) (by kernel_rfl) (fun _ _ _ h => h) (yLoad (by kernel_rfl) 35 (.tmp 45) rfl p 1 (by kernel_rfl) _ hcell _ Try.underlying35 rfl) hSd ?_
        refine wpAnyH_take (i := 4) (v := .string s) rfl (by kernel_rfl) (by kernel_rfl) (by kernel_rfl) (fun _ _ _ h => h) (.inl ⟨by kernel_rfl, fun w' _ => by kernel_rfl⟩) hSd ?_
        refine wpAnyH_take (i := 5) (v := .pointer (some ⟨p, 0, none⟩)) rfl (by kernel_rfl) (by kernel_rfl) (by kernel_rfl) (fun _ _ _ h => h) (.inl ⟨by kernel_rfl, fun w' _ => by kernel_rfl⟩) hSd ?_
        refine wpAnyH_take (i := 6) (v := .pointer (some ⟨p, 0, none⟩)) rfl (by kernel_rfl) (by kernel_rfl) (by kernel_rfl) (fun _ _ _ h => h) (.inl ⟨by kernel_rfl, fun w' _ => by kernel_rfl⟩) hSd ?_
        refine wpAnyH_take (i := 7) (v := .pointer (some ⟨p, 1, none⟩)) rfl (by kernel_rfl) (by kernel_rfl) (by kernel_rfl) (fun _ _ _ h => h) (.inl ⟨by kernel_rfl, fun w' _ => by kernel_rfl⟩) hSd ?_
        refine wpAnyH_take (i := 8) (v := .map (some b)) rfl (by kernel_rfl) (by kernel_rfl) (by kernel_rfl) (fun _ _ _ h => h) (yLoad (by kernel_rfl) 35 (.tmp 50) rfl p 1 (by kernel_rfl) _ hcell _ Try.underlying35 rfl) hSd ?_
        refine wpAnyH_take (i := 9) (v := .string s) rfl (by kernel_rfl) (by kernel_rfl) (by kernel_rfl) (fun _ _ _ h => h) (.inl ⟨by kernel_rfl, fun w' _ => by kernel_rfl⟩) hSd ?_
        refine wpAnyH_take (i := 11) (v := .string x) rfl (by kernel_rfl) (by kernel_rfl) (by kernel_rfl) (fun _ _ _ h => h) (.inl ⟨by kernel_rfl, fun w' _ => by kernel_rfl⟩) hSd ?_
        refine wpAnyH_act (l' := #[true, true, true, true, true, true, true, true, true, true, false, true, false, false, false]) (a' := ⟨#[.pointer (some ⟨p, 0, none⟩), .string s, .slice ra grs.length rc, .slice (some ⟨b1, o1, none⟩) gees.length ec, undef, undef, undef, undef, undef, .string x, .pointer (some ⟨p, 0, none⟩), .pointer (some ⟨p, 0, none⟩), .pointer (some ⟨p, 0, none⟩), .pointer (some ⟨p, 0, none⟩), .slice ga gn gc, .slice ra grs.length rc, .slice ua un uc, .pointer (some ⟨p, 0, none⟩), .pointer (some ⟨p, 0, none⟩), .pointer (some ⟨p, 0, none⟩), .pointer (some ⟨p, 0, none⟩), .pointer (some ⟨p, 1, none⟩), .map none, .bool true, .pointer (some ⟨p, 0, none⟩), .map (some b), .pointer (some ⟨p, 0, none⟩), .pointer (some ⟨p, 1, none⟩), .slice (some ⟨b1, o1, none⟩) gees.length ec, .int .i64 gees.length, .int .i64 k, .bool true, .pointer (some ⟨b1, o1 + k, none⟩), .string x, .pointer (some ⟨p, 0, none⟩), .pointer (some ⟨p, 0, none⟩), .pointer (some ⟨p, 1, none⟩), .map (some b), .string s, .slice va vn vc, .string x, .bool false, .bool true, .pointer (some ⟨p, 0, none⟩), .pointer (some ⟨p, 0, none⟩), .pointer (some ⟨p, 1, none⟩), .map (some b), .string s, .pointer (some ⟨p, 0, none⟩), .pointer (some ⟨p, 0, none⟩), .pointer (some ⟨p, 1, none⟩), .map (some b), .string s, u53, .string x, u55, u56, u57], []⟩) (by kernel_rfl) (by kernel_rfl) ?_
        refine wpAnyH_all (rs := [10, 12]) (by kernel_rfl) (by simp) ?_
        intro i hi
        have hi' : i = 10 ∨ i = 12 := by simpa using hi
        have hplt2 := hS.lt
        rcases hi' with rfl | rfl
        refine .inl (wp_lookup (b := b) (s := s) (.tmp 51) (.tmp 52) rfl (by kernel_rfl) (by kernel_rfl) (.slice va vn vc) (by have := hmapd.lookup (t := 35) strKey Try.underlying35 (zero22 _) s false; rw [if_neg (by decide), hv] at this; exact this) ?_)
        refine ⟨hSd, ?_⟩
        refine wpAnyH_act (l' := #[true, true, true, true, true, true, true, true, true, true, true, true, false, false, false]) (a' := ⟨#[.pointer (some ⟨p, 0, none⟩), .string s, .slice ra grs.length rc, .slice (some ⟨b1, o1, none⟩) gees.length ec, undef, undef, undef, undef, undef, .string x, .pointer (some ⟨p, 0, none⟩), .pointer (some ⟨p, 0, none⟩), .pointer (some ⟨p, 0, none⟩), .pointer (some ⟨p, 0, none⟩), .slice ga gn gc, .slice ra grs.length rc, .slice ua un uc, .pointer (some ⟨p, 0, none⟩), .pointer (some ⟨p, 0, none⟩), .pointer (some ⟨p, 0, none⟩), .pointer (some ⟨p, 0, none⟩), .pointer (some ⟨p, 1, none⟩), .map none, .bool true, .pointer (some ⟨p, 0, none⟩), .map (some b), .pointer (some ⟨p, 0, none⟩), .pointer (some ⟨p, 1, none⟩), .slice (some ⟨b1, o1, none⟩) gees.length ec, .int .i64 gees.length, .int .i64 k, .bool true, .pointer (some ⟨b1, o1 + k, none⟩), .string x, .pointer (some ⟨p, 0, none⟩), .pointer (some ⟨p, 0, none⟩), .pointer (some ⟨p, 1, none⟩), .map (some b), .string s, .slice va vn vc, .string x, .bool false, .bool true, .pointer (some ⟨p, 0, none⟩), .pointer (some ⟨p, 0, none⟩), .pointer (some ⟨p, 1, none⟩), .map (some b), .string s, .pointer (some ⟨p, 0, none⟩), .pointer (some ⟨p, 0, none⟩), .pointer (some ⟨p, 1, none⟩), .map (some b), .string s, .slice va vn vc, .string x, u55, u56, u57], []⟩) (by kernel_rfl) (by kernel_rfl) ?_
        refine wpAnyH_all (rs := [12]) (by kernel_rfl) (by simp) ?_
        intro i hi
        obtain rfl : i = 12 := by simpa using hi
        refine .inl (wp_one (s := x) (.tmp 54) rfl (by kernel_rfl) ?_)
        rotate_left
        refine .inl (wp_one (s := x) (.tmp 54) rfl (by kernel_rfl) ?_)
        refine ⟨(Below.heap_alloc w2.drew _ p hplt2).trans hSd, ?_⟩
        refine wpAnyH_act (l' := #[true, true, true, true, true, true, true, true, true, true, false, true, true, false, false]) (a' := ⟨#[.pointer (some ⟨p, 0, none⟩), .string s, .slice ra grs.length rc, .slice (some ⟨b1, o1, none⟩) gees.length ec, undef, undef, undef, undef, undef, .string x, .pointer (some ⟨p, 0, none⟩), .pointer (some ⟨p, 0, none⟩), .pointer (some ⟨p, 0, none⟩), .pointer (some ⟨p, 0, none⟩), .slice ga gn gc, .slice ra grs.length rc, .slice ua un uc, .pointer (some ⟨p, 0, none⟩), .pointer (some ⟨p, 0, none⟩), .pointer (some ⟨p, 0, none⟩), .pointer (some ⟨p, 0, none⟩), .pointer (some ⟨p, 1, none⟩), .map none, .bool true, .pointer (some ⟨p, 0, none⟩), .map (some b), .pointer (some ⟨p, 0, none⟩), .pointer (some ⟨p, 1, none⟩), .slice (some ⟨b1, o1, none⟩) gees.length ec, .int .i64 gees.length, .int .i64 k, .bool true, .pointer (some ⟨b1, o1 + k, none⟩), .string x, .pointer (some ⟨p, 0, none⟩), .pointer (some ⟨p, 0, none⟩), .pointer (some ⟨p, 1, none⟩), .map (some b), .string s, .slice va vn vc, .string x, .bool false, .bool true, .pointer (some ⟨p, 0, none⟩), .pointer (some ⟨p, 0, none⟩), .pointer (some ⟨p, 1, none⟩), .map (some b), .string s, .pointer (some ⟨p, 0, none⟩), .pointer (some ⟨p, 0, none⟩), .pointer (some ⟨p, 1, none⟩), .map (some b), .string s, u53, .string x, .slice (some ⟨w2.heap.size, 0, none⟩) 1 1, u56, u57], []⟩) (by kernel_rfl) (by kernel_rfl) ?_
        refine wpAnyH_all (rs := [10]) (by kernel_rfl) (by simp) ?_
        intro i hi
        obtain rfl : i = 10 := by simpa using hi
        refine .inl (wp_lookup (b := b) (s := s) (.tmp 51) (.tmp 52) rfl (by kernel_rfl) (by kernel_rfl) (.slice va vn vc) (by have := (hmapd.of_block (Below.heap_alloc w2.drew (.cells #[.string x] 9) b hmapd.lt)).lookup (t := 35) strKey Try.underlying35 (zero22 _) s false; rw [if_neg (by decide), hv] at this; exact this) ?_)
        all_goals
          refine ⟨(Below.heap_alloc w2.drew _ p hplt2).trans hSd, ?_⟩
          refine wpAnyH_act (l' := #[true, true, true, true, true, true, true, true, true, true, true, true, true, false, false]) (a' := ⟨#[.pointer (some ⟨p, 0, none⟩), .string s, .slice ra grs.length rc, .slice (some ⟨b1, o1, none⟩) gees.length ec, undef, undef, undef, undef, undef, .string x, .pointer (some ⟨p, 0, none⟩), .pointer (some ⟨p, 0, none⟩), .pointer (some ⟨p, 0, none⟩), .pointer (some ⟨p, 0, none⟩), .slice ga gn gc, .slice ra grs.length rc, .slice ua un uc, .pointer (some ⟨p, 0, none⟩), .pointer (some ⟨p, 0, none⟩), .pointer (some ⟨p, 0, none⟩), .pointer (some ⟨p, 0, none⟩), .pointer (some ⟨p, 1, none⟩), .map none, .bool true, .pointer (some ⟨p, 0, none⟩), .map (some b), .pointer (some ⟨p, 0, none⟩), .pointer (some ⟨p, 1, none⟩), .slice (some ⟨b1, o1, none⟩) gees.length ec, .int .i64 gees.length, .int .i64 k, .bool true, .pointer (some ⟨b1, o1 + k, none⟩), .string x, .pointer (some ⟨p, 0, none⟩), .pointer (some ⟨p, 0, none⟩), .pointer (some ⟨p, 1, none⟩), .map (some b), .string s, .slice va vn vc, .string x, .bool false, .bool true, .pointer (some ⟨p, 0, none⟩), .pointer (some ⟨p, 0, none⟩), .pointer (some ⟨p, 1, none⟩), .map (some b), .string s, .pointer (some ⟨p, 0, none⟩), .pointer (some ⟨p, 0, none⟩), .pointer (some ⟨p, 1, none⟩), .map (some b), .string s, .slice va vn vc, .string x, .slice (some ⟨w2.heap.size, 0, none⟩) 1 1, u56, u57], []⟩) (by kernel_rfl) (by kernel_rfl) ?_
          refine wpAnyH_all (rs := [13]) (by kernel_rfl) (by simp) ?_
          intro i hi
          obtain rfl : i = 13 := by simpa using hi
          refine .inl (wp_append (.tmp 53) (.tmp 55) rfl (.slice va vn vc) _ (by kernel_rfl) hmd (.slice (some ⟨w2.heap.size, 0, none⟩) 1 1) [x] (by kernel_rfl) (reads_one _ _ _) (by simp; omega) ?_)
          intro v' w3 hm3 hk3 hat3
          have hk23 : Kept (fun k => some k = ((f' s).getD (.slice none 0 0)).ownBlock) w2 w3 := by
            rw [hv]
            exact ((Kept.refl _ w2).drew.alloc _).trans hk3
          have hnp : ((f' s).getD (.slice none 0 0)).ownBlock ≠ some p := fun e => hS.pF (hmF p e)
          have hp3 := (hk23.block p hplt2 (fun e => hnp e.symm)).trans hS.cell
          refine ⟨hp3, ?_⟩
          obtain ⟨va', vn', vc', rfl⟩ := hm3.shape
          refine wpAnyH_act (l' := #[true, true, true, true, true, true, true, true, true, true, true, true, true, true, false]) (a' := ⟨#[.pointer (some ⟨p, 0, none⟩), .string s, .slice ra grs.length rc, .slice (some ⟨b1, o1, none⟩) gees.length ec, undef, undef, undef, undef, undef, .string x, .pointer (some ⟨p, 0, none⟩), .pointer (some ⟨p, 0, none⟩), .pointer (some ⟨p, 0, none⟩), .pointer (some ⟨p, 0, none⟩), .slice ga gn gc, .slice ra grs.length rc, .slice ua un uc, .pointer (some ⟨p, 0, none⟩), .pointer (some ⟨p, 0, none⟩), .pointer (some ⟨p, 0, none⟩), .pointer (some ⟨p, 0, none⟩), .pointer (some ⟨p, 1, none⟩), .map none, .bool true, .pointer (some ⟨p, 0, none⟩), .map (some b), .pointer (some ⟨p, 0, none⟩), .pointer (some ⟨p, 1, none⟩), .slice (some ⟨b1, o1, none⟩) gees.length ec, .int .i64 gees.length, .int .i64 k, .bool true, .pointer (some ⟨b1, o1 + k, none⟩), .string x, .pointer (some ⟨p, 0, none⟩), .pointer (some ⟨p, 0, none⟩), .pointer (some ⟨p, 1, none⟩), .map (some b), .string s, .slice va vn vc, .string x, .bool false, .bool true, .pointer (some ⟨p, 0, none⟩), .pointer (some ⟨p, 0, none⟩), .pointer (some ⟨p, 1, none⟩), .map (some b), .string s, .pointer (some ⟨p, 0, none⟩), .pointer (some ⟨p, 0, none⟩), .pointer (some ⟨p, 1, none⟩), .map (some b), .string s, .slice va vn vc, .string x, .slice (some ⟨w2.heap.size, 0, none⟩) 1 1, .slice va' vn' vc', u57], []⟩) (by kernel_rfl) (by kernel_rfl) ?_
          refine wpAnyH_all (rs := [14]) (by kernel_rfl) (by simp) ?_
          intro i hi
          obtain rfl : i = 14 := by simpa using hi
          have hmap3 : MapIs Value.string w3 b f' _ := hS.isMap.1.of_block (hk23.block b hS.isMap.1.lt (fun e => by
            obtain ⟨es, clk, hbm, _⟩ := hS.isMap.1
            rw [hv] at e
            exact hm.ne_map e.symm hbm rfl))
          obtain ⟨w4, hrun, hmap4, hk4, _⟩ := hmap3.update (t := 35) strKey Try.underlying35 s (.slice va' vn' vc')
          refine .inl (wp_update (b := b) (s := s) (.tmp 46) (.tmp 47) (.tmp 56) rfl (by kernel_rfl) (by kernel_rfl) (by kernel_rfl) hrun ?_)
          have hput := hS.put (l := (foldO (U s) (gees.take k)).getD [] ++ [x]) (fun k => (by
            by_cases e : k < w2.heap.size
            · exact .inl e
            · exact .inr (.inr (by have := hK.size; omega)))) hm3 hk23 (fun g hg => by
              rw [hv]
              rcases hat3 with e | e
              · exact .inl (e ▸ hg)
              · rw [e] at hg; cases hg; exact .inr (by rw [World.size_alloc]; exact Nat.le_succ _)) hmap4 hk4
          rw [upd_setO, hcnt, ← hstep] at hput
          obtain ⟨hS4, hk24⟩ := hput
          have hrel' : LRel T p (.slice ua un uc) b (gs ++ grs) U n s gees w (k + 1) w4 := ⟨hK.then hk24 (fun k hk hF => (hS.sub k hF).elim id fun e => by omega), _, _, hS4⟩
          refine ⟨hS4.cell, ?_⟩
          refine wpAnyH_act (l' := #[true, true, true, true, true, true, true, true, true, true, true, true, true, true, true]) (a' := ⟨#[.pointer (some ⟨p, 0, none⟩), .string s, .slice ra grs.length rc, .slice (some ⟨b1, o1, none⟩) gees.length ec, undef, undef, undef, undef, undef, .string x, .pointer (some ⟨p, 0, none⟩), .pointer (some ⟨p, 0, none⟩), .pointer (some ⟨p, 0, none⟩), .pointer (some ⟨p, 0, none⟩), .slice ga gn gc, .slice ra grs.length rc, .slice ua un uc, .pointer (some ⟨p, 0, none⟩), .pointer (some ⟨p, 0, none⟩), .pointer (some ⟨p, 0, none⟩), .pointer (some ⟨p, 0, none⟩), .pointer (some ⟨p, 1, none⟩), .map none, .bool true, .pointer (some ⟨p, 0, none⟩), .map (some b), .pointer (some ⟨p, 0, none⟩), .pointer (some ⟨p, 1, none⟩), .slice (some ⟨b1, o1, none⟩) gees.length ec, .int .i64 gees.length, .int .i64 k, .bool true, .pointer (some ⟨b1, o1 + k, none⟩), .string x, .pointer (some ⟨p, 0, none⟩), .pointer (some ⟨p, 0, none⟩), .pointer (some ⟨p, 1, none⟩), .map (some b), .string s, .slice va vn vc, .string x, .bool false, .bool true, .pointer (some ⟨p, 0, none⟩), .pointer (some ⟨p, 0, none⟩), .pointer (some ⟨p, 1, none⟩), .map (some b), .string s, .pointer (some ⟨p, 0, none⟩), .pointer (some ⟨p, 0, none⟩), .pointer (some ⟨p, 1, none⟩), .map (some b), .string s, .slice va vn vc, .string x, .slice (some ⟨w2.heap.size, 0, none⟩) 1 1, .slice va' vn' vc', u57], []⟩) (by kernel_rfl) (by kernel_rfl) ?_
          refine wpAnyH_done (by kernel_rfl) ?_ _
          refine hKK _ _ ?_
          clear hS4 hk24 hmap4 hmap3 hrun hk4 hm3 hk3 hat3 hk23 hp3 hnp hS hm hmd hmapd hSd hcell hstep hcnt hl c0 c1 f0 f1 q e1 hin hmF hs hv hlen
          go_wp2
          go_roundw
          case rel => exact ⟨k + 1, by omega, by go_num, hrel'⟩
          case measure => simp [intOf]; omega
    · obtain rfl : k = gees.length := by omega
      rw [List.take_length] at hS
      go_wp2
      go_end0
      exact ⟨rfl, hK, _, _, _, _, hS.wide fun k hk h => h.imp id fun e => ⟨e, hk⟩⟩

end Go.Proofs.Qxb6619367a
