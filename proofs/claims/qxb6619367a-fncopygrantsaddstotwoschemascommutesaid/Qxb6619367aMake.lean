/- ZZAdd; a copyGrants built (seat b6619367a). -/
import Derived.Test.Qxb6619367aAdd
namespace Go.Proofs.Qxb6619367a
open Go.RowKit

/-- Block p is a copyGrants, in blocks of the class T. -/
def Grants (w : World) (T : Nat → Prop) (p : Nat) (gs : List ByteArray) (U : ByteArray → Option (List ByteArray)) (n : Nat) : Prop := ∃ F gv mv f, St w T F p gv mv gs f U n

theorem Grants.kept {S T : Nat → Prop} {w w' : World} {p n : Nat} {gs : List ByteArray} {U : ByteArray → Option (List ByteArray)} (h : Grants w T p gs U n) (hk : Kept S w w') (hS : ∀ k, T k → ¬ S k) : Grants w' T p gs U n := by
  obtain ⟨F, gv, mv, f, h⟩ := h
  exact ⟨F, gv, mv, f, h.kept hk hS⟩

/-- (17) add -/
theorem add (T : Nat → Prop) (p : Nat) (gs grs gees : List ByteArray) (U : ByteArray → Option (List ByteArray)) (n : Nat) (s : ByteArray) (grv gev : Value) (w : World)
    (h : Grants w T p gs U n) (hT : ∀ k, T k → k < w.heap.size) (hr : RAt (fun k => ¬ T k) w grv grs) (he : RAt (fun k => ¬ T k) w gev gees)
    (hb1 : gs.length + grs.length ≤ 1000000000) (hb2 : ((U s).getD []).length + gees.length ≤ 1000000000) :
    Calls Try.prog 17 #[.pointer (some ⟨p, 0, none⟩), .string s, grv, gev] w (APost T p (gs ++ grs) (setO U s (foldO (U s) gees)) (n + cntO (U s) (foldO (U s) gees)) w) := by
  obtain ⟨F, gv, mv, f, h⟩ := h
  rcases h.us.map with ⟨rfl, _⟩ | ⟨b, rfl, _⟩
  · exact add_nil T F p gs grs gees f U n s gv grv gev w h hT hr he hb1 hb2
  · exact add_some T F p b gs grs gees f U n s gv grv gev w h hT hr he hb1 hb2

/-- (10) ZZAdd -/
theorem zzAdd (T : Nat → Prop) (p : Nat) (gs grs gees : List ByteArray) (U : ByteArray → Option (List ByteArray)) (n : Nat) (s : ByteArray) (grv gev : Value) (w : World)
    (h : Grants w T p gs U n) (hT : ∀ k, T k → k < w.heap.size) (hr : RAt (fun k => ¬ T k) w grv grs) (he : RAt (fun k => ¬ T k) w gev gees)
    (hb1 : gs.length + grs.length ≤ 1000000000) (hb2 : ((U s).getD []).length + gees.length ≤ 1000000000) :
    Calls Try.prog 10 #[.pointer (some ⟨p, 0, none⟩), .string s, grv, gev] w (APost T p (gs ++ grs) (setO U s (foldO (U s) gees)) (n + cntO (U s) (foldO (U s) gees)) w) := by
  have hc := add T p gs grs gees U n s grv gev w h hT hr he hb1 hb2
  obtain ⟨ra, rc, rfl⟩ := hr.form
  obtain ⟨ea, ec, rfl⟩ := he.form
  clear h hr he
  go_enter Try.func10, Try.ntmps10
  go_wp2_with fail
  refine hc.mono ?_
  rintro e w' ⟨rfl, h⟩
  go_wp2
  go_end0
  exact ⟨rfl, h⟩

/-- (16) ZZNewCopyGrants -/
theorem newGrants (a : Option Addr) (n c : Nat) (m : Option Nat) (w : World) :
    Calls Try.prog 16 #[.slice a n c, .map m] w fun e w' => e = .returned (.pointer (some ⟨w.heap.size, 0, none⟩)) ∧ w' = w.alloc (.cells #[.slice a n c, .map m] 47) := by
  go_enter Try.func16, Try.ntmps16
  go_wp2
  go_ret
  exact ⟨rfl, rfl⟩

theorem run_idx22 (o : Oper) (a : Act) (x y : Operand) (ho : o.op = .indexAddr 22 x y) (b off n c k : Nat) (hx : a.eval x = .slice (some ⟨b, off, none⟩) n c) (hy : a.eval y = .int .i64 k) (h1 : k < n) (w : World) :
    (execOp a.eval o).run Try.prog w = .ok (.value (.pointer (some ⟨b, off + k, none⟩))) w := by
  have h0 : (0 : Int) ≤ (k : Int) := by omega
  have h3 : (k : Int) < (n : Int) := by omega
  have hu := Try.underlying22
  unfold execOp
  simp only [ho, hx, hy]
  go_simp
theorem run_idx23 (o : Oper) (a : Act) (x y : Operand) (ho : o.op = .indexAddr 23 x y) (b off n c k : Nat) (hx : a.eval x = .slice (some ⟨b, off, none⟩) n c) (hy : a.eval y = .int .i64 k) (h1 : k < n) (w : World) :
    (execOp a.eval o).run Try.prog w = .ok (.value (.pointer (some ⟨b, off + k, none⟩))) w := by
  have h0 : (0 : Int) ≤ (k : Int) := by omega
  have h3 : (k : Int) < (n : Int) := by omega
  have hu := Try.underlying23
  unfold execOp
  simp only [ho, hx, hy]
  go_simp

theorem look_snoc : ∀ (ks : List ByteArray) (vs : List (List ByteArray)) (k : ByteArray) (v : List ByteArray) (s : ByteArray), ks.length = vs.length →
    look (ks ++ [k]) (vs ++ [v]) s = match look ks vs s with | some l => some l | none => if k = s then some v else none
  | [], [], k, v, s, _ => by simp [look]
  | [], _ :: _, _, _, _, h => by simp at h
  | _ :: _, [], _, _, _, h => by simp at h
  | k0 :: ks, v0 :: vs, k, v, s, h => by
    have := look_snoc ks vs k v s (by simpa using h)
    simp only [List.cons_append, look]
    split
    · rfl
    · exact this

theorem look_take {ks : List ByteArray} {vs : List (List ByteArray)} (hl : ks.length = vs.length) (hn : ks.Nodup) {k : Nat} (hk : k < ks.length) :
    look (ks.take k) (vs.take k) (ks.getD k ⟨#[]⟩) = none ∧ upd (look (ks.take k) (vs.take k)) (ks.getD k ⟨#[]⟩) (vs.getD k []) = look (ks.take (k + 1)) (vs.take (k + 1)) := by
  have hno : ks.getD k ⟨#[]⟩ ∉ ks.take k := by
    intro hm
    obtain ⟨j, hj, he⟩ := List.getElem_of_mem hm
    rw [List.length_take] at hj
    rw [List.getElem_take] at he
    have : ks.getD k ⟨#[]⟩ = ks[k] := by simp [hk]
    rw [this] at he
    have hp := List.pairwise_iff_getElem.1 hn j k (by omega) hk (by omega)
    exact hp he
  have h1 := look_none (ks.take k) (vs.take k) _ hno
  refine ⟨h1, ?_⟩
  rw [take_getD ks k ⟨#[]⟩ hk, take_getD vs k [] (by omega)]
  funext s
  rw [look_snoc _ _ _ _ _ (by simp; omega)]
  unfold upd
  split
  · rename_i e
    subst e
    rw [h1]
    simp
  · rename_i e
    cases hq : look (ks.take k) (vs.take k) s with
    | some l => rfl
    | none => rw [if_neg (Ne.symm e)]

theorem wp_call {P : Program} {o : Oper} {a : Act} {w : World} {K : Act → World → Prop} {Q : Exit → Act → World → Prop} (f : FuncId) (xs : Array Operand) (ats : Array TypeId) (ho : o.op = .call { callee := .value (.func f), args := xs, argTypes := ats })
    (args : Array Value) (hx : xs.map a.eval = args) (hf : (callFunc f args).run P w = .ok (.enter f args) w) {R : Ending → World → Prop} (hc : Calls P f args w R)
    (h : ∀ e w', R e w' → ∃ v, e = .returned v ∧ K (a.put o.dst v) w') : o.wp P a w K Q := by
  have hr : (execOp a.eval o).run P w = .ok (.enter f args) w := by
    have e1 : execOp a.eval o = callFunc f (#[] ++ xs.map a.eval ++ #[]) := by
      cases o; simp only at ho; subst ho; rfl
    rw [e1, hx]
    simpa using hf
  unfold Oper.wp
  rw [hr]
  exact hc.mono fun e w' hR => by
    obtain ⟨v, rfl, hK⟩ := h e w' hR
    exact hK

theorem enter15 (args : Array Value) (w : World) : (callFunc 15 args).run Try.prog w = .ok (.enter 15 args) w := by kernel_rfl

def MPost (gs : List ByteArray) (U : ByteArray → Option (List ByteArray)) (n : Nat) (w : World) (e : Ending) (w' : World) : Prop :=
  Below w.heap.size w w' ∧ ∃ p, e = .returned (.pointer (some ⟨p, 0, none⟩)) ∧ Grants w' (fun k => w.heap.size ≤ k ∧ k < w'.heap.size) p gs U n

/-- The loop's relation. -/
def MRel (b : Nat) (ks : List ByteArray) (vs : List (List ByteArray)) (w : World) (k : Nat) (wr : World) : Prop :=
  Below w.heap.size w wr ∧ ∃ f, Us wr (fun k => w.heap.size ≤ k) (.map (some b)) f (look (ks.take k) (vs.take k)) k

theorem Us.isMap {w : World} {F : Nat → Prop} {f : ByteArray → Option Value} {U : ByteArray → Option (List ByteArray)} {n b : Nat} (h : Us w F (.map (some b)) f U n) : MapIs Value.string w b f n ∧ F b := by
  rcases h.map with ⟨h1, _⟩ | ⟨b', h1, h2, h3⟩
  · cases h1
  · cases h1; exact ⟨h3, h2⟩

/-- The struct is laid, behind the grants' clone. -/
theorem made_grants {w w1 w2 : World} {gv mv : Value} {gs : List ByteArray} {f : ByteArray → Option Value} {U : ByteArray → Option (List ByteArray)} {n : Nat} (hb1 : Below w.heap.size w w1) (hu : Us w1 (fun k => w.heap.size ≤ k) mv f U n) (hb2 : Below w1.heap.size w1 w2)
    (hm : Mine w2 gv (strs gs)) (hg : ∀ g, gv.ownBlock = some g → w1.heap.size ≤ g) :
    Below w.heap.size w (w2.alloc (.cells #[gv, mv] 47)) ∧ Grants (w2.alloc (.cells #[gv, mv] 47)) (fun k => w.heap.size ≤ k ∧ k < (w2.alloc (.cells #[gv, mv] 47)).heap.size) w2.heap.size gs U n := by
  have hs1 := hb1.size
  have hs2 := hb2.size
  have hk2 : Kept (fun k => w1.heap.size ≤ k) w1 w2 := Kept.of_below hb2
  have hu2 : Us w1 (fun k => w.heap.size ≤ k ∧ k < w1.heap.size) mv f U n := hu.mono fun k hk h => ⟨h, hk⟩
  have hu3 := (hu2.kept hk2 (fun k h => by omega)).kept (w' := w2.alloc (.cells #[gv, mv] 47)) (S := fun _ => False) ((Kept.refl _ _).alloc _) (fun _ _ h => h)
  refine ⟨⟨hb2.os.trans hb1.os, hb2.tape.trans hb1.tape, hb2.output.trans hb1.output, by simp; omega, fun k hk => (Below.heap_alloc w2 _ k (by omega)).trans ((hb2.block k (by omega)).trans (hb1.block k hk))⟩, _, gv, mv, f, heap_alloc_new w2 _, ⟨by omega, by simp⟩, by omega, hm.alloc _, fun g hg' => ?_, hu3, fun k hk => ⟨hk.1, by simp; omega⟩⟩
  have h1 := hg g hg'
  have h2 := hm.lt g hg'
  exact ⟨⟨by omega, by simp; omega⟩, by omega, by omega⟩

theorem run_neq_nil (w : World) (a : Option Addr) (n c : Nat) : (binOp .neq 22 (.slice a n c) (.slice none 0 0)).run Try.prog w = .ok (.bool (!a.isNone)) w := by
  simp only [binOp]
  simp [Op.equal, Op.maxDepth, Lib.run_equalIn_slice_nil w 9999 22 9 a n c 0 0 Try.underlying22]

set_option maxHeartbeats 1000000 in
/-- (9) makeGrantsZZ -/
theorem makeGrants (gv kv vv : Value) (gs ks : List ByteArray) (vs : List (List ByteArray)) (w : World) (hg : Reads w gv (strs gs)) (hk : Reads w kv (strs ks)) (hv : VAt (fun k => k < w.heap.size) w vv vs)
    (hl : ks.length = vs.length) (hn : ks.Nodup) (hb1 : gs.length ≤ 1000000000) (hb2 : ks.length ≤ 1000000000) (hb3 : ∀ i, i < vs.length → (vs.getD i []).length ≤ 1000000000) :
    Calls Try.prog 9 #[gv, kv, vv] w (MPost gs (look ks vs) ks.length w) := by
  obtain ⟨ga, gc, hge⟩ := hg.form
  obtain ⟨va, vc, hve⟩ := hv.form
  rw [strs_len] at hge
  have hnl := run_neq_nil
  have hmm := @run_makeMap Try.prog
  subst hge hve
  rcases hk with ⟨rfl, hke⟩ | ⟨x, c, rfl, hkc, hx⟩
  · have : ks = [] := by simpa [strs] using hke
    subst this
    have hcl := cloneStrs (.slice ga gs.length gc) gs w hg hb1
    go_enter Try.func9, Try.ntmps9
    go_wp2_with fail
    refine hcl.mono ?_
    rintro e w1 ⟨hb, u, rfl, hm, hnew⟩
    obtain ⟨ua, un, uc, rfl⟩ := hm.shape
    go_wp2_with fail
    refine (newGrants ua un uc none w1).mono ?_
    rintro e w2 ⟨rfl, rfl⟩
    go_wp2
    go_ret
    have hu : Us w (fun k => w.heap.size ≤ k) (.map none) (fun _ => none) (look [] vs) 0 := ⟨.inl ⟨rfl, rfl, fun _ => rfl⟩, fun _ _ h => (by cases h), fun _ _ => rfl, fun _ _ _ _ _ h => (by cases h)⟩
    obtain ⟨h1, h2⟩ := made_grants (Below.refl _ _) hu hb hm hnew
    exact ⟨h1, _, rfl, h2⟩
  · have hk : Reads w (.slice (some x) ks.length c) (strs ks) := by rw [← strs_len ks]; exact .inr ⟨x, c, rfl, hkc, hx⟩
    rw [strs_len]
    clear hkc hx
    have hu0 : MRel w.heap.size ks vs w 0 (w.alloc (.map #[] 0)) := ⟨(Below.refl _ _).alloc (Nat.le_refl _) _, fun _ => none, .inr ⟨w.heap.size, rfl, Nat.le_refl _, MapIs.made w _⟩, fun _ _ h => (by cases h), fun _ _ => (by simp [look]), fun _ _ _ _ _ h => (by cases h)⟩
    go_enter Try.func9, Try.ntmps9
    go_wp2
    go_loopw [8] (fun i wr => ∃ k : Nat, k ≤ ks.length ∧ i = .int .i64 k ∧ MRel w.heap.size ks vs w k wr) (fun i _ => ks.length - (intOf i).toNat)
    case atStart => exact ⟨0, Nat.zero_le _, rfl, hu0⟩
    case round =>
      clear hu0
      obtain ⟨k, hk', rfl, hB, f, hU⟩ := hrel
      by_cases hlt : k < ks.length
      · obtain ⟨b1, o1, _, hq, hc⟩ := hk.str hlt
        simp only [Value.slice.injEq, Option.some.injEq] at hq
        obtain ⟨rfl, _, rfl⟩ := hq
        obtain ⟨b2, o2, _, hq2, hc2⟩ := hv.get (j := k) (by omega)
        simp only [Value.slice.injEq] at hq2
        obtain ⟨rfl, _, rfl⟩ := hq2
        have q0 := hc k hlt
        obtain ⟨a3, c3, q3, hr3⟩ := hc2 k (by omega)
        have hl1 : b1 < w.heap.size := World.block_lt_of_cell? _ _ q0
        have hl2 : b2 < w.heap.size := World.block_lt_of_cell? _ _ q3
        have q := (hB.cell (p := ⟨b1, o1 + k, none⟩) hl1).trans q0
        have q2 := (hB.cell (p := ⟨b2, o2 + k, none⟩) hl2).trans q3
        obtain ⟨hlk, hup⟩ := look_take hl hn hlt
        have hb4 := hb3 k (by omega)
        obtain ⟨y, hy⟩ : ∃ y, ks.getD k ⟨#[]⟩ = y := ⟨_, rfl⟩
        obtain ⟨l, hll⟩ : ∃ l, vs.getD k [] = l := ⟨_, rfl⟩
        rw [hy] at q hlk hup
        rw [hll] at q2 q3 hr3 hup hb4
        clear hc hc2 hy hll q0 q3
        have hltv : k < vs.length := by omega
        have HL : Hid (ks.length = vs.length) := hl
        clear hl
        go_wp2
        rename_i Q' K hKK
        have hSd : wr.drew.cell? ⟨b1, o1 + k, none⟩ = some (.string y) ∧ wr.drew.cell? ⟨b2, o2 + k, none⟩ = some (.slice a3 l.length c3) := ⟨q, q2⟩
        refine wp_region_held (S := fun w' => w'.cell? ⟨b1, o1 + k, none⟩ = some (.string y) ∧ w'.cell? ⟨b2, o2 + k, none⟩ = some (.slice a3 l.length c3)) (by kernel_rfl) ?_
        change wpAnyH _ _ _ _ _ 11 (Array.replicate 11 false) _ wr.drew
        refine wpAnyH_take (i := 0) (v := .map (some w.heap.size)) rfl (by kernel_rfl) (by kernel_rfl) (by kernel_rfl) (fun _ _ _ h => h) (.inl ⟨by kernel_rfl, fun w' _ => by kernel_rfl⟩) hSd ?_
        refine wpAnyH_take (i := 1) (v := .slice (some ⟨b1, o1, none⟩) ks.length c) rfl (by kernel_rfl) (by kernel_rfl) (by kernel_rfl) (fun _ _ _ h => h) (.inl ⟨by kernel_rfl, fun w' _ => by kernel_rfl⟩) hSd ?_
        refine wpAnyH_take (i := 2) (v := .int .i64 k) rfl (by kernel_rfl) (by kernel_rfl) (by kernel_rfl) (fun _ _ _ h => h) (.inl ⟨by kernel_rfl, fun w' _ => by kernel_rfl⟩) hSd ?_
        refine wpAnyH_take (i := 3) (v := .pointer (some ⟨b1, o1 + k, none⟩)) rfl (by kernel_rfl) (by kernel_rfl) (by kernel_rfl) (fun _ _ _ h => h) (.inl ⟨by kernel_rfl, fun w' _ => run_idx22 _ _ (.tmp 19) (.tmp 20) rfl b1 o1 ks.length c k (by kernel_rfl) (by kernel_rfl) hlt w'⟩) hSd ?_
        refine wpAnyH_take (i := 4) (v := .string y) rfl (by kernel_rfl) (by kernel_rfl) (by kernel_rfl) (fun _ _ _ h => h) (yLoad (by kernel_rfl) 9 (.tmp 21) rfl b1 (o1 + k) (by kernel_rfl) _ (fun _ h => h.1) _ Try.underlying9 rfl) hSd ?_
        refine wpAnyH_take (i := 5) (v := .slice (some ⟨b2, o2, none⟩) vs.length vc) rfl (by kernel_rfl) (by kernel_rfl) (by kernel_rfl) (fun _ _ _ h => h) (.inl ⟨by kernel_rfl, fun w' _ => by kernel_rfl⟩) hSd ?_
        refine wpAnyH_take (i := 6) (v := .int .i64 k) rfl (by kernel_rfl) (by kernel_rfl) (by kernel_rfl) (fun _ _ _ h => h) (.inl ⟨by kernel_rfl, fun w' _ => by kernel_rfl⟩) hSd ?_
        refine wpAnyH_take (i := 7) (v := .pointer (some ⟨b2, o2 + k, none⟩)) rfl (by kernel_rfl) (by kernel_rfl) (by kernel_rfl) (fun _ _ _ h => h) (.inl ⟨by kernel_rfl, fun w' _ => run_idx23 _ _ (.tmp 23) (.tmp 24) rfl b2 o2 vs.length vc k (by kernel_rfl) (by kernel_rfl) hltv w'⟩) hSd ?_
        refine wpAnyH_take (i := 8) (v := .slice a3 l.length c3) rfl (by kernel_rfl) (by kernel_rfl) (by kernel_rfl) (fun _ _ _ h => h) (yLoad (by kernel_rfl) 22 (.tmp 25) rfl b2 (o2 + k) (by kernel_rfl) _ (fun _ h => h.2) _ Try.underlying22 rfl) hSd ?_
        refine wpAnyH_act (l' := #[true, true, true, true, true, true, true, true, true, false, false]) (a' := ⟨#[.slice ga gs.length gc, .slice (some ⟨b1, o1, none⟩) ks.length c, .slice (some ⟨b2, o2, none⟩) vs.length vc, undef, undef, undef, .pointer none, .map (some w.heap.size), .int .i64 k, .slice (some ⟨b1, o1, none⟩) ks.length c, .bool true, .map (some w.heap.size), .int .i64 k, .slice (some ⟨b1, o1, none⟩) ks.length c, .int .i64 ks.length, .bool true, u16, u17, .map (some w.heap.size), .slice (some ⟨b1, o1, none⟩) ks.length c, .int .i64 k, .pointer (some ⟨b1, o1 + k, none⟩), .string y, .slice (some ⟨b2, o2, none⟩) vs.length vc, .int .i64 k, .pointer (some ⟨b2, o2 + k, none⟩), .slice a3 l.length c3, u27, undef, undef, undef, undef], []⟩) (by kernel_rfl) (by kernel_rfl) ?_
        refine wpAnyH_all (rs := [9]) (by kernel_rfl) (by simp) ?_
        intro i hi
        obtain rfl : i = 9 := by simpa using hi
        have hcl := cloneStrs (.slice a3 l.length c3) l wr.drew (hr3.1.below (w' := wr.drew) ⟨hB.os, hB.tape, hB.output, hB.size, hB.block⟩) hb4
        refine .inl (wp_call 15 #[.tmp 26] #[22] rfl #[.slice a3 l.length c3] (by kernel_rfl) (enter15 _ _) hcl ?_)
        rintro e w1 ⟨hb1', u, rfl, hm1, hnew⟩
        have hsz : wr.drew.heap.size = wr.heap.size := rfl
        have hBs := hB.size
        refine ⟨u, rfl, ⟨(hb1'.cell (p := ⟨b1, o1 + k, none⟩) (by show b1 < _; omega)).trans q, (hb1'.cell (p := ⟨b2, o2 + k, none⟩) (by show b2 < _; omega)).trans q2⟩, ?_⟩
        obtain ⟨ua, un, uc, rfl⟩ := hm1.shape
        refine wpAnyH_act (l' := #[true, true, true, true, true, true, true, true, true, true, false]) (a' := ⟨#[.slice ga gs.length gc, .slice (some ⟨b1, o1, none⟩) ks.length c, .slice (some ⟨b2, o2, none⟩) vs.length vc, undef, undef, undef, .pointer none, .map (some w.heap.size), .int .i64 k, .slice (some ⟨b1, o1, none⟩) ks.length c, .bool true, .map (some w.heap.size), .int .i64 k, .slice (some ⟨b1, o1, none⟩) ks.length c, .int .i64 ks.length, .bool true, u16, u17, .map (some w.heap.size), .slice (some ⟨b1, o1, none⟩) ks.length c, .int .i64 k, .pointer (some ⟨b1, o1 + k, none⟩), .string y, .slice (some ⟨b2, o2, none⟩) vs.length vc, .int .i64 k, .pointer (some ⟨b2, o2 + k, none⟩), .slice a3 l.length c3, .slice ua un uc, undef, undef, undef, undef], []⟩) (by kernel_rfl) (by kernel_rfl) ?_
        refine wpAnyH_all (rs := [10]) (by kernel_rfl) (by simp) ?_
        intro i hi
        obtain rfl : i = 10 := by simpa using hi
        have hk1 : Kept (fun _ => False) wr w1 := ⟨hb1'.os, hb1'.tape, hb1'.output, hb1'.size, fun k hk _ => hb1'.block k hk⟩
        have hnone : f y = none := by
          cases hfy : f y with
          | none => rfl
          | some v => obtain ⟨ss, h1, _⟩ := hU.some_ y v hfy; rw [hlk] at h1; cases h1
        have hmap1 : MapIs Value.string w1 w.heap.size f _ := hU.isMap.1.of_block (hk1.block _ hU.isMap.1.lt (fun h => h))
        obtain ⟨w4, hrun, hmap4, hk4, _⟩ := hmap1.update (t := 35) strKey Try.underlying35 y (.slice ua un uc)
        refine .inl (wp_update (b := w.heap.size) (s := y) (.tmp 18) (.tmp 22) (.tmp 27) rfl (by kernel_rfl) (by kernel_rfl) (by kernel_rfl) hrun ?_)
        obtain ⟨hU4, hk24⟩ := hU.put (s := y) (l := l) hm1 (hk1.mono fun _ _ h => h.elim) (fun g hg => .inr (hnew g hg)) hmap4 hk4
        rw [hup, hnone] at hU4
        have hU5 := hU4.mono (F' := fun k => w.heap.size ≤ k) (fun k _ h => h.elim id fun e => by omega)
        have hB4 : Below w.heap.size w w4 := hB.trans (hk24.below hBs fun k h => h)
        have hrel' : MRel w.heap.size ks vs w (k + 1) w4 := ⟨hB4, _, hU5⟩
        have hB14 : Below w.heap.size wr w4 := hk24.below hBs fun k h => h
        refine ⟨⟨(hB14.cell (p := ⟨b1, o1 + k, none⟩) hl1).trans q, (hB14.cell (p := ⟨b2, o2 + k, none⟩) hl2).trans q2⟩, ?_⟩
        refine wpAnyH_act (l' := #[true, true, true, true, true, true, true, true, true, true, true]) (a' := ⟨#[.slice ga gs.length gc, .slice (some ⟨b1, o1, none⟩) ks.length c, .slice (some ⟨b2, o2, none⟩) vs.length vc, undef, undef, undef, .pointer none, .map (some w.heap.size), .int .i64 k, .slice (some ⟨b1, o1, none⟩) ks.length c, .bool true, .map (some w.heap.size), .int .i64 k, .slice (some ⟨b1, o1, none⟩) ks.length c, .int .i64 ks.length, .bool true, u16, u17, .map (some w.heap.size), .slice (some ⟨b1, o1, none⟩) ks.length c, .int .i64 k, .pointer (some ⟨b1, o1 + k, none⟩), .string y, .slice (some ⟨b2, o2, none⟩) vs.length vc, .int .i64 k, .pointer (some ⟨b2, o2 + k, none⟩), .slice a3 l.length c3, .slice ua un uc, undef, undef, undef, undef], []⟩) (by kernel_rfl) (by kernel_rfl) ?_
        refine wpAnyH_done (by kernel_rfl) ?_ _
        refine hKK _ _ ?_
        clear hU5 hU4 hk24 hmap4 hmap1 hrun hk4 hm1 hk1 hnew hB4 hB14 hU hB hSd q q2 hcl hb1' hr3 hlk hup hnone
        go_wp2
        go_roundw
        case rel => exact ⟨k + 1, by omega, by go_num, hrel'⟩
        case measure => simp [intOf]; omega
      · obtain rfl : k = ks.length := by omega
        rw [List.take_length, hl, List.take_length] at hU
        have hcl := cloneStrs (.slice ga gs.length gc) gs _ (hg.below hB) hb1
        have HL : Hid (ks.length = vs.length) := hl
        clear hl
        go_wp2_with fail
        refine hcl.mono ?_
        rintro e w1 ⟨hb, u, rfl, hm, hnew⟩
        obtain ⟨ua, un, uc, rfl⟩ := hm.shape
        go_wp2_with fail
        refine (newGrants ua un uc _ w1).mono ?_
        rintro e w2 ⟨rfl, rfl⟩
        go_wp2
        go_ret
        obtain ⟨h1, h2⟩ := made_grants hB hU hb hm hnew
        rw [← HL.out] at h2
        exact ⟨h1, _, rfl, h2⟩

end Go.Proofs.Qxb6619367a
