/- remove (seat b6617448a). -/
import Derived.Test.Qxb6617448aQAdd
import Derived.Deep.CutBlock
import Derived.Laws.Bits128
namespace Go.Proofs.Qxb6617448a
open Go.RowKit

def RemPost (N : Nat) (w : World) (B : Nat) (hp : List Elt) (sp : List Nat) (e : Ending) (w' : World) : Prop :=
  Below N w w' ∧ e = .returned (.tuple #[]) ∧ ∃ hp' sp', QS N w' B hp' sp' ∧ (hp.getD 0 dE :: hp').Perm hp ∧ sp'.length = min (sp.length + 1) 256

theorem Mine.take {tg : TypeId} {w : World} {g n c m : Nat} {xs : List Value} (h : Mine tg w (.slice (some ⟨g, 0, none⟩) n c) xs) (hm : m ≤ xs.length) : Mine tg w (.slice (some ⟨g, 0, none⟩) m c) (xs.take m) := by
  rcases h with ⟨h, _⟩ | ⟨g', cap, cur, h1, h2, h3, h4, h5, h6⟩
  · cases h
  · simp only [Value.slice.injEq, Option.some.injEq, Addr.mk.injEq] at h1
    obtain ⟨⟨rfl, _⟩, rfl, rfl⟩ := h1
    refine .inr ⟨g, c, cur, by rw [List.length_take, Nat.min_eq_left hm], h2, by rw [List.length_take]; omega, h4, h5, ?_⟩
    have := congrArg (List.take m) h6
    rw [List.take_take, Nat.min_eq_left hm] at this
    rw [List.length_take, Nat.min_eq_left hm]; exact this

/-- The last takes the top's place. -/
def cutTop (hp : List Elt) (m : Nat) : List Elt := (hp.set 0 (hp.getD m dE)).take m

theorem cutTop_perm {hp : List Elt} {m : Nat} (hm : hp.length = m + 1) : (hp.getD 0 dE :: cutTop hp m).Perm hp := by
  match hp, hm with
  | x0 :: t, hm =>
    rcases nil_or_snoc t with rfl | ⟨t', z, rfl⟩
    · obtain rfl : m = 0 := by simpa using hm.symm
      simp [cutTop]
    · have hmt : m = t'.length + 1 := by simp at hm; omega
      subst hmt
      have : cutTop (x0 :: (t' ++ [z])) (t'.length + 1) = z :: t' := by simp [cutTop, List.getD_eq_getElem?_getD]
      rw [this]
      simp only [List.getD_cons_zero]
      exact List.Perm.cons _ (List.perm_append_comm (l₁ := [z]))
theorem cutTop_len {hp : List Elt} {m : Nat} (hm : hp.length = m + 1) : (cutTop hp m).length = m := by simp [cutTop]; omega
theorem cutTop_down {hp : List Elt} {m : Nat} (hm : hp.length = m + 1) (hh : HeapF (ky hp) hp.length) : Down (ky (cutTop hp m)) (cutTop hp m).length 0 := by
  have hky : ∀ j, 0 < j → j < m → ky (cutTop hp m) j = ky hp j := fun j h0 hj => by
    simp only [ky, cutTop, List.getD_eq_getElem?_getD]
    rw [List.getElem?_take_of_lt hj, List.getElem?_set_ne (by omega)]
  rw [cutTop_len hm]
  refine ⟨fun j h0 hj hp' => ?_, fun h => by omega⟩
  rw [hky j h0 hj, hky _ (by omega) (by omega)]
  exact hh j h0 (by omega)

/-- The heap's slice while the one on top sinks. -/
def RLoop (hb m c : Nat) (w2 : World) (l1 : List Elt) (k : Nat) (l : List Elt) (wr : World) : Prop :=
  Kept (fun b => b = hb) w2 wr ∧ Mine 42 wr (.slice (some ⟨hb, 0, none⟩) m c) (l.map fun x => ptr x.1) ∧ l.Perm l1 ∧ Down (ky l) l.length k
/-- .. when it has sunk. -/
def RDone (hb m c : Nat) (w2 : World) (l1 : List Elt) (wr : World) : Prop :=
  ∃ l, Kept (fun b => b = hb) w2 wr ∧ Mine 42 wr (.slice (some ⟨hb, 0, none⟩) m c) (l.map fun x => ptr x.1) ∧ l.Perm l1 ∧ HeapF (ky l) l.length

theorem i64_and16383 (n : Int) : bits .and .i64 n 16383 = n % 16384 := by
  have h127 : (BitVec.ofInt 64 16383).toNat = 2 ^ 14 - 1 := by decide
  have key : (BitVec.ofInt 64 n &&& BitVec.ofInt 64 16383).toNat = (n % ((2 ^ 64 : Nat) : Int)).toNat % 2 ^ 14 := by
    rw [BitVec.toNat_and, BitVec.toNat_ofInt, h127, Nat.and_two_pow_sub_one_eq_mod]
  show IntKind.i64.wrap ((BitVec.ofInt 64 n &&& BitVec.ofInt 64 16383).toNat : Nat) = n % 16384
  rw [key, IntKind.wrap_i64]
  omega

/-- An instant joins the spares: append, then the store. -/
theorem QR.push' {N B g : Nat} {w w6 : World} {hv mv sv : Value} {mp : List Elt} {sp : List Nat} {f : Int → Option Value} {a : Int} (h : QR N w B hv mv sv mp sp f) (hk : Kept (fun k => some k = sv.ownBlock) w w6) (u : Value) (hsm : Mine 42 w6 u ((sp ++ [g]).map ptr)) (hsB : ∀ k, u.ownBlock = some k → N ≤ k) (hg : IsI w g a) (hgN : N ≤ g) (h1 : g ∉ mp.map (·.1)) (h2 : g ∉ sp) :
    QR N (w6.setCell ⟨B, 16386, none⟩ u) B hv mv u mp (sp ++ [g]) f := by
  have hs42 : ∀ k, sv.ownBlock = some k → ∃ cur, w.heap[k]? = some (.cells cur 42 (0, 0)) := fun k hk' => by
    rcases h.sm with ⟨h3, _⟩ | ⟨g', cap, cur, h3, h4, _⟩
    · rw [h3] at hk'; cases hk'
    · rw [h3] at hk'; simp only [Value.ownBlock, Option.some.injEq] at hk'; subst hk'; exact ⟨cur, h4⟩
  have hne6 : ∀ {k : Nat} {ob : Obj}, w.heap[k]? = some ob → (∀ c, ob ≠ .cells c 42 (0, 0)) → w6.heap[k]? = w.heap[k]? := fun {k ob} hk' hob => hk.block k (Array.getElem?_eq_some_iff.1 hk').1 (fun e => by
    obtain ⟨cur, hc⟩ := hs42 k e.symm
    rw [hk'] at hc; cases hc; exact hob _ rfl)
  obtain ⟨cs, q1, q2⟩ := h.q
  have q6 : w6.heap[B]? = some (.cells cs 45 (0, 0)) := (hne6 q1 (by simp)).trans q1
  have hkB := setCell_kept w6 ⟨B, 16386, none⟩ u
  have hneB : ∀ {k : Nat} {ob : Obj}, w6.heap[k]? = some ob → (∀ c, ob ≠ .cells c 45 (0, 0)) → (w6.setCell ⟨B, 16386, none⟩ u).heap[k]? = w6.heap[k]? := fun {k ob} hk' hob => hkB.block k (Array.getElem?_eq_some_iff.1 hk').1 (fun e => by
    simp only at e; subst e; rw [q6] at hk'; cases hk'; exact hob _ rfl)
  have both : ∀ {k : Nat} {ob : Obj}, w.heap[k]? = some ob → (∀ c, ob ≠ .cells c 42 (0, 0)) → (∀ c, ob ≠ .cells c 45 (0, 0)) → (w6.setCell ⟨B, 16386, none⟩ u).heap[k]? = some ob := fun {k ob} hk' h1 h2 => by
    have h3 := (hne6 hk' h1).trans hk'
    exact (hneB h3 h2).trans h3
  refine ⟨⟨_, set_cells q6 16386 u, q3 u q2⟩, ?_, fun x hx => both (h.inst x hx) (by simp) (by simp), fun x hx => ?_, ?_, h.ats, ?_, h.fm, h.bN, hsB, h.iN, fun x hx => ?_⟩
  · refine hsm.of_block fun k hk' => ?_
    rcases hsm with ⟨h3, _⟩ | ⟨g', cap, cur, h3, h4, _⟩
    · rw [h3] at hk'; cases hk'
    · rw [h3] at hk'; simp only [Value.ownBlock, Option.some.injEq] at hk'; subst hk'
      exact hneB h4 (by simp)
  · rw [List.mem_append, List.mem_singleton] at hx
    rcases hx with hx | rfl
    · obtain ⟨b, hb⟩ := h.spi x hx; exact ⟨b, both hb (by simp) (by simp)⟩
    · exact ⟨a, both hg (by simp) (by simp)⟩
  · have hperm : (mp.map (·.1) ++ (sp ++ [g])).Perm (g :: (mp.map (·.1) ++ sp)) := by
      rw [← List.append_assoc]; exact List.perm_append_comm
    rw [hperm.nodup_iff, List.nodup_cons, List.mem_append]
    exact ⟨fun e => e.elim h1 h2, h.nd⟩
  · rcases h.map with h3 | ⟨mb, h3, h4, h5⟩
    · exact .inl h3
    · refine .inr ⟨mb, h3, h4, h5.of_block ?_⟩
      obtain ⟨es, c, h6, _⟩ := h5
      exact (both h6 (by simp) (by simp)).trans h6.symm
  · rw [List.mem_append, List.mem_singleton] at hx
    rcases hx with hx | rfl
    · exact h.sN x hx
    · exact hgN

theorem eqIn_nil_ptr (w : World) (d : Nat) (p : Option Addr) : (Op.equalIn (d + 1) 42 (.pointer none) (.pointer p)).run Try.prog w = .ok p.isNone w := by
  cases p <;> simp [Op.equalIn, run_underlying Try.underlying42]
theorem run_nil_ptr (w : World) (p : Option Addr) : (binOp .eql 42 (.pointer none) (.pointer p)).run Try.prog w = .ok (.bool p.isNone) w := by
  simp only [binOp]
  simp [Op.equal, Op.maxDepth, eqIn_nil_ptr w 9999 p]

theorem wp_delete {o : Oper} {a : Act} {w w' : World} {K : Act → World → Prop} {Q : Exit → Act → World → Prop} {mb : Nat} {k : Int} (x y : Operand) (ho : o.op = .call { callee := .builtin .delete, args := #[x, y], argTypes := #[41, 2] }) (hx : a.eval x = .map (some mb)) (hy : a.eval y = .int .i64 k)
    (hr : (Builtin.delete_ #[41, 2] o.type #[.map (some mb), .int .i64 k]).run Try.prog w = .ok (.tuple #[]) w') (h : K (a.put o.dst (.tuple #[])) w') : o.wp Try.prog a w K Q := by
  unfold Oper.wp execOp
  simp only [ho, resolve, invoke, builtin, Sem.run_bind, Sem.run_pure, Result.andThen_ok, List.map_toArray, List.map_cons, List.map_nil, hx, hy, hr]
  exact h

/-- The one on top has left the map. -/
def Deld (N : Nat) (w : World) (B : Nat) (hv mv sv : Value) (l : List Elt) (sp : List Nat) (x0 : Nat) (a0 : Int) (w' : World) : Prop :=
  Below N w w' ∧ ∃ f, QR N w' B hv mv sv l sp f ∧ Mine 42 w' hv (l.map fun x => ptr x.1) ∧ IsI w' x0 a0 ∧ N ≤ x0 ∧ x0 ∉ l.map (·.1) ∧ x0 ∉ sp

set_option maxRecDepth 20000 in
set_option maxHeartbeats 2000000 in
theorem qremove (N B : Nat) (hp : List Elt) (sp : List Nat) (w : World) (hQ : QS N w B hp sp) (hN : N ≤ w.heap.size) (hne : hp ≠ []) (hb1 : hp.length ≤ 100000) (hb2 : sp.length ≤ 256) :
    Calls Try.prog 19 #[ptr B] w (RemPost N w B hp sp) := by
  obtain ⟨hv, mv, sv, f, h, hm, hap, hheap⟩ := hQ
  obtain ⟨mb, rfl⟩ : ∃ mb, mv = .map (some mb) := by
    rcases h.map with ⟨_, h1⟩ | ⟨mb, h1, _⟩
    · exact absurd h1 hne
    · exact ⟨_, h1⟩
  obtain ⟨m, hmm⟩ : ∃ m, hp.length = m + 1 := ⟨hp.length - 1, by have := List.length_pos_iff.2 hne; omega⟩
  obtain ⟨hb, c, rfl⟩ : ∃ hb c, hv = .slice (some ⟨hb, 0, none⟩) (m + 1) c := by
    rcases hm with ⟨_, h1⟩ | ⟨hb, cap, cur, h1, _⟩
    · exact absurd (by simpa using h1) hne
    · exact ⟨hb, cap, by rw [h1, List.length_map, hmm]⟩
  have hhb := hap hb rfl
  obtain ⟨sa, sn, sc, rfl, hsn⟩ := h.sm.form
  rw [List.length_map] at hsn
  have HSN : Hid (sn = sp.length) := hsn
  have hsb : sn ≤ 256 := by omega
  clear hsn
  obtain ⟨c0, c1, c3, cr⟩ := h.cells
  have hc : m + 1 ≤ c := by
    rcases hm with ⟨h1, _⟩ | ⟨_, cap, cur, h1, _, h3, _⟩
    · cases h1
    · simp only [Value.slice.injEq] at h1; rw [List.length_map, hmm] at h3; omega
  have e0 : w.cell? ⟨hb, 0, none⟩ = some (.pointer (some ⟨(hp.getD 0 dE).1, 0, none⟩)) := hm.at (u := ptr (hp.getD 0 dE).1) (by simp [List.getD_eq_getElem?_getD, show 0 < hp.length by omega])
  have em : w.cell? ⟨hb, m, none⟩ = some (.pointer (some ⟨(hp.getD m dE).1, 0, none⟩)) := hm.at (u := ptr (hp.getD m dE).1) (by simp [List.getD_eq_getElem?_getD, show m < hp.length by omega])
  have fr0 := hm.fro 0
  have frm := hm.fro m
  obtain ⟨x0, hx0⟩ : ∃ x, (hp.getD 0 dE).1 = x := ⟨_, rfl⟩
  obtain ⟨xm, hxm⟩ : ∃ x, (hp.getD m dE).1 = x := ⟨_, rfl⟩
  rw [hx0] at e0
  rw [hxm] at em
  have HMM : Hid (hp.length = m + 1) := hmm
  have hmb : m ≤ 100000 := by omega
  have g1 : (0 : Int) ≤ (m : Int) := by omega
  have g2 : (m : Int) < ((m + 1 : Nat) : Int) := by omega
  have g3 : (m : Int) ≤ (c : Int) := by omega
  have g4 : m ≤ c := by omega
  have g5 : (0 : Int) < ((m + 1 : Nat) : Int) := by omega
  clear hmm
  unfold ptr
  go_enter Try.func19, Try.ntmps19
  go_upto_region 3 with fail
  go_cut [7] from 18 to 26 (fun _ w' => w' = (w.setCell ⟨hb, 0, none⟩ (.pointer (some ⟨xm, 0, none⟩))).setCell ⟨hb, m, none⟩ (.pointer none))
  case first =>
    by_cases hm0 : m = 0
    · subst hm0
      obtain rfl : x0 = xm := hx0.symm.trans hxm
      go_wp2
      go_meet
      case rel => rfl
    · have hm0' : 0 ≠ m := fun e => hm0 e.symm
      go_wp2
      go_meet
      case rel => rfl
  case rest =>
    obtain ⟨w2, hwc⟩ : ∃ y, wc = y := ⟨_, rfl⟩
    rw [hwc] at hcut ⊢
    clear hwc
    have hk2 : Kept (fun b => b = hb) w w2 := by rw [hcut]; exact kept_swap _ _ _ _ _ _
    have hml : Mine 42 w2 (.slice (some ⟨hb, 0, none⟩) m c) ((cutTop hp m).map fun x => ptr x.1) := by
      have h1 := ((hm.set 0 (ptr (hp.getD m dE).1)).set m (.pointer none)).take (m := m) (by simp [HMM.out])
      have e : (((hp.map fun x => ptr x.1).set 0 (ptr (hp.getD m dE).1)).set m (.pointer none)).take m = (cutTop hp m).map fun x => ptr x.1 := by
        rw [List.take_set_of_le (Nat.le_refl m)]
        simp [cutTop, List.map_take, List.map_set]
      rw [e, hxm] at h1
      rw [hcut]; exact h1
    clear hcut
    have hR : QR N w2 B (.slice (some ⟨hb, 0, none⟩) (m + 1) c) (.map (some mb)) (.slice sa sn sc) hp sp f := h.kept hk2 (fun k e => by subst e; exact h.apart hm rfl hhb.2)
    have hb2' : Below N w w2 := hk2.below hN fun k e => by omega
    have hdn := cutTop_down HMM.out hheap
    have hpm := cutTop_perm HMM.out
    have hln := cutTop_len HMM.out
    obtain ⟨l1, hl1⟩ : ∃ l, cutTop hp m = l := ⟨_, rfl⟩
    rw [hl1] at hml hdn hpm hln
    have HLN : Hid (l1.length = m) := hln
    clear hk2 hm h hl1 hln e0 em fr0 frm c0 c1 c3 cr hheap
    go_upto_block 0 with fail
    go_cut [5, 6] from 30 to 91 (fun _ _ w' => RDone hb m c w2 l1 w')
    case first =>
      have hcur : ∃ cur, w2.heap[hb]? = some (.cells cur 42 (0, 0)) := by
        rcases hml with ⟨h1, _⟩ | ⟨g', cap, cur, h1, h2, _⟩
        · cases h1
        · simp only [Value.slice.injEq, Option.some.injEq, Addr.mk.injEq] at h1
          obtain ⟨⟨rfl, _⟩, _⟩ := h1
          exact ⟨cur, h2⟩
      have hsub : ∀ l : List Elt, l.Perm l1 → ∀ x ∈ l, x ∈ hp := fun l hl x hx => hpm.mem_iff.1 (.tail _ (hl.mem_iff.1 hx))
      have hats : (l1.map (·.2)).Nodup := by
        have := (hpm.map (fun x : Elt => x.2)).nodup_iff.2 hR.ats
        simp only [List.map_cons, List.nodup_cons] at this
        exact this.2
      have h0rel : RLoop hb m c w2 l1 0 l1 w2 := ⟨Kept.refl _ _, hml, List.Perm.refl _, hdn⟩
      go_wp2
      go_loopw [5] (fun i wr => ∃ (k : Nat) (l : List Elt), i = .int .i64 k ∧ k ≤ m ∧ RLoop hb m c w2 l1 k l wr) (fun i _ => m - (intOf i).toNat)
      case atStart => exact ⟨0, l1, rfl, Nat.zero_le _, h0rel⟩
      case round =>
        clear h0rel hml
        obtain ⟨k, l, rfl, hkm, hkw, hml, hpl, hdl⟩ := hrel
        have hll : l.length = m := by rw [hpl.length_eq, HLN.out]
        have HLL : Hid (l.length = m) := hll
        by_cases hleaf : m ≤ 2 * k + 1
        · go_wp2
          go_meet
          case rel => exact ⟨l, hkw, hml, hpl, hdl.leaf (by omega)⟩
        · have hRw : ∀ x ∈ l, x ∈ hp := hsub l hpl
          have hinst : ∀ j, j < l.length → wr.cell? ⟨hb, j, none⟩ = some (.pointer (some ⟨(l.getD j dE).1, 0, none⟩)) ∧ wr.cell? ⟨(l.getD j dE).1, 0, none⟩ = some (.int .i64 (ky l j)) := fun j hj => by
            have hmem : l.getD j dE ∈ l := by simp [List.getD_eq_getElem?_getD, hj]
            refine ⟨hml.at (u := ptr (l.getD j dE).1) (by simp [hj, List.getD_eq_getElem?_getD]), ?_⟩
            have hI := hR.inst _ (hRw _ hmem)
            obtain ⟨cur, hc'⟩ := hcur
            have hIw : IsI wr (l.getD j dE).1 (l.getD j dE).2 := (hkw.block _ (Array.getElem?_eq_some_iff.1 hI).1 (obj_ne hI hc' (by simp))).trans hI
            exact hIw.cells.1
          have hdis : ∀ i j, i < l.length → j < l.length → i ≠ j → ky l i ≠ ky l j := fun i j hi hj hij e => by
            have hnd := (hpl.map (fun x : Elt => x.2)).nodup_iff.2 hats
            have h1 : (l.map fun x => x.2)[i]'(by simpa using hi) = (l.map fun x => x.2)[j]'(by simpa using hj) := by
              simp only [List.getElem_map]
              simpa [ky, List.getD_eq_getElem?_getD, hi, hj] using e
            rcases Nat.lt_or_ge i j with h | h
            · exact List.pairwise_iff_getElem.1 hnd i j (by simpa using hi) (by simpa using hj) h h1
            · exact List.pairwise_iff_getElem.1 hnd j i (by simpa using hj) (by simpa using hi) (by omega) h1.symm
          obtain ⟨q, hq⟩ : ∃ q, q = 2 * k + 1 := ⟨_, rfl⟩
          have hqi : 2 * (k : Int) + 1 = (q : Int) := by omega
          clear hq
          obtain ⟨ek, dk⟩ := hinst k (by omega)
          obtain ⟨eq, dq⟩ := hinst q (by omega)
          obtain ⟨xk, hxk⟩ : ∃ x, (l.getD k dE).1 = x := ⟨_, rfl⟩
          obtain ⟨xq, hxq⟩ : ∃ x, (l.getD q dE).1 = x := ⟨_, rfl⟩
          obtain ⟨yk, hyk⟩ : ∃ x, ky l k = x := ⟨_, rfl⟩
          obtain ⟨yq, hyq⟩ : ∃ x, ky l q = x := ⟨_, rfl⟩
          rw [hxk, hyk] at dk
          rw [hxq, hyq] at dq
          rw [hxk] at ek
          rw [hxq] at eq
          have g1 : (0 : Int) ≤ (k : Int) := by omega
          have g2 : (k : Int) < (m : Int) := by omega
          have g3 : (0 : Int) ≤ (q : Int) := by omega
          have g4 : (q : Int) < (m : Int) := by omega
          by_cases hr : q + 1 < m
          · obtain ⟨r, hr'⟩ : ∃ r, r = q + 1 := ⟨_, rfl⟩
            have hri : (q : Int) + 1 = (r : Int) := by omega
            clear hr'
            obtain ⟨er, dr⟩ := hinst r (by omega)
            obtain ⟨xr, hxr⟩ : ∃ x, (l.getD r dE).1 = x := ⟨_, rfl⟩
            obtain ⟨yr, hyr⟩ : ∃ x, ky l r = x := ⟨_, rfl⟩
            rw [hxr, hyr] at dr
            rw [hxr] at er
            have g5 : (0 : Int) ≤ (r : Int) := by omega
            have g6 : (r : Int) < (m : Int) := by omega
            have hqr := hdis q r (by omega) (by omega) (by omega)
            rw [hyq, hyr] at hqr
            clear hinst hll
            by_cases hc1 : yr < yq
            · have hmin : ∀ j, 0 < j → j < l.length → (j - 1) / 2 = k → ky l r ≤ ky l j := fun j h0 hj hjk => by
                have : j = q ∨ j = r := by omega
                rcases this with rfl | rfl <;> omega
              by_cases hlt : yk < yr
              · go_wp2
                go_quiet (fail)
                go_wp2
                go_quiet (fail)
                go_wp2
                go_meet
                case rel => exact ⟨l, (hkw.drewN _).drewN _, hml, hpl, hdl.done (c := r) (fun j h0 hj hjk => by have := hmin j h0 hj hjk; omega) (by rw [hyk, hyr]; exact hlt)⟩
              · have fr1 := hml.fro k
                have fr2 := hml.fro r
                go_wp2
                go_quiet (fail)
                go_wp2
                go_quiet (fail)
                go_wp2
                go_region
                go_wp2
                go_roundw
                case rel =>
                  have hll := HLL.out
                  have hkl : k < l.length := by omega
                  have hcl : r < l.length := by omega
                  have hne := hdis k r hkl hcl (by omega)
                  refine ⟨r, sw l k r, rfl, by omega, (hkw.drewN _).trans (kept_swap _ _ _ _ _ _), ?_, (sw_perm hkl hcl).trans hpl, ?_⟩
                  · rw [← hxk, ← hxr]
                    exact Mine.swap (w := wr.drewN _) hml
                  · rw [ky_sw hkl hcl, sw_len]
                    exact hdl.step hcl (by omega) (by omega) (fun j h0 hj hjk hjc => by have := hmin j h0 hj hjk; have := hdis r j hcl hj (by omega); omega) (by rw [hyk, hyr] at hne; rw [hyk, hyr]; omega)
                case measure => simp [intOf]; omega
            · have hmin : ∀ j, 0 < j → j < l.length → (j - 1) / 2 = k → ky l q ≤ ky l j := fun j h0 hj hjk => by
                have : j = q ∨ j = r := by omega
                rcases this with rfl | rfl <;> omega
              by_cases hlt : yk < yq
              · go_wp2
                go_quiet (fail)
                go_wp2
                go_quiet (fail)
                go_wp2
                go_meet
                case rel => exact ⟨l, (hkw.drewN _).drewN _, hml, hpl, hdl.done (c := q) (fun j h0 hj hjk => by have := hmin j h0 hj hjk; omega) (by rw [hyk, hyq]; exact hlt)⟩
              · have fr1 := hml.fro k
                have fr2 := hml.fro q
                go_wp2
                go_quiet (fail)
                go_wp2
                go_quiet (fail)
                go_wp2
                go_region
                go_wp2
                go_roundw
                case rel =>
                  have hll := HLL.out
                  have hkl : k < l.length := by omega
                  have hcl : q < l.length := by omega
                  have hne := hdis k q hkl hcl (by omega)
                  refine ⟨q, sw l k q, rfl, by omega, (hkw.drewN _).trans (kept_swap _ _ _ _ _ _), ?_, (sw_perm hkl hcl).trans hpl, ?_⟩
                  · rw [← hxk, ← hxq]
                    exact Mine.swap (w := wr.drewN _) hml
                  · rw [ky_sw hkl hcl, sw_len]
                    exact hdl.step hcl (by omega) (by omega) (fun j h0 hj hjk hjc => by have := hmin j h0 hj hjk; have := hdis q j hcl hj (by omega); omega) (by rw [hyk, hyq] at hne; rw [hyk, hyq]; omega)
                case measure => simp [intOf]; omega
          · have hrn : decide ((q : Int) + 1 < (m : Int)) = false := by simp; omega
            have hrn2 : decide (q + 1 < m) = false := by simp; omega
            have hmin : ∀ j, 0 < j → j < l.length → (j - 1) / 2 = k → ky l q ≤ ky l j := fun j h0 hj hjk => by
              have : j = q := by omega
              rw [this]; omega
            clear hinst hll
            by_cases hlt : yk < yq
            · go_wp2
              go_quiet (fail)
              go_wp2
              go_quiet (fail)
              go_wp2
              go_meet
              case rel => exact ⟨l, (hkw.drewN _).drewN _, hml, hpl, hdl.done (c := q) (fun j h0 hj hjk => by have := hmin j h0 hj hjk; omega) (by rw [hyk, hyq]; exact hlt)⟩
            · have fr1 := hml.fro k
              have fr2 := hml.fro q
              go_wp2
              go_quiet (fail)
              go_wp2
              go_quiet (fail)
              go_wp2
              go_region
              go_wp2
              go_roundw
              case rel =>
                have hll := HLL.out
                have hkl : k < l.length := by omega
                have hcl : q < l.length := by omega
                have hne := hdis k q hkl hcl (by omega)
                refine ⟨q, sw l k q, rfl, by omega, (hkw.drewN _).trans (kept_swap _ _ _ _ _ _), ?_, (sw_perm hkl hcl).trans hpl, ?_⟩
                · rw [← hxk, ← hxq]
                  exact Mine.swap (w := wr.drewN _) hml
                · rw [ky_sw hkl hcl, sw_len]
                  exact hdl.step hcl (by omega) (by omega) (fun j h0 hj hjk hjc => by have := hmin j h0 hj hjk; have := hdis q j hcl hj (by omega); omega) (by rw [hyk, hyq] at hne; rw [hyk, hyq]; omega)
              case measure => simp [intOf]; omega
    case rest =>
      obtain ⟨l, hkw, hml', hpl, hhp⟩ := hcut
      have hRw := (hR.kept hkw (fun k e => by subst e; exact hR.apart hml rfl hhb.2)).perm ((hpl.cons (hp.getD 0 dE)).trans hpm)
      have hb3 : Below N w wc := hb2'.trans (hkw.below (by have := hb2'.size; omega) fun k e => by omega)
      clear hR hkw hb2'
      obtain ⟨c0, _, _, _⟩ := hRw.cells
      have f0 := hRw.frozen 0
      go_upto_region 14 with fail
      have hneB : hb ≠ B := fun e => hRw.apart hml' rfl hhb.2 (.inl e)
      have hR3 := hRw.store0 (.slice (some ⟨hb, 0, none⟩) m c)
      have hm3 : Mine 42 (wc.setCell ⟨B, 0, none⟩ (.slice (some ⟨hb, 0, none⟩) m c)) (.slice (some ⟨hb, 0, none⟩) m c) (l.map fun x => ptr x.1) := hml'.of_block fun g' hg' => Below.heap_setCell _ _ _ _ (by simp [Value.ownBlock] at hg'; subst hg'; exact hneB)
      have hb4 : Below N w (wc.setCell ⟨B, 0, none⟩ (.slice (some ⟨hb, 0, none⟩) m c)) := hb3.setCell (by exact hRw.bN) _
      obtain ⟨w3, hw3⟩ : ∃ y, wc.setCell ⟨B, 0, none⟩ (.slice (some ⟨hb, 0, none⟩) m c) = y := ⟨_, rfl⟩
      rw [hw3] at hR3 hm3 hb4 ⊢
      clear hw3 hRw hml' hb3 c0 f0
      have hI3 := hR3.inst _ (.head _)
      obtain ⟨a0, ha0⟩ : ∃ a, (hp.getD 0 dE).2 = a := ⟨_, rfl⟩
      rw [hx0, ha0] at hI3
      obtain ⟨_, c1, _, _⟩ := hR3.cells
      have hi0 := hI3.cells.1
      go_cut [7] from 96 to 103 (fun _ w' => Deld N w3 B (.slice (some ⟨hb, 0, none⟩) m c) (.map (some mb)) (.slice sa sn sc) l sp x0 a0 w')
      case first =>
        have hSd : w3.drew.cell? ⟨B, 1, none⟩ = some (.map (some mb)) ∧ w3.drew.cell? ⟨x0, 0, none⟩ = some (.int .i64 a0) := ⟨c1, hi0⟩
        refine wp_region_held (S := fun w' => w'.cell? ⟨B, 1, none⟩ = some (.map (some mb)) ∧ w'.cell? ⟨x0, 0, none⟩ = some (.int .i64 a0)) (by kernel_rfl) ?_
        change wpAnyH _ _ _ _ _ 9 (Array.replicate 9 false) _ w3.drew
        refine wpAnyH_take (i := 0) (v := .pointer (some ⟨B, 0, none⟩)) rfl (by kernel_rfl) (by kernel_rfl) (by kernel_rfl) (fun _ _ _ h => h) (.inl ⟨by kernel_rfl, fun w' _ => by kernel_rfl⟩) hSd ?_
        refine wpAnyH_take (i := 1) (v := .pointer (some ⟨B, 0, none⟩)) rfl (by kernel_rfl) (by kernel_rfl) (by kernel_rfl) (fun _ _ _ h => h) (.inl ⟨by kernel_rfl, fun w' _ => by kernel_rfl⟩) hSd ?_
        refine wpAnyH_take (i := 2) (v := .pointer (some ⟨B, 1, none⟩)) rfl (by kernel_rfl) (by kernel_rfl) (by kernel_rfl) (fun _ _ _ h => h) (.inl ⟨by kernel_rfl, fun w' _ => by kernel_rfl⟩) hSd ?_
        refine wpAnyH_take (i := 3) (v := .map (some mb)) rfl (by kernel_rfl) (by kernel_rfl) (by kernel_rfl) (fun _ _ _ h => h) (yLoad (by kernel_rfl) 41 (.tmp 98) rfl B 1 (by kernel_rfl) _ (fun _ h => h.1) _ Try.underlying41 rfl) hSd ?_
        refine wpAnyH_take (i := 4) (v := .pointer (some ⟨x0, 0, none⟩)) rfl (by kernel_rfl) (by kernel_rfl) (by kernel_rfl) (fun _ _ _ h => h) (.inl ⟨by kernel_rfl, fun w' _ => by kernel_rfl⟩) hSd ?_
        refine wpAnyH_take (i := 5) (v := .pointer (some ⟨x0, 0, none⟩)) rfl (by kernel_rfl) (by kernel_rfl) (by kernel_rfl) (fun _ _ _ h => h) (.inl ⟨by kernel_rfl, fun w' _ => by kernel_rfl⟩) hSd ?_
        refine wpAnyH_take (i := 6) (v := .pointer (some ⟨x0, 0, none⟩)) rfl (by kernel_rfl) (by kernel_rfl) (by kernel_rfl) (fun _ _ _ h => h) (.inl ⟨by kernel_rfl, fun w' _ => by kernel_rfl⟩) hSd ?_
        refine wpAnyH_take (i := 7) (v := .int .i64 a0) rfl (by kernel_rfl) (by kernel_rfl) (by kernel_rfl) (fun _ _ _ h => h) (yLoad (by kernel_rfl) 2 (.tmp 102) rfl x0 0 (by kernel_rfl) _ (fun _ h => h.2) _ Try.underlying2 rfl) hSd ?_
        refine wpAnyH_all (rs := [8]) (by kernel_rfl) (by simp) ?_
        intro i hi
        obtain rfl : i = 8 := by simpa using hi
        have hf0 : (f a0).isSome = true := by
          have := (hR3.fm a0 (ptr x0)).2 ⟨_, .head _, ha0, by rw [hx0]⟩
          rw [this]; rfl
        have hmapd : MapIs (Value.int .i64) w3.drew mb f _ := hR3.isMap.2.of_block rfl
        obtain ⟨w4, hrun, hmap4, hk4, _⟩ := hmapd.delete (t := 41) intKey Try.underlying41 2 _ a0 hf0
        refine .inl (wp_delete (mb := mb) (k := a0) (.tmp 99) (.tmp 103) rfl (by kernel_rfl) (by kernel_rfl) hrun ?_)
        have hk4' : Kept (fun k => k = mb) w3 w4 := ⟨hk4.os, hk4.tape, hk4.output, hk4.size, hk4.block⟩
        obtain ⟨q1, q2, q3, q4, q5⟩ := hR3.mapDel (by rw [ha0]; exact hmap4) (by simp) hk4'
        have hcel := q2.cells.1
        rw [hx0, ha0] at hcel q2
        rw [hx0] at q3 q4 q5
        have hmbN := hR3.isMap.1
        refine ⟨⟨q1.cells.2.1, hcel⟩, ?_⟩
        refine wpAnyH_act (l' := #[true, true, true, true, true, true, true, true, true]) (a' := ⟨#[.pointer (some ⟨B, 0, none⟩), undef, .slice (some ⟨hb, 0, none⟩) m c, .pointer (some ⟨x0, 0, none⟩), .int .i64 m, u5, u6, u7, .pointer (some ⟨B, 0, none⟩), .pointer (some ⟨B, 0, none⟩), .pointer (some ⟨B, 0, none⟩), .slice (some ⟨hb, 0, none⟩) (m + 1) c, .slice (some ⟨hb, 0, none⟩) (m + 1) c, .pointer (some ⟨hb, 0, none⟩), .pointer (some ⟨x0, 0, none⟩), .slice (some ⟨hb, 0, none⟩) (m + 1) c, .int .i64 ((m : Int) + 1), .int .i64 m, u18, u19, u20, u21, u22, u23, u24, u25, u26, .slice (some ⟨hb, 0, none⟩) (m + 1) c, .int .i64 m, .slice (some ⟨hb, 0, none⟩) m c, u30, u31, u32, u33, u34, u35, u36, u37, u38, u39, u40, u41, u42, u43, u44, u45, u46, u47, u48, u49, u50, u51, u52, u53, u54, u55, u56, u57, u58, u59, u60, u61, u62, u63, u64, u65, u66, u67, u68, u69, u70, u71, u72, u73, u74, u75, u76, u77, u78, u79, u80, u81, u82, u83, u84, u85, u86, u87, u88, u89, u90, u91, .pointer (some ⟨B, 0, none⟩), .slice (some ⟨hb, 0, none⟩) m c, .pointer (some ⟨B, 0, none⟩), .pointer (some ⟨B, 0, none⟩), .pointer (some ⟨B, 0, none⟩), .pointer (some ⟨B, 0, none⟩), .pointer (some ⟨B, 1, none⟩), .map (some mb), .pointer (some ⟨x0, 0, none⟩), .pointer (some ⟨x0, 0, none⟩), .pointer (some ⟨x0, 0, none⟩), .int .i64 a0, undef, undef, undef, undef, undef, undef, undef, undef, undef, undef, undef, undef, undef, undef, undef, undef, undef, undef, undef, undef, undef, undef, undef, undef, undef, undef, undef, undef, undef, undef, undef, undef, undef, undef, undef, undef, undef, undef, undef, undef, undef, undef, undef, undef, undef, undef, undef, undef, undef, undef, undef, undef], []⟩) (by kernel_rfl) (by kernel_rfl) ?_
        refine wpAnyH_done (by kernel_rfl) ?_ _
        go_wp2
        go_meet
        case rel =>
          refine ⟨hk4'.below (by have := hb4.size; omega) (fun k e => by omega), _, q1, hm3.of_block fun g' hg' => hk4'.block g' (hm3.lt g' hg') (fun e => ?_), q2, q3, q4, q5⟩
          exact hR3.apart hm3 hg' (by simp [Value.ownBlock] at hg'; subst hg'; exact hhb.2) (.inr (.inr (.inr (.inr (by rw [e])))))
      case rest =>
        obtain ⟨hb5, f', hR4, hm4, hI4, hgN, hg1, hg2⟩ := hcut
        replace hb4 : Below N w wc := hb4.trans hb5
        clear hb5 hR3 hm3 hI3 c1 hi0
        obtain ⟨_, c1, c3, cr⟩ := hR4.cells
        obtain ⟨i0, i1, i2, ifr⟩ := hI4.cells
        obtain ⟨ix, hbit, hix⟩ : ∃ k : Nat, bits .and .i64 a0 16383 = (k : Int) ∧ k < 16384 := ⟨(a0 % 16384).toNat, by rw [i64_and16383]; omega, by omega⟩
        have hcx := cr ix hix
        have hnp := run_nil_ptr
        have j1 : (0 : Int) ≤ (ix : Int) := by omega
        have j2 : (ix : Int) < 16384 := by omega
        go_wp2
        go_quiet (fail)
        have hRq := hR4.kept (S := fun _ => False) (w' := wc.drewN nq) ((Kept.refl _ _).drewN nq) (fun _ h => h.elim)
        have hmq : Mine 42 (wc.drewN nq) (.slice (some ⟨hb, 0, none⟩) m c) (l.map fun x => ptr x.1) := hm4
        have hIq : IsI (wc.drewN nq) x0 a0 := hI4
        have hbq : Below N w (wc.drewN nq) := below_drewN' hb4
        have hperm : (hp.getD 0 dE :: l).Perm hp := (hpl.cons _).trans hpm
        have hapl : ∀ g, (Value.slice (some ⟨hb, 0, none⟩) m c).ownBlock = some g → N ≤ g ∧ (Value.slice sa sn sc).ownBlock ≠ some g := fun g hg => by simp only [Value.ownBlock, Option.some.injEq] at hg; subst hg; exact hhb
        clear hR4 hm4 hI4 hb4
        by_cases hfull : sn = 256
        · have hfull' : ((sn : Int) == 256) = true := by simp; omega
          go_wp2
          go_end0
          exact ⟨hbq, rfl, l, sp, ⟨_, _, _, _, hRq, hmq, hapl, hhp⟩, hperm, by have := HSN.out; omega⟩
        · have hfull' : ((sn : Int) == 256) = false := by simp; omega
          have ifr1 := ifr 1
          have ifr2 := ifr 2
          go_upto_region 20 with fail
          have hI5 : IsI (((wc.drewN nq).setCell ⟨x0, 1, none⟩ (.slice none 0 0)).setCell ⟨x0, 2, none⟩ (.int .i64 0)) x0 a0 := set_cells (set_cells hIq 1 _) 2 _
          have hk5 : Kept (fun b => b = x0) (wc.drewN nq) (((wc.drewN nq).setCell ⟨x0, 1, none⟩ (.slice none 0 0)).setCell ⟨x0, 2, none⟩ (.int .i64 0)) := kept_swap _ _ _ _ _ _
          have hR5 := hRq.kept hk5 (fun k e => by subst e; exact hRq.apartI hIq hg1 hg2)
          have hm5 : Mine 42 (((wc.drewN nq).setCell ⟨x0, 1, none⟩ (.slice none 0 0)).setCell ⟨x0, 2, none⟩ (.int .i64 0)) (.slice (some ⟨hb, 0, none⟩) m c) (l.map fun x => ptr x.1) := hmq.of_block fun g' hg' => hk5.block g' (hmq.lt g' hg') (fun e => by
            subst e
            rcases hmq with ⟨h1, _⟩ | ⟨g2, cap, cur, h1, h2, _⟩
            · cases h1
            · rw [h1] at hg'; simp only [Value.ownBlock, Option.some.injEq] at hg'; subst hg'
              rw [show (wc.drewN nq).heap[g2]? = _ from hIq] at h2; cases h2)
          have hb5 : Below N w (((wc.drewN nq).setCell ⟨x0, 1, none⟩ (.slice none 0 0)).setCell ⟨x0, 2, none⟩ (.int .i64 0)) := hbq.trans (hk5.below (by have := hbq.size; omega) fun k e => by omega)
          obtain ⟨w5, hw5⟩ : ∃ y, ((wc.drewN nq).setCell ⟨x0, 1, none⟩ (.slice none 0 0)).setCell ⟨x0, 2, none⟩ (.int .i64 0) = y := ⟨_, rfl⟩
          rw [hw5] at hI5 hR5 hm5 hb5 ⊢
          clear hw5 hk5 hRq hmq hIq hbq i0 i1 i2 ifr ifr1 ifr2 c1 c3 cr hcx
          obtain ⟨_, i1, _, _⟩ := hI5.cells
          obtain ⟨_, _, c3, _⟩ := hR5.cells
          have f3 := hR5.frozen 16386
          have hBlt := hR5.lt
          have hsB : (Value.slice sa sn sc).ownBlock ≠ some B := fun e => by
            rcases hR5.sm with ⟨h3, _⟩ | ⟨g', cap, cur, h3, h4, _⟩
            · rw [h3] at e; cases e
            · rw [h3] at e; simp only [Value.ownBlock, Option.some.injEq] at e; subst e
              obtain ⟨cs, q1, _⟩ := hR5.q
              rw [q1] at h4; cases h4
          go_wp2_with (at_builtin; refine wpList_append_mine _ rfl (.tmp 150) (.tmp 152) 40 rfl 42 (.pointer none) 8 Try.underlying40 info42 rfl (.slice sa sn sc) _ rfl (hR5.sm.alloc _) _ [ptr x0] rfl (reads_one _ _ _) (fun u hu => by simp at hu; subst hu; rfl) (by rw [List.length_map]; simp; omega) (by omega) ?_; intro s6 w6 hm6 hk6 hat6; obtain ⟨ua, un, uc, rfl⟩ := hm6.shape; have hB6 := hk6.block B (by simp; omega) (fun e => hsB e.symm); have hB6' := hB6.trans (Below.heap_alloc w5 _ B hBlt); have c36 := (World.cell?_of_block (a := ⟨B, 16386, none⟩) hB6').trans c3; have f36 := (World.frozen?_of_block (a := ⟨B, 16386, none⟩) hB6').trans f3; clear hB6 hB6')
          go_end0
          have hk56 : Kept (fun k => some k = (Value.slice sa sn sc).ownBlock) w5 w6 := ((Kept.refl _ w5).alloc _).trans hk6
          rw [show (sp.map ptr) ++ [ptr x0] = (sp ++ [x0]).map ptr from by simp] at hm6
          have hs6 : ∀ k, (Value.slice ua un uc).ownBlock = some k → N ≤ k ∧ hb ≠ k := fun k hk => by
            rcases hat6 with e | e
            · rw [e] at hk
              exact ⟨hR5.sB k hk, fun e' => hhb.2 (e' ▸ hk)⟩
            · rw [e] at hk
              have h1 := hm5.lt hb rfl
              have h2 := hb5.size
              simp only [World.size_alloc, Option.some.injEq] at hk
              exact ⟨by omega, by omega⟩
          have hR6 := hR5.push' hk56 (.slice ua un uc) hm6 (fun k hk => (hs6 k hk).1) hI5 hgN hg1 hg2
          have hm7 : Mine 42 (w6.setCell ⟨B, 16386, none⟩ (.slice ua un uc)) (.slice (some ⟨hb, 0, none⟩) m c) (l.map fun x => ptr x.1) := hm5.of_block fun g' hg' => by
            simp only [Value.ownBlock, Option.some.injEq] at hg'; subst hg'
            exact (Below.heap_setCell _ _ _ _ (fun e => hneB e)).trans (hk56.block hb (hm5.lt hb rfl) (fun e => hhb.2 e.symm))
          refine ⟨(hb5.trans (hk56.below (by have := hb5.size; omega) fun k e => hR5.sB k e.symm)).setCell (by exact hR5.bN) _, rfl, l, sp ++ [x0], ⟨_, _, _, _, hR6, hm7, fun g hg => ?_, hhp⟩, hperm, ?_⟩
          · simp only [Value.ownBlock, Option.some.injEq] at hg; subst hg
            exact ⟨hhb.1, fun e => (hs6 hb e).2 rfl⟩
          · have := HSN.out; simp; omega
end Go.Proofs.Qxb6617448a
