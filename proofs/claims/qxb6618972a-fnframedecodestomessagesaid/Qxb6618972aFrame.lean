/- appendFrame (seat b6618972a). -/
import Derived.Test.Qxb6618972aAppendTo
import Derived.Deep.MidRow
namespace Go.Proofs.Qxb6618972a
open Go.RowKit
attribute [local go_sem ↓] Go.wp_at_zero Go.wp_at_succ

theorem fieldsB_len (m : M20) : (fieldsB m).length ≤ 60 + entsRoom m.es + m.data.length := by
  have h1 := uv_len (flagN m.pre)
  have h2 := uv_len m.li
  have h3 := uv_len m.lt
  have h4 := uv_len (flagN m.transfer)
  have h5 := uv_len (flagN m.granted)
  have h6 := uv_len m.pi
  have h7 := uv_len m.pt
  have h8 := uv_len m.commit
  have h9 := uv_len m.round
  have h10 := uv_len m.es.length
  have h11 := entsBytes_len m.es
  have h12 := uv_len (flagN m.success)
  have h13 := uv_len m.index
  have h14 := uv_len m.offset
  have h15 := uv_len (flagN m.done)
  have h16 := uv_len m.data.length
  unfold fieldsB
  split <;> simp only [List.length_append, List.length_nil] <;> omega
theorem payload_len (m : M20) : (payload m).length ≤ 101 + entsRoom m.es + m.data.length := by
  have h0 := fieldsB_len m
  have h1 := uv_len m.from_
  have h2 := uv_len m.to_
  have h3 := uv_len m.term
  have h4 := uv_len m.cluster
  simp only [payload, List.length_append, List.length_cons, List.length_nil]
  omega

/-- A call of a named function, met at the operation itself. -/
theorem wp_call {P : Program} {o : Oper} {a : Act} {w : World} {K : Act → World → Prop} {Q : Exit → Act → World → Prop} (f : FuncId) (xs : Array Operand) (ats : Array TypeId) (ho : o.op = .call { callee := .value (.func f), args := xs, argTypes := ats })
    (args : Array Value) (hx : xs.map a.eval = args) (hf : (callFunc f args).run P w = .ok (.enter f args) w) {R : Ending → World → Prop} (hc : Calls P f args w R)
    (h : ∀ e w', R e w' → ∃ v, e = .returned v ∧ K (a.put o.dst v) w') : o.wp P a w K Q := by
  have hr : (execOp a.eval o).run P w = .ok (.enter f args) w := by
    have e1 : execOp a.eval o = callFunc f (#[] ++ xs.map a.eval ++ #[]) := by
      cases o; simp only at ho; subst ho; rfl
    rw [e1, hx]
    simpa using hf
  unfold Oper.wp
  rw [hr]
  exact hc.mono fun e w' hR => by
    obtain ⟨v, rfl, hK⟩ := h e w' hR
    exact hK
theorem enter45 (args : Array Value) (w : World) : (callFunc 45 args).run Try.prog w = .ok (.enter 45 args) w := by kernel_rfl

/-- A frame. -/
def frame (m : M20) : List Int := uv (payload m).length ++ payload m

set_option maxRecDepth 20000 in
set_option maxHeartbeats 2000000 in
/-- (38) appendFrame -/
theorem appendFrame (N x : Nat) (m : M20) (ve dv v : Value) (bs : List Int) (w : World) (hN : N ≤ w.heap.size) (hm : Mine w v (byts bs)) (hv : ∀ g, v.ownBlock = some g → Free N x g) (he : EFix N x w ve m.es) (hd : Fix N x w dv m.data) (ok : MOk m) (hb : bs.length ≤ 1000000000) :
    Calls Try.prog 38 #[v, .agg (mcells m ve dv)] w (TPost N x w (bs ++ frame m)) := by
  obtain ⟨va, vn, vc, rfl⟩ := hm.shape
  have hroom := ok.room
  have hpl := payload_len m
  go_enter Try.func38, Try.ntmps38
  go_upto_region 2 with fail
  change Code.wp Try.prog _ _ _ ((w.alloc (.cells (mcells m ve dv) 58)).alloc (.cells (Array.replicate 64 (.int .u8 0)) 110))
  have hk0 : Kept (fun _ => False) w ((w.alloc (.cells (mcells m ve dv) 58)).alloc (.cells (Array.replicate 64 (.int .u8 0)) 110)) := ((Kept.refl _ _).alloc _).alloc _
  have hz0 : ((w.alloc (.cells (mcells m ve dv) 58)).alloc (.cells (Array.replicate 64 (.int .u8 0)) 110)).heap.size = w.heap.size + 2 := by simp
  have hx0 : Mine ((w.alloc (.cells (mcells m ve dv) 58)).alloc (.cells (Array.replicate 64 (.int .u8 0)) 110)) (.slice (some ⟨w.heap.size + 1, 0, none⟩) 0 64) (byts []) := by
    refine .inr ⟨w.heap.size + 1, 64, Array.replicate 64 (.int .u8 0), 110, by simp [byts], ?_, by simp [byts], by unfold maxLen; omega, by simp, by simp [byts]⟩
    have := heap_alloc_new (w.alloc (.cells (mcells m ve dv) 58)) (.cells (Array.replicate 64 (.int .u8 0)) 110)
    rwa [World.size_alloc] at this
  have hc0 : ∀ o, ((w.alloc (.cells (mcells m ve dv) 58)).alloc (.cells (Array.replicate 64 (.int .u8 0)) 110)).cell? ⟨w.heap.size, o, none⟩ = (mcells m ve dv)[o]? := fun o => by
    rw [World.cell?_alloc_past _ _ _ (by simp), World.cell?_alloc_new]
  generalize (w.alloc (.cells (mcells m ve dv) 58)).alloc (.cells (Array.replicate 64 (.int .u8 0)) 110) = w0 at *
  have he0 := (he.kept (hk0.mono fun _ _ h => h.elim)).sub (N' := w.heap.size + 2) (x' := w.heap.size + 1) (by omega) (.inl (by omega))
  have hd0 := (hd.kept (hk0.mono fun _ _ h => h.elim)).sub (N' := w.heap.size + 2) (x' := w.heap.size + 1) (by omega) (.inl (by omega))
  have hm0 := hm.of_block fun g hg => hk0.block g (hm.lt g hg) (fun h => h)
  have HZ : Hid (w0.heap.size = w.heap.size + 2) := hz0
  have hcall := appendTo (w.heap.size + 2) (w.heap.size + 1) m ve dv (.slice (some ⟨w.heap.size + 1, 0, none⟩) 0 64) [] w0.drew (by have := HZ.out; simp; omega) hx0 (fun g hg => by simp [Value.ownBlock] at hg; exact .inr hg.symm) (he0.kept (Kept.refl _ _).drew) (hd0.kept (Kept.refl _ _).drew) ok (by simp)
  obtain ⟨cs, hcs⟩ : ∃ cs : List Value, cs.toArray = mcells m ve dv := ⟨(mcells m ve dv).toList, by simp⟩
  have hl : cs.length = 20 := by have := congrArg Array.size hcs; simpa [mcells] using this
  have hra : w0.rangeAt w.heap.size 0 cs := fun j v hj => by rw [Nat.zero_add, hc0 j, ← hcs]; simpa using hj
  obtain ⟨ea, en, ec, hve⟩ := he.form
  obtain ⟨da, dn, dc, hde⟩ := hd.form
  have h1 : ∀ v ∈ cs, v.oneCell' = true := by
    intro v hv
    have : v ∈ (mcells m ve dv).toList := by rw [← hcs]; simpa using hv
    subst hve hde
    simp [mcells] at this
    rcases this with rfl | rfl | rfl | rfl | rfl | rfl | rfl | rfl | rfl | rfl | rfl | rfl | rfl | rfl | rfl | rfl | rfl | rfl | rfl | rfl <;> rfl
  rw [← hcs] at hcall
  rw [← hcs]
  have hu := Try.underlying58
  have hi : (Try.prog.info? 58).map (·.size) = some cs.length := by rw [hl]; kernel_rfl
  have hnf : ¬ Free (w.heap.size + 2) (w.heap.size + 1) w.heap.size := fun h => by rcases h with h | h <;> omega
  clear hc0 hz0 hx0 he0 hd0 hcs hve hde
  refine wp_region_held (S := fun w' => w'.rangeAt w.heap.size 0 cs) (by kernel_rfl) ?_
  change wpAnyH _ _ _ _ _ 4 #[false, false, false, false] _ w0.drew
  refine wpAnyH_take (i := 0) rfl (by kernel_rfl) (by kernel_rfl) (by kernel_rfl) (fun _ _ _ h => h) (yieldsIf_load_mid rfl 58 (.tmp 3) rfl w.heap.size 0 rfl cs _ (fun _ h => h) Try.underlying58 rfl hi) hra ?_
  refine wpAnyH_take (i := 1) (v := .slice (some ⟨w.heap.size + 1, 0, none⟩) 0 64) rfl (by kernel_rfl) (by kernel_rfl) (by kernel_rfl) (fun _ _ _ h => h) (.inl ⟨rfl, fun w' _ => by kernel_rfl⟩) hra ?_
  change wpAnyH _ _ _ _ _ 2 #[true, true, false, false] ⟨#[.slice va vn vc, .agg cs.toArray, undef, .pointer (some ⟨w.heap.size, 0, none⟩), .slice none 0 0, .pointer (some ⟨w.heap.size + 1, 0, none⟩), undef, .agg cs.toArray, .slice (some ⟨w.heap.size + 1, 0, none⟩) 0 64, undef, undef, undef, undef, undef, undef, undef, undef, undef], []⟩ w0.drew
  refine wpAnyH_all (rs := [2]) (by kernel_rfl) (by simp) ?_
  intro i hi2
  obtain rfl : i = 2 := by simpa using hi2
  refine .inl ?_
  refine wp_call 45 #[.tmp 7, .tmp 8] #[58, 22] rfl #[.agg cs.toArray, .slice (some ⟨w.heap.size + 1, 0, none⟩) 0 64] (by simp [Act.eval]) (enter45 _ _) hcall ?_
  rintro e w1 ⟨hz1, hk1, vp, rfl, hmp, hvp⟩
  refine ⟨vp, rfl, ?_⟩
  obtain ⟨pa, pn, pc, hpe, hpn⟩ := hmp.form
  subst hpe
  have hra1 : w1.rangeAt w.heap.size 0 cs := fun j v hj => cell_kept hk1 hnf (hra j v hj)
  refine ⟨hra1, ?_⟩
  refine wpAnyH_take (i := 3) (v := .slice pa pn pc) rfl (by kernel_rfl) (by kernel_rfl) (by kernel_rfl) (fun _ _ _ h => h) (.inl ⟨rfl, fun w' _ => rfl⟩) hra1 ?_
  refine wpAnyH_done (by kernel_rfl) ?_ _
  change Exit.then _ _ _ ⟨#[.slice va vn vc, .agg cs.toArray, undef, .pointer (some ⟨w.heap.size, 0, none⟩), .slice none 0 0, .pointer (some ⟨w.heap.size + 1, 0, none⟩), .slice pa pn pc, .agg cs.toArray, .slice (some ⟨w.heap.size + 1, 0, none⟩) 0 64, .slice pa pn pc, undef, undef, undef, undef, undef, undef, undef, undef], []⟩ w1
  have HPN : Hid (pn = (payload m).length) := by have := hpn; simp [byts_len] at this; exact this
  have hpb : pn ≤ 549750000000 := by have := HPN.out; omega
  clear hpn
  have hown : ∀ g, (Value.slice va vn vc).ownBlock = some g → g < w.heap.size := hm.lt
  have hm1 : Mine w1 (.slice va vn vc) (byts bs) := hm0.of_block fun g hg => hk1.block g (by have := hown g hg; have := HZ.out; simp; omega) (fun h => by have := hown g hg; rcases h with h | h <;> omega)
  clear hcall hra hra1 h1 hu hi hl hm0
  go_wp2_with fail
  refine (appendUvarint pn _ bs _ hm1 (by omega) (by omega)).mono ?_
  rintro e w2 ⟨v2, rfl, hm2, hg2⟩
  obtain ⟨a2, n2, c2, rfl⟩ := hm2.shape
  have hul := uv_len pn
  have hmp2 : Reads w2 (.slice pa pn pc) (byts (payload m)) := by
    have := hmp.reads.kept hg2.kept (fun _ b hb e => by
      have h1 := hvp b hb
      have h2 := hown b e.symm
      rcases h1 with h | h <;> omega)
    simpa using this
  go_wp2_with (at_builtin; refine wpList_append_mine _ rfl (.tmp 15) (.tmp 16) 22 rfl 5 (.int .u8 0) 1 Try.underlying22 info5 rfl (.slice a2 n2 c2) _ rfl hm2 _ _ rfl hmp2 (byts_one _) (by rw [byts_len, byts_len]; simp; omega) (by omega) ?_; intro v3 w3 hm3 hk3 hat3; obtain ⟨a3, n3, c3, rfl⟩ := hm3.shape)
  go_ret
  have hg3 := hg2.trans (grew_of hk3 hat3)
  have hz := HZ.out
  have hz2 := hk1.size
  have hz3 := hg3.kept.size
  refine ⟨by simp at hz2; omega, ?_, _, rfl, ?_, fun g hg => ?_⟩
  · refine (hk0.mono fun _ _ h => h.elim).trans ((hk1.undrew.mono fun k _ h => ?_).trans (hg3.kept.mono fun k _ h => hv k h.symm))
    rcases h with h | h <;> left <;> omega
  · have e : byts (bs ++ frame m) = byts (bs ++ uv pn) ++ byts (payload m) := by rw [HPN.out]; simp [frame, byts]
    rw [e]
    exact hm3
  · rcases hg3.lies g hg with h | h
    · exact hv g h
    · left; simp at hz2; omega

set_option maxRecDepth 20000 in
set_option maxHeartbeats 1000000 in
/-- (31) ZZappendFrame -/
theorem zzAppendFrame (N x : Nat) (m : M20) (ve dv v : Value) (bs : List Int) (w : World) (hN : N ≤ w.heap.size) (hm : Mine w v (byts bs)) (hv : ∀ g, v.ownBlock = some g → Free N x g) (he : EFix N x w ve m.es) (hd : Fix N x w dv m.data) (ok : MOk m) (hb : bs.length ≤ 1000000000) :
    Calls Try.prog 31 #[v, .agg (mcells m ve dv)] w (TPost N x w (bs ++ frame m)) := by
  obtain ⟨va, vn, vc, rfl⟩ := hm.shape
  go_enter Try.func31, Try.ntmps31
  go_upto_region 1 with fail
  have hk0 : Kept (Free N x) w (w.alloc (.cells (mcells m ve dv) 58)) := (Kept.refl _ _).alloc _
  have hm0 := hm.alloc (.cells (mcells m ve dv) 58)
  have hz0 : N ≤ (w.alloc (.cells (mcells m ve dv) 58)).heap.size := by simp; omega
  have hc0 : ∀ o, (w.alloc (.cells (mcells m ve dv) 58)).cell? ⟨w.heap.size, o, none⟩ = (mcells m ve dv)[o]? := fun o => World.cell?_alloc_new _ _ _ _
  have hi : (Try.prog.info? 58).map (·.size) = some (mcells m ve dv).toList.length := by simp only [mcells, List.length_cons, List.length_nil]; kernel_rfl
  have hra : (w.alloc (.cells (mcells m ve dv) 58)).rangeAt w.heap.size 0 (mcells m ve dv).toList := fun j v hj => by rw [Nat.zero_add, hc0 j]; simpa using hj
  generalize w.alloc (.cells (mcells m ve dv) 58) = w0 at *
  have hcall := appendFrame N x m ve dv (.slice va vn vc) bs w0 hz0 hm0 hv (he.kept hk0) (hd.kept hk0) ok hb
  generalize mcells m ve dv = cs at *
  clear hc0
  go_wp2_with (first | (refine wpList_load_mid rfl 58 (.tmp 3) rfl w.heap.size 0 rfl cs.toList _ hra Try.underlying58 rfl hi ?_; simp only [Array.toArray_toList]) | (go_at_call 38; refine hcall.mono ?_; rintro e w1 ⟨hz1, hk1, vp, rfl, hmp, hvp⟩; obtain ⟨pa, pn, pc, rfl⟩ := hmp.shape))
  go_ret
  exact ⟨hz1, hk0.trans hk1, _, rfl, hmp, hvp⟩
end Go.Proofs.Qxb6618972a
