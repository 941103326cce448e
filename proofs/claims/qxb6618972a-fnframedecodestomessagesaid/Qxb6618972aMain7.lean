import Derived.Test.Qxb6618972aBuild
import Derived.Test.Qxb6618972aZBytes7
import Derived.Test.Qxb6618972aPayloadIs
namespace Go.Proofs.Qxb6618972a
open Go.RowKit

theorem wp_store58b {o : Oper} {a : Act} {w : World} {K : Act → World → Prop} {Q : Exit → Act → World → Prop} (ho : o.op = .store 58 (.tmp 8) (.tmp 92)) (g : Nat) (m : M20) (da : Option Addr) (dn dc : Nat)
    (hx : a.eval (.tmp 8) = .pointer (some ⟨g, 0, none⟩)) (hy : a.eval (.tmp 92) = .agg (mcells m (.slice none 0 0) (.slice da dn dc))) (hg : w.heap[g]? = some (.cells ZeroMsg 58 (0, 0)))
    (h : K (a.put o.dst undef) (w.setRow g (mcells m (.slice none 0 0) (.slice da dn dc)))) : o.wp Try.prog a w K Q :=
  wp_store_row 58 (.tmp 8) (.tmp 92) ho g _ hx hy 58 ZeroMsg hg (by rw [mcells_size]; kernel_rfl) rfl (mcells_one m _ _ _ _ _ _) h

theorem run_from (o : Oper) (a : Act) (x y : Operand) (ho : o.op = .slice 22 x (some y) none none) (b off n c L : Nat) (hx : a.eval x = .slice (some ⟨b, off, none⟩) n c) (hy : a.eval y = .int .i64 L) (h1 : L < n) (h2 : n ≤ c) (w : World) :
    (execOp a.eval o).run Try.prog w = .ok (.value (.slice (some ⟨b, off + L, none⟩) (n - L) (c - L))) w := by
  have h0 : (0 : Int) ≤ (L : Int) := by omega
  have h3 : (L : Int) ≤ (n : Int) := by omega
  have h5 : ¬ c = L := by omega
  have h4 : (n : Int) ≤ (c : Int) := by omega
  have hu := Try.underlying22
  unfold execOp
  simp only [ho, hx, Option.map, hy]
  go_simp
theorem yLoadRow {ops : Array Oper} {S : World → Prop} {op : Oper} {a : Act} (hw : Region.wanted op (yielded ops a.tmps) = true) (x : Operand) (ho : op.op = .load 48 x) (g : Nat) (hx : a.eval x = .pointer (some ⟨g, 0, none⟩)) (t : TypeId) (cs : Array Value)
    (hS : ∀ w, S w → w.heap[g]? = some (.cells cs t (0, 0))) (hi : (Try.prog.info? 48).map (·.size) = some cs.size) : YieldsIf Try.prog ops S op (.agg cs) a :=
  .inl ⟨hw, fun w h => by
    have hl := run_loadVar_row (P := Try.prog) w g t 48 cs (0, 0) _ (hS w h) Try.underlying48 rfl hi
    unfold execOp
    simp only [ho, hx, Instr.loadAt, Instr.sureAddr, Sem.run_bind, Sem.run_pure, Result.andThen_ok, hl]⟩
theorem enter33 (args : Array Value) (w : World) : (callFunc 33 args).run Try.prog w = .ok (.enter 33 args) w := by kernel_rfl
theorem payload_pos (m : M20) : 0 < (payload m).length := by obtain ⟨r, h⟩ := payload_head m; rw [h]; simp

set_option maxRecDepth 20000 in
set_option maxHeartbeats 4000000 in
/-- (7) FnFrameDecodesToMessage -/
theorem main7 (m : M20) (ve dv vb : Value) (bs : List Int) (w : World) (hnum : MNum m) (hb : Reads w vb (byts bs)) (hd : Reads w dv (byts m.data)) (hE : EIn w ve m.es) :
    Calls Try.prog 7 #[vb, .agg (mcells m ve dv)] w (Said w) := by
  obtain ⟨ea, ec, rfl⟩ : ∃ a c, ve = .slice a m.es.length c := by obtain ⟨a, c, h, _⟩ := hE; exact ⟨a, c, h⟩
  obtain ⟨da, dc, hde⟩ := hd.form
  rw [byts_len] at hde
  subst hde
  obtain ⟨ba, bc, hbe⟩ := hb.form
  rw [byts_len] at hbe
  subst hbe
  have hcs : (Try.prog.info? 48).map (·.size) = some 20 := by kernel_rfl
  go_enter Try.func7, Try.ntmps7
  go_upto_region 1 with fail
  change Code.wp Try.prog _ _ _ (w.alloc (.cells (mcells m (.slice ea m.es.length ec) (.slice da m.data.length dc)) 48))
  have hb0 : (w.alloc (.cells (mcells m (.slice ea m.es.length ec) (.slice da m.data.length dc)) 48)).heap[w.heap.size]? = some (.cells (mcells m (.slice ea m.es.length ec) (.slice da m.data.length dc)) 48 (0, 0)) := heap_alloc_new w _
  have hB0 : Below w.heap.size w (w.alloc (.cells (mcells m (.slice ea m.es.length ec) (.slice da m.data.length dc)) 48)) := (Below.refl _ _).alloc (Nat.le_refl _) _
  have hz0 : w.heap.size < (w.alloc (.cells (mcells m (.slice ea m.es.length ec) (.slice da m.data.length dc)) 48)).heap.size := by simp
  generalize w.alloc (.cells (mcells m (.slice ea m.es.length ec) (.slice da m.data.length dc)) 48) = w0 at *
  have hcall := zzBytes27 m (.slice ea m.es.length ec) (.slice da m.data.length dc) ba bs.length bc w0 (hd.below hB0) (hE.below hB0)
  go_wp2_with (refine wpList_load_row rfl 48 (.tmp 3) rfl w.heap.size rfl 48 (mcells m (.slice ea m.es.length ec) (.slice da m.data.length dc)) (0, 0) _ hb0 Try.underlying48 rfl (by rw [mcells_size]; exact hcs) ?_)
  refine hcall.mono ?_
  rintro e w1 ⟨hB1, r, rfl, hr⟩
  have hB : Below w.heap.size w w1 := hB0.trans (hB1.mono (by omega))
  have hbx := (hB1.block _ hz0).trans hb0
  have hz1 : w.heap.size < w1.heap.size := Nat.lt_of_lt_of_le hz0 hB1.size
  clear hcall hB1 hB0 hb0 hz0
  cases r
  case false =>
    go_wp2
    go_ret
    exact ⟨hB, rfl⟩
  obtain ⟨b1, b2, b3, b4⟩ := hr rfl
  clear hr
  have q18 : w1.cell? ⟨w.heap.size, 18, none⟩ = some (.slice da m.data.length dc) := by rw [cell_of_row _ _ 18 _ _ _ hbx]; rfl
  have q12 : w1.cell? ⟨w.heap.size, 12, none⟩ = some (.slice ea m.es.length ec) := by rw [cell_of_row _ _ 12 _ _ _ hbx]; rfl
  have hb1 := hb.below hB
  have hd1 := hd.below hB
  have hE1 := hE.below hB
  clear hb hd hE
  by_cases h3 : bs.length + m.data.length ≤ 1048576
  case neg =>
    have h3' : 1048576 < bs.length + m.data.length := by omega
    go_wp2
    go_ret
    exact ⟨hB, rfl⟩
  go_upto_region 10 with fail
  go_loop [5, 6] (fun n i => ∃ (t k : Nat), k ≤ m.es.length ∧ t ≤ 1048576 ∧ t = bs.length + m.data.length + entTot (m.es.take k) ∧ n = .int .i64 t ∧ i = .int .i64 k) (fun _ i => m.es.length - (intOf i).toNat)
  case atStart => exact ⟨bs.length + m.data.length, 0, Nat.zero_le _, h3, by simp [entTot], by go_num, rfl⟩
  case round =>
    obtain ⟨t, k, hk, ht, hte, rfl, rfl⟩ := hrel
    by_cases hlt : k < m.es.length
    · obtain ⟨g, o, sa, sc, rfl, e0, e1, e2, e3, hrd⟩ := hE1.get hlt
      have htt := entTot_take m.es k hlt
      have hdk := b3 k hlt
      generalize m.es[k].data.length = dn at *
      clear e0 e1 e2 hrd
      by_cases h5 : t + (48 + dn) ≤ 1048576
      case neg =>
        have h5' : 1048576 < t + (48 + dn) := by omega
        go_wp2
        go_ret
        exact ⟨hB, rfl⟩
      go_wp2
      go_round
      case rel => exact ⟨t + (48 + dn), k + 1, by omega, h5, by omega, by go_num, by go_num⟩
      case measure => simp [intOf]; omega
    · obtain rfl : k = m.es.length := by omega
      have hbo : Bounds bs m := ⟨b1, b2, b4, b3, by rw [List.take_length] at hte; omega⟩
      clear b1 b2 b3 b4 hte h3 hk ht hlt
      go_wp2_with fail
      refine (cloneBytes _ bs _ hb1 (by have := hbo.b; omega)).mono ?_
      rintro e w2 ⟨hB2, v2, rfl, hm2, ho2⟩
      have hbx2 := (hB2.block _ hz1).trans hbx
      have hcall := copyMsg m _ _ w2 (hd1.below hB2) (hE1.below hB2) hbo.n (by have := hbo.d; omega) (fun e he => by obtain ⟨i, hi, rfl⟩ := List.getElem_of_mem he; have := hbo.e i hi; omega)
      have hz2 : w1.heap.size ≤ w2.heap.size := hB2.size
      have hBa : Below w.heap.size w w2 := hB.trans (hB2.mono (by omega))
      clear hb1 hd1 hE1 hB2 hB hbx q18 q12
      obtain ⟨a2, n2, c2, rfl⟩ := hm2.shape
      go_wp2_with (refine wpList_load_row rfl 48 (.tmp 3) rfl w.heap.size rfl 48 (mcells m (.slice ea m.es.length ec) (.slice da m.data.length dc)) (0, 0) _ hbx2 Try.underlying48 rfl (by rw [mcells_size]; exact hcs) ?_)
      refine hcall.mono ?_
      rintro e w3 ⟨hB3, ve', dv', rfl, hEA, hRA⟩
      obtain ⟨ea', ec', rfl⟩ : ∃ a c, ve' = .slice a m.es.length c := by obtain ⟨a, c, h, _⟩ := hEA; exact ⟨a, c, h⟩
      obtain ⟨da', dc', hde⟩ := hRA.1.form
      rw [byts_len] at hde
      subst hde
      have hbx3 := (hB3.block w.heap.size (by omega)).trans hbx2
      go_upto_region 17 with (refine wpList_store_row rfl 48 (.tmp 3) (.tmp 50) rfl w.heap.size (mcells m (.slice ea' m.es.length ec') (.slice da' m.data.length dc')) rfl rfl 48 _ hbx3 (by rw [mcells_size]; exact hcs) rfl (mcells_one _ _ _ _ _ _ _) ?_)
      have hk4 : Kept (fun k => k = w.heap.size) w3 (w3.setRow w.heap.size (mcells m (.slice ea' m.es.length ec') (.slice da' m.data.length dc'))) := ⟨rfl, rfl, rfl, by simp [World.setRow], fun k _ hn => setRow_other _ _ _ _ hn⟩
      have hbx4 : (w3.setRow w.heap.size (mcells m (.slice ea' m.es.length ec') (.slice da' m.data.length dc'))).heap[w.heap.size]? = some (.cells (mcells m (.slice ea' m.es.length ec') (.slice da' m.data.length dc')) 48 (0, 0)) := setRow_heap _ _ _ _ _ _ hbx3
      generalize w3.setRow w.heap.size (mcells m (.slice ea' m.es.length ec') (.slice da' m.data.length dc')) = w4 at *
      have hz3 := hB3.size
      have hz4 := hk4.size
      have hB4 : Below w.heap.size w w4 := (hBa.trans (hB3.mono (by omega))).trans (hk4.below (by omega) (fun k h => by omega))
      have hm4 : Mine w4 (.slice a2 n2 c2) (byts bs) := hm2.of_block fun g hg => (hk4.block g (by have := hm2.lt g hg; omega) (by have := ho2 g hg; omega)).trans (hB3.block g (hm2.lt g hg))
      have ho4 : ∀ g, (Value.slice a2 n2 c2).ownBlock = some g → w1.heap.size ≤ g ∧ g < w2.heap.size := fun g hg => ⟨ho2 g hg, hm2.lt g hg⟩
      have hE4 := hEA.kept hk4 fun b hb e => by omega
      have hD4 := hRA.kept hk4 fun b hb e => by omega
      clear hk4 hB3 hBa hm2 ho2 hEA hRA hbx3 hbx2 hcall
      go_wp2_with fail
      refine (cloneBytes _ bs _ hm4.reads (by have := hbo.b; omega)).mono ?_
      rintro e w5 ⟨hB5, v7, rfl, hm7, ho7⟩
      obtain ⟨a7, n7, c7, rfl⟩ := hm7.shape
      have hz5 := hB5.size
      have hbx5 := (hB5.block w.heap.size (by omega)).trans hbx4
      have hBb : Below w.heap.size w w5 := hB4.trans (hB5.mono (by omega))
      have hm5 : Mine w5 (.slice a2 n2 c2) (byts bs) := hm4.of_block fun g hg => hB5.block g (hm4.lt g hg)
      have hE5 := (hE4.mono (F' := fun b => w2.heap.size ≤ b ∧ b < w4.heap.size) fun k hk h => ⟨h, hk⟩).kept (Kept.of_below hB5) fun k h h' => by omega
      have hD5 := (hD4.mono (F' := fun b => w2.heap.size ≤ b ∧ b < w4.heap.size) fun k hk h => ⟨h, hk⟩).kept (Kept.of_below hB5) fun k h h' => by omega
      go_upto_region 18 with fail
      go_cut [8] from 53 to 92 (fun v w' => MMade w5 w' m v)
      case first =>
        have hS : ∀ o, w5.drew.cell? ⟨w.heap.size, o, none⟩ = (mcells m (.slice ea' m.es.length ec') (.slice da' m.data.length dc'))[o]? := fun o => cell_of_row w5 _ o _ _ _ hbx5
        refine wp_region_held (S := fun w' => ∀ o, w'.cell? ⟨w.heap.size, o, none⟩ = (mcells m (.slice ea' m.es.length ec') (.slice da' m.data.length dc'))[o]?) (by kernel_rfl) ?_
        change wpAnyH _ _ _ _ _ 42 (Array.replicate 42 false) _ w5.drew
        refine wpAnyH_take (i := 0) (v := .pointer (some ⟨w.heap.size, 0, none⟩)) rfl (by kernel_rfl) (by kernel_rfl) (by kernel_rfl) (fun _ _ _ h => h) (.inl ⟨by kernel_rfl, fun w' _ => by kernel_rfl⟩) hS ?_
        refine wpAnyH_take (i := 1) (v := .int .u8 m.kind) rfl (by kernel_rfl) (by kernel_rfl) (by kernel_rfl) (fun _ _ _ h => h) (yLoad (by kernel_rfl) 5 (.tmp 53) rfl w.heap.size 0 (by kernel_rfl) _ (fun w' h => h 0) _ Try.underlying5 rfl) hS ?_
        refine wpAnyH_take (i := 2) (v := .pointer (some ⟨w.heap.size, 1, none⟩)) rfl (by kernel_rfl) (by kernel_rfl) (by kernel_rfl) (fun _ _ _ h => h) (.inl ⟨by kernel_rfl, fun w' _ => by kernel_rfl⟩) hS ?_
        refine wpAnyH_take (i := 3) (v := .int .u64 m.from_) rfl (by kernel_rfl) (by kernel_rfl) (by kernel_rfl) (fun _ _ _ h => h) (yLoad (by kernel_rfl) 34 (.tmp 55) rfl w.heap.size 1 (by kernel_rfl) _ (fun w' h => h 1) _ Try.underlying34 rfl) hS ?_
        refine wpAnyH_take (i := 4) (v := .pointer (some ⟨w.heap.size, 2, none⟩)) rfl (by kernel_rfl) (by kernel_rfl) (by kernel_rfl) (fun _ _ _ h => h) (.inl ⟨by kernel_rfl, fun w' _ => by kernel_rfl⟩) hS ?_
        refine wpAnyH_take (i := 5) (v := .int .u64 m.to_) rfl (by kernel_rfl) (by kernel_rfl) (by kernel_rfl) (fun _ _ _ h => h) (yLoad (by kernel_rfl) 34 (.tmp 57) rfl w.heap.size 2 (by kernel_rfl) _ (fun w' h => h 2) _ Try.underlying34 rfl) hS ?_
        refine wpAnyH_take (i := 6) (v := .pointer (some ⟨w.heap.size, 3, none⟩)) rfl (by kernel_rfl) (by kernel_rfl) (by kernel_rfl) (fun _ _ _ h => h) (.inl ⟨by kernel_rfl, fun w' _ => by kernel_rfl⟩) hS ?_
        refine wpAnyH_take (i := 7) (v := .int .u64 m.term) rfl (by kernel_rfl) (by kernel_rfl) (by kernel_rfl) (fun _ _ _ h => h) (yLoad (by kernel_rfl) 34 (.tmp 59) rfl w.heap.size 3 (by kernel_rfl) _ (fun w' h => h 3) _ Try.underlying34 rfl) hS ?_
        refine wpAnyH_take (i := 8) (v := .pointer (some ⟨w.heap.size, 4, none⟩)) rfl (by kernel_rfl) (by kernel_rfl) (by kernel_rfl) (fun _ _ _ h => h) (.inl ⟨by kernel_rfl, fun w' _ => by kernel_rfl⟩) hS ?_
        refine wpAnyH_take (i := 9) (v := .int .u64 m.cluster) rfl (by kernel_rfl) (by kernel_rfl) (by kernel_rfl) (fun _ _ _ h => h) (yLoad (by kernel_rfl) 34 (.tmp 61) rfl w.heap.size 4 (by kernel_rfl) _ (fun w' h => h 4) _ Try.underlying34 rfl) hS ?_
        refine wpAnyH_take (i := 10) (v := .pointer (some ⟨w.heap.size, 5, none⟩)) rfl (by kernel_rfl) (by kernel_rfl) (by kernel_rfl) (fun _ _ _ h => h) (.inl ⟨by kernel_rfl, fun w' _ => by kernel_rfl⟩) hS ?_
        refine wpAnyH_take (i := 11) (v := .int .u64 m.li) rfl (by kernel_rfl) (by kernel_rfl) (by kernel_rfl) (fun _ _ _ h => h) (yLoad (by kernel_rfl) 34 (.tmp 63) rfl w.heap.size 5 (by kernel_rfl) _ (fun w' h => h 5) _ Try.underlying34 rfl) hS ?_
        refine wpAnyH_take (i := 12) (v := .pointer (some ⟨w.heap.size, 6, none⟩)) rfl (by kernel_rfl) (by kernel_rfl) (by kernel_rfl) (fun _ _ _ h => h) (.inl ⟨by kernel_rfl, fun w' _ => by kernel_rfl⟩) hS ?_
        refine wpAnyH_take (i := 13) (v := .int .u64 m.lt) rfl (by kernel_rfl) (by kernel_rfl) (by kernel_rfl) (fun _ _ _ h => h) (yLoad (by kernel_rfl) 34 (.tmp 65) rfl w.heap.size 6 (by kernel_rfl) _ (fun w' h => h 6) _ Try.underlying34 rfl) hS ?_
        refine wpAnyH_take (i := 14) (v := .pointer (some ⟨w.heap.size, 7, none⟩)) rfl (by kernel_rfl) (by kernel_rfl) (by kernel_rfl) (fun _ _ _ h => h) (.inl ⟨by kernel_rfl, fun w' _ => by kernel_rfl⟩) hS ?_
        refine wpAnyH_take (i := 15) (v := .bool m.granted) rfl (by kernel_rfl) (by kernel_rfl) (by kernel_rfl) (fun _ _ _ h => h) (yLoad (by kernel_rfl) 4 (.tmp 67) rfl w.heap.size 7 (by kernel_rfl) _ (fun w' h => h 7) _ Try.underlying4 rfl) hS ?_
        refine wpAnyH_take (i := 16) (v := .pointer (some ⟨w.heap.size, 8, none⟩)) rfl (by kernel_rfl) (by kernel_rfl) (by kernel_rfl) (fun _ _ _ h => h) (.inl ⟨by kernel_rfl, fun w' _ => by kernel_rfl⟩) hS ?_
        refine wpAnyH_take (i := 17) (v := .bool m.pre) rfl (by kernel_rfl) (by kernel_rfl) (by kernel_rfl) (fun _ _ _ h => h) (yLoad (by kernel_rfl) 4 (.tmp 69) rfl w.heap.size 8 (by kernel_rfl) _ (fun w' h => h 8) _ Try.underlying4 rfl) hS ?_
        refine wpAnyH_take (i := 18) (v := .pointer (some ⟨w.heap.size, 9, none⟩)) rfl (by kernel_rfl) (by kernel_rfl) (by kernel_rfl) (fun _ _ _ h => h) (.inl ⟨by kernel_rfl, fun w' _ => by kernel_rfl⟩) hS ?_
        refine wpAnyH_take (i := 19) (v := .bool m.transfer) rfl (by kernel_rfl) (by kernel_rfl) (by kernel_rfl) (fun _ _ _ h => h) (yLoad (by kernel_rfl) 4 (.tmp 71) rfl w.heap.size 9 (by kernel_rfl) _ (fun w' h => h 9) _ Try.underlying4 rfl) hS ?_
        refine wpAnyH_take (i := 20) (v := .pointer (some ⟨w.heap.size, 10, none⟩)) rfl (by kernel_rfl) (by kernel_rfl) (by kernel_rfl) (fun _ _ _ h => h) (.inl ⟨by kernel_rfl, fun w' _ => by kernel_rfl⟩) hS ?_
        refine wpAnyH_take (i := 21) (v := .int .u64 m.pi) rfl (by kernel_rfl) (by kernel_rfl) (by kernel_rfl) (fun _ _ _ h => h) (yLoad (by kernel_rfl) 34 (.tmp 73) rfl w.heap.size 10 (by kernel_rfl) _ (fun w' h => h 10) _ Try.underlying34 rfl) hS ?_
        refine wpAnyH_take (i := 22) (v := .pointer (some ⟨w.heap.size, 11, none⟩)) rfl (by kernel_rfl) (by kernel_rfl) (by kernel_rfl) (fun _ _ _ h => h) (.inl ⟨by kernel_rfl, fun w' _ => by kernel_rfl⟩) hS ?_
        refine wpAnyH_take (i := 23) (v := .int .u64 m.pt) rfl (by kernel_rfl) (by kernel_rfl) (by kernel_rfl) (fun _ _ _ h => h) (yLoad (by kernel_rfl) 34 (.tmp 75) rfl w.heap.size 11 (by kernel_rfl) _ (fun w' h => h 11) _ Try.underlying34 rfl) hS ?_
        refine wpAnyH_take (i := 24) (v := .pointer (some ⟨w.heap.size, 13, none⟩)) rfl (by kernel_rfl) (by kernel_rfl) (by kernel_rfl) (fun _ _ _ h => h) (.inl ⟨by kernel_rfl, fun w' _ => by kernel_rfl⟩) hS ?_
        refine wpAnyH_take (i := 25) (v := .int .u64 m.commit) rfl (by kernel_rfl) (by kernel_rfl) (by kernel_rfl) (fun _ _ _ h => h) (yLoad (by kernel_rfl) 34 (.tmp 77) rfl w.heap.size 13 (by kernel_rfl) _ (fun w' h => h 13) _ Try.underlying34 rfl) hS ?_
        refine wpAnyH_take (i := 26) (v := .pointer (some ⟨w.heap.size, 14, none⟩)) rfl (by kernel_rfl) (by kernel_rfl) (by kernel_rfl) (fun _ _ _ h => h) (.inl ⟨by kernel_rfl, fun w' _ => by kernel_rfl⟩) hS ?_
        refine wpAnyH_take (i := 27) (v := .int .u64 m.round) rfl (by kernel_rfl) (by kernel_rfl) (by kernel_rfl) (fun _ _ _ h => h) (yLoad (by kernel_rfl) 34 (.tmp 79) rfl w.heap.size 14 (by kernel_rfl) _ (fun w' h => h 14) _ Try.underlying34 rfl) hS ?_
        refine wpAnyH_take (i := 28) (v := .pointer (some ⟨w.heap.size, 15, none⟩)) rfl (by kernel_rfl) (by kernel_rfl) (by kernel_rfl) (fun _ _ _ h => h) (.inl ⟨by kernel_rfl, fun w' _ => by kernel_rfl⟩) hS ?_
        refine wpAnyH_take (i := 29) (v := .bool m.success) rfl (by kernel_rfl) (by kernel_rfl) (by kernel_rfl) (fun _ _ _ h => h) (yLoad (by kernel_rfl) 4 (.tmp 81) rfl w.heap.size 15 (by kernel_rfl) _ (fun w' h => h 15) _ Try.underlying4 rfl) hS ?_
        refine wpAnyH_take (i := 30) (v := .pointer (some ⟨w.heap.size, 16, none⟩)) rfl (by kernel_rfl) (by kernel_rfl) (by kernel_rfl) (fun _ _ _ h => h) (.inl ⟨by kernel_rfl, fun w' _ => by kernel_rfl⟩) hS ?_
        refine wpAnyH_take (i := 31) (v := .int .u64 m.index) rfl (by kernel_rfl) (by kernel_rfl) (by kernel_rfl) (fun _ _ _ h => h) (yLoad (by kernel_rfl) 34 (.tmp 83) rfl w.heap.size 16 (by kernel_rfl) _ (fun w' h => h 16) _ Try.underlying34 rfl) hS ?_
        refine wpAnyH_take (i := 32) (v := .pointer (some ⟨w.heap.size, 17, none⟩)) rfl (by kernel_rfl) (by kernel_rfl) (by kernel_rfl) (fun _ _ _ h => h) (.inl ⟨by kernel_rfl, fun w' _ => by kernel_rfl⟩) hS ?_
        refine wpAnyH_take (i := 33) (v := .int .u64 m.offset) rfl (by kernel_rfl) (by kernel_rfl) (by kernel_rfl) (fun _ _ _ h => h) (yLoad (by kernel_rfl) 34 (.tmp 85) rfl w.heap.size 17 (by kernel_rfl) _ (fun w' h => h 17) _ Try.underlying34 rfl) hS ?_
        refine wpAnyH_take (i := 34) (v := .pointer (some ⟨w.heap.size, 18, none⟩)) rfl (by kernel_rfl) (by kernel_rfl) (by kernel_rfl) (fun _ _ _ h => h) (.inl ⟨by kernel_rfl, fun w' _ => by kernel_rfl⟩) hS ?_
        refine wpAnyH_take (i := 35) (v := .slice da' m.data.length dc') rfl (by kernel_rfl) (by kernel_rfl) (by kernel_rfl) (fun _ _ _ h => h) (yLoad (by kernel_rfl) 22 (.tmp 87) rfl w.heap.size 18 (by kernel_rfl) _ (fun w' h => h 18) _ Try.underlying22 rfl) hS ?_
        refine wpAnyH_take (i := 37) (v := .pointer (some ⟨w.heap.size, 19, none⟩)) rfl (by kernel_rfl) (by kernel_rfl) (by kernel_rfl) (fun _ _ _ h => h) (.inl ⟨by kernel_rfl, fun w' _ => by kernel_rfl⟩) hS ?_
        refine wpAnyH_take (i := 38) (v := .bool m.done) rfl (by kernel_rfl) (by kernel_rfl) (by kernel_rfl) (fun _ _ _ h => h) (yLoad (by kernel_rfl) 4 (.tmp 90) rfl w.heap.size 19 (by kernel_rfl) _ (fun w' h => h 19) _ Try.underlying4 rfl) hS ?_
        refine wpAnyH_act (l' := #[true, true, true, true, true, true, true, true, true, true, true, true, true, true, true, true, true, true, true, true, true, true, true, true, true, true, true, true, true, true, true, true, true, true, true, true, false, true, true, false, false, false]) (a' := ⟨#[.slice a2 n2 c2, .agg (mcells m (.slice ea m.es.length ec) (.slice da m.data.length dc)), undef, .pointer (some ⟨w.heap.size, 0, none⟩), u4, .int .i64 t, .int .i64 m.es.length, .slice a7 n7 c7, undef, undef, undef, undef, undef, .slice ba bs.length bc, .agg (mcells m (.slice ea m.es.length ec) (.slice da m.data.length dc)), .bool true, .bool false, .slice ba bs.length bc, .int .i64 bs.length, .int .i64 bs.length, .bool (decide ((1048576 : Int) < bs.length)), .int .i64 bs.length, .pointer (some ⟨w.heap.size, 18, none⟩), .slice da m.data.length dc, .int .i64 m.data.length, .int .i64 ((bs.length : Int) + m.data.length), .int .i64 ((bs.length : Int) + m.data.length), .bool (decide ((1048576 : Int) < (bs.length : Int) + m.data.length)), .int .i64 m.es.length, .pointer (some ⟨w.heap.size, 12, none⟩), .slice ea m.es.length ec, .int .i64 m.es.length, .bool false, u33, u34, u35, u36, u37, u38, u39, u40, u41, u42, u43, u44, u45, u46, .slice ba bs.length bc, .slice a2 n2 c2, .agg (mcells m (.slice ea m.es.length ec) (.slice da m.data.length dc)), .agg (mcells m (.slice ea' m.es.length ec') (.slice da' m.data.length dc')), .slice a2 n2 c2, .slice a7 n7 c7, .pointer (some ⟨w.heap.size, 0, none⟩), .int .u8 m.kind, .pointer (some ⟨w.heap.size, 1, none⟩), .int .u64 m.from_, .pointer (some ⟨w.heap.size, 2, none⟩), .int .u64 m.to_, .pointer (some ⟨w.heap.size, 3, none⟩), .int .u64 m.term, .pointer (some ⟨w.heap.size, 4, none⟩), .int .u64 m.cluster, .pointer (some ⟨w.heap.size, 5, none⟩), .int .u64 m.li, .pointer (some ⟨w.heap.size, 6, none⟩), .int .u64 m.lt, .pointer (some ⟨w.heap.size, 7, none⟩), .bool m.granted, .pointer (some ⟨w.heap.size, 8, none⟩), .bool m.pre, .pointer (some ⟨w.heap.size, 9, none⟩), .bool m.transfer, .pointer (some ⟨w.heap.size, 10, none⟩), .int .u64 m.pi, .pointer (some ⟨w.heap.size, 11, none⟩), .int .u64 m.pt, .pointer (some ⟨w.heap.size, 13, none⟩), .int .u64 m.commit, .pointer (some ⟨w.heap.size, 14, none⟩), .int .u64 m.round, .pointer (some ⟨w.heap.size, 15, none⟩), .bool m.success, .pointer (some ⟨w.heap.size, 16, none⟩), .int .u64 m.index, .pointer (some ⟨w.heap.size, 17, none⟩), .int .u64 m.offset, .pointer (some ⟨w.heap.size, 18, none⟩), .slice da' m.data.length dc', undef, .pointer (some ⟨w.heap.size, 19, none⟩), .bool m.done, undef, undef, undef, undef, undef, undef, undef, undef, undef, undef, undef, undef, undef, undef, undef, undef, undef, undef, undef, undef, undef, undef, undef, undef, undef, undef, undef, undef, undef, undef, undef, undef, undef, undef, undef, undef, undef, undef, undef, undef, undef, undef, undef, undef, undef, undef, undef, undef, undef, undef, undef, undef, undef, undef, undef, undef, undef, undef, undef, undef, undef, undef, undef, undef, undef, undef, undef, undef, undef, undef, undef, undef, undef, undef], []⟩) (by kernel_rfl) (by kernel_rfl) ?_
        have hSk : ∀ w', Below w5.heap.size w5 w' → ∀ o, w'.cell? ⟨w.heap.size, o, none⟩ = (mcells m (.slice ea' m.es.length ec') (.slice da' m.data.length dc'))[o]? := fun w' hb o => (hb.cell (p := ⟨w.heap.size, o, none⟩) (show w.heap.size < w5.heap.size by omega)).trans (cell_of_row w5 _ o _ _ _ hbx5)
        have hBd : Below w5.heap.size w5 w5.drew := below_drew (Below.refl _ _)
        refine wpAnyH_all (rs := [36, 40]) (by kernel_rfl) (by simp) ?_
        intro i hi
        obtain rfl | rfl : i = 36 ∨ i = 40 := by simpa using hi
        · refine .inl ?_
          refine wp_call 10 #[.tmp 88] #[22] rfl #[.slice da' m.data.length dc'] (by kernel_rfl) (enter10 _ _) (cloneBytes _ m.data w5.drew (hD5.1.below hBd) (by have := hbo.d; omega)) ?_
          rintro e w6 ⟨hB6, v8, rfl, hm8, ho8⟩
          obtain ⟨da8, n8, c8, rfl⟩ := hm8.shape
          have hBc : Below w5.heap.size w5 w6 := hBd.trans hB6
          have hz6 := hBc.size
          refine ⟨_, rfl, hSk _ hBc, ?_⟩
          refine wpAnyH_act (l' := #[true, true, true, true, true, true, true, true, true, true, true, true, true, true, true, true, true, true, true, true, true, true, true, true, true, true, true, true, true, true, true, true, true, true, true, true, true, true, true, false, false, false]) (a' := ⟨#[.slice a2 n2 c2, .agg (mcells m (.slice ea m.es.length ec) (.slice da m.data.length dc)), undef, .pointer (some ⟨w.heap.size, 0, none⟩), u4, .int .i64 t, .int .i64 m.es.length, .slice a7 n7 c7, undef, undef, undef, undef, undef, .slice ba bs.length bc, .agg (mcells m (.slice ea m.es.length ec) (.slice da m.data.length dc)), .bool true, .bool false, .slice ba bs.length bc, .int .i64 bs.length, .int .i64 bs.length, .bool (decide ((1048576 : Int) < bs.length)), .int .i64 bs.length, .pointer (some ⟨w.heap.size, 18, none⟩), .slice da m.data.length dc, .int .i64 m.data.length, .int .i64 ((bs.length : Int) + m.data.length), .int .i64 ((bs.length : Int) + m.data.length), .bool (decide ((1048576 : Int) < (bs.length : Int) + m.data.length)), .int .i64 m.es.length, .pointer (some ⟨w.heap.size, 12, none⟩), .slice ea m.es.length ec, .int .i64 m.es.length, .bool false, u33, u34, u35, u36, u37, u38, u39, u40, u41, u42, u43, u44, u45, u46, .slice ba bs.length bc, .slice a2 n2 c2, .agg (mcells m (.slice ea m.es.length ec) (.slice da m.data.length dc)), .agg (mcells m (.slice ea' m.es.length ec') (.slice da' m.data.length dc')), .slice a2 n2 c2, .slice a7 n7 c7, .pointer (some ⟨w.heap.size, 0, none⟩), .int .u8 m.kind, .pointer (some ⟨w.heap.size, 1, none⟩), .int .u64 m.from_, .pointer (some ⟨w.heap.size, 2, none⟩), .int .u64 m.to_, .pointer (some ⟨w.heap.size, 3, none⟩), .int .u64 m.term, .pointer (some ⟨w.heap.size, 4, none⟩), .int .u64 m.cluster, .pointer (some ⟨w.heap.size, 5, none⟩), .int .u64 m.li, .pointer (some ⟨w.heap.size, 6, none⟩), .int .u64 m.lt, .pointer (some ⟨w.heap.size, 7, none⟩), .bool m.granted, .pointer (some ⟨w.heap.size, 8, none⟩), .bool m.pre, .pointer (some ⟨w.heap.size, 9, none⟩), .bool m.transfer, .pointer (some ⟨w.heap.size, 10, none⟩), .int .u64 m.pi, .pointer (some ⟨w.heap.size, 11, none⟩), .int .u64 m.pt, .pointer (some ⟨w.heap.size, 13, none⟩), .int .u64 m.commit, .pointer (some ⟨w.heap.size, 14, none⟩), .int .u64 m.round, .pointer (some ⟨w.heap.size, 15, none⟩), .bool m.success, .pointer (some ⟨w.heap.size, 16, none⟩), .int .u64 m.index, .pointer (some ⟨w.heap.size, 17, none⟩), .int .u64 m.offset, .pointer (some ⟨w.heap.size, 18, none⟩), .slice da' m.data.length dc', .slice da8 n8 c8, .pointer (some ⟨w.heap.size, 19, none⟩), .bool m.done, undef, undef, undef, undef, undef, undef, undef, undef, undef, undef, undef, undef, undef, undef, undef, undef, undef, undef, undef, undef, undef, undef, undef, undef, undef, undef, undef, undef, undef, undef, undef, undef, undef, undef, undef, undef, undef, undef, undef, undef, undef, undef, undef, undef, undef, undef, undef, undef, undef, undef, undef, undef, undef, undef, undef, undef, undef, undef, undef, undef, undef, undef, undef, undef, undef, undef, undef, undef, undef, undef, undef, undef, undef, undef], []⟩) (by kernel_rfl) (by kernel_rfl) ?_
          refine wpAnyH_all (rs := [39, 40]) (by kernel_rfl) (by simp) ?_
          intro i hi
          obtain rfl | rfl : i = 39 ∨ i = 40 := by simpa using hi
          · refine .inl ?_
            refine wp_call 29 #[.tmp 54, .tmp 56, .tmp 58, .tmp 60, .tmp 62, .tmp 64, .tmp 66, .tmp 68, .tmp 70, .tmp 72, .tmp 74, .tmp 76, .tmp 78, .tmp 80, .tmp 82, .tmp 84, .tmp 86, .tmp 89, .tmp 91] #[5, 34, 34, 34, 34, 34, 34, 4, 4, 4, 34, 34, 34, 34, 4, 34, 34, 22, 4] rfl #[.int .u8 m.kind, .int .u64 m.from_, .int .u64 m.to_, .int .u64 m.term, .int .u64 m.cluster, .int .u64 m.li, .int .u64 m.lt, .bool m.granted, .bool m.pre, .bool m.transfer, .int .u64 m.pi, .int .u64 m.pt, .int .u64 m.commit, .int .u64 m.round, .bool m.success, .int .u64 m.index, .int .u64 m.offset, .slice da8 n8 c8, .bool m.done] (by kernel_rfl) (enter29 _ _) (newMessage m da8 n8 c8 w6) ?_
            rintro e w7 ⟨rfl, hB7⟩
            have hBn : Below w5.heap.size w5 w7 := hBc.trans (hB7.mono hz6)
            have hz7 := hB7.size
            refine ⟨_, rfl, hSk _ hBn, ?_⟩
            refine wpAnyH_act (l' := #[true, true, true, true, true, true, true, true, true, true, true, true, true, true, true, true, true, true, true, true, true, true, true, true, true, true, true, true, true, true, true, true, true, true, true, true, true, true, true, true, false, false]) (a' := ⟨#[.slice a2 n2 c2, .agg (mcells m (.slice ea m.es.length ec) (.slice da m.data.length dc)), undef, .pointer (some ⟨w.heap.size, 0, none⟩), u4, .int .i64 t, .int .i64 m.es.length, .slice a7 n7 c7, undef, undef, undef, undef, undef, .slice ba bs.length bc, .agg (mcells m (.slice ea m.es.length ec) (.slice da m.data.length dc)), .bool true, .bool false, .slice ba bs.length bc, .int .i64 bs.length, .int .i64 bs.length, .bool (decide ((1048576 : Int) < bs.length)), .int .i64 bs.length, .pointer (some ⟨w.heap.size, 18, none⟩), .slice da m.data.length dc, .int .i64 m.data.length, .int .i64 ((bs.length : Int) + m.data.length), .int .i64 ((bs.length : Int) + m.data.length), .bool (decide ((1048576 : Int) < (bs.length : Int) + m.data.length)), .int .i64 m.es.length, .pointer (some ⟨w.heap.size, 12, none⟩), .slice ea m.es.length ec, .int .i64 m.es.length, .bool false, u33, u34, u35, u36, u37, u38, u39, u40, u41, u42, u43, u44, u45, u46, .slice ba bs.length bc, .slice a2 n2 c2, .agg (mcells m (.slice ea m.es.length ec) (.slice da m.data.length dc)), .agg (mcells m (.slice ea' m.es.length ec') (.slice da' m.data.length dc')), .slice a2 n2 c2, .slice a7 n7 c7, .pointer (some ⟨w.heap.size, 0, none⟩), .int .u8 m.kind, .pointer (some ⟨w.heap.size, 1, none⟩), .int .u64 m.from_, .pointer (some ⟨w.heap.size, 2, none⟩), .int .u64 m.to_, .pointer (some ⟨w.heap.size, 3, none⟩), .int .u64 m.term, .pointer (some ⟨w.heap.size, 4, none⟩), .int .u64 m.cluster, .pointer (some ⟨w.heap.size, 5, none⟩), .int .u64 m.li, .pointer (some ⟨w.heap.size, 6, none⟩), .int .u64 m.lt, .pointer (some ⟨w.heap.size, 7, none⟩), .bool m.granted, .pointer (some ⟨w.heap.size, 8, none⟩), .bool m.pre, .pointer (some ⟨w.heap.size, 9, none⟩), .bool m.transfer, .pointer (some ⟨w.heap.size, 10, none⟩), .int .u64 m.pi, .pointer (some ⟨w.heap.size, 11, none⟩), .int .u64 m.pt, .pointer (some ⟨w.heap.size, 13, none⟩), .int .u64 m.commit, .pointer (some ⟨w.heap.size, 14, none⟩), .int .u64 m.round, .pointer (some ⟨w.heap.size, 15, none⟩), .bool m.success, .pointer (some ⟨w.heap.size, 16, none⟩), .int .u64 m.index, .pointer (some ⟨w.heap.size, 17, none⟩), .int .u64 m.offset, .pointer (some ⟨w.heap.size, 18, none⟩), .slice da' m.data.length dc', .slice da8 n8 c8, .pointer (some ⟨w.heap.size, 19, none⟩), .bool m.done, .agg (mcells m (.slice none 0 0) (.slice da8 n8 c8)), undef, undef, undef, undef, undef, undef, undef, undef, undef, undef, undef, undef, undef, undef, undef, undef, undef, undef, undef, undef, undef, undef, undef, undef, undef, undef, undef, undef, undef, undef, undef, undef, undef, undef, undef, undef, undef, undef, undef, undef, undef, undef, undef, undef, undef, undef, undef, undef, undef, undef, undef, undef, undef, undef, undef, undef, undef, undef, undef, undef, undef, undef, undef, undef, undef, undef, undef, undef, undef, undef, undef, undef, undef], []⟩) (by kernel_rfl) (by kernel_rfl) ?_
            refine wpAnyH_all (rs := [40]) (by kernel_rfl) (by simp) ?_
            intro i hi
            obtain rfl : i = 40 := by simpa using hi
            refine .inl ?_
            refine wp_alloc58 rfl ?_
            have hBF := hBn.alloc (Nat.le_trans hz6 hz7) (.cells ZeroMsg 58)
            have hbm : w5.heap.size ≤ w7.heap.size := by omega
            have hRF : RAt (fun b => w5.heap.size ≤ b ∧ b ≠ w7.heap.size) (w7.alloc (.cells ZeroMsg 58)) (.slice da8 n8 c8) m.data := ⟨(hm8.of_block fun g hg => (Below.heap_alloc _ _ _ (by have := hm8.lt g hg; omega)).trans (hB7.block g (hm8.lt g hg))).reads, fun _ b hb => ⟨ho8 b hb, by have := hm8.lt b hb; omega⟩⟩
            have hzz := heap_alloc_new w7 (.cells ZeroMsg 58)
            refine ⟨hSk _ hBF, ?_⟩
            refine wpAnyH_act (l' := #[true, true, true, true, true, true, true, true, true, true, true, true, true, true, true, true, true, true, true, true, true, true, true, true, true, true, true, true, true, true, true, true, true, true, true, true, true, true, true, true, true, false]) (a' := ⟨#[.slice a2 n2 c2, .agg (mcells m (.slice ea m.es.length ec) (.slice da m.data.length dc)), undef, .pointer (some ⟨w.heap.size, 0, none⟩), u4, .int .i64 t, .int .i64 m.es.length, .slice a7 n7 c7, .pointer (some ⟨w7.heap.size, 0, none⟩), undef, undef, undef, undef, .slice ba bs.length bc, .agg (mcells m (.slice ea m.es.length ec) (.slice da m.data.length dc)), .bool true, .bool false, .slice ba bs.length bc, .int .i64 bs.length, .int .i64 bs.length, .bool (decide ((1048576 : Int) < bs.length)), .int .i64 bs.length, .pointer (some ⟨w.heap.size, 18, none⟩), .slice da m.data.length dc, .int .i64 m.data.length, .int .i64 ((bs.length : Int) + m.data.length), .int .i64 ((bs.length : Int) + m.data.length), .bool (decide ((1048576 : Int) < (bs.length : Int) + m.data.length)), .int .i64 m.es.length, .pointer (some ⟨w.heap.size, 12, none⟩), .slice ea m.es.length ec, .int .i64 m.es.length, .bool false, u33, u34, u35, u36, u37, u38, u39, u40, u41, u42, u43, u44, u45, u46, .slice ba bs.length bc, .slice a2 n2 c2, .agg (mcells m (.slice ea m.es.length ec) (.slice da m.data.length dc)), .agg (mcells m (.slice ea' m.es.length ec') (.slice da' m.data.length dc')), .slice a2 n2 c2, .slice a7 n7 c7, .pointer (some ⟨w.heap.size, 0, none⟩), .int .u8 m.kind, .pointer (some ⟨w.heap.size, 1, none⟩), .int .u64 m.from_, .pointer (some ⟨w.heap.size, 2, none⟩), .int .u64 m.to_, .pointer (some ⟨w.heap.size, 3, none⟩), .int .u64 m.term, .pointer (some ⟨w.heap.size, 4, none⟩), .int .u64 m.cluster, .pointer (some ⟨w.heap.size, 5, none⟩), .int .u64 m.li, .pointer (some ⟨w.heap.size, 6, none⟩), .int .u64 m.lt, .pointer (some ⟨w.heap.size, 7, none⟩), .bool m.granted, .pointer (some ⟨w.heap.size, 8, none⟩), .bool m.pre, .pointer (some ⟨w.heap.size, 9, none⟩), .bool m.transfer, .pointer (some ⟨w.heap.size, 10, none⟩), .int .u64 m.pi, .pointer (some ⟨w.heap.size, 11, none⟩), .int .u64 m.pt, .pointer (some ⟨w.heap.size, 13, none⟩), .int .u64 m.commit, .pointer (some ⟨w.heap.size, 14, none⟩), .int .u64 m.round, .pointer (some ⟨w.heap.size, 15, none⟩), .bool m.success, .pointer (some ⟨w.heap.size, 16, none⟩), .int .u64 m.index, .pointer (some ⟨w.heap.size, 17, none⟩), .int .u64 m.offset, .pointer (some ⟨w.heap.size, 18, none⟩), .slice da' m.data.length dc', .slice da8 n8 c8, .pointer (some ⟨w.heap.size, 19, none⟩), .bool m.done, .agg (mcells m (.slice none 0 0) (.slice da8 n8 c8)), undef, undef, undef, undef, undef, undef, undef, undef, undef, undef, undef, undef, undef, undef, undef, undef, undef, undef, undef, undef, undef, undef, undef, undef, undef, undef, undef, undef, undef, undef, undef, undef, undef, undef, undef, undef, undef, undef, undef, undef, undef, undef, undef, undef, undef, undef, undef, undef, undef, undef, undef, undef, undef, undef, undef, undef, undef, undef, undef, undef, undef, undef, undef, undef, undef, undef, undef, undef, undef, undef, undef, undef, undef], []⟩) (by kernel_rfl) (by kernel_rfl) ?_
            refine wpAnyH_all (rs := [41]) (by kernel_rfl) (by simp) ?_
            intro i hi
            obtain rfl : i = 41 := by simpa using hi
            refine .inl ?_
            refine wp_store58b rfl w7.heap.size m da8 n8 c8 (by kernel_rfl) (by kernel_rfl) hzz ?_
            refine ⟨hSk _ (hBF.trans ((World.kept_setRow _ _ _).below hBF.size (fun k h => by omega))), ?_⟩
            refine wpAnyH_act (l' := #[true, true, true, true, true, true, true, true, true, true, true, true, true, true, true, true, true, true, true, true, true, true, true, true, true, true, true, true, true, true, true, true, true, true, true, true, true, true, true, true, true, true]) (a' := ⟨#[.slice a2 n2 c2, .agg (mcells m (.slice ea m.es.length ec) (.slice da m.data.length dc)), undef, .pointer (some ⟨w.heap.size, 0, none⟩), u4, .int .i64 t, .int .i64 m.es.length, .slice a7 n7 c7, .pointer (some ⟨w7.heap.size, 0, none⟩), undef, undef, undef, undef, .slice ba bs.length bc, .agg (mcells m (.slice ea m.es.length ec) (.slice da m.data.length dc)), .bool true, .bool false, .slice ba bs.length bc, .int .i64 bs.length, .int .i64 bs.length, .bool (decide ((1048576 : Int) < bs.length)), .int .i64 bs.length, .pointer (some ⟨w.heap.size, 18, none⟩), .slice da m.data.length dc, .int .i64 m.data.length, .int .i64 ((bs.length : Int) + m.data.length), .int .i64 ((bs.length : Int) + m.data.length), .bool (decide ((1048576 : Int) < (bs.length : Int) + m.data.length)), .int .i64 m.es.length, .pointer (some ⟨w.heap.size, 12, none⟩), .slice ea m.es.length ec, .int .i64 m.es.length, .bool false, u33, u34, u35, u36, u37, u38, u39, u40, u41, u42, u43, u44, u45, u46, .slice ba bs.length bc, .slice a2 n2 c2, .agg (mcells m (.slice ea m.es.length ec) (.slice da m.data.length dc)), .agg (mcells m (.slice ea' m.es.length ec') (.slice da' m.data.length dc')), .slice a2 n2 c2, .slice a7 n7 c7, .pointer (some ⟨w.heap.size, 0, none⟩), .int .u8 m.kind, .pointer (some ⟨w.heap.size, 1, none⟩), .int .u64 m.from_, .pointer (some ⟨w.heap.size, 2, none⟩), .int .u64 m.to_, .pointer (some ⟨w.heap.size, 3, none⟩), .int .u64 m.term, .pointer (some ⟨w.heap.size, 4, none⟩), .int .u64 m.cluster, .pointer (some ⟨w.heap.size, 5, none⟩), .int .u64 m.li, .pointer (some ⟨w.heap.size, 6, none⟩), .int .u64 m.lt, .pointer (some ⟨w.heap.size, 7, none⟩), .bool m.granted, .pointer (some ⟨w.heap.size, 8, none⟩), .bool m.pre, .pointer (some ⟨w.heap.size, 9, none⟩), .bool m.transfer, .pointer (some ⟨w.heap.size, 10, none⟩), .int .u64 m.pi, .pointer (some ⟨w.heap.size, 11, none⟩), .int .u64 m.pt, .pointer (some ⟨w.heap.size, 13, none⟩), .int .u64 m.commit, .pointer (some ⟨w.heap.size, 14, none⟩), .int .u64 m.round, .pointer (some ⟨w.heap.size, 15, none⟩), .bool m.success, .pointer (some ⟨w.heap.size, 16, none⟩), .int .u64 m.index, .pointer (some ⟨w.heap.size, 17, none⟩), .int .u64 m.offset, .pointer (some ⟨w.heap.size, 18, none⟩), .slice da' m.data.length dc', .slice da8 n8 c8, .pointer (some ⟨w.heap.size, 19, none⟩), .bool m.done, .agg (mcells m (.slice none 0 0) (.slice da8 n8 c8)), undef, undef, undef, undef, undef, undef, undef, undef, undef, undef, undef, undef, undef, undef, undef, undef, undef, undef, undef, undef, undef, undef, undef, undef, undef, undef, undef, undef, undef, undef, undef, undef, undef, undef, undef, undef, undef, undef, undef, undef, undef, undef, undef, undef, undef, undef, undef, undef, undef, undef, undef, undef, undef, undef, undef, undef, undef, undef, undef, undef, undef, undef, undef, undef, undef, undef, undef, undef, undef, undef, undef, undef, undef], []⟩) (by kernel_rfl) (by kernel_rfl) ?_
            refine wpAnyH_done (by kernel_rfl) ?_ _
            dsimp only
            go_wp2
            go_meet
            exact mmade_end hbm hBF hzz hRF
          · refine .inl ?_
            refine wp_alloc58 rfl ?_
            have hBn := hBc.alloc hz6 (.cells ZeroMsg 58)
            have hz6' : (w6.alloc (.cells ZeroMsg 58)).heap.size = w6.heap.size + 1 := World.size_alloc _ _
            have hzz0 := heap_alloc_new w6 (.cells ZeroMsg 58)
            have hr0 : Mine (w6.alloc (.cells ZeroMsg 58)) (.slice da8 n8 c8) (byts m.data) := hm8.alloc _
            refine ⟨hSk _ hBn, ?_⟩
            refine wpAnyH_act (l' := #[true, true, true, true, true, true, true, true, true, true, true, true, true, true, true, true, true, true, true, true, true, true, true, true, true, true, true, true, true, true, true, true, true, true, true, true, true, true, true, false, true, false]) (a' := ⟨#[.slice a2 n2 c2, .agg (mcells m (.slice ea m.es.length ec) (.slice da m.data.length dc)), undef, .pointer (some ⟨w.heap.size, 0, none⟩), u4, .int .i64 t, .int .i64 m.es.length, .slice a7 n7 c7, .pointer (some ⟨w6.heap.size, 0, none⟩), undef, undef, undef, undef, .slice ba bs.length bc, .agg (mcells m (.slice ea m.es.length ec) (.slice da m.data.length dc)), .bool true, .bool false, .slice ba bs.length bc, .int .i64 bs.length, .int .i64 bs.length, .bool (decide ((1048576 : Int) < bs.length)), .int .i64 bs.length, .pointer (some ⟨w.heap.size, 18, none⟩), .slice da m.data.length dc, .int .i64 m.data.length, .int .i64 ((bs.length : Int) + m.data.length), .int .i64 ((bs.length : Int) + m.data.length), .bool (decide ((1048576 : Int) < (bs.length : Int) + m.data.length)), .int .i64 m.es.length, .pointer (some ⟨w.heap.size, 12, none⟩), .slice ea m.es.length ec, .int .i64 m.es.length, .bool false, u33, u34, u35, u36, u37, u38, u39, u40, u41, u42, u43, u44, u45, u46, .slice ba bs.length bc, .slice a2 n2 c2, .agg (mcells m (.slice ea m.es.length ec) (.slice da m.data.length dc)), .agg (mcells m (.slice ea' m.es.length ec') (.slice da' m.data.length dc')), .slice a2 n2 c2, .slice a7 n7 c7, .pointer (some ⟨w.heap.size, 0, none⟩), .int .u8 m.kind, .pointer (some ⟨w.heap.size, 1, none⟩), .int .u64 m.from_, .pointer (some ⟨w.heap.size, 2, none⟩), .int .u64 m.to_, .pointer (some ⟨w.heap.size, 3, none⟩), .int .u64 m.term, .pointer (some ⟨w.heap.size, 4, none⟩), .int .u64 m.cluster, .pointer (some ⟨w.heap.size, 5, none⟩), .int .u64 m.li, .pointer (some ⟨w.heap.size, 6, none⟩), .int .u64 m.lt, .pointer (some ⟨w.heap.size, 7, none⟩), .bool m.granted, .pointer (some ⟨w.heap.size, 8, none⟩), .bool m.pre, .pointer (some ⟨w.heap.size, 9, none⟩), .bool m.transfer, .pointer (some ⟨w.heap.size, 10, none⟩), .int .u64 m.pi, .pointer (some ⟨w.heap.size, 11, none⟩), .int .u64 m.pt, .pointer (some ⟨w.heap.size, 13, none⟩), .int .u64 m.commit, .pointer (some ⟨w.heap.size, 14, none⟩), .int .u64 m.round, .pointer (some ⟨w.heap.size, 15, none⟩), .bool m.success, .pointer (some ⟨w.heap.size, 16, none⟩), .int .u64 m.index, .pointer (some ⟨w.heap.size, 17, none⟩), .int .u64 m.offset, .pointer (some ⟨w.heap.size, 18, none⟩), .slice da' m.data.length dc', .slice da8 n8 c8, .pointer (some ⟨w.heap.size, 19, none⟩), .bool m.done, undef, undef, undef, undef, undef, undef, undef, undef, undef, undef, undef, undef, undef, undef, undef, undef, undef, undef, undef, undef, undef, undef, undef, undef, undef, undef, undef, undef, undef, undef, undef, undef, undef, undef, undef, undef, undef, undef, undef, undef, undef, undef, undef, undef, undef, undef, undef, undef, undef, undef, undef, undef, undef, undef, undef, undef, undef, undef, undef, undef, undef, undef, undef, undef, undef, undef, undef, undef, undef, undef, undef, undef, undef, undef], []⟩) (by kernel_rfl) (by kernel_rfl) ?_
            refine wpAnyH_all (rs := [39]) (by kernel_rfl) (by simp) ?_
            intro i hi
            obtain rfl : i = 39 := by simpa using hi
            refine .inl ?_
            refine wp_call 29 #[.tmp 54, .tmp 56, .tmp 58, .tmp 60, .tmp 62, .tmp 64, .tmp 66, .tmp 68, .tmp 70, .tmp 72, .tmp 74, .tmp 76, .tmp 78, .tmp 80, .tmp 82, .tmp 84, .tmp 86, .tmp 89, .tmp 91] #[5, 34, 34, 34, 34, 34, 34, 4, 4, 4, 34, 34, 34, 34, 4, 34, 34, 22, 4] rfl #[.int .u8 m.kind, .int .u64 m.from_, .int .u64 m.to_, .int .u64 m.term, .int .u64 m.cluster, .int .u64 m.li, .int .u64 m.lt, .bool m.granted, .bool m.pre, .bool m.transfer, .int .u64 m.pi, .int .u64 m.pt, .int .u64 m.commit, .int .u64 m.round, .bool m.success, .int .u64 m.index, .int .u64 m.offset, .slice da8 n8 c8, .bool m.done] (by kernel_rfl) (enter29 _ _) (newMessage m da8 n8 c8 (w6.alloc (.cells ZeroMsg 58))) ?_
            rintro e w7 ⟨rfl, hB7⟩
            have hBF : Below w5.heap.size w5 w7 := hBn.trans (hB7.mono (by omega))
            have hbm : w5.heap.size ≤ w6.heap.size := hz6
            have hzz := (hB7.block w6.heap.size (by omega)).trans hzz0
            have hRF : RAt (fun b => w5.heap.size ≤ b ∧ b ≠ w6.heap.size) w7 (.slice da8 n8 c8) m.data := ⟨(hr0.of_block fun g hg => hB7.block g (hr0.lt g hg)).reads, fun _ b hb => ⟨ho8 b hb, by have := hm8.lt b hb; omega⟩⟩
            refine ⟨_, rfl, hSk _ hBF, ?_⟩
            refine wpAnyH_act (l' := #[true, true, true, true, true, true, true, true, true, true, true, true, true, true, true, true, true, true, true, true, true, true, true, true, true, true, true, true, true, true, true, true, true, true, true, true, true, true, true, true, true, false]) (a' := ⟨#[.slice a2 n2 c2, .agg (mcells m (.slice ea m.es.length ec) (.slice da m.data.length dc)), undef, .pointer (some ⟨w.heap.size, 0, none⟩), u4, .int .i64 t, .int .i64 m.es.length, .slice a7 n7 c7, .pointer (some ⟨w6.heap.size, 0, none⟩), undef, undef, undef, undef, .slice ba bs.length bc, .agg (mcells m (.slice ea m.es.length ec) (.slice da m.data.length dc)), .bool true, .bool false, .slice ba bs.length bc, .int .i64 bs.length, .int .i64 bs.length, .bool (decide ((1048576 : Int) < bs.length)), .int .i64 bs.length, .pointer (some ⟨w.heap.size, 18, none⟩), .slice da m.data.length dc, .int .i64 m.data.length, .int .i64 ((bs.length : Int) + m.data.length), .int .i64 ((bs.length : Int) + m.data.length), .bool (decide ((1048576 : Int) < (bs.length : Int) + m.data.length)), .int .i64 m.es.length, .pointer (some ⟨w.heap.size, 12, none⟩), .slice ea m.es.length ec, .int .i64 m.es.length, .bool false, u33, u34, u35, u36, u37, u38, u39, u40, u41, u42, u43, u44, u45, u46, .slice ba bs.length bc, .slice a2 n2 c2, .agg (mcells m (.slice ea m.es.length ec) (.slice da m.data.length dc)), .agg (mcells m (.slice ea' m.es.length ec') (.slice da' m.data.length dc')), .slice a2 n2 c2, .slice a7 n7 c7, .pointer (some ⟨w.heap.size, 0, none⟩), .int .u8 m.kind, .pointer (some ⟨w.heap.size, 1, none⟩), .int .u64 m.from_, .pointer (some ⟨w.heap.size, 2, none⟩), .int .u64 m.to_, .pointer (some ⟨w.heap.size, 3, none⟩), .int .u64 m.term, .pointer (some ⟨w.heap.size, 4, none⟩), .int .u64 m.cluster, .pointer (some ⟨w.heap.size, 5, none⟩), .int .u64 m.li, .pointer (some ⟨w.heap.size, 6, none⟩), .int .u64 m.lt, .pointer (some ⟨w.heap.size, 7, none⟩), .bool m.granted, .pointer (some ⟨w.heap.size, 8, none⟩), .bool m.pre, .pointer (some ⟨w.heap.size, 9, none⟩), .bool m.transfer, .pointer (some ⟨w.heap.size, 10, none⟩), .int .u64 m.pi, .pointer (some ⟨w.heap.size, 11, none⟩), .int .u64 m.pt, .pointer (some ⟨w.heap.size, 13, none⟩), .int .u64 m.commit, .pointer (some ⟨w.heap.size, 14, none⟩), .int .u64 m.round, .pointer (some ⟨w.heap.size, 15, none⟩), .bool m.success, .pointer (some ⟨w.heap.size, 16, none⟩), .int .u64 m.index, .pointer (some ⟨w.heap.size, 17, none⟩), .int .u64 m.offset, .pointer (some ⟨w.heap.size, 18, none⟩), .slice da' m.data.length dc', .slice da8 n8 c8, .pointer (some ⟨w.heap.size, 19, none⟩), .bool m.done, .agg (mcells m (.slice none 0 0) (.slice da8 n8 c8)), undef, undef, undef, undef, undef, undef, undef, undef, undef, undef, undef, undef, undef, undef, undef, undef, undef, undef, undef, undef, undef, undef, undef, undef, undef, undef, undef, undef, undef, undef, undef, undef, undef, undef, undef, undef, undef, undef, undef, undef, undef, undef, undef, undef, undef, undef, undef, undef, undef, undef, undef, undef, undef, undef, undef, undef, undef, undef, undef, undef, undef, undef, undef, undef, undef, undef, undef, undef, undef, undef, undef, undef, undef], []⟩) (by kernel_rfl) (by kernel_rfl) ?_
            refine wpAnyH_all (rs := [41]) (by kernel_rfl) (by simp) ?_
            intro i hi
            obtain rfl : i = 41 := by simpa using hi
            refine .inl ?_
            refine wp_store58b rfl w6.heap.size m da8 n8 c8 (by kernel_rfl) (by kernel_rfl) hzz ?_
            refine ⟨hSk _ (hBF.trans ((World.kept_setRow _ _ _).below hBF.size (fun k h => by omega))), ?_⟩
            refine wpAnyH_act (l' := #[true, true, true, true, true, true, true, true, true, true, true, true, true, true, true, true, true, true, true, true, true, true, true, true, true, true, true, true, true, true, true, true, true, true, true, true, true, true, true, true, true, true]) (a' := ⟨#[.slice a2 n2 c2, .agg (mcells m (.slice ea m.es.length ec) (.slice da m.data.length dc)), undef, .pointer (some ⟨w.heap.size, 0, none⟩), u4, .int .i64 t, .int .i64 m.es.length, .slice a7 n7 c7, .pointer (some ⟨w6.heap.size, 0, none⟩), undef, undef, undef, undef, .slice ba bs.length bc, .agg (mcells m (.slice ea m.es.length ec) (.slice da m.data.length dc)), .bool true, .bool false, .slice ba bs.length bc, .int .i64 bs.length, .int .i64 bs.length, .bool (decide ((1048576 : Int) < bs.length)), .int .i64 bs.length, .pointer (some ⟨w.heap.size, 18, none⟩), .slice da m.data.length dc, .int .i64 m.data.length, .int .i64 ((bs.length : Int) + m.data.length), .int .i64 ((bs.length : Int) + m.data.length), .bool (decide ((1048576 : Int) < (bs.length : Int) + m.data.length)), .int .i64 m.es.length, .pointer (some ⟨w.heap.size, 12, none⟩), .slice ea m.es.length ec, .int .i64 m.es.length, .bool false, u33, u34, u35, u36, u37, u38, u39, u40, u41, u42, u43, u44, u45, u46, .slice ba bs.length bc, .slice a2 n2 c2, .agg (mcells m (.slice ea m.es.length ec) (.slice da m.data.length dc)), .agg (mcells m (.slice ea' m.es.length ec') (.slice da' m.data.length dc')), .slice a2 n2 c2, .slice a7 n7 c7, .pointer (some ⟨w.heap.size, 0, none⟩), .int .u8 m.kind, .pointer (some ⟨w.heap.size, 1, none⟩), .int .u64 m.from_, .pointer (some ⟨w.heap.size, 2, none⟩), .int .u64 m.to_, .pointer (some ⟨w.heap.size, 3, none⟩), .int .u64 m.term, .pointer (some ⟨w.heap.size, 4, none⟩), .int .u64 m.cluster, .pointer (some ⟨w.heap.size, 5, none⟩), .int .u64 m.li, .pointer (some ⟨w.heap.size, 6, none⟩), .int .u64 m.lt, .pointer (some ⟨w.heap.size, 7, none⟩), .bool m.granted, .pointer (some ⟨w.heap.size, 8, none⟩), .bool m.pre, .pointer (some ⟨w.heap.size, 9, none⟩), .bool m.transfer, .pointer (some ⟨w.heap.size, 10, none⟩), .int .u64 m.pi, .pointer (some ⟨w.heap.size, 11, none⟩), .int .u64 m.pt, .pointer (some ⟨w.heap.size, 13, none⟩), .int .u64 m.commit, .pointer (some ⟨w.heap.size, 14, none⟩), .int .u64 m.round, .pointer (some ⟨w.heap.size, 15, none⟩), .bool m.success, .pointer (some ⟨w.heap.size, 16, none⟩), .int .u64 m.index, .pointer (some ⟨w.heap.size, 17, none⟩), .int .u64 m.offset, .pointer (some ⟨w.heap.size, 18, none⟩), .slice da' m.data.length dc', .slice da8 n8 c8, .pointer (some ⟨w.heap.size, 19, none⟩), .bool m.done, .agg (mcells m (.slice none 0 0) (.slice da8 n8 c8)), undef, undef, undef, undef, undef, undef, undef, undef, undef, undef, undef, undef, undef, undef, undef, undef, undef, undef, undef, undef, undef, undef, undef, undef, undef, undef, undef, undef, undef, undef, undef, undef, undef, undef, undef, undef, undef, undef, undef, undef, undef, undef, undef, undef, undef, undef, undef, undef, undef, undef, undef, undef, undef, undef, undef, undef, undef, undef, undef, undef, undef, undef, undef, undef, undef, undef, undef, undef, undef, undef, undef, undef, undef], []⟩) (by kernel_rfl) (by kernel_rfl) ?_
            refine wpAnyH_done (by kernel_rfl) ?_ _
            dsimp only
            go_wp2
            go_meet
            exact mmade_end hbm hBF hzz hRF
        · refine .inl ?_
          refine wp_alloc58 rfl ?_
          have hBn := hBd.alloc (Nat.le_refl _) (.cells ZeroMsg 58)
          have hz5' : (w5.drew.alloc (.cells ZeroMsg 58)).heap.size = w5.heap.size + 1 := World.size_alloc _ _
          have hzz0 : (w5.drew.alloc (.cells ZeroMsg 58)).heap[w5.heap.size]? = some (.cells ZeroMsg 58 (0, 0)) := heap_alloc_new w5.drew (.cells ZeroMsg 58)
          refine ⟨hSk _ hBn, ?_⟩
          refine wpAnyH_act (l' := #[true, true, true, true, true, true, true, true, true, true, true, true, true, true, true, true, true, true, true, true, true, true, true, true, true, true, true, true, true, true, true, true, true, true, true, true, false, true, true, false, true, false]) (a' := ⟨#[.slice a2 n2 c2, .agg (mcells m (.slice ea m.es.length ec) (.slice da m.data.length dc)), undef, .pointer (some ⟨w.heap.size, 0, none⟩), u4, .int .i64 t, .int .i64 m.es.length, .slice a7 n7 c7, .pointer (some ⟨w5.heap.size, 0, none⟩), undef, undef, undef, undef, .slice ba bs.length bc, .agg (mcells m (.slice ea m.es.length ec) (.slice da m.data.length dc)), .bool true, .bool false, .slice ba bs.length bc, .int .i64 bs.length, .int .i64 bs.length, .bool (decide ((1048576 : Int) < bs.length)), .int .i64 bs.length, .pointer (some ⟨w.heap.size, 18, none⟩), .slice da m.data.length dc, .int .i64 m.data.length, .int .i64 ((bs.length : Int) + m.data.length), .int .i64 ((bs.length : Int) + m.data.length), .bool (decide ((1048576 : Int) < (bs.length : Int) + m.data.length)), .int .i64 m.es.length, .pointer (some ⟨w.heap.size, 12, none⟩), .slice ea m.es.length ec, .int .i64 m.es.length, .bool false, u33, u34, u35, u36, u37, u38, u39, u40, u41, u42, u43, u44, u45, u46, .slice ba bs.length bc, .slice a2 n2 c2, .agg (mcells m (.slice ea m.es.length ec) (.slice da m.data.length dc)), .agg (mcells m (.slice ea' m.es.length ec') (.slice da' m.data.length dc')), .slice a2 n2 c2, .slice a7 n7 c7, .pointer (some ⟨w.heap.size, 0, none⟩), .int .u8 m.kind, .pointer (some ⟨w.heap.size, 1, none⟩), .int .u64 m.from_, .pointer (some ⟨w.heap.size, 2, none⟩), .int .u64 m.to_, .pointer (some ⟨w.heap.size, 3, none⟩), .int .u64 m.term, .pointer (some ⟨w.heap.size, 4, none⟩), .int .u64 m.cluster, .pointer (some ⟨w.heap.size, 5, none⟩), .int .u64 m.li, .pointer (some ⟨w.heap.size, 6, none⟩), .int .u64 m.lt, .pointer (some ⟨w.heap.size, 7, none⟩), .bool m.granted, .pointer (some ⟨w.heap.size, 8, none⟩), .bool m.pre, .pointer (some ⟨w.heap.size, 9, none⟩), .bool m.transfer, .pointer (some ⟨w.heap.size, 10, none⟩), .int .u64 m.pi, .pointer (some ⟨w.heap.size, 11, none⟩), .int .u64 m.pt, .pointer (some ⟨w.heap.size, 13, none⟩), .int .u64 m.commit, .pointer (some ⟨w.heap.size, 14, none⟩), .int .u64 m.round, .pointer (some ⟨w.heap.size, 15, none⟩), .bool m.success, .pointer (some ⟨w.heap.size, 16, none⟩), .int .u64 m.index, .pointer (some ⟨w.heap.size, 17, none⟩), .int .u64 m.offset, .pointer (some ⟨w.heap.size, 18, none⟩), .slice da' m.data.length dc', undef, .pointer (some ⟨w.heap.size, 19, none⟩), .bool m.done, undef, undef, undef, undef, undef, undef, undef, undef, undef, undef, undef, undef, undef, undef, undef, undef, undef, undef, undef, undef, undef, undef, undef, undef, undef, undef, undef, undef, undef, undef, undef, undef, undef, undef, undef, undef, undef, undef, undef, undef, undef, undef, undef, undef, undef, undef, undef, undef, undef, undef, undef, undef, undef, undef, undef, undef, undef, undef, undef, undef, undef, undef, undef, undef, undef, undef, undef, undef, undef, undef, undef, undef, undef, undef], []⟩) (by kernel_rfl) (by kernel_rfl) ?_
          refine wpAnyH_all (rs := [36]) (by kernel_rfl) (by simp) ?_
          intro i hi
          obtain rfl : i = 36 := by simpa using hi
          refine .inl ?_
          refine wp_call 10 #[.tmp 88] #[22] rfl #[.slice da' m.data.length dc'] (by kernel_rfl) (enter10 _ _) (cloneBytes _ m.data (w5.drew.alloc (.cells ZeroMsg 58)) (hD5.1.below hBn) (by have := hbo.d; omega)) ?_
          rintro e w6 ⟨hB6, v8, rfl, hm8, ho8⟩
          obtain ⟨da8, n8, c8, rfl⟩ := hm8.shape
          have hBc : Below w5.heap.size w5 w6 := hBn.trans (hB6.mono (by omega))
          have hz6 := hB6.size
          refine ⟨_, rfl, hSk _ hBc, ?_⟩
          refine wpAnyH_act (l' := #[true, true, true, true, true, true, true, true, true, true, true, true, true, true, true, true, true, true, true, true, true, true, true, true, true, true, true, true, true, true, true, true, true, true, true, true, true, true, true, false, true, false]) (a' := ⟨#[.slice a2 n2 c2, .agg (mcells m (.slice ea m.es.length ec) (.slice da m.data.length dc)), undef, .pointer (some ⟨w.heap.size, 0, none⟩), u4, .int .i64 t, .int .i64 m.es.length, .slice a7 n7 c7, .pointer (some ⟨w5.heap.size, 0, none⟩), undef, undef, undef, undef, .slice ba bs.length bc, .agg (mcells m (.slice ea m.es.length ec) (.slice da m.data.length dc)), .bool true, .bool false, .slice ba bs.length bc, .int .i64 bs.length, .int .i64 bs.length, .bool (decide ((1048576 : Int) < bs.length)), .int .i64 bs.length, .pointer (some ⟨w.heap.size, 18, none⟩), .slice da m.data.length dc, .int .i64 m.data.length, .int .i64 ((bs.length : Int) + m.data.length), .int .i64 ((bs.length : Int) + m.data.length), .bool (decide ((1048576 : Int) < (bs.length : Int) + m.data.length)), .int .i64 m.es.length, .pointer (some ⟨w.heap.size, 12, none⟩), .slice ea m.es.length ec, .int .i64 m.es.length, .bool false, u33, u34, u35, u36, u37, u38, u39, u40, u41, u42, u43, u44, u45, u46, .slice ba bs.length bc, .slice a2 n2 c2, .agg (mcells m (.slice ea m.es.length ec) (.slice da m.data.length dc)), .agg (mcells m (.slice ea' m.es.length ec') (.slice da' m.data.length dc')), .slice a2 n2 c2, .slice a7 n7 c7, .pointer (some ⟨w.heap.size, 0, none⟩), .int .u8 m.kind, .pointer (some ⟨w.heap.size, 1, none⟩), .int .u64 m.from_, .pointer (some ⟨w.heap.size, 2, none⟩), .int .u64 m.to_, .pointer (some ⟨w.heap.size, 3, none⟩), .int .u64 m.term, .pointer (some ⟨w.heap.size, 4, none⟩), .int .u64 m.cluster, .pointer (some ⟨w.heap.size, 5, none⟩), .int .u64 m.li, .pointer (some ⟨w.heap.size, 6, none⟩), .int .u64 m.lt, .pointer (some ⟨w.heap.size, 7, none⟩), .bool m.granted, .pointer (some ⟨w.heap.size, 8, none⟩), .bool m.pre, .pointer (some ⟨w.heap.size, 9, none⟩), .bool m.transfer, .pointer (some ⟨w.heap.size, 10, none⟩), .int .u64 m.pi, .pointer (some ⟨w.heap.size, 11, none⟩), .int .u64 m.pt, .pointer (some ⟨w.heap.size, 13, none⟩), .int .u64 m.commit, .pointer (some ⟨w.heap.size, 14, none⟩), .int .u64 m.round, .pointer (some ⟨w.heap.size, 15, none⟩), .bool m.success, .pointer (some ⟨w.heap.size, 16, none⟩), .int .u64 m.index, .pointer (some ⟨w.heap.size, 17, none⟩), .int .u64 m.offset, .pointer (some ⟨w.heap.size, 18, none⟩), .slice da' m.data.length dc', .slice da8 n8 c8, .pointer (some ⟨w.heap.size, 19, none⟩), .bool m.done, undef, undef, undef, undef, undef, undef, undef, undef, undef, undef, undef, undef, undef, undef, undef, undef, undef, undef, undef, undef, undef, undef, undef, undef, undef, undef, undef, undef, undef, undef, undef, undef, undef, undef, undef, undef, undef, undef, undef, undef, undef, undef, undef, undef, undef, undef, undef, undef, undef, undef, undef, undef, undef, undef, undef, undef, undef, undef, undef, undef, undef, undef, undef, undef, undef, undef, undef, undef, undef, undef, undef, undef, undef, undef], []⟩) (by kernel_rfl) (by kernel_rfl) ?_
          refine wpAnyH_all (rs := [39]) (by kernel_rfl) (by simp) ?_
          intro i hi
          obtain rfl : i = 39 := by simpa using hi
          refine .inl ?_
          refine wp_call 29 #[.tmp 54, .tmp 56, .tmp 58, .tmp 60, .tmp 62, .tmp 64, .tmp 66, .tmp 68, .tmp 70, .tmp 72, .tmp 74, .tmp 76, .tmp 78, .tmp 80, .tmp 82, .tmp 84, .tmp 86, .tmp 89, .tmp 91] #[5, 34, 34, 34, 34, 34, 34, 4, 4, 4, 34, 34, 34, 34, 4, 34, 34, 22, 4] rfl #[.int .u8 m.kind, .int .u64 m.from_, .int .u64 m.to_, .int .u64 m.term, .int .u64 m.cluster, .int .u64 m.li, .int .u64 m.lt, .bool m.granted, .bool m.pre, .bool m.transfer, .int .u64 m.pi, .int .u64 m.pt, .int .u64 m.commit, .int .u64 m.round, .bool m.success, .int .u64 m.index, .int .u64 m.offset, .slice da8 n8 c8, .bool m.done] (by kernel_rfl) (enter29 _ _) (newMessage m da8 n8 c8 w6) ?_
          rintro e w7 ⟨rfl, hB7⟩
          have hBF : Below w5.heap.size w5 w7 := hBc.trans (hB7.mono (by omega))
          have hbm : w5.heap.size ≤ w5.heap.size := Nat.le_refl _
          have hzz := (hB7.block w5.heap.size (by omega)).trans ((hB6.block w5.heap.size (by omega)).trans hzz0)
          have hRF : RAt (fun b => w5.heap.size ≤ b ∧ b ≠ w5.heap.size) w7 (.slice da8 n8 c8) m.data := ⟨(hm8.of_block fun g hg => hB7.block g (hm8.lt g hg)).reads, fun _ b hb => by have := ho8 b hb; exact ⟨by omega, by omega⟩⟩
          refine ⟨_, rfl, hSk _ hBF, ?_⟩
          refine wpAnyH_act (l' := #[true, true, true, true, true, true, true, true, true, true, true, true, true, true, true, true, true, true, true, true, true, true, true, true, true, true, true, true, true, true, true, true, true, true, true, true, true, true, true, true, true, false]) (a' := ⟨#[.slice a2 n2 c2, .agg (mcells m (.slice ea m.es.length ec) (.slice da m.data.length dc)), undef, .pointer (some ⟨w.heap.size, 0, none⟩), u4, .int .i64 t, .int .i64 m.es.length, .slice a7 n7 c7, .pointer (some ⟨w5.heap.size, 0, none⟩), undef, undef, undef, undef, .slice ba bs.length bc, .agg (mcells m (.slice ea m.es.length ec) (.slice da m.data.length dc)), .bool true, .bool false, .slice ba bs.length bc, .int .i64 bs.length, .int .i64 bs.length, .bool (decide ((1048576 : Int) < bs.length)), .int .i64 bs.length, .pointer (some ⟨w.heap.size, 18, none⟩), .slice da m.data.length dc, .int .i64 m.data.length, .int .i64 ((bs.length : Int) + m.data.length), .int .i64 ((bs.length : Int) + m.data.length), .bool (decide ((1048576 : Int) < (bs.length : Int) + m.data.length)), .int .i64 m.es.length, .pointer (some ⟨w.heap.size, 12, none⟩), .slice ea m.es.length ec, .int .i64 m.es.length, .bool false, u33, u34, u35, u36, u37, u38, u39, u40, u41, u42, u43, u44, u45, u46, .slice ba bs.length bc, .slice a2 n2 c2, .agg (mcells m (.slice ea m.es.length ec) (.slice da m.data.length dc)), .agg (mcells m (.slice ea' m.es.length ec') (.slice da' m.data.length dc')), .slice a2 n2 c2, .slice a7 n7 c7, .pointer (some ⟨w.heap.size, 0, none⟩), .int .u8 m.kind, .pointer (some ⟨w.heap.size, 1, none⟩), .int .u64 m.from_, .pointer (some ⟨w.heap.size, 2, none⟩), .int .u64 m.to_, .pointer (some ⟨w.heap.size, 3, none⟩), .int .u64 m.term, .pointer (some ⟨w.heap.size, 4, none⟩), .int .u64 m.cluster, .pointer (some ⟨w.heap.size, 5, none⟩), .int .u64 m.li, .pointer (some ⟨w.heap.size, 6, none⟩), .int .u64 m.lt, .pointer (some ⟨w.heap.size, 7, none⟩), .bool m.granted, .pointer (some ⟨w.heap.size, 8, none⟩), .bool m.pre, .pointer (some ⟨w.heap.size, 9, none⟩), .bool m.transfer, .pointer (some ⟨w.heap.size, 10, none⟩), .int .u64 m.pi, .pointer (some ⟨w.heap.size, 11, none⟩), .int .u64 m.pt, .pointer (some ⟨w.heap.size, 13, none⟩), .int .u64 m.commit, .pointer (some ⟨w.heap.size, 14, none⟩), .int .u64 m.round, .pointer (some ⟨w.heap.size, 15, none⟩), .bool m.success, .pointer (some ⟨w.heap.size, 16, none⟩), .int .u64 m.index, .pointer (some ⟨w.heap.size, 17, none⟩), .int .u64 m.offset, .pointer (some ⟨w.heap.size, 18, none⟩), .slice da' m.data.length dc', .slice da8 n8 c8, .pointer (some ⟨w.heap.size, 19, none⟩), .bool m.done, .agg (mcells m (.slice none 0 0) (.slice da8 n8 c8)), undef, undef, undef, undef, undef, undef, undef, undef, undef, undef, undef, undef, undef, undef, undef, undef, undef, undef, undef, undef, undef, undef, undef, undef, undef, undef, undef, undef, undef, undef, undef, undef, undef, undef, undef, undef, undef, undef, undef, undef, undef, undef, undef, undef, undef, undef, undef, undef, undef, undef, undef, undef, undef, undef, undef, undef, undef, undef, undef, undef, undef, undef, undef, undef, undef, undef, undef, undef, undef, undef, undef, undef, undef], []⟩) (by kernel_rfl) (by kernel_rfl) ?_
          refine wpAnyH_all (rs := [41]) (by kernel_rfl) (by simp) ?_
          intro i hi
          obtain rfl : i = 41 := by simpa using hi
          refine .inl ?_
          refine wp_store58b rfl w5.heap.size m da8 n8 c8 (by kernel_rfl) (by kernel_rfl) hzz ?_
          refine ⟨hSk _ (hBF.trans ((World.kept_setRow _ _ _).below hBF.size (fun k h => by omega))), ?_⟩
          refine wpAnyH_act (l' := #[true, true, true, true, true, true, true, true, true, true, true, true, true, true, true, true, true, true, true, true, true, true, true, true, true, true, true, true, true, true, true, true, true, true, true, true, true, true, true, true, true, true]) (a' := ⟨#[.slice a2 n2 c2, .agg (mcells m (.slice ea m.es.length ec) (.slice da m.data.length dc)), undef, .pointer (some ⟨w.heap.size, 0, none⟩), u4, .int .i64 t, .int .i64 m.es.length, .slice a7 n7 c7, .pointer (some ⟨w5.heap.size, 0, none⟩), undef, undef, undef, undef, .slice ba bs.length bc, .agg (mcells m (.slice ea m.es.length ec) (.slice da m.data.length dc)), .bool true, .bool false, .slice ba bs.length bc, .int .i64 bs.length, .int .i64 bs.length, .bool (decide ((1048576 : Int) < bs.length)), .int .i64 bs.length, .pointer (some ⟨w.heap.size, 18, none⟩), .slice da m.data.length dc, .int .i64 m.data.length, .int .i64 ((bs.length : Int) + m.data.length), .int .i64 ((bs.length : Int) + m.data.length), .bool (decide ((1048576 : Int) < (bs.length : Int) + m.data.length)), .int .i64 m.es.length, .pointer (some ⟨w.heap.size, 12, none⟩), .slice ea m.es.length ec, .int .i64 m.es.length, .bool false, u33, u34, u35, u36, u37, u38, u39, u40, u41, u42, u43, u44, u45, u46, .slice ba bs.length bc, .slice a2 n2 c2, .agg (mcells m (.slice ea m.es.length ec) (.slice da m.data.length dc)), .agg (mcells m (.slice ea' m.es.length ec') (.slice da' m.data.length dc')), .slice a2 n2 c2, .slice a7 n7 c7, .pointer (some ⟨w.heap.size, 0, none⟩), .int .u8 m.kind, .pointer (some ⟨w.heap.size, 1, none⟩), .int .u64 m.from_, .pointer (some ⟨w.heap.size, 2, none⟩), .int .u64 m.to_, .pointer (some ⟨w.heap.size, 3, none⟩), .int .u64 m.term, .pointer (some ⟨w.heap.size, 4, none⟩), .int .u64 m.cluster, .pointer (some ⟨w.heap.size, 5, none⟩), .int .u64 m.li, .pointer (some ⟨w.heap.size, 6, none⟩), .int .u64 m.lt, .pointer (some ⟨w.heap.size, 7, none⟩), .bool m.granted, .pointer (some ⟨w.heap.size, 8, none⟩), .bool m.pre, .pointer (some ⟨w.heap.size, 9, none⟩), .bool m.transfer, .pointer (some ⟨w.heap.size, 10, none⟩), .int .u64 m.pi, .pointer (some ⟨w.heap.size, 11, none⟩), .int .u64 m.pt, .pointer (some ⟨w.heap.size, 13, none⟩), .int .u64 m.commit, .pointer (some ⟨w.heap.size, 14, none⟩), .int .u64 m.round, .pointer (some ⟨w.heap.size, 15, none⟩), .bool m.success, .pointer (some ⟨w.heap.size, 16, none⟩), .int .u64 m.index, .pointer (some ⟨w.heap.size, 17, none⟩), .int .u64 m.offset, .pointer (some ⟨w.heap.size, 18, none⟩), .slice da' m.data.length dc', .slice da8 n8 c8, .pointer (some ⟨w.heap.size, 19, none⟩), .bool m.done, .agg (mcells m (.slice none 0 0) (.slice da8 n8 c8)), undef, undef, undef, undef, undef, undef, undef, undef, undef, undef, undef, undef, undef, undef, undef, undef, undef, undef, undef, undef, undef, undef, undef, undef, undef, undef, undef, undef, undef, undef, undef, undef, undef, undef, undef, undef, undef, undef, undef, undef, undef, undef, undef, undef, undef, undef, undef, undef, undef, undef, undef, undef, undef, undef, undef, undef, undef, undef, undef, undef, undef, undef, undef, undef, undef, undef, undef, undef, undef, undef, undef, undef, undef], []⟩) (by kernel_rfl) (by kernel_rfl) ?_
          refine wpAnyH_done (by kernel_rfl) ?_ _
          dsimp only
          go_wp2
          go_meet
          exact mmade_end hbm hBF hzz hRF
      obtain ⟨bm, da8, n8, c8, rfl, hbm, hBc, hM, hR8⟩ := hcut
      have hzc := hBc.size
      have hbxc : wc.heap[w.heap.size]? = some (.cells (mcells m (.slice ea' m.es.length ec') (.slice da' m.data.length dc')) 48 (0, 0)) := (hBc.block _ (by omega)).trans hbx5
      have hBw : Below w.heap.size w wc := hBb.trans (hBc.mono (by omega))
      have hm2c : Mine wc (.slice a2 n2 c2) (byts bs) := hm5.of_block fun g hg => hBc.block g (hm5.lt g hg)
      have hm7c : Mine wc (.slice a7 n7 c7) (byts bs) := hm7.of_block fun g hg => hBc.block g (hm7.lt g hg)
      have ho7c : ∀ g, (Value.slice a7 n7 c7).ownBlock = some g → w4.heap.size ≤ g ∧ g < w5.heap.size := fun g hg => ⟨ho7 g hg, hm7.lt g hg⟩
      have hEc := hE5.kept (Kept.of_below hBc) fun b hb h => by omega
      have hDc := hD5.kept (Kept.of_below hBc) fun b hb h => by omega
      have hbmz : bm < wc.heap.size := hM.cell12.2.2
      have hR8' : RAt (fun b => (w5.heap.size ≤ b ∧ b ≠ bm) ∧ b < wc.heap.size) wc (.slice da8 n8 c8) m.data := hR8.mono fun b hb h => ⟨h, hb⟩
      clear hm5 hm7 hE5 hD5 hBb hbx5 hB5 hE4 hD4 hm4 ho7 hBc hR8 hbx4 hB4
      go_upto_region 20 with fail
      go_loopw [9] (fun i wr => ∃ k : Nat, k ≤ m.es.length ∧ i = .int .i64 k ∧ LpInv wc bm m (.slice da8 n8 c8) k wr) (fun i _ => m.es.length - (intOf i).toNat)
      case atStart => exact ⟨0, Nat.zero_le _, rfl, LpInv.start hM⟩
      case round =>
        obtain ⟨k, hk, rfl, hI⟩ := hrel
        have hKr := hI.1
        have hzr := hKr.size
        have hbxr : wr.heap[w.heap.size]? = some (.cells (mcells m (.slice ea' m.es.length ec') (.slice da' m.data.length dc')) 48 (0, 0)) := (hKr.block _ (by omega) (fun h => by omega)).trans hbxc
        have q12 : wr.cell? ⟨w.heap.size, 12, none⟩ = some (.slice ea' m.es.length ec') := by rw [cell_of_row _ _ 12 _ _ _ hbxr]; rfl
        have hnb := hbo.n
        by_cases hlt : k < m.es.length
        · obtain ⟨_, vek, ys, hMk, hys, hown, hrs⟩ := hI
          have hEr := hEc.kept hKr fun b hb h => by omega
          obtain ⟨g, sa, sc, rfl, hg, e0, e1, e2, e3, hrd⟩ : ∃ g sa sc, ea' = some ⟨g, 0, none⟩ ∧ (w2.heap.size ≤ g ∧ g < w4.heap.size) ∧ wr.cell? ⟨g, k * 4, none⟩ = some (.int .u64 m.es[k].ix) ∧ wr.cell? ⟨g, k * 4 + 1, none⟩ = some (.int .u64 m.es[k].t) ∧ wr.cell? ⟨g, k * 4 + 2, none⟩ = some (.int .u8 m.es[k].kind) ∧ wr.cell? ⟨g, k * 4 + 3, none⟩ = some (.slice sa m.es[k].data.length sc) ∧ RAt (fun b => w2.heap.size ≤ b ∧ b < w4.heap.size) wr (.slice sa m.es[k].data.length sc) m.es[k].data := by
            obtain ⟨a, c, h1, h3⟩ := hEr
            simp only [Value.slice.injEq] at h1
            obtain ⟨rfl, _, rfl⟩ := h1
            obtain ⟨g, dv, ha, hg, e0, e1, e2, e3, hr⟩ := h3 k hlt
            obtain ⟨sa, sc, hsv⟩ := hr.1.form
            rw [byts_len] at hsv
            subst hsv
            exact ⟨g, sa, sc, ha, hg, e0, e1, e2, e3, hr⟩
          have hdk := hbo.e k hlt
          have hnb := hbo.n
          have hbmr : bm < wr.heap.size := by omega
          have hgne : vek.ownBlock ≠ some g := fun e => by have := (hown.lt g e).1; omega
          have hxne : vek.ownBlock ≠ some w.heap.size := fun e => by have := (hown.lt _ e).1; omega
          have hgb : g ≠ bm := by omega
          have hxb : w.heap.size ≠ bm := by omega
          have hBl : ∀ w', Below wr.drew.heap.size wr.drew w' → Below wr.heap.size wr w' := fun w' h => (below_drew (Below.refl _ _)).trans h
          have hSB : ∀ w', Below wr.heap.size wr w' → (w'.cell? ⟨w.heap.size, 12, none⟩ = some (.slice (some ⟨g, 0, none⟩) m.es.length ec') ∧ w'.cell? ⟨g, k * 4, none⟩ = some (.int .u64 m.es[k].ix) ∧ w'.cell? ⟨g, k * 4 + 1, none⟩ = some (.int .u64 m.es[k].t) ∧ w'.cell? ⟨g, k * 4 + 2, none⟩ = some (.int .u8 m.es[k].kind) ∧ w'.cell? ⟨g, k * 4 + 3, none⟩ = some (.slice sa m.es[k].data.length sc)) := fun w' h =>
            ⟨(h.cell (p := ⟨w.heap.size, 12, none⟩) (show w.heap.size < wr.heap.size by omega)).trans q12, (h.cell (p := ⟨g, k * 4, none⟩) (show g < wr.heap.size by omega)).trans e0, (h.cell (p := ⟨g, k * 4 + 1, none⟩) (show g < wr.heap.size by omega)).trans e1, (h.cell (p := ⟨g, k * 4 + 2, none⟩) (show g < wr.heap.size by omega)).trans e2, (h.cell (p := ⟨g, k * 4 + 3, none⟩) (show g < wr.heap.size by omega)).trans e3⟩
          have hcl := cloneBytes (.slice sa m.es[k].data.length sc) m.es[k].data wr.drew hrd.1 (by omega)
          have hadd : ∀ (w6 : World) (da dn dc), Below wr.heap.size wr w6 → Calls Try.prog 30 #[.pointer (some ⟨bm, 0, none⟩), .int .u64 m.es[k].ix, .int .u64 m.es[k].t, .int .u8 m.es[k].kind, .slice da dn dc] w6 (AddPost w6 wc.heap.size bm m (.slice da8 n8 c8) vek (k + 1) (flatE ys ++ ent4 m.es[k] (.slice da dn dc))) := fun w6 da dn dc h =>
            addEntry wc.heap.size bm m (.slice da8 n8 c8) vek k (flatE ys) m.es[k] da dn dc w6 ((h.block bm hbmr).trans hMk) (ownsRow_of_block hown fun g hg => h.block g (hown.lt g hg).2) hbmz (by have := h.size; omega) (by have := hbo.n; omega)
          have hSA : ∀ w6 w7 e da dn dc, Below wr.heap.size wr w6 → AddPost w6 wc.heap.size bm m (.slice da8 n8 c8) vek (k + 1) (flatE ys ++ ent4 m.es[k] (.slice da dn dc)) e w7 → (w7.cell? ⟨w.heap.size, 12, none⟩ = some (.slice (some ⟨g, 0, none⟩) m.es.length ec') ∧ w7.cell? ⟨g, k * 4, none⟩ = some (.int .u64 m.es[k].ix) ∧ w7.cell? ⟨g, k * 4 + 1, none⟩ = some (.int .u64 m.es[k].t) ∧ w7.cell? ⟨g, k * 4 + 2, none⟩ = some (.int .u8 m.es[k].kind) ∧ w7.cell? ⟨g, k * 4 + 3, none⟩ = some (.slice sa m.es[k].data.length sc)) := fun w6 w7 e da dn dc h hA => by
            obtain ⟨_, _, _, _, hk7, _⟩ := hA
            obtain ⟨s0, s1, s2, s3, s4⟩ := hSB w6 h
            have n1 : ¬ (w.heap.size = bm ∨ some w.heap.size = vek.ownBlock) := fun h => h.elim hxb fun h => hxne h.symm
            have n2 : ¬ (g = bm ∨ some g = vek.ownBlock) := fun h => h.elim hgb fun h => hgne h.symm
            exact ⟨cell_kept hk7 n1 s0, cell_kept hk7 n2 s1, cell_kept hk7 n2 s2, cell_kept hk7 n2 s3, cell_kept hk7 n2 s4⟩
          have hNX := fun w6 w7 v e (hB6 : Below wr.heap.size wr w6) => LpInv.next (dv8 := .slice da8 n8 c8) (w6 := w6) (w7 := w7) (v := v) (e := e) hbmz hlt hKr hys hown hrs hB6
          have hS0 := hSB wr.drew (below_drew (Below.refl _ _))
          clear hKr hys hown hrs hMk hEr hEc hrd e0 e1 e2 e3
          go_upto_region 22 with fail
          clear q12
          generalize m.es[k] = en at *
          have hkk : (0 : Int) ≤ (k : Int) := by omega
          have hkl : (k : Int) < (m.es.length : Int) := by omega
          go_region_held3 (fun w' => w'.cell? ⟨w.heap.size, 12, none⟩ = some (.slice (some ⟨g, 0, none⟩) m.es.length ec') ∧ w'.cell? ⟨g, k * 4, none⟩ = some (.int .u64 en.ix) ∧ w'.cell? ⟨g, k * 4 + 1, none⟩ = some (.int .u64 en.t) ∧ w'.cell? ⟨g, k * 4 + 2, none⟩ = some (.int .u8 en.kind) ∧ w'.cell? ⟨g, k * 4 + 3, none⟩ = some (.slice sa en.data.length sc)) (first | exact hS0 | assumption)
            (first
              | (go_at_call 10; refine hcl.mono ?_; rintro e w6 ⟨hB6, v6, rfl, hm6, ho6⟩; obtain ⟨a6, n6, c6, rfl⟩ := hm6.shape; have hB6' := hBl _ hB6; have hS6 := hSB w6 hB6')
              | (go_at_call 30; refine (hadd w6 a6 n6 c6 hB6').mono ?_; intro e w7 hA; have hS7 := hSA w6 w7 e a6 n6 c6 hB6' hA; have hnx := hNX w6 w7 _ e hB6' hm6 ho6 hA; obtain ⟨rfl, _⟩ := hA))
          go_wp2
          go_roundw
          case rel => exact ⟨k + 1, by omega, by go_num, hnx⟩
          case measure => simp [intOf]; omega
        · obtain rfl : k = m.es.length := by omega
          obtain ⟨vek, hMk, hEk, _⟩ := hI.done
          obtain ⟨eak, enk, eck, rfl⟩ : ∃ a n c, vek = .slice a n c := by obtain ⟨a, c, h, _⟩ := hEk; exact ⟨a, _, c, h⟩
          have hok := hnum.ok hbo
          have hfl := frame_len hbo
          have hE9 : EAt (fun b => wc.heap.size ≤ b ∧ b < wr.heap.size) wr (.slice eak enk eck) m.es := hEk.mono fun b hb h => ⟨h, hb⟩
          have hD9 := hR8'.kept hKr fun b hb h => by omega
          have hm2r : Mine wr (.slice a2 n2 c2) (byts bs) := hm2c.of_block fun g hg => hKr.block g (hm2c.lt g hg) (fun h => by have := ho4 g hg; have := hm2c.lt g hg; omega)
          have hm7r : Mine wr (.slice a7 n7 c7) (byts bs) := hm7c.of_block fun g hg => hKr.block g (hm7c.lt g hg) (fun h => by have := ho7c g hg; have := hm7c.lt g hg; omega)
          have hBr : Below w.heap.size w wr := hBw.trans (hKr.below (by omega) fun k h => by omega)
          have hEx := hEc.kept hKr fun b hb h => by omega
          have hDx := hDc.kept hKr fun b hb h => by omega
          have hsz58 : (Try.prog.info? 58).map (·.size) = some 20 := by kernel_rfl
          obtain ⟨xo, hxo, hxv⟩ : ∃ xo, ((w1.heap.size ≤ xo ∧ xo < w2.heap.size) ∨ xo = wr.heap.size) ∧ ∀ g, (Value.slice a2 n2 c2).ownBlock = some g → g = xo := by
            cases hq : (Value.slice a2 n2 c2).ownBlock with
            | none => exact ⟨wr.heap.size, .inr rfl, fun g hg => by cases hg⟩
            | some g => exact ⟨g, .inl (ho4 g hq), fun g' hg => by simpa using hg.symm⟩
          have hcg := zzAppendFrame wr.heap.size xo m (.slice eak enk eck) (.slice da8 n8 c8) (.slice a2 n2 c2) bs wr (Nat.le_refl _) hm2r (fun g hg => .inr (hxv g hg)) (hE9.fix fun b hb h => by rcases h with h | h <;> omega) (hD9.fix fun b hb h => by rcases h with h | h <;> omega) hok (by have := hbo.b; omega)
          clear hI hEc hDc hR8' hm2c hm7c hbxc hEk hE9 hD9 hm2r hKr hBw hM
          go_wp2_with (refine wpList_load_row rfl 58 (.tmp 8) rfl bm rfl 58 (mcells m (.slice eak enk eck) (.slice da8 n8 c8)) (0, 0) _ hMk Try.underlying58 rfl (by rw [mcells_size]; exact hsz58) ?_)
          refine hcg.mono ?_
          rintro e wg ⟨hzg, hkg, vg, rfl, hmg, hog⟩
          have hbg : ∀ g, g < wr.heap.size → g ≠ xo → wg.heap[g]? = wr.heap[g]? := fun g hg hx => hkg.block g hg (fun h => by rcases h with h | h <;> omega)
          have hm7g : Mine wg (.slice a7 n7 c7) (byts bs) := hm7r.of_block fun g hg => hbg g (hm7r.lt g hg) (by have := ho7c g hg; have := hm7r.lt g hg; omega)
          have hbxg := (hbg w.heap.size (by omega) (by omega)).trans hbxr
          have hEg := hEx.kept hkg fun b hb h => by rcases h with h | h <;> omega
          have hDg := hDx.kept hkg fun b hb h => by rcases h with h | h <;> omega
          have hBg : Below w.heap.size w wg := hBr.trans (hkg.below (by omega) fun k h => by rcases h with h | h <;> omega)
          obtain ⟨_, _, _, h7e, hn70⟩ := hm7g.form
          simp only [Value.slice.injEq] at h7e
          obtain ⟨rfl, rfl, rfl⟩ := h7e
          have HN7 : Hid (n7 = bs.length) := by have := hn70; simp [byts_len] at this; exact this
          clear hn70 hcg hMk hm7r hbxr hEx hDx hBr
          have hpl : 0 < (frame m).length := by have := uv_pos (payload m).length; simp [frame]; omega
          obtain ⟨F, hF⟩ : ∃ F, bs ++ frame m = F := ⟨_, rfl⟩
          have HF : Hid (bs ++ frame m = F) := hF
          have HL : Hid (F.length = bs.length + (frame m).length) := by show F.length = _; rw [← hF, List.length_append]
          rw [hF] at hmg
          clear hF
          obtain ⟨bf, of, cg, rfl, hcf⟩ := hmg.reads.byte (j := 0) (by have := HL.out; omega)
          have hcap : F.length ≤ cg := by
            rcases hmg.reads with ⟨h, _⟩ | ⟨x, c, h, h2, _⟩
            · cases h
            · simp only [Value.slice.injEq] at h
              rw [byts_len] at h2
              omega
          have hFb : F.length ≤ 5000000 := by have := HL.out; have := hbo.b; omega
          have hn7F : n7 < F.length := by have := HL.out; have := HN7.out; omega
          have hn7c : n7 ≤ cg := by omega
          have g1 : decide ((F.length : Int) < (n7 : Int)) = false := by simp; omega
          have g2 : decide (F.length < n7) = false := by simp; omega
          have hpre : Reads wg (.slice (some ⟨bf, of, none⟩) n7 cg) (byts bs) := by
            refine .inr ⟨_, cg, by rw [byts_len, HN7.out], by rw [byts_len]; have := HN7.out; omega, fun _ => ⟨bf, of, rfl, fun i hi => ?_⟩⟩
            rw [byts_len] at hi
            rw [hcf i (by have := HL.out; omega), ← HF.out]
            simp [byts, List.getD_eq_getElem?_getD, List.getElem?_append_left hi, List.getElem?_eq_getElem hi]
          have hee := eqBytes (.slice (some ⟨bf, of, none⟩) n7 cg) (.slice a7 n7 c7) bs wg hpre hm7g.reads (by have := hbo.b; omega)
          go_wp2_with fail
          refine hee.mono ?_
          rintro e wi ⟨rfl, nn, hwi⟩
          have hFi : Reads wi (.slice (some ⟨bf, of, none⟩) F.length cg) (byts F) := by rw [hwi]; exact hmg.reads
          have hci : ∀ k, k < F.length → wi.cell? ⟨bf, of + k, none⟩ = some (.int .u8 (F.getD k 0)) := by rw [hwi]; exact hcf
          have hbxi : wi.heap[w.heap.size]? = some (.cells (mcells m (.slice ea' m.es.length ec') (.slice da' m.data.length dc')) 48 (0, 0)) := by rw [hwi]; exact hbxg
          have hEi : EIn2 wi (.slice ea' m.es.length ec') m.es := by rw [hwi]; exact hEg.in2
          have hDi : Reads wi (.slice da' m.data.length dc') (byts m.data) := by rw [hwi]; exact hDg.1
          have hBi : Below w.heap.size w wi := by rw [hwi]; exact ⟨hBg.os, hBg.tape, hBg.output, hBg.size, hBg.block⟩
          clear hwi hee hpre hmg hcf hbxg hEg hDg hBg hm7g
          have hrd := readUv (.slice (some ⟨bf, of, none⟩) F.length cg) F n7 (payload m).length wi hFi (by omega) ⟨payload m, by rw [← HF.out, HN7.out, List.drop_left]; simp [frame]⟩ (by have := payload_len m; have := entsRoom_le m.es; have := hbo.tot; have := hbo.d; omega)
          have hul := uv_len (payload m).length
          have HS : Hid (F.length = n7 + (uv (payload m).length).length + (payload m).length) := by have h1 := HL.out; have h2 := HN7.out; show F.length = _; rw [h1, h2]; simp [frame]; omega
          obtain ⟨L, hL⟩ : ∃ L, n7 + (uv (payload m).length).length = L := ⟨_, rfl⟩
          obtain ⟨X, hX⟩ : ∃ X, (payload m).length = X := ⟨_, rfl⟩
          have HX : Hid ((payload m).length = X) := hX
          have hsum : L + X = F.length := by have := HS.out; omega
          have HLL : Hid (n7 + (uv (payload m).length).length = L) := hL
          rw [hL, hX] at hrd
          clear hL hX
          have g3 : decide ((L : Int) < 0) = false := by simp
          have g4 : (F.length : Int) - (L : Int) = (X : Int) := by omega
          have hXb : X ≤ 5000000 := by omega
          have HSM : Hid (L + X = F.length) := hsum
          have hLF : L ≤ F.length := by omega
          clear hsum
          go_wp2_with fail
          refine hrd.mono ?_
          rintro e wj ⟨rfl, hw⟩
          replace hw := hw.symm
          subst hw
          go_upto_region 29 with fail
          have hL0 : (0 : Int) ≤ (L : Int) := by omega
          have hL1 : (L : Int) ≤ (F.length : Int) := by omega
          have hpay : Reads wi (.slice (some ⟨bf, of + L, none⟩) (F.length - L) (cg - L)) (byts (payload m)) := by
            have h1 := HSM.out
            have h2 := HX.out
            have h3 := HLL.out
            have hdrop : F.drop L = payload m := by rw [← HF.out, ← h3, HN7.out, ← List.drop_drop, List.drop_left]; simp [frame]
            have hXl : F.length - L = (payload m).length := by omega
            refine .inr ⟨_, cg - L, by rw [byts_len, hXl], by rw [byts_len]; omega, fun _ => ⟨bf, of + L, rfl, fun i hi => ?_⟩⟩
            rw [byts_len] at hi
            have := hci (L + i) (by omega)
            rw [Nat.add_assoc, this]
            have hq : F[L + i]? = (payload m)[i]? := by rw [← hdrop, List.getElem?_drop]
            simp [byts, List.getD_eq_getElem?_getD, hq, List.getElem?_eq_getElem hi]
          have hbd : wi.drew.heap[w.heap.size]? = some (.cells (mcells m (.slice ea' m.es.length ec') (.slice da' m.data.length dc')) 48 (0, 0)) := hbxi
          refine wp_region_held (S := fun w' => w'.heap[w.heap.size]? = some (.cells (mcells m (.slice ea' m.es.length ec') (.slice da' m.data.length dc')) 48 (0, 0))) (by kernel_rfl) ?_
          change wpAnyH _ _ _ _ _ 6 (Array.replicate 6 false) _ wi.drew
          refine wpAnyH_take (i := 0) (v := .slice (some ⟨bf, of, none⟩) F.length cg) rfl (by kernel_rfl) (by kernel_rfl) (by kernel_rfl) (fun _ _ _ h => h) (.inl ⟨by kernel_rfl, fun w' _ => by kernel_rfl⟩) hbd ?_
          refine wpAnyH_take (i := 1) (v := .int .i64 L) rfl (by kernel_rfl) (by kernel_rfl) (by kernel_rfl) (fun _ _ _ h => h) (.inl ⟨by kernel_rfl, fun w' _ => by kernel_rfl⟩) hbd ?_
          refine wpAnyH_take (i := 2) (v := .slice (some ⟨bf, of + L, none⟩) (F.length - L) (cg - L)) rfl (by kernel_rfl) (by kernel_rfl) (by kernel_rfl) (fun _ _ _ h => h) (.inl ⟨by kernel_rfl, fun w' _ => run_from _ _ (.tmp 161) (.tmp 162) rfl bf of F.length cg L (by kernel_rfl) (by kernel_rfl) (by have := HSM.out; have := HX.out; have := payload_pos m; omega) hcap w'⟩) hbd ?_
          refine wpAnyH_take (i := 3) (v := .agg (mcells m (.slice ea' m.es.length ec') (.slice da' m.data.length dc'))) rfl (by kernel_rfl) (by kernel_rfl) (by kernel_rfl) (fun _ _ _ h => h) (yLoadRow (by kernel_rfl) (.tmp 3) rfl w.heap.size (by kernel_rfl) 48 _ (fun _ h => h) (by rw [mcells_size]; exact hcs)) hbd ?_
          refine wpAnyH_all (rs := [4]) (by kernel_rfl) (by simp) ?_
          intro i hi
          obtain rfl : i = 4 := by simpa using hi
          refine .inl ?_
          have hpi := payloadIs m (.slice ea' m.es.length ec') (.slice da' m.data.length dc') (.slice (some ⟨bf, of + L, none⟩) (F.length - L) (cg - L)) wi.drew hpay hEi hDi hnum hbo.d hbo.n hbo.e (by have := HX.out; omega)
          refine wp_call 33 #[.tmp 163, .tmp 164] #[22, 48] rfl #[.slice (some ⟨bf, of + L, none⟩) (F.length - L) (cg - L), .agg (mcells m (.slice ea' m.es.length ec') (.slice da' m.data.length dc'))] (by kernel_rfl) (enter33 _ _) hpi ?_
          rintro e wk ⟨rfl, hBk⟩
          have hzi : w.heap.size < wi.heap.size := (Array.getElem?_eq_some_iff.1 hbxi).1
          have hbk := (hBk.block w.heap.size hzi).trans hbd
          refine ⟨_, rfl, hbk, ?_⟩
          refine wpAnyH_take (i := 5) (v := .bool true) rfl (by kernel_rfl) (by kernel_rfl) (by kernel_rfl) (fun _ _ _ h => h) (.inl ⟨by kernel_rfl, fun w' _ => by kernel_rfl⟩) hbk ?_
          refine wpAnyH_done (by kernel_rfl) ?_ _
          rename_i K hK
          change K _ _
          refine hK _ _ (wp_ret (bodyPost_ret (v := .bool true) (by kernel_rfl) (by kernel_rfl) ⟨?_, rfl⟩))
          have hzz : wi.drew.heap.size = wi.heap.size := rfl
          exact ⟨hBk.os.trans hBi.os, hBk.tape.trans hBi.tape, hBk.output.trans hBi.output, Nat.le_trans hBi.size hBk.size, fun k hk => (hBk.block k (by omega)).trans (hBi.block k hk)⟩
end Go.Proofs.Qxb6618972a
