/- message.appendTo (seat b6618972a). -/
import Derived.Test.Qxb6618972aFieldsA
import Derived.Test.Qxb6618972aFieldsB
import Derived.Test.Qxb6618972aFieldsC
import Derived.Deep.Cut
namespace Go.Proofs.Qxb6618972a
open Go.RowKit
attribute [local go_sem ↓] Go.wp_at_zero Go.wp_at_succ

set_option maxRecDepth 20000 in
set_option maxHeartbeats 1000000 in
theorem fields0 (N x be bm : Nat) (m : M20) (ve dv : Value) (bs : List Int) (w : World) (h : EncS N x w be bs) (hm : MFix N x w bm m ve dv) (hk : m.kind = 0 ∨ 8 ≤ m.kind) :
    Calls Try.prog 49 #[.pointer (some ⟨bm, 0, none⟩), .iface 116 (.pointer (some ⟨be, 0, none⟩))] w (FPost N x be w (bs ++ fieldsB m)) := by
  have kc := hm.c0
  have HF : Hid (fieldsB m = []) := by
    unfold fieldsB
    split <;> first | omega | rfl
  have k1 : ((m.kind : Int) == 1) = false := by simp; omega
  have k2 : ((m.kind : Int) == 2) = false := by simp; omega
  have k3 : ((m.kind : Int) == 3) = false := by simp; omega
  have k4 : ((m.kind : Int) == 4) = false := by simp; omega
  have k5 : ((m.kind : Int) == 5) = false := by simp; omega
  have k6 : ((m.kind : Int) == 6) = false := by simp; omega
  have k7 : ((m.kind : Int) == 7) = false := by simp; omega
  clear hk
  go_enter Try.func49, Try.ntmps49
  go_wp2
  go_ret
  rw [HF.out, List.append_nil]
  exact ⟨⟨_, rfl⟩, h, Kept.refl _ _⟩

/-- (49) message.fields -/
theorem fields (N x be bm : Nat) (m : M20) (ve dv : Value) (bs : List Int) (w : World) (h : EncS N x w be bs) (hm : MFix N x w bm m ve dv) (ok : MOk m) (hb : bs.length ≤ 1000) :
    Calls Try.prog 49 #[.pointer (some ⟨bm, 0, none⟩), .iface 116 (.pointer (some ⟨be, 0, none⟩))] w (FPost N x be w (bs ++ fieldsB m)) := by
  by_cases h0 : m.kind = 0 ∨ 8 ≤ m.kind
  · exact fields0 N x be bm m ve dv bs w h hm h0
  by_cases h1 : m.kind = 1
  · exact fields1 N x be bm m ve dv bs w h hm ok hb h1
  by_cases h2 : m.kind = 2
  · exact fields2 N x be bm m ve dv bs w h hm ok hb h2
  by_cases h3 : m.kind = 3
  · exact fields3 N x be bm m ve dv bs w h hm ok hb h3
  by_cases h4 : m.kind = 4
  · exact fields4 N x be bm m ve dv bs w h hm ok hb h4
  by_cases h5 : m.kind = 5
  · exact fields5 N x be bm m ve dv bs w h hm ok hb h5
  by_cases h6 : m.kind = 6
  · exact fields6 N x be bm m ve dv bs w h hm ok hb h6
  · exact fields7 N x be bm m ve dv bs w h hm ok hb (by omega)

/-- A message as a value. -/
def mcells (m : M20) (ve dv : Value) : Array Value :=
  #[.int .u8 m.kind, .int .u64 m.from_, .int .u64 m.to_, .int .u64 m.term, .int .u64 m.cluster, .int .u64 m.li, .int .u64 m.lt, .bool m.granted, .bool m.pre, .bool m.transfer, .int .u64 m.pi, .int .u64 m.pt, ve,
    .int .u64 m.commit, .int .u64 m.round, .bool m.success, .int .u64 m.index, .int .u64 m.offset, dv, .bool m.done]

/-- The bytes of a message. -/
def payload (m : M20) : List Int := [(m.kind : Int)] ++ uv m.from_ ++ uv m.to_ ++ uv m.term ++ uv m.cluster ++ fieldsB m

theorem free_sub {N x N' x' k : Nat} (h : Free N' x' k) (hN : N ≤ N') (hx : Free N x x') : Free N x k := by
  rcases h with h | rfl
  · left; omega
  · exact hx
theorem Fix.sub {N x N' x' : Nat} {w : World} {sv : Value} {ds : List Int} (h : Fix N x w sv ds) (hN : N ≤ N') (hx : Free N x x') : Fix N' x' w sv ds :=
  ⟨h.1, fun hne b hb hf => h.2 hne b hb (free_sub hf hN hx)⟩
theorem EFix.sub {N x N' x' : Nat} {w : World} {ve : Value} {es : List Entry4} (h : EFix N x w ve es) (hN : N ≤ N') (hx : Free N x x') : EFix N' x' w ve es := by
  obtain ⟨a, c, hv, h⟩ := h
  refine ⟨a, c, hv, fun i hi => ?_⟩
  obtain ⟨g, dv, ha, hg, h1, h2, h3, h4, hf⟩ := h i hi
  exact ⟨g, dv, ha, fun hf => hg (free_sub hf hN hx), h1, h2, h3, h4, hf.sub hN hx⟩
theorem EFix.form {N x : Nat} {w : World} {ve : Value} {es : List Entry4} (h : EFix N x w ve es) : ∃ a n c, ve = .slice a n c := by
  obtain ⟨a, c, hv, h⟩ := h; exact ⟨a, _, c, hv⟩
theorem Fix.form {N x : Nat} {w : World} {sv : Value} {ds : List Int} (h : Fix N x w sv ds) : ∃ a n c, sv = .slice a n c := by
  obtain ⟨a, c, hv⟩ := h.1.form; exact ⟨a, _, c, hv⟩

theorem MFix.made {N x : Nat} {w : World} {m : M20} {ve dv : Value} (he : EFix N x w ve m.es) (hd : Fix N x w dv m.data) (hN : N = w.heap.size + 1) (hx : x ≠ w.heap.size) : MFix N x (w.alloc (.cells (mcells m ve dv) 58)) w.heap.size m ve dv := by
  have hk : Kept (Free N x) w (w.alloc (.cells (mcells m ve dv) 58)) := (Kept.refl _ _).alloc _
  refine ⟨fun h => ?_, ?_, ?_, ?_, ?_, ?_, ?_, ?_, ?_, ?_, ?_, ?_, ?_, ?_, ?_, ?_, ?_, ?_, ?_, ?_, ?_, he.kept hk, hd.kept hk⟩
  · rcases h with h | h
    · omega
    · exact hx h.symm
  all_goals (rw [World.cell?_alloc_new]; rfl)

theorem Enc.made {w : World} {v : Value} {bs : List Int} (hm : Mine w v (byts bs)) : Enc (w.alloc (.cells #[v] 113)) w.heap.size v bs :=
  ⟨by simp, by simp, hm.alloc _, fun e => by have := hm.lt _ e; omega⟩

/-- An append onto a slice whose block, if any, is x: all else stands; and where the new slice lies. -/
theorem snocKept {N x : Nat} {w0 w1 : World} {v : Value} {o : Obj} (hx : ∀ g, v.ownBlock = some g → g = x) (hk : Kept (fun k => some k = v.ownBlock) (w0.alloc o) w1) : Kept (Free N x) w0 w1 :=
  ((Kept.refl (Free N x) w0).alloc o).trans (hk.mono fun k _ e => .inr (hx k e.symm))
theorem snocLies {N x : Nat} {w0 : World} {v v' : Value} {o : Obj} (hx : ∀ g, v.ownBlock = some g → g = x) (hN : N ≤ w0.heap.size) (hat : v'.ownBlock = v.ownBlock ∨ v'.ownBlock = some (w0.alloc o).heap.size) : ∀ g, v'.ownBlock = some g → Free N x g := by
  intro g hg
  rcases hat with e | e
  · exact .inr (hx g (e.symm.trans hg))
  · rw [e] at hg; simp at hg; left; omega

def TPost (N x : Nat) (w : World) (bs : List Int) (e : Ending) (w' : World) : Prop := N ≤ w'.heap.size ∧ Kept (Free N x) w w' ∧ ∃ v', e = .returned v' ∧ Mine w' v' (byts bs) ∧ ∀ g, v'.ownBlock = some g → Free N x g

set_option maxRecDepth 20000 in
set_option maxHeartbeats 2000000 in
/-- (45) message.appendTo -/
theorem appendTo (N x : Nat) (m : M20) (ve dv v : Value) (bs : List Int) (w : World) (hN : N ≤ w.heap.size) (hm : Mine w v (byts bs)) (hv : ∀ g, v.ownBlock = some g → Free N x g) (he : EFix N x w ve m.es) (hd : Fix N x w dv m.data) (ok : MOk m) (hb : bs.length ≤ 900) :
    Calls Try.prog 45 #[.agg (mcells m ve dv), v] w (TPost N x w (bs ++ payload m)) := by
  obtain ⟨xo, hxo, hxF, hxv⟩ : ∃ xo, xo ≠ w.heap.size ∧ Free N x xo ∧ ∀ g, v.ownBlock = some g → g = xo := by
    cases hq : v.ownBlock with
    | none => exact ⟨w.heap.size + 1, by omega, .inl (by omega), fun g hg => by cases hg⟩
    | some g0 => exact ⟨g0, by have := hm.lt g0 hq; omega, hv g0 hq, fun g hg => by simpa using hg.symm⟩
  have hmx := MFix.made (he.sub (N' := w.heap.size + 1) (x' := xo) (by omega) hxF) (hd.sub (N' := w.heap.size + 1) (x' := xo) (by omega) hxF) rfl hxo
  have hm0 := hm.alloc (.cells (mcells m ve dv) 58)
  obtain ⟨va, vn, vc, rfl⟩ := hm.shape
  go_enter Try.func45, Try.ntmps45
  go_upto_region 1 with fail
  generalize hw0 : w.alloc (.cells (mcells m ve dv) 58) = w0 at *
  have hk0 : Kept (Free N x) w w0 := by rw [← hw0]; exact (Kept.refl _ _).alloc _
  have hz0 : w0.heap.size = w.heap.size + 1 := by rw [← hw0]; simp
  clear hw0
  have HZ : Hid (w0.heap.size = w.heap.size + 1) := hz0
  have hz1 : w.heap.size < w0.heap.size := by omega
  clear hz0
  have c0 := hmx.c0
  go_wp2_with (at_builtin; refine wpList_append_mine _ rfl (.tmp 6) (.tmp 9) 22 rfl 5 (.int .u8 0) 1 Try.underlying22 info5 rfl (.slice va vn vc) _ rfl (hm0.alloc _) _ (byts [(m.kind : Int)]) rfl (reads_one _ _ _) (byts_one _) (by rw [byts_len, byts_len]; simp; omega) (by omega) ?_; intro v1 w1 hm1 hk1 hat; obtain ⟨a1, n1, c1, rfl⟩ := hm1.shape; clear c0; have hK1 := snocKept (N := w.heap.size + 1) (x := xo) hxv hk1; have hmx1 := hmx.kept hK1; have q1 := hmx1.c1; have hz2 : w.heap.size < w1.heap.size := by have := hK1.size; omega)
  have hE1 : EncS (w.heap.size + 1) xo (w1.alloc (.cells #[.slice a1 n1 c1] 113)) w1.heap.size (bs ++ [(m.kind : Int)]) :=
    ⟨by simp; omega, _, Enc.made (by rw [byts_app]; exact hm1), .inl (by omega), snocLies hxv (by have := HZ.out; omega) hat⟩
  have hmx2 := hmx1.kept ((Kept.refl (Free (w.heap.size + 1) xo) w1).alloc (.cells #[.slice a1 n1 c1] 113))
  have hkk : Kept (Free (w.heap.size + 1) xo) w0 (w1.alloc (.cells #[.slice a1 n1 c1] 113)) := hK1.alloc _
  have hbe : w1.heap.size < (w1.alloc (.cells #[.slice a1 n1 c1] 113)).heap.size := by simp
  generalize w1.alloc (.cells #[.slice a1 n1 c1] 113) = w2 at *
  generalize w1.heap.size = be at *
  clear hm1 hk1 hat hmx1 hK1 q1 hmx hm0
  have u1 := uv_len m.from_
  have u2 := uv_len m.to_
  have u3 := uv_len m.term
  have u4 := uv_len m.cluster
  refine (uvS (w.heap.size + 1) xo be m.from_ _ _ hE1 ok.from_ (by simp; omega)).mono ?_
  rintro e w3 ⟨rfl, hE3, hk3⟩
  have hmx3 := hmx2.kept hk3
  have q := hmx3.c2
  clear hE1 hmx2
  go_wp2_with fail
  refine (uvS (w.heap.size + 1) xo be m.to_ _ _ hE3 ok.to_ (by simp; omega)).mono ?_
  rintro e w4 ⟨rfl, hE4, hk4⟩
  have hmx4 := hmx3.kept hk4
  clear q
  have q := hmx4.c3
  clear hE3 hmx3
  go_wp2_with fail
  refine (uvS (w.heap.size + 1) xo be m.term _ _ hE4 ok.term (by simp; omega)).mono ?_
  rintro e w5 ⟨rfl, hE5, hk5⟩
  have hmx5 := hmx4.kept hk5
  clear q
  have q := hmx5.c4
  clear hE4 hmx4
  go_wp2_with fail
  refine (uvS (w.heap.size + 1) xo be m.cluster _ _ hE5 ok.cluster (by simp; omega)).mono ?_
  rintro e w6 ⟨rfl, hE6, hk6⟩
  have hmx6 := hmx5.kept hk6
  clear q hE5 hmx5
  go_wp2_with fail
  refine (fields (w.heap.size + 1) xo be w.heap.size m ve dv _ _ hE6 hmx6 ok (by simp; omega)).mono ?_
  rintro e w7 ⟨⟨r, rfl⟩, ⟨hN7, v7, hE7, hbF, hv7⟩, hk7⟩
  have q := hE7.1
  obtain ⟨a7, n7, c7, rfl⟩ := hE7.2.2.1.shape
  go_wp2
  go_ret
  have hkt : Kept (Free (w.heap.size + 1) xo) w0 w7 := hkk.trans (hk3.trans (hk4.trans (hk5.trans (hk6.trans hk7))))
  refine ⟨by omega, hk0.trans (hkt.mono fun k _ hk => free_sub hk (by omega) hxF), _, rfl, ?_, fun g hg => free_sub (hv7 g hg) (by omega) hxF⟩
  have e : bs ++ payload m = bs ++ [(m.kind : Int)] ++ uv m.from_ ++ uv m.to_ ++ uv m.term ++ uv m.cluster ++ fieldsB m := by simp [payload]
  rw [e]
  exact hE7.2.2.1
end Go.Proofs.Qxb6618972a
