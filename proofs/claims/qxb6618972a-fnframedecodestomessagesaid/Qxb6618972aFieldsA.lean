/- message.fields, a theorem a kind (seat b6618972a). -/
import Derived.Test.Qxb6618972aMsg
namespace Go.Proofs.Qxb6618972a
open Go.RowKit
attribute [local go_sem ↓] Go.wp_at_zero Go.wp_at_succ

set_option maxRecDepth 20000 in
set_option maxHeartbeats 2000000 in
theorem fields1 (N x be bm : Nat) (m : M20) (ve dv : Value) (bs : List Int) (w : World) (h : EncS N x w be bs) (hm : MFix N x w bm m ve dv) (ok : MOk m) (hb : bs.length ≤ 1000) (hk : m.kind = 1) :
    Calls Try.prog 49 #[.pointer (some ⟨bm, 0, none⟩), .iface 116 (.pointer (some ⟨be, 0, none⟩))] w (FPost N x be w (bs ++ fieldsB m)) := by
  have kc := hm.c0
  rw [hk] at kc
  have HF : Hid (fieldsB m = uv (flagN m.pre) ++ uv m.li ++ uv m.lt ++ uv (flagN m.transfer)) := by unfold fieldsB; rw [hk]; exact rfl
  have hroom := ok.room
  have hul := uv_len
  clear hk
  obtain ⟨n0, n1, n2, n3, m0, m1, m2, m3⟩ := methods118 Try.underlying118
  go_enter Try.func49, Try.ntmps49
  go_wp2_with fail
  have q0 := flagS N x be m.pre ⟨bm, 8, none⟩ bs w.drew h.drew hm.drew.c8 (by omega)
  go_region_with (first | (go_at_call 83; refine q0.mono ?_; rintro e w0 ⟨rfl, h0, k0⟩; clear q0))
  have g0 : EncS N x w0 be (bs ++ (uv (flagN m.pre))) := h0
  have p0 : Kept (Free N x) w w0 := k0.undrew
  have z0 := hm.kept k0.undrew
  clear h0 h hm k0
  go_wp2_with fail
  have q1 := numberS N x be m.li ⟨bm, 5, none⟩ (bs ++ (uv (flagN m.pre))) w0.drew g0.drew z0.drew.c5 ok.li (by simp only [List.length_append]; have := uv_len ((flagN m.pre)); omega)
  go_region_with (first | (go_at_call 84; refine q1.mono ?_; rintro e w1 ⟨rfl, h1, k1⟩; clear q1))
  have g1 : EncS N x w1 be (bs ++ (uv (flagN m.pre) ++ uv m.li)) := by have := h1; simp only [List.append_assoc] at this ⊢; exact this
  have p1 : Kept (Free N x) w w1 := p0.trans k1.undrew
  have z1 := z0.kept k1.undrew
  clear h1 k1 g0 z0
  go_wp2_with fail
  have q2 := numberS N x be m.lt ⟨bm, 6, none⟩ (bs ++ (uv (flagN m.pre) ++ uv m.li)) w1.drew g1.drew z1.drew.c6 ok.lt (by simp only [List.length_append]; have := uv_len ((flagN m.pre)); have := uv_len (m.li); omega)
  go_region_with (first | (go_at_call 84; refine q2.mono ?_; rintro e w2 ⟨rfl, h2, k2⟩; clear q2))
  have g2 : EncS N x w2 be (bs ++ (uv (flagN m.pre) ++ uv m.li ++ uv m.lt)) := by have := h2; simp only [List.append_assoc] at this ⊢; exact this
  have p2 : Kept (Free N x) w w2 := p1.trans k2.undrew
  have z2 := z1.kept k2.undrew
  clear h2 k2 g1 z1
  go_wp2_with fail
  have q3 := flagS N x be m.transfer ⟨bm, 9, none⟩ (bs ++ (uv (flagN m.pre) ++ uv m.li ++ uv m.lt)) w2.drew g2.drew z2.drew.c9 (by simp only [List.length_append]; have := uv_len ((flagN m.pre)); have := uv_len (m.li); have := uv_len (m.lt); omega)
  go_region_with (first | (go_at_call 83; refine q3.mono ?_; rintro e w3 ⟨rfl, h3, k3⟩; clear q3))
  have g3 : EncS N x w3 be (bs ++ (uv (flagN m.pre) ++ uv m.li ++ uv m.lt ++ uv (flagN m.transfer))) := by have := h3; simp only [List.append_assoc] at this ⊢; exact this
  have p3 : Kept (Free N x) w w3 := p2.trans k3.undrew
  have z3 := z2.kept k3.undrew
  clear h3 k3 g2 z2
  go_wp2
  go_ret
  rw [HF.out]
  exact ⟨⟨_, rfl⟩, g3, p3⟩

set_option maxRecDepth 20000 in
set_option maxHeartbeats 2000000 in
theorem fields2 (N x be bm : Nat) (m : M20) (ve dv : Value) (bs : List Int) (w : World) (h : EncS N x w be bs) (hm : MFix N x w bm m ve dv) (ok : MOk m) (hb : bs.length ≤ 1000) (hk : m.kind = 2) :
    Calls Try.prog 49 #[.pointer (some ⟨bm, 0, none⟩), .iface 116 (.pointer (some ⟨be, 0, none⟩))] w (FPost N x be w (bs ++ fieldsB m)) := by
  have kc := hm.c0
  rw [hk] at kc
  have HF : Hid (fieldsB m = uv (flagN m.pre) ++ uv (flagN m.granted)) := by unfold fieldsB; rw [hk]; exact rfl
  have hroom := ok.room
  have hul := uv_len
  clear hk
  obtain ⟨n0, n1, n2, n3, m0, m1, m2, m3⟩ := methods118 Try.underlying118
  go_enter Try.func49, Try.ntmps49
  go_wp2_with fail
  have q0 := flagS N x be m.pre ⟨bm, 8, none⟩ bs w.drew h.drew hm.drew.c8 (by omega)
  go_region_with (first | (go_at_call 83; refine q0.mono ?_; rintro e w0 ⟨rfl, h0, k0⟩; clear q0))
  have g0 : EncS N x w0 be (bs ++ (uv (flagN m.pre))) := h0
  have p0 : Kept (Free N x) w w0 := k0.undrew
  have z0 := hm.kept k0.undrew
  clear h0 h hm k0
  go_wp2_with fail
  have q1 := flagS N x be m.granted ⟨bm, 7, none⟩ (bs ++ (uv (flagN m.pre))) w0.drew g0.drew z0.drew.c7 (by simp only [List.length_append]; have := uv_len ((flagN m.pre)); omega)
  go_region_with (first | (go_at_call 83; refine q1.mono ?_; rintro e w1 ⟨rfl, h1, k1⟩; clear q1))
  have g1 : EncS N x w1 be (bs ++ (uv (flagN m.pre) ++ uv (flagN m.granted))) := by have := h1; simp only [List.append_assoc] at this ⊢; exact this
  have p1 : Kept (Free N x) w w1 := p0.trans k1.undrew
  have z1 := z0.kept k1.undrew
  clear h1 k1 g0 z0
  go_wp2
  go_ret
  rw [HF.out]
  exact ⟨⟨_, rfl⟩, g1, p1⟩

set_option maxRecDepth 20000 in
set_option maxHeartbeats 2000000 in
theorem fields7 (N x be bm : Nat) (m : M20) (ve dv : Value) (bs : List Int) (w : World) (h : EncS N x w be bs) (hm : MFix N x w bm m ve dv) (ok : MOk m) (hb : bs.length ≤ 1000) (hk : m.kind = 7) :
    Calls Try.prog 49 #[.pointer (some ⟨bm, 0, none⟩), .iface 116 (.pointer (some ⟨be, 0, none⟩))] w (FPost N x be w (bs ++ fieldsB m)) := by
  have kc := hm.c0
  rw [hk] at kc
  have HF : Hid (fieldsB m = uv m.li ++ uv m.lt) := by unfold fieldsB; rw [hk]; exact rfl
  have hroom := ok.room
  have hul := uv_len
  clear hk
  obtain ⟨n0, n1, n2, n3, m0, m1, m2, m3⟩ := methods118 Try.underlying118
  go_enter Try.func49, Try.ntmps49
  go_wp2_with fail
  have q0 := numberS N x be m.li ⟨bm, 5, none⟩ bs w.drew h.drew hm.drew.c5 ok.li (by omega)
  go_region_with (first | (go_at_call 84; refine q0.mono ?_; rintro e w0 ⟨rfl, h0, k0⟩; clear q0))
  have g0 : EncS N x w0 be (bs ++ (uv m.li)) := h0
  have p0 : Kept (Free N x) w w0 := k0.undrew
  have z0 := hm.kept k0.undrew
  clear h0 h hm k0
  go_wp2_with fail
  have q1 := numberS N x be m.lt ⟨bm, 6, none⟩ (bs ++ (uv m.li)) w0.drew g0.drew z0.drew.c6 ok.lt (by simp only [List.length_append]; have := uv_len (m.li); omega)
  go_region_with (first | (go_at_call 84; refine q1.mono ?_; rintro e w1 ⟨rfl, h1, k1⟩; clear q1))
  have g1 : EncS N x w1 be (bs ++ (uv m.li ++ uv m.lt)) := by have := h1; simp only [List.append_assoc] at this ⊢; exact this
  have p1 : Kept (Free N x) w w1 := p0.trans k1.undrew
  have z1 := z0.kept k1.undrew
  clear h1 k1 g0 z0
  go_wp2
  go_ret
  rw [HF.out]
  exact ⟨⟨_, rfl⟩, g1, p1⟩

end Go.Proofs.Qxb6618972a
