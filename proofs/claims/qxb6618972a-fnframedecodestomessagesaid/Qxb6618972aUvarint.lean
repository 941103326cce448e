import Derived.Test.Qxb6618972aBytes
import Derived.Laws.BitsAllLaws
import Derived.Laws.Bits128
namespace Go.Proofs.Qxb6618972a
open Go.RowKit

theorem Mine.shape {w : World} {v : Value} {xs : List Value} (h : Mine w v xs) : ∃ a n c, v = .slice a n c := by
  obtain ⟨a, n, c, h, _⟩ := h.form; exact ⟨a, n, c, h⟩

theorem info5 : (Try.prog.info? 5).map (fun i => (i.zero, i.size, i.bytes)) = some (some (.int .u8 0), 1, 1) := by kernel_rfl

/-- The unsigned varint of x, in at most f bytes. -/
def uvF : Nat → Nat → List Int
  | 0, _ => []
  | f + 1, x => if x < 128 then [(x : Int)] else (((x % 128 : Nat) : Int) + 128) :: uvF f (x / 128)
def uv (x : Nat) : List Int := uvF 10 x

theorem uvF_len (f x : Nat) : (uvF f x).length ≤ f := by
  induction f generalizing x with
  | zero => simp [uvF]
  | succ f ih =>
    unfold uvF
    split
    · simp
    · simp; exact ih _

theorem low_byte (x : Nat) : IntKind.u8.wrap (x : Int) = ((x % 256 : Nat) : Int) := by rw [IntKind.wrap_u8]; omega
theorem or_byte (x : Nat) : bits .or .u8 (IntKind.u8.wrap (x : Int)) 128 = ((x % 128 : Nat) : Int) + 128 := by
  have e : ((x % 256 : Nat) ||| 128) = x % 128 + 128 := by
    have h : ∀ y : Fin 256, (y.1 ||| 128) = y.1 % 128 + 128 := by decide +kernel
    have := h ⟨x % 256, by omega⟩
    simp only at this
    omega
  rw [low_byte]
  have := u8_or_nat (x % 256) 128 (by omega) (by omega)
  rw [show (128 : Int) = ((128 : Nat) : Int) from rfl, this, e]
  omega

/-- What the loop has done: bs1 laid, x1 left. -/
def UvRel (bs : List Int) (x : Nat) (bs1 : List Int) (x1 : Nat) : Prop := ∃ f, bs1 ++ uvF f x1 = bs ++ uv x ∧ 1 ≤ f ∧ f ≤ 10 ∧ x1 < 128 ^ f ∧ bs1.length + f = bs.length + 10 ∧ x1 < 18446744073709551616
theorem UvRel.start (bs : List Int) (x : Nat) (hx : x < 18446744073709551616) : UvRel bs x bs x := ⟨10, rfl, by omega, by omega, by omega, rfl, hx⟩
theorem UvRel.step {bs : List Int} {x : Nat} {bs1 : List Int} {x1 : Nat} (h : UvRel bs x bs1 x1) (h1 : 128 ≤ x1) : UvRel bs x (bs1 ++ [((x1 % 128 : Nat) : Int) + 128]) (x1 / 128) := by
  obtain ⟨f, he, hf1, hf2, hlt, hlen, hx⟩ := h
  obtain ⟨g, rfl⟩ : ∃ g, f = g + 1 := ⟨f - 1, by omega⟩
  have hg : 1 ≤ g := by
    rcases Nat.eq_zero_or_pos g with rfl | h
    · simp at hlt; omega
    · exact h
  refine ⟨g, ?_, hg, by omega, ?_, by simp; omega, by omega⟩
  · rw [← he]
    conv => rhs; unfold uvF
    rw [if_neg (by omega)]
    simp
  · rw [Nat.pow_succ] at hlt
    omega
theorem UvRel.stop {bs : List Int} {x : Nat} {bs1 : List Int} {x1 : Nat} (h : UvRel bs x bs1 x1) (h1 : x1 < 128) : bs1 ++ [(x1 : Int)] = bs ++ uv x := by
  obtain ⟨f, he, hf1, hf2, hlt, _⟩ := h
  obtain ⟨g, rfl⟩ : ∃ g, f = g + 1 := ⟨f - 1, by omega⟩
  rw [← he]
  conv => rhs; unfold uvF
  rw [if_pos h1]
theorem UvRel.len {bs : List Int} {x : Nat} {bs1 : List Int} {x1 : Nat} (h : UvRel bs x bs1 x1) : bs1.length ≤ bs.length + 10 := by
  obtain ⟨f, _, _, _, _, h, _⟩ := h; omega
theorem UvRel.lt {bs : List Int} {x : Nat} {bs1 : List Int} {x1 : Nat} (h : UvRel bs x bs1 x1) : x1 < 18446744073709551616 := by
  obtain ⟨f, _, _, _, _, _, h⟩ := h; exact h

def UvPost (v : Value) (w : World) (bs : List Int) (e : Ending) (w' : World) : Prop := ∃ v', e = .returned v' ∧ Mine w' v' (byts bs) ∧ Grew w w' v v'

/-- One append onto a slice of one's own, the new cell boxed first: the growth. -/
theorem Grew.snoc {w w1 wr : World} {v vr v' : Value} {o : Obj} (h : Grew w wr v vr) (hk : Kept (fun k => some k = vr.ownBlock) (wr.alloc o) w1) (hat : v'.ownBlock = vr.ownBlock ∨ v'.ownBlock = some (wr.alloc o).heap.size) : Grew w w1 v v' := by
  refine h.trans ⟨⟨hk.os, hk.tape, hk.output, by have := hk.size; simp at this; omega, fun i hi hn => (hk.block i (by simp; omega) hn).trans (Below.heap_alloc wr o i hi)⟩, fun g hg => ?_⟩
  rcases hat with e | e
  · exact .inl (e.symm.trans hg)
  · rw [e] at hg; simp at hg; right; omega

set_option maxRecDepth 20000 in
set_option maxHeartbeats 400000 in
theorem appendUvarint (x : Nat) (v : Value) (bs : List Int) (w : World) (hm : Mine w v (byts bs)) (hx : x < 18446744073709551616) (hb : bs.length ≤ 549755813888) :
    Calls Try.prog 46 #[v, .int .u64 x] w (UvPost v w (bs ++ uv x)) := by
  obtain ⟨a0, n0, c0, rfl⟩ := hm.shape
  go_enter Try.func46, Try.ntmps46
  go_wp2_with fail
  go_loopw [0, 1] (fun b xv wr => ∃ a n c, b = .slice a n c ∧ ∃ (x1 : Nat) (bs1 : List Int), xv = .int .u64 x1 ∧ Mine wr (.slice a n c) (byts bs1) ∧ Grew w wr (.slice a0 n0 c0) (.slice a n c) ∧ UvRel bs x bs1 x1) (fun _ xv _ => (intOf xv).toNat)
  case atStart => exact ⟨a0, n0, c0, rfl, x, bs, rfl, hm, Grew.refl _ _, UvRel.start bs x hx⟩
  case round =>
    obtain ⟨a, n, c, rfl, x1, bs1, rfl, hm1, hg1, hu⟩ := hrel
    have hlt := hu.lt
    have hlen := hu.len
    clear hx
    by_cases h1 : 128 ≤ x1
    · have HO : Hid (bits .or .u8 ((x1 : Int) % 256) 128 = ((x1 % 128 : Nat) : Int) + 128) := by have := or_byte x1; rw [IntKind.wrap_u8] at this; exact this
      go_wp2_with (at_builtin; refine wpList_append_mine _ rfl (.tmp 7) (.tmp 11) 22 rfl 5 (.int .u8 0) 1 Try.underlying22 info5 rfl (.slice a n c) _ rfl (hm1.alloc _) _ (byts [bits .or .u8 ((x1 : Int) % 256) 128]) rfl (reads_one _ _ _) (byts_one _) (by rw [byts_len, byts_len]; simp; omega) (by omega) ?_; intro v' w1 hm2 hk2 hat; obtain ⟨a', n', c', rfl⟩ := hm2.shape)
      go_roundw
      case rel =>
        refine ⟨a', n', c', rfl, x1 / 128, bs1 ++ [((x1 % 128 : Nat) : Int) + 128], by go_num, ?_, hg1.snoc hk2 hat, hu.step h1⟩
        rw [byts_app, ← HO.out]
        exact hm2
      case measure => simp [intOf]; omega
    · go_wp2_with (at_builtin; refine wpList_append_mine _ rfl (.tmp 15) (.tmp 18) 22 rfl 5 (.int .u8 0) 1 Try.underlying22 info5 rfl (.slice a n c) _ rfl (hm1.alloc _) _ (byts [(x1 : Int)]) rfl (reads_one _ _ _) (byts_one _) (by rw [byts_len, byts_len]; simp; omega) (by omega) ?_; intro v' w1 hm2 hk2 hat; obtain ⟨a', n', c', rfl⟩ := hm2.shape)
      go_ret
      refine ⟨_, rfl, ?_, hg1.snoc hk2 hat⟩
      rw [← hu.stop (by omega), byts_app]
      exact hm2
end Go.Proofs.Qxb6618972a
