/- zzUvarint reads what AppendUvarint wrote (seat b6618972a). -/
import Derived.Test.Qxb6618972aUtil
import Derived.Laws.BitsAllLaws
namespace Go.Proofs.Qxb6618972a
open Go.RowKit

/-- After i rounds: what is read (acc), what is left (y), and that the next bytes are its varint. -/
structure RdAt (ds : List Int) (at_ x i y acc : Nat) : Prop where
  lt : i < 10
  hacc : acc = x % 128 ^ i
  hy : y = x / 128 ^ i
  xlt : x < 18446744073709551616
  nz : 0 < i → 1 ≤ y
  left : ∃ rest, ds.drop (at_ + i) = uvF (10 - i) y ++ rest
  len : (uv x).length = i + (uvF (10 - i) y).length


theorem RdAt.start {ds : List Int} {at_ x : Nat} (hd : ∃ rest, ds.drop at_ = uv x ++ rest) (hx : x < 18446744073709551616) : RdAt ds at_ x 0 x 0 :=
  ⟨by omega, by simp; omega, by simp, hx, by omega, hd, by simp [uv]⟩

theorem p128 (i : Nat) : (128 : Nat) ^ i = 2 ^ (7 * i) := by rw [Nat.pow_mul]

theorem RdAt.fit {ds : List Int} {at_ x i y acc : Nat} (h : RdAt ds at_ x i y acc) : acc < 128 ^ i ∧ acc + y * 128 ^ i = x := by
  have hp : 0 < 128 ^ i := Nat.pow_pos (by omega)
  refine ⟨by rw [h.hacc]; exact Nat.mod_lt _ hp, ?_⟩
  rw [h.hacc, h.hy, Nat.mul_comm]
  exact Nat.mod_add_div x (128 ^ i)

theorem RdAt.nine {ds : List Int} {at_ x i y acc : Nat} (h : RdAt ds at_ x i y acc) (hi : i = 9) : y ≤ 1 := by
  subst hi
  have := h.hy
  have := h.xlt
  simp only [Nat.reducePow] at *
  omega
theorem RdAt.small {ds : List Int} {at_ x i y acc : Nat} (h : RdAt ds at_ x i y acc) (hy : 128 ≤ y) : i < 9 := by
  have := h.lt
  rcases Nat.lt_or_ge i 9 with h9 | h9
  · exact h9
  · have := h.nine (by omega); omega

theorem RdAt.get {ds : List Int} {at_ x i y acc : Nat} (h : RdAt ds at_ x i y acc) : at_ + i < ds.length ∧ (y < 128 → ds.getD (at_ + i) 0 = (y : Int)) ∧ (128 ≤ y → ds.getD (at_ + i) 0 = ((y % 128 + 128 : Nat) : Int)) := by
  obtain ⟨rest, hd⟩ := h.left
  obtain ⟨f, hf⟩ : ∃ f, 10 - i = f + 1 := ⟨9 - i, by have := h.lt; omega⟩
  rw [hf] at hd
  have hlen : at_ + i < ds.length := by
    have := congrArg List.length hd
    rw [List.length_drop] at this
    have h1 : 0 < (uvF (f + 1) y ++ rest).length := by
      unfold uvF
      split <;> simp
    omega
  have h0 : ds.getD (at_ + i) 0 = (ds.drop (at_ + i)).getD 0 0 := by simp [List.getD]
  refine ⟨hlen, fun hy => ?_, fun hy => ?_⟩
  · rw [h0, hd]; unfold uvF; rw [if_pos hy]; simp
  · rw [h0, hd]; unfold uvF; rw [if_neg (by omega)]; simp

theorem RdAt.next {ds : List Int} {at_ x i y acc : Nat} (h : RdAt ds at_ x i y acc) (hy : 128 ≤ y) : RdAt ds at_ x (i + 1) (y / 128) (acc + y % 128 * 128 ^ i) := by
  have hs := h.small hy
  obtain ⟨rest, hd⟩ := h.left
  obtain ⟨f, hf⟩ : ∃ f, 10 - i = f + 1 := ⟨9 - i, by omega⟩
  have hf2 : 10 - (i + 1) = f := by omega
  have hl := h.len
  rw [hf] at hd hl
  have hu : uvF (f + 1) y = (((y % 128 : Nat) : Int) + 128) :: uvF f (y / 128) := by
    conv => lhs; unfold uvF
    rw [if_neg (by omega)]
  refine ⟨by omega, ?_, ?_, h.xlt, fun _ => by omega, ⟨rest, ?_⟩, ?_⟩
  · rw [h.hacc, h.hy, Nat.pow_succ, Nat.mod_mul, Nat.mul_comm (x / 128 ^ i % 128)]
  · rw [h.hy, Nat.pow_succ, Nat.div_div_eq_div_mul]
  · rw [hf2, ← Nat.add_assoc, ← List.drop_drop, hd, hu]; simp
  · rw [hf2, hl, hu]; simp; omega

theorem RdAt.stop {ds : List Int} {at_ x i y acc : Nat} (h : RdAt ds at_ x i y acc) (hy : y < 128) : (uv x).length = i + 1 := by
  obtain ⟨f, hf⟩ : ∃ f, 10 - i = f + 1 := ⟨9 - i, by have := h.lt; omega⟩
  rw [h.len, hf]
  unfold uvF
  rw [if_pos hy]
  rfl

theorem or_acc (acc c i : Nat) (h1 : acc < 128 ^ i) (h2 : acc + c * 128 ^ i < 18446744073709551616) : bits .or .u64 (acc : Int) (IntKind.u64.wrap ((c : Int) * 2 ^ (7 * i))) = ((acc + c * 128 ^ i : Nat) : Int) := by
  have e : (c : Int) * 2 ^ (7 * i) = ((c * 128 ^ i : Nat) : Int) := by rw [p128]; simp
  have hw : IntKind.u64.wrap ((c * 128 ^ i : Nat) : Int) = ((c * 128 ^ i : Nat) : Int) := by rw [IntKind.wrap_u64]; omega
  rw [e, hw, u64_or_nat acc (c * 128 ^ i) (by omega) (by omega)]
  congr 1
  rw [p128] at h1 ⊢
  rw [Nat.or_comm, Nat.mul_comm c, ← Nat.two_pow_add_eq_or_of_lt h1]
  omega
theorem and_low (y : Nat) : bits .and .u8 ((y : Int) % 128 + 128) 127 = ((y % 128 : Nat) : Int) := by
  have h : ∀ z : Fin 128, bits .and .u8 ((z.1 : Int) + 128) 127 = (z.1 : Int) := by decide +kernel
  have := h ⟨y % 128, by omega⟩
  simpa using this

def RdPost (w : World) (x n : Nat) (e : Ending) (w' : World) : Prop := e = .returned (.tuple #[.int .u64 x, .int .i64 n]) ∧ w' = w

set_option maxRecDepth 20000 in
set_option maxHeartbeats 2000000 in
/-- (32) zzUvarint, where a canonical varint stands. -/
theorem readUv (v : Value) (ds : List Int) (at_ x : Nat) (w : World) (h : Reads w v (byts ds)) (hm : ds.length ≤ 1000000000) (hd : ∃ rest, ds.drop at_ = uv x ++ rest) (hx : x < 18446744073709551616) :
    Calls Try.prog 32 #[v, .int .i64 at_] w (RdPost w x (at_ + (uv x).length)) := by
  obtain ⟨a, c, hv⟩ := h.form
  rw [byts_len] at hv
  subst hv
  have hst := RdAt.start hd hx
  have hal := hst.get.1
  clear hd hx
  go_enter Try.func32, Try.ntmps32
  go_wp2
  go_loop [6, 7, 8, 9] (fun ac s iv _ => ∃ i y acc : Nat, ac = .int .u64 acc ∧ s = .int .u64 (7 * i : Nat) ∧ iv = .int .i64 i ∧ RdAt ds at_ x i y acc) (fun _ _ i _ => 10 - (intOf i).toNat)
  case atStart => exact ⟨0, x, 0, rfl, rfl, rfl, hst⟩
  case round =>
    clear hst
    obtain ⟨i, y, acc, rfl, rfl, rfl, hR⟩ := hrel
    have hi := hR.lt
    obtain ⟨hlt, hg1, hg2⟩ := hR.get
    obtain ⟨b, o, _, hq, hc⟩ := h.byte hlt
    simp only [Value.slice.injEq] at hq
    obtain ⟨rfl, _, _⟩ := hq
    have q := hc (at_ + i) hlt
    obtain ⟨f1, f2⟩ := hR.fit
    have f3 := hR.xlt
    by_cases hy : y < 128
    · rw [hg1 hy] at q
      have HL : Hid ((uv x).length = i + 1) := hR.stop hy
      have HA : Hid (bits .or .u64 (acc : Int) (IntKind.u64.wrap ((y : Int) * 2 ^ (7 * i))) = (x : Int)) := by rw [← f2]; exact or_acc acc y i f1 (by omega)
      have hz := hR.nz
      have h9 := hR.nine
      clear hc hg1 hg2 f1 f2 f3 hR
      by_cases hi0 : i ≤ 0
      · clear hz h9
        go_wp2
        go_ret2
        refine ⟨?_, rfl⟩
        rw [← HA.out, HL.out]
        rfl
      · have hz' := hz (by omega)
        by_cases hi9 : 9 ≤ i
        · have h9' := h9 (by omega)
          have HB : Hid (bits .or .u64 (acc : Int) ((y : Int) * 9223372036854775808) = (x : Int)) := by
            have e : IntKind.u64.wrap ((y : Int) * 2 ^ (7 * i)) = (y : Int) * 9223372036854775808 := by
              rw [show i = 9 from by omega, show ((2 : Int) ^ (7 * 9)) = 9223372036854775808 from by decide, IntKind.wrap_u64]; omega
            have := HA.out
            rw [e] at this
            exact this
          have HM : Hid (((at_ + (uv x).length : Nat) : Int) = (at_ : Int) + 9 + 1) := by show _ = _; rw [HL.out]; omega
          clear hz h9
          go_wp2
          go_ret2
          refine ⟨?_, rfl⟩
          rw [← HB.out, HM.out]
          rfl
        · have hi9' : i < 9 := by omega
          clear hz h9
          go_wp2
          go_ret2
          refine ⟨?_, rfl⟩
          rw [← HA.out, HL.out]
          rfl
    · rw [hg2 (by omega)] at q
      have hN := hR.next (by omega)
      have HA : Hid (bits .or .u64 (acc : Int) (IntKind.u64.wrap (IntKind.u64.wrap (bits .and .u8 ((y : Int) % 128 + 128) 127) * 2 ^ (7 * i))) = ((acc + y % 128 * 128 ^ i : Nat) : Int)) := by
        have hle : acc + y % 128 * 128 ^ i ≤ acc + y * 128 ^ i := Nat.add_le_add_left (Nat.mul_le_mul_right _ (Nat.mod_le _ _)) _
        have e : IntKind.u64.wrap (bits .and .u8 ((y : Int) % 128 + 128) 127) = ((y % 128 : Nat) : Int) := by rw [and_low, IntKind.wrap_u64]; omega
        rw [e]
        exact or_acc acc (y % 128) i f1 (by omega)
      clear hc hg1 hg2 f1 f2 f3
      go_wp2
      go_round
      case rel => exact ⟨i + 1, y / 128, _, by rw [HA.out], by go_num, by go_num, hN⟩
      case measure => simp [intOf]; omega
end Go.Proofs.Qxb6618972a
