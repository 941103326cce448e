/- Bytes cloned, compared, joined (seat b6618972a). -/
import Derived.Test.Qxb6618972aFrame
import Derived.Deep.QuietTactic
import Derived.BigQuiet
namespace Go.Proofs.Qxb6618972a
open Go.RowKit

def CPost (w : World) (ds : List Int) (e : Ending) (w' : World) : Prop := Below w.heap.size w w' ∧ ∃ v', e = .returned v' ∧ Mine w' v' (byts ds) ∧ ∀ g, v'.ownBlock = some g → w.heap.size ≤ g

theorem Copied.mine {cs : Array Value} {zs : List Int} {k : Nat} (h : Copied .u8 cs zs k) (hk : zs.length ≤ k) (hm : zs.length ≤ 549755813888) (w : World) (e : TypeId) : Mine (w.alloc (.cells cs e)) (.slice (some ⟨w.heap.size, 0, none⟩) zs.length zs.length) (byts zs) := by
  refine .inr ⟨w.heap.size, zs.length, cs, e, by rw [byts_len], heap_alloc_new w _, by rw [byts_len]; exact Nat.le_refl _, by unfold maxLen; omega, h.1, ?_⟩
  rw [byts_len, List.take_of_length_le (by rw [Array.length_toList, h.1]; exact Nat.le_refl _)]
  apply List.ext_getElem?
  intro j
  rw [Array.getElem?_toList]
  by_cases hj : j < zs.length
  · rw [h.2 j (by omega)]; simp [byts, hj]
  · rw [Array.getElem?_eq_none (by rw [h.1]; omega), List.getElem?_eq_none (by rw [byts_len]; omega)]

set_option maxHeartbeats 400000 in
/-- (10) zzCloneBytes -/
theorem cloneBytes (v : Value) (ds : List Int) (w : World) (hr : Reads w v (byts ds)) (hm : ds.length ≤ 1000000000) :
    Calls Try.prog 10 #[v] w (CPost w ds) := by
  have hnl := fun (w : World) (a : Option Addr) (n c n' c' : Nat) => Lib.run_eql_slice_nil (P := Try.prog) w 22 5 a n c n' c' Try.underlying22
  rcases hr with ⟨rfl, hd⟩ | ⟨x, c, rfl, _, hx⟩
  · have : ds = [] := by simpa [byts] using hd
    subst this
    go_enter Try.func10, Try.ntmps10
    go_wp2
    go_ret
    exact ⟨Below.refl _ _, _, rfl, .inl ⟨rfl, rfl⟩, fun g hg => by simp [Value.ownBlock] at hg⟩
  · rw [byts_len]
    have hmk := run_mkrow Try.underlying22 info5 rfl ds.length (by omega) (by omega)
    have hx' : ∀ k (h : k < ds.length), ∃ b o, x = ⟨b, o, none⟩ ∧ w.cell? ⟨b, o + k, none⟩ = some (.int .u8 (ds.getD k 0)) ∧ b < w.heap.size := by
      intro k hk
      obtain ⟨b, o, hb, hc⟩ := hx (by intro e; simp [byts] at e; simp [e] at hk)
      have := hc k (by rw [byts_len]; exact hk)
      simp only [byts, List.getElem_map] at this
      exact ⟨b, o, hb, by rw [this]; simp [hk], World.block_lt_of_cell? _ _ this⟩
    clear hx
    go_enter Try.func10, Try.ntmps10
    go_wp2
    go_loopw [4] (fun i wr => ∃ k : Nat, k ≤ ds.length ∧ i = .int .i64 k ∧ ∃ cs, wr = w.alloc (.cells cs 5) ∧ Copied .u8 cs ds k) (fun i _ => ds.length - (intOf i).toNat)
    case atStart => exact ⟨0, Nat.zero_le _, rfl, _, rfl, by simp [madeCells], fun _ h => by omega⟩
    case round =>
      obtain ⟨k, hk, rfl, cs, rfl, hcs⟩ := hrel
      by_cases hlt : k < ds.length
      · obtain ⟨b, off, rfl, hck, hb⟩ := hx' k hlt
        obtain ⟨u, hu⟩ := getElem?_some_of_lt hcs.1 hlt
        have hst := hcs.step hlt
        clear hx'
        go_wp2
        go_roundw
        case rel => exact ⟨k + 1, by omega, by go_num, _, rfl, by simpa [hlt] using hst⟩
        case measure => simp [intOf]; omega
      · go_wp2
        go_ret
        exact ⟨(Below.refl _ _).alloc (Nat.le_refl _) _, _, rfl, hcs.mine (by omega) (by omega) _ _, fun g hg => by simp [Value.ownBlock] at hg; omega⟩

/-- The cell at j, of bytes. -/
theorem Reads.byte {w : World} {v : Value} {ds : List Int} (h : Reads w v (byts ds)) {j : Nat} (hj : j < ds.length) : ∃ b o c, v = .slice (some ⟨b, o, none⟩) ds.length c ∧ ∀ k, k < ds.length → w.cell? ⟨b, o + k, none⟩ = some (.int .u8 (ds.getD k 0)) := by
  obtain ⟨b, o, c, hv, hc⟩ := h.get (i := j) (by rw [byts_len]; exact hj)
  rw [byts_len] at hv
  refine ⟨b, o, c, hv, fun k hk => ?_⟩
  have := hc k (by rw [byts_len]; exact hk)
  simp only [byts, List.getElem_map] at this
  rw [this]; simp [hk]

set_option maxHeartbeats 400000 in
/-- (14) zzEqBytes: two that are equal. -/
theorem eqBytes (v v' : Value) (ds : List Int) (w : World) (h : Reads w v (byts ds)) (h' : Reads w v' (byts ds)) (hm : ds.length ≤ 1000000000) :
    Calls Try.prog 14 #[v, v'] w fun e w' => e = .returned (.bool true) ∧ ∃ n, w' = w.drewN n := by
  obtain ⟨a, c, hv⟩ := h.form
  obtain ⟨a', c', hv'⟩ := h'.form
  rw [byts_len] at hv hv'
  subst hv hv'
  have hne : ((ds.length : Int) != (ds.length : Int)) = false := by simp
  go_enter Try.func14, Try.ntmps14
  go_wp2
  go_loopw [5] (fun i wr => ∃ k : Nat, k ≤ ds.length ∧ i = .int .i64 k ∧ ∃ n, wr = w.drewN n) (fun i _ => ds.length - (intOf i).toNat)
  case atStart => exact ⟨0, Nat.zero_le _, rfl, 0, rfl⟩
  case round =>
    obtain ⟨k, hk, rfl, n, rfl⟩ := hrel
    by_cases hlt : k < ds.length
    · obtain ⟨b, o, _, hq, hc⟩ := h.byte hlt
      obtain ⟨b', o', _, hq', hc'⟩ := h'.byte hlt
      simp only [Value.slice.injEq] at hq hq'
      obtain ⟨rfl, _, _⟩ := hq
      obtain ⟨rfl, _, _⟩ := hq'
      have q := hc k hlt
      have q' := hc' k hlt
      have g1 : (0 : Int) ≤ (k : Int) := by omega
      have g2 : (k : Int) < (ds.length : Int) := by omega
      clear hc hc'
      go_wp2
      go_quiet (fail)
      go_wp2
      go_roundw
      case rel => exact ⟨k + 1, by omega, by go_num, n + nq, rfl⟩
      case measure => simp [intOf]; omega
    · go_wp2
      go_ret
      exact ⟨rfl, n, rfl⟩

/-- What has been joined: the first k of zs at o. -/
def Laid (cs : Array Value) (zs : List Int) (n k : Nat) : Prop := cs.size = n ∧ ∀ j, j < k → cs[j]? = some (.int .u8 (zs.getD j 0))
theorem Laid.step {cs : Array Value} {zs : List Int} {n k : Nat} (h : Laid cs zs n k) (hk : k < n) : Laid (cs.setIfInBounds k (.int .u8 (zs.getD k 0))) zs n (k + 1) := by
  refine ⟨by simpa using h.1, fun j hj => ?_⟩
  by_cases e : j = k
  · subst e; rw [Array.getElem?_setIfInBounds_self_of_lt (by rw [h.1]; exact hk)]
  · rw [Array.getElem?_setIfInBounds_ne (by omega)]; exact h.2 j (by omega)

set_option maxHeartbeats 1000000 in
/-- (11) zzConcat -/
theorem concat (v v' : Value) (ds es : List Int) (w : World) (h : Reads w v (byts ds)) (h' : Reads w v' (byts es)) (hm : ds.length + es.length ≤ 1000000000) :
    Calls Try.prog 11 #[v, v'] w (CPost w (ds ++ es)) := by
  obtain ⟨a, c, hv⟩ := h.form
  obtain ⟨a', c', hv'⟩ := h'.form
  rw [byts_len] at hv hv'
  subst hv hv'
  have hmk := run_mkrow Try.underlying22 info5 rfl (ds.length + es.length) (by omega) (by omega)
  rw [show ((ds.length + es.length : Nat) : Int) = (ds.length : Int) + (es.length : Int) from by omega] at hmk
  go_enter Try.func11, Try.ntmps11
  go_wp2
  go_loopw [6] (fun i wr => ∃ k : Nat, k ≤ ds.length ∧ i = .int .i64 k ∧ ∃ cs, wr = w.alloc (.cells cs 5) ∧ Laid cs (ds ++ es) (ds.length + es.length) k) (fun i _ => ds.length - (intOf i).toNat)
  case atStart => exact ⟨0, Nat.zero_le _, rfl, _, rfl, by simp [madeCells], fun _ h => by omega⟩
  case round =>
    obtain ⟨k, hk, rfl, cs, rfl, hcs⟩ := hrel
    by_cases hlt : k < ds.length
    · obtain ⟨b, o, _, hq, hc⟩ := h.byte hlt
      simp only [Value.slice.injEq] at hq
      obtain ⟨rfl, _, _⟩ := hq
      have q := hc k hlt
      have hb : b < w.heap.size := World.block_lt_of_cell? _ _ q
      obtain ⟨u, hu⟩ := getElem?_some_of_lt hcs.1 (by omega : k < ds.length + es.length)
      have hst := hcs.step (by omega)
      have hlt2 : k < ds.length + es.length := by omega
      clear hc
      go_wp2
      go_roundw
      case rel => exact ⟨k + 1, by omega, by go_num, _, rfl, by simpa [hlt, List.getElem?_append] using hst⟩
      case measure => simp [intOf]; omega
    · obtain rfl : k = ds.length := by omega
      go_wp2
      go_loopw [7] (fun i wr => ∃ k : Nat, k ≤ es.length ∧ i = .int .i64 k ∧ ∃ cs, wr = w.alloc (.cells cs 5) ∧ Laid cs (ds ++ es) (ds.length + es.length) (ds.length + k)) (fun i _ => es.length - (intOf i).toNat)
      case atStart => exact ⟨0, Nat.zero_le _, rfl, _, rfl, hcs⟩
      case round =>
        clear hcs cs
        obtain ⟨k, hk, rfl, cs, rfl, hcs⟩ := hrel
        by_cases hlt : k < es.length
        · obtain ⟨b, o, _, hq, hc⟩ := h'.byte hlt
          simp only [Value.slice.injEq] at hq
          obtain ⟨rfl, _, _⟩ := hq
          have q := hc k hlt
          have hb : b < w.heap.size := World.block_lt_of_cell? _ _ q
          obtain ⟨u, hu⟩ := getElem?_some_of_lt hcs.1 (by omega : ds.length + k < ds.length + es.length)
          have hst := hcs.step (by omega)
          clear hc
          go_wp2
          go_roundw
          case rel => exact ⟨k + 1, by omega, by go_num, _, rfl, by simpa [hlt, List.getElem?_append, Nat.add_assoc] using hst⟩
          case measure => simp [intOf]; omega
        · obtain rfl : k = es.length := by omega
          go_wp2
          go_ret
          have hC : Copied .u8 cs (ds ++ es) (ds.length + es.length) := ⟨by simpa using hcs.1, hcs.2⟩
          have hM := hC.mine (by simp) (by simp; omega) w 5
          rw [List.length_append] at hM
          exact ⟨(Below.refl _ _).alloc (Nat.le_refl _) _, _, rfl, hM, fun g hg => by simp [Value.ownBlock] at hg; omega⟩
end Go.Proofs.Qxb6618972a
