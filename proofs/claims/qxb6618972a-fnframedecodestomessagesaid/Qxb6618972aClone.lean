import Derived.Test.Qxb6618972aSrv
namespace Go.Proofs.Qxb6618972a
open Go.RowKit

theorem info34 : (Try.prog.info? 34).map (fun i => (i.zero, i.size, i.bytes)) = some (some (.int .u64 0), 1, 8) := by kernel_rfl

/-- 'make([]T, n)', one cell an element. -/
theorem run_mkrow {P : Program} {t e : TypeId} {z : Value} {bytes : Nat} (ht : P.underlying t = some (.slice e)) (hinfo : (P.info? e).map (fun i => (i.zero, i.size, i.bytes)) = some (some z, 1, bytes)) (hz1 : z.cells = #[z])
    (n : Nat) (hbytes : bytes * n ≤ 281474976710656) (h63 : n ≤ 9223372036854775807) (w : World) :
    (Instr.makeSlice t (.int .i64 (n : Int)) (.int .i64 (n : Int))).run P w = .ok (.slice (some ⟨w.heap.size, 0, none⟩) n n) (w.alloc (.cells (madeCells #[z] n) e)) := by
  obtain ⟨i, hi, hz, hs, hb⟩ := info_parts hinfo
  have h := run_make (P := P) w t e i z ht hi hz .i64 .i64 n n (by omega) (by omega) (by rw [hb, ← Int.natCast_mul]; omega) (by omega)
  rw [h, hs, hz1]
  simp

def CloneU (w : World) (zs : List Int) (e : Ending) (w' : World) : Prop :=
  Below w.heap.size w w' ∧ ∃ a c, e = .returned (.slice a zs.length c) ∧ Row .u64 w' a zs

theorem getElem?_some_of_lt {c : Array Value} {k n : Nat} (h : c.size = n) (hk : k < n) : ∃ u, c[k]? = some u := ⟨c[k], by simp [h, hk]⟩

/-- What has been copied: the first k of zs. -/
def Copied (kd : IntKind) (cs : Array Value) (zs : List Int) (k : Nat) : Prop := cs.size = zs.length ∧ ∀ j, j < k → cs[j]? = some (.int kd (zs.getD j 0))

theorem Copied.step {kd : IntKind} {cs : Array Value} {zs : List Int} {k : Nat} (h : Copied kd cs zs k) (hk : k < zs.length) : Copied kd (cs.setIfInBounds k (.int kd (zs.getD k 0))) zs (k + 1) := by
  refine ⟨by simpa using h.1, fun j hj => ?_⟩
  by_cases e : j = k
  · subst e; rw [Array.getElem?_setIfInBounds_self_of_lt (by rw [h.1]; exact hk)]
  · rw [Array.getElem?_setIfInBounds_ne (by omega)]; exact h.2 j (by omega)

theorem Copied.row {kd : IntKind} {cs : Array Value} {zs : List Int} {k : Nat} (h : Copied kd cs zs k) (hk : zs.length ≤ k) (w : World) (e : TypeId) : Row kd (w.alloc (.cells cs e)) (some ⟨w.heap.size, 0, none⟩) zs :=
  .inr ⟨w.heap.size, 0, rfl, by simp, fun i hi => by rw [World.cell?_alloc_new, Nat.zero_add]; exact h.2 i (by omega)⟩

set_option maxHeartbeats 400000 in
theorem cloneU64 (a : Option Addr) (cap : Nat) (zs : List Int) (w : World) (hr : Row .u64 w a zs) (hm : zs.length ≤ 65536) (hnil : zs = [] ∨ a ≠ none) :
    Calls Try.prog 19 #[.slice a zs.length cap] w (CloneU w zs) := by
  have hnl := fun (w : World) (a : Option Addr) (n c n' c' : Nat) => Lib.run_eql_slice_nil (P := Try.prog) w 35 34 a n c n' c' Try.underlying35
  cases a with
  | none =>
    obtain rfl : zs = [] := by simpa using hnil
    clear hnil
    go_enter Try.func19, Try.ntmps19
    go_wp2
    go_ret
    exact ⟨Below.refl _ _, none, 0, rfl, .inl rfl⟩
  | some x =>
    have hmk := run_mkrow Try.underlying35 info34 rfl zs.length (by omega) (by omega)
    go_enter Try.func19, Try.ntmps19
    go_wp2
    go_loopw [4] (fun i wr => ∃ k : Nat, k ≤ zs.length ∧ i = .int .i64 k ∧ ∃ cs, wr = w.alloc (.cells cs 34) ∧ Copied .u64 cs zs k) (fun i _ => zs.length - (intOf i).toNat)
    case atStart => exact ⟨0, Nat.zero_le _, rfl, _, rfl, by simp [madeCells], fun _ h => by omega⟩
    case round =>
      obtain ⟨k, hk, rfl, cs, rfl, hcs⟩ := hrel
      by_cases hlt : k < zs.length
      · obtain ⟨b, off, hx, hb, hc⟩ := hr.get hlt
        obtain rfl : x = ⟨b, off, none⟩ := by simpa using hx
        have hck := hc k hlt
        obtain ⟨u, hu⟩ := getElem?_some_of_lt hcs.1 hlt
        have hst := hcs.step hlt
        clear hc hx
        go_wp2
        go_roundw
        case rel => exact ⟨k + 1, by omega, by go_num, _, rfl, by simpa [hlt] using hst⟩
        case measure => simp [intOf]; omega
      · go_wp2
        go_ret
        exact ⟨(Below.refl _ _).alloc (Nat.le_refl _) _, _, _, rfl, hcs.row (by omega) _ _⟩
end Go.Proofs.Qxb6618972a
