import Derived.Test.Qxb6618972aReadUv
import Derived.BigQuiet
namespace Go.Proofs.Qxb6618972a
open Go.RowKit

/-- xs stands in ds at place k. -/
def At (ds : List Int) (k : Nat) (xs : List Int) : Prop := ∃ rest, ds.drop k = xs ++ rest

theorem At.len {ds xs : List Int} {k : Nat} (h : At ds k xs) : xs = [] ∨ k + xs.length ≤ ds.length := by
  obtain ⟨r, h⟩ := h
  have := congrArg List.length h
  simp only [List.length_drop, List.length_append] at this
  rcases Nat.eq_zero_or_pos xs.length with h0 | h0
  · exact .inl (List.eq_nil_of_length_eq_zero h0)
  · right; omega
theorem At.get {ds xs : List Int} {k : Nat} (h : At ds k xs) {i : Nat} (hi : i < xs.length) : ds.getD (k + i) 0 = xs.getD i 0 := by
  obtain ⟨r, h⟩ := h
  have := congrArg (·[i]?) h
  simp only [List.getElem?_drop, List.getElem?_append_left hi] at this
  simp [List.getD_eq_getElem?_getD, this]
theorem At.left {ds xs ys : List Int} {k : Nat} (h : At ds k (xs ++ ys)) : At ds k xs := by
  obtain ⟨r, h⟩ := h
  exact ⟨ys ++ r, by rw [h, List.append_assoc]⟩
theorem At.right {ds xs ys : List Int} {k : Nat} (h : At ds k (xs ++ ys)) : At ds (k + xs.length) ys := by
  obtain ⟨r, h⟩ := h
  exact ⟨r, by rw [← List.drop_drop, h, List.append_assoc, List.drop_left]⟩

/-- Returns n, and nothing has turned. -/
def NPost0 (w : World) (n : Nat) (e : Ending) (w' : World) : Prop := e = .returned (.int .i64 n) ∧ w' = w
/-- From place k on ds is xs. -/
def Rest (ds : List Int) (k : Nat) (xs : List Int) : Prop := k ≤ ds.length ∧ ds.drop k = xs
theorem Rest.start (ds : List Int) : Rest ds 0 ds := ⟨Nat.zero_le _, rfl⟩
theorem Rest.left {ds xs ys : List Int} {k : Nat} (h : Rest ds k (xs ++ ys)) : At ds k xs := ⟨ys, h.2⟩
theorem Rest.right {ds xs ys : List Int} {k : Nat} (h : Rest ds k (xs ++ ys)) : Rest ds (k + xs.length) ys := by
  refine ⟨?_, by rw [← List.drop_drop, h.2, List.drop_left]⟩
  have := congrArg List.length h.2
  have h1 := h.1
  simp only [List.length_drop, List.length_append] at this
  omega
theorem Rest.all {ds xs : List Int} {k : Nat} (h : Rest ds k xs) : At ds k xs := ⟨[], by rw [h.2, List.append_nil]⟩
theorem Rest.last {ds xs : List Int} {k : Nat} (h : Rest ds k xs) : k + xs.length = ds.length := by
  have := congrArg List.length h.2
  have h1 := h.1
  simp only [List.length_drop] at this
  omega

def NPost1 (w : World) (n : Nat) (e : Ending) (w' : World) : Prop := e = .returned (.int .i64 n) ∧ ∃ k, w' = w.drewN k

set_option maxHeartbeats 400000 in
/-- (39) zzByte -/
theorem zzByte (v : Value) (ds : List Int) (at_ x : Nat) (w : World) (h : Reads w v (byts ds)) (hm : ds.length ≤ 1000000000) (hd : At ds at_ [(x : Int)]) :
    Calls Try.prog 39 #[v, .int .i64 at_, .int .u8 x] w (NPost0 w (at_ + 1)) := by
  have hl : at_ < ds.length := by
    rcases hd.len with h | h
    · simp at h
    · simp at h; omega
  obtain ⟨b, o, c, rfl, hc⟩ := h.byte (j := at_) hl
  have hk := hc at_ hl
  rw [show ds.getD at_ 0 = (x : Int) from hd.get (i := 0) (by simp)] at hk
  have h1 : decide ((at_ : Int) < 0) = false := by simp
  have h2 : decide ((ds.length : Int) ≤ (at_ : Int)) = false := by simp; omega
  have h3 : (0 : Int) ≤ (at_ : Int) := by omega
  have h4 : (at_ : Int) < (ds.length : Int) := by omega
  clear hc h hd
  go_enter Try.func39, Try.ntmps39
  go_wp2
  go_ret
  exact ⟨by go_num, rfl⟩

set_option maxHeartbeats 400000 in
/-- (40) zzU -/
theorem zzU (v : Value) (ds : List Int) (at_ x : Nat) (w : World) (h : Reads w v (byts ds)) (hm : ds.length ≤ 1000000000) (hd : At ds at_ (uv x)) (hx : x < 18446744073709551616) :
    Calls Try.prog 40 #[v, .int .i64 at_, .int .u64 x] w (NPost0 w (at_ + (uv x).length)) := by
  obtain ⟨a, c, hv⟩ := h.form
  rw [byts_len] at hv
  subst hv
  have hrd := readUv _ ds at_ x w h hm hd hx
  have hul := uv_len x
  have hl := hd.len
  generalize (uv x).length = L at *
  have h1 : decide (((at_ + L : Nat) : Int) < 0) = false := by simp; omega
  go_enter Try.func40, Try.ntmps40
  go_wp2_with fail
  refine hrd.mono ?_
  rintro e w' ⟨rfl, rfl⟩
  go_wp2
  go_ret
  exact ⟨by go_num, rfl⟩

set_option maxHeartbeats 400000 in
/-- (41) zzFlag -/
theorem zzFlag (v : Value) (ds : List Int) (at_ : Nat) (b : Bool) (w : World) (h : Reads w v (byts ds)) (hm : ds.length ≤ 1000000000) (hd : At ds at_ (uv (flagN b))) :
    Calls Try.prog 41 #[v, .int .i64 at_, .bool b] w (NPost0 w (at_ + (uv (flagN b)).length)) := by
  obtain ⟨a, c, hv⟩ := h.form
  rw [byts_len] at hv
  subst hv
  have hu := zzU _ ds at_ (flagN b) w h hm hd (by cases b <;> simp [flagN])
  cases b
  all_goals
    go_enter Try.func41, Try.ntmps41
    go_wp2_with fail
    refine hu.mono ?_
    rintro e w' ⟨rfl, rfl⟩
    go_wp2
    go_ret
    exact ⟨rfl, rfl⟩

theorem le8_get (x i : Nat) (hi : i < 8) (hx : x < 18446744073709551616) : (le8 x).getD i 0 = (x : Int) / 2 ^ (8 * i) % 256 := by
  have : i = 0 ∨ i = 1 ∨ i = 2 ∨ i = 3 ∨ i = 4 ∨ i = 5 ∨ i = 6 ∨ i = 7 := by omega
  rcases this with rfl | rfl | rfl | rfl | rfl | rfl | rfl | rfl <;> simp [le8, List.getD] <;> omega

set_option maxHeartbeats 1000000 in
/-- (43) zzRaw -/
theorem zzRaw (v v' : Value) (ds xs : List Int) (at_ : Nat) (w : World) (h : Reads w v (byts ds)) (h' : Reads w v' (byts xs)) (hm : ds.length ≤ 1000000000) (ha : at_ ≤ ds.length) (hd : At ds at_ xs) :
    Calls Try.prog 43 #[v, .int .i64 at_, v'] w (NPost1 w (at_ + xs.length)) := by
  obtain ⟨a, c, hv⟩ := h.form
  obtain ⟨a', c', hv'⟩ := h'.form
  rw [byts_len] at hv hv'
  subst hv hv'
  have hl : at_ + xs.length ≤ ds.length := by rcases hd.len with h | h <;> simp_all
  have h1 : decide ((at_ : Int) < 0) = false := by simp
  have h2 : decide ((ds.length : Int) - (at_ : Int) < (xs.length : Int)) = false := by simp; omega
  go_enter Try.func43, Try.ntmps43
  go_upto_region 4 with fail
  go_loopw [7] (fun i wr => ∃ k : Nat, k ≤ xs.length ∧ i = .int .i64 k ∧ ∃ n, wr = w.drewN n) (fun i _ => xs.length - (intOf i).toNat)
  case atStart => exact ⟨0, Nat.zero_le _, rfl, 0, rfl⟩
  case round =>
    obtain ⟨k, hk, rfl, n, rfl⟩ := hrel
    by_cases hlt : k < xs.length
    · obtain ⟨b, o, _, hq, hc⟩ := h.byte (j := at_ + k) (by omega)
      obtain ⟨b', o', _, hq', hc'⟩ := h'.byte hlt
      simp only [Value.slice.injEq] at hq hq'
      obtain ⟨rfl, _, _⟩ := hq
      obtain ⟨rfl, _, _⟩ := hq'
      have q := hc (at_ + k) (by omega)
      have q' := hc' k hlt
      rw [hd.get hlt] at q
      generalize xs.getD k 0 = y at *
      have e1 : (0 : Int) ≤ (at_ : Int) + (k : Int) := by omega
      have e2 : (at_ : Int) + (k : Int) < (ds.length : Int) := by omega
      have e3 : (0 : Int) ≤ (k : Int) := by omega
      have e4 : (k : Int) < (xs.length : Int) := by omega
      clear hc hc' hd h h' h2
      generalize hW : w.drewN n = wn at *
      have q2 : wn.cell? ⟨b, o + (at_ + k), none⟩ = some (.int .u8 y) := hW ▸ q
      have q2' : wn.cell? ⟨b', o' + k, none⟩ = some (.int .u8 y) := hW ▸ q'
      go_upto_region 6 with fail
      go_quiet (fail)
      go_wp2
      go_roundw
      case rel => exact ⟨k + 1, by omega, by go_num, _, by rw [← hW, World.drewN_drewN]⟩
      case measure => simp [intOf]; omega
    · obtain rfl : k = xs.length := by omega
      clear h2
      go_wp2
      go_ret
      exact ⟨by go_num, n, rfl⟩

set_option maxHeartbeats 1000000 in
/-- (42) zzLE -/
theorem zzLE (v : Value) (ds : List Int) (at_ x : Nat) (w : World) (h : Reads w v (byts ds)) (hm : ds.length ≤ 1000000000) (hx : x < 18446744073709551616) (hd : At ds at_ (le8 x)) :
    Calls Try.prog 42 #[v, .int .i64 at_, .int .u64 x] w (NPost0 w (at_ + 8)) := by
  obtain ⟨a, c, hv⟩ := h.form
  rw [byts_len] at hv
  subst hv
  have hl : at_ + 8 ≤ ds.length := by
    rcases hd.len with h | h
    · simp [le8] at h
    · simpa [le8] using h
  have h1 : decide ((at_ : Int) < 0) = false := by simp
  have h2 : decide ((ds.length : Int) - (at_ : Int) < 8) = false := by simp; omega
  go_enter Try.func42, Try.ntmps42
  go_upto_region 4 with fail
  go_loop [7] (fun i => ∃ k : Nat, k ≤ 8 ∧ i = .int .i64 k) (fun i => 8 - (intOf i).toNat)
  case atStart => exact ⟨0, Nat.zero_le _, rfl⟩
  case round =>
    obtain ⟨k, hk, rfl⟩ := hrel
    by_cases hlt : k < 8
    · obtain ⟨b, o, _, hq, hc⟩ := h.byte (j := at_ + k) (by omega)
      simp only [Value.slice.injEq] at hq
      obtain ⟨rfl, _, _⟩ := hq
      have q := hc (at_ + k) (by omega)
      rw [hd.get (show k < (le8 x).length from hlt), le8_get x k hlt hx] at q
      have e1 : (0 : Int) ≤ (at_ : Int) + (k : Int) := by omega
      have e2 : (at_ : Int) + (k : Int) < (ds.length : Int) := by omega
      clear hc hd h h2
      go_wp2
      go_round
      case rel => exact ⟨k + 1, by omega, by go_num⟩
      case measure => simp [intOf]; omega
    · obtain rfl : k = 8 := by omega
      clear h2
      go_wp2
      go_ret
      exact ⟨by go_num, rfl⟩
end Go.Proofs.Qxb6618972a
