/- The walk of FnPositionInvertsLogLayout. -/
import Derived.Test.Qxb6618972aClone
namespace Go.Proofs.Qxb6618972a
open Go.RowKit

/-- The first k entries of the log. -/
def ents (bi : Int) (zs : List Int) (k : Nat) : List (Int × Int) := (List.range k).map fun (j : Nat) => (bi + (j : Int) + 1, zs.getD j 0)

theorem ents_len (bi : Int) (zs : List Int) (k : Nat) : (ents bi zs k).length = k := by simp [ents]
theorem ents_at (bi : Int) (zs : List Int) (k j : Nat) (h : j < (ents bi zs k).length) : (ents bi zs k)[j] = (bi + (j : Int) + 1, zs.getD j 0) := by simp [ents]
theorem ents_succ (bi : Int) (zs : List Int) (k : Nat) : ents bi zs (k + 1) = ents bi zs k ++ [(bi + (k : Int) + 1, zs.getD k 0)] := by simp [ents, List.range_succ]
theorem ents_last (bi bt : Int) (zs : List Int) (k : Nat) : (lastOf bi bt (ents bi zs k)).1 = bi + k := by
  cases k with
  | zero => simp [ents, lastOf]
  | succ k => rw [ents_succ]; simp [lastOf]; omega

theorem pos_at (bi : Int) (k : Nat) (h0 : 0 ≤ bi) (h : bi + k + 1 ≤ 18446744073709551615) : pos (bi + k + 1) bi = k := by
  unfold pos
  simp only [IntKind.wrap_u64]
  omega
theorem pos_base (bi : Int) : pos bi bi = 18446744073709551615 := by
  unfold pos
  simp [IntKind.wrap_u64]

theorem zzPosition' (b : Nat) (ix bi bt : Int) (v : Value) (w : World) (y : Int) (hs : Srv w b bi bt v) (hy : pos ix bi = y) :
    Calls Try.prog 22 #[.pointer (some ⟨b, 0, none⟩), .int .u64 ix] w fun e w' => e = .returned (.int .u64 y) ∧ w' = w := by
  subst hy; exact zzPosition b ix bi bt v w hs

theorem entryIndex' (b B : Nat) (k : Nat) (bi bt : Int) (v : Value) (zs : List Int) (n : Nat) (w : World) (hs : Srv w b bi bt v) (hl : Log w B v (ents bi zs n)) (hk : k < n) (hm : n ≤ 65536) :
    Calls Try.prog 23 #[.pointer (some ⟨b, 0, none⟩), .int .i64 k] w fun e w' => e = .returned (.int .u64 (bi + k + 1)) ∧ w' = w := by
  have := entryIndex b B k bi bt v (ents bi zs n) w hs hl (by rw [ents_len]; exact hk) (by rw [ents_len]; exact hm)
  rwa [ents_at] at this

theorem lastIndex' (b B : Nat) (bi bt : Int) (v : Value) (zs : List Int) (n : Nat) (w : World) (hs : Srv w b bi bt v) (hl : Log w B v (ents bi zs n)) (hm : n ≤ 65536) :
    Calls Try.prog 24 #[.pointer (some ⟨b, 0, none⟩)] w fun e w' => e = .returned (.int .u64 (bi + n)) ∧ Below w.heap.size w w' := by
  have := lastIndex b B bi bt v (ents bi zs n) w hs hl (by rw [ents_len]; exact hm)
  rwa [ents_last] at this

/-- A server with the first k entries in its log. -/
def Has (w : World) (b B : Nat) (bi bt : Int) (zs : List Int) (k : Nat) : Prop := ∃ v, Srv w b bi bt v ∧ Log w B v (ents bi zs k)

theorem appendEntry' (b B : Nat) (bi bt : Int) (zs : List Int) (k : Nat) (ix t : Int) (w : World) (h : Has w b B bi bt zs k) (hb : b < B) (hB : B ≤ w.heap.size) (hk : k ≤ 65536) (hix : ix = bi + k + 1) (ht : t = zs.getD k 0) :
    Calls Try.prog 21 #[.pointer (some ⟨b, 0, none⟩), .int .u64 ix, .int .u64 t] w fun e w' => e = .returned (.tuple #[]) ∧ Has w' b B bi bt zs (k + 1) ∧ Below b w w' := by
  obtain ⟨v, hs, hl⟩ := h
  have hown : w.ownsRow B 101 4 v k ((ents bi zs k).flatMap ent) := by simpa [Log, ents_len] using hl
  refine (appendEntry b ix t bi bt v k _ B w hs hown hb hB hk).mono ?_
  rintro e w' ⟨rfl, v', hs', hown', hat, hkp⟩
  refine ⟨rfl, ⟨v', hs', ?_⟩, hkp.below (by omega) ?_⟩
  · unfold Log
    rw [ents_len, ents_succ, List.flatMap_append]
    subst hix ht
    simpa using hown'
  · rintro j (rfl | hj)
    · omega
    · have := (hown.lt j hj.symm).1; omega

theorem Has.made (w : World) {c : Array Value} {bi bt : Int} (zs : List Int) (hc : SrvCells c bi bt) (h17 : c[17]? = some (.slice none 0 0)) : Has (w.alloc (.cells c 98)) w.heap.size (w.heap.size + 1) bi bt zs 0 :=
  ⟨_, Srv.made w hc h17, World.ownsRow_nil _ _ _ _⟩

theorem Row.below {kd : IntKind} {w w' : World} {a : Option Addr} {zs : List Int} (h : Row kd w a zs) {B : Nat} (hb : Below B w w') (hB : w.heap.size ≤ B) : Row kd w' a zs := by
  rcases h with h | ⟨b, off, ha, hlt, hc⟩
  · exact .inl h
  · exact .inr ⟨b, off, ha, by have := hb.size; omega, fun i hi => (hb.cell (p := ⟨b, off + i, none⟩) (by simp; omega)).trans (hc i hi)⟩

set_option maxHeartbeats 400000 in
theorem bytes17 (a b : Int) (s : Option Addr) (len cap : Nat) (w : World) (h : len ≤ 1048576) :
    Calls Try.prog 17 #[.int .u64 a, .int .u64 b, .slice s len cap] w fun e w' => e = .returned (.bool true) ∧ w' = w := by
  go_enter Try.func17, Try.ntmps17
  go_wp2
  go_ret
  exact ⟨rfl, rfl⟩

set_option maxHeartbeats 400000 in
theorem bytes17_no (a b : Int) (s : Option Addr) (len cap : Nat) (w : World) (h : 1048576 < len) :
    Calls Try.prog 17 #[.int .u64 a, .int .u64 b, .slice s len cap] w fun e w' => e = .returned (.bool false) ∧ w' = w := by
  go_enter Try.func17, Try.ntmps17
  go_wp2
  go_ret
  exact ⟨rfl, rfl⟩

theorem walk_some (bi bt : Int) (a : Option Addr) (cap : Nat) (zs : List Int) (w : World) (hbi : 0 ≤ bi) (hbt : 0 ≤ bt) (hr : Row .u64 w a zs) (hm : zs.length ≤ 65536) (hnil : zs = [] ∨ a ≠ none) :
    Calls Try.prog 5 #[.int .u64 bi, .int .u64 bt, .slice a zs.length cap] w fun e w' => e = .returned (.bool true) ∧ Below w.heap.size w w' := by
  have hd : decide ((65536 : Int) < (zs.length : Int)) = false := by simp; omega
  go_enter Try.func5, Try.ntmps5
  go_wp2_with fail
  refine (bytes17 _ _ _ _ _ _ (by omega)).mono ?_
  rintro e w' ⟨rfl, hw⟩
  subst hw
  go_wp2_with fail
  refine (reachable _ _ _ _ _ _ hbi hbt hr hm).mono ?_
  rintro e w' ⟨rfl, r, rfl, hreach⟩
  cases r with
  | false =>
    go_wp2
    go_ret
    exact ⟨rfl, Below.refl _ _⟩
  | true =>
    have hfit := hreach rfl
    clear hreach
    go_wp2_with fail
    refine (cloneU64 _ _ _ _ hr hm hnil).mono ?_
    rintro e w1 ⟨hb1, a1, c1, rfl, hr1⟩
    clear hr hnil
    go_wp2_with fail
    refine (newServer _ _ _).mono ?_
    rintro e w2 ⟨rfl, c, rfl, hc, h17⟩
    have hs0 := Has.made w1 zs hc h17
    have hb2 : Below w1.heap.size w1 (w1.alloc (.cells c 98)) := (Below.refl _ _).alloc (Nat.le_refl _) _
    have hsz2 : w1.heap.size + 1 ≤ (w1.alloc (.cells c 98)).heap.size := by simp
    generalize w1.alloc (.cells c 98) = w2 at *
    clear hc h17
    go_wp2_with fail
    go_loopw [9] (fun i wr => ∃ k : Nat, k ≤ zs.length ∧ i = .int .i64 k ∧ Has wr w1.heap.size (w1.heap.size + 1) bi bt zs k ∧ Below w1.heap.size w1 wr ∧ w1.heap.size + 1 ≤ wr.heap.size) (fun i _ => zs.length - (intOf i).toNat)
    case atStart => exact ⟨0, Nat.zero_le _, rfl, hs0, hb2, hsz2⟩
    case round =>
      obtain ⟨k, hk, rfl, hs, hb, hsz⟩ := hrel
      clear hs0 hb2 hsz2
      by_cases hlt : k < zs.length
      · obtain ⟨b, off, rfl, hbl, hc⟩ := (hr1.below hb (Nat.le_refl _)).get hlt
        have hck := hc k hlt
        have hsb := hb.size
        clear hc hr1
        go_wp2_with fail
        refine (appendEntry' w1.heap.size (w1.heap.size + 1) bi bt zs k _ _ _ hs (by omega) hsz (by omega) rfl (by simp [hlt])).mono ?_
        rintro e w3 ⟨rfl, hs3, hb3⟩
        have hb4 := hb.trans hb3
        have hsz4 : w1.heap.size + 1 ≤ w3.heap.size := by have := hb3.size; omega
        clear hs hb hb3 hsz hsb hck
        go_wp2
        go_roundw
        case rel => exact ⟨k + 1, by omega, by go_num, hs3, hb4, hsz4⟩
        case measure => simp [intOf]; omega
      · obtain rfl : k = zs.length := by omega
        have hB : Below w'.heap.size w' wr := hb1.trans (hb.mono hb1.size)
        clear hr1 hb hb1
        obtain ⟨v, hs, hl⟩ := hs
        go_wp2_with fail
        clear hsz
        go_loop [10] (fun i => ∃ k : Nat, k ≤ zs.length ∧ i = .int .i64 k) (fun i => zs.length - (intOf i).toNat)
        case atStart => exact ⟨0, Nat.zero_le _, rfl⟩
        case round =>
          obtain ⟨k, hk, rfl⟩ := hrel
          by_cases hlt : k < zs.length
          · go_wp2_with fail
            refine (entryIndex' w1.heap.size (w1.heap.size + 1) k bi bt v zs zs.length _ hs hl hlt hm).mono ?_
            rintro e w3 ⟨rfl, hw⟩
            subst hw
            go_wp2_with fail
            refine (zzPosition' w1.heap.size _ bi bt v _ (k : Int) hs (pos_at bi k hbi (by omega))).mono ?_
            rintro e w3 ⟨rfl, hw⟩
            subst hw
            go_wp2
            go_round
            case rel => exact ⟨k + 1, by omega, by go_num⟩
            case measure => simp [intOf]; omega
          · have hsl := hs.lt
            go_wp2_with fail
            refine (lastIndex' w1.heap.size (w1.heap.size + 1) bi bt v zs zs.length _ hs hl hm).mono ?_
            rintro e w4 ⟨rfl, hb4⟩
            have hs4 := hs.of_block (hb4.block _ hsl)
            have hB4 := hB.trans (hb4.mono hB.size)
            clear hs hb4 hB hl
            go_wp2_with fail
            refine (zzPosition' w1.heap.size _ bi bt v _ (zs.length : Int) hs4 (pos_at bi zs.length hbi hfit)).mono ?_
            rintro e w3 ⟨rfl, hw⟩
            subst hw
            go_wp2_with fail
            refine (zzPosition' w1.heap.size _ bi bt v _ (18446744073709551615 : Int) hs4 (pos_base bi)).mono ?_
            rintro e w3 ⟨rfl, hw⟩
            subst hw
            go_wp2
            go_ret
            exact ⟨rfl, hB4⟩

theorem walk_many (bi bt : Int) (a : Option Addr) (len cap : Nat) (w : World) (h : 65536 < len) (hm : len ≤ 9223372036854775807) :
    Calls Try.prog 5 #[.int .u64 bi, .int .u64 bt, .slice a len cap] w fun e w' => e = .returned (.bool true) ∧ Below w.heap.size w w' := by
  by_cases h2 : 1048576 < len
  · go_enter Try.func5, Try.ntmps5
    go_wp2_with fail
    refine (bytes17_no _ _ _ _ _ _ h2).mono ?_
    rintro e w' ⟨rfl, hw⟩
    subst hw
    go_wp2
    go_ret
    exact ⟨rfl, Below.refl _ _⟩
  · go_enter Try.func5, Try.ntmps5
    go_wp2_with fail
    refine (bytes17 _ _ _ _ _ _ (by omega)).mono ?_
    rintro e w' ⟨rfl, hw⟩
    subst hw
    go_wp2
    go_ret
    exact ⟨rfl, Below.refl _ _⟩
end Go.Proofs.Qxb6618972a
