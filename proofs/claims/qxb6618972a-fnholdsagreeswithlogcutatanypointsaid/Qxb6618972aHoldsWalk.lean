/- The walk of FnHoldsAgreesWithLogCutAtAnyPoint. -/
import Derived.Test.Qxb6618972aHolds
namespace Go.Proofs.Qxb6618972a
open Go.RowKit

theorem Log.of_block {w w' : World} {B : Nat} {v : Value} {es : List (Int × Int)} (h : Log w B v es) (hb : ∀ g, v.ownBlock = some g → w'.heap[g]? = w.heap[g]?) : Log w' B v es := by
  obtain ⟨h1, h2⟩ := h
  refine ⟨h1, ?_⟩
  rcases h2 with h2 | ⟨g, cap, cur, hv, hg, hh, r⟩
  · exact .inl h2
  · exact .inr ⟨g, cap, cur, hv, hg, by rw [hb g (by rw [hv]; rfl)]; exact hh, r⟩

/-- Two servers over one base; their logs lie apart. -/
def Two (w : World) (b1 b2 B : Nat) (bi bt : Int) (zs : List Int) (i j : Nat) : Prop :=
  ∃ v1 v2, (Srv w b1 bi bt v1 ∧ Log w B v1 (ents bi zs i)) ∧ (Srv w b2 bi bt v2 ∧ Log w B v2 (ents bi zs j)) ∧ (∀ g, v1.ownBlock = some g → v2.ownBlock ≠ some g)

theorem Two.swap {w : World} {b1 b2 B : Nat} {bi bt : Int} {zs : List Int} {i j : Nat} (h : Two w b1 b2 B bi bt zs i j) : Two w b2 b1 B bi bt zs j i := by
  obtain ⟨v1, v2, h1, h2, h3⟩ := h
  exact ⟨v2, v1, h2, h1, fun g hg e => h3 g e hg⟩
theorem Two.fst {w : World} {b1 b2 B : Nat} {bi bt : Int} {zs : List Int} {i j : Nat} (h : Two w b1 b2 B bi bt zs i j) : Has w b1 B bi bt zs i := by
  obtain ⟨v1, v2, h1, h2, h3⟩ := h
  exact ⟨v1, h1⟩
theorem Two.snd {w : World} {b1 b2 B : Nat} {bi bt : Int} {zs : List Int} {i j : Nat} (h : Two w b1 b2 B bi bt zs i j) : Has w b2 B bi bt zs j := h.swap.fst

theorem append1 (b1 b2 B : Nat) (bi bt : Int) (zs : List Int) (i j : Nat) (ix t : Int) (w : World) (h : Two w b1 b2 B bi bt zs i j) (hb1 : b1 < B) (hb2 : b2 < B) (hne : b1 ≠ b2) (hB : B ≤ w.heap.size) (hi : i ≤ 65536) (hix : ix = bi + i + 1) (ht : t = zs.getD i 0) :
    Calls Try.prog 21 #[.pointer (some ⟨b1, 0, none⟩), .int .u64 ix, .int .u64 t] w fun e w' => e = .returned (.tuple #[]) ∧ Two w' b1 b2 B bi bt zs (i + 1) j ∧ (∀ m, m ≤ b1 → m ≤ b2 → Below m w w') := by
  obtain ⟨v1, v2, ⟨hs1, hl1⟩, ⟨hs2, hl2⟩, hap⟩ := h
  have hown : w.ownsRow B 101 4 v1 i ((ents bi zs i).flatMap ent) := by simpa [Log, ents_len] using hl1
  refine (appendEntry b1 ix t bi bt v1 i _ B w hs1 hown hb1 hB hi).mono ?_
  rintro e w' ⟨rfl, v', hs', hown', hat, hkp⟩
  have hl' : Log w' B v' (ents bi zs (i + 1)) := by
    unfold Log
    rw [ents_len, ents_succ, List.flatMap_append]
    subst hix ht
    simpa using hown'
  have hlt2 : ∀ g, v2.ownBlock = some g → B ≤ g ∧ g < w.heap.size := fun g hg => World.ownsRow.lt hl2 g hg
  refine ⟨rfl, ⟨v', v2, ⟨hs', hl'⟩, ⟨hs2.of_block (hkp.block _ hs2.lt ?_), hl2.of_block fun g hg => hkp.block g (hlt2 g hg).2 ?_⟩, fun g hg e => ?_⟩, fun m h1 h2 => hkp.below (by omega) ?_⟩
  · rintro (h | h)
    · omega
    · have := (hown.lt b2 h.symm).1; omega
  · rintro (h | h)
    · have := (hlt2 g hg).1; omega
    · exact hap g h.symm hg
  · rcases hat with h | h
    · exact hap g (h.symm.trans hg) e
    · have h3 := (hlt2 g e).2
      rw [h] at hg
      simp at hg
      omega
  · rintro k (h | h)
    · omega
    · have := (hown.lt k h.symm).1; omega

theorem Two.made (w : World) {c1 c2 : Array Value} {bi bt : Int} (zs : List Int) (hc1 : SrvCells c1 bi bt) (h17 : c1[17]? = some (.slice none 0 0)) (hc2 : SrvCells c2 bi bt) (h27 : c2[17]? = some (.slice none 0 0)) :
    Two ((w.alloc (.cells c1 98)).alloc (.cells c2 98)) w.heap.size (w.heap.size + 1) (w.heap.size + 2) bi bt zs 0 0 := by
  have h2 := Srv.made (w.alloc (.cells c1 98)) hc2 h27
  rw [World.size_alloc] at h2
  exact ⟨_, _, ⟨(Srv.made w hc1 h17).alloc _, World.ownsRow_nil _ _ _ _⟩, ⟨h2, World.ownsRow_nil _ _ _ _⟩, fun g hg => by simp [Value.ownBlock] at hg⟩

theorem Two.later {w w' : World} {b1 b2 B : Nat} {bi bt : Int} {zs : List Int} {i j : Nat} (h : Two w b1 b2 B bi bt zs i j) (hb : Below w.heap.size w w') : Two w' b1 b2 B bi bt zs i j := by
  obtain ⟨v1, v2, ⟨hs1, hl1⟩, ⟨hs2, hl2⟩, hap⟩ := h
  exact ⟨v1, v2, ⟨hs1.in ⟨w', hb⟩, hl1.in ⟨w', hb⟩⟩, ⟨hs2.in ⟨w', hb⟩, hl2.in ⟨w', hb⟩⟩, hap⟩

/-! ### The plain laws -/
theorem cut_law (bi bt : Int) (zs : List Int) (n k : Nat) (ix t : Int) (hk : k ≤ n) : holdsB bi bt zs k ix t = (holdsB bi bt zs n ix t && decide (ix ≤ bi + k)) := by
  unfold holdsB
  by_cases h1 : ix < bi
  · have : ix ≤ bi + k := by omega
    simp [h1, this]
  · by_cases h2 : ix ≤ bi + k
    · have : ix ≤ bi + n := by omega
      simp [h1, h2, this]
    · simp [h1, h2]
theorem full_law (bi bt : Int) (zs : List Int) (n : Nat) (t : Int) (ht : t = if n = 0 then bt else zs.getD (n - 1) 0) : holdsB bi bt zs n (bi + n) t = true := by
  unfold holdsB termOf
  subst ht
  by_cases h : n = 0
  · subst h; simp
  · have h1 : ¬ (bi + (n : Int) = bi) := by omega
    have h2 : (bi + (n : Int) - bi - 1).toNat = n - 1 := by omega
    rw [if_neg h1, if_neg h, h2]
    simp
theorem lost_law (bi bt : Int) (zs : List Int) (k : Nat) (t : Int) : holdsB bi bt zs k (bi + k + 1) t = false := by
  unfold holdsB
  have h1 : ¬ (bi + (k : Int) + 1 < bi) := by omega
  have h2 : ¬ (bi + (k : Int) + 1 ≤ bi + k) := by omega
  simp [h1, h2]

set_option maxHeartbeats 400000 in
theorem bytes25 (a b : Int) (s : Option Addr) (len cap : Nat) (x y z : Int) (w : World) (h : len ≤ 1048576) :
    Calls Try.prog 25 #[.int .u64 a, .int .u64 b, .slice s len cap, .int .u64 x, .int .u64 y, .int .u64 z] w fun e w' => e = .returned (.bool true) ∧ w' = w := by
  go_enter Try.func25, Try.ntmps25
  go_wp2
  go_ret
  exact ⟨rfl, rfl⟩

set_option maxHeartbeats 400000 in
theorem bytes25_no (a b : Int) (s : Option Addr) (len cap : Nat) (x y z : Int) (w : World) (h : 1048576 < len) :
    Calls Try.prog 25 #[.int .u64 a, .int .u64 b, .slice s len cap, .int .u64 x, .int .u64 y, .int .u64 z] w fun e w' => e = .returned (.bool false) ∧ w' = w := by
  go_enter Try.func25, Try.ntmps25
  go_wp2
  go_ret
  exact ⟨rfl, rfl⟩

theorem hwalk_many (bi bt : Int) (a : Option Addr) (len cap : Nat) (x y z : Int) (w : World) (h : 65536 < len) (hm : len ≤ 9223372036854775807) :
    Calls Try.prog 6 #[.int .u64 bi, .int .u64 bt, .slice a len cap, .int .u64 x, .int .u64 y, .int .u64 z] w fun e w' => e = .returned (.bool true) ∧ Below w.heap.size w w' := by
  by_cases h2 : 1048576 < len
  · go_enter Try.func6, Try.ntmps6
    go_wp2_with fail
    refine (bytes25_no _ _ _ _ _ _ _ _ _ h2).mono ?_
    rintro e w' ⟨rfl, hw⟩
    subst hw
    go_wp2
    go_ret
    exact ⟨rfl, Below.refl _ _⟩
  · go_enter Try.func6, Try.ntmps6
    go_wp2_with fail
    refine (bytes25 _ _ _ _ _ _ _ _ _ (by omega)).mono ?_
    rintro e w' ⟨rfl, hw⟩
    subst hw
    go_wp2
    go_ret
    exact ⟨rfl, Below.refl _ _⟩

set_option maxHeartbeats 1000000 in
theorem hwalk_some (bi bt : Int) (a : Option Addr) (cap : Nat) (zs : List Int) (K ix t : Int) (w : World) (hbi : 0 ≤ bi) (hbt : 0 ≤ bt) (hK : 0 ≤ K) (hr : Row .u64 w a zs) (hm : zs.length ≤ 65536) (hnil : zs = [] ∨ a ≠ none) :
    Calls Try.prog 6 #[.int .u64 bi, .int .u64 bt, .slice a zs.length cap, .int .u64 K, .int .u64 ix, .int .u64 t] w fun e w' => e = .returned (.bool true) ∧ Below w.heap.size w w' := by
  have hd : decide ((65536 : Int) < (zs.length : Int)) = false := by simp; omega
  go_enter Try.func6, Try.ntmps6
  go_wp2_with fail
  refine (bytes25 _ _ _ _ _ _ _ _ _ (by omega)).mono ?_
  rintro e w' ⟨rfl, hw⟩
  subst hw
  go_wp2_with fail
  refine (reachable _ _ _ _ _ _ hbi hbt hr hm).mono ?_
  rintro e w' ⟨rfl, r, rfl, hreach⟩
  cases r with
  | false =>
    go_wp2
    go_ret
    exact ⟨rfl, Below.refl _ _⟩
  | true =>
    have hfit := hreach rfl
    clear hreach
    by_cases hkn : (zs.length : Int) < K
    · go_wp2
      go_ret
      exact ⟨rfl, Below.refl _ _⟩
    · obtain ⟨k, rfl⟩ := Int.eq_ofNat_of_zero_le hK
      have hk : k ≤ zs.length := by omega
      have hd2 : decide ((zs.length : Int) < (k : Int)) = false := by simp; omega
      clear hkn hK
      go_wp2_with fail
      refine (cloneU64 _ _ _ _ hr hm hnil).mono ?_
      rintro e w1 ⟨hb1, a1, c1, rfl, hr1⟩
      clear hr hnil
      go_wp2_with fail
      refine (newServer _ _ _).mono ?_
      rintro e w2 ⟨rfl, c, rfl, hc, h17⟩
      go_wp2_with fail
      refine (newServer _ _ _).mono ?_
      rintro e w2 ⟨rfl, c', rfl, hc', h17'⟩
      rw [World.size_alloc]
      have hs0 := Two.made w1 zs hc h17 hc' h17'
      have hb2 : Below w1.heap.size w1 ((w1.alloc (.cells c 98)).alloc (.cells c' 98)) := ((Below.refl _ _).alloc (Nat.le_refl _) _).alloc (by simp) _
      have hsz2 : w1.heap.size + 2 ≤ ((w1.alloc (.cells c 98)).alloc (.cells c' 98)).heap.size := by simp
      generalize (w1.alloc (.cells c 98)).alloc (.cells c' 98) = w2 at *
      clear hc h17 hc' h17'
      go_wp2_with fail
      go_loopw [16] (fun i wr => ∃ j : Nat, j ≤ zs.length ∧ i = .int .i64 j ∧ Two wr w1.heap.size (w1.heap.size + 1) (w1.heap.size + 2) bi bt zs j (min j k) ∧ Below w1.heap.size w1 wr ∧ w1.heap.size + 2 ≤ wr.heap.size) (fun i _ => zs.length - (intOf i).toNat)
      case atStart => exact ⟨0, Nat.zero_le _, rfl, by simpa using hs0, hb2, hsz2⟩
      case round =>
        obtain ⟨j, hj, rfl, hs, hb, hsz⟩ := hrel
        clear hs0 hb2 hsz2
        by_cases hlt : j < zs.length
        · obtain ⟨b, off, rfl, hbl, hc⟩ := hr1.get hlt
          have hck : wr.cell? ⟨b, off + j, none⟩ = some (.int .u64 (zs.getD j 0)) := (hb.cell (p := ⟨b, off + j, none⟩) hbl).trans (hc j hlt)
          go_wp2_with fail
          refine (append1 w1.heap.size (w1.heap.size + 1) (w1.heap.size + 2) bi bt zs j (min j k) _ _ _ hs (by omega) (by omega) (by omega) hsz (by omega) rfl (by simp [hlt])).mono ?_
          rintro e w3 ⟨rfl, hs3, hb3⟩
          have hb4 := hb.trans (hb3 w1.heap.size (Nat.le_refl _) (by omega))
          have hsz4 : w1.heap.size + 2 ≤ w3.heap.size := by have := (hb3 w1.heap.size (Nat.le_refl _) (by omega)).size; omega
          have hck3 : w3.cell? ⟨b, off + j, none⟩ = some (.int .u64 (zs.getD j 0)) := (hb4.cell (p := ⟨b, off + j, none⟩) hbl).trans (hc j hlt)
          clear hs hb hb3 hsz hck hc
          by_cases hjk : j < k
          · rw [show min j k = j from by omega] at hs3
            go_wp2_with fail
            refine (append1 (w1.heap.size + 1) w1.heap.size (w1.heap.size + 2) bi bt zs j (j + 1) _ _ _ hs3.swap (by omega) (by omega) (by omega) hsz4 (by omega) rfl (by simp [hlt])).mono ?_
            rintro e w5 ⟨rfl, hs5, hb5⟩
            have hb6 := hb4.trans (hb5 w1.heap.size (by omega) (Nat.le_refl _))
            have hsz6 : w1.heap.size + 2 ≤ w5.heap.size := by have := (hb5 w1.heap.size (by omega) (Nat.le_refl _)).size; omega
            clear hs3 hb4 hb5 hsz4 hck3
            go_wp2
            go_roundw
            case rel => exact ⟨j + 1, by omega, by go_num, by rw [show min (j + 1) k = j + 1 from by omega]; exact hs5.swap, hb6, hsz6⟩
            case measure => simp [intOf]; omega
          · rw [show min j k = k from by omega] at hs3
            go_wp2
            go_roundw
            case rel => exact ⟨j + 1, by omega, by go_num, by rw [show min (j + 1) k = k from by omega]; exact hs3, hb4, hsz4⟩
            case measure => simp [intOf]; omega
        · obtain rfl : j = zs.length := by omega
          rw [show min zs.length k = k from by omega] at hs
          have hB : Below w'.heap.size w' wr := hb1.trans (hb.mono hb1.size)
          have hr2 := hr1.below hb (Nat.le_refl _)
          clear hr1 hb hb1
          by_cases h0 : zs.length = 0
          · have hd0 : decide ((0 : Int) < (zs.length : Int)) = false := decide_eq_false (by omega)
            have H0 : Hid (zs.length = 0) := h0
            have hle : zs.length ≤ 0 := by omega
            clear h0
            go_wp2_with fail
            refine (zzHolds w1.heap.size (w1.heap.size + 2) ix t bi bt zs zs.length _ hs.fst hm hbi hfit).mono ?_
            rintro e w3 ⟨rfl, hb3⟩
            have hs3 := hs.later hb3
            have hB3 := hB.trans (hb3.mono hB.size)
            have hr3 := hr2.below hb3 (Nat.le_refl _)
            clear hs hB hb3 hr2
            have hcut := cut_law bi bt zs zs.length k ix t hk
            generalize holdsB bi bt zs zs.length ix t = F at hcut ⊢
            have HC : Hid (holdsB bi bt zs k ix t = (F && decide (ix ≤ bi + k))) := hcut
            clear hcut
            cases F
            all_goals
              go_wp2_with fail
              refine (zzHolds (w1.heap.size + 1) (w1.heap.size + 2) ix t bi bt zs k _ hs3.snd (by omega) hbi (by omega)).mono ?_
              rintro e w4 ⟨rfl, hb4⟩
              have hs4 := hs3.later hb4
              have hB4 := hB3.trans (hb4.mono hB3.size)
              have hr4 := hr3.below hb4 (Nat.le_refl _)
              clear hs3 hB3 hb4 hr3
              rw [HC.out]
              simp only [Bool.false_and, Bool.true_and]
              go_wp2_with fail
              refine (zzHolds w1.heap.size (w1.heap.size + 2) _ _ bi bt zs zs.length _ hs4.fst hm hbi hfit).mono ?_
              rintro e w5 ⟨rfl, hb5⟩
              have hs5 := hs4.later hb5
              have hB5 := hB4.trans (hb5.mono hB4.size)
              have hr5 := hr4.below hb5 (Nat.le_refl _)
              clear hs4 hB4 hb5 hr4
              rw [full_law bi bt zs zs.length _ (by simp [H0.out])]
              have hkn : ¬ k < zs.length := by omega
              have hd3 : decide ((k : Int) < (zs.length : Int)) = false := decide_eq_false (by omega)
              go_wp2
              go_ret
              exact ⟨rfl, hB5⟩
          · obtain ⟨b, off, rfl, hbl, hc⟩ := hr2.get (i := zs.length - 1) (by omega)
            have hck := hc (zs.length - 1) (by omega)
            have hd0 : decide ((0 : Int) < (zs.length : Int)) = true := decide_eq_true (by omega)
            have H0 : Hid (¬ zs.length = 0) := h0
            have hpos : 0 < zs.length := by omega
            clear h0
            clear hc
            go_wp2_with fail
            refine (zzHolds w1.heap.size (w1.heap.size + 2) ix t bi bt zs zs.length _ hs.fst hm hbi hfit).mono ?_
            rintro e w3 ⟨rfl, hb3⟩
            have hs3 := hs.later hb3
            have hB3 := hB.trans (hb3.mono hB.size)
            have hr3 := hr2.below hb3 (Nat.le_refl _)
            clear hs hB hb3 hr2
            have hcut := cut_law bi bt zs zs.length k ix t hk
            generalize holdsB bi bt zs zs.length ix t = F at hcut ⊢
            have HC : Hid (holdsB bi bt zs k ix t = (F && decide (ix ≤ bi + k))) := hcut
            clear hcut
            cases F
            all_goals
              go_wp2_with fail
              refine (zzHolds (w1.heap.size + 1) (w1.heap.size + 2) ix t bi bt zs k _ hs3.snd (by omega) hbi (by omega)).mono ?_
              rintro e w4 ⟨rfl, hb4⟩
              have hs4 := hs3.later hb4
              have hB4 := hB3.trans (hb4.mono hB3.size)
              have hr4 := hr3.below hb4 (Nat.le_refl _)
              clear hs3 hB3 hb4 hr3
              rw [HC.out]
              simp only [Bool.false_and, Bool.true_and]
              go_wp2_with fail
              refine (zzHolds w1.heap.size (w1.heap.size + 2) _ _ bi bt zs zs.length _ hs4.fst hm hbi hfit).mono ?_
              rintro e w5 ⟨rfl, hb5⟩
              have hs5 := hs4.later hb5
              have hB5 := hB4.trans (hb5.mono hB4.size)
              have hr5 := hr4.below hb5 (Nat.le_refl _)
              clear hs4 hB4 hb5 hr4
              rw [full_law bi bt zs zs.length _ (by simp [H0.out])]
              by_cases hkn : k < zs.length
              · obtain ⟨b2, off2, he, hbl2, hc⟩ := hr5.get hkn
                obtain ⟨rfl, rfl⟩ : b2 = b ∧ off2 = off := by simpa using he.symm
                have hck2 := hc k hkn
                clear hc hr5 he
                go_wp2_with fail
                refine (zzHolds (w1.heap.size + 1) (w1.heap.size + 2) _ _ bi bt zs k _ hs5.snd (by omega) hbi (by omega)).mono ?_
                rintro e w6 ⟨rfl, hb6⟩
                have hB6 := hB5.trans (hb6.mono hB5.size)
                rw [lost_law]
                go_wp2
                go_ret
                exact ⟨rfl, hB6⟩
              · have hd3 : decide ((k : Int) < (zs.length : Int)) = false := decide_eq_false (by omega)
                go_wp2
                go_ret
                exact ⟨rfl, hB5⟩
end Go.Proofs.Qxb6618972a
