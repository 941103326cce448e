/- Slices of strings cloned, joined; the lists that came in; look-up; the grantees after (seat b6619367a). -/
import Derived.Test.Qxb6619367aStrs
namespace Go.Proofs.Qxb6619367a
open Go.RowKit

/-- A fact that the walk is not to use. -/
def Hid (p : Prop) : Prop := p
theorem Hid.out {p : Prop} (h : Hid p) : p := h

/-- A new slice of one's own. -/
def CPost (w : World) (ss : List ByteArray) (e : Ending) (w' : World) : Prop := Below w.heap.size w w' ∧ ∃ v', e = .returned v' ∧ Mine w' v' (strs ss) ∧ ∀ g, v'.ownBlock = some g → w.heap.size ≤ g

theorem getElem?_some_of_lt {c : Array Value} {k n : Nat} (h : c.size = n) (hk : k < n) : ∃ u, c[k]? = some u := ⟨c[k], by simp [h, hk]⟩

/-- What has been copied: the first k of zs. -/
def Copied (cs : Array Value) (zs : List ByteArray) (k : Nat) : Prop := cs.size = zs.length ∧ ∀ j, j < k → cs[j]? = some (.string (zs.getD j ⟨#[]⟩))

theorem Copied.step {cs : Array Value} {zs : List ByteArray} {k : Nat} (h : Copied cs zs k) (hk : k < zs.length) : Copied (cs.setIfInBounds k (.string (zs.getD k ⟨#[]⟩))) zs (k + 1) := by
  refine ⟨by simpa using h.1, fun j hj => ?_⟩
  by_cases e : j = k
  · subst e; rw [Array.getElem?_setIfInBounds_self_of_lt (by rw [h.1]; exact hk)]
  · rw [Array.getElem?_setIfInBounds_ne (by omega)]; exact h.2 j (by omega)

theorem Copied.mine {cs : Array Value} {zs : List ByteArray} {k : Nat} (h : Copied cs zs k) (hk : zs.length ≤ k) (hm : zs.length ≤ 549755813888) (w : World) (e : TypeId) : Mine (w.alloc (.cells cs e)) (.slice (some ⟨w.heap.size, 0, none⟩) zs.length zs.length) (strs zs) := by
  refine .inr ⟨w.heap.size, zs.length, cs, e, by rw [strs_len], heap_alloc_new w _, by rw [strs_len]; exact Nat.le_refl _, by unfold maxLen; omega, h.1, ?_⟩
  rw [strs_len, List.take_of_length_le (by rw [Array.length_toList, h.1]; exact Nat.le_refl _)]
  apply List.ext_getElem?
  intro j
  rw [Array.getElem?_toList]
  by_cases hj : j < zs.length
  · rw [h.2 j (by omega)]; simp [strs, hj]
  · rw [Array.getElem?_eq_none (by rw [h.1]; omega), List.getElem?_eq_none (by rw [strs_len]; omega)]

set_option maxHeartbeats 400000 in
/-- (15) cloneStrsZZ -/
theorem cloneStrs (v : Value) (ss : List ByteArray) (w : World) (hr : Reads w v (strs ss)) (hm : ss.length ≤ 1000000000) :
    Calls Try.prog 15 #[v] w (CPost w ss) := by
  have hnl := fun (w : World) (a : Option Addr) (n c n' c' : Nat) => Lib.run_eql_slice_nil (P := Try.prog) w 22 9 a n c n' c' Try.underlying22
  rcases hr with ⟨rfl, hd⟩ | ⟨x, c, rfl, _, hx⟩
  · have : ss = [] := by simpa [strs] using hd
    subst this
    go_enter Try.func15, Try.ntmps15
    go_wp2
    go_ret
    exact ⟨Below.refl _ _, _, rfl, .inl ⟨rfl, rfl⟩, fun g hg => by simp [Value.ownBlock] at hg⟩
  · rw [strs_len]
    have hmk := run_mkrow Try.underlying22 info9 rfl ss.length (by omega) (by omega)
    have hx' : ∀ k (h : k < ss.length), ∃ b o, x = ⟨b, o, none⟩ ∧ w.cell? ⟨b, o + k, none⟩ = some (.string (ss.getD k ⟨#[]⟩)) ∧ b < w.heap.size := by
      intro k hk
      obtain ⟨b, o, hb, hc⟩ := hx (by intro e; simp [strs] at e; simp [e] at hk)
      have := hc k (by rw [strs_len]; exact hk)
      simp only [strs, List.getElem_map] at this
      exact ⟨b, o, hb, by rw [this]; simp [hk], World.block_lt_of_cell? _ _ this⟩
    clear hx
    go_enter Try.func15, Try.ntmps15
    go_wp2
    go_loopw [4] (fun i wr => ∃ k : Nat, k ≤ ss.length ∧ i = .int .i64 k ∧ ∃ cs, wr = w.alloc (.cells cs 9) ∧ Copied cs ss k) (fun i _ => ss.length - (intOf i).toNat)
    case atStart => exact ⟨0, Nat.zero_le _, rfl, _, rfl, by simp [madeCells], fun _ h => by omega⟩
    case round =>
      obtain ⟨k, hk, rfl, cs, rfl, hcs⟩ := hrel
      by_cases hlt : k < ss.length
      · obtain ⟨b, off, rfl, hck, hb⟩ := hx' k hlt
        obtain ⟨u, hu⟩ := getElem?_some_of_lt hcs.1 hlt
        have hst := hcs.step hlt
        obtain ⟨y, hy⟩ : ∃ y, ss.getD k ⟨#[]⟩ = y := ⟨_, rfl⟩
        rw [hy] at hck hst
        clear hx' hy
        go_wp2
        go_roundw
        case rel => exact ⟨k + 1, by omega, by go_num, _, rfl, by simpa [hlt] using hst⟩
        case measure => simp [intOf]; omega
      · go_wp2
        go_ret
        exact ⟨(Below.refl _ _).alloc (Nat.le_refl _) _, _, rfl, hcs.mine (by omega) (by omega) _ _, fun g hg => by simp [Value.ownBlock] at hg; omega⟩

/-! ### kept -/
theorem Reads.kept {S : Nat → Prop} {w w' : World} {v : Value} {xs : List Value} (h : Reads w v xs) (hk : Kept S w w') (hS : xs ≠ [] → ∀ b, v.ownBlock = some b → ¬ S b) : Reads w' v xs := by
  rcases h with h | ⟨x, c, rfl, hc, hx⟩
  · exact .inl h
  · refine .inr ⟨x, c, rfl, hc, fun hne => ?_⟩
    obtain ⟨b, o, rfl, hcell⟩ := hx hne
    refine ⟨b, o, rfl, fun i hi => ?_⟩
    have h1 := hcell i hi
    have hlt : b < w.heap.size := World.block_lt_of_cell? _ _ h1
    exact (World.cell?_of_block (a := ⟨b, o + i, none⟩) (hk.block b hlt (hS hne b rfl))).trans h1

/-- Strings that can be read, in blocks of the class F. -/
def RAt (F : Nat → Prop) (w : World) (v : Value) (ss : List ByteArray) : Prop := Reads w v (strs ss) ∧ (ss ≠ [] → ∀ b, v.ownBlock = some b → F b)
theorem RAt.kept {F S : Nat → Prop} {w w' : World} {v : Value} {ss : List ByteArray} (h : RAt F w v ss) (hk : Kept S w w') (hF : ∀ k, F k → ¬ S k) : RAt F w' v ss :=
  ⟨h.1.kept hk fun hne b hb => hF b (h.2 (fun e => hne (by simp [e, strs])) b hb), h.2⟩
theorem RAt.form {F : Nat → Prop} {w : World} {v : Value} {ss : List ByteArray} (h : RAt F w v ss) : ∃ a c, v = .slice a ss.length c := by
  obtain ⟨a, c, h⟩ := h.1.form
  rw [strs_len] at h
  exact ⟨a, c, h⟩
theorem RAt.mono {F F' : Nat → Prop} {w : World} {v : Value} {ss : List ByteArray} (h : RAt F w v ss) (hF : ∀ k, k < w.heap.size → F k → F' k) : RAt F' w v ss := by
  refine ⟨h.1, fun hne b hb => ?_⟩
  refine hF b ?_ (h.2 hne b hb)
  rcases h.1 with ⟨rfl, _⟩ | ⟨x, c, rfl, hc, hx⟩
  · cases hb
  · obtain ⟨b', o, rfl, hcell⟩ := hx (fun e => hne (by simpa [strs] using e))
    have hpos : 0 < (strs ss).length := by rw [strs_len]; exact List.length_pos_iff.2 hne
    have := World.block_lt_of_cell? _ _ (hcell 0 hpos)
    simp only [Value.ownBlock, Option.some.injEq] at hb
    subst hb
    exact this

/-- The lists vs, behind a slice of slices, all in blocks of the class F. -/
def VAt (F : Nat → Prop) (w : World) (v : Value) (vs : List (List ByteArray)) : Prop :=
  ∃ xs : List Value, Reads w v xs ∧ (xs ≠ [] → ∀ b, v.ownBlock = some b → F b) ∧ xs.length = vs.length ∧ ∀ i, i < vs.length → RAt F w (xs.getD i (.slice none 0 0)) (vs.getD i [])
theorem VAt.kept {F S : Nat → Prop} {w w' : World} {v : Value} {vs : List (List ByteArray)} (h : VAt F w v vs) (hk : Kept S w w') (hF : ∀ k, F k → ¬ S k) : VAt F w' v vs := by
  obtain ⟨xs, h1, h2, h3, h4⟩ := h
  exact ⟨xs, h1.kept hk fun hne b hb => hF b (h2 hne b hb), h2, h3, fun i hi => (h4 i hi).kept hk hF⟩
theorem VAt.form {F : Nat → Prop} {w : World} {v : Value} {vs : List (List ByteArray)} (h : VAt F w v vs) : ∃ a c, v = .slice a vs.length c := by
  obtain ⟨xs, h1, _, h3, _⟩ := h
  obtain ⟨a, c, h⟩ := h1.form
  exact ⟨a, c, by rw [h, h3]⟩
theorem VAt.get {F : Nat → Prop} {w : World} {v : Value} {vs : List (List ByteArray)} (h : VAt F w v vs) {j : Nat} (hj : j < vs.length) :
    ∃ b o c, v = .slice (some ⟨b, o, none⟩) vs.length c ∧ ∀ k, k < vs.length → ∃ a c', w.cell? ⟨b, o + k, none⟩ = some (.slice a (vs.getD k []).length c') ∧ RAt F w (.slice a (vs.getD k []).length c') (vs.getD k []) := by
  obtain ⟨xs, h1, _, h3, h4⟩ := h
  obtain ⟨b, o, c, hv, hc⟩ := h1.get (i := j) (by omega)
  refine ⟨b, o, c, by rw [hv, h3], fun k hk => ?_⟩
  have hr := h4 k hk
  obtain ⟨a, c', he⟩ := hr.form
  refine ⟨a, c', ?_, by rw [← he]; exact hr⟩
  have := hc k (by omega)
  rw [this, ← he]
  simp [h3, hk]

/-! ### look-up -/
/-- The list at s: the first of the keys that is s. -/
def look : List ByteArray → List (List ByteArray) → ByteArray → Option (List ByteArray)
  | k :: ks, v :: vs, s => if k = s then some v else look ks vs s
  | _, _, _ => none

theorem look_at : ∀ (ks : List ByteArray) (vs : List (List ByteArray)) (s : ByteArray) (k : Nat), k < ks.length → k < vs.length → s ∉ ks.take k → ks.getD k ⟨#[]⟩ = s → look ks vs s = some (vs.getD k [])
  | [], _, _, _, h, _, _, _ => by simp at h
  | _ :: _, [], _, _, _, h, _, _ => by simp at h
  | k0 :: ks, v0 :: vs, s, 0, _, _, _, h => by simp at h; simp [look, h]
  | k0 :: ks, v0 :: vs, s, k + 1, h1, h2, h3, h4 => by
    simp only [List.take_succ_cons, List.mem_cons, not_or] at h3
    simp only [look, if_neg (Ne.symm h3.1)]
    simp only [List.length_cons] at h1 h2
    have := look_at ks vs s k (by omega) (by omega) h3.2 (by simpa using h4)
    simpa using this

theorem look_none : ∀ (ks : List ByteArray) (vs : List (List ByteArray)) (s : ByteArray), s ∉ ks → look ks vs s = none
  | [], _, _, _ => rfl
  | _ :: _, [], _, _ => rfl
  | k0 :: ks, v0 :: vs, s, h => by
    simp only [List.mem_cons, not_or] at h
    simp only [look, if_neg (Ne.symm h.1)]
    exact look_none ks vs s h.2

/-- What lookupZZ answers. -/
def LPost (F : Nat → Prop) (w : World) (o : Option (List ByteArray)) (e : Ending) (w' : World) : Prop :=
  w' = w ∧ ∃ a c, e = .returned (.tuple #[.slice a (o.getD []).length c, .bool o.isSome]) ∧ RAt F w (.slice a (o.getD []).length c) (o.getD [])

set_option maxHeartbeats 400000 in
/-- (25) lookupZZ -/
theorem lookup (F : Nat → Prop) (kv vv : Value) (ks : List ByteArray) (vs : List (List ByteArray)) (s : ByteArray) (w : World) (hk : Reads w kv (strs ks)) (hv : VAt F w vv vs) (hl : ks.length = vs.length) (hm : ks.length ≤ 1000000000) :
    Calls Try.prog 25 #[kv, vv, .string s] w (LPost F w (look ks vs s)) := by
  obtain ⟨a, c, ha⟩ := hk.form
  rw [strs_len] at ha
  obtain ⟨a2, c2, ha2⟩ := hv.form
  subst ha ha2
  go_enter Try.func25, Try.ntmps25
  go_wp2
  go_loopw [8] (fun i wr => ∃ k : Nat, k ≤ ks.length ∧ i = .int .i64 k ∧ wr = w ∧ s ∉ ks.take k) (fun i _ => ks.length - (intOf i).toNat)
  case atStart => exact ⟨0, Nat.zero_le _, rfl, rfl, by simp⟩
  case round =>
    obtain ⟨k, hk', rfl, rfl, hn⟩ := hrel
    by_cases hlt : k < ks.length
    · obtain ⟨b, o, _, hq, hc⟩ := hk.str hlt
      obtain ⟨b2, o2, _, hq2, hc2⟩ := hv.get (j := k) (by omega)
      simp only [Value.slice.injEq] at hq hq2
      obtain ⟨rfl, _, _⟩ := hq
      obtain ⟨rfl, _, _⟩ := hq2
      have q := hc k hlt
      obtain ⟨a3, c3, q2, hr3⟩ := hc2 k (by omega)
      have g1 : (0 : Int) ≤ (k : Int) := by omega
      have g2 : (k : Int) < (ks.length : Int) := by omega
      have g3 : (k : Int) < (vs.length : Int) := by omega
      have hst := mem_take_succ (x := s) hlt hn
      have hat := look_at ks vs s k hlt (by omega) hn
      obtain ⟨y, hy⟩ : ∃ y, ks.getD k ⟨#[]⟩ = y := ⟨_, rfl⟩
      obtain ⟨l3, hl3⟩ : ∃ l, vs.getD k [] = l := ⟨_, rfl⟩
      rw [hy] at q hst hat
      rw [hl3] at q2 hr3 hat
      clear hc hy hc2 hl hl3
      by_cases hxy : y = s
      · subst hxy
        have he : Hid (look ks vs y = some l3) := hat rfl
        clear hat
        go_wp2
        go_ret2
        refine ⟨rfl, a3, c3, ?_⟩
        rw [he.out]
        exact ⟨rfl, hr3⟩
      · have hb := same_ne hxy
        go_wp2
        go_roundw
        case rel => exact ⟨k + 1, by omega, by go_num, trivial, hst hxy⟩
        case measure => simp [intOf]; omega
    · go_wp2
      go_ret2
      have hno := look_none ks vs s (by rwa [List.take_of_length_le (by omega)] at hn)
      refine ⟨rfl, none, 0, ?_⟩
      rw [hno]
      exact ⟨rfl, .inl ⟨rfl, rfl⟩, fun h => absurd rfl h⟩

end Go.Proofs.Qxb6619367a
