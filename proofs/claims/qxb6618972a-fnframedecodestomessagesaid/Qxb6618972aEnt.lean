/- AppendUint64, one entry's bytes, blob (seat b6618972a). -/
import Derived.Test.Qxb6618972aEnc
namespace Go.Proofs.Qxb6618972a
open Go.RowKit

/-- The eight bytes of x, the lowest first. -/
def le8 (x : Nat) : List Int := [(x : Int) % 256, (x : Int) / 256 % 256, (x : Int) / 65536 % 256, (x : Int) / 16777216 % 256, (x : Int) / 4294967296 % 256, (x : Int) / 1099511627776 % 256, (x : Int) / 281474976710656 % 256, (x : Int) / 72057594037927936]

/-- The cells of a block that is known whole, as a slice. -/
theorem reads_list (w : World) (xs : List Value) (t : TypeId) (n H : Nat) (hn : xs.length = n) (hH : w.heap.size = H) : Reads (w.alloc (.cells xs.toArray t)) (.slice (some ⟨H, 0, none⟩) n n) xs := by
  subst hn hH
  exact .inr ⟨_, xs.length, rfl, Nat.le_refl _, fun _ => ⟨w.heap.size, 0, rfl, fun i hi => by simp [hi]⟩⟩

set_option maxRecDepth 20000 in
set_option maxHeartbeats 1000000 in
/-- (88) littleEndian.AppendUint64 -/
theorem appendU64 (x : Nat) (v : Value) (bs : List Int) (w : World) (hm : Mine w v (byts bs)) (hx : x < 18446744073709551616) (hb : bs.length ≤ 549755813888) :
    Calls Try.prog 88 #[.agg #[], v, .int .u64 x] w (UvPost v w (bs ++ le8 x)) := by
  obtain ⟨a0, n0, c0, rfl⟩ := hm.shape
  go_enter Try.func88, Try.ntmps88
  go_wp2_with (at_builtin; refine wpList_append_mine _ rfl (.tmp 7) (.tmp 31) 22 rfl 5 (.int .u8 0) 1 Try.underlying22 info5 rfl (.slice a0 n0 c0) _ rfl ((hm.alloc _).alloc _) (.slice (some ⟨w.heap.size + 1, 0, none⟩) 8 8) (byts (le8 x)) rfl (reads_list _ (byts (le8 x)) _ 8 (w.heap.size + 1) rfl (by simp)) (byts_one _) (by rw [byts_len, byts_len]; simp [le8]; omega) (by omega) ?_; intro v' w1 hm1 hk1 hat; obtain ⟨a', n', c', rfl⟩ := hm1.shape)
  go_ret
  rw [← byts_app] at hm1
  refine ⟨_, rfl, hm1, Grew.snoc (Grew.trans (Grew.refl _ _) ?_) hk1 hat⟩
  exact ⟨(Kept.refl _ _).alloc _, fun g hg => .inl hg⟩

/-- One entry of a message. -/
structure Entry4 where
  ix : Nat
  t : Nat
  kind : Nat
  data : List Int

/-- The blocks that may turn: x, and all from N on. -/
def Free (N x k : Nat) : Prop := N ≤ k ∨ k = x

/-- The bytes ds behind sv lie in memory that does not turn. -/
def Fix (N x : Nat) (w : World) (sv : Value) (ds : List Int) : Prop := Reads w sv (byts ds) ∧ (ds ≠ [] → ∀ b, sv.ownBlock = some b → ¬ Free N x b)

theorem Reads.kept {S : Nat → Prop} {w w' : World} {v : Value} {xs : List Value} (h : Reads w v xs) (hk : Kept S w w') (hs : xs ≠ [] → ∀ b, v.ownBlock = some b → ¬ S b) : Reads w' v xs := by
  rcases h with h | ⟨x, c, rfl, hc, hx⟩
  · exact .inl h
  · refine .inr ⟨x, c, rfl, hc, fun hne => ?_⟩
    obtain ⟨b, o, rfl, hcell⟩ := hx hne
    have hb := hs hne b rfl
    refine ⟨b, o, rfl, fun i hi => ?_⟩
    have := hcell i hi
    rw [World.cell?_of_block (w := w) (hk.block b (World.block_lt_of_cell? _ _ this) hb)]
    exact this

theorem Fix.kept {N x : Nat} {w w' : World} {sv : Value} {ds : List Int} (h : Fix N x w sv ds) (hk : Kept (Free N x) w w') : Fix N x w' sv ds :=
  ⟨h.1.kept hk fun hne => h.2 (fun e => hne (by simp [e, byts])), h.2⟩

/-- An encoder all of whose memory may turn. -/
def EncS (N x : Nat) (w : World) (be : Nat) (bs : List Int) : Prop := N ≤ w.heap.size ∧ ∃ v, Enc w be v bs ∧ Free N x be ∧ ∀ g, v.ownBlock = some g → Free N x g
def EPost (N x be : Nat) (w : World) (bs : List Int) (e : Ending) (w' : World) : Prop := e = .returned (.tuple #[]) ∧ EncS N x w' be bs ∧ Kept (Free N x) w w'

theorem EncPost.up {N x be : Nat} {w : World} {v : Value} {bs : List Int} {e : Ending} {w' : World} (h : EncPost be w v bs e w') (hN : N ≤ w.heap.size) (hb : Free N x be) (hv : ∀ g, v.ownBlock = some g → Free N x g) : EPost N x be w bs e w' := by
  obtain ⟨he, v', hE, hG⟩ := h
  refine ⟨he, ⟨Nat.le_trans hN hG.kept.size, v', hE, hb, fun g hg => ?_⟩, hG.kept.mono fun k _ hk => ?_⟩
  · rcases hG.lies g hg with h | h
    · exact hv g h
    · exact .inl (by omega)
  · rcases hk with rfl | hk
    · exact hb
    · exact hv k hk.symm

theorem uvS (N x be : Nat) (n : Nat) (bs : List Int) (w : World) (h : EncS N x w be bs) (hn : n < 18446744073709551616) (hb : bs.length ≤ 549755813888) :
    Calls Try.prog 48 #[.pointer (some ⟨be, 0, none⟩), .int .u64 n] w (EPost N x be w (bs ++ uv n)) := by
  obtain ⟨hN, v, hE, hbe, hv⟩ := h
  exact (encUvarint be n v bs w hE hn hb).mono fun e w' hp => hp.up hN hbe hv
theorem numberS (N x be : Nat) (n : Nat) (p : Addr) (bs : List Int) (w : World) (h : EncS N x w be bs) (hp : w.cell? p = some (.int .u64 n)) (hn : n < 18446744073709551616) (hb : bs.length ≤ 549755813888) :
    Calls Try.prog 84 #[.pointer (some ⟨be, 0, none⟩), .pointer (some p)] w (EPost N x be w (bs ++ uv n)) := by
  obtain ⟨hN, v, hE, hbe, hv⟩ := h
  exact (encNumber be n p v bs w hE hp hn hb).mono fun e w' hp => hp.up hN hbe hv
theorem flagS (N x be : Nat) (y : Bool) (p : Addr) (bs : List Int) (w : World) (h : EncS N x w be bs) (hp : w.cell? p = some (.bool y)) (hb : bs.length ≤ 549755813888) :
    Calls Try.prog 83 #[.pointer (some ⟨be, 0, none⟩), .pointer (some p)] w (EPost N x be w (bs ++ uv (flagN y))) := by
  obtain ⟨hN, v, hE, hbe, hv⟩ := h
  exact (encFlag be y p v bs w hE hp hb).mono fun e w' hp => hp.up hN hbe hv
theorem bytesS (N x be : Nat) (ds : List Int) (sv : Value) (bs : List Int) (w : World) (h : EncS N x w be bs) (hd : Fix N x w sv ds) (hb : bs.length + ds.length ≤ 549755813888) :
    Calls Try.prog 87 #[.pointer (some ⟨be, 0, none⟩), sv] w (EPost N x be w (bs ++ ds)) := by
  obtain ⟨hN, v, hE, hbe, hv⟩ := h
  exact (encBytes be ds sv v bs w hE hd.1 hb).mono fun e w' hp => hp.up hN hbe hv

theorem uv_len (n : Nat) : (uv n).length ≤ 10 := uvF_len 10 n

set_option maxHeartbeats 400000 in
/-- (85) encoder.prefixed -/
theorem prefixedS (N x be : Nat) (ds : List Int) (sv : Value) (bs : List Int) (w : World) (h : EncS N x w be bs) (hd : Fix N x w sv ds) (hb : bs.length + ds.length ≤ 549755813000) :
    Calls Try.prog 85 #[.pointer (some ⟨be, 0, none⟩), sv] w (EPost N x be w (bs ++ uv ds.length ++ ds)) := by
  obtain ⟨sa, sc, hsv⟩ := hd.1.form
  rw [byts_len] at hsv
  subst hsv
  have hl := uv_len ds.length
  go_enter Try.func85, Try.ntmps85
  go_wp2_with fail
  refine (uvS N x be ds.length bs _ h (by omega) (by omega)).mono ?_
  rintro e w1 ⟨rfl, h1, hk1⟩
  have hd1 := hd.kept hk1
  clear hd h
  go_wp2_with fail
  refine (bytesS N x be ds _ _ _ h1 hd1 (by simp; omega)).mono ?_
  rintro e w2 ⟨rfl, h2, hk2⟩
  go_wp2
  go_end0
  exact ⟨rfl, h2, hk1.trans hk2⟩

set_option maxHeartbeats 400000 in
/-- (80) encoder.blob -/
theorem blobS (N x be : Nat) (ds : List Int) (sv : Value) (p : Addr) (bs : List Int) (w : World) (h : EncS N x w be bs) (hp : w.cell? p = some sv) (hd : Fix N x w sv ds) (hb : bs.length + ds.length ≤ 549755813000) :
    Calls Try.prog 80 #[.pointer (some ⟨be, 0, none⟩), .pointer (some p)] w (EPost N x be w (bs ++ uv ds.length ++ ds)) := by
  obtain ⟨sa, sc, hsv⟩ := hd.1.form
  rw [byts_len] at hsv
  subst hsv
  go_enter Try.func80, Try.ntmps80
  go_wp2_with fail
  refine (prefixedS N x be ds _ bs _ h hd hb).mono ?_
  rintro e w1 ⟨rfl, h1, hk1⟩
  go_wp2
  go_end0
  exact ⟨rfl, h1, hk1⟩

/-- The bytes of one entry. -/
def entBytes (e : Entry4) : List Int := le8 e.ix ++ le8 e.t ++ [(e.kind : Int)] ++ e.data

theorem Grew.alloc0 {w : World} {v : Value} (o : Obj) : Grew w (w.alloc o) v v := ⟨(Kept.refl _ _).alloc _, fun _ hg => .inl hg⟩

/-- A block's cells that a growing slice leaves alone. -/
theorem Grew.cell {w w' : World} {v v' : Value} (h : Grew w w' v v') {b : Nat} (hb : b < w.heap.size) (hn : v.ownBlock ≠ some b) (o : Nat) : w'.cell? ⟨b, o, none⟩ = w.cell? ⟨b, o, none⟩ :=
  World.cell?_of_block (h.kept.block b hb (fun e => hn e.symm))

set_option maxRecDepth 20000 in
set_option maxHeartbeats 1000000 in
/-- (86) entry.appendTo -/
theorem entAppendTo (en : Entry4) (dv : Value) (v : Value) (bs : List Int) (w : World) (hm : Mine w v (byts bs)) (hd : Reads w dv (byts en.data)) (hdv : en.data ≠ [] → ∀ b, dv.ownBlock = some b → v.ownBlock ≠ some b)
    (h1 : en.ix < 18446744073709551616) (h2 : en.t < 18446744073709551616) (hb : bs.length + en.data.length ≤ 549755813000) :
    Calls Try.prog 86 #[.agg #[.int .u64 en.ix, .int .u64 en.t, .int .u8 en.kind, dv], v] w (UvPost v w (bs ++ entBytes en)) := by
  obtain ⟨a0, n0, c0, rfl⟩ := hm.shape
  obtain ⟨sa, sc, hsv⟩ := hd.form
  rw [byts_len] at hsv
  subst hsv
  have hown : ∀ k, (Value.slice a0 n0 c0).ownBlock = some k → k < w.heap.size := hm.lt
  have hnb : (Value.slice a0 n0 c0).ownBlock ≠ some w.heap.size := fun e => by have := hown _ e; omega
  have hl8 : ∀ y, (le8 y).length = 8 := fun y => rfl
  go_enter Try.func86, Try.ntmps86
  go_wp2_with fail
  have c0' : ∀ o, (w.alloc (.cells #[.int .u64 en.ix, .int .u64 en.t, .int .u8 en.kind, .slice sa en.data.length sc] 101)).cell? ⟨w.heap.size, o, none⟩ = #[.int .u64 en.ix, .int .u64 en.t, .int .u8 en.kind, .slice sa en.data.length sc][o]? := fun o => by simp
  have hz : w.heap.size < (w.alloc (.cells #[.int .u64 en.ix, .int .u64 en.t, .int .u8 en.kind, .slice sa en.data.length sc] 101)).heap.size := by simp
  have hm0 := hm.alloc (.cells #[.int .u64 en.ix, .int .u64 en.t, .int .u8 en.kind, .slice sa en.data.length sc] 101)
  have hg0 : Grew w _ (.slice a0 n0 c0) (.slice a0 n0 c0) := Grew.alloc0 (.cells #[.int .u64 en.ix, .int .u64 en.t, .int .u8 en.kind, .slice sa en.data.length sc] 101)
  generalize w.alloc (.cells #[.int .u64 en.ix, .int .u64 en.t, .int .u8 en.kind, .slice sa en.data.length sc] 101) = w0 at *
  refine (appendU64 en.ix _ bs _ hm0 h1 (by omega)).mono ?_
  rintro e w1 ⟨v1, rfl, hm1, hg1⟩
  obtain ⟨a1, n1, k1, rfl⟩ := hm1.shape
  have hc1 : w1.cell? ⟨w.heap.size, 1, none⟩ = some (.int .u64 en.t) := (hg1.cell hz hnb 1).trans (c0' 1)
  go_wp2_with fail
  refine (appendU64 en.t _ _ _ hm1 h2 (by simp [hl8]; omega)).mono ?_
  rintro e w2 ⟨v2, rfl, hm2, hg2⟩
  obtain ⟨a2, n2, k2, rfl⟩ := hm2.shape
  have hg12 := hg1.trans hg2
  have hc2 : w2.cell? ⟨w.heap.size, 2, none⟩ = some (.int .u8 en.kind) := (hg12.cell hz hnb 2).trans (c0' 2)
  have hc3 : w2.cell? ⟨w.heap.size, 3, none⟩ = some (.slice sa en.data.length sc) := (hg12.cell hz hnb 3).trans (c0' 3)
  clear hm0 hm1 hc1 hg1 hg2
  go_wp2_with (first
    | (at_builtin; refine wpList_append_mine _ rfl (.tmp 17) (.tmp 20) 22 rfl 5 (.int .u8 0) 1 Try.underlying22 info5 rfl (.slice a2 n2 k2) _ rfl (hm2.alloc _) _ (byts [(en.kind : Int)]) rfl (reads_one _ _ _) (byts_one _) (by rw [byts_len, byts_len]; simp [hl8]; omega) (by omega) ?_; intro v3 w3 hm3 hk3 hat3; obtain ⟨a3, n3, k3, rfl⟩ := hm3.shape; have hg3 := hg12.snoc hk3 hat3; have hc4 : w3.cell? ⟨w.heap.size, 3, none⟩ = some (.slice sa en.data.length sc) := (hg3.cell hz hnb 3).trans (c0' 3); have hg4 := hg0.trans hg3; have hd4 := hd.kept hg4.kept (fun hne b hbb e => hdv (fun e => hne (by simp [e, byts])) b hbb e.symm); clear hk3 hat3 hg3 hm2 hc2 hc3)
    | (at_builtin; refine wpList_append_mine _ rfl (.tmp 22) (.tmp 24) 22 rfl 5 (.int .u8 0) 1 Try.underlying22 info5 rfl (.slice a3 n3 k3) _ rfl hm3 _ _ rfl hd4 (byts_one _) (by rw [List.length_append, byts_len, byts_len, byts_len]; simp [hl8]; omega) (by omega) ?_; intro v5 w5 hm5 hk5 hat5; obtain ⟨a5, n5, k5, rfl⟩ := hm5.shape; have hg5 := hg4.trans (grew_of hk5 hat5)))
  go_ret
  refine ⟨_, rfl, ?_, hg5⟩
  have e : byts (bs ++ entBytes en) = byts (bs ++ le8 en.ix ++ le8 en.t) ++ byts [(en.kind : Int)] ++ byts en.data := by simp [entBytes, byts]
  rw [e]
  exact hm5
end Go.Proofs.Qxb6618972a
