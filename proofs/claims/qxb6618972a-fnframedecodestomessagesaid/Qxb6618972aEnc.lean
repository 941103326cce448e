/- The encoder's small methods (seat b6618972a). -/
import Derived.Test.Qxb6618972aUvarint
namespace Go.Proofs.Qxb6618972a
open Go.RowKit

/-- Block be is an encoder whose buffer v holds the bytes bs. -/
def Enc (w : World) (be : Nat) (v : Value) (bs : List Int) : Prop := w.cell? ⟨be, 0, none⟩ = some v ∧ w.frozen? ⟨be, 0, none⟩ = false ∧ Mine w v (byts bs) ∧ v.ownBlock ≠ some be

theorem Enc.lt {w : World} {be : Nat} {v : Value} {bs : List Int} (h : Enc w be v bs) : be < w.heap.size := World.block_lt_of_cell? _ _ h.1

/-- What an encoder's step does to memory. -/
structure EGrew (be : Nat) (w w' : World) (v v' : Value) : Prop where
  kept : Kept (fun k => k = be ∨ some k = v.ownBlock) w w'
  lies : ∀ g, v'.ownBlock = some g → v.ownBlock = some g ∨ w.heap.size ≤ g

theorem EGrew.refl (be : Nat) (w : World) (v : Value) : EGrew be w w v v := ⟨Kept.refl _ _, fun _ h => .inl h⟩
theorem EGrew.trans {be : Nat} {a b c : World} {u v x : Value} (h : EGrew be a b u v) (k : EGrew be b c v x) : EGrew be a c u x := by
  refine ⟨⟨k.kept.os.trans h.kept.os, k.kept.tape.trans h.kept.tape, k.kept.output.trans h.kept.output, Nat.le_trans h.kept.size k.kept.size, fun i hi hs => ?_⟩, fun g hg => ?_⟩
  · refine (k.kept.block i (Nat.lt_of_lt_of_le hi h.kept.size) (fun e => ?_)).trans (h.kept.block i hi hs)
    rcases e with e | e
    · exact hs (.inl e)
    · rcases h.lies i e.symm with e' | e'
      · exact hs (.inr e'.symm)
      · omega
  · rcases k.lies g hg with e | e
    · exact h.lies g e
    · exact .inr (Nat.le_trans h.kept.size e)

/-- The buffer grew and is stored back. -/
theorem Enc.stored {w w1 : World} {be : Nat} {v v' : Value} {bs bs' : List Int} (h : Enc w be v bs) (hm : Mine w1 v' (byts bs')) (hg : Grew w w1 v v') : Enc (w1.setCell ⟨be, 0, none⟩ v') be v' bs' ∧ EGrew be w (w1.setCell ⟨be, 0, none⟩ v') v v' := by
  have hlt := h.lt
  have hb := hg.kept.block be hlt (fun e => h.2.2.2 e.symm)
  have hne : v'.ownBlock ≠ some be := fun e => by
    rcases hg.lies be e with e' | e'
    · exact h.2.2.2 e'
    · omega
  have hc : w1.cell? ⟨be, 0, none⟩ = some v := (World.cell?_of_block hb).trans h.1
  refine ⟨⟨World.cell?_setCell_same _ _ _ hc, ?_, ?_, hne⟩, ⟨?_, hg.lies⟩⟩
  · rw [World.frozen?_setCell]; exact (World.frozen?_of_block hb).trans h.2.1
  · exact hm.of_block fun g hgg => Below.heap_setCell _ _ _ _ (fun e => hne (by simp only at e; rw [← e]; exact hgg))
  · exact (hg.kept.mono (fun k _ hk => .inr hk)).setCell (.inl rfl) v'

def EncPost (be : Nat) (w : World) (v : Value) (bs : List Int) (e : Ending) (w' : World) : Prop := e = .returned (.tuple #[]) ∧ ∃ v', Enc w' be v' bs ∧ EGrew be w w' v v'

set_option maxHeartbeats 400000 in
/-- (48) encoder.uvarint -/
theorem encUvarint (be : Nat) (x : Nat) (v : Value) (bs : List Int) (w : World) (h : Enc w be v bs) (hx : x < 18446744073709551616) (hb : bs.length ≤ 549755813888) :
    Calls Try.prog 48 #[.pointer (some ⟨be, 0, none⟩), .int .u64 x] w (EncPost be w v (bs ++ uv x)) := by
  obtain ⟨hc, hf, hm, hne⟩ := id h
  obtain ⟨a, n, c, rfl⟩ := hm.shape
  have hlt := h.lt
  go_enter Try.func48, Try.ntmps48
  go_wp2_with (go_at_call 46; refine (appendUvarint x _ bs _ hm hx hb).mono ?_; rintro e w1 ⟨v', rfl, hm1, hg1⟩; obtain ⟨a', n', c', rfl⟩ := hm1.shape; have hb1 := hg1.kept.block be hlt (fun e => hne e.symm); have hc1 := (World.cell?_of_block (a := ⟨be, 0, none⟩) hb1).trans hc; have hf1 := (World.frozen?_of_block (a := ⟨be, 0, none⟩) hb1).trans hf; clear hb1)
  go_end0
  exact ⟨rfl, _, h.stored hm1 hg1⟩

set_option maxHeartbeats 400000 in
/-- (84) encoder.number -/
theorem encNumber (be : Nat) (x : Nat) (p : Addr) (v : Value) (bs : List Int) (w : World) (h : Enc w be v bs) (hp : w.cell? p = some (.int .u64 x)) (hx : x < 18446744073709551616) (hb : bs.length ≤ 549755813888) :
    Calls Try.prog 84 #[.pointer (some ⟨be, 0, none⟩), .pointer (some p)] w (EncPost be w v (bs ++ uv x)) := by
  go_enter Try.func84, Try.ntmps84
  go_wp2_with (go_at_call 48; refine (encUvarint be x v bs _ h hx hb).mono ?_; rintro e w1 ⟨rfl, hE⟩)
  go_end0
  exact ⟨rfl, hE⟩

def flagN (b : Bool) : Nat := if b then 1 else 0

set_option maxHeartbeats 400000 in
/-- (81) encoder.bool -/
theorem encBool (be : Nat) (x : Bool) (v : Value) (bs : List Int) (w : World) (h : Enc w be v bs) (hb : bs.length ≤ 549755813888) :
    Calls Try.prog 81 #[.pointer (some ⟨be, 0, none⟩), .bool x] w (EncPost be w v (bs ++ uv (flagN x))) := by
  cases x
  · go_enter Try.func81, Try.ntmps81
    go_wp2_with (go_at_call 48; refine (encUvarint be 0 v bs _ h (by omega) hb).mono ?_; rintro e w1 ⟨rfl, hE⟩)
    go_end0
    exact ⟨rfl, hE⟩
  · go_enter Try.func81, Try.ntmps81
    go_wp2_with (go_at_call 48; refine (encUvarint be 1 v bs _ h (by omega) hb).mono ?_; rintro e w1 ⟨rfl, hE⟩)
    go_end0
    exact ⟨rfl, hE⟩

set_option maxHeartbeats 400000 in
/-- (83) encoder.flag -/
theorem encFlag (be : Nat) (x : Bool) (p : Addr) (v : Value) (bs : List Int) (w : World) (h : Enc w be v bs) (hp : w.cell? p = some (.bool x)) (hb : bs.length ≤ 549755813888) :
    Calls Try.prog 83 #[.pointer (some ⟨be, 0, none⟩), .pointer (some p)] w (EncPost be w v (bs ++ uv (flagN x))) := by
  go_enter Try.func83, Try.ntmps83
  go_wp2_with (go_at_call 81; refine (encBool be x v bs _ h hb).mono ?_; rintro e w1 ⟨rfl, hE⟩)
  go_end0
  exact ⟨rfl, hE⟩

theorem grew_of {w w1 : World} {v v' : Value} (hk : Kept (fun k => some k = v.ownBlock) w w1) (hat : v'.ownBlock = v.ownBlock ∨ v'.ownBlock = some w.heap.size) : Grew w w1 v v' :=
  ⟨hk, fun g hg => by
    rcases hat with e | e
    · exact .inl (e.symm.trans hg)
    · rw [e] at hg; simp at hg; right; omega⟩

set_option maxHeartbeats 400000 in
/-- (87) encoder.bytes -/
theorem encBytes (be : Nat) (ds : List Int) (sv : Value) (v : Value) (bs : List Int) (w : World) (h : Enc w be v bs) (hs : Reads w sv (byts ds)) (hb : bs.length + ds.length ≤ 549755813888) :
    Calls Try.prog 87 #[.pointer (some ⟨be, 0, none⟩), sv] w (EncPost be w v (bs ++ ds)) := by
  obtain ⟨hc, hf, hm, hne⟩ := id h
  obtain ⟨a, n, c, rfl⟩ := hm.shape
  obtain ⟨sa, sc, hsv⟩ := hs.form
  have hlt := h.lt
  rw [byts_len] at hsv
  subst hsv
  go_enter Try.func87, Try.ntmps87
  go_wp2_with (at_builtin; refine wpList_append_mine _ rfl (.tmp 8) (.tmp 9) 22 rfl 5 (.int .u8 0) 1 Try.underlying22 info5 rfl (.slice a n c) _ rfl hm _ _ rfl hs (byts_one _) (by rw [byts_len, byts_len]; omega) (by omega) ?_; intro v' w1 hm1 hk1 hat; obtain ⟨a', n', c', rfl⟩ := hm1.shape; have hb1 := hk1.block be hlt (fun e => hne e.symm); have hc1 := (World.cell?_of_block (a := ⟨be, 0, none⟩) hb1).trans hc; have hf1 := (World.frozen?_of_block (a := ⟨be, 0, none⟩) hb1).trans hf; clear hb1)
  go_end0
  rw [← byts_app] at hm1
  exact ⟨rfl, _, h.stored hm1 (grew_of hk1 hat)⟩
end Go.Proofs.Qxb6618972a
