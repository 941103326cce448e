/- A message in memory (seat b6618972a). -/
import Derived.Test.Qxb6618972aEnts
namespace Go.Proofs.Qxb6618972a
open Go.RowKit
attribute [local go_sem ↓] Go.wp_at_zero Go.wp_at_succ

/-- A message. -/
structure M20 where
  kind : Nat
  from_ : Nat
  to_ : Nat
  term : Nat
  cluster : Nat
  li : Nat
  lt : Nat
  granted : Bool
  pre : Bool
  transfer : Bool
  pi : Nat
  pt : Nat
  es : List Entry4
  commit : Nat
  round : Nat
  success : Bool
  index : Nat
  offset : Nat
  data : List Int
  done : Bool

/-- The message m in block bm, in memory that does not turn. -/
structure MFix (N x : Nat) (w : World) (bm : Nat) (m : M20) (ve dv : Value) : Prop where
  free : ¬ Free N x bm
  c0 : w.cell? ⟨bm, 0, none⟩ = some (.int .u8 m.kind)
  c1 : w.cell? ⟨bm, 1, none⟩ = some (.int .u64 m.from_)
  c2 : w.cell? ⟨bm, 2, none⟩ = some (.int .u64 m.to_)
  c3 : w.cell? ⟨bm, 3, none⟩ = some (.int .u64 m.term)
  c4 : w.cell? ⟨bm, 4, none⟩ = some (.int .u64 m.cluster)
  c5 : w.cell? ⟨bm, 5, none⟩ = some (.int .u64 m.li)
  c6 : w.cell? ⟨bm, 6, none⟩ = some (.int .u64 m.lt)
  c7 : w.cell? ⟨bm, 7, none⟩ = some (.bool m.granted)
  c8 : w.cell? ⟨bm, 8, none⟩ = some (.bool m.pre)
  c9 : w.cell? ⟨bm, 9, none⟩ = some (.bool m.transfer)
  c10 : w.cell? ⟨bm, 10, none⟩ = some (.int .u64 m.pi)
  c11 : w.cell? ⟨bm, 11, none⟩ = some (.int .u64 m.pt)
  c12 : w.cell? ⟨bm, 12, none⟩ = some ve
  c13 : w.cell? ⟨bm, 13, none⟩ = some (.int .u64 m.commit)
  c14 : w.cell? ⟨bm, 14, none⟩ = some (.int .u64 m.round)
  c15 : w.cell? ⟨bm, 15, none⟩ = some (.bool m.success)
  c16 : w.cell? ⟨bm, 16, none⟩ = some (.int .u64 m.index)
  c17 : w.cell? ⟨bm, 17, none⟩ = some (.int .u64 m.offset)
  c18 : w.cell? ⟨bm, 18, none⟩ = some dv
  c19 : w.cell? ⟨bm, 19, none⟩ = some (.bool m.done)
  ents : EFix N x w ve m.es
  dat : Fix N x w dv m.data

theorem MFix.kept {N x : Nat} {w w' : World} {bm : Nat} {m : M20} {ve dv : Value} (h : MFix N x w bm m ve dv) (hk : Kept (Free N x) w w') : MFix N x w' bm m ve dv :=
  ⟨h.free, cell_kept hk h.free h.c0, cell_kept hk h.free h.c1, cell_kept hk h.free h.c2, cell_kept hk h.free h.c3, cell_kept hk h.free h.c4, cell_kept hk h.free h.c5, cell_kept hk h.free h.c6, cell_kept hk h.free h.c7, cell_kept hk h.free h.c8, cell_kept hk h.free h.c9, cell_kept hk h.free h.c10, cell_kept hk h.free h.c11, cell_kept hk h.free h.c12, cell_kept hk h.free h.c13, cell_kept hk h.free h.c14, cell_kept hk h.free h.c15, cell_kept hk h.free h.c16, cell_kept hk h.free h.c17, cell_kept hk h.free h.c18, cell_kept hk h.free h.c19, h.ents.kept hk, h.dat.kept hk⟩

/-- Its numbers fit. -/
structure MOk (m : M20) : Prop where
  kind : m.kind < 256
  from_ : m.from_ < 18446744073709551616
  to_ : m.to_ < 18446744073709551616
  term : m.term < 18446744073709551616
  cluster : m.cluster < 18446744073709551616
  li : m.li < 18446744073709551616
  lt : m.lt < 18446744073709551616
  pi : m.pi < 18446744073709551616
  pt : m.pt < 18446744073709551616
  commit : m.commit < 18446744073709551616
  round : m.round < 18446744073709551616
  index : m.index < 18446744073709551616
  offset : m.offset < 18446744073709551616
  ents : ∀ e ∈ m.es, e.ix < 18446744073709551616 ∧ e.t < 18446744073709551616
  room : entsRoom m.es + m.data.length ≤ 549700000000
  cnt : m.es.length ≤ 1048576

/-- What the interface's four methods are at an encoder behind a pointer: the names are taken off the program's own table. -/
theorem methods118 {n0 n1 n2 n3 : String} {t0 t1 t2 t3 : TypeId} (h : Try.prog.underlying 118 = some (.interface #[(n0, t0), (n1, t1), (n2, t2), (n3, t3)])) :
    (∀ (a : Addr) (w : World), (nilAhead 308 116 (.pointer (some a)) n0).run Try.prog w = .ok (some false) w) ∧ (∀ (a : Addr) (w : World), (nilAhead 308 116 (.pointer (some a)) n1).run Try.prog w = .ok (some false) w) ∧
    (∀ (a : Addr) (w : World), (nilAhead 308 116 (.pointer (some a)) n2).run Try.prog w = .ok (some false) w) ∧ (∀ (a : Addr) (w : World), (nilAhead 308 116 (.pointer (some a)) n3).run Try.prog w = .ok (some false) w) ∧
    (∀ (a : Addr) (w : World), (method 308 116 (.pointer (some a)) n0).run Try.prog w = .ok (80, .pointer (some a)) w) ∧ (∀ (a : Addr) (w : World), (method 308 116 (.pointer (some a)) n1).run Try.prog w = .ok (82, .pointer (some a)) w) ∧
    (∀ (a : Addr) (w : World), (method 308 116 (.pointer (some a)) n2).run Try.prog w = .ok (83, .pointer (some a)) w) ∧ (∀ (a : Addr) (w : World), (method 308 116 (.pointer (some a)) n3).run Try.prog w = .ok (84, .pointer (some a)) w) := by
  have e := h.symm.trans Try.underlying118
  simp only [Option.some.injEq, TypeDesc.interface.injEq, Array.mk.injEq, List.cons.injEq, Prod.mk.injEq, and_true] at e
  obtain ⟨⟨rfl, rfl⟩, ⟨rfl, rfl⟩, ⟨rfl, rfl⟩, rfl, rfl⟩ := e
  exact ⟨fun _ _ => by kernel_rfl, fun _ _ => by kernel_rfl, fun _ _ => by kernel_rfl, fun _ _ => by kernel_rfl, fun _ _ => by kernel_rfl, fun _ _ => by kernel_rfl, fun _ _ => by kernel_rfl, fun _ _ => by kernel_rfl⟩

def FPost (N x be : Nat) (w : World) (bs : List Int) (e : Ending) (w' : World) : Prop := (∃ r, e = .returned (.bool r)) ∧ EncS N x w' be bs ∧ Kept (Free N x) w w'

/-- The fields of m's kind. -/
def fieldsB (m : M20) : List Int :=
  match m.kind with
  | 1 => uv (flagN m.pre) ++ uv m.li ++ uv m.lt ++ uv (flagN m.transfer)
  | 2 => uv (flagN m.pre) ++ uv (flagN m.granted)
  | 3 => uv m.pi ++ uv m.pt ++ uv m.commit ++ uv m.round ++ (uv m.es.length ++ entsBytes m.es)
  | 4 => uv (flagN m.success) ++ uv m.index ++ uv m.round
  | 5 => uv m.li ++ uv m.lt ++ uv m.offset ++ uv (flagN m.done) ++ (uv m.data.length ++ m.data)
  | 6 => uv m.li ++ uv m.lt ++ uv m.offset ++ uv (flagN m.success) ++ uv (flagN m.done)
  | 7 => uv m.li ++ uv m.lt
  | _ => []

theorem EncS.drew {N x : Nat} {w : World} {be : Nat} {bs : List Int} (h : EncS N x w be bs) : EncS N x w.drew be bs := h
theorem Kept.undrew {S : Nat → Prop} {w w' : World} (h : Kept S w.drew w') : Kept S w w' := ⟨h.os, h.tape, h.output, h.size, h.block⟩
theorem MFix.drew {N x : Nat} {w : World} {bm : Nat} {m : M20} {ve dv : Value} (h : MFix N x w bm m ve dv) : MFix N x w.drew bm m ve dv := h.kept (Kept.refl _ _).drew
theorem EncS.app {N x : Nat} {w : World} {be : Nat} {a b c : List Int} (h : EncS N x w be (a ++ b ++ c)) : EncS N x w be (a ++ (b ++ c)) := by rwa [List.append_assoc] at h

end Go.Proofs.Qxb6618972a
