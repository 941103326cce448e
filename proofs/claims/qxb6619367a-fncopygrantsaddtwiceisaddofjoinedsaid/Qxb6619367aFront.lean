/- What both laws share: copies first; what came in (seat b6619367a). -/
import Derived.Test.Qxb6619367aStates
import Derived.Test.Qxb6619367aBudget
import Derived.Laws.CopyOwn
namespace Go.Proofs.Qxb6619367a
open Go.RowKit

/-- 'copy(zzc, x)', zzc just made. -/
theorem wpList_copyStr {ops : Array Oper} {rest : List Oper} {o : Oper} {a : Act} {Q : Exit → Act → World → Prop} (wd : World) (hgd : o.guard = none) (d s : Operand)
    (ho : o.op = .call { callee := .builtin .copy, args := #[d, s], argTypes := #[22, 22] }) (ss : List ByteArray) (sa : Addr) (sc : Nat)
    (hd : a.eval d = .slice (some ⟨wd.heap.size, 0, none⟩) ss.length ss.length) (hs : a.eval s = .slice (some sa) ss.length sc) (hr : Reads wd (.slice (some sa) ss.length sc) (strs ss)) (hb : ss.length ≤ 549755813888)
    (h : ∀ w', Mine w' (.slice (some ⟨wd.heap.size, 0, none⟩) ss.length ss.length) (strs ss) → Below wd.heap.size wd w' → wpList Try.prog ops Q rest (a.put o.dst (goInt ss.length)) w') :
    wpList Try.prog ops Q (o :: rest) a (wd.alloc (.cells (madeCells #[.string ⟨#[]⟩] ss.length) 9)) := by
  have hsz : (Try.prog.info? 9).map (·.size) = some 1 := by kernel_rfl
  by_cases hz : ss = []
  · subst hz
    refine wpList_copy_nothing hgd d s 22 22 ho 9 Try.underlying22 hsz _ _ _ _ _ _ hd hs (by simp) ?_
    exact h _ (.inr ⟨_, 0, _, 9, rfl, heap_alloc_new wd _, by simp [strs], by unfold maxLen; omega, by simp [madeCells], by simp [strs]⟩) ((Below.refl _ _).alloc (Nat.le_refl _) _)
  · have hnew := heap_alloc_new wd (.cells (madeCells #[.string ⟨#[]⟩] ss.length) 9)
    obtain ⟨b, o', rfl, hc⟩ : ∃ b o, sa = ⟨b, o, none⟩ ∧ ∀ i (h : i < (strs ss).length), wd.cell? ⟨b, o + i, none⟩ = some (strs ss)[i] := by
      rcases hr with ⟨hr, _⟩ | ⟨x, c, hx, _, hx2⟩
      · cases hr
      · simp only [Value.slice.injEq, Option.some.injEq] at hx
        obtain ⟨rfl, _, rfl⟩ := hx
        exact hx2 (by simpa [strs] using hz)
    have hlen : (madeCells #[.string ⟨#[]⟩] ss.length).toList.length = ss.length := by simp [madeCells]
    refine wpList_copy_own hgd d s 22 22 ho 9 Try.underlying22 hsz wd.heap.size 0 ss.length ss.length ⟨b, o', none⟩ ss.length sc hd hs _ 9 hnew (strs ss) (by rw [strs_len]; simp) (fun j v hj => ?_) (by simp [madeCells, strs_len]) (strs_one _) ?_
    · have hjl := (List.getElem?_eq_some_iff.1 hj).1
      have hcj := hc j hjl
      have hlt := World.block_lt_of_cell? _ _ hcj
      rw [Addr.add_lit, World.cell?_alloc_past _ _ _ hlt, hcj]
      rw [← hj]; simp [hjl]
    · rw [strs_len]
      refine h _ ?_ (below_setRow ((Below.refl _ _).alloc (Nat.le_refl _) _) (Nat.le_refl _) _)
      refine .inr ⟨wd.heap.size, ss.length, _, 9, by rw [strs_len], setRow_heap _ _ _ _ 9 _ hnew, by rw [strs_len]; exact Nat.le_refl _, by unfold maxLen; omega, ?_, ?_⟩
      · simp [strs_len, hlen]
      · simp [List.drop_eq_nil_of_le (Nat.le_of_eq hlen), List.take_of_length_le, strs_len]

/-- A copy behind 'if x != nil'. -/
def Cp (w : World) (ss : List ByteArray) (v : Value) (w' : World) : Prop := Below w.heap.size w w' ∧ ∃ a c, v = .slice a ss.length c ∧ Reads w' v (strs ss)

theorem RAt.of {w : World} {v : Value} {ss : List ByteArray} (h : Reads w v (strs ss)) : RAt (fun k => k < w.heap.size) w v ss := by
  have h' : RAt (fun _ => True) w v ss := ⟨h, fun _ _ _ => trivial⟩
  exact h'.mono fun k hk _ => hk
theorem VAt.of {w : World} {v : Value} {vs : List (List ByteArray)} (h : VAt (fun _ => True) w v vs) : VAt (fun k => k < w.heap.size) w v vs := by
  obtain ⟨xs, h1, _, h3, h4⟩ := h
  refine ⟨xs, h1, fun hne b hb => ?_, h3, fun i hi => RAt.of (h4 i hi).1⟩
  rcases h1 with ⟨rfl, _⟩ | ⟨x, c, rfl, hc, hx⟩
  · cases hb
  · obtain ⟨b', o, rfl, hcell⟩ := hx hne
    have := World.block_lt_of_cell? _ _ (hcell 0 (List.length_pos_iff.2 hne))
    simp only [Value.ownBlock, Option.some.injEq] at hb
    subst hb
    exact this

/-- All that came in (or was copied), in blocks below N. -/
structure Ins (N : Nat) (w : World) (gv kv vv av bv ev dv : Value) (g0 ks : List ByteArray) (vs : List (List ByteArray)) (la lb g1 g2 : List ByteArray) : Prop where
  g : RAt (fun k => k < N) w gv g0
  k : RAt (fun k => k < N) w kv ks
  v : VAt (fun k => k < N) w vv vs
  a : RAt (fun k => k < N) w av la
  b : RAt (fun k => k < N) w bv lb
  e : RAt (fun k => k < N) w ev g1
  d : RAt (fun k => k < N) w dv g2

theorem Ins.kept {N : Nat} {S : Nat → Prop} {w w' : World} {gv kv vv av bv ev dv : Value} {g0 ks : List ByteArray} {vs : List (List ByteArray)} {la lb g1 g2 : List ByteArray} (h : Ins N w gv kv vv av bv ev dv g0 ks vs la lb g1 g2) (hk : Kept S w w') (hS : ∀ k, k < N → ¬ S k) : Ins N w' gv kv vv av bv ev dv g0 ks vs la lb g1 g2 :=
  ⟨h.g.kept hk hS, h.k.kept hk hS, h.v.kept hk hS, h.a.kept hk hS, h.b.kept hk hS, h.e.kept hk hS, h.d.kept hk hS⟩

theorem look_len {B : Nat} : ∀ (ks : List ByteArray) (vs : List (List ByteArray)) (s : ByteArray), (∀ i, i < vs.length → (vs.getD i []).length ≤ B) → ((look ks vs s).getD []).length ≤ B
  | [], _, _, _ => by simp [look]
  | _ :: _, [], _, _ => by simp [look]
  | k :: ks, v :: vs, s, h => by
    simp only [look]
    split
    · have := h 0 (by simp); simpa using this
    · exact look_len ks vs s fun i hi => by have := h (i + 1) (by simpa using hi); simpa using this

theorem cntO_add (o o1 o2 : Option (List ByteArray)) (h1 : o.isSome = true → o1.isSome = true) (h2 : o1.isSome = true → o2.isSome = true) : cntO o o1 + cntO o1 o2 = cntO o o2 := by
  unfold cntO
  cases o <;> cases o1 <;> cases o2 <;> simp_all

theorem foldO_app (o : Option (List ByteArray)) (a b : List ByteArray) : foldO (foldO o a) b = foldO o (a ++ b) := by simp [foldO]

theorem setO_twice (U : ByteArray → Option (List ByteArray)) (s : ByteArray) (o o' : Option (List ByteArray)) : setO (setO U s o) s o' = setO U s o' := by
  funext x; unfold setO; split <;> rfl

end Go.Proofs.Qxb6619367a
