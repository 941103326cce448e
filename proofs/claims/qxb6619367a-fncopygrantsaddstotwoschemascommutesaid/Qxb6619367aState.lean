/- What a copyGrants holds: its grants, its usage map (seat b6619367a). -/
import Derived.Test.Qxb6619367aGrant
namespace Go.Proofs.Qxb6619367a
open Go.RowKit

theorem strKey : KeyT (α := ByteArray) Try.prog 9 .string Value.string where
  under := Try.underlying9
  isKey _ := trivial
  inj a b h := by cases h; rfl
  bits a := by unfold Instr.sameBits; exact (MapKept.bytes_beq _ _).2 rfl

theorem zero22 (w : World) : (zeroValue 22).run Try.prog w = .ok (.slice none 0 0) w := by kernel_rfl

theorem Mine.ne_map {w : World} {v : Value} {xs : List Value} {g b : Nat} {es : Array MapEntry} {c : Nat} (h : Mine w v xs) (hg : v.ownBlock = some g) (hb : w.heap[b]? = some (.map es c)) : g ≠ b := by
  rintro rfl
  rcases h with ⟨rfl, _⟩ | ⟨g', cap, cur, tag, rfl, hg', _⟩
  · cases hg
  · simp only [Value.ownBlock, Option.some.injEq] at hg
    subst hg
    rw [hb] at hg'
    cases hg'

/-- The usage map: U, by the slices f; its lists in blocks of the class F, no two in one. -/
structure Us (w : World) (F : Nat → Prop) (mv : Value) (f : ByteArray → Option Value) (U : ByteArray → Option (List ByteArray)) (n : Nat) : Prop where
  map : (mv = .map none ∧ n = 0 ∧ ∀ k, f k = none) ∨ ∃ b, mv = .map (some b) ∧ F b ∧ MapIs Value.string w b f n
  some_ : ∀ k v, f k = some v → ∃ ss, U k = some ss ∧ Mine w v (strs ss) ∧ ∀ g, v.ownBlock = some g → F g
  none_ : ∀ k, f k = none → U k = none
  inj : ∀ k k' v v' g, f k = some v → f k' = some v' → v.ownBlock = some g → v'.ownBlock = some g → k = k'

section
variable {w w' : World} {F S : Nat → Prop} {mv : Value} {f : ByteArray → Option Value} {U : ByteArray → Option (List ByteArray)} {n : Nat}

theorem Us.kept (h : Us w F mv f U n) (hk : Kept S w w') (hS : ∀ k, F k → ¬ S k) : Us w' F mv f U n := by
  refine ⟨?_, fun k v hv => ?_, h.none_, h.inj⟩
  · rcases h.map with h1 | ⟨b, h1, h2, h3⟩
    · exact .inl h1
    · exact .inr ⟨b, h1, h2, h3.of_block (hk.block b h3.lt (hS b h2))⟩
  · obtain ⟨ss, h1, h2, h3⟩ := h.some_ k v hv
    exact ⟨ss, h1, h2.of_block fun g hg => hk.block g (h2.lt g hg) (hS g (h3 g hg)), h3⟩

theorem Us.mono {F' : Nat → Prop} (h : Us w F mv f U n) (hF : ∀ k, k < w.heap.size → F k → F' k) : Us w F' mv f U n := by
  refine ⟨?_, fun k v hv => ?_, h.none_, h.inj⟩
  · rcases h.map with h1 | ⟨b, h1, h2, h3⟩
    · exact .inl h1
    · exact .inr ⟨b, h1, hF b h3.lt h2, h3⟩
  · obtain ⟨ss, h1, h2, h3⟩ := h.some_ k v hv
    exact ⟨ss, h1, h2, fun g hg => hF g (h2.lt g hg) (h3 g hg)⟩

/-- The list at s. -/
theorem Us.at (h : Us w F mv f U n) (s : ByteArray) : Mine w ((f s).getD (.slice none 0 0)) (strs ((U s).getD [])) ∧ (∀ g, ((f s).getD (.slice none 0 0)).ownBlock = some g → F g) ∧ (f s).isSome = (U s).isSome := by
  cases hf : f s with
  | none =>
    rw [h.none_ s hf]
    exact ⟨.inl ⟨rfl, rfl⟩, fun g hg => (by cases hg), rfl⟩
  | some v =>
    obtain ⟨ss, h1, h2, h3⟩ := h.some_ s v hf
    rw [h1]
    exact ⟨h2, h3, rfl⟩

theorem Us.put {b : Nat} {w2 w3 : World} {s : ByteArray} {v' : Value} {l : List ByteArray} {n' : Nat} (h : Us w F (.map (some b)) f U n) (hm : Mine w2 v' (strs l))
    (hk : Kept (fun k => some k = ((f s).getD (.slice none 0 0)).ownBlock) w w2) (hl : ∀ g, v'.ownBlock = some g → ((f s).getD (.slice none 0 0)).ownBlock = some g ∨ w.heap.size ≤ g)
    (hmap : MapIs Value.string w3 b (upd f s v') n') (hk3 : Kept (fun k => k = b) w2 w3) :
    Us w3 (fun k => F k ∨ w.heap.size ≤ k) (.map (some b)) (upd f s v') (upd U s l) n' ∧ Kept F w w3 := by
  obtain ⟨hb, hFb⟩ : MapIs Value.string w b f n ∧ F b := by
    rcases h.map with ⟨h1, _⟩ | ⟨b', h1, h2, h3⟩
    · cases h1
    · cases h1; exact ⟨h3, h2⟩
  obtain ⟨hat, hatF, _⟩ := h.at s
  obtain ⟨es, clk, hbm, _⟩ := id hb
  have hne : ∀ g, v'.ownBlock = some g → g ≠ b := fun g hg => by
    rcases hl g hg with e | e
    · exact hat.ne_map e hbm
    · have := hb.lt; omega
  have hstay : ∀ g, g < w.heap.size → ((f s).getD (.slice none 0 0)).ownBlock ≠ some g → g ≠ b → w3.heap[g]? = w.heap[g]? := fun g hg h1 h2 =>
    (hk3.block g (Nat.lt_of_lt_of_le hg hk.size) h2).trans (hk.block g hg (fun e => h1 e.symm))
  refine ⟨⟨.inr ⟨b, rfl, .inl hFb, hmap⟩, fun k v hv => ?_, fun k hv => ?_, fun k k' u u' g hu hu' hg hg' => ?_⟩, ⟨hk3.os.trans hk.os, hk3.tape.trans hk.tape, hk3.output.trans hk.output, Nat.le_trans hk.size hk3.size, fun k hk0 hF => ?_⟩⟩
  · unfold upd at hv ⊢
    split at hv
    · rename_i e
      cases hv
      refine ⟨l, by rw [if_pos e], hm.of_block fun g hg => hk3.block g (hm.lt g hg) (hne g hg), fun g hg => ?_⟩
      rcases hl g hg with e' | e'
      · exact .inl (hatF g e')
      · exact .inr e'
    · rename_i e
      obtain ⟨ss, h1, h2, h3⟩ := h.some_ k v hv
      refine ⟨ss, by rw [if_neg e]; exact h1, h2.of_block fun g hg => hstay g (h2.lt g hg) (fun e' => ?_) (h2.ne_map hg hbm), fun g hg => .inl (h3 g hg)⟩
      cases hfs : f s with
      | none => rw [hfs] at e'; cases e'
      | some u => rw [hfs] at e'; exact e (h.inj k s v u g hv hfs hg e')
  · unfold upd at hv ⊢
    split at hv
    · cases hv
    · rename_i e
      rw [if_neg e]
      exact h.none_ k hv
  · unfold upd at hu hu'
    split at hu <;> split at hu'
    · rename_i e e'; rw [e, e']
    · rename_i e e'
      cases hu
      exfalso
      obtain ⟨ss, _, h2, _⟩ := h.some_ k' u' hu'
      rcases hl g hg with q | q
      · cases hfs : f s with
        | none => rw [hfs] at q; cases q
        | some v0 => rw [hfs] at q; exact e' (h.inj k' s u' v0 g hu' hfs hg' q)
      · have := h2.lt g hg'; omega
    · rename_i e e'
      cases hu'
      exfalso
      obtain ⟨ss, _, h2, _⟩ := h.some_ k u hu
      rcases hl g hg' with q | q
      · cases hfs : f s with
        | none => rw [hfs] at q; cases q
        | some v0 => rw [hfs] at q; exact e (h.inj k s u v0 g hu hfs hg q)
      · have := h2.lt g hg; omega
    · exact h.inj k k' u u' g hu hu' hg hg'
  · by_cases e : ((f s).getD (.slice none 0 0)).ownBlock = some k
    · exact absurd (hatF k e) hF
    · exact hstay k hk0 e (fun e' => hF (e' ▸ hFb))
end

/-- Block p is a copyGrants: the grants gs, the usage U; all in blocks of the class T. -/
structure St (w : World) (T F : Nat → Prop) (p : Nat) (gv mv : Value) (gs : List ByteArray) (f : ByteArray → Option Value) (U : ByteArray → Option (List ByteArray)) (n : Nat) : Prop where
  cell : w.heap[p]? = some (.cells #[gv, mv] 47 (0, 0))
  pT : T p
  pF : ¬ F p
  mine : Mine w gv (strs gs)
  gT : ∀ g, gv.ownBlock = some g → T g ∧ ¬ F g ∧ g ≠ p
  us : Us w F mv f U n
  sub : ∀ k, F k → T k

section
variable {w w' : World} {T F S : Nat → Prop} {p : Nat} {gv mv : Value} {gs : List ByteArray} {f : ByteArray → Option Value} {U : ByteArray → Option (List ByteArray)} {n : Nat}

theorem St.lt (h : St w T F p gv mv gs f U n) : p < w.heap.size := (Array.getElem?_eq_some_iff.1 h.cell).1

theorem St.kept (h : St w T F p gv mv gs f U n) (hk : Kept S w w') (hS : ∀ k, T k → ¬ S k) : St w' T F p gv mv gs f U n :=
  ⟨(hk.block p h.lt (hS p h.pT)).trans h.cell, h.pT, h.pF, h.mine.of_block fun g hg => hk.block g (h.mine.lt g hg) (hS g (h.gT g hg).1), h.gT, h.us.kept hk fun k hF => hS k (h.sub k hF), h.sub⟩

theorem St.wide {T' : Nat → Prop} (h : St w T F p gv mv gs f U n) (hT : ∀ k, k < w.heap.size → T k → T' k) : St w T' (fun k => F k ∧ k < w.heap.size) p gv mv gs f U n :=
  ⟨h.cell, hT p h.lt h.pT, fun e => h.pF e.1, h.mine, fun g hg => ⟨hT g (h.mine.lt g hg) (h.gT g hg).1, fun e => (h.gT g hg).2.1 e.1, (h.gT g hg).2.2⟩, h.us.mono fun _ hk hF => ⟨hF, hk⟩, fun k hk => hT k hk.2 (h.sub k hk.1)⟩

theorem St.cells (h : St w T F p gv mv gs f U n) : w.cell? ⟨p, 0, none⟩ = some gv ∧ w.cell? ⟨p, 1, none⟩ = some mv ∧ w.frozen? ⟨p, 0, none⟩ = false ∧ w.frozen? ⟨p, 1, none⟩ = false := by
  refine ⟨?_, ?_, ?_, ?_⟩
  · rw [cell_of_row w p 0 _ _ _ h.cell]; rfl
  · rw [cell_of_row w p 1 _ _ _ h.cell]; rfl
  · simp [World.frozen?, h.cell]
  · simp [World.frozen?, h.cell]

theorem set0 (h : w.heap[p]? = some (.cells #[gv, mv] 47 (0, 0))) (u : Value) : (w.setCell ⟨p, 0, none⟩ u).heap[p]? = some (.cells #[u, mv] 47 (0, 0)) := by
  simp [World.setCell, Array.getElem?_modify, h]
theorem set1 (h : w.heap[p]? = some (.cells #[gv, mv] 47 (0, 0))) (u : Value) : (w.setCell ⟨p, 1, none⟩ u).heap[p]? = some (.cells #[gv, u] 47 (0, 0)) := by
  simp [World.setCell, Array.getElem?_modify, h]

/-- The grants grew. -/
theorem St.grown {w1 : World} {gv' : Value} {gs' : List ByteArray} (h : St w T F p gv mv gs f U n) (hT : ∀ k, T k → k < w.heap.size) (hm : Mine w1 gv' (strs gs')) (hk : Kept (fun k => some k = gv.ownBlock) w w1)
    (hl : gv'.ownBlock = gv.ownBlock ∨ gv'.ownBlock = some w.heap.size) :
    St (w1.setCell ⟨p, 0, none⟩ gv') (fun k => T k ∨ w.heap.size ≤ k) F p gv' mv gs' f U n ∧ Kept T w (w1.setCell ⟨p, 0, none⟩ gv') := by
  have hp1 : w1.heap[p]? = some (.cells #[gv, mv] 47 (0, 0)) := (hk.block p h.lt (fun e => (h.gT p e.symm).2.2 rfl)).trans h.cell
  have hne : ∀ g, gv'.ownBlock = some g → (T g ∨ w.heap.size ≤ g) ∧ ¬ F g ∧ g ≠ p := fun g hg => by
    rcases hl with e | e
    · rw [e] at hg; exact ⟨.inl (h.gT g hg).1, (h.gT g hg).2⟩
    · rw [e] at hg; cases hg; exact ⟨.inr (Nat.le_refl _), fun e => by have := hT _ (h.sub _ e); omega, by have := h.lt; omega⟩
  have hkT : Kept T w w1 := hk.mono fun k _ e => (h.gT k e.symm).1
  have hkT2 : Kept T w (w1.setCell ⟨p, 0, none⟩ gv') := hkT.setCell h.pT gv'
  refine ⟨⟨set0 hp1 gv', .inl h.pT, h.pF, hm.of_block fun g hg => Below.heap_setCell _ _ _ _ (hne g hg).2.2, hne, ?_, fun k hk => .inl (h.sub k hk)⟩, hkT2⟩
  refine (h.us.kept (S := fun k => some k = gv.ownBlock) hk fun k hF e => (h.gT k e.symm).2.1 hF).kept (S := fun k => k = p) ⟨rfl, rfl, rfl, by simp, fun k _ hk => Below.heap_setCell _ _ _ _ hk⟩ fun k hF e => h.pF (e ▸ hF)

/-- A map is made, where there was none. -/
theorem St.made (h : St w T F p gv (.map none) gs f U n) :
    St ((w.alloc (.map #[] 0)).setCell ⟨p, 1, none⟩ (.map (some w.heap.size))) (fun k => T k ∨ w.heap.size ≤ k) (fun k => k = w.heap.size) p gv (.map (some w.heap.size)) gs f U n ∧
    Kept T w ((w.alloc (.map #[] 0)).setCell ⟨p, 1, none⟩ (.map (some w.heap.size))) := by
  have hz : n = 0 ∧ ∀ k, f k = none := by
    rcases h.us.map with ⟨_, h1, h2⟩ | ⟨b, h1, _⟩
    · exact ⟨h1, h2⟩
    · cases h1
  obtain ⟨rfl, hf⟩ := hz
  have hplt := h.lt
  have hp1 : (w.alloc (.map #[] 0)).heap[p]? = some (.cells #[gv, .map none] 47 (0, 0)) := (Below.heap_alloc w _ p h.lt).trans h.cell
  have hk2 : Kept T w ((w.alloc (.map #[] 0)).setCell ⟨p, 1, none⟩ (.map (some w.heap.size))) := ((Kept.refl T w).alloc _).setCell h.pT _
  refine ⟨⟨set1 hp1 _, .inl h.pT, by omega, (h.mine.alloc _).of_block fun g hg => Below.heap_setCell _ _ _ _ (h.gT g hg).2.2, fun g hg => ⟨.inl (h.gT g hg).1, by have := h.mine.lt g hg; omega, (h.gT g hg).2.2⟩, ?_, fun k hk => .inr (by omega)⟩, hk2⟩
  refine ⟨.inr ⟨w.heap.size, rfl, rfl, ?_⟩, fun k v hv => (by rw [hf k] at hv; cases hv), h.us.none_, fun k _ v _ _ hv => (by rw [hf k] at hv; cases hv)⟩
  refine ⟨#[], 0, (Below.heap_setCell _ _ _ _ (by simp; omega)).trans (MapKept.heap_alloc w _).1, by simp, by simp, rfl, fun a v => by simp [hf a]⟩

theorem St.put {b : Nat} {w2 w3 : World} {s : ByteArray} {v' : Value} {l : List ByteArray} {n' : Nat} (h : St w T F p gv (.map (some b)) gs f U n) (hT : ∀ k, k < w.heap.size ∨ T k) (hm : Mine w2 v' (strs l))
    (hk : Kept (fun k => some k = ((f s).getD (.slice none 0 0)).ownBlock) w w2) (hl : ∀ g, v'.ownBlock = some g → ((f s).getD (.slice none 0 0)).ownBlock = some g ∨ w.heap.size ≤ g)
    (hmap : MapIs Value.string w3 b (upd f s v') n') (hk3 : Kept (fun k => k = b) w2 w3) :
    St w3 T (fun k => F k ∨ w.heap.size ≤ k) p gv (.map (some b)) gs (upd f s v') (upd U s l) n' ∧ Kept F w w3 := by
  obtain ⟨h1, h2⟩ := h.us.put hm hk hl hmap hk3
  have hlt := h.lt
  refine ⟨⟨(h2.block p h.lt h.pF).trans h.cell, h.pT, fun e => e.elim h.pF (by omega), h.mine.of_block fun g hg => h2.block g (h.mine.lt g hg) (h.gT g hg).2.1, fun g hg => ⟨(h.gT g hg).1, fun e => e.elim (h.gT g hg).2.1 (by have := h.mine.lt g hg; omega), (h.gT g hg).2.2⟩, h1, fun k hk => hk.elim (h.sub k) fun e => (hT k).elim (by omega) id⟩, h2⟩
end

end Go.Proofs.Qxb6619367a
