/- What a queue holds (seat b6617448a). -/
import Derived.Test.Qxb6617448aHeap
import Derived.Test.Qxb6617448aZero
namespace Go.Proofs.Qxb6617448a
open Go.RowKit

def ptr (g : Nat) : Value := .pointer (some ⟨g, 0, none⟩)
theorem ptr_inj {a b : Nat} (h : ptr a = ptr b) : a = b := by simp [ptr] at h; exact h
/-- An instant with no events. -/
def ICells (a : Int) : Array Value := #[.int .i64 a, .slice none 0 0, .int .i64 0]
def IsI (w : World) (g : Nat) (a : Int) : Prop := w.heap[g]? = some (.cells (ICells a) 49 (0, 0))
/-- The queue's own cells. -/
def QCells (cs : Array Value) (hv mv sv : Value) : Prop := cs.size = 16388 ∧ cs[0]? = some hv ∧ cs[1]? = some mv ∧ (∀ i, i < 16384 → cs[2 + i]? = some (.pointer none)) ∧ cs[16386]? = some sv

theorem intKey : KeyT (α := Int) Try.prog 2 (.int .i64) (Value.int .i64) where
  under := Try.underlying2
  isKey _ := rfl
  inj a b h := by cases h; rfl
  bits a := by unfold Instr.sameBits; simp

theorem obj_ne {w : World} {a b : Nat} {o o' : Obj} (ha : w.heap[a]? = some o) (hb : w.heap[b]? = some o') (h : o ≠ o') : a ≠ b := by
  rintro rfl; rw [ha] at hb; cases hb; exact h rfl

/-- The queue but for its heap's slice: its cells; the instants mp, which its map holds; the spares sp. -/
structure QR (N : Nat) (w : World) (B : Nat) (hv mv sv : Value) (mp : List Elt) (sp : List Nat) (f : Int → Option Value) : Prop where
  q : ∃ cs, w.heap[B]? = some (.cells cs 45 (0, 0)) ∧ QCells cs hv mv sv
  sm : Mine 42 w sv (sp.map ptr)
  inst : ∀ x ∈ mp, IsI w x.1 x.2
  spi : ∀ g ∈ sp, ∃ a, IsI w g a
  nd : (mp.map (·.1) ++ sp).Nodup
  ats : (mp.map (·.2)).Nodup
  map : (mv = .map none ∧ mp = []) ∨ ∃ mb, mv = .map (some mb) ∧ N ≤ mb ∧ MapIs (Value.int .i64) w mb f mp.length
  fm : ∀ a v, f a = some v ↔ ∃ x ∈ mp, x.2 = a ∧ v = ptr x.1
  bN : N ≤ B
  sB : ∀ g, sv.ownBlock = some g → N ≤ g
  iN : ∀ x ∈ mp, N ≤ x.1
  sN : ∀ g ∈ sp, N ≤ g

section
variable {N : Nat} {w w' : World} {B : Nat} {hv mv sv : Value} {mp : List Elt} {sp : List Nat} {f : Int → Option Value}

/-- The blocks that it holds. -/
def QBlk (B : Nat) (mv sv : Value) (mp : List Elt) (sp : List Nat) (k : Nat) : Prop := k = B ∨ sv.ownBlock = some k ∨ (∃ x ∈ mp, x.1 = k) ∨ k ∈ sp ∨ mv = .map (some k)

theorem QR.ge (h : QR N w B hv mv sv mp sp f) {k : Nat} (hk : QBlk B mv sv mp sp k) : N ≤ k := by
  rcases hk with rfl | e | ⟨x, hx, rfl⟩ | e | e
  · exact h.bN
  · exact h.sB k e
  · exact h.iN x hx
  · exact h.sN k e
  · rcases h.map with ⟨h1, _⟩ | ⟨mb, h1, h2, _⟩
    · rw [h1] at e; cases e
    · rw [h1] at e; cases e; exact h2

theorem QR.lt (h : QR N w B hv mv sv mp sp f) : B < w.heap.size := by obtain ⟨cs, h1, _⟩ := h.q; exact (Array.getElem?_eq_some_iff.1 h1).1

theorem QR.kept {S : Nat → Prop} (h : QR N w B hv mv sv mp sp f) (hk : Kept S w w') (hS : ∀ k, S k → ¬ QBlk B mv sv mp sp k) : QR N w' B hv mv sv mp sp f := by
  refine ⟨?_, ?_, fun x hx => ?_, fun g hg => ?_, h.nd, h.ats, ?_, h.fm, h.bN, h.sB, h.iN, h.sN⟩
  · obtain ⟨cs, h1, h2⟩ := h.q
    exact ⟨cs, (hk.block B h.lt (fun e => hS B e (.inl rfl))).trans h1, h2⟩
  · exact h.sm.of_block fun g hg => hk.block g (h.sm.lt g hg) (fun e => hS g e (.inr (.inl hg)))
  · have h1 := h.inst x hx
    exact (hk.block x.1 (Array.getElem?_eq_some_iff.1 h1).1 (fun e => hS _ e (.inr (.inr (.inl ⟨x, hx, rfl⟩))))).trans h1
  · obtain ⟨a, h1⟩ := h.spi g hg
    exact ⟨a, (hk.block g (Array.getElem?_eq_some_iff.1 h1).1 (fun e => hS _ e (.inr (.inr (.inr (.inl hg)))))).trans h1⟩
  · rcases h.map with h1 | ⟨mb, h1, h2, h3⟩
    · exact .inl h1
    · exact .inr ⟨mb, h1, h2, h3.of_block (hk.block mb h3.lt (fun e => hS _ e (.inr (.inr (.inr (.inr h1))))))⟩

/-- Another slice of pointers is none of its blocks. -/
theorem QR.apart (h : QR N w B hv mv sv mp sp f) {v : Value} {xs : List Value} (hm : Mine 42 w v xs) {k : Nat} (hk : v.ownBlock = some k) (hs : sv.ownBlock ≠ some k) : ¬ QBlk B mv sv mp sp k := by
  obtain ⟨cur, hc⟩ : ∃ cur, w.heap[k]? = some (.cells cur 42 (0, 0)) := by
    rcases hm with ⟨rfl, _⟩ | ⟨g, cap, cur, rfl, hg, _⟩
    · cases hk
    · simp only [Value.ownBlock, Option.some.injEq] at hk; subst hk; exact ⟨cur, hg⟩
  rintro (rfl | e | ⟨x, hx, rfl⟩ | e | e)
  · obtain ⟨cs, h1, _⟩ := h.q; rw [hc] at h1; cases h1
  · exact hs e
  · have := h.inst x hx; unfold IsI at this; rw [hc] at this; cases this
  · obtain ⟨a, this⟩ := h.spi k e; unfold IsI at this; rw [hc] at this; cases this
  · rcases h.map with ⟨h1, _⟩ | ⟨mb, h1, _, h3⟩
    · rw [h1] at e; cases e
    · rw [h1] at e; cases e
      obtain ⟨es, c, h4, _⟩ := h3
      rw [hc] at h4; cases h4

/-- A free instant is none of its blocks. -/
theorem QR.apartI (h : QR N w B hv mv sv mp sp f) {g : Nat} {a : Int} (hg : IsI w g a) (h1 : g ∉ mp.map (·.1)) (h2 : g ∉ sp) : ¬ QBlk B mv sv mp sp g := by
  unfold IsI at hg
  rintro (rfl | e | ⟨x, hx, rfl⟩ | e | e)
  · obtain ⟨cs, h1, _⟩ := h.q; rw [hg] at h1; cases h1
  · rcases h.sm with ⟨h3, _⟩ | ⟨g', cap, cur, h3, h4, _⟩
    · rw [h3] at e; cases e
    · rw [h3] at e; simp only [Value.ownBlock, Option.some.injEq] at e; subst e; rw [hg] at h4; cases h4
  · exact h1 (List.mem_map.2 ⟨x, hx, rfl⟩)
  · exact h2 e
  · rcases h.map with ⟨h1, _⟩ | ⟨mb, h1, _, h3⟩
    · rw [h1] at e; cases e
    · rw [h1] at e; cases e
      obtain ⟨es, c, h4, _⟩ := h3
      rw [hg] at h4; cases h4

theorem QR.cells (h : QR N w B hv mv sv mp sp f) : w.cell? ⟨B, 0, none⟩ = some hv ∧ w.cell? ⟨B, 1, none⟩ = some mv ∧ w.cell? ⟨B, 16386, none⟩ = some sv ∧ ∀ i, i < 16384 → w.cell? ⟨B, 2 + i, none⟩ = some (.pointer none) := by
  obtain ⟨cs, h1, h2, h3, h4, h5, h6⟩ := h.q
  exact ⟨by rw [cell_of_row w B 0 _ _ _ h1]; exact h3, by rw [cell_of_row w B 1 _ _ _ h1]; exact h4, by rw [cell_of_row w B 16386 _ _ _ h1]; exact h6, fun i hi => by rw [cell_of_row w B _ _ _ _ h1]; exact h5 i hi⟩
theorem QR.frozen (h : QR N w B hv mv sv mp sp f) (o : Nat) : w.frozen? ⟨B, o, none⟩ = false := by
  obtain ⟨cs, h1, _⟩ := h.q
  simp [World.frozen?, h1]

theorem set_cells {cs : Array Value} {t : TypeId} (h : w.heap[B]? = some (.cells cs t (0, 0))) (o : Nat) (u : Value) : (w.setCell ⟨B, o, none⟩ u).heap[B]? = some (.cells (cs.setIfInBounds o u) t (0, 0)) := by
  simp [World.setCell, Array.getElem?_modify, h]

theorem setCell_kept (w : World) (a : Addr) (u : Value) : Kept (fun k => k = a.block) w (w.setCell a u) := ⟨rfl, rfl, rfl, by simp, fun k _ hk => Below.heap_setCell _ _ _ _ hk⟩

/-- A store into the queue's own block. -/
theorem QR.store' (h : QR N w B hv mv sv mp sp f) (o : Nat) (u : Value) {hv' mv' sv' : Value} {sp' : List Nat} (hq : ∀ cs, QCells cs hv mv sv → QCells (cs.setIfInBounds o u) hv' mv' sv')
    (hsm : Mine 42 w sv' (sp'.map ptr)) (hspi : ∀ g ∈ sp', ∃ a, IsI w g a) (hnd : (mp.map (·.1) ++ sp').Nodup) (hsN : ∀ g ∈ sp', N ≤ g) (hsB : ∀ g, sv'.ownBlock = some g → N ≤ g) (hmap : (mv' = .map none ∧ mp = []) ∨ ∃ mb, mv' = .map (some mb) ∧ N ≤ mb ∧ MapIs (Value.int .i64) w mb f mp.length) : QR N (w.setCell ⟨B, o, none⟩ u) B hv' mv' sv' mp sp' f := by
  obtain ⟨cs, h1, h2⟩ := h.q
  have hk := setCell_kept w ⟨B, o, none⟩ u
  have hne : ∀ {k : Nat} {ob : Obj}, w.heap[k]? = some ob → (∀ c, ob ≠ .cells c 45 (0, 0)) → (w.setCell ⟨B, o, none⟩ u).heap[k]? = w.heap[k]? := fun {k ob} hk' hob => hk.block k (Array.getElem?_eq_some_iff.1 hk').1 (fun e => by
    simp only at e; subst e; rw [h1] at hk'; cases hk'; exact hob _ rfl)
  refine ⟨⟨_, set_cells h1 o u, hq cs h2⟩, ?_, fun x hx => ?_, fun g hg => ?_, hnd, h.ats, ?_, h.fm, h.bN, hsB, h.iN, hsN⟩
  · refine hsm.of_block fun g hg => ?_
    rcases hsm with ⟨rfl, _⟩ | ⟨g', cap, cur, rfl, hg', _⟩
    · cases hg
    · simp only [Value.ownBlock, Option.some.injEq] at hg; subst hg
      exact hne hg' (fun c => by simp)
  · have h3 := h.inst x hx; exact (hne h3 (fun c => by simp)).trans h3
  · obtain ⟨a, h3⟩ := hspi g hg; exact ⟨a, (hne h3 (fun c => by simp)).trans h3⟩
  · rcases hmap with h3 | ⟨mb, h3, h4, h5⟩
    · exact .inl h3
    · refine .inr ⟨mb, h3, h4, h5.of_block ?_⟩
      obtain ⟨es, c, h6, _⟩ := h5
      exact hne h6 (fun c => by simp)

theorem QR.store (h : QR N w B hv mv sv mp sp f) (o : Nat) (u : Value) {hv' mv' sv' : Value} (hq : ∀ cs, QCells cs hv mv sv → QCells (cs.setIfInBounds o u) hv' mv' sv')
    (hsm : Mine 42 w sv' (sp.map ptr)) (hsB : ∀ g, sv'.ownBlock = some g → N ≤ g) (hmap : (mv' = .map none ∧ mp = []) ∨ ∃ mb, mv' = .map (some mb) ∧ N ≤ mb ∧ MapIs (Value.int .i64) w mb f mp.length) : QR N (w.setCell ⟨B, o, none⟩ u) B hv' mv' sv' mp sp f :=
  h.store' o u hq hsm h.spi h.nd h.sN hsB hmap

theorem QR.store0 (h : QR N w B hv mv sv mp sp f) (u : Value) : QR N (w.setCell ⟨B, 0, none⟩ u) B u mv sv mp sp f :=
  h.store 0 u (fun cs ⟨h1, h2, h3, h4, h5⟩ => ⟨by simpa using h1, by rw [Array.getElem?_setIfInBounds_self_of_lt (by omega)], by rw [Array.getElem?_setIfInBounds_ne (by omega)]; exact h3, fun i hi => by rw [Array.getElem?_setIfInBounds_ne (by omega)]; exact h4 i hi, by rw [Array.getElem?_setIfInBounds_ne (by omega)]; exact h5⟩) h.sm h.sB h.map
theorem QR.store3 (h : QR N w B hv mv sv mp sp f) (u : Value) (hsm : Mine 42 w u (sp.map ptr)) (hsB : ∀ g, u.ownBlock = some g → N ≤ g) : QR N (w.setCell ⟨B, 16386, none⟩ u) B hv mv u mp sp f :=
  h.store 16386 u (fun cs ⟨h1, h2, h3, h4, h5⟩ => ⟨by simpa using h1, by rw [Array.getElem?_setIfInBounds_ne (by omega)]; exact h2, by rw [Array.getElem?_setIfInBounds_ne (by omega)]; exact h3, fun i hi => by rw [Array.getElem?_setIfInBounds_ne (by omega)]; exact h4 i hi, by rw [Array.getElem?_setIfInBounds_self_of_lt (by omega)]⟩) hsm hsB h.map
theorem q3 {cs : Array Value} {hv mv sv : Value} (u : Value) (h : QCells cs hv mv sv) : QCells (cs.setIfInBounds 16386 u) hv mv u := by
  obtain ⟨h1, h2, h3, h4, h5⟩ := h
  exact ⟨by simpa using h1, by rw [Array.getElem?_setIfInBounds_ne (by omega)]; exact h2, by rw [Array.getElem?_setIfInBounds_ne (by omega)]; exact h3, fun i hi => by rw [Array.getElem?_setIfInBounds_ne (by omega)]; exact h4 i hi, by rw [Array.getElem?_setIfInBounds_self_of_lt (by omega)]⟩

/-- The last spare is taken. -/
theorem QR.pop {sp0 : List Nat} {g : Nat} (h : QR N w B hv mv sv mp (sp0 ++ [g]) f) (u : Value) (hsm : Mine 42 w u (sp0.map ptr)) (hsB : ∀ k, u.ownBlock = some k → N ≤ k) :
    QR N (w.setCell ⟨B, 16386, none⟩ u) B hv mv u mp sp0 f ∧ (∃ a, IsI (w.setCell ⟨B, 16386, none⟩ u) g a) ∧ N ≤ g ∧ g ∉ mp.map (·.1) ∧ g ∉ sp0 := by
  have hnd := h.nd
  have hperm : (mp.map (·.1) ++ (sp0 ++ [g])).Perm (g :: (mp.map (·.1) ++ sp0)) := by
    rw [← List.append_assoc]; exact List.perm_append_comm
  rw [hperm.nodup_iff, List.nodup_cons, List.mem_append] at hnd
  refine ⟨h.store' 16386 u (fun cs hc => q3 u hc) hsm (fun x hx => h.spi x (by simp [hx])) hnd.2 (fun x hx => h.sN x (by simp [hx])) hsB h.map, ?_, h.sN g (by simp), fun e => hnd.1 (.inl e), fun e => hnd.1 (.inr e)⟩
  obtain ⟨a, hg⟩ := h.spi g (by simp)
  refine ⟨a, (Below.heap_setCell _ _ _ _ ?_).trans hg⟩
  obtain ⟨cs, h1, _⟩ := h.q
  exact obj_ne hg h1 (by simp)

/-- An instant joins the spares. -/
theorem QR.push {g : Nat} {a : Int} (h : QR N w B hv mv sv mp sp f) (u : Value) (hsm : Mine 42 w u ((sp ++ [g]).map ptr)) (hsB : ∀ k, u.ownBlock = some k → N ≤ k) (hg : IsI w g a) (hgN : N ≤ g) (h1 : g ∉ mp.map (·.1)) (h2 : g ∉ sp) :
    QR N (w.setCell ⟨B, 16386, none⟩ u) B hv mv u mp (sp ++ [g]) f := by
  refine h.store' 16386 u (fun cs hc => q3 u hc) hsm (fun x hx => ?_) ?_ (fun x hx => ?_) hsB h.map
  · rw [List.mem_append, List.mem_singleton] at hx
    rcases hx with hx | rfl
    · exact h.spi x hx
    · exact ⟨a, hg⟩
  · have hperm : (mp.map (·.1) ++ (sp ++ [g])).Perm (g :: (mp.map (·.1) ++ sp)) := by
      rw [← List.append_assoc]; exact List.perm_append_comm
    rw [hperm.nodup_iff, List.nodup_cons, List.mem_append]
    exact ⟨fun e => e.elim h1 h2, h.nd⟩
  · rw [List.mem_append, List.mem_singleton] at hx
    rcases hx with hx | rfl
    · exact h.sN x hx
    · exact hgN

theorem QR.store1 (h : QR N w B hv mv sv mp sp f) (mb : Nat) (hN : N ≤ mb) (hmap : MapIs (Value.int .i64) w mb f mp.length) : QR N (w.setCell ⟨B, 1, none⟩ (.map (some mb))) B hv (.map (some mb)) sv mp sp f :=
  h.store 1 _ (fun cs ⟨h1, h2, h3, h4, h5⟩ => ⟨by simpa using h1, by rw [Array.getElem?_setIfInBounds_ne (by omega)]; exact h2, by rw [Array.getElem?_setIfInBounds_self_of_lt (by omega)], fun i hi => by rw [Array.getElem?_setIfInBounds_ne (by omega)]; exact h4 i hi, by rw [Array.getElem?_setIfInBounds_ne (by omega)]; exact h5⟩) h.sm h.sB (.inr ⟨mb, rfl, hN, hmap⟩)

theorem QR.isMap {mb : Nat} (h : QR N w B hv (.map (some mb)) sv mp sp f) : N ≤ mb ∧ MapIs (Value.int .i64) w mb f mp.length := by
  rcases h.map with ⟨h1, _⟩ | ⟨b', h1, h2, h3⟩
  · cases h1
  · cases h1; exact ⟨h2, h3⟩

theorem QR.fnone (h : QR N w B hv mv sv mp sp f) {a : Int} (ha : a ∉ mp.map (·.2)) : f a = none := by
  cases hf : f a with
  | none => rfl
  | some v => obtain ⟨x, hx, h1, _⟩ := (h.fm a v).1 hf; exact absurd (List.mem_map.2 ⟨x, hx, h1⟩) ha

/-- A new instant goes into the map. -/
theorem QR.mapAdd {mb g : Nat} {a : Int} {n' : Nat} (h : QR N w B hv (.map (some mb)) sv mp sp f) (hg : IsI w g a) (hgN : N ≤ g) (h1 : g ∉ mp.map (·.1)) (h2 : g ∉ sp) (ha : a ∉ mp.map (·.2))
    (hmap : MapIs (Value.int .i64) w' mb (upd f a (ptr g)) n') (hn : n' = mp.length + 1) (hk : Kept (fun k => k = mb) w w') : QR N w' B hv (.map (some mb)) sv (mp ++ [(g, a)]) sp (upd f a (ptr g)) := by
  have hm := h.isMap.2
  obtain ⟨es, c, h6, _⟩ := id hm
  have hne : ∀ {k : Nat} {ob : Obj}, w.heap[k]? = some ob → (∀ e c, ob ≠ .map e c) → w'.heap[k]? = w.heap[k]? := fun {k ob} hk' hob => hk.block k (Array.getElem?_eq_some_iff.1 hk').1 (fun e => by
    subst e; rw [h6] at hk'; cases hk'; exact hob _ _ rfl)
  refine ⟨?_, ?_, fun x hx => ?_, fun g' hg' => ?_, ?_, ?_, .inr ⟨mb, rfl, h.isMap.1, by simpa [hn] using hmap⟩, fun c v => ?_, h.bN, h.sB, fun x hx => ?_, h.sN⟩
  · obtain ⟨cs, h3, h4⟩ := h.q; exact ⟨cs, (hne h3 (by simp)).trans h3, h4⟩
  · refine h.sm.of_block fun g hg => ?_
    rcases h.sm with ⟨h3, _⟩ | ⟨g', cap, cur, h3, hg', _⟩
    · rw [h3] at hg; cases hg
    · rw [h3] at hg; simp only [Value.ownBlock, Option.some.injEq] at hg; subst hg
      exact hne hg' (by simp)
  · rw [List.mem_append, List.mem_singleton] at hx
    rcases hx with hx | rfl
    · have h3 := h.inst x hx; exact (hne h3 (by simp)).trans h3
    · exact (hne hg (by simp)).trans hg
  · obtain ⟨a, h3⟩ := h.spi g' hg'; exact ⟨a, (hne h3 (by simp)).trans h3⟩
  · have hp : (List.map (·.1) (mp ++ [(g, a)]) ++ sp).Perm (g :: (mp.map (·.1) ++ sp)) := by
      simp only [List.map_append, List.map_cons, List.map_nil, List.append_assoc]
      exact List.perm_middle
    rw [hp.nodup_iff, List.nodup_cons]
    exact ⟨by rw [List.mem_append]; exact fun e => e.elim h1 h2, h.nd⟩
  · have hp : (List.map (·.2) (mp ++ [(g, a)])).Perm (a :: mp.map (·.2)) := by
      simp only [List.map_append, List.map_cons, List.map_nil]
      exact List.perm_append_comm
    rw [hp.nodup_iff, List.nodup_cons]
    exact ⟨ha, h.ats⟩
  · unfold upd
    split
    · rename_i e
      subst e
      constructor
      · intro hv; cases hv; exact ⟨(g, c), by simp, rfl, rfl⟩
      · rintro ⟨x, hx, h3, rfl⟩
        rw [List.mem_append, List.mem_singleton] at hx
        rcases hx with hx | rfl
        · exact absurd (List.mem_map.2 ⟨x, hx, h3⟩) ha
        · rfl
    · rename_i e
      rw [h.fm c v]
      constructor
      · rintro ⟨x, hx, h3⟩; exact ⟨x, by simp [hx], h3⟩
      · rintro ⟨x, hx, h3, h4⟩
        rw [List.mem_append, List.mem_singleton] at hx
        rcases hx with hx | rfl
        · exact ⟨x, hx, h3, h4⟩
        · exact absurd h3.symm e
  · rw [List.mem_append, List.mem_singleton] at hx
    rcases hx with hx | rfl
    · exact h.iN x hx
    · exact hgN

theorem QR.perm {mp' : List Elt} (h : QR N w B hv mv sv mp sp f) (hp : mp'.Perm mp) : QR N w B hv mv sv mp' sp f := by
  refine ⟨h.q, h.sm, fun x hx => h.inst x (hp.mem_iff.1 hx), h.spi, ?_, ?_, ?_, fun a v => ?_, h.bN, h.sB, fun x hx => h.iN x (hp.mem_iff.1 hx), h.sN⟩
  · exact ((hp.map _).append_right sp).nodup_iff.2 h.nd
  · exact (hp.map _).nodup_iff.2 h.ats
  · rcases h.map with ⟨h1, h2⟩ | ⟨mb, h1, h2, h3⟩
    · subst h2; exact .inl ⟨h1, hp.eq_nil⟩
    · exact .inr ⟨mb, h1, h2, by rw [hp.length_eq]; exact h3⟩
  · rw [h.fm a v]
    constructor
    · rintro ⟨x, hx, h1⟩; exact ⟨x, hp.mem_iff.2 hx, h1⟩
    · rintro ⟨x, hx, h1⟩; exact ⟨x, hp.mem_iff.1 hx, h1⟩

/-- The instant on top leaves the map. -/
theorem QR.mapDel {mb : Nat} {x0 : Elt} {l : List Elt} {n' : Nat} (h : QR N w B hv (.map (some mb)) sv (x0 :: l) sp f) (hmap : MapIs (Value.int .i64) w' mb (del f x0.2) n') (hn : n' = l.length) (hk : Kept (fun k => k = mb) w w') :
    QR N w' B hv (.map (some mb)) sv l sp (del f x0.2) ∧ IsI w' x0.1 x0.2 ∧ N ≤ x0.1 ∧ x0.1 ∉ l.map (·.1) ∧ x0.1 ∉ sp := by
  have hm := h.isMap.2
  obtain ⟨es, c, h6, _⟩ := id hm
  have hne : ∀ {k : Nat} {ob : Obj}, w.heap[k]? = some ob → (∀ e c, ob ≠ .map e c) → w'.heap[k]? = w.heap[k]? := fun {k ob} hk' hob => hk.block k (Array.getElem?_eq_some_iff.1 hk').1 (fun e => by
    subst e; rw [h6] at hk'; cases hk'; exact hob _ _ rfl)
  have hnd := h.nd
  have hats := h.ats
  simp only [List.map_cons, List.cons_append, List.nodup_cons] at hnd hats
  refine ⟨⟨?_, ?_, fun x hx => ?_, fun g' hg' => ?_, hnd.2, hats.2, .inr ⟨mb, rfl, h.isMap.1, by rw [← hn]; exact hmap⟩, fun c v => ?_, h.bN, h.sB, fun x hx => h.iN x (.tail _ hx), h.sN⟩, ?_, h.iN x0 (.head _), ?_, ?_⟩
  · obtain ⟨cs, h3, h4⟩ := h.q; exact ⟨cs, (hne h3 (by simp)).trans h3, h4⟩
  · refine h.sm.of_block fun g hg => ?_
    rcases h.sm with ⟨h3, _⟩ | ⟨g', cap, cur, h3, hg', _⟩
    · rw [h3] at hg; cases hg
    · rw [h3] at hg; simp only [Value.ownBlock, Option.some.injEq] at hg; subst hg
      exact hne hg' (by simp)
  · have h3 := h.inst x (.tail _ hx); exact (hne h3 (by simp)).trans h3
  · obtain ⟨a, h3⟩ := h.spi g' hg'; exact ⟨a, (hne h3 (by simp)).trans h3⟩
  · unfold del
    split
    · rename_i e
      subst e
      constructor
      · intro h; cases h
      · rintro ⟨x, hx, h3, _⟩; exact absurd (List.mem_map.2 ⟨x, hx, h3⟩) hats.1
    · rename_i e
      rw [h.fm c v]
      constructor
      · rintro ⟨x, hx, h3, h4⟩
        rw [List.mem_cons] at hx
        rcases hx with rfl | hx
        · exact absurd h3.symm e
        · exact ⟨x, hx, h3, h4⟩
      · rintro ⟨x, hx, h3⟩; exact ⟨x, .tail _ hx, h3⟩
  · have h3 := h.inst x0 (.head _); exact (hne h3 (by simp)).trans h3
  · exact fun e => hnd.1 (List.mem_append.2 (.inl e))
  · exact fun e => hnd.1 (List.mem_append.2 (.inr e))
end

end Go.Proofs.Qxb6617448a
