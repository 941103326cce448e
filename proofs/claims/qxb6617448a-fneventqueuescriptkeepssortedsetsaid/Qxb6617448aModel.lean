/- The model: a slice with room, grown and shifted in place (seat b6617448a). -/
import Derived.Test.Qxb6617448aSearch
import Derived.Test.Qxb6617448aQHas
import Derived.Test.Qxb6617448aQRem
import Derived.Laws.CopyOwn
namespace Go.Proofs.Qxb6617448a
open Go.RowKit

theorem QS.keptLow {N B : Nat} {w w' : World} {hp : List Elt} {sp : List Nat} {S : Nat → Prop} (h : QS N w B hp sp) (hk : Kept S w w') (hS : ∀ k, S k → k < N) : QS N w' B hp sp := by
  obtain ⟨hv, mv, sv, f, hR, hm, hap, hh⟩ := h
  exact ⟨hv, mv, sv, f, hR.kept hk (fun k hk' hb => by have := hR.ge hb; have := hS k hk'; omega), hm.of_block fun g hg => hk.block g (hm.lt g hg) (fun e => by have := (hap g hg).1; have := hS g e; omega), hap, hh⟩

/-- The block behind it. -/
theorem Mine.blk {w : World} {gm n c : Nat} {xs : List Value} (h : Mine 2 w (.slice (some ⟨gm, 0, none⟩) n c) xs) : ∃ cur, w.heap[gm]? = some (.cells cur 2 (0, 0)) ∧ n = xs.length ∧ n ≤ c ∧ c ≤ maxLen ∧ cur.size = c ∧ cur.toList.take n = xs := by
  rcases h with ⟨h1, _⟩ | ⟨g', cap, cur, h1, h2, h3, h4, h5, h6⟩
  · cases h1
  · simp only [Value.slice.injEq, Option.some.injEq, Addr.mk.injEq] at h1
    obtain ⟨⟨rfl, _⟩, h7, rfl⟩ := h1
    exact ⟨cur, h2, h7, by omega, h4, h5, by rw [h7]; exact h6⟩

theorem wpList_append_room {ops : Array Oper} {rest : List Oper} {o : Oper} {a : Act} {w : World} {Q : Exit → Act → World → Prop} (hgd : o.guard = none) (s x : Operand) (ho : o.op = .call { callee := .builtin .append, args := #[s, x], argTypes := #[22, 22] })
    {gm n c : Nat} {ms : List Int} (hv : a.eval s = .slice (some ⟨gm, 0, none⟩) n c) (hm : Mine 2 w (.slice (some ⟨gm, 0, none⟩) n c) (nums ms)) (hroom : n < c) (b : Nat) (y : Int) (hx : a.eval x = .slice (some ⟨b, 0, none⟩) 1 1) (hb : w.cell? ⟨b, 0, none⟩ = some (.int .i64 y))
    (h : ∀ w', Mine 2 w' (.slice (some ⟨gm, 0, none⟩) (n + 1) c) (nums (ms ++ [y])) → Kept (fun k => k = gm) w w' → wpList Try.prog ops Q rest (a.put o.dst (.slice (some ⟨gm, 0, none⟩) (n + 1) c)) w') : wpList Try.prog ops Q (o :: rest) a w := by
  obtain ⟨cur, h2, h3, h4, h5, h6, h7⟩ := hm.blk
  obtain ⟨i, hi, _, hsz, _⟩ := info_parts info2
  rw [nums_len] at h3
  have hr := run_append_room_any (P := Try.prog) w 22 o.type 2 i Try.underlying22 hi hsz gm n c cur 2 h2 ⟨b, 0, none⟩ 1 1 [.int .i64 y] rfl (fun j u hj => by
    have hj0 : j = 0 := by
      rcases Nat.eq_zero_or_pos j with e | e
      · exact e
      · rw [List.getElem?_eq_none (by simp; omega)] at hj; cases hj
    subst hj0
    rw [Addr.add_lit]; simp at hj; rw [← hj]; exact hb) (by simp [Value.oneCell']) (by omega) (by simp; omega)
  refine wpList_plain hgd fun K hK => ?_
  unfold Oper.wp execOp
  simp only [ho, resolve, invoke, builtin, Sem.run_bind, Sem.run_pure, Result.andThen_ok, List.map_toArray, List.map_cons, List.map_nil, hv, hx, hr]
  refine hK _ _ (h _ ?_ ⟨rfl, rfl, rfl, by simp, fun k _ hk => setRow_other w gm k _ hk⟩)
  refine .inr ⟨gm, c, _, by rw [nums_len, List.length_append, ← h3]; rfl, setRow_heap _ _ _ _ 2 _ h2, by rw [nums_len]; simp; omega, h5, ?_, ?_⟩
  · simp; omega
  · rw [h7, nums_len, List.length_append]
    have : (nums ms ++ [Value.int .i64 y]) = nums (ms ++ [y]) := by simp [nums]
    rw [this]
    exact List.take_left' (by rw [nums_len]; simp)

/-- copy within one block. -/
theorem run_copy_in (w : World) {gm n c : Nat} {ms : List Int} (hm : Mine 2 w (.slice (some ⟨gm, 0, none⟩) n c) (nums ms)) (ty : TypeId) (d s k da sa dl dc sl sc : Nat) (hk : k = min sl dl) (hds : k ≠ 0 → da = d ∧ sa = s) (hs : s + k ≤ n) (hd : d + k ≤ n) :
    ∃ w', (Builtin.copy_ #[22, 22] ty #[.slice (some ⟨gm, da, none⟩) dl dc, .slice (some ⟨gm, sa, none⟩) sl sc]).run Try.prog w = .ok (goInt k) w' ∧ Mine 2 w' (.slice (some ⟨gm, 0, none⟩) n c) (nums (ms.take d ++ ((ms.drop s).take k ++ ms.drop (d + k)))) ∧ Kept (fun b => b = gm) w w' := by
  have hsz : (Try.prog.info? 2).map (·.size) = some 1 := by kernel_rfl
  by_cases hk0 : k = 0
  · subst hk0
    have hr := run_copy_none (P := Try.prog) w 22 22 ty 2 (some ⟨gm, da, none⟩) (some ⟨gm, sa, none⟩) dl dc sl sc Try.underlying22 hsz hk.symm
    refine ⟨w, hr, ?_, Kept.refl _ _⟩
    simpa using hm
  · obtain ⟨rfl, rfl⟩ := hds hk0
    obtain ⟨cur, h2, h3, h4, h5, h6, h7⟩ := hm.blk
    rw [nums_len] at h3
    have hcl : ((ms.drop sa).take k).length = k := by simp; omega
    have hr := run_copy_row (P := Try.prog) w 22 22 ty 2 gm da dl dc ⟨gm, sa, none⟩ sl sc cur 2 (nums ((ms.drop sa).take k)) Try.underlying22 hsz h2 (by rw [nums_len, hcl, hk]) (fun j v hj => by
      have hjl := (List.getElem?_eq_some_iff.1 hj).1
      rw [nums_len, hcl] at hjl
      rw [Addr.add_lit]
      refine hm.at ?_
      rw [← hj]
      simp only [nums, List.getElem?_map, List.getElem?_take, List.getElem?_drop]
      rw [if_pos hjl]) (by rw [nums_len, hcl]; omega) (nums_one _)
    rw [nums_len, hcl] at hr
    refine ⟨_, hr, ?_, ⟨rfl, rfl, rfl, by simp, fun k _ hk => setRow_other w gm k _ hk⟩⟩
    have hlen : (ms.take da ++ ((ms.drop sa).take k ++ ms.drop (da + k))).length = n := by simp; omega
    refine .inr ⟨gm, c, _, by rw [nums_len, hlen], setRow_heap _ _ _ _ 2 _ h2, by rw [nums_len, hlen]; exact h4, h5, ?_, ?_⟩
    · simp [nums_len]; omega
    · rw [nums_len, hlen]
      have hcur : cur.toList = nums ms ++ cur.toList.drop n := by rw [← h7]; exact (List.take_append_drop n _).symm
      have e1 : cur.toList.take da = nums (ms.take da) := by
        rw [hcur, List.take_append_of_le_length (by rw [nums_len]; omega)]; simp [nums, List.map_take]
      have e2 : cur.toList.drop (da + k) = nums (ms.drop (da + k)) ++ cur.toList.drop n := by
        conv => lhs; rw [hcur]
        rw [List.drop_append_of_le_length (by rw [nums_len]; omega)]; simp [nums, List.map_drop]
      rw [e1, e2]
      have e3 : nums (ms.take da) ++ nums ((ms.drop sa).take k) ++ (nums (ms.drop (da + k)) ++ cur.toList.drop n) = nums (ms.take da ++ ((ms.drop sa).take k ++ ms.drop (da + k))) ++ cur.toList.drop n := by simp [nums]
      rw [e3]
      exact List.take_left' (by rw [nums_len, hlen])

theorem wpList_copy_in {ops : Array Oper} {rest : List Oper} {o : Oper} {a : Act} {w : World} {Q : Exit → Act → World → Prop} (hgd : o.guard = none) (x y : Operand) (ho : o.op = .call { callee := .builtin .copy, args := #[x, y], argTypes := #[22, 22] })
    {gm n c : Nat} {ms : List Int} (hm : Mine 2 w (.slice (some ⟨gm, 0, none⟩) n c) (nums ms)) (d s k da sa dl dc sl sc : Nat) (hx : a.eval x = .slice (some ⟨gm, da, none⟩) dl dc) (hy : a.eval y = .slice (some ⟨gm, sa, none⟩) sl sc) (hk : k = min sl dl) (hds : k ≠ 0 → da = d ∧ sa = s) (hs : s + k ≤ n) (hd : d + k ≤ n)
    (h : ∀ w', Mine 2 w' (.slice (some ⟨gm, 0, none⟩) n c) (nums (ms.take d ++ ((ms.drop s).take k ++ ms.drop (d + k)))) → Kept (fun b => b = gm) w w' → wpList Try.prog ops Q rest (a.put o.dst (goInt k)) w') : wpList Try.prog ops Q (o :: rest) a w := by
  obtain ⟨w', hr, h1, h2⟩ := run_copy_in w hm o.type d s k da sa dl dc sl sc hk hds hs hd
  refine wpList_plain hgd fun K hK => ?_
  unfold Oper.wp execOp
  simp only [ho, resolve, invoke, builtin, Sem.run_bind, Sem.run_pure, Result.andThen_ok, List.map_toArray, List.map_cons, List.map_nil, hx, hy, hr]
  exact hK _ _ (h w' h1 h2)
theorem wp_copy_in {o : Oper} {a : Act} {w : World} {K : Act → World → Prop} {Q : Exit → Act → World → Prop} (x y : Operand) (ho : o.op = .call { callee := .builtin .copy, args := #[x, y], argTypes := #[22, 22] })
    {gm n c : Nat} {ms : List Int} (hm : Mine 2 w (.slice (some ⟨gm, 0, none⟩) n c) (nums ms)) (d s k da sa dl dc sl sc : Nat) (hx : a.eval x = .slice (some ⟨gm, da, none⟩) dl dc) (hy : a.eval y = .slice (some ⟨gm, sa, none⟩) sl sc) (hk : k = min sl dl) (hds : k ≠ 0 → da = d ∧ sa = s) (hs : s + k ≤ n) (hd : d + k ≤ n)
    (h : ∀ w', Mine 2 w' (.slice (some ⟨gm, 0, none⟩) n c) (nums (ms.take d ++ ((ms.drop s).take k ++ ms.drop (d + k)))) → Kept (fun b => b = gm) w w' → K (a.put o.dst (goInt k)) w') : o.wp Try.prog a w K Q := by
  obtain ⟨w', hr, h1, h2⟩ := run_copy_in w hm o.type d s k da sa dl dc sl sc hk hds hs hd
  unfold Oper.wp execOp
  simp only [ho, resolve, invoke, builtin, Sem.run_bind, Sem.run_pure, Result.andThen_ok, List.map_toArray, List.map_cons, List.map_nil, hx, hy, hr]
  exact h w' h1 h2

/-! ### the model's lists -/
theorem Rise.tail {x : Int} {t : List Int} (h : Rise (x :: t)) : Rise t := fun i j hij hj => by
  have := h (i + 1) (j + 1) (by omega) (by simpa using hj)
  simpa [fn] using this
theorem Rise.nodup {ms : List Int} (h : Rise ms) : ms.Nodup := by
  rw [List.Nodup, List.pairwise_iff_getElem]
  intro i j hi hj hij e
  have := h i j hij hj
  simp only [fn, List.getD_eq_getElem?_getD, List.getElem?_eq_getElem hi, List.getElem?_eq_getElem hj, Option.getD_some] at this
  omega

/-- t at its place. -/
def ins (ms : List Int) (p : Nat) (t : Int) : List Int := ms.take p ++ t :: ms.drop p
theorem ins_perm (ms : List Int) (p : Nat) (t : Int) : (ins ms p t).Perm (ms ++ [t]) := by
  have h : (ins ms p t).Perm (t :: (ms.take p ++ ms.drop p)) := List.perm_middle
  rw [List.take_append_drop] at h
  exact h.trans (List.perm_append_comm (l₁ := [t]))
theorem ins_len {ms : List Int} {p : Nat} (t : Int) (h : p ≤ ms.length) : (ins ms p t).length = ms.length + 1 := by simp [ins]; omega
theorem fn_ins {ms : List Int} {p : Nat} (t : Int) (h : p ≤ ms.length) (x : Nat) : fn (ins ms p t) x = if x < p then fn ms x else if x = p then t else fn ms (x - 1) := by
  unfold fn ins
  simp only [List.getD_eq_getElem?_getD]
  have hlt : (ms.take p).length = p := by simp; omega
  by_cases h1 : x < p
  · rw [if_pos h1, List.getElem?_append_left (by omega), List.getElem?_take_of_lt h1]
  · rw [if_neg h1, List.getElem?_append_right (by omega), hlt]
    by_cases h2 : x = p
    · subst h2; simp
    · rw [if_neg h2, show x - p = (x - p - 1) + 1 by omega, List.getElem?_cons_succ, List.getElem?_drop, show p + (x - p - 1) = x - 1 by omega]
theorem ins_rise {ms : List Int} {p : Nat} {t : Int} (h : Rise ms) (hp : Spot ms t p) (ht : t ∉ ms) : Rise (ins ms p t) := by
  have hple := hp.le
  intro x y hxy hy
  rw [ins_len t hp.le] at hy
  rw [fn_ins t hp.le, fn_ins t hp.le]
  have hgt : ∀ x, p ≤ x → x < ms.length → t < fn ms x := fun x h1 h2 => by
    have h3 := hp.hi x h1 h2
    have h4 : fn ms x ≠ t := fun e => ht (by rw [← e]; simp [fn, List.getD_eq_getElem?_getD, h2])
    omega
  split
  · split
    · exact h x y hxy (by omega)
    · split
      · exact hp.lo x (by omega)
      · have h1 := hp.lo x (by omega)
        have h2 := hgt (y - 1) (by omega) (by omega)
        omega
  · split
    · rw [if_neg (by omega), if_neg (by omega)]
      exact hgt (y - 1) (by omega) (by omega)
    · rw [if_neg (by omega), if_neg (by omega)]
      exact h (x - 1) (y - 1) (by omega) (by omega)
/-- .. as the program makes it. -/
theorem ins_made {ms : List Int} {p : Nat} (t : Int) (h : p ≤ ms.length) : (((ms ++ [0]).take (p + 1) ++ (((ms ++ [0]).drop p).take (ms.length - p) ++ (ms ++ [0]).drop (p + 1 + (ms.length - p)))).set p t) = ins ms p t := by
  apply List.ext_getElem?
  intro j
  have hl1 : ((ms ++ [0]).take (p + 1)).length = p + 1 := by simp; omega
  have hd : (ms ++ [0]).drop (p + 1 + (ms.length - p)) = [] := List.drop_eq_nil_of_le (by simp; omega)
  have hdt : ((ms ++ [0]).drop p).take (ms.length - p) = ms.drop p := by
    rw [List.drop_append_of_le_length h]
    exact List.take_left' (by simp)
  rw [hd, hdt, List.append_nil, List.getElem?_set]
  have hlt : (ms.take p).length = p := by simp; omega
  unfold ins
  by_cases h1 : p = j
  · subst h1
    rw [if_pos rfl, if_pos (by simp; omega), List.getElem?_append_right (by omega), hlt]; simp
  · rw [if_neg h1]
    by_cases h2 : j < p
    · rw [List.getElem?_append_left (by omega), List.getElem?_append_left (by omega), List.getElem?_take_of_lt (by omega), List.getElem?_take_of_lt h2, List.getElem?_append_left (by omega)]
    · rw [List.getElem?_append_right (by omega), List.getElem?_append_right (by omega), hl1, hlt, show j - p = (j - (p + 1)) + 1 by omega, List.getElem?_cons_succ]
end Go.Proofs.Qxb6617448a
