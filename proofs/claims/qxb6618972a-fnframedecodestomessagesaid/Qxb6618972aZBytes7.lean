import Derived.Test.Qxb6618972aZBytes
namespace Go.Proofs.Qxb6618972a
open Go.RowKit

set_option maxRecDepth 20000 in
set_option maxHeartbeats 2000000 in
/-- (27) zzBytes -/
theorem zzBytes27 (m : M20) (ve dv : Value) (ba : Option Addr) (nb bc : Nat) (w : World) (hd : Reads w dv (byts m.data)) (hE : EIn w ve m.es) :
    Calls Try.prog 27 #[.slice ba nb bc, .agg (mcells m ve dv)] w (ZBPost w nb m) := by
  obtain ⟨ea, ec, rfl⟩ : ∃ a c, ve = .slice a m.es.length c := by obtain ⟨a, c, h, _⟩ := hE; exact ⟨a, c, h⟩
  obtain ⟨da, dc, hde⟩ := hd.form
  rw [byts_len] at hde
  subst hde
  go_enter Try.func27, Try.ntmps27
  go_upto_region 1 with fail
  change Code.wp Try.prog _ _ _ (w.alloc (.cells (mcells m (.slice ea m.es.length ec) (.slice da m.data.length dc)) 48))
  have hb0 : (w.alloc (.cells (mcells m (.slice ea m.es.length ec) (.slice da m.data.length dc)) 48)).heap[w.heap.size]? = some (.cells (mcells m (.slice ea m.es.length ec) (.slice da m.data.length dc)) 48 (0, 0)) := heap_alloc_new w _
  have hB0 : Below w.heap.size w (w.alloc (.cells (mcells m (.slice ea m.es.length ec) (.slice da m.data.length dc)) 48)) := (Below.refl _ _).alloc (Nat.le_refl _) _
  generalize w.alloc (.cells (mcells m (.slice ea m.es.length ec) (.slice da m.data.length dc)) 48) = w0 at *
  have q18 : w0.cell? ⟨w.heap.size, 18, none⟩ = some (.slice da m.data.length dc) := by rw [cell_of_row _ _ 18 _ _ _ hb0]; rfl
  have q12 : w0.cell? ⟨w.heap.size, 12, none⟩ = some (.slice ea m.es.length ec) := by rw [cell_of_row _ _ 12 _ _ _ hb0]; rfl
  have hno : ∀ (n : Nat), ZBPost w nb m (.returned (.bool false)) w0 := fun _ => ⟨hB0, false, rfl, fun h => by cases h⟩
  by_cases h1 : nb ≤ 1048576
  case neg =>
    have h1' : 1048576 < nb := by omega
    go_wp2
    go_ret
    exact hno 0
  by_cases h2 : m.es.length ≤ 1048576
  case neg =>
    have h2' : 1048576 < m.es.length := by omega
    go_wp2
    go_ret
    exact hno 0
  by_cases h3 : nb + m.es.length ≤ 1048576
  case neg =>
    have h3' : 1048576 < nb + m.es.length := by omega
    go_wp2
    go_ret
    exact hno 0
  go_upto_region 13 with fail
  go_loop [5, 6] (fun n i => ∃ (t k : Nat), k ≤ m.es.length ∧ t ≤ 1048576 ∧ n = .int .i64 t ∧ i = .int .i64 k ∧ ∀ i (h : i < m.es.length), i < k → m.es[i].data.length ≤ 1048576) (fun _ i => m.es.length - (intOf i).toNat)
  case atStart => exact ⟨nb + m.es.length, 0, Nat.zero_le _, h3, by go_num, rfl, fun i _ h => by omega⟩
  case round =>
    obtain ⟨t, k, hk, ht, rfl, rfl, hall⟩ := hrel
    by_cases hlt : k < m.es.length
    · obtain ⟨g, o, dvk, hx, e0, e1, e2, e3, hrd⟩ : ∃ g o dv, ea = some ⟨g, o, none⟩ ∧ w.cell? ⟨g, o + k * 4, none⟩ = some (.int .u64 m.es[k].ix) ∧ w.cell? ⟨g, o + k * 4 + 1, none⟩ = some (.int .u64 m.es[k].t) ∧ w.cell? ⟨g, o + k * 4 + 2, none⟩ = some (.int .u8 m.es[k].kind) ∧ w.cell? ⟨g, o + k * 4 + 3, none⟩ = some dv ∧ Reads w dv (byts m.es[k].data) := by
        obtain ⟨a, c, h1, _, h3⟩ := hE
        simp only [Value.slice.injEq] at h1
        obtain ⟨rfl, _, rfl⟩ := h1
        exact h3 k hlt
      obtain rfl := hx
      have hgw : g < w.heap.size := World.block_lt_of_cell? _ _ e0
      obtain ⟨sa, sc, hsv⟩ := hrd.form
      rw [byts_len] at hsv
      subst hsv
      have hgr : ∀ o', w0.cell? ⟨g, o', none⟩ = w.cell? ⟨g, o', none⟩ := fun o' => hB0.cell (p := ⟨g, o', none⟩) hgw
      rw [← hgr] at e3
      have hall2 : m.es[k].data.length ≤ 1048576 → ∀ i (h : i < m.es.length), i < k + 1 → m.es[i].data.length ≤ 1048576 := fun hd i h hi => by
        by_cases hik : i < k
        · exact hall i h hik
        · obtain rfl : i = k := by omega
          exact hd
      generalize m.es[k].data.length = dn at *
      clear e0 e1 e2 hgr hrd
      by_cases h4 : dn ≤ 1048576
      case neg =>
        have h4' : 1048576 < dn := by omega
        go_wp2
        go_ret
        exact hno 0
      by_cases h5 : t + dn ≤ 1048576
      case neg =>
        have h5' : 1048576 < t + dn := by omega
        go_wp2
        go_ret
        exact hno 0
      go_wp2
      go_round
      case rel => exact ⟨t + dn, k + 1, by omega, h5, by go_num, by go_num, hall2 h4⟩
      case measure => simp [intOf]; omega
    · obtain rfl : k = m.es.length := by omega
      by_cases h4 : m.data.length ≤ 1048576
      case neg =>
        have h4' : 1048576 < m.data.length := by omega
        go_wp2
        go_ret
        exact hno 0
      by_cases h5 : t + m.data.length ≤ 1048576
      case neg =>
        have h5' : 1048576 < t + m.data.length := by omega
        go_wp2
        go_ret
        exact hno 0
      go_wp2
      go_ret
      exact ⟨hB0, true, rfl, fun _ => ⟨h1, h2, fun i h => hall i h h, h4⟩⟩
end Go.Proofs.Qxb6618972a
