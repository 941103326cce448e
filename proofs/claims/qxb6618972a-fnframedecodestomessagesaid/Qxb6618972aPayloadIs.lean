import Derived.Test.Qxb6618972aBuild
import Derived.Test.Qxb6618972aReaders
namespace Go.Proofs.Qxb6618972a
open Go.RowKit

theorem fieldsB_none (m : M20) (h1 : m.kind ≠ 1) (h2 : m.kind ≠ 2) (h3 : m.kind ≠ 3) (h4 : m.kind ≠ 4) (h5 : m.kind ≠ 5) (h6 : m.kind ≠ 6) (h7 : m.kind ≠ 7) : fieldsB m = [] := by
  unfold fieldsB; split <;> simp_all

/-- The entries es can be read behind ve. -/
def EIn2 (w : World) (ve : Value) (es : List Entry4) : Prop :=
  ∃ a c, ve = .slice a es.length c ∧ ∀ i (h : i < es.length), ∃ g o dv, a = some ⟨g, o, none⟩ ∧
    w.cell? ⟨g, o + i * 4, none⟩ = some (.int .u64 es[i].ix) ∧ w.cell? ⟨g, o + i * 4 + 1, none⟩ = some (.int .u64 es[i].t) ∧ w.cell? ⟨g, o + i * 4 + 2, none⟩ = some (.int .u8 es[i].kind) ∧ w.cell? ⟨g, o + i * 4 + 3, none⟩ = some dv ∧
    Reads w dv (byts es[i].data)
theorem EIn2.cap {w : World} {ve : Value} {es : List Entry4} (h : EIn2 w ve es) : ∃ a c, ve = .slice a es.length c := by obtain ⟨a, c, h, _⟩ := h; exact ⟨a, c, h⟩
theorem EIn2.get {w : World} {ea : Option Addr} {n ec : Nat} {es : List Entry4} (hE : EIn2 w (.slice ea n ec) es) {k : Nat} (hlt : k < es.length) : ∃ g o sa sc, ea = some ⟨g, o, none⟩ ∧ w.cell? ⟨g, o + k * 4, none⟩ = some (.int .u64 es[k].ix) ∧ w.cell? ⟨g, o + k * 4 + 1, none⟩ = some (.int .u64 es[k].t) ∧ w.cell? ⟨g, o + k * 4 + 2, none⟩ = some (.int .u8 es[k].kind) ∧ w.cell? ⟨g, o + k * 4 + 3, none⟩ = some (.slice sa es[k].data.length sc) ∧ Reads w (.slice sa es[k].data.length sc) (byts es[k].data) := by
  obtain ⟨a, c, h1, h3⟩ := hE
  simp only [Value.slice.injEq] at h1
  obtain ⟨rfl, _, rfl⟩ := h1
  obtain ⟨g, o, dv, ha, e0, e1, e2, e3, hr⟩ := h3 k hlt
  obtain ⟨sa, sc, hsv⟩ := hr.form
  rw [byts_len] at hsv
  subst hsv
  exact ⟨g, o, sa, sc, ha, e0, e1, e2, e3, hr⟩
theorem EIn2.below {w w' : World} {ve : Value} {es : List Entry4} (h : EIn2 w ve es) (hb : Below w.heap.size w w') : EIn2 w' ve es := by
  obtain ⟨a, c, hv, h⟩ := h
  refine ⟨a, c, hv, fun i hi => ?_⟩
  obtain ⟨g, o, dv, ha, e0, e1, e2, e3, hr⟩ := h i hi
  have hg : g < w.heap.size := World.block_lt_of_cell? _ _ e0
  have hcell : ∀ o', w'.cell? ⟨g, o', none⟩ = w.cell? ⟨g, o', none⟩ := fun o' => hb.cell (p := ⟨g, o', none⟩) hg
  exact ⟨g, o, dv, ha, (hcell _).trans e0, (hcell _).trans e1, (hcell _).trans e2, (hcell _).trans e3, hr.below hb⟩
theorem EAt.in2 {F : Nat → Prop} {w : World} {ve : Value} {es : List Entry4} (h : EAt F w ve es) : EIn2 w ve es := by
  obtain ⟨a, c, hv, h⟩ := h
  refine ⟨a, c, hv, fun i hi => ?_⟩
  obtain ⟨g, dv, ha, _, e0, e1, e2, e3, hr⟩ := h i hi
  exact ⟨g, 0, dv, ha, by rw [Nat.zero_add]; exact e0, by rw [Nat.zero_add]; exact e1, by rw [Nat.zero_add]; exact e2, by rw [Nat.zero_add]; exact e3, hr.1⟩

theorem entsBytes_drop (es : List Entry4) (i : Nat) (h : i < es.length) : entsBytes (es.drop i) = uv (17 + es[i].data.length) ++ (le8 es[i].ix ++ (le8 es[i].t ++ ([(es[i].kind : Int)] ++ (es[i].data ++ entsBytes (es.drop (i + 1)))))) := by
  have e : es.drop i = es[i] :: es.drop (i + 1) := List.drop_eq_getElem_cons h
  rw [e]
  simp only [entsBytes, entBytes, List.flatMap_cons, List.append_assoc]

/-- The answer is yes, and what stood stands. -/
def YPost (w : World) (e : Ending) (w' : World) : Prop := e = .returned (.bool true) ∧ Below w.heap.size w w'

set_option maxRecDepth 20000 in
set_option maxHeartbeats 4000000 in
/-- (33) zzPayloadIs, at a message's own payload. -/
theorem payloadIs (m : M20) (ve dv v : Value) (w : World) (hr0 : Reads w v (byts (payload m))) (hE0 : EIn2 w ve m.es) (hD0 : Reads w dv (byts m.data)) (hn : MNum m) (hb : m.data.length ≤ 1048576) (hne : m.es.length ≤ 1048576) (hbe : ∀ i (h : i < m.es.length), m.es[i].data.length ≤ 1048576) (hm0 : (payload m).length ≤ 1000000000) :
    Calls Try.prog 33 #[v, .agg (mcells m ve dv)] w (YPost w) := by
  obtain ⟨ea, ec, rfl⟩ := hE0.cap
  obtain ⟨da, dc, hde⟩ := hD0.form
  rw [byts_len] at hde
  subst hde
  obtain ⟨pa, pc, hpe⟩ := hr0.form
  rw [byts_len] at hpe
  subst hpe
  have hA0 := Rest.start (payload m)
  have hpay : payload m = [(m.kind : Int)] ++ (uv m.from_ ++ (uv m.to_ ++ (uv m.term ++ (uv m.cluster ++ fieldsB m)))) := by simp [payload]
  obtain ⟨ds, hds⟩ : ∃ ds, payload m = ds := ⟨_, rfl⟩
  rw [hds] at hr0 hA0 hm0 ⊢
  have hA : Rest ds 0 ([(m.kind : Int)] ++ (uv m.from_ ++ (uv m.to_ ++ (uv m.term ++ (uv m.cluster ++ fieldsB m))))) := by rw [← hpay, hds]; exact hA0
  have hm := hm0
  clear hA0 hpay hds hm0
  go_enter Try.func33, Try.ntmps33
  go_upto_region 1 with fail
  change Code.wp Try.prog _ _ _ (w.alloc (.cells (mcells m (.slice ea m.es.length ec) (.slice da m.data.length dc)) 48))
  have hbx : (w.alloc (.cells (mcells m (.slice ea m.es.length ec) (.slice da m.data.length dc)) 48)).heap[w.heap.size]? = some (.cells (mcells m (.slice ea m.es.length ec) (.slice da m.data.length dc)) 48 (0, 0)) := heap_alloc_new w _
  have hB : Below w.heap.size w (w.alloc (.cells (mcells m (.slice ea m.es.length ec) (.slice da m.data.length dc)) 48)) := (Below.refl _ _).alloc (Nat.le_refl _) _
  have hz : w.heap.size < (w.alloc (.cells (mcells m (.slice ea m.es.length ec) (.slice da m.data.length dc)) 48)).heap.size := by simp
  generalize w.alloc (.cells (mcells m (.slice ea m.es.length ec) (.slice da m.data.length dc)) 48) = w0 at *
  have hr := hr0.below hB
  have hE := hE0.below hB
  have hD := hD0.below hB
  clear hr0 hE0 hD0
  have hcell : ∀ o, w0.cell? ⟨w.heap.size, o, none⟩ = (mcells m (.slice ea m.es.length ec) (.slice da m.data.length dc))[o]? := fun o => cell_of_row _ _ o _ _ _ hbx
  have q0 : w0.cell? ⟨w.heap.size, 0, none⟩ = some (.int .u8 m.kind) := hcell 0
  have q1 : w0.cell? ⟨w.heap.size, 1, none⟩ = some (.int .u64 m.from_) := hcell 1
  have q2 : w0.cell? ⟨w.heap.size, 2, none⟩ = some (.int .u64 m.to_) := hcell 2
  have q3 : w0.cell? ⟨w.heap.size, 3, none⟩ = some (.int .u64 m.term) := hcell 3
  have q4 : w0.cell? ⟨w.heap.size, 4, none⟩ = some (.int .u64 m.cluster) := hcell 4
  have q5 : w0.cell? ⟨w.heap.size, 5, none⟩ = some (.int .u64 m.li) := hcell 5
  have q6 : w0.cell? ⟨w.heap.size, 6, none⟩ = some (.int .u64 m.lt) := hcell 6
  have q7 : w0.cell? ⟨w.heap.size, 7, none⟩ = some (.bool m.granted) := hcell 7
  have q8 : w0.cell? ⟨w.heap.size, 8, none⟩ = some (.bool m.pre) := hcell 8
  have q9 : w0.cell? ⟨w.heap.size, 9, none⟩ = some (.bool m.transfer) := hcell 9
  have q10 : w0.cell? ⟨w.heap.size, 10, none⟩ = some (.int .u64 m.pi) := hcell 10
  have q11 : w0.cell? ⟨w.heap.size, 11, none⟩ = some (.int .u64 m.pt) := hcell 11
  have q12 : w0.cell? ⟨w.heap.size, 12, none⟩ = some (.slice ea m.es.length ec) := hcell 12
  have q13 : w0.cell? ⟨w.heap.size, 13, none⟩ = some (.int .u64 m.commit) := hcell 13
  have q14 : w0.cell? ⟨w.heap.size, 14, none⟩ = some (.int .u64 m.round) := hcell 14
  have q15 : w0.cell? ⟨w.heap.size, 15, none⟩ = some (.bool m.success) := hcell 15
  have q16 : w0.cell? ⟨w.heap.size, 16, none⟩ = some (.int .u64 m.index) := hcell 16
  have q17 : w0.cell? ⟨w.heap.size, 17, none⟩ = some (.int .u64 m.offset) := hcell 17
  have q18 : w0.cell? ⟨w.heap.size, 18, none⟩ = some (.slice da m.data.length dc) := hcell 18
  have q19 : w0.cell? ⟨w.heap.size, 19, none⟩ = some (.bool m.done) := hcell 19
  clear hcell hbx
  have hby : Calls Try.prog 39 #[.slice pa ds.length pc, .int .i64 0, .int .u8 m.kind] w0 (NPost0 w0 (0 + 1)) := zzByte _ ds 0 m.kind w0 hr hm hA.left
  go_wp2_with fail
  refine hby.mono ?_
  rintro e w' ⟨rfl, hw⟩
  replace hw := hw.symm
  subst hw
  replace hA := hA.right
  clear hby
  obtain ⟨k, hk⟩ : ∃ k : Nat, 0 + 1 = k := ⟨_, rfl⟩
  rw [show [(m.kind : Int)].length = 1 from rfl] at hA
  rw [hk] at hA ⊢
  clear hk
  go_wp2_with fail
  refine (zzU _ ds k m.from_ _ hr hm hA.left hn.from_).mono ?_
  rintro e w' ⟨rfl, hw⟩
  replace hw := hw.symm
  subst hw
  replace hA := hA.right
  generalize k + (uv m.from_).length = k1 at *
  go_wp2_with fail
  refine (zzU _ ds k1 m.to_ _ hr hm hA.left hn.to_).mono ?_
  rintro e w' ⟨rfl, hw⟩
  replace hw := hw.symm
  subst hw
  replace hA := hA.right
  generalize k1 + (uv m.to_).length = k2 at *
  go_wp2_with fail
  refine (zzU _ ds k2 m.term _ hr hm hA.left hn.term).mono ?_
  rintro e w' ⟨rfl, hw⟩
  replace hw := hw.symm
  subst hw
  replace hA := hA.right
  generalize k2 + (uv m.term).length = k3 at *
  go_wp2_with fail
  refine (zzU _ ds k3 m.cluster _ hr hm hA.left hn.cluster).mono ?_
  rintro e w' ⟨rfl, hw⟩
  replace hw := hw.symm
  subst hw
  replace hA := hA.right
  generalize k3 + (uv m.cluster).length = k4 at *
  by_cases hk1 : m.kind = 1
  · have hF : fieldsB m = uv (flagN m.pre) ++ (uv m.li ++ (uv m.lt ++ (uv (flagN m.transfer) ++ ([] : List Int)))) := by simp [fieldsB, hk1]
    rw [hF] at hA
    clear hF
    go_wp2_with fail
    refine (zzFlag _ ds k4 m.pre _ hr hm hA.left).mono ?_
    rintro e w' ⟨rfl, hw⟩
    replace hw := hw.symm
    subst hw
    replace hA := hA.right
    generalize k4 + (uv (flagN m.pre)).length = k5 at *
    go_wp2_with fail
    refine (zzU _ ds k5 m.li _ hr hm hA.left hn.li).mono ?_
    rintro e w' ⟨rfl, hw⟩
    replace hw := hw.symm
    subst hw
    replace hA := hA.right
    generalize k5 + (uv m.li).length = k6 at *
    go_wp2_with fail
    refine (zzU _ ds k6 m.lt _ hr hm hA.left hn.lt).mono ?_
    rintro e w' ⟨rfl, hw⟩
    replace hw := hw.symm
    subst hw
    replace hA := hA.right
    generalize k6 + (uv m.lt).length = k7 at *
    go_wp2_with fail
    refine (zzFlag _ ds k7 m.transfer _ hr hm hA.left).mono ?_
    rintro e w' ⟨rfl, hw⟩
    replace hw := hw.symm
    subst hw
    replace hA := hA.right
    generalize k7 + (uv (flagN m.transfer)).length = k8 at *
    have hkk := hA.last
    obtain rfl : k8 = ds.length := by simpa using hkk
    have hpos : decide ((0 : Int) ≤ (ds.length : Int)) = true := by simp
    clear hkk hA
    go_wp2
    go_ret
    exact ⟨by simp, hB⟩
  by_cases hk2 : m.kind = 2
  · have hF : fieldsB m = uv (flagN m.pre) ++ (uv (flagN m.granted) ++ ([] : List Int)) := by simp [fieldsB, hk2]
    rw [hF] at hA
    clear hF
    go_wp2_with fail
    refine (zzFlag _ ds k4 m.pre _ hr hm hA.left).mono ?_
    rintro e w' ⟨rfl, hw⟩
    replace hw := hw.symm
    subst hw
    replace hA := hA.right
    generalize k4 + (uv (flagN m.pre)).length = k5 at *
    go_wp2_with fail
    refine (zzFlag _ ds k5 m.granted _ hr hm hA.left).mono ?_
    rintro e w' ⟨rfl, hw⟩
    replace hw := hw.symm
    subst hw
    replace hA := hA.right
    generalize k5 + (uv (flagN m.granted)).length = k6 at *
    have hkk := hA.last
    obtain rfl : k6 = ds.length := by simpa using hkk
    have hpos : decide ((0 : Int) ≤ (ds.length : Int)) = true := by simp
    clear hkk hA
    go_wp2
    go_ret
    exact ⟨by simp, hB⟩
  by_cases hk4 : m.kind = 4
  · have hF : fieldsB m = uv (flagN m.success) ++ (uv m.index ++ (uv m.round ++ ([] : List Int))) := by simp [fieldsB, hk4]
    rw [hF] at hA
    clear hF
    go_wp2_with fail
    refine (zzFlag _ ds k4 m.success _ hr hm hA.left).mono ?_
    rintro e w' ⟨rfl, hw⟩
    replace hw := hw.symm
    subst hw
    replace hA := hA.right
    generalize k4 + (uv (flagN m.success)).length = k5 at *
    go_wp2_with fail
    refine (zzU _ ds k5 m.index _ hr hm hA.left hn.index).mono ?_
    rintro e w' ⟨rfl, hw⟩
    replace hw := hw.symm
    subst hw
    replace hA := hA.right
    generalize k5 + (uv m.index).length = k6 at *
    go_wp2_with fail
    refine (zzU _ ds k6 m.round _ hr hm hA.left hn.round).mono ?_
    rintro e w' ⟨rfl, hw⟩
    replace hw := hw.symm
    subst hw
    replace hA := hA.right
    generalize k6 + (uv m.round).length = k7 at *
    have hkk := hA.last
    obtain rfl : k7 = ds.length := by simpa using hkk
    have hpos : decide ((0 : Int) ≤ (ds.length : Int)) = true := by simp
    clear hkk hA
    go_wp2
    go_ret
    exact ⟨by simp, hB⟩
  by_cases hk6 : m.kind = 6
  · have hF : fieldsB m = uv m.li ++ (uv m.lt ++ (uv m.offset ++ (uv (flagN m.success) ++ (uv (flagN m.done) ++ ([] : List Int))))) := by simp [fieldsB, hk6]
    rw [hF] at hA
    clear hF
    go_wp2_with fail
    refine (zzU _ ds k4 m.li _ hr hm hA.left hn.li).mono ?_
    rintro e w' ⟨rfl, hw⟩
    replace hw := hw.symm
    subst hw
    replace hA := hA.right
    generalize k4 + (uv m.li).length = k5 at *
    go_wp2_with fail
    refine (zzU _ ds k5 m.lt _ hr hm hA.left hn.lt).mono ?_
    rintro e w' ⟨rfl, hw⟩
    replace hw := hw.symm
    subst hw
    replace hA := hA.right
    generalize k5 + (uv m.lt).length = k6 at *
    go_wp2_with fail
    refine (zzU _ ds k6 m.offset _ hr hm hA.left hn.offset).mono ?_
    rintro e w' ⟨rfl, hw⟩
    replace hw := hw.symm
    subst hw
    replace hA := hA.right
    generalize k6 + (uv m.offset).length = k7 at *
    go_wp2_with fail
    refine (zzFlag _ ds k7 m.success _ hr hm hA.left).mono ?_
    rintro e w' ⟨rfl, hw⟩
    replace hw := hw.symm
    subst hw
    replace hA := hA.right
    generalize k7 + (uv (flagN m.success)).length = k8 at *
    go_wp2_with fail
    refine (zzFlag _ ds k8 m.done _ hr hm hA.left).mono ?_
    rintro e w' ⟨rfl, hw⟩
    replace hw := hw.symm
    subst hw
    replace hA := hA.right
    generalize k8 + (uv (flagN m.done)).length = k9 at *
    have hkk := hA.last
    obtain rfl : k9 = ds.length := by simpa using hkk
    have hpos : decide ((0 : Int) ≤ (ds.length : Int)) = true := by simp
    clear hkk hA
    go_wp2
    go_ret
    exact ⟨by simp, hB⟩
  by_cases hk7 : m.kind = 7
  · have hF : fieldsB m = uv m.li ++ (uv m.lt ++ ([] : List Int)) := by simp [fieldsB, hk7]
    rw [hF] at hA
    clear hF
    go_wp2_with fail
    refine (zzU _ ds k4 m.li _ hr hm hA.left hn.li).mono ?_
    rintro e w' ⟨rfl, hw⟩
    replace hw := hw.symm
    subst hw
    replace hA := hA.right
    generalize k4 + (uv m.li).length = k5 at *
    go_wp2_with fail
    refine (zzU _ ds k5 m.lt _ hr hm hA.left hn.lt).mono ?_
    rintro e w' ⟨rfl, hw⟩
    replace hw := hw.symm
    subst hw
    replace hA := hA.right
    generalize k5 + (uv m.lt).length = k6 at *
    have hkk := hA.last
    obtain rfl : k6 = ds.length := by simpa using hkk
    have hpos : decide ((0 : Int) ≤ (ds.length : Int)) = true := by simp
    clear hkk hA
    go_wp2
    go_ret
    exact ⟨by simp, hB⟩
  by_cases hk5 : m.kind = 5
  · have hF : fieldsB m = uv m.li ++ (uv m.lt ++ (uv m.offset ++ (uv (flagN m.done) ++ (uv m.data.length ++ (m.data ++ ([] : List Int)))))) := by simp [fieldsB, hk5]
    rw [hF] at hA
    clear hF
    go_wp2_with fail
    refine (zzU _ ds k4 m.li _ hr hm hA.left hn.li).mono ?_
    rintro e w' ⟨rfl, hw⟩
    replace hw := hw.symm
    subst hw
    replace hA := hA.right
    generalize k4 + (uv m.li).length = k5 at *
    go_wp2_with fail
    refine (zzU _ ds k5 m.lt _ hr hm hA.left hn.lt).mono ?_
    rintro e w' ⟨rfl, hw⟩
    replace hw := hw.symm
    subst hw
    replace hA := hA.right
    generalize k5 + (uv m.lt).length = k6 at *
    go_wp2_with fail
    refine (zzU _ ds k6 m.offset _ hr hm hA.left hn.offset).mono ?_
    rintro e w' ⟨rfl, hw⟩
    replace hw := hw.symm
    subst hw
    replace hA := hA.right
    generalize k6 + (uv m.offset).length = k7 at *
    go_wp2_with fail
    refine (zzFlag _ ds k7 m.done _ hr hm hA.left).mono ?_
    rintro e w' ⟨rfl, hw⟩
    replace hw := hw.symm
    subst hw
    replace hA := hA.right
    generalize k7 + (uv (flagN m.done)).length = k8 at *
    go_wp2_with fail
    refine (zzU _ ds k8 m.data.length _ hr hm hA.left (by omega)).mono ?_
    rintro e w' ⟨rfl, hw⟩
    replace hw := hw.symm
    subst hw
    replace hA := hA.right
    generalize k8 + (uv m.data.length).length = k9 at *
    go_wp2_with fail
    refine (zzRaw _ _ ds m.data k9 _ hr hD hm hA.1 hA.left).mono ?_
    rintro e w' ⟨rfl, nn, hw'⟩
    replace hA := hA.right
    have hB' : Below w.heap.size w w' := by rw [hw']; exact ⟨hB.os, hB.tape, hB.output, hB.size, hB.block⟩
    clear hw' hB
    have hB := hB'
    generalize k9 + m.data.length = k10 at *
    have hkk := hA.last
    obtain rfl : k10 = ds.length := by simpa using hkk
    have hpos : decide ((0 : Int) ≤ (ds.length : Int)) = true := by simp
    clear hkk hA
    go_wp2
    go_ret
    exact ⟨by simp, hB⟩
  by_cases hk3 : m.kind = 3
  · have hF : fieldsB m = uv m.pi ++ (uv m.pt ++ (uv m.commit ++ (uv m.round ++ (uv m.es.length ++ entsBytes m.es)))) := by simp [fieldsB, hk3]
    rw [hF] at hA
    clear hF
    go_wp2_with fail
    refine (zzU _ ds k4 m.pi _ hr hm hA.left hn.pi).mono ?_
    rintro e w' ⟨rfl, hw⟩
    replace hw := hw.symm
    subst hw
    replace hA := hA.right
    generalize k4 + (uv m.pi).length = k5 at *
    go_wp2_with fail
    refine (zzU _ ds k5 m.pt _ hr hm hA.left hn.pt).mono ?_
    rintro e w' ⟨rfl, hw⟩
    replace hw := hw.symm
    subst hw
    replace hA := hA.right
    generalize k5 + (uv m.pt).length = k6 at *
    go_wp2_with fail
    refine (zzU _ ds k6 m.commit _ hr hm hA.left hn.commit).mono ?_
    rintro e w' ⟨rfl, hw⟩
    replace hw := hw.symm
    subst hw
    replace hA := hA.right
    generalize k6 + (uv m.commit).length = k7 at *
    go_wp2_with fail
    refine (zzU _ ds k7 m.round _ hr hm hA.left hn.round).mono ?_
    rintro e w' ⟨rfl, hw⟩
    replace hw := hw.symm
    subst hw
    replace hA := hA.right
    generalize k7 + (uv m.round).length = k8 at *
    go_wp2_with fail
    refine (zzU _ ds k8 m.es.length _ hr hm hA.left (by omega)).mono ?_
    rintro e w' ⟨rfl, hw⟩
    replace hw := hw.symm
    subst hw
    replace hA := hA.right
    generalize k8 + (uv m.es.length).length = k9 at *
    go_upto_region 22 with fail
    go_loopw [5, 6] (fun av iv wr => ∃ k i : Nat, i ≤ m.es.length ∧ av = .int .i64 k ∧ iv = .int .i64 i ∧ Rest ds k (entsBytes (m.es.drop i)) ∧ Below w0.heap.size w0 wr) (fun _ iv _ => m.es.length - (intOf iv).toNat)
    case atStart => exact ⟨k9, 0, Nat.zero_le _, rfl, rfl, hA, Below.refl _ _⟩
    case round =>
      clear hA
      obtain ⟨k, i, hi, rfl, rfl, hA, hBr⟩ := hrel
      have q12r : wr.cell? ⟨w.heap.size, 12, none⟩ = some (.slice ea m.es.length ec) := (hBr.cell (p := ⟨w.heap.size, 12, none⟩) hz).trans q12
      have hzr := hBr.size
      by_cases hlt : i < m.es.length
      · obtain ⟨g, o, sa, sc, rfl, e0, e1, e2, e3, hrd⟩ := (hE.below hBr).get hlt
        have hde := hbe i hlt
        obtain ⟨b1, b2⟩ := hn.ents m.es[i] (List.getElem_mem hlt)
        rw [entsBytes_drop m.es i hlt] at hA
        generalize m.es[i] = en at *
        go_upto_region 25 with fail
        have hc4 : ∀ j, (wr.alloc (.cells #[.int .u64 en.ix, .int .u64 en.t, .int .u8 en.kind, .slice sa en.data.length sc] 51)).cell? ⟨wr.heap.size, j, none⟩ = #[.int .u64 en.ix, .int .u64 en.t, .int .u8 en.kind, .slice sa en.data.length sc][j]? := fun j => by simp
        have hB4 : Below w0.heap.size w0 (wr.alloc (.cells #[.int .u64 en.ix, .int .u64 en.t, .int .u8 en.kind, .slice sa en.data.length sc] 51)) := hBr.alloc hzr _
        have hr4 := hrd.below ((Below.refl wr.heap.size wr).alloc (Nat.le_refl _) (.cells #[.int .u64 en.ix, .int .u64 en.t, .int .u8 en.kind, .slice sa en.data.length sc] 51))
        generalize wr.alloc (.cells #[.int .u64 en.ix, .int .u64 en.t, .int .u8 en.kind, .slice sa en.data.length sc] 51) = w4 at *
        have hp4 := hr.below hB4
        have f0 := hc4 0
        have f1 := hc4 1
        have f2 := hc4 2
        have f3 := hc4 3
        simp only [List.getElem?_toArray, List.getElem?_cons_zero, List.getElem?_cons_succ] at f0 f1 f2 f3
        clear hc4 e0 e1 e2 e3 hrd
        go_wp2_with fail
        refine (zzU _ ds k (17 + en.data.length) _ hp4 hm hA.left (by omega)).mono ?_
        rintro e w' ⟨rfl, hw⟩
        replace hw := hw.symm
        subst hw
        replace hA := hA.right
        generalize k + (uv (17 + en.data.length)).length = j1 at *
        go_wp2_with fail
        refine (zzLE _ ds j1 en.ix _ hp4 hm b1 hA.left).mono ?_
        rintro e w' ⟨rfl, hw⟩
        replace hw := hw.symm
        subst hw
        replace hA := hA.right
        rw [show (le8 en.ix).length = 8 from rfl] at hA
        generalize j1 + 8 = j2 at *
        go_wp2_with fail
        refine (zzLE _ ds j2 en.t _ hp4 hm b2 hA.left).mono ?_
        rintro e w' ⟨rfl, hw⟩
        replace hw := hw.symm
        subst hw
        replace hA := hA.right
        rw [show (le8 en.t).length = 8 from rfl] at hA
        generalize j2 + 8 = j3 at *
        go_wp2_with fail
        refine (zzByte _ ds j3 en.kind _ hp4 hm hA.left).mono ?_
        rintro e w' ⟨rfl, hw⟩
        replace hw := hw.symm
        subst hw
        replace hA := hA.right
        rw [show [(en.kind : Int)].length = 1 from rfl] at hA
        generalize j3 + 1 = j4 at *
        go_wp2_with fail
        refine (zzRaw _ _ ds en.data j4 _ hp4 hr4 hm hA.1 hA.left).mono ?_
        rintro e w' ⟨rfl, nn, hw'⟩
        replace hA := hA.right
        have hB' : Below w0.heap.size w0 w' := by rw [hw']; exact ⟨hB4.os, hB4.tape, hB4.output, hB4.size, hB4.block⟩
        clear hw' hB4 hp4 hr4 f0 f1 f2 f3
        generalize j4 + en.data.length = j5 at *
        go_wp2
        go_roundw
        case rel => exact ⟨j5, i + 1, by omega, rfl, by go_num, hA, hB'⟩
        case measure => simp [intOf]; omega
      · obtain rfl : i = m.es.length := by omega
        have hkk := hA.last
        obtain rfl : k = ds.length := by simpa [entsBytes] using hkk
        have hpos : decide ((0 : Int) ≤ (ds.length : Int)) = true := by simp
        clear hkk hA
        go_wp2
        go_ret
        exact ⟨by simp, hB.trans (hBr.mono (by omega))⟩
  have hF := fieldsB_none m hk1 hk2 hk3 hk4 hk5 hk6 hk7
  rw [hF] at hA
  clear hF
  have g1 : ((m.kind : Int) == 1) = false := by simp; omega
  have g2 : ((m.kind : Int) == 2) = false := by simp; omega
  have g3 : ((m.kind : Int) == 3) = false := by simp; omega
  have g4 : ((m.kind : Int) == 4) = false := by simp; omega
  have g5 : ((m.kind : Int) == 5) = false := by simp; omega
  have g6 : ((m.kind : Int) == 6) = false := by simp; omega
  have g7 : ((m.kind : Int) == 7) = false := by simp; omega
  have hkk := hA.last
  obtain rfl : k4 = ds.length := by simpa using hkk
  have hpos : decide ((0 : Int) ≤ (ds.length : Int)) = true := by simp
  clear hkk hA
  go_wp2
  go_ret
  exact ⟨by simp, hB⟩
end Go.Proofs.Qxb6618972a
