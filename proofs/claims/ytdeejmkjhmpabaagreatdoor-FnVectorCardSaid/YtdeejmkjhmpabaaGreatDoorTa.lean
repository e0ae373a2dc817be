/-
  The library's tables, out of what the row lists.
-/
import Derived.Test.YtdeejmkjhmpabaaGreatDoorFb
import Derived.Test.YtdeejmkjhmpabaaGreatDoorRows
import Derived.PinnedBridge
import Derived.LaidMore
import Derived.Shelf.Unicode.PredsPay
namespace Go.Proofs.YtdeejmkjhmpabaaGreatDoor
open Go.RowKit Go.Lib

theorem var_at {P : Program} {w : World} {n : String} {g : Nat} {d : DataW Unit} {t : TypeId} (hg : P.globalNamed n = some g) (ht : (P.globals[g]?).map (·.type) = some t) (h : VarReads P w n d) :
    ∃ (cs : Array Value) (fuel : Nat) (p : List MemPlace), (∀ i, w.cell? ⟨g, i, none⟩ = cs.toList[i]?) ∧ w.var? P n = some cs ∧ DataW.trod (fun _ => ()) P w 0 (fun _ => true) false fuel t cs.toList = some (d, p) := by
  obtain ⟨g', t', cs, fuel, p, hg', ht', hvar, hd⟩ := h
  obtain rfl := Option.some.inj (hg.symm.trans hg')
  obtain rfl := Option.some.inj (ht.symm.trans ht')
  exact ⟨cs, fuel, p, fun i => by rw [World.var?_cell hg hvar i, ← Array.getElem?_toList], hvar, hd⟩

theorem pow_lies {w : World} (h : VarReads Tryz.prog w "internal/strconv.uint64pow10" Rows.laid_internal_strconv_uint64pow10) : Lib.TabIs Tryz.prog w "internal/strconv.uint64pow10" .u64 Lib.pow10Tab := by
  rw [show (Rows.laid_internal_strconv_uint64pow10 : DataW Unit) = tabData .u64 pow10Tab by kernel_rfl] at h
  obtain ⟨cs, fuel, p, _, hv, hd⟩ := var_at (g := 2) (t := 208) (by kernel_rfl) (by kernel_rfl) h
  unfold TabIs
  rw [hv, ← cells_of_tab Tryz.underlying208 Tryz.underlying38 (by kernel_rfl) (by kernel_rfl) hd]

theorem p10_lies {w : World} (h : VarReads Tryz.prog w "internal/strconv.pow10Tab" Rows.laid_internal_strconv_pow10Tab) (p : Nat) (hp : p ≤ 19) :
    w.cell? ⟨15, (p + 348) * 2, none⟩ = some (.int .u64 (Sam.hT p : Nat)) ∧ w.cell? ⟨15, (p + 348) * 2 + 1, none⟩ = some (.int .u64 0) := by
  obtain ⟨cs, fuel, q, hc, _, hd⟩ := var_at (g := 15) (t := 281) (by kernel_rfl) (by kernel_rfl) h
  obtain ⟨fuel', d, q', hdi, he⟩ := array_elem Tryz.underlying281 hd (p + 348) (by omega)
  have hall : ((List.range 20).map fun k => (Pinned.pow10Rows.map fun x => (DataW.agg [.lit (.int .u64 x.1), .lit (.int .u64 x.2)] : DataW Unit))[k + 348]?) = (List.range 20).map fun k => some (.agg ([(Sam.hT k : Int), 0].map fun z => .lit (.int .u64 z))) := by kernel_rfl
  have hp' := congrArg (fun l => l[p]?) hall
  simp only [List.getElem?_map, List.getElem?_range (show p < 20 by omega), Option.map_some, Option.some.injEq] at hp'
  have hd' := Option.some.inj (hdi.symm.trans ((show (Pinned.pow10Rows.map fun x => (DataW.agg [.lit (.int .u64 x.1), .lit (.int .u64 x.2)] : DataW Unit))[p + 348]? = _ by rw [List.getElem?_map]; exact hp')))
  subst hd'
  rw [show Tryz.prog.cellsOf 280 = 2 by kernel_rfl] at he
  have hcs := ints_of_struct Tryz.underlying280 (fun j f hj => by
    match j, hj with
    | 0, hj => simp at hj; subst hj; exact ⟨Tryz.underlying38, rfl, by kernel_rfl⟩
    | 1, hj => simp at hj; subst hj; exact ⟨Tryz.underlying38, rfl, by kernel_rfl⟩
    | j + 2, hj => simp at hj) (by kernel_rfl) he
  have e0 := congrArg (·[0]?) hcs
  have e1 := congrArg (·[1]?) hcs
  simp only [List.getElem?_take, List.getElem?_drop] at e0 e1
  constructor
  · rw [hc]
    simpa using e0
  · rw [hc]
    simpa using e1

theorem u8_lies {w : World} (h3 : VarReads Tryz.prog w "unicode/utf8.first" Rows.laid_unicode_utf8_first) (h4 : VarReads Tryz.prog w "unicode/utf8.acceptRanges" Rows.laid_unicode_utf8_acceptRanges) : Lib.Utf8Tabs 5 6 w := by
  rw [show Rows.laid_unicode_utf8_first = firstData from Pinned.utf8First_eq] at h3
  rw [show (Rows.laid_unicode_utf8_acceptRanges : DataW Unit) = acceptData by kernel_rfl] at h4
  refine ⟨fun c hc => ?_, fun i hi => ?_⟩
  · obtain ⟨cs, fuel, q, hcc, _, hd⟩ := var_at (g := 5) (t := 223) (by kernel_rfl) (by kernel_rfl) h3
    have hcs := cells_of_tab Tryz.underlying223 Tryz.underlying5 (by kernel_rfl) (by kernel_rfl) hd
    rw [hcc, hcs]
    simp [firstTab, hc]
  · obtain ⟨cs, fuel, q, hcc, _, hd⟩ := var_at (g := 6) (t := 226) (by kernel_rfl) (by kernel_rfl) h4
    obtain ⟨fuel', d, q', hdi, he⟩ := array_elem Tryz.underlying226 hd i hi
    simp only [List.getElem?_map, List.getElem?_range hi, Option.map_some, Option.some.injEq] at hdi
    subst hdi
    rw [show Tryz.prog.cellsOf 225 = 2 by kernel_rfl] at he
    have hcs := ints_of_struct Tryz.underlying225 (fun j f hj => by
      match j, hj with
      | 0, hj => simp at hj; subst hj; exact ⟨Tryz.underlying5, rfl, by kernel_rfl⟩
      | 1, hj => simp at hj; subst hj; exact ⟨Tryz.underlying5, rfl, by kernel_rfl⟩
      | j + 2, hj => simp at hj) (by kernel_rfl) he
    have e0 := congrArg (·[0]?) hcs
    have e1 := congrArg (·[1]?) hcs
    simp only [List.getElem?_take, List.getElem?_drop] at e0 e1
    constructor
    · rw [hcc]
      simpa [Nat.mul_comm] using e0
    · rw [hcc]
      simpa [Nat.mul_comm] using e1

set_option maxRecDepth 100000 in
theorem prints_lie {w : World} (h20 : VarReads Tryz.prog w "strconv.isPrint16" Rows.laid_strconv_isPrint16) (h21 : VarReads Tryz.prog w "strconv.isNotPrint16" Rows.laid_strconv_isNotPrint16)
    (h22 : VarReads Tryz.prog w "strconv.isPrint32" Rows.laid_strconv_isPrint32) (h23 : VarReads Tryz.prog w "strconv.isNotPrint32" Rows.laid_strconv_isNotPrint32) : Lib.PrintTabsAt 7 8 9 10 Lib.goPrintTabs w := by
  rw [show Rows.laid_strconv_isPrint16 = _ from Pinned.isPrint16_eq] at h20
  rw [show Rows.laid_strconv_isNotPrint16 = _ from Pinned.isNotPrint16_eq] at h21
  rw [show Rows.laid_strconv_isPrint32 = _ from Pinned.isPrint32_eq] at h22
  rw [show Rows.laid_strconv_isNotPrint32 = _ from Pinned.isNotPrint32_eq] at h23
  exact ⟨tabSlice_of_reads (g := 7) (t := 228) (by kernel_rfl) (by kernel_rfl) Tryz.underlying228 Tryz.underlying227 (by kernel_rfl) (by decide) h20, tabSlice_of_reads (g := 8) (t := 228) (by kernel_rfl) (by kernel_rfl) Tryz.underlying228 Tryz.underlying227 (by kernel_rfl) (by decide) h21,
    tabSlice_of_reads (g := 9) (t := 230) (by kernel_rfl) (by kernel_rfl) Tryz.underlying230 Tryz.underlying162 (by kernel_rfl) (by decide) h22, tabSlice_of_reads (g := 10) (t := 228) (by kernel_rfl) (by kernel_rfl) Tryz.underlying228 Tryz.underlying227 (by kernel_rfl) (by decide) h23,
    by decide, by decide, by decide⟩

theorem tabSlice_below {g : Nat} {k : IntKind} {t : List Nat} {w w' : World} (h : Lib.TabSlice g k t w) (h0 : 0 < t.length) (hb : Below w.heap.size w w') : Lib.TabSlice g k t w' := by
  obtain ⟨R, o, c, h1, h2⟩ := h
  have hR : R < w.heap.size := World.block_lt_of_cell? w _ (h2 0 h0)
  exact ⟨R, o, c, (hb.cell (p := ⟨g, 0, none⟩) (World.block_lt_of_cell? w _ h1)).trans h1, fun j hj => (hb.cell (p := ⟨R, o + j, none⟩) hR).trans (h2 j hj)⟩

set_option maxRecDepth 100000 in
theorem tabs_of {w : World} (l : List (String × DataW Unit)) (h : laidMet Tryz.prog l w) (m : ∀ x ∈ [("internal/strconv.uint64pow10", Rows.laid_internal_strconv_uint64pow10), ("unicode/utf8.acceptRanges", Rows.laid_unicode_utf8_acceptRanges), ("internal/strconv.pow10Tab", Rows.laid_internal_strconv_pow10Tab), ("strconv.isNotPrint16", Rows.laid_strconv_isNotPrint16), ("strconv.isNotPrint32", Rows.laid_strconv_isNotPrint32), ("strconv.isPrint16", Rows.laid_strconv_isPrint16), ("strconv.isPrint32", Rows.laid_strconv_isPrint32), ("unicode/utf8.first", Rows.laid_unicode_utf8_first)], x ∈ l) (hsz : 17 ≤ w.heap.size) : Tabs w := by
  have r := fun n d hm => laidMet.reads h (n := n) (d := d) (m (n, d) hm)
  have hpow := pow_lies (r _ _ (by simp))
  have hp10 := p10_lies (r _ _ (by simp))
  have hpr := prints_lie (r _ _ (by simp)) (r _ _ (by simp)) (r _ _ (by simp)) (r _ _ (by simp))
  have hu8 := u8_lies (r _ _ (by simp)) (r _ _ (by simp))
  intro w' hb
  obtain ⟨p1, p2, p3, p4, ⟨q1, q2, q3, q4⟩, p5, p6⟩ := hpr
  refine ⟨TabIs_below (g := 2) (by kernel_rfl) hpow hb, fun p hp => ?_, ⟨tabSlice_below p1 q1 hb, tabSlice_below p2 q2 hb, tabSlice_below p3 q3 hb, tabSlice_below p4 q4 hb, ⟨q1, q2, q3, q4⟩, p5, p6⟩, Utf8Tabs_below hu8 hb, Nat.le_trans hsz hb.size⟩
  obtain ⟨c1, c2⟩ := hp10 p hp
  have hlt := World.block_lt_of_cell? w _ c1
  exact ⟨(hb.cell (p := ⟨15, (p + 348) * 2, none⟩) hlt).trans c1, (hb.cell (p := ⟨15, (p + 348) * 2 + 1, none⟩) hlt).trans c2⟩

end Go.Proofs.YtdeejmkjhmpabaaGreatDoor
