/- What the row's listed variables give: the tables that the text of a number reads. By an AI agent. -/
import Derived.Test.YtjincjepmkgalaaGreatDoorRows
import Derived.Test.YtjincjepmkgalaaGreatDoorBytes
import Derived.Lib.LaidU8
namespace Go.Proofs.YtjincjepmkgalaaGreatDoor
open Go.RowKit Go.ChangeShapes Go.WideShapes

theorem gPow : Tryz.prog.globalNamed "internal/strconv.uint64pow10" = some 1 := by kernel_rfl
theorem gTab : Tryz.prog.globalNamed "internal/strconv.pow10Tab" = some 2 := by kernel_rfl
theorem gPowT : (Tryz.prog.globals[1]?).map (·.type) = some 174 := by kernel_rfl
theorem gTabT : (Tryz.prog.globals[2]?).map (·.type) = some 183 := by kernel_rfl
theorem co140 : Tryz.prog.cellsOf 140 = 1 := by kernel_rfl
theorem co174 : Tryz.prog.cellsOf 174 = 20 := by kernel_rfl
theorem co182 : Tryz.prog.cellsOf 182 = 2 := by kernel_rfl
theorem co183 : Tryz.prog.cellsOf 183 = 1392 := by kernel_rfl

theorem tens_data : Rows.laid_internal_strconv_uint64pow10 (H := Unit) = Lib.tabData .u64 ((List.range 20).map fun i => ((10 ^ i : Nat) : Int)) := by kernel_rfl
theorem rows_len : Go.Pinned.pow10Rows.length = 696 := by kernel_rfl
theorem laid_plain : (Rows.fnWriteTextsRow.laid.filter fun x => x.2.handleName?.isSome) = [] := by kernel_rfl
theorem laid_met_of {W : World} (h : laidMetH Tryz.prog Rows.fnWriteTextsRow.laid W) : laidMet Tryz.prog Rows.fnWriteTextsRow.laid W := by
  unfold laidMetH at h
  rw [laid_plain] at h
  exact h

theorem rows_of_tab {W : World} {fuel : Nat} {cs : List Value} {rows : List (Nat × Nat)} {p : List MemPlace} (hl : rows.length = 696)
    (h : DataW.trod (fun _ => ()) Tryz.prog W 0 (fun _ => true) false fuel 183 cs = some (.agg (rows.map fun x => .agg [.lit (.int .u64 x.1), .lit (.int .u64 x.2)]), p)) :
    ∀ i x, rows[i]? = some x → cs[i * 2]? = some (.int .u64 x.1) ∧ cs[i * 2 + 1]? = some (.int .u64 x.2) := by
  intro i x hx
  have hi : i < 696 := by rw [← hl]; exact (List.getElem?_eq_some_iff.1 hx).1
  cases fuel with
  | zero => simp [DataW.trod] at h
  | succ fuel =>
    simp only [DataW.trod, Tryz.underlying183, co182, co183] at h
    split at h
    · rename_i hcl
      obtain ⟨xs, hm, hxs⟩ := Option.map_eq_some_iff.1 h
      have h1 : xs.map (·.1) = rows.map fun x => (.agg [.lit (.int .u64 x.1), .lit (.int .u64 x.2)] : DataW Unit) := by
        have := congrArg Prod.fst hxs
        simpa using this
      obtain ⟨y, hy, hf⟩ := Lib.mapM_at hm i i (by simp [hi])
      have h2 : (xs.map (·.1))[i]? = some y.1 := by rw [List.getElem?_map, hy]; rfl
      rw [h1, List.getElem?_map, hx] at h2
      have h3 : y.1 = .agg ([(x.1 : Int), (x.2 : Int)].map fun z => .lit (.int .u64 z)) := (Option.some.inj h2).symm
      obtain ⟨y1, y2⟩ := y
      simp only at h3
      subst h3
      have h4 := Lib.ints_of_struct Tryz.underlying182 (k := .u64) (by
        intro j f hj
        match j, hj with
        | 0, hj => cases hj; exact ⟨Tryz.underlying140, rfl, co140⟩
        | 1, hj => cases hj; exact ⟨Tryz.underlying140, rfl, co140⟩
        | j + 2, hj => simp at hj) co182 hf
      have e0 := congrArg (·[0]?) h4
      have e1 := congrArg (·[1]?) h4
      simp [List.getElem?_take, List.getElem?_drop] at e0 e1
      exact ⟨e0, e1⟩
    · cases h

theorem tab_of {W : World} (h : laidMetH Tryz.prog Rows.fnWriteTextsRow.laid W) : Tab W := by
  have h := laid_met_of h
  have ht : ∀ i, i < 20 → W.cell? ⟨1, i, none⟩ = some (.int .u64 ((10 ^ i : Nat) : Int)) := by
    obtain ⟨g, t, cs, fuel, p, h1, h2, h3, h4⟩ := Lib.laidMet.reads h (n := "internal/strconv.uint64pow10") (d := Rows.laid_internal_strconv_uint64pow10) (by simp [Rows.fnWriteTextsRow])
    obtain rfl := Option.some.inj (gPow.symm.trans h1)
    obtain rfl := Option.some.inj (gPowT.symm.trans h2)
    rw [tens_data] at h4
    have hc := Lib.cells_of_tab Tryz.underlying174 Tryz.underlying140 co140 co174 h4
    intro i hi
    have hv := World.var?_cell gPow h3 i
    rw [hv]
    have : cs.toList[i]? = some (.int .u64 ((10 ^ i : Nat) : Int)) := by rw [hc]; simp [hi]
    simpa using this
  have hr : ∀ i, i < 696 → W.cell? ⟨2, i * 2, none⟩ = some (.int .u64 (ptHi i)) ∧ W.cell? ⟨2, i * 2 + 1, none⟩ = some (.int .u64 (ptLo i)) := by
    obtain ⟨g, t, cs, fuel, p, h1, h2, h3, h4⟩ := Lib.laidMet.reads h (n := "internal/strconv.pow10Tab") (d := Go.Pinned.pow10Tab) (by simp [Rows.fnWriteTextsRow, Rows.laid_internal_strconv_pow10Tab])
    obtain rfl := Option.some.inj (gTab.symm.trans h1)
    obtain rfl := Option.some.inj (gTabT.symm.trans h2)
    unfold Go.Pinned.pow10Tab at h4
    intro i hi
    have hx : Go.Pinned.pow10Rows[i]? = some (Go.Pinned.pow10Rows.getD i (0, 0)) := by
      have : i < Go.Pinned.pow10Rows.length := by rw [rows_len]; exact hi
      simp only [List.getD, List.getElem?_eq_getElem this, Option.getD_some]
    obtain ⟨a, b⟩ := rows_of_tab rows_len h4 i _ hx
    refine ⟨?_, ?_⟩
    · rw [World.var?_cell gTab h3 (i * 2)]; simpa [ptHi] using a
    · rw [World.var?_cell gTab h3 (i * 2 + 1)]; simpa [ptLo] using b
  refine ⟨?_, ht, fun i hi => (hr i hi).1, fun i hi => (hr i hi).2⟩
  have := (hr 0 (by decide)).1
  unfold World.cell? at this
  split at this
  · rename_i hb
    exact (Array.getElem?_eq_some_iff.1 hb).1
  · cases this
end Go.Proofs.YtjincjepmkgalaaGreatDoor
