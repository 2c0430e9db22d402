/- The reference's texts: a place, a body, a whole text. By an AI agent. -/
import Derived.Test.YtjincjepmkgalaaGreatDoorMade
import Derived.Test.YtjincjepmkgalaaGreatDoorBytes
import Derived.Test.YtjincjepmkgalaaGreatDoorPlaintwo
import Derived.Laws.BytesArg
namespace Go.Proofs.YtjincjepmkgalaaGreatDoor
open Go.RowKit

@[go_sem] theorem str_add (P : Program) (w : World) (x y : List UInt8) (h : x.length + y.length ≤ 1000000000) : (Op.stringOp .add ⟨x.toArray⟩ ⟨y.toArray⟩).run P w = .ok (.string ⟨(x ++ y).toArray⟩) w := by
  have h1 : (ByteArray.mk x.toArray).size = x.length := by simp [ByteArray.size]
  have h2 : (ByteArray.mk y.toArray).size = y.length := by simp [ByteArray.size]
  rw [run_string_add_sum w _ _ (by rw [h1, h2]; omega), ByteArray.mk_append_mk]

set_option maxRecDepth 100000 in
theorem info5 : (Tryz.prog.info? 5).map (fun i => (i.zero, i.size, i.bytes)) = some (some (.int .u8 0), 1, 1) := by kernel_rfl

theorem make_nil (w : World) (t e : TypeId) (z : Value) (size bytes : Nat) (ht : Tryz.prog.underlying t = some (.slice e)) (h : (Tryz.prog.info? e).map (fun i => (i.zero, i.size, i.bytes)) = some (some z, size, bytes)) (l c : Nat) (hlc : l ≤ c) (hb : bytes * c ≤ 281474976710656) (hc : c ≤ 9223372036854775807) :
    (Instr.makeSlice t (.int .i64 l) (.int .i64 c)).run Tryz.prog w = .ok (.slice (some ⟨w.heap.size, 0, none⟩) l c) (w.alloc (.cells (madeCells z.cells (c * size)) e)) := by
  obtain ⟨i, hi, hz, hs, hby⟩ := info_parts h
  have := run_make (P := Tryz.prog) w t e i z ht hi hz .i64 .i64 l c (by omega) (by omega) (by rw [hby, ← Int.natCast_mul]; omega) (by omega)
  rw [hs] at this
  exact this

@[go_sem] theorem make22_24 (w : World) : (Instr.makeSlice 22 (.int .i64 0) (.int .i64 24)).run Tryz.prog w = .ok (.slice (some ⟨w.heap.size, 0, none⟩) 0 24) (w.alloc (.cells (madeCells (Value.int .u8 0).cells 24) 5)) :=
  make_nil w 22 5 (.int .u8 0) 1 1 Tryz.underlying22 info5 0 24 (by decide) (by decide) (by decide)

set_option maxRecDepth 100000 in
theorem conv_own {w : World} {base : Nat} {A : Option Addr} {n c : Nat} {bs : List UInt8} (h : Own w base (.slice A n c) bs) : (convert 22 9 (.slice A n c)).run Tryz.prog w = .ok (.string ⟨bs.toArray⟩) w := by
  rcases h.2 with ⟨he, hn⟩ | ⟨g, cap, cur, he, _, _, _, _, _, _⟩
  · cases he
    have hb : bs = [] := List.eq_nil_of_length_eq_zero hn
    subst hb
    exact run_convert_bytes_nil w 22 5 Tryz.underlying22 Tryz.underlying5 0 0 9 Tryz.underlying9
  · have hcs := World.ownsRow.cells h (g := g) (by rw [he]; rfl)
    cases he
    refine run_convert_bytes_back w 22 9 5 ⟨g, 0, none⟩ c bs Tryz.underlying22 Tryz.underlying5 Tryz.underlying9 (fun j hj => hcs j _ ?_)
    simp [u8s, hj]

/-- What is asked of the text of a number: it is short, and spec.WriteNumber makes it. -/
structure NumOk (S : Nat → List UInt8) : Prop where
  len : ∀ x, (S x).length ≤ 400
  ftoa : ∀ (x : Nat), x < 18446744073709551616 → finB x = true → ∀ (w : World) (base : Nat) (v : Value) (bs : List UInt8), Tab w → Own w base v bs → bs.length ≤ 1000000000 → base ≤ w.heap.size →
    Calls Tryz.prog 103 #[v, .float .f64 x, .int .u8 102, .int .i64 (-1)] w fun e w' => ∃ v', e = .returned v' ∧ App base v v' bs (S x) w w'

/-- What a function leaves that makes a text. -/
def StrPost (l : List UInt8) (w : World) (e : Ending) (w' : World) : Prop := e = .returned (.string ⟨l.toArray⟩) ∧ Below w.heap.size w w'

section
variable {S : Nat → List UInt8} (hS : NumOk S)
include hS

set_option maxRecDepth 100000 in
set_option maxHeartbeats 4000000 in
theorem format_any (x : Nat) (hx : x < 18446744073709551616) (hf : finB x = true) (w : World) (ht : Tab w) :
    Calls Tryz.prog 86 #[.float .f64 x, .int .u8 102, .int .i64 (-1), .int .i64 64] w (StrPost (S x) w) := by
  have HF := Lib.hid (hS.ftoa x hx hf)
  have HTb := Lib.hid ht
  clear hS ht
  have hnew : Own (w.alloc (.cells (madeCells (Value.int .u8 0).cells 24) 5)) w.heap.size (.slice (some ⟨w.heap.size, 0, none⟩) 0 24) [] :=
    World.ownsRow_made w _ 24 (Nat.le_refl _) (by unfold maxLen; omega) (by simp [madeCells, Value.cells])
  have HN := Lib.hid hnew
  clear hnew
  go_enter Tryz.func86, Tryz.ntmps86
  go_wp2_with fail
  refine (HF.out _ w.heap.size _ _ (HTb.out.same (sameOn_alloc (sameOn_refl w) _)) HN.out (by simp) (by simp)).mono ?_
  rintro e w' ⟨v', rfl, happ⟩
  obtain ⟨A, c, rfl⟩ := happ.shape
  have hc := conv_own happ.own
  simp only [List.nil_append] at hc
  have HA := Lib.hid happ
  clear happ HN HF
  go_wp2_with fail
  go_ret
  exact ⟨rfl, ((More.refl _ w).alloc (Nat.le_refl _) _).bel.trans HA.out.bel⟩


theorem number_any (x : Nat) (hx : x < 18446744073709551616) (hf : finB x = true) (w : World) (ht : Tab w) : Calls Tryz.prog 46 #[.float .f64 x] w (StrPost (S x) w) := by
  have HF := Lib.hid (format_any hS x hx hf)
  have HTb := Lib.hid ht
  clear hS ht
  go_enter Tryz.func46, Tryz.ntmps46
  go_wp2_with fail
  refine (show Calls Tryz.prog 72 #[.float .f64 x, .int .u8 102, .int .i64 (-1), .int .i64 64] w (StrPost (S x) w) from ?_).mono ?_
  · go_enter Tryz.func72, Tryz.ntmps72
    go_wp2_with fail
    refine (HF.out w HTb.out).mono ?_
    rintro e w' ⟨rfl, hb⟩
    have HB := Lib.hid hb
    clear hb
    go_wp2_with fail
    go_ret
    exact ⟨rfl, HB.out⟩
  rintro e w' ⟨rfl, hb⟩
  have HB := Lib.hid hb
  clear hb
  go_wp2_with fail
  go_ret
  exact ⟨rfl, HB.out⟩

omit hS in
theorem joinB_step (sep : UInt8) (l : List (List UInt8)) (k : Nat) (h : k < l.length) : joinB sep (l.take (k + 1)) = (if 0 < k then joinB sep (l.take k) ++ [sep] else joinB sep (l.take k)) ++ l[k] := by
  by_cases h0 : 0 < k
  · rw [if_pos h0, joinB_take sep l k h h0]; simp
  · obtain rfl : k = 0 := by omega
    rw [if_neg h0, joinB_take_one sep l h]; rfl

set_option maxRecDepth 100000 in
set_option maxHeartbeats 4000000 in
theorem writePlace_any (d : Int) (h0 : 0 ≤ d) (h3 : d ≤ 3) (p : Pl) (hfin : ∀ x ∈ numsOf d p, x < 18446744073709551616 ∧ finB x = true) (w : World) (ht : Tab w) :
    Calls Tryz.prog 22 #[.agg #[.float .f64 p.x, .float .f64 p.y, .float .f64 p.z, .float .f64 p.m], .int .i64 d] w (StrPost (placeText S d p) w) := by
  have HN := Lib.hid (number_any hS)
  have HTb := Lib.hid ht
  clear ht
  have hlen : ∀ l : List Nat, l.length ≤ 4 → (joinB 32 (l.map S)).length ≤ 1604 := by
    intro l hl
    have h1 := joinB_length 32 (l.map S) 400 (by intro a ha; obtain ⟨x, _, rfl⟩ := List.mem_map.1 ha; exact hS.len x)
    rw [List.length_map] at h1
    have : l.length * (400 + 1) ≤ 4 * 401 := Nat.mul_le_mul hl (by omega)
    omega
  have HLen := Lib.hid hlen
  have HS := Lib.hid hS.len
  have hnl : (numsOf d p).length ≤ 4 := by rw [numsOf_length]; exact (widthN_le d).2
  obtain ⟨ns, hns⟩ : ∃ ns, numsOf d p = ns := ⟨_, rfl⟩
  have HNs := Lib.hid hns
  have HNum := Lib.hid (nums_any d h0 h3 [p])
  rw [hns] at hfin hnl
  have HFin := Lib.hid hfin
  have HT : Hid (placeText S d p = joinB 32 (ns.map S)) := by rw [Hid, placeText, hns]
  clear hS hlen hfin hns
  go_enter Tryz.func22, Tryz.ntmps22
  go_wp2_with fail
  have hrow : Sl ((w.alloc (.cells #[.float .f64 p.x, .float .f64 p.y, .float .f64 p.z, .float .f64 p.m] 50)).alloc (.cells #[.float .f64 p.x, .float .f64 p.y, .float .f64 p.z, .float .f64 p.m] 50)) (fun _ => True) 4 (.slice (some ⟨w.heap.size + 1, 0, none⟩) 1 1) ([p].flatMap plCells) := by
    refine ⟨_, _, _, rfl, Nat.le_refl _, by unfold maxLen; omega, rfl, by simp [plCells], fun _ => ⟨_, _, rfl, trivial, by simp, ?_⟩⟩
    intro j u hu
    rw [Nat.zero_add, cell_of_row _ _ j _ 50 (0, 0) (by exact Bk.new' (w.alloc _) 50 _ _ (by simp))]
    simpa [plCells] using hu
  have HR := Lib.hid hrow
  clear hrow
  refine (HNum.out _ _ _ HR.out (by simp)).mono ?_
  rintro e w2 ⟨v2, rfl, hown, hb2⟩
  rw [show numsAll d [p] = ns by simp [numsAll]; exact HNs.out] at hown
  have hsl : Sl w2 (fun _ => True) 1 v2 (ns.map (Value.float .f64)) := Sl.of_own hown (by rw [List.length_map]; omega) (fun _ _ => trivial)
  obtain ⟨A, c, rfl, hc1, hc2, hc3, hat⟩ := nums_at hsl
  have hm : More w.heap.size w w2 := (((More.refl _ w).alloc (Nat.le_refl _) _).alloc (Nat.le_refl _) _).below (Nat.le_refl _) hb2
  have HM := Lib.hid hm
  have HA := Lib.hid hat
  clear hown hb2 hsl hm hat HR HNum
  unfold maxLen at hc2
  go_wp2_with fail
  go_loopw [13, 5] (fun i s wr => ∃ k : Nat, k ≤ ns.length ∧ i = .int .i64 k ∧ s = .string ⟨(joinB 32 ((ns.take k).map S)).toArray⟩ ∧ More w2.heap.size w2 wr) (fun i _ _ => ns.length - (intOf i).toNat)
  case atStart => exact ⟨0, Nat.zero_le _, rfl, rfl, More.refl _ _⟩
  case round =>
    obtain ⟨k, hk, rfl, rfl, hmr⟩ := hrel
    have hl := HLen.out (ns.take k) (by rw [List.length_take]; omega)
    by_cases hlt : k < ns.length
    · have hstep := joinB_step 32 (ns.map S) k (by rw [List.length_map]; exact hlt)
      rw [← List.map_take, ← List.map_take, List.getElem_map] at hstep
      obtain ⟨b, o, rfl, _, hbl, e0⟩ := HA.out k ns[k] (List.getElem?_eq_getElem hlt)
      have r0 := (hmr.bel.cell (p := ⟨b, o + k, none⟩) hbl).trans e0
      have hx := HFin.out _ (List.getElem_mem hlt)
      have hxl := HS.out ns[k]
      obtain ⟨x, hxx⟩ : ∃ x, ns[k] = x := ⟨_, rfl⟩
      rw [hxx] at hx hstep r0 hxl
      obtain ⟨t, ht⟩ : ∃ t, joinB 32 ((ns.take k).map S) = t := ⟨_, rfl⟩
      rw [ht] at hl hstep ⊢
      have HC := Lib.hid (fun w1 (h1 : Tab w1) => HN.out x hx.1 hx.2 w1 h1)
      have HSt := Lib.hid hstep
      have HMr := Lib.hid hmr
      clear e0 hx hstep ht hmr hxx HA HN
      by_cases hk0 : 0 < k
      · rw [if_pos hk0] at HSt
        have hkp : decide ((0 : Int) < (k : Int)) = true := by simpa using hk0
        have hl2 : (t ++ [32]).length + (S x).length ≤ 1000000000 := by simp; omega
        have hl3 : t.length + [(32 : UInt8)].length ≤ 1000000000 := by simp; omega
        go_wp2_with fail
        refine (HC.out _ (HTb.out.same fun F => (HM.out.same F).trans (HMr.out.same F))).mono ?_
        rintro e w3 ⟨rfl, hb3⟩
        have HB3 := Lib.hid hb3
        clear hb3
        go_wp2_with fail
        go_roundw
        case rel => exact ⟨k + 1, by omega, by go_num, by rw [HSt.out]; simp only [ByteArray.mk_append_mk], HMr.out.below (Nat.le_refl _) HB3.out⟩
        case measure => simp [intOf]; omega
      · rw [if_neg hk0] at HSt
        have hkp : decide ((0 : Int) < (k : Int)) = false := by simpa using hk0
        have hl2 : t.length + (S x).length ≤ 1000000000 := by omega
        go_wp2_with fail
        refine (HC.out _ (HTb.out.same fun F => (HM.out.same F).trans (HMr.out.same F))).mono ?_
        rintro e w3 ⟨rfl, hb3⟩
        have HB3 := Lib.hid hb3
        clear hb3
        go_wp2_with fail
        go_roundw
        case rel => exact ⟨k + 1, by omega, by go_num, by rw [HSt.out]; simp only [ByteArray.mk_append_mk], HMr.out.below (Nat.le_refl _) HB3.out⟩
        case measure => simp [intOf]; omega
    · obtain rfl : k = ns.length := by omega
      have HMr := Lib.hid hmr
      rw [List.take_length]
      clear hmr
      go_wp2_with fail
      go_ret
      exact ⟨by rw [HT.out]; rfl, (HM.out.trans ⟨HMr.out.bel.mono HM.out.size, HMr.out.same⟩).bel⟩

end
end Go.Proofs.YtjincjepmkgalaaGreatDoor
