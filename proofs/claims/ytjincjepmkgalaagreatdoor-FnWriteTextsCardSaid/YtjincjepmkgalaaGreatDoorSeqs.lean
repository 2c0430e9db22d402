/- geom.Sequence: its making, its length, its places. By an AI agent. -/
import Derived.Test.YtjincjepmkgalaaGreatDoorNumone
import Derived.Laws.CopyOwn
import Derived.Laws.OwnMore
namespace Go.Proofs.YtjincjepmkgalaaGreatDoor
open Go.RowKit

@[go_sem] theorem idx125_0 (w : World) : (Instr.index 125 (.agg #[.int .i64 2, .int .i64 3, .int .i64 3, .int .i64 4]) (.int .u8 0)).run Tryz.prog w = .ok (.int .i64 2) w := by kernel_rfl
@[go_sem] theorem idx125_1 (w : World) : (Instr.index 125 (.agg #[.int .i64 2, .int .i64 3, .int .i64 3, .int .i64 4]) (.int .u8 1)).run Tryz.prog w = .ok (.int .i64 3) w := by kernel_rfl
@[go_sem] theorem idx125_2 (w : World) : (Instr.index 125 (.agg #[.int .i64 2, .int .i64 3, .int .i64 3, .int .i64 4]) (.int .u8 2)).run Tryz.prog w = .ok (.int .i64 3) w := by kernel_rfl
@[go_sem] theorem idx125_3 (w : World) : (Instr.index 125 (.agg #[.int .i64 2, .int .i64 3, .int .i64 3, .int .i64 4]) (.int .u8 3)).run Tryz.prog w = .ok (.int .i64 4) w := by kernel_rfl

set_option maxRecDepth 100000 in
theorem dimension_any (d : Int) (h0 : 0 ≤ d) (h3 : d ≤ 3) (w : World) : Calls Tryz.prog 73 #[.int .u8 d] w (Ret (.int .i64 (widthN d)) w) := by
  have hd : d = 0 ∨ d = 1 ∨ d = 2 ∨ d = 3 := by omega
  rcases hd with rfl | rfl | rfl | rfl
  all_goals
    go_enter Tryz.func73, Tryz.ntmps73
    go_wp2
    go_ret
    exact ⟨rfl, rfl⟩

theorem dimOf_any (d : Int) (w : World) : Calls Tryz.prog 50 #[.int .i64 d] w (Ret (.int .u8 (d % 4)) w) := by
  have h1 := and3 d
  obtain ⟨e, he⟩ : ∃ e, d % 4 = e := ⟨_, rfl⟩
  rw [he] at h1 ⊢
  have h2 : IntKind.u8.wrap e = e := by rw [IntKind.wrap_u8]; omega
  clear he
  go_enter Tryz.func50, Tryz.ntmps50
  go_wp2_with fail
  go_ret
  exact ⟨rfl, rfl⟩

theorem length_any (d : Int) (h0 : 0 ≤ d) (h3 : d ≤ 3) (A : Option Addr) (n c : Nat) (hn : n ≤ 2000) (w : World) :
    Calls Tryz.prog 48 #[.agg #[.int .u8 d, .slice A n c]] w (fun e w' => e = .returned (.int .i64 ((n / widthN d : Nat) : Int)) ∧ More w.heap.size w w') := by
  have hwd := widthN_le d
  have HW := Lib.hid (dimension_any d h0 h3)
  obtain ⟨W, hW⟩ : ∃ W, widthN d = W := ⟨_, rfl⟩
  rw [hW] at HW hwd ⊢
  obtain ⟨hw2, hw4⟩ := hwd
  obtain ⟨q, hq⟩ : ∃ q, n / W = q := ⟨_, rfl⟩
  have hqn : q ≤ n := by rw [← hq]; exact Nat.div_le_self _ _
  have hdiv : wrap64 ((n : Int) / (W : Int)) = (q : Int) := by
    have : ((n : Int) / (W : Int)) = ((n / W : Nat) : Int) := rfl
    rw [this, hq]; unfold wrap64; omega
  rw [hq]
  have Hd := Lib.hid hdiv
  clear hW hq hdiv
  go_enter Tryz.func48, Tryz.ntmps48
  go_wp2_with fail
  go_quiet ((go_at_call 73; exact Calls.quiet_of_same (HW.out _)))
  go_wp2_with fail
  go_ret
  refine ⟨?_, ((More.refl _ w).alloc (Nat.le_refl _) _).drewN _⟩
  show Ending.returned (.int .i64 (wrap64 ((n : Int) / (W : Int)))) = _
  rw [Hd.out]

theorem make26 (n : Nat) (hn : n ≤ 2000) (w : World) : (Instr.makeSlice 26 (.int .i64 n) (.int .i64 n)).run Tryz.prog w = .ok (.slice (some ⟨w.heap.size, 0, none⟩) n n) (w.alloc (.cells (List.replicate n (.float .f64 0)).toArray 42)) := by
  obtain ⟨i, hi, hz, hs, hb⟩ := info_parts info42
  have hr := run_make (P := Tryz.prog) w 26 42 i _ Tryz.underlying26 hi hz .i64 .i64 n n (by omega) (by omega) (by rw [hb]; omega) (by omega)
  rw [hs] at hr
  simp only [Int.toNat_natCast, Nat.mul_one] at hr
  have he : madeCells (Value.float .f64 0).cells n = (List.replicate n (Value.float .f64 0)).toArray := by
    rw [← toList_madeCells_one]; simp [Value.cells]
  rw [he] at hr
  exact hr

theorem newseq_any (d : Int) (h0 : 0 ≤ d) (h3 : d ≤ 3) (A : Option Addr) (n c : Nat) (hn : n ≤ 2000) (hm : n % widthN d = 0) (w : World) :
    Calls Tryz.prog 74 #[.slice A n c, .int .u8 d] w (fun e w' => e = .returned (.agg #[.int .u8 d, .slice A n c]) ∧ More w.heap.size w w') := by
  have hwd := widthN_le d
  have HW := Lib.hid (dimension_any d h0 h3)
  obtain ⟨W, hW⟩ : ∃ W, widthN d = W := ⟨_, rfl⟩
  rw [hW] at HW hwd hm
  obtain ⟨hw2, hw4⟩ := hwd
  have hmod : ((n : Int) % (W : Int)) = 0 := by omega
  clear hW hm
  go_enter Tryz.func74, Tryz.ntmps74
  go_wp2_with fail
  refine (HW.out _).mono ?_
  rintro e w' ⟨rfl, rfl⟩
  go_wp2_with fail
  refine bodyPost_ret (v := .agg #[.int .u8 d, .slice A n c]) (by simp [results, Tryz.results74, go_sem]) rfl ?_
  exact ⟨rfl, (More.refl _ w).alloc (Nat.le_refl _) _⟩

theorem copy26 (w : World) (A : Option Addr) (c q g : Nat) (ns : List Nat) (hr : Rd w A ns.length 1 (ns.map (Value.float .f64))) (hq : q ≤ ns.length) (hg : Bk w g 42 (Array.replicate q (Value.float .f64 0))) :
    ∃ w2, (Builtin.copy_ #[26, 26] 3 #[.slice (some ⟨g, 0, none⟩) q q, .slice A ns.length c]).run Tryz.prog w = .ok (.int .i64 q) w2 ∧ Bk w2 g 42 ((ns.take q).map (Value.float .f64)).toArray ∧ Below g w w2 := by
  have hsz : (Tryz.prog.info? 42).map (·.size) = some 1 := by kernel_rfl
  rcases Nat.eq_zero_or_pos q with h0 | h0
  · subst h0
    refine ⟨w, run_copy_none (P := Tryz.prog) w 26 26 3 42 _ _ _ _ _ _ Tryz.underlying26 hsz (by simp), by simpa using hg, Below.refl _ _⟩
  · obtain ⟨b, o, rfl, hc⟩ := hr.2 (by omega)
    have hrun := run_copy_row (P := Tryz.prog) w 26 26 3 42 g 0 q q ⟨b, o, none⟩ ns.length c (Array.replicate q (Value.float .f64 0)) 42 ((ns.take q).map (Value.float .f64)) Tryz.underlying26 hsz hg
      (by rw [List.length_map, List.length_take]; exact Nat.min_comm _ _) (fun j v hj => by
        rw [addr_add]
        refine hc j v ?_
        rw [List.getElem?_map, List.getElem?_take] at hj
        rw [List.getElem?_map]
        split at hj
        · exact hj
        · cases hj) (by simp; omega) (by
        intro v hv
        obtain ⟨x, _, rfl⟩ := List.mem_map.1 hv
        rfl)
    have hl : ((ns.take q).map (Value.float .f64)).length = q := by rw [List.length_map, List.length_take]; omega
    rw [hl] at hrun
    refine ⟨_, hrun, ?_, below_setRow (Below.refl _ _) (Nat.le_refl _) _⟩
    have := setRow_heap w g (Array.replicate q (Value.float .f64 0)) (((Array.replicate q (Value.float .f64 0)).toList.take 0 ++ ((ns.take q).map (Value.float .f64)) ++ (Array.replicate q (Value.float .f64 0)).toList.drop (0 + q)).toArray) 42 _ hg
    unfold Bk
    rw [this]
    simp

theorem Bk.cl {w : World} {g : Nat} {t : TypeId} {cs : List Value} (h : Bk w g t cs.toArray) : Cl w g 0 cs := fun j u hu => by
  rw [Nat.zero_add, h.cell]; simpa using hu

set_option maxRecDepth 100000 in
set_option maxHeartbeats 1000000 in
theorem sequence_any (d : Int) (ns : List Nat) (v : Value) (w : World) (F : Nat → Prop) (hns : Sl w F 1 v (ns.map (Value.float .f64))) (hl : ns.length ≤ 2000) :
    Calls Tryz.prog 47 #[v, .int .i64 d] w (fun e w' => ∃ A c, e = .returned (.agg #[.int .u8 (d % 4), .slice A (ns.length / widthN (d % 4) * widthN (d % 4)) c]) ∧
      Sl w' (fun b => w.heap.size ≤ b) 1 (.slice A (ns.length / widthN (d % 4) * widthN (d % 4)) c) ((ns.take (ns.length / widthN (d % 4) * widthN (d % 4))).map (Value.float .f64)) ∧ Below w.heap.size w w') := by
  have HD := Lib.hid (dimOf_any d)
  obtain ⟨e, he⟩ : ∃ e, d % 4 = e := ⟨_, rfl⟩
  have he0 : 0 ≤ e := by omega
  have he3 : e ≤ 3 := by omega
  rw [he] at HD ⊢
  have hwd := widthN_le e
  have HW := Lib.hid (dimension_any e he0 he3)
  have HN := Lib.hid (newseq_any e he0 he3)
  obtain ⟨W, hW⟩ : ∃ W, widthN e = W := ⟨_, rfl⟩
  rw [hW] at HW hwd HN ⊢
  obtain ⟨hw2, hw4⟩ := hwd
  obtain ⟨q, hq⟩ : ∃ q, ns.length / W * W = q := ⟨_, rfl⟩
  rw [hq]
  have hqm : q % W = 0 := by rw [← hq]; exact Nat.mul_mod_left _ _
  have hqs : ns.length - ns.length % W = q := by
    have := Nat.div_add_mod ns.length W
    rw [Nat.mul_comm] at this
    omega
  have hqn : q ≤ ns.length := by omega
  have hsub : ((ns.length : Int) - (ns.length : Int) % (W : Int)) = (q : Int) := by
    rw [← hqs, ← Int.natCast_emod]
    have := Nat.mod_le ns.length W
    omega
  have hmk := make26 q (by omega)
  clear he hq hqs hW
  obtain ⟨A, c, rfl, hnc, hcm, hnm, hat⟩ := nums_at hns
  have Hat := Lib.hid hat
  have Hns := Lib.hid hns
  clear hat hns
  go_enter Tryz.func47, Tryz.ntmps47
  go_wp2_with fail
  refine (HD.out _).mono ?_
  rintro e1 w1 ⟨rfl, rfl⟩
  go_wp2_with fail
  refine (HW.out _).mono ?_
  rintro e1 w1 ⟨rfl, rfl⟩
  obtain ⟨w2, hcp, hB, hbel⟩ := copy26 ((w.alloc (.cells #[.int .u8 0, .slice none 0 0] 62)).alloc (.cells (Array.replicate q (.float .f64 0)) 42)) A c q (w.heap.size + 1) ns (Rd.of_sl (Hns.out.keep (((SameOn.refl F w).alloc _).alloc _))) hqn (Bk.new' (w.alloc _) 42 _ _ (by simp))
  have HB := Lib.hid hB
  have Hbel := Lib.hid hbel
  clear hB hbel
  go_wp2_with fail
  refine (HN.out _ _ _ (by omega) hqm _).mono ?_
  rintro e1 w3 ⟨rfl, hm3⟩
  have b0 : Bk w3 w.heap.size 62 #[.int .u8 0, .slice none 0 0] := (((Bk.new w 62 _).alloc _).below Hbel.out (by omega)).same (hm3.same fun _ => True) trivial
  have f0 := b0.free 0
  have f1 := b0.free 1
  have c0 := b0.cell 0
  have c1 := b0.cell 1
  simp at c0 c1
  have hlt := b0.lt
  have b1 : Bk w3 (w.heap.size + 1) 42 _ := HB.out.same (hm3.same fun _ => True) trivial
  go_wp2_with fail
  refine bodyPost_ret (v := .agg #[.int .u8 e, .slice (some ⟨w.heap.size + 1, 0, none⟩) q q]) (by simp [results, Tryz.results47, go_sem, hlt, c0, c1]) rfl ?_
  refine ⟨some ⟨w.heap.size + 1, 0, none⟩, q, rfl, ⟨_, _, _, rfl, Nat.le_refl _, by unfold maxLen; omega, by rw [List.length_map, List.length_take]; omega, by rw [List.length_map, List.length_take]; omega, fun _ => ⟨w.heap.size + 1, 0, rfl, by omega, ?_, ?_⟩⟩, ?_⟩
  · exact ((b1.far (by simp) _).far (by simp) _).lt
  · exact ((b1.far (by simp) _).far (by simp) _).cl
  · exact ((((((Below.refl _ w).alloc (by simp) _).alloc (by simp) _).trans (Hbel.out.mono (by omega))).trans (hm3.bel.mono (by have := Hbel.out.size; simp at this; omega))).setCell (by simp) _).setCell (by simp) _

end Go.Proofs.YtjincjepmkgalaaGreatDoor
