/- Small functions of the reference, and words for what they make. By an AI agent. -/
import Derived.Test.YtjincjepmkgalaaGreatDoorBase
namespace Go.Proofs.YtjincjepmkgalaaGreatDoor
open Go.RowKit

@[go_sem] theorem store_float_rule (P : Program) (w : World) (a : Addr) (m : Mode) (k : FloatKind) (b : Nat) : (store a (.float k b) m).run P w = stored P w a (.float k b) m := run_store P w a _ m rfl
@[go_sem] theorem and_0_1 : bits BinOp.and IntKind.i64 0 1 = 0 := by decide +kernel
@[go_sem] theorem and_0_2 : bits BinOp.and IntKind.i64 0 2 = 0 := by decide +kernel
@[go_sem] theorem and_0_3 : bits BinOp.and IntKind.i64 0 3 = 0 := by decide +kernel
@[go_sem] theorem and_1_1 : bits BinOp.and IntKind.i64 1 1 = 1 := by decide +kernel
@[go_sem] theorem and_1_2 : bits BinOp.and IntKind.i64 1 2 = 0 := by decide +kernel
@[go_sem] theorem and_1_3 : bits BinOp.and IntKind.i64 1 3 = 1 := by decide +kernel
@[go_sem] theorem and_2_1 : bits BinOp.and IntKind.i64 2 1 = 0 := by decide +kernel
@[go_sem] theorem and_2_2 : bits BinOp.and IntKind.i64 2 2 = 2 := by decide +kernel
@[go_sem] theorem and_2_3 : bits BinOp.and IntKind.i64 2 3 = 2 := by decide +kernel
@[go_sem] theorem and_3_1 : bits BinOp.and IntKind.i64 3 1 = 1 := by decide +kernel
@[go_sem] theorem and_3_2 : bits BinOp.and IntKind.i64 3 2 = 2 := by decide +kernel
@[go_sem] theorem and_3_3 : bits BinOp.and IntKind.i64 3 3 = 3 := by decide +kernel
@[go_sem] theorem and8_0_1 : bits BinOp.and IntKind.u8 0 1 = 0 := by decide +kernel
@[go_sem] theorem and8_0_2 : bits BinOp.and IntKind.u8 0 2 = 0 := by decide +kernel
@[go_sem] theorem and8_1_1 : bits BinOp.and IntKind.u8 1 1 = 1 := by decide +kernel
@[go_sem] theorem and8_1_2 : bits BinOp.and IntKind.u8 1 2 = 0 := by decide +kernel
@[go_sem] theorem and8_2_1 : bits BinOp.and IntKind.u8 2 1 = 0 := by decide +kernel
@[go_sem] theorem and8_2_2 : bits BinOp.and IntKind.u8 2 2 = 2 := by decide +kernel
@[go_sem] theorem and8_3_1 : bits BinOp.and IntKind.u8 3 1 = 1 := by decide +kernel
@[go_sem] theorem and8_3_2 : bits BinOp.and IntKind.u8 3 2 = 2 := by decide +kernel

theorem leaf_any (k : Int) (w : World) :
    Calls Tryz.prog 17 #[.int .i64 k] w fun e w' => e = .returned (.bool (isLeaf k)) ∧ w = w' := by
  by_cases h1 : k = 1
  · subst h1
    go_enter Tryz.func17, Tryz.ntmps17
    go_wp2
    go_ret
    exact ⟨rfl, rfl⟩
  · have h1' : (k == 1) = false := by simpa using h1
    by_cases h2 : k = 2
    · subst h2
      go_enter Tryz.func17, Tryz.ntmps17
      go_wp2
      go_ret
      exact ⟨rfl, rfl⟩
    · have h2' : (k == 2) = false := by simpa using h2
      have hf : Hid (isLeaf k = false) := by simp [Hid, isLeaf, h1, h2]
      go_enter Tryz.func17, Tryz.ntmps17
      go_wp2
      go_ret
      exact ⟨by rw [hf.out]; rfl, rfl⟩

theorem width_any (d : Int) (h0 : 0 ≤ d) (h3 : d ≤ 3) (w : World) :
    Calls Tryz.prog 18 #[.int .i64 d] w fun e w' => e = .returned (.int .i64 (widthN d)) ∧ w = w' := by
  have hd : d = 0 ∨ d = 1 ∨ d = 2 ∨ d = 3 := by omega
  rcases hd with rfl | rfl | rfl | rfl
  all_goals
    go_enter Tryz.func18, Tryz.ntmps18
    go_wp2
    go_ret
    exact ⟨rfl, rfl⟩

theorem kidOf_any (k : Int) (w : World) :
    Calls Tryz.prog 19 #[.int .i64 k] w fun e w' => e = .returned (.int .i64 (kidOfN k)) ∧ w = w' := by
  by_cases h4 : k = 4
  · subst h4; go_enter Tryz.func19, Tryz.ntmps19; go_wp2; go_ret; exact ⟨rfl, rfl⟩
  by_cases h3 : k = 3
  · subst h3; go_enter Tryz.func19, Tryz.ntmps19; go_wp2; go_ret; exact ⟨rfl, rfl⟩
  by_cases h5 : k = 5
  · subst h5; go_enter Tryz.func19, Tryz.ntmps19; go_wp2; go_ret; exact ⟨rfl, rfl⟩
  by_cases h6 : k = 6
  · subst h6; go_enter Tryz.func19, Tryz.ntmps19; go_wp2; go_ret; exact ⟨rfl, rfl⟩
  have g4 : (k == 4) = false := by simpa using h4
  have g3 : (k == 3) = false := by simpa using h3
  have g5 : (k == 5) = false := by simpa using h5
  have g6 : (k == 6) = false := by simpa using h6
  have hf : Hid (kidOfN k = -1) := by simp [Hid, kidOfN, h4, h3, h5, h6]
  clear h4 h3 h5 h6
  go_enter Tryz.func19, Tryz.ntmps19
  go_wp2
  go_ret
  exact ⟨by rw [hf.out]; rfl, rfl⟩

theorem kindName_any (k : Int) (w : World) :
    Calls Tryz.prog 12 #[.int .i64 k] w fun e w' => e = .returned (.string ⟨(kindBytes k).toArray⟩) ∧ w = w' := by
  by_cases h1 : k = 1
  · subst h1; go_enter Tryz.func12, Tryz.ntmps12; go_wp2; go_ret; exact ⟨rfl, rfl⟩
  by_cases h2 : k = 2
  · subst h2; go_enter Tryz.func12, Tryz.ntmps12; go_wp2; go_ret; exact ⟨rfl, rfl⟩
  by_cases h3 : k = 3
  · subst h3; go_enter Tryz.func12, Tryz.ntmps12; go_wp2; go_ret; exact ⟨rfl, rfl⟩
  by_cases h4 : k = 4
  · subst h4; go_enter Tryz.func12, Tryz.ntmps12; go_wp2; go_ret; exact ⟨rfl, rfl⟩
  by_cases h5 : k = 5
  · subst h5; go_enter Tryz.func12, Tryz.ntmps12; go_wp2; go_ret; exact ⟨rfl, rfl⟩
  by_cases h6 : k = 6
  · subst h6; go_enter Tryz.func12, Tryz.ntmps12; go_wp2; go_ret; exact ⟨rfl, rfl⟩
  have g1 : (k == 1) = false := by simpa using h1
  have g2 : (k == 2) = false := by simpa using h2
  have g4 : (k == 4) = false := by simpa using h4
  have g3 : (k == 3) = false := by simpa using h3
  have g5 : (k == 5) = false := by simpa using h5
  have g6 : (k == 6) = false := by simpa using h6
  have hf : Hid (kindBytes k = [71, 69, 79, 77, 69, 84, 82, 89, 67, 79, 76, 76, 69, 67, 84, 73, 79, 78]) := by simp [Hid, kindBytes, h1, h2, h4, h3, h5, h6]
  clear h1 h2 h4 h3 h5 h6
  go_enter Tryz.func12, Tryz.ntmps12
  go_wp2
  go_ret
  exact ⟨by rw [hf.out]; rfl, rfl⟩

theorem dimName_any (d : Int) (h0 : 0 ≤ d) (h3 : d ≤ 3) (w : World) :
    Calls Tryz.prog 13 #[.int .i64 d] w fun e w' => e = .returned (.string ⟨(dimBytes d).toArray⟩) ∧ w = w' := by
  have hd : d = 0 ∨ d = 1 ∨ d = 2 ∨ d = 3 := by omega
  rcases hd with rfl | rfl | rfl | rfl
  all_goals
    go_enter Tryz.func13, Tryz.ntmps13
    go_wp2
    go_ret
    exact ⟨rfl, rfl⟩

end Go.Proofs.YtjincjepmkgalaaGreatDoor
