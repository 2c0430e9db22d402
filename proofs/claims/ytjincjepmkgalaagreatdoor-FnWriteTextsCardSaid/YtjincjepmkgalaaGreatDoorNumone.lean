/- Small functions under the text of a number: each returns a value of its arguments alone. By an AI agent. -/
import Derived.Test.YtjincjepmkgalaaGreatDoorText
import Derived.Lib.LaidTab
import Derived.Lib.ItoaNum
import Derived.Test.YtjincjepmkgalaaGreatDoorLenof
namespace Go.Proofs.YtjincjepmkgalaaGreatDoor
open Go.RowKit

def Ret (v : Value) (w : World) (e : Ending) (w' : World) : Prop := e = .returned v ∧ w' = w

theorem mul64_any (x y : Int) : ∃ hi lo : Int, ∀ w, Calls Tryz.prog 145 #[.int .u64 x, .int .u64 y] w (Ret (.tuple #[.int .u64 hi, .int .u64 lo]) w) := by
  apply Exists.intro; apply Exists.intro; intro w
  go_enter Tryz.func145, Tryz.ntmps145
  go_wp2_with fail
  go_ret2
  exact ⟨rfl, rfl⟩

theorem log2Pow10_any (x : Int) (w : World) : Calls Tryz.prog 127 #[.int .i64 x] w (Ret (.int .i64 (wrap64 (x * 108853) / 32768)) w) := by
  go_enter Tryz.func127, Tryz.ntmps127
  go_wp2_with fail
  go_ret
  exact ⟨rfl, rfl⟩

theorem log10Pow2_any (x : Int) (w : World) : Calls Tryz.prog 115 #[.int .i64 x] w (Ret (.int .i64 (wrap64 (x * 78913) / 262144)) w) := by
  go_enter Tryz.func115, Tryz.ntmps115
  go_wp2_with fail
  go_ret
  exact ⟨rfl, rfl⟩

theorem nudge_any (u o : Int) (w : World) : Calls Tryz.prog 129 #[.int .u64 u, .int .i64 o] w (Ret (.int .u64 (IntKind.u64.wrap (u + IntKind.u64.wrap o))) w) := by
  go_enter Tryz.func129, Tryz.ntmps129
  go_wp2_with fail
  go_ret
  exact ⟨rfl, rfl⟩
theorem ceil_any (u : Int) (w : World) : Calls Tryz.prog 130 #[.int .u64 u] w (Ret (.int .u64 (IntKind.u64.wrap (u + 3) / 4)) w) := by
  go_enter Tryz.func130, Tryz.ntmps130
  go_wp2_with fail
  go_ret
  exact ⟨rfl, rfl⟩

theorem floor_any (u : Int) (w : World) : Calls Tryz.prog 131 #[.int .u64 u] w (Ret (.int .u64 (IntKind.u64.wrap u / 4)) w) := by
  go_enter Tryz.func131, Tryz.ntmps131
  go_wp2_with fail
  go_ret
  exact ⟨rfl, rfl⟩
theorem round_any (u : Int) (w : World) : Calls Tryz.prog 132 #[.int .u64 u] w (Ret (.int .u64 (IntKind.u64.wrap (IntKind.u64.wrap (u + 1) + bits BinOp.and IntKind.u64 (u / 4) 1) / 4)) w) := by
  go_enter Tryz.func132, Tryz.ntmps132
  go_wp2_with fail
  go_ret
  exact ⟨rfl, rfl⟩
theorem skewed_any (u : Int) (w : World) : Calls Tryz.prog 125 #[.int .i64 u] w (Ret (.int .i64 (wrap64 (wrap64 (u * 631305) - 261663) / 2097152)) w) := by
  go_enter Tryz.func125, Tryz.ntmps125
  go_wp2_with fail
  go_ret
  exact ⟨rfl, rfl⟩
theorem bool2u_any (b : Bool) (w : World) : Calls Tryz.prog 146 #[.bool b] w (Ret (.int .u64 (if b then 1 else 0)) w) := by
  cases b
  all_goals
    go_enter Tryz.func146, Tryz.ntmps146
    go_wp2_with fail
    go_ret
    exact ⟨rfl, rfl⟩
theorem bool2i_any (b : Bool) (w : World) : Calls Tryz.prog 134 #[.bool b] w (Ret (.int .i64 (if b then 1 else 0)) w) := by
  cases b
  all_goals
    go_enter Tryz.func134, Tryz.ntmps134
    go_wp2_with fail
    go_ret
    exact ⟨rfl, rfl⟩
end Go.Proofs.YtjincjepmkgalaaGreatDoor
