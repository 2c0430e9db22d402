/- geom.appendFloat: the text of a number appended. By an AI agent. -/
import Derived.Test.YtjincjepmkgalaaGreatDoorText
namespace Go.Proofs.YtjincjepmkgalaaGreatDoor
open Go.RowKit

/-- What a function leaves that appends the bytes out. -/
def AppPost (base : Nat) (v : Value) (bs out : List UInt8) (w : World) (e : Ending) (w' : World) : Prop := ∃ v', e = .returned v' ∧ App base v v' bs out w w'

section
variable {S : Nat → List UInt8} (hS : NumOk S)
include hS

theorem appendFloat_any (x : Nat) (hx : x < 18446744073709551616) (hf : finB x = true) (w : World) (base : Nat) (v : Value) (bs : List UInt8) (ht : Tab w) (hown : Own w base v bs) (hbs : bs.length ≤ 1000000000) (hbase : base ≤ w.heap.size) :
    Calls Tryz.prog 99 #[v, .float .f64 x] w (AppPost base v bs (S x) w) := by
  have HF := Lib.hid (hS.ftoa x hx hf w base v bs ht hown hbs hbase)
  obtain ⟨A, c, rfl⟩ := hown.shape
  clear hS hown ht hbs
  have H121 : Hid (Calls Tryz.prog 121 #[.slice A bs.length c, .float .f64 x, .int .u8 102, .int .i64 (-1), .int .i64 64] w (AppPost base (.slice A bs.length c) bs (S x) w)) := by
    unfold Hid
    go_enter Tryz.func121, Tryz.ntmps121
    go_wp2_with fail
    refine HF.out.mono ?_
    rintro e w1 ⟨v', rfl, happ⟩
    obtain ⟨A1, c1, n1, rfl, hn1⟩ : ∃ A1 c1 n1, v' = .slice A1 n1 c1 ∧ (bs ++ S x).length = n1 := by obtain ⟨A1, c1, rfl⟩ := happ.shape; exact ⟨_, _, _, rfl, rfl⟩
    have HA := Lib.hid happ
    clear happ hn1
    go_wp2_with fail
    go_ret
    exact ⟨_, rfl, HA.out⟩
  have H105 : Hid (Calls Tryz.prog 105 #[.slice A bs.length c, .float .f64 x, .int .u8 102, .int .i64 (-1), .int .i64 64] w (AppPost base (.slice A bs.length c) bs (S x) w)) := by
    unfold Hid
    go_enter Tryz.func105, Tryz.ntmps105
    go_wp2_with fail
    refine H121.out.mono ?_
    rintro e w1 ⟨v', rfl, happ⟩
    obtain ⟨A1, c1, n1, rfl, hn1⟩ : ∃ A1 c1 n1, v' = .slice A1 n1 c1 ∧ (bs ++ S x).length = n1 := by obtain ⟨A1, c1, rfl⟩ := happ.shape; exact ⟨_, _, _, rfl, rfl⟩
    have HA := Lib.hid happ
    clear happ hn1
    go_wp2_with fail
    go_ret
    exact ⟨_, rfl, HA.out⟩
  clear H121 HF
  go_enter Tryz.func99, Tryz.ntmps99
  go_wp2_with fail
  refine H105.out.mono ?_
  rintro e w1 ⟨v', rfl, happ⟩
  obtain ⟨A1, c1, n1, rfl, hn1⟩ : ∃ A1 c1 n1, v' = .slice A1 n1 c1 ∧ (bs ++ S x).length = n1 := by obtain ⟨A1, c1, rfl⟩ := happ.shape; exact ⟨_, _, _, rfl, rfl⟩
  have HA := Lib.hid happ
  clear happ hn1
  go_wp2_with fail
  go_ret
  exact ⟨_, rfl, HA.out⟩
end
end Go.Proofs.YtjincjepmkgalaaGreatDoor
