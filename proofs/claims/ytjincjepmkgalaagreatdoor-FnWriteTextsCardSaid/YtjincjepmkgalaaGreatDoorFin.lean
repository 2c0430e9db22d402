/- Numbers that are finite: what the guard's tests on floats say. By an AI agent. -/
import Derived.Test.YtjincjepmkgalaaGreatDoorBase
namespace Go.Proofs.YtjincjepmkgalaaGreatDoor
open Go.RowKit

theorem read_fin {x : Nat} (h : finB x = true) : ∃ s m e, Ieee.double.read x = .number s m e := by
  have hr : x % Ieee.double.signWeight < Ieee.double.infRung := by
    have h' : x / 4503599627370496 % 2048 ≠ 2047 := by simpa [finB] using h
    show x % 9223372036854775808 < 9218868437227405312
    omega
  unfold Ieee.Format.read
  by_cases h1 : x % Ieee.double.signWeight < Ieee.double.binade
  · exact ⟨_, _, _, by simp only [if_pos h1]; rfl⟩
  · exact ⟨_, _, _, by simp only [if_neg h1, if_pos hr]; rfl⟩

theorem order_fin {x : Nat} (h : finB x = true) : FloatKind.f64.format.order x x = some .eq := by
  obtain ⟨s, m, e, hr⟩ := read_fin h
  show (Ieee.double.read x).order (Ieee.double.read x) = some .eq
  rw [hr]
  simp [Ieee.Datum.order]

theorem sub_fin {x : Nat} (h : finB x = true) : FloatKind.f64.format.sub x x = some 0 := by
  obtain ⟨s, m, e, hr⟩ := read_fin h
  show ((Ieee.double.read x).sum (Ieee.double.read x).opposite).map Ieee.double.write = some 0
  rw [hr]
  have h0 : ∀ n : Nat, Ieee.signed s m n + Ieee.signed (!s) m n = 0 := by
    intro n; cases s <;> simp [Ieee.signed] <;> omega
  cases s <;> simp [Ieee.Datum.opposite, Ieee.Datum.sum, Ieee.signed, Ieee.Format.write, Ieee.Format.nearest, Ieee.Format.word] <;> simp [Int.add_left_neg, Int.add_right_neg]

theorem order_zero : FloatKind.f64.format.order 0 0 = some .eq := by decide +kernel

/-- Not finite: no number, or infinite. -/
theorem not_fin {x : Nat} (h : finB x = false) : FloatKind.f64.format.order x x = none ∨ (FloatKind.f64.format.order x x = some .eq ∧ FloatKind.f64.format.sub x x = none) := by
  have h' : x / 4503599627370496 % 2048 = 2047 := by simpa [finB] using h
  have hr : ¬ x % Ieee.double.signWeight < Ieee.double.infRung := by
    show ¬ x % 9223372036854775808 < 9218868437227405312
    omega
  have hb : ¬ x % Ieee.double.signWeight < Ieee.double.binade := by
    show ¬ x % 9223372036854775808 < 4503599627370496
    omega
  by_cases hi : x % Ieee.double.signWeight = Ieee.double.infRung
  · right
    have hrd : ∃ s, Ieee.double.read x = .infinity s := ⟨_, by unfold Ieee.Format.read; simp only [if_neg hb, if_neg hr, if_pos hi]; rfl⟩
    obtain ⟨s, hrd⟩ := hrd
    refine ⟨?_, ?_⟩
    · show (Ieee.double.read x).order (Ieee.double.read x) = some .eq
      rw [hrd]; simp [Ieee.Datum.order]
    · show ((Ieee.double.read x).sum (Ieee.double.read x).opposite).map Ieee.double.write = none
      rw [hrd]; cases s <;> simp [Ieee.Datum.opposite, Ieee.Datum.sum]
  · left
    have hrd : ∃ s f, Ieee.double.read x = .nan s f := ⟨_, _, by unfold Ieee.Format.read; simp only [if_neg hb, if_neg hr, if_neg hi]; rfl⟩
    obtain ⟨s, f, hrd⟩ := hrd
    show (Ieee.double.read x).order (Ieee.double.read x) = none
    rw [hrd]; simp [Ieee.Datum.order]

def nanAt (x : Nat) (w : World) : Nat := (Question.nanBits .f64 x x).cut (w.tape w.drawn (.nanBits .f64 x x))

theorem nan_order (x : Nat) (w : World) : FloatKind.f64.format.order (nanAt x w) 0 = none := by
  unfold nanAt
  generalize w.tape w.drawn (.nanBits .f64 x x) = t
  have hc : (Question.nanBits .f64 x x).cut t = (t % 2) * 9223372036854775808 + 9218868437227405312 + 1 + (t / 2) % 4503599627370495 := rfl
  rw [hc]
  generalize hy : (t % 2) * 9223372036854775808 + 9218868437227405312 + 1 + (t / 2) % 4503599627370495 = y
  have hq : (t / 2) % 4503599627370495 < 4503599627370495 := Nat.mod_lt _ (by decide)
  generalize (t / 2) % 4503599627370495 = q at *
  have hyq : y % 9223372036854775808 = 9218868437227405312 + 1 + q := by
    have h2 : t % 2 = 0 ∨ t % 2 = 1 := by omega
    rcases h2 with h2 | h2 <;> rw [h2] at hy <;> omega
  have hb : ¬ y % Ieee.double.signWeight < Ieee.double.binade := by
    show ¬ y % 9223372036854775808 < 4503599627370496
    omega
  have hr : ¬ y % Ieee.double.signWeight < Ieee.double.infRung := by
    show ¬ y % 9223372036854775808 < 9218868437227405312
    omega
  have hi : ¬ y % Ieee.double.signWeight = Ieee.double.infRung := by
    show ¬ y % 9223372036854775808 = 9218868437227405312
    omega
  have hrd : ∃ s f, Ieee.double.read y = .nan s f := ⟨_, _, by unfold Ieee.Format.read; simp only [if_neg hb, if_neg hr, if_neg hi]; rfl⟩
  obtain ⟨s, f, hrd⟩ := hrd
  show (Ieee.double.read y).order (Ieee.double.read 0) = none
  rw [hrd]; simp [Ieee.Datum.order]

theorem run_sub_inf (t : TypeId) (x : Nat) (h : FloatKind.f64.format.sub x x = none) (w : World) :
    (binOp .sub t (.float .f64 x) (.float .f64 x)).run Tryz.prog w = .ok (.float .f64 (nanAt x w)) w.drew := by
  have hf : (Question.nanBits FloatKind.f64 x x).forced = false := rfl
  simp only [binOp, Op.floatArith, h]
  simp [nanAt, hf]

end Go.Proofs.YtjincjepmkgalaaGreatDoor
