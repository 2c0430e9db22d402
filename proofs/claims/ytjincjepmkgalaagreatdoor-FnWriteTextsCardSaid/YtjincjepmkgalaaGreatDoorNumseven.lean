/- There is one text for each number, which ftoa64 appends. By an AI agent. -/
import Derived.Test.YtjincjepmkgalaaGreatDoorNumsix
namespace Go.Proofs.YtjincjepmkgalaaGreatDoor

theorem ftoa_at (x : Nat) (hx : x < 18446744073709551616) (hf : finB x = true) : FtoaAt x := by
  have hE : x / 4503599627370496 % 2048 ≠ 2047 := by simpa [finB] using hf
  by_cases h0 : x / 4503599627370496 % 2048 = 0
  · by_cases h1 : x % 4503599627370496 = 0
    · exact ftoa_zero x hx h0 h1
    · exact ftoa_sub x (x % 4503599627370496) hx h0 rfl (by omega)
  · exact ftoa_norm x (x / 4503599627370496 % 2048) (x % 4503599627370496) hx rfl rfl (by omega) (by omega)


/-- The text of a number. -/
noncomputable def numText (x : Nat) : List UInt8 := if h : x < 18446744073709551616 ∧ finB x = true then Classical.choose (ftoa_at x h.1 h.2) else []

theorem num_ok : NumOk numText := by
  refine ⟨fun x => ?_, fun x hx hf w base v bs ht ho hb hbase => ?_⟩
  · unfold numText
    split
    · rename_i h
      exact (Classical.choose_spec (ftoa_at x h.1 h.2)).1
    · simp
  · have h : x < 18446744073709551616 ∧ finB x = true := ⟨hx, hf⟩
    have := (Classical.choose_spec (ftoa_at x h.1 h.2)).2 w base v bs ht ho hb hbase
    unfold numText
    rw [dif_pos h]
    exact this

end Go.Proofs.YtjincjepmkgalaaGreatDoor
