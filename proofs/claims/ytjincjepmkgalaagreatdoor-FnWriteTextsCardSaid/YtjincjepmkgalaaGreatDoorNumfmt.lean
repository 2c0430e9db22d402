/- Under the text of a number: fmtEFG under 'f', all cases in one. By an AI agent. -/
import Derived.Test.YtjincjepmkgalaaGreatDoorNumfive
namespace Go.Proofs.YtjincjepmkgalaaGreatDoor
open Go.RowKit

/-- fmtEFG appends a text that hangs on the sign, the digits and the point's place alone. -/
theorem fmt_any (neg sh : Bool) (L : List UInt8) (hLl : L.length ≤ 20) (q : Nat) (hq : q ≤ L.length) (D pr : Int) (hD : -352 ≤ D ∧ D ≤ 372) (hpr : pr = max ((q : Int) - D) 0) :
    ∃ out : List UInt8, out.length ≤ 400 ∧ ∀ (b : Nat) (w : World) (base : Nat) (v : Value) (bs : List UInt8), Own w base v bs → bs.length ≤ 1000000000 → base ≤ w.heap.size → Dig w b L → some b ≠ v.ownBlock →
      Calls Tryz.prog 110 #[v, .bool neg, .slice (some ⟨b, 0, none⟩) 32 32, .int .i64 D, .int .i64 q, .int .i64 pr, .int .u8 102, .bool sh] w (fun e w' => ∃ v', e = .returned v' ∧ App base v v' bs out w w') := by
  by_cases h0 : 0 < D
  · obtain ⟨p, rfl⟩ : ∃ p : Nat, D = (p : Int) := ⟨D.toNat, by omega⟩
    by_cases h1 : p < q
    · obtain ⟨mid, hmid⟩ : ∃ mid, p + mid = q := ⟨q - p, by omega⟩
      obtain rfl : pr = (mid : Int) := by omega
      cases neg
      · exact ⟨_, by simp; omega, fun b w base v bs h2 h3 h4 h5 h6 => fmt1f sh L hLl p q mid (by omega) (by omega) hmid hq b w base v bs h2 h3 h4 h5 h6⟩
      · exact ⟨_, by simp; omega, fun b w base v bs h2 h3 h4 h5 h6 => fmt1t sh L hLl p q mid (by omega) (by omega) hmid hq b w base v bs h2 h3 h4 h5 h6⟩
    · obtain ⟨z, hz⟩ : ∃ z, q + z = p := ⟨p - q, by omega⟩
      obtain rfl : pr = 0 := by omega
      cases neg
      · exact ⟨_, by simp; omega, fun b w base v bs h2 h3 h4 h5 h6 => fmt2f sh L hLl q z p (by omega) hz hq (by omega) b w base v bs h2 h3 h4 h5 h6⟩
      · exact ⟨_, by simp; omega, fun b w base v bs h2 h3 h4 h5 h6 => fmt2t sh L hLl q z p (by omega) hz hq (by omega) b w base v bs h2 h3 h4 h5 h6⟩
  · obtain ⟨z, rfl⟩ : ∃ z : Nat, D = -(z : Int) := ⟨(-D).toNat, by omega⟩
    by_cases h1 : 0 < q + z
    · obtain ⟨m, hm⟩ : ∃ m, q + z = m := ⟨_, rfl⟩
      obtain rfl : pr = (m : Int) := by omega
      cases neg
      · exact ⟨_, by simp; omega, fun b w base v bs h2 h3 h4 h5 h6 => fmt3f sh L hLl q z m (by omega) hm hq (by omega) b w base v bs h2 h3 h4 h5 h6⟩
      · exact ⟨_, by simp; omega, fun b w base v bs h2 h3 h4 h5 h6 => fmt3t sh L hLl q z m (by omega) hm hq (by omega) b w base v bs h2 h3 h4 h5 h6⟩
    · obtain rfl : z = 0 := by omega
      obtain rfl : q = 0 := by omega
      obtain rfl : pr = 0 := by omega
      cases neg
      · exact ⟨_, by simp, fun b w base v bs h2 h3 h4 _ _ => fmt4f sh _ _ _ 0 (by decide) w base v bs h2 h3 h4⟩
      · exact ⟨_, by simp, fun b w base v bs h2 h3 h4 _ _ => fmt4t sh _ _ _ 0 (by decide) w base v bs h2 h3 h4⟩

end Go.Proofs.YtjincjepmkgalaaGreatDoor
