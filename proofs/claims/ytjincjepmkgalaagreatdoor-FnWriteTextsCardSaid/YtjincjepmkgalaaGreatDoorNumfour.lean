/- Under the text of a number: its digits laid into a row. By an AI agent. -/
import Derived.Test.YtjincjepmkgalaaGreatDoorNumtwo
import Derived.Test.YtjincjepmkgalaaGreatDoorShelf
namespace Go.Proofs.YtjincjepmkgalaaGreatDoor
open Go.RowKit

def digs (d nd : Nat) : List UInt8 := (List.range nd).map fun t => Lib.dg d (nd - 1 - t)
theorem digs_length (d nd : Nat) : (digs d nd).length = nd := by simp [digs]

/-- The first cells of block b read as the bytes L. -/
def Dig (w : World) (b : Nat) (L : List UInt8) : Prop := b < w.heap.size ∧ ∀ (i : Nat) (x : UInt8), L[i]? = some x → w.cell? ⟨b, i, none⟩ = some (.int .u8 x.toNat)
theorem Dig.same {w w' : World} {b : Nat} {L : List UInt8} {F : Nat → Prop} (h : Dig w b L) (hs : SameOn F w w') (hb : F b) : Dig w' b L :=
  ⟨Nat.lt_of_lt_of_le h.1 hs.1, fun i x hx => (World.cell?_of_block (a := ⟨b, i, none⟩) (hs.2 b h.1 hb)).trans (h.2 i x hx)⟩

abbrev encU : UInt8 → Value := fun b => Value.int .u8 (b.toNat : Int)

theorem sameOn_putRow (w : World) (b : Nat) (dk : Array UInt8) : SameOn (fun x => x ≠ b) w (Go.Sort.putRow encU w b 0 dk) := by
  refine ⟨by simp, fun x hx hF => ?_⟩
  show (w.heap.modify b _)[x]? = w.heap[x]?
  rw [Array.getElem?_modify]
  simp [Ne.symm hF]

theorem below_putRow (w : World) (b : Nat) (dk : Array UInt8) : Below b w (Go.Sort.putRow encU w b 0 dk) :=
  ⟨rfl, rfl, rfl, by simp, fun x hx => by
    show (w.heap.modify b _)[x]? = w.heap[x]?
    rw [Array.getElem?_modify]
    have : ¬ b = x := by omega
    simp [this]⟩

theorem fb10 (d nd b : Nat) (w : World) (hb : b < w.heap.size) (hc : ∀ i, i < 32 → w.cell? ⟨b, i, none⟩ = some (.int .u8 0) ∧ w.frozen? ⟨b, i, none⟩ = false) (h1 : d < 10 ^ nd) (h2 : d < 18446744073709551616) (h3 : nd ≤ 20) :
    Calls Tryz.prog 133 #[.slice (some ⟨b, 0, none⟩) nd 32, .int .u64 d] w (fun e w' => e = .returned (.tuple #[]) ∧ Dig w' b (digs d nd) ∧ SameOn (fun x => x ≠ b) w w' ∧ Below b w w') := by
  have hH : Go.Sort.Holds encU w b 0 (Array.replicate nd (0 : UInt8)) := by
    intro j hj
    simp at hj
    rw [Nat.zero_add]
    have hz : (Array.replicate nd (0 : UInt8))[j]! = 0 := by simp [hj]
    rw [hz]
    exact hc j (by omega)
  have h := Tryz.internal_strconv_formatBase10 b 0 32 d (Array.replicate nd (0 : UInt8)) w hH (by simpa using h1) h2 (by simp; omega)
  rw [Array.size_replicate] at h
  refine h.mono ?_
  rintro e w' ⟨rfl, n, v', dk, rfl, hf⟩
  have hs := sameOn_putRow w b dk
  have hbl := below_putRow w b dk
  refine ⟨rfl, ⟨Nat.lt_of_lt_of_le hb (by simp), fun i x hx => ?_⟩, hs.drewN n, below_dN hbl n⟩
  have hi : i < nd := by have := (List.getElem?_eq_some_iff.1 hx).1; rwa [digs_length] at this
  have hcell := (Go.Sort.holds_putRow encU w b 0 _ dk hH (by rw [hf.size]; simp)) i (by rw [hf.size]; exact hi)
  rw [Nat.zero_add] at hcell
  have hx2 : x = dk[i]! := by
    rw [hf.done i (Nat.zero_le _) hi]
    simp [digs, hi] at hx
    exact hx.symm
  rw [hx2]
  exact hcell.1

/-- How many digits are left when the noughts at the end go. -/
def strip (L : List UInt8) : Nat → Nat
  | 0 => 0
  | k + 1 => if L[k]? = some 48 then strip L k else k + 1
theorem strip_le (L : List UInt8) (k : Nat) : strip L k ≤ k := by
  induction k with
  | zero => simp [strip]
  | succ k ih => rw [strip]; split <;> omega

set_option maxRecDepth 100000 in
set_option maxHeartbeats 4000000 in
theorem setDigits_any (d nd : Nat) (p : Int) (h1 : d < 10 ^ nd) (h2 : d < 18446744073709551616) (h3 : nd ≤ 20) (hp : -1000 ≤ p ∧ p ≤ 1000) (b : Nat) (w : World) (hb : b < w.heap.size)
    (hc : ∀ i, i < 32 → w.cell? ⟨b, i, none⟩ = some (.int .u8 0) ∧ w.frozen? ⟨b, i, none⟩ = false) :
    Calls Tryz.prog 113 #[.slice (some ⟨b, 0, none⟩) 32 32, .int .u64 d, .int .i64 p, .int .i64 nd] w
      (fun e w' => e = .returned (.tuple #[.int .i64 (nd + p), .int .i64 (strip (digs d nd) nd)]) ∧ Dig w' b (digs d nd) ∧ SameOn (fun x => x ≠ b) w w' ∧ Below b w w') := by
  have HF := Lib.hid (fb10 d nd b w hb hc h1 h2 h3)
  have hlen := digs_length d nd
  obtain ⟨L, hL⟩ : ∃ L, digs d nd = L := ⟨_, rfl⟩
  rw [hL] at HF hlen ⊢
  obtain ⟨hp1, hp2⟩ := hp
  have hw : wrap64 ((nd : Int) + p) = (nd : Int) + p := by unfold wrap64; omega
  clear h1 hc hL
  go_enter Tryz.func113, Tryz.ntmps113
  go_wp2_with fail
  refine HF.out.mono ?_
  rintro e w1 ⟨rfl, hdig, hs, hbl⟩
  have hl1 := hdig.1
  have HD := Lib.hid hdig
  have HS := Lib.hid hs
  have HB := Lib.hid hbl
  clear hdig hs hbl HF
  go_wp2_with fail
  go_loopw [3] (fun i wr => ∃ k : Nat, k ≤ nd ∧ i = .int .i64 k ∧ strip L k = strip L nd ∧ wr = w1) (fun i _ => (intOf i).toNat)
  case atStart => exact ⟨nd, Nat.le_refl _, rfl, rfl, rfl⟩
  case round =>
    obtain ⟨k, hk, rfl, hst, rfl⟩ := hrel
    rcases Nat.eq_zero_or_pos k with h0 | h0
    · subst h0
      have hz : Hid (strip L nd = 0) := hst.symm
      clear hst
      go_wp2_with fail
      go_ret2
      exact ⟨by rw [hz.out]; rfl, HD.out, HS.out, HB.out⟩
    · obtain ⟨j, rfl⟩ : ∃ j, k = j + 1 := ⟨k - 1, by omega⟩
      have hj : j < L.length := by omega
      have hcell := HD.out.2 j L[j] (List.getElem?_eq_getElem hj)
      rw [strip, List.getElem?_eq_getElem hj] at hst
      obtain ⟨x, hx⟩ : ∃ x, L[j] = x := ⟨_, rfl⟩
      rw [hx] at hcell hst
      by_cases hx8 : x = 48
      · subst hx8
        rw [if_pos rfl] at hst
        have HSt := Lib.hid hst
        clear hst hx
        have hpj : wrap64 (((j + 1 : Nat) : Int) - 1) = (j : Int) := by unfold wrap64; omega
        go_wp2_with fail
        go_roundw
        case rel => exact ⟨j, by omega, by go_num, HSt.out, trivial⟩
        case measure => simp [intOf]
      · have hne : ((x.toNat : Int) == 48) = false := by
          rw [beq_eq_false_iff_ne]
          intro h
          apply hx8
          apply UInt8.toNat_inj.1
          simp
          omega
        rw [if_neg (by simpa using hx8)] at hst
        have HSt : Hid (strip L nd = j + 1) := hst.symm
        have hpj : wrap64 (((j + 1 : Nat) : Int) - 1) = (j : Int) := by unfold wrap64; omega
        clear hst hx hx8
        go_wp2_with fail
        go_ret2
        exact ⟨by rw [HSt.out]; rfl, HD.out, HS.out, HB.out⟩

end Go.Proofs.YtjincjepmkgalaaGreatDoor
