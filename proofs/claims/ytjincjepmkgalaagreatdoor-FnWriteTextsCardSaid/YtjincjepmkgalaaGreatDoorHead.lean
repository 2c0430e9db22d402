/- geom.appendWKTHeader, appendWKTEmpty: a text's head, and the word for nothing. By an AI agent. -/
import Derived.Test.YtjincjepmkgalaaGreatDoorGeom
namespace Go.Proofs.YtjincjepmkgalaaGreatDoor
open Go.RowKit

/-- What stands behind the kind's name. -/
def dimB (d : Int) : List UInt8 := if d = 0 then [] else 32 :: dimBytes d ++ [32]

@[go_sem] theorem idx121_0 (w : World) : (Instr.index 121 (.agg #[.string ⟨#[]⟩, .string ⟨#[32, 90, 32]⟩, .string ⟨#[32, 77, 32]⟩, .string ⟨#[32, 90, 77, 32]⟩]) (.int .u8 0)).run Tryz.prog w = .ok (.string ⟨#[]⟩) w := by kernel_rfl
@[go_sem] theorem idx121_1 (w : World) : (Instr.index 121 (.agg #[.string ⟨#[]⟩, .string ⟨#[32, 90, 32]⟩, .string ⟨#[32, 77, 32]⟩, .string ⟨#[32, 90, 77, 32]⟩]) (.int .u8 1)).run Tryz.prog w = .ok (.string ⟨#[32, 90, 32]⟩) w := by kernel_rfl
@[go_sem] theorem idx121_2 (w : World) : (Instr.index 121 (.agg #[.string ⟨#[]⟩, .string ⟨#[32, 90, 32]⟩, .string ⟨#[32, 77, 32]⟩, .string ⟨#[32, 90, 77, 32]⟩]) (.int .u8 2)).run Tryz.prog w = .ok (.string ⟨#[32, 77, 32]⟩) w := by kernel_rfl
@[go_sem] theorem idx121_3 (w : World) : (Instr.index 121 (.agg #[.string ⟨#[]⟩, .string ⟨#[32, 90, 32]⟩, .string ⟨#[32, 77, 32]⟩, .string ⟨#[32, 90, 77, 32]⟩]) (.int .u8 3)).run Tryz.prog w = .ok (.string ⟨#[32, 90, 77, 32]⟩) w := by kernel_rfl

set_option maxRecDepth 100000 in
theorem header_any (s : List UInt8) (hs : s.length ≤ 20) (d : Int) (h0 : 0 ≤ d) (h3 : d ≤ 3) (w : World) (base : Nat) (v : Value) (bs : List UInt8) (hown : Own w base v bs) (hbs : bs.length ≤ 999000000) (hbase : base ≤ w.heap.size) :
    Calls Tryz.prog 65 #[v, .string ⟨s.toArray⟩, .int .u8 d] w (AppPost base v bs (s ++ dimB d) w) := by
  obtain ⟨A, c, rfl⟩ := hown.shape
  have HBs := Lib.hid hbs
  have hd : d = 0 ∨ d = 1 ∨ d = 2 ∨ d = 3 := by omega
  obtain ⟨n, hn⟩ : ∃ n, bs.length = n := ⟨_, rfl⟩
  have HO := Lib.hid hown
  rw [hn] at HO ⊢
  clear hown hbs hn
  rcases hd with rfl | rfl | rfl | rfl
  case' inl => obtain ⟨L, hL⟩ : ∃ L : List UInt8, L = [] := ⟨_, rfl⟩
  case' inr.inl => obtain ⟨L, hL⟩ : ∃ L : List UInt8, L = [32, 90, 32] := ⟨_, rfl⟩
  case' inr.inr.inl => obtain ⟨L, hL⟩ : ∃ L : List UInt8, L = [32, 77, 32] := ⟨_, rfl⟩
  case' inr.inr.inr => obtain ⟨L, hL⟩ : ∃ L : List UInt8, L = [32, 90, 77, 32] := ⟨_, rfl⟩
  all_goals
    have HL := Lib.hid hL
    have hLl : L.length ≤ 4 := by rw [hL]; simp
    clear hL
    go_enter Tryz.func65, Tryz.ntmps65
    go_wp2_with (at_builtin; refine apps_law _ rfl _ _ 22 9 rfl Tryz.underlying22 Tryz.underlying9 info5 base (.slice A n c) bs s rfl ?o rfl ?h ?bb ?_)
    case o => exact HO.out
    case h => have := HBs.out; omega
    case bb => exact hbase
    intro v' w4 happ
    obtain ⟨A1, c1, n1, rfl, hn1⟩ := happ.shape2
    have HA := Lib.hid happ
    have hz := happ.size
    clear happ hn1
    go_wp2_with (at_builtin; refine apps_law _ rfl _ _ 22 9 rfl Tryz.underlying22 Tryz.underlying9 info5 base (.slice A1 n1 c1) (bs ++ s) L rfl ?o (by rw [HL.out]; rfl) ?h ?bb ?_)
    case o => exact HA.out.own
    case h => have := HBs.out; rw [List.length_append]; omega
    case bb => omega
    intro v' w5 happ
    have happ2 := HA.out.trans happ
    obtain ⟨A2, c2, n2, rfl, hn2⟩ := happ.shape2
    have HA2 := Lib.hid happ2
    clear happ happ2 hn2
    go_wp2_with fail
    go_ret
    refine ⟨_, rfl, ?_⟩
    have := HA2.out
    rw [HL.out] at this
    exact this

def blankB (x : UInt8) : Bool := x == 40 || x == 44 || x == 32

set_option maxRecDepth 100000 in
theorem empty_any (pre : List UInt8) (x : UInt8) (w : World) (base : Nat) (v : Value) (hown : Own w base v (pre ++ [x])) (hbs : (pre ++ [x]).length ≤ 999000000) (hbase : base ≤ w.heap.size) :
    Calls Tryz.prog 66 #[v] w (AppPost base v (pre ++ [x]) ((if blankB x then [] else [32]) ++ emptyBytes) w) := by
  have hlen : (pre ++ [x]).length = pre.length + 1 := by simp
  have hcell : ∃ b c, v = .slice (some ⟨b, 0, none⟩) (pre.length + 1) c ∧ w.cell? ⟨b, pre.length, none⟩ = some (.int .u8 x.toNat) := by
    have h := hown
    unfold Own at h
    rw [hlen] at h
    obtain ⟨B, cap, rfl, _, _, _, hblk⟩ := own_open h (by omega) (by decide)
    refine ⟨B, cap, rfl, hblk.cell ?_⟩
    rw [u8s_append, List.getElem?_append_right (by rw [u8s_length]; exact Nat.le_refl _), u8s_length, Nat.sub_self]
    rfl
  obtain ⟨b, c, rfl, hc⟩ := hcell
  obtain ⟨bs, hbsd⟩ : ∃ bs, pre ++ [x] = bs := ⟨_, rfl⟩
  rw [hbsd] at hown hbs ⊢
  have HBs := Lib.hid hbs
  have HO := Lib.hid hown
  obtain ⟨m, hm⟩ : ∃ m, pre.length = m := ⟨_, rfl⟩
  rw [hm] at hc HO ⊢
  have hmb : m ≤ 999000000 := by rw [← hbsd, List.length_append] at hbs; omega
  obtain ⟨xv, hxv⟩ : ∃ xv : Int, ((x.toNat : Nat) : Int) = xv := ⟨_, rfl⟩
  rw [hxv] at hc
  have hx40 : (xv == 40) = (x == 40) := by rw [← hxv]; rw [Bool.eq_iff_iff]; simp [← UInt8.toNat_inj]; omega
  have hx44 : (xv == 44) = (x == 44) := by rw [← hxv]; rw [Bool.eq_iff_iff]; simp [← UInt8.toNat_inj]; omega
  have hx32 : (xv == 32) = (x == 32) := by rw [← hxv]; rw [Bool.eq_iff_iff]; simp [← UInt8.toNat_inj]; omega
  have hbl : blankB x = ((xv == 40) || (xv == 44) || (xv == 32)) := by rw [hx40, hx44, hx32]; rfl
  rw [hbl]
  clear hx40 hx44 hx32 hbl hown hbs hbsd hm hlen hxv
  have hlb : b < w.heap.size := by
    have := HO.out.lt b rfl
    omega
  by_cases h40 : xv = 40
  · have t1 : (xv == 40) = true := by rw [h40]; rfl
    rw [t1]
    simp only [Bool.true_or, if_true, List.nil_append]
    unfold emptyBytes
    clear h40
    go_enter Tryz.func66, Tryz.ntmps66
    go_wp2_with (at_builtin; refine apps_law _ rfl _ _ 22 9 rfl Tryz.underlying22 Tryz.underlying9 info5 base (.slice (some ⟨b, 0, none⟩) (m + 1) c) bs [69, 77, 80, 84, 89] rfl ?o rfl ?h ?bb ?_)
    case o => exact HO.out
    case h => have := HBs.out; simp; omega
    case bb => exact hbase
    intro v' w4 happ
    obtain ⟨A1, c1, n1, rfl, hn1⟩ := happ.shape2
    have HA := Lib.hid happ
    clear happ hn1
    go_wp2_with fail
    go_ret
    exact ⟨_, rfl, HA.out⟩
  by_cases h44 : xv = 44
  · have t1 : (xv == 40) = false := by rw [beq_eq_false_iff_ne]; exact h40
    have t2 : (xv == 44) = true := by rw [h44]; rfl
    rw [t1, t2]
    simp only [Bool.true_or, Bool.false_or, if_true, List.nil_append]
    unfold emptyBytes
    clear h40 h44
    go_enter Tryz.func66, Tryz.ntmps66
    go_wp2_with (at_builtin; refine apps_law _ rfl _ _ 22 9 rfl Tryz.underlying22 Tryz.underlying9 info5 base (.slice (some ⟨b, 0, none⟩) (m + 1) c) bs [69, 77, 80, 84, 89] rfl ?o rfl ?h ?bb ?_)
    case o => exact HO.out
    case h => have := HBs.out; simp; omega
    case bb => exact hbase
    intro v' w4 happ
    obtain ⟨A1, c1, n1, rfl, hn1⟩ := happ.shape2
    have HA := Lib.hid happ
    clear happ hn1
    go_wp2_with fail
    go_ret
    exact ⟨_, rfl, HA.out⟩
  by_cases h32 : xv = 32
  · have t1 : (xv == 40) = false := by rw [beq_eq_false_iff_ne]; exact h40
    have t2 : (xv == 44) = false := by rw [beq_eq_false_iff_ne]; exact h44
    have t3 : (xv == 32) = true := by rw [h32]; rfl
    rw [t1, t2, t3]
    simp only [Bool.false_or, if_true, List.nil_append]
    unfold emptyBytes
    clear h40 h44 h32
    go_enter Tryz.func66, Tryz.ntmps66
    go_wp2_with (at_builtin; refine apps_law _ rfl _ _ 22 9 rfl Tryz.underlying22 Tryz.underlying9 info5 base (.slice (some ⟨b, 0, none⟩) (m + 1) c) bs [69, 77, 80, 84, 89] rfl ?o rfl ?h ?bb ?_)
    case o => exact HO.out
    case h => have := HBs.out; simp; omega
    case bb => exact hbase
    intro v' w4 happ
    obtain ⟨A1, c1, n1, rfl, hn1⟩ := happ.shape2
    have HA := Lib.hid happ
    clear happ hn1
    go_wp2_with fail
    go_ret
    exact ⟨_, rfl, HA.out⟩
  · have t1 : (xv == 40) = false := by rw [beq_eq_false_iff_ne]; exact h40
    have t2 : (xv == 44) = false := by rw [beq_eq_false_iff_ne]; exact h44
    have t3 : (xv == 32) = false := by rw [beq_eq_false_iff_ne]; exact h32
    rw [t1, t2, t3]
    simp only [Bool.or_self, Bool.false_eq_true, if_false]
    unfold emptyBytes
    clear h40 h44 h32
    go_enter Tryz.func66, Tryz.ntmps66
    go_wp2_with (at_builtin; refine appb_law _ rfl _ _ 22 rfl Tryz.underlying22 info5 base (.slice (some ⟨b, 0, none⟩) (m + 1) c) bs [32] rfl ?o _ 1 1 rfl ?r rfl ?h ?bb ?_)
    case r => exact rd_byte _ 32 _ rfl
    case o => exact HO.out.same (sameOn_alloc (sameOn_refl _) _)
    case h => have := HBs.out; simp; omega
    case bb => simp; omega
    intro v' w4 happ
    have happ := happ.pre ((More.refl base w).alloc hbase _)
    obtain ⟨A1, c1, n1, rfl, hn1⟩ := happ.shape2
    have HA := Lib.hid happ
    have hz := happ.size
    clear happ hn1
    go_wp2_with (at_builtin; refine apps_law _ rfl _ _ 22 9 rfl Tryz.underlying22 Tryz.underlying9 info5 base (.slice A1 n1 c1) (bs ++ [32]) [69, 77, 80, 84, 89] rfl ?o rfl ?h ?bb ?_)
    case o => exact HA.out.own
    case h => have := HBs.out; simp; omega
    case bb => omega
    intro v' w5 happ
    have happ2 := HA.out.trans happ
    obtain ⟨A2, c2, n2, rfl, hn2⟩ := happ.shape2
    have HA2 := Lib.hid happ2
    clear happ happ2 hn2
    go_wp2_with fail
    go_ret
    exact ⟨_, rfl, HA2.out⟩
end Go.Proofs.YtjincjepmkgalaaGreatDoor
