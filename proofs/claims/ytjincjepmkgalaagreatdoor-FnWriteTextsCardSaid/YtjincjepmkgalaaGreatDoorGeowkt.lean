/- geom.Geometry.AppendWKT: the text of a made geometry. By an AI agent. -/
import Derived.Test.YtjincjepmkgalaaGreatDoorPolytext
namespace Go.Proofs.YtjincjepmkgalaaGreatDoor
open Go.RowKit

section
variable (S : Nat → List UInt8)
/-- Geometry.AppendWKT appends the whole text of g. -/
def WktK (g : G) : Prop := ∀ (w : World) (F : Nat → Prop) (cs : List Value) (base : Nat) (v : Value) (bs : List UInt8), KAt w F 0 g cs → (∀ b, F b → some b ≠ v.ownBlock) → Tab w → Own w base v bs →
  bs.length + 2000 * wtP g ≤ 990000000 → base ≤ w.heap.size → 3 ≤ base → Calls Tryz.prog 16 #[.agg (List.toArray cs), v] w (AppPost base v bs (wkt S g) w)
end

section
variable {S : Nat → List UInt8} (hS : NumOk S)

set_option maxRecDepth 100000 in
set_option maxHeartbeats 1000000 in
theorem geowkt0_any (g : G) (hg : g.kind = 0) (hW : WktR S 37 g) : WktK S g := by
  intro w F cs base v bs h hF ht hown hbs hbase hb3
  rcases h with ⟨_, b, cc, rfl, hFb, hb, hr⟩ | ⟨e, _⟩
  rotate_left
  · exact absurd rfl e
  rw [hg] at hb ⊢
  rw [show ptrT 0 = 85 from rfl]
  rw [show cellT 0 = 83 from rfl] at hb
  have HW := Lib.hid (fun (w1 : World) (h1 : More base w w1) => hW w1 F cc base v bs (hr.keep (h1.same F)) hF (ht.more h1) (hown.same h1.same) hbs (Nat.le_trans hbase h1.size) hb3)
  obtain ⟨d, A, nq, c, rfl⟩ := hr.shapeC (by rw [hg]; decide) (by rw [hg]; decide)
  have c0 := hb.cell 0
  have c1 := hb.cell 1
  have lb := hb.lt
  simp at c0 c1
  obtain ⟨Av, cv, rfl⟩ := hown.shape
  have HM := Lib.hid (fun o : Obj => (More.refl base w).alloc hbase o)
  generalize bs.length = n at *
  generalize wkt S g = OO at *
  clear hr hb hF ht hown hbs hW hFb
  go_enter Tryz.func16, Tryz.ntmps16
  go_wp2_with fail
  refine (HW.out _ (HM.out _)).mono ?_
  rintro e w2 ⟨v2, rfl, happ⟩
  have happ2 := App.pre (HM.out _) happ
  obtain ⟨A2, c2, n2, rfl, hn2⟩ := happ2.shape2
  have HA := Lib.hid happ2
  clear happ happ2 hn2 HW
  go_wp2_with fail
  go_ret
  exact ⟨_, rfl, HA.out⟩

set_option maxRecDepth 100000 in
set_option maxHeartbeats 1000000 in
theorem geowkt1_any (g : G) (hg : g.kind = 1) (hW : WktR S 38 g) : WktK S g := by
  intro w F cs base v bs h hF ht hown hbs hbase hb3
  rcases h with ⟨_, b, cc, rfl, hFb, hb, hr⟩ | ⟨e, _⟩
  rotate_left
  · exact absurd rfl e
  rw [hg] at hb ⊢
  rw [show ptrT 1 = 86 from rfl]
  rw [show cellT 1 = 58 from rfl] at hb
  have HW := Lib.hid (fun (w1 : World) (h1 : More base w w1) => hW w1 F cc base v bs (hr.keep (h1.same F)) hF (ht.more h1) (hown.same h1.same) hbs (Nat.le_trans hbase h1.size) hb3)
  obtain ⟨d, x, y, z, m, f, rfl⟩ := hr.shapeP hg
  have c0 := hb.cell 0
  have c1 := hb.cell 1
  have c2 := hb.cell 2
  have c3 := hb.cell 3
  have c4 := hb.cell 4
  have c5 := hb.cell 5
  have lb := hb.lt
  simp at c0 c1 c2 c3 c4 c5
  obtain ⟨Av, cv, rfl⟩ := hown.shape
  have HM := Lib.hid (fun o : Obj => (More.refl base w).alloc hbase o)
  generalize bs.length = n at *
  generalize wkt S g = OO at *
  clear hr hb hF ht hown hbs hW hFb
  go_enter Tryz.func16, Tryz.ntmps16
  go_wp2_with fail
  refine (HW.out _ (HM.out _)).mono ?_
  rintro e w2 ⟨v2, rfl, happ⟩
  have happ2 := App.pre (HM.out _) happ
  obtain ⟨A2, c2, n2, rfl, hn2⟩ := happ2.shape2
  have HA := Lib.hid happ2
  clear happ happ2 hn2 HW
  go_wp2_with fail
  go_ret
  exact ⟨_, rfl, HA.out⟩

set_option maxRecDepth 100000 in
set_option maxHeartbeats 1000000 in
theorem geowkt2_any (g : G) (hg : g.kind = 2) (hW : WktR S 39 g) : WktK S g := by
  intro w F cs base v bs h hF ht hown hbs hbase hb3
  rcases h with ⟨_, b, cc, rfl, hFb, hb, hr⟩ | ⟨e, _⟩
  rotate_left
  · exact absurd rfl e
  rw [hg] at hb ⊢
  rw [show ptrT 2 = 87 from rfl]
  rw [show cellT 2 = 64 from rfl] at hb
  have HW := Lib.hid (fun (w1 : World) (h1 : More base w w1) => hW w1 F cc base v bs (hr.keep (h1.same F)) hF (ht.more h1) (hown.same h1.same) hbs (Nat.le_trans hbase h1.size) hb3)
  obtain ⟨d, A, nq, c, rfl⟩ := hr.shapeL hg
  have c0 := hb.cell 0
  have c1 := hb.cell 1
  have lb := hb.lt
  simp at c0 c1
  obtain ⟨Av, cv, rfl⟩ := hown.shape
  have HM := Lib.hid (fun o : Obj => (More.refl base w).alloc hbase o)
  generalize bs.length = n at *
  generalize wkt S g = OO at *
  clear hr hb hF ht hown hbs hW hFb
  go_enter Tryz.func16, Tryz.ntmps16
  go_wp2_with fail
  refine (HW.out _ (HM.out _)).mono ?_
  rintro e w2 ⟨v2, rfl, happ⟩
  have happ2 := App.pre (HM.out _) happ
  obtain ⟨A2, c2, n2, rfl, hn2⟩ := happ2.shape2
  have HA := Lib.hid happ2
  clear happ happ2 hn2 HW
  go_wp2_with fail
  go_ret
  exact ⟨_, rfl, HA.out⟩

set_option maxRecDepth 100000 in
set_option maxHeartbeats 1000000 in
theorem geowkt3_any (g : G) (hg : g.kind = 3) (hW : WktR S 40 g) : WktK S g := by
  intro w F cs base v bs h hF ht hown hbs hbase hb3
  rcases h with ⟨_, b, cc, rfl, hFb, hb, hr⟩ | ⟨e, _⟩
  rotate_left
  · exact absurd rfl e
  rw [hg] at hb ⊢
  rw [show ptrT 3 = 88 from rfl]
  rw [show cellT 3 = 68 from rfl] at hb
  have HW := Lib.hid (fun (w1 : World) (h1 : More base w w1) => hW w1 F cc base v bs (hr.keep (h1.same F)) hF (ht.more h1) (hown.same h1.same) hbs (Nat.le_trans hbase h1.size) hb3)
  obtain ⟨d, A, nq, c, rfl⟩ := hr.shapeC (by rw [hg]; decide) (by rw [hg]; decide)
  have c0 := hb.cell 0
  have c1 := hb.cell 1
  have lb := hb.lt
  simp at c0 c1
  obtain ⟨Av, cv, rfl⟩ := hown.shape
  have HM := Lib.hid (fun o : Obj => (More.refl base w).alloc hbase o)
  generalize bs.length = n at *
  generalize wkt S g = OO at *
  clear hr hb hF ht hown hbs hW hFb
  go_enter Tryz.func16, Tryz.ntmps16
  go_wp2_with fail
  refine (HW.out _ (HM.out _)).mono ?_
  rintro e w2 ⟨v2, rfl, happ⟩
  have happ2 := App.pre (HM.out _) happ
  obtain ⟨A2, c2, n2, rfl, hn2⟩ := happ2.shape2
  have HA := Lib.hid happ2
  clear happ happ2 hn2 HW
  go_wp2_with fail
  go_ret
  exact ⟨_, rfl, HA.out⟩

set_option maxRecDepth 100000 in
set_option maxHeartbeats 1000000 in
theorem geowkt4_any (g : G) (hg : g.kind = 4) (hW : WktR S 41 g) : WktK S g := by
  intro w F cs base v bs h hF ht hown hbs hbase hb3
  rcases h with ⟨_, b, cc, rfl, hFb, hb, hr⟩ | ⟨e, _⟩
  rotate_left
  · exact absurd rfl e
  rw [hg] at hb ⊢
  rw [show ptrT 4 = 89 from rfl]
  rw [show cellT 4 = 72 from rfl] at hb
  have HW := Lib.hid (fun (w1 : World) (h1 : More base w w1) => hW w1 F cc base v bs (hr.keep (h1.same F)) hF (ht.more h1) (hown.same h1.same) hbs (Nat.le_trans hbase h1.size) hb3)
  obtain ⟨d, A, nq, c, rfl⟩ := hr.shapeC (by rw [hg]; decide) (by rw [hg]; decide)
  have c0 := hb.cell 0
  have c1 := hb.cell 1
  have lb := hb.lt
  simp at c0 c1
  obtain ⟨Av, cv, rfl⟩ := hown.shape
  have HM := Lib.hid (fun o : Obj => (More.refl base w).alloc hbase o)
  generalize bs.length = n at *
  generalize wkt S g = OO at *
  clear hr hb hF ht hown hbs hW hFb
  go_enter Tryz.func16, Tryz.ntmps16
  go_wp2_with fail
  refine (HW.out _ (HM.out _)).mono ?_
  rintro e w2 ⟨v2, rfl, happ⟩
  have happ2 := App.pre (HM.out _) happ
  obtain ⟨A2, c2, n2, rfl, hn2⟩ := happ2.shape2
  have HA := Lib.hid happ2
  clear happ happ2 hn2 HW
  go_wp2_with fail
  go_ret
  exact ⟨_, rfl, HA.out⟩

set_option maxRecDepth 100000 in
set_option maxHeartbeats 1000000 in
theorem geowkt5_any (g : G) (hg : g.kind = 5) (hW : WktR S 42 g) : WktK S g := by
  intro w F cs base v bs h hF ht hown hbs hbase hb3
  rcases h with ⟨_, b, cc, rfl, hFb, hb, hr⟩ | ⟨e, _⟩
  rotate_left
  · exact absurd rfl e
  rw [hg] at hb ⊢
  rw [show ptrT 5 = 90 from rfl]
  rw [show cellT 5 = 75 from rfl] at hb
  have HW := Lib.hid (fun (w1 : World) (h1 : More base w w1) => hW w1 F cc base v bs (hr.keep (h1.same F)) hF (ht.more h1) (hown.same h1.same) hbs (Nat.le_trans hbase h1.size) hb3)
  obtain ⟨d, A, nq, c, rfl⟩ := hr.shapeC (by rw [hg]; decide) (by rw [hg]; decide)
  have c0 := hb.cell 0
  have c1 := hb.cell 1
  have lb := hb.lt
  simp at c0 c1
  obtain ⟨Av, cv, rfl⟩ := hown.shape
  have HM := Lib.hid (fun o : Obj => (More.refl base w).alloc hbase o)
  generalize bs.length = n at *
  generalize wkt S g = OO at *
  clear hr hb hF ht hown hbs hW hFb
  go_enter Tryz.func16, Tryz.ntmps16
  go_wp2_with fail
  refine (HW.out _ (HM.out _)).mono ?_
  rintro e w2 ⟨v2, rfl, happ⟩
  have happ2 := App.pre (HM.out _) happ
  obtain ⟨A2, c2, n2, rfl, hn2⟩ := happ2.shape2
  have HA := Lib.hid happ2
  clear happ happ2 hn2 HW
  go_wp2_with fail
  go_ret
  exact ⟨_, rfl, HA.out⟩

set_option maxRecDepth 100000 in
set_option maxHeartbeats 1000000 in
theorem geowkt6_any (g : G) (hg : g.kind = 6) (hW : WktR S 43 g) : WktK S g := by
  intro w F cs base v bs h hF ht hown hbs hbase hb3
  rcases h with ⟨_, b, cc, rfl, hFb, hb, hr⟩ | ⟨e, _⟩
  rotate_left
  · exact absurd rfl e
  rw [hg] at hb ⊢
  rw [show ptrT 6 = 91 from rfl]
  rw [show cellT 6 = 79 from rfl] at hb
  have HW := Lib.hid (fun (w1 : World) (h1 : More base w w1) => hW w1 F cc base v bs (hr.keep (h1.same F)) hF (ht.more h1) (hown.same h1.same) hbs (Nat.le_trans hbase h1.size) hb3)
  obtain ⟨d, A, nq, c, rfl⟩ := hr.shapeC (by rw [hg]; decide) (by rw [hg]; decide)
  have c0 := hb.cell 0
  have c1 := hb.cell 1
  have lb := hb.lt
  simp at c0 c1
  obtain ⟨Av, cv, rfl⟩ := hown.shape
  have HM := Lib.hid (fun o : Obj => (More.refl base w).alloc hbase o)
  generalize bs.length = n at *
  generalize wkt S g = OO at *
  clear hr hb hF ht hown hbs hW hFb
  go_enter Tryz.func16, Tryz.ntmps16
  go_wp2_with fail
  refine (HW.out _ (HM.out _)).mono ?_
  rintro e w2 ⟨v2, rfl, happ⟩
  have happ2 := App.pre (HM.out _) happ
  obtain ⟨A2, c2, n2, rfl, hn2⟩ := happ2.shape2
  have HA := Lib.hid happ2
  clear happ happ2 hn2 HW
  go_wp2_with fail
  go_ret
  exact ⟨_, rfl, HA.out⟩
theorem wkt_ne (g : G) : wkt S g ≠ emptyBytes := by
  rw [wkt_eq]
  unfold headText kindBytes
  intro e
  have := congrArg (fun l => l.head?) e
  revert this
  repeat' split
  all_goals simp [emptyBytes]

theorem TextK.of_W {g : G} (h : WktK S g) : TextK 16 0 (wkt S) g := by
  intro w F cs base v pre x hk hF ht hown hbs hbase hb3
  have := h w F cs base v (pre ++ [x]) hk hF ht hown hbs hbase hb3
  unfold ebB
  rw [if_neg (wkt_ne g)]
  exact this

include hS
theorem geowkt_any (g : G) : okG g → goodG g → 0 ≤ g.kind → g.kind ≤ 6 → WktK S g := by
  refine G.ind (P := fun g => okG g → goodG g → 0 ≤ g.kind → g.kind ≤ 6 → WktK S g) ?_ g
  intro k d ns ks ih hok hgood hk0 hk6
  have hko := hok.kids.2
  have hkg := hgood.kids
  have hK : k = 0 ∨ k = 1 ∨ k = 2 ∨ k = 3 ∨ k = 4 ∨ k = 5 ∨ k = 6 := by simp only [G.kind] at hk0 hk6; omega
  rcases hK with rfl | rfl | rfl | rfl | rfl | rfl | rfl
  · refine geowkt0_any _ rfl (wktc0_any hS _ rfl hok fun g' hg' => ?_)
    intro w F cs base v pre x hk
    have hr := hk.krange
    exact TextK.of_W (ih g' hg' (hko g' hg') (hkg g' hg') hr.1 hr.2) w F cs base v pre x hk
  · exact geowkt1_any _ rfl (wktl1_any _ rfl hok (pointbody_any hS _ rfl hok hgood))
  · exact geowkt2_any _ rfl (wktl2_any _ rfl hok (linebody_any hS _ rfl hok hgood))
  · exact geowkt3_any _ rfl (wktl3_any _ rfl hok (polybody_any hS _ rfl hok fun g' hg' => TextK.of_R (by decide) fun h => linebody_any hS g' h (hko g' hg') (hkg g' hg')))
  · exact geowkt4_any _ rfl (wktc4_any hS _ rfl hok fun g' hg' => TextK.of_R (by decide) fun h => pointbody_any hS g' h (hko g' hg') (hkg g' hg'))
  · exact geowkt5_any _ rfl (wktc5_any hS _ rfl hok fun g' hg' => TextK.of_R (by decide) fun h => linebody_any hS g' h (hko g' hg') (hkg g' hg'))
  · exact geowkt6_any _ rfl (wktc6_any hS _ rfl hok fun g' hg' => TextK.of_R (by decide) fun h => polybody_any hS g' h (hko g' hg') fun g'' hg'' => TextK.of_R (by decide) fun h2 => linebody_any hS g'' h2 ((hko g' hg').kids.2 g'' hg'') ((hkg g' hg').kids g'' hg''))
end

end Go.Proofs.YtjincjepmkgalaaGreatDoor
