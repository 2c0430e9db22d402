/- The bodies of LineString and Point, appended; heads and bodies put together. By an AI agent. -/
import Derived.Test.YtjincjepmkgalaaGreatDoorSeqtext
namespace Go.Proofs.YtjincjepmkgalaaGreatDoor
open Go.RowKit

/-- A body behind a byte: the word for nothing may want a blank. -/
def ebB (x : UInt8) (t : List UInt8) : List UInt8 := if t = emptyBytes then (if blankB x then [] else [32]) ++ emptyBytes else t

theorem ebB_open (t : List UInt8) : ebB 40 t = t := by
  unfold ebB
  by_cases h : t = emptyBytes
  · rw [if_pos h, h]; rfl
  · rw [if_neg h]
theorem ebB_comma (t : List UInt8) : ebB 44 t = t := by
  unfold ebB
  by_cases h : t = emptyBytes
  · rw [if_pos h, h]; rfl
  · rw [if_neg h]

theorem head_split (k d : Int) (h0 : 0 ≤ d) (h3 : d ≤ 3) : ∃ hp x, kindBytes k ++ dimB d = hp ++ [x] ∧ ∀ body, kindBytes k ++ dimB d ++ ebB x body = headText k d body := by
  have hd : d = 0 ∨ d = 1 ∨ d = 2 ∨ d = 3 := by omega
  have hk : ∃ hp x, kindBytes k = hp ++ [x] ∧ blankB x = false := by
    unfold kindBytes
    repeat' split
    · exact ⟨[80, 79, 73, 78], 84, rfl, by decide⟩
    · exact ⟨[76, 73, 78, 69, 83, 84, 82, 73, 78], 71, rfl, by decide⟩
    · exact ⟨[80, 79, 76, 89, 71, 79], 78, rfl, by decide⟩
    · exact ⟨[77, 85, 76, 84, 73, 80, 79, 73, 78], 84, rfl, by decide⟩
    · exact ⟨[77, 85, 76, 84, 73, 76, 73, 78, 69, 83, 84, 82, 73, 78], 71, rfl, by decide⟩
    · exact ⟨[77, 85, 76, 84, 73, 80, 79, 76, 89, 71, 79], 78, rfl, by decide⟩
    · exact ⟨[71, 69, 79, 77, 69, 84, 82, 89, 67, 79, 76, 76, 69, 67, 84, 73, 79], 78, rfl, by decide⟩
  by_cases h : d = 0
  · obtain ⟨hp, x, h1, h2⟩ := hk
    refine ⟨hp, x, by rw [h1, h]; simp [dimB], fun body => ?_⟩
    by_cases hb : body = emptyBytes <;> simp [headText, ebB, dimB, h, h2, hb]
  · refine ⟨kindBytes k ++ 32 :: dimBytes d, 32, by unfold dimB; rw [if_neg h]; simp, fun body => ?_⟩
    by_cases hb : body = emptyBytes <;> simp [headText, ebB, dimB, h, hb, blankB]

theorem lineempty_any (d : Int) (h0 : 0 ≤ d) (h3 : d ≤ 3) (A : Option Addr) (n c : Nat) (hn : n ≤ 2000) (w : World) :
    Calls Tryz.prog 83 #[.agg #[.int .u8 d, .slice A n c]] w (fun e w' => e = .returned (.bool (decide (((n / widthN d : Nat) : Int) = 0))) ∧ More w.heap.size w w') := by
  have HL := Lib.hid (length_any d h0 h3 A n c hn)
  obtain ⟨q, hq⟩ : ∃ q, n / widthN d = q := ⟨_, rfl⟩
  rw [hq] at HL ⊢
  clear hq
  by_cases h : q = 0
  · subst h
    go_enter Tryz.func83, Tryz.ntmps83
    go_wp2_with fail
    refine (HL.out _).mono ?_
    rintro e w1 ⟨rfl, hm1⟩
    have HM : Hid (More w.heap.size w w1) := ((More.refl w.heap.size w).alloc (Nat.le_refl _) (.cells #[.int .u8 d, .slice A n c] 64)).trans ⟨hm1.bel.mono (by simp), hm1.same⟩
    clear hm1 HL
    go_wp2_with fail
    go_ret
    exact ⟨rfl, HM.out⟩
  · have ht : ((q : Int) == 0) = false := by rw [beq_eq_false_iff_ne]; omega
    have hd : decide ((q : Int) = 0) = false := by rw [decide_eq_false_iff_not]; omega
    rw [hd]
    go_enter Tryz.func83, Tryz.ntmps83
    go_wp2_with fail
    refine (HL.out _).mono ?_
    rintro e w1 ⟨rfl, hm1⟩
    have HM : Hid (More w.heap.size w w1) := ((More.refl w.heap.size w).alloc (Nat.le_refl _) (.cells #[.int .u8 d, .slice A n c] 64)).trans ⟨hm1.bel.mono (by simp), hm1.same⟩
    clear hm1 HL
    go_wp2_with fail
    go_ret
    exact ⟨rfl, HM.out⟩

theorem polyempty_any (d : Int) (A : Option Addr) (n c : Nat) (w : World) :
    Calls Tryz.prog 85 #[.agg #[.slice A n c, .int .u8 d]] w (fun e w' => e = .returned (.bool (decide ((n : Int) = 0))) ∧ More w.heap.size w w') := by
  have HM : Hid (More w.heap.size w (w.alloc (.cells #[.slice A n c, .int .u8 d] 68))) := ((More.refl w.heap.size w).alloc (Nat.le_refl _) _)
  by_cases h : n = 0
  · subst h
    go_enter Tryz.func85, Tryz.ntmps85
    go_wp2_with fail
    go_ret
    exact ⟨rfl, HM.out⟩
  · have ht : ((n : Int) == 0) = false := by rw [beq_eq_false_iff_ne]; omega
    have hd : decide ((n : Int) = 0) = false := by rw [decide_eq_false_iff_not]; omega
    rw [hd]
    go_enter Tryz.func85, Tryz.ntmps85
    go_wp2_with fail
    go_ret
    exact ⟨rfl, HM.out⟩

mutual
/-- All numbers, all the way down, are bits of finite numbers. -/
def goodG : G → Prop
  | .mk _ _ ns ks => (∀ x ∈ ns, OkN x) ∧ goodAll ks
def goodAll : List G → Prop
  | [] => True
  | g :: gs => goodG g ∧ goodAll gs
end
theorem goodAll_iff (gs : List G) : goodAll gs ↔ ∀ g ∈ gs, goodG g := by
  induction gs with
  | nil => simp [goodAll]
  | cons g gs ih => simp [goodAll, ih]
theorem okN_zero : OkN 0 := ⟨by omega, by decide⟩
theorem good_force (d : Int) (g : G) : goodG g → goodG (force d g) := by
  refine G.ind (P := fun g => goodG g → goodG (force d g)) ?_ g
  intro k d0 ns ks ih h
  rw [goodG, goodAll_iff] at h
  rw [force, goodG, goodAll_iff, forceAll_map]
  refine ⟨fun x hx => ?_, fun g hg => ?_⟩
  · rcases mem_numsAll hx with e | e
    · rw [e]; exact okN_zero
    · exact h.1 x e
  · obtain ⟨a, ha, rfl⟩ := List.mem_map.1 hg
    exact ih a ha (h.2 a ha)
theorem good_new (g : G) : goodG g → goodG (new g) := by
  refine G.ind (P := fun g => goodG g → goodG (new g)) ?_ g
  intro k d ns ks ih h
  rw [goodG, goodAll_iff] at h
  rw [new]
  split
  · unfold makeLeaf
    rw [goodG]
    exact ⟨fun x hx => h.1 x (List.mem_of_mem_take hx), by rw [goodAll]; trivial⟩
  · unfold makeWhole
    rw [newAll_map]
    have hms : ∀ f : G → Bool, goodAll ((ks.map new).filter f) := by
      intro f
      rw [goodAll_iff]
      intro g hg
      obtain ⟨a, ha, rfl⟩ := List.mem_map.1 (List.mem_filter.1 hg).1
      exact ih a ha (h.2 a ha)
    split
    · rw [goodG]; exact ⟨by simp, by rw [goodAll]; trivial⟩
    · refine good_force _ _ ?_
      rw [goodG]
      exact ⟨by simp, hms _⟩
theorem goodG.nums {g : G} (h : goodG g) : ∀ x ∈ g.nums, OkN x := by
  cases g; rw [goodG] at h; exact h.1
theorem goodG.kids {g : G} (h : goodG g) : ∀ g' ∈ g.kids, goodG g' := by
  cases g; rw [goodG, goodAll_iff] at h; exact h.2

theorem wrap_ne (parts : List (List UInt8)) (h : parts ≠ []) : wrapParts parts ≠ emptyBytes := by
  unfold wrapParts
  rw [if_neg (by simpa using h)]
  unfold emptyBytes
  intro e
  simp at e

section
variable (S : Nat → List UInt8)
/-- The function f appends the text T g of the made geometry g behind bytes that are not none. -/
def TextR (f : Nat) (T : G → List UInt8) (g : G) : Prop := ∀ (w : World) (F : Nat → Prop) (cs : List Value) (base : Nat) (v : Value) (pre : List UInt8) (x : UInt8), RAt w F g cs → (∀ b, F b → some b ≠ v.ownBlock) → Tab w → Own w base v (pre ++ [x]) →
  (pre ++ [x]).length + 2000 * wtP g ≤ 990001000 → base ≤ w.heap.size → 3 ≤ base → Calls Tryz.prog f #[.agg (List.toArray cs), v] w (AppPost base v (pre ++ [x]) (ebB x (T g)) w)
/-- .. of the part g of a whole of kind k. -/
def TextK (f : Nat) (k : Int) (T : G → List UInt8) (g : G) : Prop := ∀ (w : World) (F : Nat → Prop) (cs : List Value) (base : Nat) (v : Value) (pre : List UInt8) (x : UInt8), KAt w F k g cs → (∀ b, F b → some b ≠ v.ownBlock) → Tab w → Own w base v (pre ++ [x]) →
  (pre ++ [x]).length + 2000 * wtP g ≤ 990000000 → base ≤ w.heap.size → 3 ≤ base → Calls Tryz.prog f #[.agg (List.toArray cs), v] w (AppPost base v (pre ++ [x]) (ebB x (T g)) w)
/-- The function f appends the whole text of the made geometry g. -/
def WktR (f : Nat) (g : G) : Prop := ∀ (w : World) (F : Nat → Prop) (cs : List Value) (base : Nat) (v : Value) (bs : List UInt8), RAt w F g cs → (∀ b, F b → some b ≠ v.ownBlock) → Tab w → Own w base v bs →
  bs.length + 2000 * wtP g ≤ 990000000 → base ≤ w.heap.size → 3 ≤ base → Calls Tryz.prog f #[.agg (List.toArray cs), v] w (AppPost base v bs (wkt S g) w)
end

section
variable {S : Nat → List UInt8} (hS : NumOk S)
include hS

set_option maxRecDepth 100000 in
set_option maxHeartbeats 1000000 in
theorem linebody_any (g : G) (hg : g.kind = 2) (hok : okG g) (hgood : goodG g) : TextR 69 (body S) g := by
  intro w F cs base v pre x hr hF ht hown hbs hbase hb3
  obtain ⟨A, c, rfl, hsl, hkids⟩ := hr.line hg
  obtain ⟨k, d, ns, ks⟩ := g
  obtain ⟨h0, h3, hw, hc⟩ := hok.line
  have hgn := hgood.nums
  simp only [G.kind, G.dim, G.nums, G.kids] at *
  subst hg hkids
  have hwd := widthN_le d
  have hnl : ns.length ≤ 2000 := by
    rw [hw]
    have : countP d ns * widthN d ≤ 300 * 4 := Nat.mul_le_mul hc hwd.2
    omega
  have hbody : body S (.mk 2 d ns []) = wrapParts ((places d ns).map (placeText S d)) := by rw [body]; simp [bodyAll]
  have HE := Lib.hid (lineempty_any d h0 h3 A ns.length c hnl)
  have hq : ns.length / widthN d = countP d ns := rfl
  rw [hq] at HE
  obtain ⟨Av, cv, rfl⟩ := hown.shape
  have HM0 : Hid (More base w (w.alloc (.cells #[.int .u8 d, .slice A ns.length c] 64))) := (More.refl base w).alloc hbase _
  rw [hbody]
  rcases Nat.eq_zero_or_pos (countP d ns) with e0 | e0
  · have hE : wrapParts ((places d ns).map (placeText S d)) = emptyBytes := by
      have : places d ns = [] := by unfold places; rw [e0]; rfl
      rw [this]; rfl
    rw [hE]
    have hout : ebB x emptyBytes = (if blankB x then [] else [32]) ++ emptyBytes := by unfold ebB; rw [if_pos rfl]
    rw [hout]
    rw [e0] at HE
    have HK := Lib.hid (fun (w1 : World) (h1 : More base w w1) => empty_any pre x w1 base _ (hown.same h1.same) (by omega) (Nat.le_trans hbase h1.size))
    generalize (if blankB x then [] else [32]) ++ emptyBytes = OO at *
    clear hE hout hbody hq hown hr hsl hF ht hgood hok hgn hw e0
    generalize (pre ++ [x]) = bs at *
    generalize bs.length = n at *
    go_enter Tryz.func69, Tryz.ntmps69
    go_wp2_with fail
    refine (HE.out _).mono ?_
    rintro e w1 ⟨rfl, hm1⟩
    have hm : More base w w1 := HM0.out.trans ⟨hm1.bel.mono (by simp; omega), hm1.same⟩
    have HM := Lib.hid hm
    clear hm hm1 HE
    go_wp2_with fail
    refine (HK.out _ HM.out).mono ?_
    rintro e w2 ⟨v2, rfl, happ⟩
    have happ2 := App.pre HM.out happ
    obtain ⟨A2, c2, n2, rfl, hn2⟩ := happ2.shape2
    have HA := Lib.hid happ2
    clear happ happ2 hn2 HK
    go_wp2_with fail
    go_ret
    exact ⟨_, rfl, HA.out⟩
  · have hne : wrapParts ((places d ns).map (placeText S d)) ≠ emptyBytes := wrap_ne _ (by
      intro e
      have := congrArg List.length e
      rw [List.length_map, places_length] at this
      simp at this
      omega)
    have hout : ebB x (wrapParts ((places d ns).map (placeText S d))) = wrapParts ((places d ns).map (placeText S d)) := by unfold ebB; rw [if_neg hne]
    rw [hout]
    have hdec : decide (((countP d ns : Nat) : Int) = 0) = false := by rw [decide_eq_false_iff_not]; omega
    rw [hdec] at HE
    have HK := Lib.hid (fun (w1 : World) (h1 : More base w w1) => seqtext_any hS d h0 h3 ns hgn hc hnl e0 A c w1 F (hsl.keep (h1.same F)) base _ (pre ++ [x]) hF (ht.more h1) (hown.same h1.same) (by omega) (Nat.le_trans hbase h1.size) hb3)
    generalize wrapParts ((places d ns).map (placeText S d)) = OO at *
    have hbk := (Bk.new w 64 #[.int .u8 d, .slice A ns.length c])
    clear hne hout hbody hq hown hr hsl hF ht hgood hok hgn hdec hw
    generalize (pre ++ [x]) = bs at *
    generalize bs.length = n at *
    go_enter Tryz.func69, Tryz.ntmps69
    go_wp2_with fail
    refine (HE.out _).mono ?_
    rintro e w1 ⟨rfl, hm1⟩
    have hm : More base w w1 := HM0.out.trans ⟨hm1.bel.mono (by simp; omega), hm1.same⟩
    have HM := Lib.hid hm
    have k0 := hbk.same (hm1.same fun _ => True) trivial
    have x0 := k0.cell 0
    have x1 := k0.cell 1
    simp at x0 x1
    have l0 := k0.lt
    clear hm hm1 HE k0 hbk
    go_wp2_with fail
    refine (HK.out _ HM.out).mono ?_
    rintro e w2 ⟨v2, rfl, happ⟩
    have happ2 := App.pre HM.out happ
    obtain ⟨A2, c2, n2, rfl, hn2⟩ := happ2.shape2
    have HA := Lib.hid happ2
    clear happ happ2 hn2 HK
    go_wp2_with fail
    go_ret
    exact ⟨_, rfl, HA.out⟩

set_option maxRecDepth 100000 in
set_option maxHeartbeats 1000000 in
theorem pointbody_any (g : G) (hg : g.kind = 1) (hok : okG g) (hgood : goodG g) : TextR 67 (body S) g := by
  intro w F cs base v pre x hr hF ht hown hbs hbase hb3
  obtain ⟨hcs, hc1, hkids⟩ := hr.point hg
  obtain ⟨f, hf0⟩ : ∃ f, decide (0 < countP g.dim g.nums) = f := ⟨_, rfl⟩
  rw [hf0] at hcs
  subst hcs
  obtain ⟨k, d, ns, ks⟩ := g
  obtain ⟨h0, h3, hw, hc⟩ := hok.line
  have hgn := hgood.nums
  simp only [G.kind, G.dim, G.nums, G.kids] at *
  subst hg hkids
  have hbody : body S (.mk 1 d ns []) = wrapParts ((places d ns).map (placeText S d)) := by rw [body]; simp [bodyAll]
  obtain ⟨Av, cv, rfl⟩ := hown.shape
  rw [hbody]
  have HM0 := Lib.hid (fun o : Obj => (More.refl base w).alloc hbase o)
  rcases Nat.eq_zero_or_pos (countP d ns) with e0 | e0
  · have hE : wrapParts ((places d ns).map (placeText S d)) = emptyBytes := by
      have : places d ns = [] := by unfold places; rw [e0]; rfl
      rw [this]; rfl
    obtain rfl : f = false := by
      cases f
      · rfl
      · have := of_decide_eq_true hf0; omega
    rw [hE]
    have hout : ebB x emptyBytes = (if blankB x then [] else [32]) ++ emptyBytes := by unfold ebB; rw [if_pos rfl]
    rw [hout]
    have HK := Lib.hid (fun (w1 : World) (h1 : More base w w1) => empty_any pre x w1 base _ (hown.same h1.same) (by omega) (Nat.le_trans hbase h1.size))
    generalize (if blankB x then [] else [32]) ++ emptyBytes = OO at *
    generalize placeAt d ns 0 = pp at *
    clear hE hout hbody hown hr hF ht hgood hok hgn hf0
    generalize (pre ++ [x]) = bs at *
    generalize bs.length = n at *
    unfold ptCells
    go_enter Tryz.func67, Tryz.ntmps67
    go_wp2_with fail
    refine (HK.out _ (HM0.out _)).mono ?_
    rintro e w2 ⟨v2, rfl, happ⟩
    have happ2 := App.pre (HM0.out _) happ
    obtain ⟨A2, c2, n2, rfl, hn2⟩ := happ2.shape2
    have HA := Lib.hid happ2
    clear happ happ2 hn2 HK
    go_wp2_with fail
    go_ret
    exact ⟨_, rfl, HA.out⟩
  · have hcn : countP d ns = 1 := by omega
    obtain rfl : f = true := by
      cases f
      · have := of_decide_eq_false hf0; omega
      · rfl
    have hpl : places d ns = [placeAt d ns 0] := by unfold places; rw [hcn]; rfl
    have hE : wrapParts ((places d ns).map (placeText S d)) = [40] ++ placeText S d (placeAt d ns 0) ++ [41] := by rw [hpl]; simp [wrapParts, joinB]
    have hne : wrapParts ((places d ns).map (placeText S d)) ≠ emptyBytes := wrap_ne _ (by rw [hpl]; simp)
    have hout : ebB x (wrapParts ((places d ns).map (placeText S d))) = [40] ++ placeText S d (placeAt d ns 0) ++ [41] := by unfold ebB; rw [if_neg hne, hE]
    rw [hout]
    have HK := Lib.hid (fun (w1 : World) (h1 : More base w w1) => coordst_any hS d h0 h3 (placeAt d ns 0) (okPl_at hgn 0) w1 base _ (pre ++ [x]) (ht.more h1) (hown.same h1.same) (by omega) (Nat.le_trans hbase h1.size) hb3)
    generalize [40] ++ placeText S d (placeAt d ns 0) ++ [41] = OO at *
    generalize placeAt d ns 0 = pp at *
    clear hne hout hbody hown hr hF ht hgood hok hgn hf0 hE hpl
    generalize (pre ++ [x]) = bs at *
    generalize bs.length = n at *
    unfold ptCells
    go_enter Tryz.func67, Tryz.ntmps67
    go_wp2_with fail
    refine (HK.out _ (HM0.out _)).mono ?_
    rintro e w2 ⟨v2, rfl, happ⟩
    have happ2 := App.pre (HM0.out _) happ
    obtain ⟨A2, c2, n2, rfl, hn2⟩ := happ2.shape2
    have HA := Lib.hid happ2
    clear happ happ2 hn2 HK
    go_wp2_with fail
    go_ret
    exact ⟨_, rfl, HA.out⟩
end
end Go.Proofs.YtjincjepmkgalaaGreatDoor
