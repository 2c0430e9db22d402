/- A row of geometries that came in, opened: its data as geometries of ours. By an AI agent. -/
import Derived.Test.YtjincjepmkgalaaGreatDoorBytes
import Derived.Deep.Slices
import Derived.Lib.SmallJoins
import Derived.Laws.Cover2
import Derived.ProofKit
namespace Go.Proofs.YtjincjepmkgalaaGreatDoor
open Go.RowKit Go.ChangeShapes Go.WideShapes

theorem co28 : Tryz.prog.cellsOf 28 = 4 := by kernel_rfl
theorem co42 : Tryz.prog.cellsOf 42 = 1 := by kernel_rfl
theorem co5 : Tryz.prog.cellsOf 5 = 1 := by kernel_rfl
theorem co3 : Tryz.prog.cellsOf 3 = 1 := by kernel_rfl
theorem co26 : Tryz.prog.cellsOf 26 = 1 := by kernel_rfl
theorem co23 : Tryz.prog.cellsOf 23 = 1 := by kernel_rfl
theorem by28 : Tryz.prog.bytesOf 28 = 64 := by kernel_rfl
theorem by42 : Tryz.prog.bytesOf 42 = 8 := by kernel_rfl
theorem by5 : Tryz.prog.bytesOf 5 = 1 := by kernel_rfl

theorem wf_u8 {z : Int} (h : (Lit.int .u8 z).wf = true) : 0 ≤ z ∧ z ≤ 255 := by
  have e1 : IntKind.u8.min = 0 := by decide
  have e2 : IntKind.u8.max = 255 := by decide
  have h : (decide (IntKind.u8.min ≤ z) && decide (z ≤ IntKind.u8.max)) = true := h
  rw [e1, e2, Bool.and_eq_true, decide_eq_true_eq, decide_eq_true_eq] at h
  exact h
theorem wf_i64 {z : Int} (h : (Lit.int .i64 z).wf = true) : i64ok z := by
  have e1 : IntKind.i64.min = -9223372036854775808 := by decide
  have e2 : IntKind.i64.max = 9223372036854775807 := by decide
  have h : (decide (IntKind.i64.min ≤ z) && decide (z ≤ IntKind.i64.max)) = true := h
  rw [e1, e2, Bool.and_eq_true, decide_eq_true_eq, decide_eq_true_eq] at h
  exact h

theorem flatQ_len : ∀ (css : List (List Value)) (s : Nat), (∀ cs ∈ css, cs.length = s) → css.flatten.length = css.length * s := by
  intro css s
  induction css with
  | nil => intro _; simp
  | cons c css ih =>
    intro hl
    rw [List.flatten_cons, List.length_append, ih (fun cs hcs => hl cs (by simp [hcs])), hl c (by simp), List.length_cons, Nat.add_mul]
    omega
theorem flatQ_get : ∀ (css : List (List Value)) (s : Nat), (∀ cs ∈ css, cs.length = s) → ∀ i cs, css[i]? = some cs → ∀ j, j < s → css.flatten[i * s + j]? = cs[j]? := by
  intro css s
  induction css with
  | nil => intro _ i cs h; simp at h
  | cons c css ih =>
    intro hl i cs hi j hj
    have hc : c.length = s := hl c (by simp)
    cases i with
    | zero =>
      simp at hi; subst hi
      rw [List.flatten_cons, List.getElem?_append_left (by omega)]; simp
    | succ i =>
      simp at hi
      rw [List.flatten_cons, List.getElem?_append_right (by rw [Nat.add_mul]; omega), show (i + 1) * s + j - c.length = i * s + j by rw [Nat.add_mul]; omega]
      exact ih (fun cs hcs => hl cs (by simp [hcs])) i cs hi j hj

section
variable {H : Type} {enc : TypeId × Value → H} {W : World}

/-- The cells that a reading passes. -/
theorem cells_get {a : Addr} {s : Nat} {cs : List Value} (h : W.cells? 0 a s = some cs) : cs.length = s ∧ ∀ j, j < s → W.cell? (a.add j) = cs[j]? := by
  unfold World.cells? at h
  rw [if_pos (Nat.zero_le _)] at h
  refine ⟨by simpa using mapM_some_length h, fun j hj => ?_⟩
  exact mapM_some_get h j j (by simp [hj])

/-- Elements of s cells each, read one by one: the row of all their cells. -/
theorem row_open {a : Addr} {s len : Nat} (hs : 0 < s) {Q : Nat → List Value → Prop} (hall : ∀ i, i < len → ∃ cs, W.cells? 0 (a.add (i * s)) s = some cs ∧ Q i cs) :
    ∃ css : List (List Value), css.length = len ∧ (∀ cs ∈ css, cs.length = s) ∧ (∀ i cs, css[i]? = some cs → Q i cs) ∧ (0 < len → ∃ b o, a = ⟨b, o, none⟩ ∧ b < W.heap.size ∧ Cl W b o css.flatten) := by
  obtain ⟨f, hf⟩ := Deep.choose_lt hall
  have hget : ∀ i cs, ((List.range len).map f)[i]? = some cs → i < len ∧ cs = f i := by
    intro i cs h
    rw [List.getElem?_map] at h
    obtain ⟨j, hj, rfl⟩ := Option.map_eq_some_iff.1 h
    have hi : i < len := by
      have := (List.getElem?_eq_some_iff.1 hj).1
      simpa using this
    rw [List.getElem?_range hi] at hj
    cases hj
    exact ⟨hi, rfl⟩
  have hlen : ∀ cs ∈ (List.range len).map f, cs.length = s := by
    intro cs h
    obtain ⟨i, hi⟩ := List.mem_iff_getElem?.1 h
    obtain ⟨h1, rfl⟩ := hget i cs hi
    exact (cells_get (hf i h1).1).1
  refine ⟨(List.range len).map f, by simp, hlen, fun i cs h => ?_, fun h0 => ?_⟩
  · obtain ⟨h1, rfl⟩ := hget i cs h
    exact (hf i h1).2
  · have h1 := (cells_get (hf 0 h0).1)
    rw [Nat.zero_mul] at h1
    have h2 : W.cell? a = (f 0)[0]? := by have := h1.2 0 hs; unfold Addr.add at this; simpa using this
    rw [List.getElem?_eq_getElem (by rw [h1.1]; exact hs)] at h2
    obtain ⟨b, o, sp⟩ := a
    have hsp : sp = none ∧ b < W.heap.size := by
      unfold World.cell? at h2
      split at h2
      · rename_i hb
        split at h2
        · cases h2
        · rename_i hs'
          exact ⟨by cases sp with | none => rfl | some _ => simp at hs', (Array.getElem?_eq_some_iff.1 hb).1⟩
      · cases h2
    obtain ⟨rfl, hb⟩ := hsp
    refine ⟨b, o, rfl, hb, ?_⟩
    intro j u hu
    have hjl : j < len * s := by
      have := (List.getElem?_eq_some_iff.1 hu).1
      rw [flatQ_len _ s hlen] at this
      simpa using this
    have hi : j / s < len := Nat.div_lt_of_lt_mul (by rwa [Nat.mul_comm] at hjl)
    have hr : j % s < s := Nat.mod_lt _ hs
    have hjd : j / s * s + j % s = j := by rw [Nat.mul_comm]; exact Nat.div_add_mod j s
    have hci : ((List.range len).map f)[j / s]? = some (f (j / s)) := by rw [List.getElem?_map, List.getElem?_range hi]; rfl
    have h3 := flatQ_get _ s hlen (j / s) _ hci (j % s) hr
    rw [hjd, hu] at h3
    have h4 := (cells_get (hf (j / s) hi).1).2 (j % s) hr
    rw [Deep.add_add, hjd, addr_add] at h4
    rw [h4, ← h3]

/-- A slice that came in, opened. -/
theorem slice_open {t e : TypeId} {s fuel : Nat} {cs : List Value} {x : DataW H × List MemPlace} (ht : Tryz.prog.underlying t = some (.slice e)) (hs : Tryz.prog.cellsOf e = s) (hs0 : 0 < s) (hb : 1 ≤ Tryz.prog.bytesOf e ∧ s ≤ Tryz.prog.bytesOf e)
    (h : DataW.trod enc Tryz.prog W 0 (fun _ => true) true fuel t cs = some x) (hw : ∀ q ∈ x.1.weights Tryz.prog t, q ≤ reachBytes) :
    ∃ (v : Value) (css : List (List Value)), cs = [v] ∧ Sl W (fun _ => True) s v css.flatten ∧ (∀ c ∈ css, c.length = s) ∧
      (css = [] ∨ ∃ n, fuel = n + 1 ∧ ∀ (i : Nat) (c : List Value), css[i]? = some c → ∃ y, DataW.trod enc Tryz.prog W 0 (fun _ => true) true n e c = some y ∧ ∀ q ∈ y.1.weights Tryz.prog e, q ≤ reachBytes) := by
  rcases DataW.trod_slice ht h with ⟨rfl, rfl⟩ | ⟨a, len, cap, elems, rest, n, rfl, rfl, rfl, hb0, hl, hm, hlen, hel, hsp, _⟩
  · exact ⟨_, [], rfl, Sl.none_, by simp, .inl rfl⟩
  · have hw1 : (elems.length + rest.length) * Tryz.prog.bytesOf e ≤ reachBytes := hw _ (by
      simp only [DataW.weights, ht, List.length_map]
      exact List.mem_cons_self)
    have hw2 : ∀ y ∈ elems, ∀ q ∈ y.1.weights Tryz.prog e, q ≤ reachBytes := by
      intro y hy q hq
      refine hw q ?_
      simp only [DataW.weights, ht]
      refine List.mem_cons_of_mem _ (List.mem_append_left _ ?_)
      clear hel hlen hw hw1 h
      induction elems with
      | nil => cases hy
      | cons z zs ih =>
        rw [List.map_cons, DataW.weightsAll]
        rcases List.mem_cons.1 hy with e | e
        · rw [← e]; exact List.mem_append_left _ hq
        · exact List.mem_append_right _ (ih e)
    rw [hs] at hel
    obtain ⟨css, h1, h2, h3, h4⟩ := row_open (W := W) (a := a) (len := len) hs0 (Q := fun i c => ∃ y, elems[i]? = some y ∧ DataW.trod enc Tryz.prog W 0 (fun _ => true) true n e c = some y) (by
      intro i hi
      have := hel i hi
      rw [List.getElem?_eq_getElem (by omega)] at this
      obtain ⟨c, hc1, hc2⟩ := Option.bind_eq_some_iff.1 this
      exact ⟨c, hc1, _, List.getElem?_eq_getElem (by omega), hc2⟩)
    have hfl := flatQ_len css s h2
    have hbound : css.length * s ≤ 140737488355328 := by
      have e1 : css.length ≤ elems.length + rest.length := by omega
      have e2 : css.length * s ≤ (elems.length + rest.length) * Tryz.prog.bytesOf e := Nat.mul_le_mul e1 hb.2
      have e3 : reachBytes ≤ 140737488355328 := by decide
      omega
    refine ⟨_, css, rfl, ⟨_, _, _, rfl, hl, hm, by rw [hfl, h1], by rw [hfl]; exact hbound, fun h0 => ?_⟩, h2, .inr ⟨n, rfl, fun i c hc => ?_⟩⟩
    · obtain ⟨b, o, rfl, hbl, hcl⟩ := h4 h0
      exact ⟨b, o, rfl, trivial, hbl, hcl⟩
    · obtain ⟨y, hy1, hy2⟩ := h3 i c hc
      exact ⟨y, hy2, hw2 y (List.mem_of_getElem? hy1)⟩

/-- Bytes. -/
theorem bytes_open {fuel : Nat} {cs : List Value} {x : DataW H × List MemPlace} (h : DataW.trod enc Tryz.prog W 0 (fun _ => true) true fuel 22 cs = some x) (hw : ∀ q ∈ x.1.weights Tryz.prog 22, q ≤ reachBytes) :
    ∃ (A : Option Addr) (c : Nat) (bs : List UInt8), cs = [.slice A bs.length c] ∧ Sl W (fun _ => True) 1 (.slice A bs.length c) (u8s bs) := by
  obtain ⟨v, css, rfl, hsl, hl, hq⟩ := slice_open Tryz.underlying22 co5 (by decide) (by rw [by5]; decide) h hw
  have hb : ∃ bs : List UInt8, css.flatten = u8s bs := by
    rcases hq with rfl | ⟨n, _, hq⟩
    · exact ⟨[], rfl⟩
    · have : ∀ c ∈ css, ∃ b : UInt8, c = [.int .u8 b.toNat] := by
        intro c hc
        obtain ⟨i, hi⟩ := List.mem_iff_getElem?.1 hc
        obtain ⟨y, hy, _⟩ := hq i c hi
        obtain ⟨z, rfl, _, hwf⟩ := DataW.trod_int Tryz.underlying5 hy
        have hz : 0 ≤ z ∧ z ≤ 255 := wf_u8 hwf
        refine ⟨UInt8.ofNat z.toNat, ?_⟩
        have : (UInt8.ofNat z.toNat).toNat = z.toNat := by simp; omega
        rw [this]
        congr 2
        omega
      clear hq hsl hl
      induction css with
      | nil => exact ⟨[], rfl⟩
      | cons c css ih =>
        obtain ⟨b, rfl⟩ := this c (by simp)
        obtain ⟨bs, hbs⟩ := ih (fun c hc => this c (by simp [hc]))
        exact ⟨b :: bs, by rw [List.flatten_cons, hbs]; rfl⟩
  obtain ⟨bs, hbs⟩ := hb
  rw [hbs] at hsl
  obtain ⟨A, n, c, rfl, h1, h2, h3, h4, h5⟩ := hsl
  rw [u8s_length, Nat.mul_one] at h3
  subst h3
  exact ⟨A, c, bs, rfl, _, _, _, rfl, h1, h2, by rw [u8s_length, Nat.mul_one], h4, h5⟩

/-- Numbers. -/
theorem nums_open {fuel : Nat} {cs : List Value} {x : DataW H × List MemPlace} (h : DataW.trod enc Tryz.prog W 0 (fun _ => true) true fuel 26 cs = some x) (hw : ∀ q ∈ x.1.weights Tryz.prog 26, q ≤ reachBytes) :
    ∃ (v : Value) (ns : List Nat), cs = [v] ∧ (∀ z ∈ ns, z < 18446744073709551616) ∧ Sl W (fun _ => True) 1 v (ns.map (Value.float .f64)) := by
  obtain ⟨v, css, rfl, hsl, hl, hq⟩ := slice_open Tryz.underlying26 co42 (by decide) (by rw [by42]; decide) h hw
  have hb : ∃ ns : List Nat, css.flatten = ns.map (Value.float .f64) ∧ ∀ z ∈ ns, z < 18446744073709551616 := by
    rcases hq with rfl | ⟨n, _, hq⟩
    · exact ⟨[], rfl, by simp⟩
    · have : ∀ c ∈ css, ∃ z : Nat, c = [.float .f64 z] ∧ z < 18446744073709551616 := by
        intro c hc
        obtain ⟨i, hi⟩ := List.mem_iff_getElem?.1 hc
        obtain ⟨y, hy, _⟩ := hq i c hi
        have hcl : c.length = 1 := hl c hc
        match c, hcl with
        | [u], _ =>
          cases n with
          | zero => simp [DataW.trod] at hy
          | succ n =>
            unfold DataW.trod at hy
            rw [Tryz.underlying42] at hy
            split at hy <;> simp_all
            rename_i h9
            subst h9
            simpa [Lit.wf] using hy.1.2
      clear hq hsl hl
      induction css with
      | nil => exact ⟨[], rfl, by simp⟩
      | cons c css ih =>
        obtain ⟨z, rfl, hz⟩ := this c (by simp)
        obtain ⟨ns, hns, hall⟩ := ih (fun c hc => this c (by simp [hc]))
        exact ⟨z :: ns, by rw [List.flatten_cons, hns]; rfl, by intro q hq; rcases List.mem_cons.1 hq with rfl | e; exact hz; exact hall q e⟩
  obtain ⟨ns, hns, hz⟩ := hb
  rw [hns] at hsl
  exact ⟨v, ns, rfl, hz, hsl⟩

set_option maxRecDepth 100000 in
theorem geom_open : ∀ (fuel : Nat) (cs : List Value) (x : DataW H × List MemPlace), DataW.trod enc Tryz.prog W 0 (fun _ => true) true fuel 28 cs = some x → (∀ q ∈ x.1.weights Tryz.prog 28, q ≤ reachBytes) → ∃ g, GAt W (fun _ => True) g cs := by
  intro fuel
  induction fuel using Nat.strongRecOn with
  | ind fuel ih =>
    intro cs x h hw
    obtain ⟨xs, n, rfl, rfl, hl, hlen, hf⟩ := DataW.trod_struct Tryz.underlying28 h
    rw [co28] at hl
    match xs, hlen, cs, hl with
    | [y0, y1, y2, y3], _, [c0, c1, c2, c3], _ =>
      have f0 := hf 0 _ rfl
      have f1 := hf 1 _ rfl
      have f2 := hf 2 _ rfl
      have f3 := hf 3 _ rfl
      simp [co3, co26, co23] at f0 f1 f2 f3
      simp [DataW.weights, Tryz.underlying28, DataW.weightsEach] at hw
      obtain ⟨k, hk, _, hkw⟩ := DataW.trod_int Tryz.underlying3 f0
      obtain ⟨d, hd, _, hdw⟩ := DataW.trod_int Tryz.underlying3 f1
      obtain ⟨vn, ns, hvn, hz, hns⟩ := nums_open f2 (fun q hq => hw q (by simp [hq]))
      obtain ⟨vk, css, hvk, hsl, hcl, hq⟩ := slice_open Tryz.underlying23 co28 (by decide) (by rw [by28]; decide) f3 (fun q hq => hw q (by simp [hq]))
      cases hk
      cases hd
      cases hvn
      cases hvk
      have hkids : ∃ ks, GsAt W (fun _ => True) ks css := by
        rcases hq with rfl | ⟨m, hm, hq⟩
        · exact ⟨[], by rw [GsAt]⟩
        · have hall : ∀ c ∈ css, ∃ g, GAt W (fun _ => True) g c := by
            intro c hc
            obtain ⟨i, hi⟩ := List.mem_iff_getElem?.1 hc
            obtain ⟨y, hy, hyw⟩ := hq i c hi
            exact ih m (by omega) c y hy hyw
          clear hq hsl hcl f3
          induction css with
          | nil => exact ⟨[], by rw [GsAt]⟩
          | cons c css ih2 =>
            obtain ⟨g, hg⟩ := hall c (by simp)
            obtain ⟨ks, hks⟩ := ih2 (fun c hc => hall c (by simp [hc]))
            exact ⟨g :: ks, by rw [GsAt]; exact ⟨c, css, rfl, hg, hks⟩⟩
      obtain ⟨ks, hks⟩ := hkids
      refine ⟨.mk k d ns ks, ?_⟩
      rw [GAt]
      refine ⟨_, _, css, rfl, ?_, ?_, hz, hns, hsl, hks⟩
      · exact wf_i64 hkw
      · exact wf_i64 hdw

/-- A row of geometries. -/
theorem geoms_open {fuel : Nat} {cs : List Value} {x : DataW H × List MemPlace} (h : DataW.trod enc Tryz.prog W 0 (fun _ => true) true fuel 23 cs = some x) (hw : ∀ q ∈ x.1.weights Tryz.prog 23, q ≤ reachBytes) :
    ∃ (v : Value) (css : List (List Value)) (gs : List G), cs = [v] ∧ Sl W (fun _ => True) 4 v css.flatten ∧ GsAt W (fun _ => True) gs css := by
  obtain ⟨vk, css, hvk, hsl, hcl, hq⟩ := slice_open Tryz.underlying23 co28 (by decide) (by rw [by28]; decide) h hw
  have hkids : ∃ ks, GsAt W (fun _ => True) ks css := by
    rcases hq with rfl | ⟨m, hm, hq⟩
    · exact ⟨[], by rw [GsAt]⟩
    · have hall : ∀ c ∈ css, ∃ g, GAt W (fun _ => True) g c := by
        intro c hc
        obtain ⟨i, hi⟩ := List.mem_iff_getElem?.1 hc
        obtain ⟨y, hy, hyw⟩ := hq i c hi
        exact geom_open m c y hy hyw
      clear hq hsl hcl
      induction css with
      | nil => exact ⟨[], by rw [GsAt]⟩
      | cons c css ih2 =>
        obtain ⟨g, hg⟩ := hall c (by simp)
        obtain ⟨ks, hks⟩ := ih2 (fun c hc => hall c (by simp [hc]))
        exact ⟨g :: ks, by rw [GsAt]; exact ⟨c, css, rfl, hg, hks⟩⟩
  obtain ⟨ks, hks⟩ := hkids
  exact ⟨vk, css, ks, hvk, hsl, hks⟩
end
end Go.Proofs.YtjincjepmkgalaaGreatDoor
