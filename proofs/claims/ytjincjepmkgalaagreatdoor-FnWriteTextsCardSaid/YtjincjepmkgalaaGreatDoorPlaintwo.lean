/- Plain facts on the made geometries: their weights, their numbers, the lengths of their texts. No program in sight. By an AI agent. -/
import Derived.Test.YtjincjepmkgalaaGreatDoorPlain
namespace Go.Proofs.YtjincjepmkgalaaGreatDoor

mutual
/-- How many parts and places, itself among them. -/
def wtP : G → Nat
  | .mk _ d ns ks => 1 + countP d ns + wtPAll ks
def wtPAll : List G → Nat
  | [] => 0
  | g :: gs => wtP g + wtPAll gs
end

theorem wtP_pos (g : G) : 1 ≤ wtP g := by cases g; rw [wtP]; omega
theorem wtPAll_append (a b : List G) : wtPAll (a ++ b) = wtPAll a + wtPAll b := by
  induction a with
  | nil => simp [wtPAll]
  | cons x a ih => rw [List.cons_append, wtPAll, wtPAll, ih]; omega
theorem wtPAll_mem {g : G} {gs : List G} (h : g ∈ gs) : wtP g ≤ wtPAll gs := by
  induction gs with
  | nil => cases h
  | cons a gs ih =>
    rw [wtPAll]
    cases h with
    | head => omega
    | tail _ h => have := ih h; omega
theorem wtPAll_len (gs : List G) : gs.length ≤ wtPAll gs := by
  induction gs with
  | nil => simp
  | cons a gs ih => rw [wtPAll, List.length_cons]; have := wtP_pos a; omega

theorem wtP_force (d : Int) (g : G) : wtP (force d g) = wtP g := by
  refine G.ind (P := fun g => wtP (force d g) = wtP g) ?_ g
  intro k d0 ns ks ih
  rw [force, wtP, wtP, countP_all, places_length, forceAll_map]
  have : wtPAll (ks.map (force d)) = wtPAll ks := by
    clear ns
    induction ks with
    | nil => rfl
    | cons a ks ih2 => rw [List.map_cons, wtPAll, wtPAll, ih a (by simp), ih2 (fun g hg => ih g (by simp [hg]))]
  rw [this]

theorem wtP_new (g : G) : wtP (new g) ≤ wtN g := by
  refine G.ind (P := fun g => wtP (new g) ≤ wtN g) ?_ g
  intro k d ns ks ih
  have hk : ∀ f : G → Bool, wtPAll ((ks.map new).filter f) ≤ wtAll ks := by
    intro f
    clear ns
    induction ks with
    | nil => simp [wtPAll, wtAll]
    | cons a ks ih2 =>
      have h1 := ih a (by simp)
      have h2 := ih2 (fun g hg => ih g (by simp [hg]))
      rw [List.map_cons, List.filter_cons, wtAll]
      split
      · rw [wtPAll]; omega
      · omega
  rw [new, wtN]
  split
  · unfold makeLeaf
    rw [wtP, wtPAll]
    have h1 : countP (d % 4) (ns.take ((if normKind k = 1 then min (ns.length / widthN (d % 4)) 1 else ns.length / widthN (d % 4)) * widthN (d % 4))) ≤ ns.length := by
      unfold countP
      refine Nat.le_trans (Nat.div_le_self _ _) ?_
      rw [List.length_take]
      omega
    omega
  · unfold makeWhole
    have h0 : ∀ ms, wtP (.mk (normKind k) (d % 4) [] ms) = 1 + wtPAll ms := by
      intro ms
      rw [wtP]
      simp [countP]
    have h1 := hk (keepKid (normKind k))
    rw [newAll_map]
    split
    · rw [h0, wtPAll]; omega
    · rw [wtP_force, h0]; omega

theorem finAll_map (gs : List G) (f : G → G) (h : ∀ g ∈ gs, finG (f g) = true) : finAll (gs.map f) = true := by
  rw [finAll_iff]
  intro g hg
  obtain ⟨a, ha, rfl⟩ := List.mem_map.1 hg
  exact h a ha

theorem fin_force (d : Int) (g : G) : finG g = true → finG (force d g) = true := by
  refine G.ind (P := fun g => finG g = true → finG (force d g) = true) ?_ g
  intro k d0 ns ks ih h
  rw [finG, Bool.and_eq_true, List.all_eq_true, finAll_iff] at h
  rw [force, finG, Bool.and_eq_true, List.all_eq_true, forceAll_map]
  refine ⟨fun x hx => ?_, finAll_map _ _ fun g hg => ih g hg (h.2 g hg)⟩
  rcases mem_numsAll hx with e | e
  · rw [e]; decide
  · exact h.1 x e

theorem fin_new (g : G) : finG g = true → finG (new g) = true := by
  refine G.ind (P := fun g => finG g = true → finG (new g) = true) ?_ g
  intro k d ns ks ih h
  rw [finG, Bool.and_eq_true, List.all_eq_true, finAll_iff] at h
  rw [new]
  split
  · unfold makeLeaf
    rw [finG, Bool.and_eq_true, List.all_eq_true]
    exact ⟨fun x hx => h.1 x (List.mem_of_mem_take hx), by rw [finAll]⟩
  · unfold makeWhole
    rw [newAll_map]
    have hms : ∀ f : G → Bool, finAll ((ks.map new).filter f) = true := by
      intro f
      rw [finAll_iff]
      intro g hg
      obtain ⟨a, ha, rfl⟩ := List.mem_map.1 (List.mem_filter.1 hg).1
      exact ih a ha (h.2 a ha)
    split
    · rw [finG, Bool.and_eq_true]; exact ⟨rfl, by rw [finAll]⟩
    · refine fin_force _ _ ?_
      rw [finG, Bool.and_eq_true]
      exact ⟨rfl, hms _⟩

theorem joinB_length (sep : UInt8) (l : List (List UInt8)) (B : Nat) (h : ∀ a ∈ l, a.length ≤ B) : (joinB sep l).length ≤ l.length * (B + 1) := by
  induction l with
  | nil => simp [joinB]
  | cons a l ih =>
    cases l with
    | nil => have := h a (by simp); simp [joinB]; omega
    | cons b l =>
      have h1 := h a (by simp)
      have h2 := ih (fun c hc => h c (by simp [hc]))
      simp only [joinB, List.length_append, List.length_cons] at h2 ⊢
      simp only [Nat.add_mul, Nat.one_mul] at h2 ⊢
      omega

theorem joinB_take (sep : UInt8) (l : List (List UInt8)) (k : Nat) (h : k < l.length) (h0 : 0 < k) : joinB sep (l.take (k + 1)) = joinB sep (l.take k) ++ sep :: l[k] := by
  rw [List.take_add_one, List.getElem?_eq_getElem h]
  refine joinB_snoc sep (l.take k) l[k] ?_
  intro he
  have := congrArg List.length he
  rw [List.length_take, Nat.min_eq_left (by omega), List.length_nil] at this
  omega

theorem joinB_take_one (sep : UInt8) (l : List (List UInt8)) (h : 0 < l.length) : joinB sep (l.take 1) = l[0] := by
  cases l with
  | nil => simp at h
  | cons a l => simp [joinB]

theorem joinB_sum (sep : UInt8) (l : List (List UInt8)) : (joinB sep l).length ≤ (l.map List.length).sum + l.length := by
  induction l with
  | nil => simp [joinB]
  | cons a l ih =>
    cases l with
    | nil => simp [joinB]
    | cons b l =>
      simp only [joinB, List.length_append, List.length_cons, List.map_cons, List.sum_cons] at ih ⊢
      omega

section
variable {S : Nat → List UInt8}

theorem placeText_length (hS : ∀ x, (S x).length ≤ 400) (d : Int) (p : Pl) : (placeText S d p).length ≤ 1604 := by
  unfold placeText
  have h1 := joinB_length 32 ((numsOf d p).map S) 400 (by intro a ha; obtain ⟨x, _, rfl⟩ := List.mem_map.1 ha; exact hS x)
  rw [List.length_map, numsOf_length] at h1
  have := widthN_le d
  have : widthN d * (400 + 1) ≤ 4 * 401 := Nat.mul_le_mul this.2 (by omega)
  omega

theorem kindBytes_length (k : Int) : (kindBytes k).length ≤ 18 := by
  unfold kindBytes
  repeat' split
  all_goals simp
theorem dimBytes_length (d : Int) : (dimBytes d).length ≤ 2 := by
  unfold dimBytes
  repeat' split
  all_goals simp

theorem headText_length (k d : Int) (b : List UInt8) : (headText k d b).length ≤ b.length + 22 := by
  unfold headText
  have h1 := kindBytes_length k
  have h2 := dimBytes_length d
  simp only [List.length_append]
  split <;> split <;> simp <;> omega

theorem wrapParts_length (l : List (List UInt8)) : (wrapParts l).length ≤ (l.map List.length).sum + l.length + 7 := by
  unfold wrapParts
  have := joinB_sum 44 l
  split
  · simp [emptyBytes]
  · simp only [List.length_cons, List.length_append, List.length_nil]
    omega

theorem parts_sum (hS : ∀ x, (S x).length ≤ 400) (d : Int) (ps : List Pl) : ((ps.map (placeText S d)).map List.length).sum ≤ ps.length * 1604 := by
  induction ps with
  | nil => simp
  | cons p ps ih =>
    simp only [List.map_cons, List.sum_cons, List.length_cons, Nat.add_mul]
    have := placeText_length hS d p
    omega

theorem text_length (hS : ∀ x, (S x).length ≤ 400) (g : G) : (body S g).length ≤ 2000 * wtP g - 100 ∧ (wkt S g).length ≤ 2000 * wtP g - 50 := by
  refine G.ind (P := fun g => (body S g).length ≤ 2000 * wtP g - 100 ∧ (wkt S g).length ≤ 2000 * wtP g - 50) ?_ g
  intro k d ns ks ih
  have hpos := wtP_pos (.mk k d ns ks)
  have hb : (body S (.mk k d ns ks)).length ≤ 2000 * wtP (.mk k d ns ks) - 100 := by
    rw [body, wtP]
    refine Nat.le_trans (wrapParts_length _) ?_
    have hsum : ∀ f : G → List UInt8, (∀ g ∈ ks, (f g).length ≤ 2000 * wtP g - 50) → ((ks.map f).map List.length).sum + ks.length ≤ 2000 * wtPAll ks := by
      intro f hf
      clear ih hpos
      induction ks with
      | nil => simp [wtPAll]
      | cons a ks ih2 =>
        have h1 := hf a (by simp)
        have h2 := ih2 (fun g hg => hf g (by simp [hg]))
        have := wtP_pos a
        simp only [List.map_cons, List.sum_cons, List.length_cons, wtPAll, Nat.mul_add]
        omega
    have hp := parts_sum hS d (places d ns)
    rw [places_length] at hp
    rw [List.map_append, List.sum_append, List.length_append, List.length_map, places_length]
    split
    · rw [wktAll_map]
      have := hsum (wkt S) (fun g hg => (ih g hg).2)
      rw [List.length_map]
      omega
    · rw [bodyAll_map]
      have := hsum (body S) (fun g hg => Nat.le_trans (ih g hg).1 (by omega))
      rw [List.length_map]
      omega
  refine ⟨hb, ?_⟩
  rw [wkt_eq]
  have := headText_length (G.kind (.mk k d ns ks)) (G.dim (.mk k d ns ks)) (body S (.mk k d ns ks))
  omega
end
end Go.Proofs.YtjincjepmkgalaaGreatDoor
