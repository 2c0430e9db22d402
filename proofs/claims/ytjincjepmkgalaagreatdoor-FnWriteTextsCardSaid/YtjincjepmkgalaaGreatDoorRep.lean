/- What lies in memory of the made geometries: the cells of each kind; how these are kept; rows that are overwritten. By an AI agent. -/
import Derived.Test.YtjincjepmkgalaaGreatDoorSeqs
namespace Go.Proofs.YtjincjepmkgalaaGreatDoor
open Go.RowKit

/-- How many cells a part has within its whole. -/
def kSize (k : Int) : Nat := if k = 4 then 6 else 2
def ptrT (k : Int) : TypeId := if k = 0 then 85 else if k = 1 then 86 else if k = 2 then 87 else if k = 3 then 88 else if k = 4 then 89 else if k = 5 then 90 else 91
def cellT (k : Int) : TypeId := if k = 0 then 83 else if k = 1 then 58 else if k = 2 then 64 else if k = 3 then 68 else if k = 4 then 72 else if k = 5 then 75 else 79

def ptCells (d : Int) (p : Pl) (f : Bool) : List Value := [.float .f64 p.x, .float .f64 p.y, .float .f64 p.z, .float .f64 p.m, .int .u8 d, .bool f]

mutual
/-- The cells cs are the made geometry g, in blocks with F. -/
def RAt (w : World) (F : Nat → Prop) : G → List Value → Prop
  | .mk k d ns ks, cs => 0 ≤ k ∧ k ≤ 6 ∧
      ((k = 1 ∧ ks = [] ∧ countP d ns ≤ 1 ∧ cs = ptCells d (placeAt d ns 0) (decide (0 < countP d ns))) ∨
       (k = 2 ∧ ks = [] ∧ ∃ v, cs = [.int .u8 d, v] ∧ Sl w F 1 v (ns.map (Value.float .f64))) ∨
       (k ≠ 1 ∧ k ≠ 2 ∧ ns = [] ∧ ∃ v css, cs = [v, .int .u8 d] ∧ Sl w F (kSize k) v css.flatten ∧ RsAt w F k ks css))
def RsAt (w : World) (F : Nat → Prop) : Int → List G → List (List Value) → Prop
  | _, [], css => css = []
  | k, g :: gs, css => ∃ cs rest, css = cs :: rest ∧
      ((k = 0 ∧ ∃ b cc, cs = [.int .i64 g.kind, .iface (ptrT g.kind) (.pointer (some ⟨b, 0, none⟩))] ∧ F b ∧ Bk w b (cellT g.kind) (List.toArray cc) ∧ RAt w F g cc) ∨
       (k ≠ 0 ∧ g.kind = kidOfN k ∧ RAt w F g cs)) ∧ RsAt w F k gs rest
end

/-- The cells cs are g as a part of a whole of kind k. -/
def KAt (w : World) (F : Nat → Prop) (k : Int) (g : G) (cs : List Value) : Prop :=
  (k = 0 ∧ ∃ b cc, cs = [.int .i64 g.kind, .iface (ptrT g.kind) (.pointer (some ⟨b, 0, none⟩))] ∧ F b ∧ Bk w b (cellT g.kind) (List.toArray cc) ∧ RAt w F g cc) ∨
    (k ≠ 0 ∧ g.kind = kidOfN k ∧ RAt w F g cs)

section
variable {w w' : World} {F F' : Nat → Prop}

theorem RsAt.iff {k : Int} {gs : List G} : ∀ {css : List (List Value)}, RsAt w F k gs css ↔ css.length = gs.length ∧ ∀ (i : Nat) (g : G) (cs : List Value), gs[i]? = some g → css[i]? = some cs → KAt w F k g cs := by
  induction gs with
  | nil =>
    intro css
    rw [RsAt]
    constructor
    · rintro rfl; simp
    · intro h; exact List.eq_nil_of_length_eq_zero (by simpa using h.1)
  | cons g gs ih =>
    intro css
    rw [RsAt]
    constructor
    · rintro ⟨cs, rest, rfl, hg, hr⟩
      rw [ih] at hr
      refine ⟨by simp [hr.1], ?_⟩
      intro i g' cs' h1 h2
      cases i with
      | zero => simp at h1 h2; subst h1; subst h2; exact hg
      | succ i => simp at h1 h2; exact hr.2 i g' cs' h1 h2
    · rintro ⟨hl, hall⟩
      cases css with
      | nil => simp at hl
      | cons cs rest =>
        refine ⟨cs, rest, rfl, hall 0 g cs rfl rfl, ih.2 ⟨by simpa using hl, fun i g' cs' h1 h2 => hall (i + 1) g' cs' (by simpa using h1) (by simpa using h2)⟩⟩

theorem RAt.trans_all (hS : ∀ size v xs, Sl w F size v xs → Sl w' F' size v xs) (hB : ∀ b t cs, F b → Bk w b t cs → F' b ∧ Bk w' b t cs) (g : G) : ∀ cs, RAt w F g cs → RAt w' F' g cs := by
  refine G.ind (P := fun g => ∀ cs, RAt w F g cs → RAt w' F' g cs) ?_ g
  intro k d ns ks ih cs h
  rw [RAt] at h ⊢
  obtain ⟨h0, h6, h⟩ := h
  refine ⟨h0, h6, ?_⟩
  rcases h with h | ⟨e, e2, v, h1, h2⟩ | ⟨e, e2, e3, v, css, h1, h2, h3⟩
  · exact .inl h
  · exact .inr (.inl ⟨e, e2, v, h1, hS _ _ _ h2⟩)
  · refine .inr (.inr ⟨e, e2, e3, v, css, h1, hS _ _ _ h2, ?_⟩)
    rw [RsAt.iff] at h3 ⊢
    refine ⟨h3.1, fun i g cs hi hc => ?_⟩
    rcases h3.2 i g cs hi hc with ⟨ek, b, cc, a1, a2, a3, a4⟩ | ⟨ek, a1, a2⟩
    · exact .inl ⟨ek, b, cc, a1, (hB _ _ _ a2 a3).1, (hB _ _ _ a2 a3).2, ih g (List.mem_of_getElem? hi) cc a4⟩
    · exact .inr ⟨ek, a1, ih g (List.mem_of_getElem? hi) cs a2⟩
theorem RAt.keep {g : G} {cs : List Value} (h : RAt w F g cs) (hs : SameOn F w w') : RAt w' F g cs :=
  RAt.trans_all (fun _ _ _ h => h.keep hs) (fun _ _ _ hf hb => ⟨hf, hb.same hs hf⟩) g cs h
theorem RAt.mono {g : G} {cs : List Value} (h : RAt w F g cs) (hF : ∀ b, F b → F' b) : RAt w F' g cs :=
  RAt.trans_all (fun _ _ _ h => h.mono hF) (fun _ _ _ hf hb => ⟨hF _ hf, hb⟩) g cs h
theorem RAt.bounded {g : G} {cs : List Value} (h : RAt w F g cs) : RAt w (fun b => F b ∧ b < w.heap.size) g cs :=
  RAt.trans_all (fun _ _ _ h => h.bounded) (fun _ _ _ hf hb => ⟨⟨hf, hb.lt⟩, hb⟩) g cs h
theorem KAt.keep {k : Int} {g : G} {cs : List Value} (h : KAt w F k g cs) (hs : SameOn F w w') : KAt w' F k g cs := by
  rcases h with ⟨ek, b, cc, a1, a2, a3, a4⟩ | ⟨ek, a1, a2⟩
  · exact .inl ⟨ek, b, cc, a1, a2, a3.same hs a2, a4.keep hs⟩
  · exact .inr ⟨ek, a1, a2.keep hs⟩
theorem KAt.mono {k : Int} {g : G} {cs : List Value} (h : KAt w F k g cs) (hF : ∀ b, F b → F' b) : KAt w F' k g cs := by
  rcases h with ⟨ek, b, cc, a1, a2, a3, a4⟩ | ⟨ek, a1, a2⟩
  · exact .inl ⟨ek, b, cc, a1, hF _ a2, a3, a4.mono hF⟩
  · exact .inr ⟨ek, a1, a2.mono hF⟩
theorem KAt.bounded {k : Int} {g : G} {cs : List Value} (h : KAt w F k g cs) : KAt w (fun b => F b ∧ b < w.heap.size) k g cs := by
  rcases h with ⟨ek, b, cc, a1, a2, a3, a4⟩ | ⟨ek, a1, a2⟩
  · exact .inl ⟨ek, b, cc, a1, ⟨a2, a3.lt⟩, a3, a4.bounded⟩
  · exact .inr ⟨ek, a1, a2.bounded⟩

theorem RAt.line {g : G} {cs : List Value} (h : RAt w F g cs) (hk : g.kind = 2) :
    ∃ A c, cs = [.int .u8 g.dim, .slice A g.nums.length c] ∧ Sl w F 1 (.slice A g.nums.length c) (g.nums.map (Value.float .f64)) ∧ g.kids = [] := by
  obtain ⟨k, d, ns, ks⟩ := g
  rw [RAt] at h
  simp only [G.kind] at hk
  subst hk
  rcases h with ⟨_, _, ⟨e, _⟩ | ⟨_, e2, v, h1, h2⟩ | ⟨_, e, _⟩⟩
  · cases e
  · obtain ⟨A, n, c, rfl, a1, a2, a3, a4⟩ := h2
    rw [List.length_map] at a3
    obtain rfl : ns.length = n := by omega
    exact ⟨A, c, h1, ⟨_, _, _, rfl, a1, a2, by rw [List.length_map]; omega, a4⟩, e2⟩
  · exact absurd rfl e
theorem RAt.point {g : G} {cs : List Value} (h : RAt w F g cs) (hk : g.kind = 1) :
    cs = ptCells g.dim (placeAt g.dim g.nums 0) (decide (0 < countP g.dim g.nums)) ∧ countP g.dim g.nums ≤ 1 ∧ g.kids = [] := by
  obtain ⟨k, d, ns, ks⟩ := g
  rw [RAt] at h
  simp only [G.kind] at hk
  subst hk
  rcases h with ⟨_, _, ⟨_, e2, h1, h2⟩ | ⟨e, _⟩ | ⟨e, _⟩⟩
  · exact ⟨h2, h1, e2⟩
  · cases e
  · exact absurd rfl e

theorem flat_len : ∀ (css : List (List Value)) (s : Nat), (∀ cs ∈ css, cs.length = s) → css.flatten.length = css.length * s := by
  intro css s
  induction css with
  | nil => intro _; simp
  | cons c css ih =>
    intro hl
    rw [List.flatten_cons, List.length_append, ih (fun cs hcs => hl cs (by simp [hcs])), hl c (by simp), List.length_cons, Nat.add_mul]
    omega

theorem flat_get : ∀ (css : List (List Value)) (s : Nat), (∀ cs ∈ css, cs.length = s) → ∀ i cs, css[i]? = some cs → ∀ j, j < s → css.flatten[i * s + j]? = cs[j]? := by
  intro css s
  induction css with
  | nil => intro _ i cs h; simp at h
  | cons c css ih =>
    intro hl i cs hi j hj
    have hc : c.length = s := hl c (by simp)
    cases i with
    | zero =>
      simp at hi; subst hi
      rw [List.flatten_cons, List.getElem?_append_left (by omega)]; simp
    | succ i =>
      simp at hi
      rw [List.flatten_cons, List.getElem?_append_right (by rw [Nat.add_mul]; omega), show (i + 1) * s + j - c.length = i * s + j by rw [Nat.add_mul]; omega]
      exact ih (fun cs hcs => hl cs (by simp [hcs])) i cs hi j hj

theorem RAt.cellslen {g : G} {cs : List Value} (h : RAt w F g cs) : cs.length = if g.kind = 1 then 6 else 2 := by
  obtain ⟨k, d, ns, ks⟩ := g
  rw [RAt] at h
  simp only [G.kind]
  rcases h with ⟨_, _, ⟨rfl, _, _, rfl⟩ | ⟨rfl, _, v, rfl, _⟩ | ⟨e, _, _, v, css, rfl, _⟩⟩
  · rfl
  · rfl
  · simp [e]
theorem RAt.range {g : G} {cs : List Value} (h : RAt w F g cs) : 0 ≤ g.kind ∧ g.kind ≤ 6 := by
  obtain ⟨k, d, ns, ks⟩ := g
  rw [RAt] at h
  exact ⟨h.1, h.2.1⟩

theorem KAt.len {k : Int} {g : G} {cs : List Value} (h : KAt w F k g cs) : cs.length = kSize k := by
  rcases h with ⟨ek, b, cc, a1, _⟩ | ⟨ek, a1, a2⟩
  · subst ek; rw [a1]; rfl
  · have h1 := a2.cellslen
    have h2 := a2.range
    rw [h1, a1]
    rw [a1] at h2
    unfold kidOfN at h2 ⊢
    unfold kSize
    split
    · rfl
    · rw [if_neg (by split <;> (try split) <;> (try split) <;> decide)]

theorem RsAt.lens {k : Int} {gs : List G} {css : List (List Value)} (h : RsAt w F k gs css) : css.length = gs.length ∧ ∀ cs ∈ css, cs.length = kSize k := by
  rw [RsAt.iff] at h
  refine ⟨h.1, fun cs hcs => ?_⟩
  obtain ⟨i, hi⟩ := List.mem_iff_getElem?.1 hcs
  have hlt : i < gs.length := by rw [← h.1]; exact (List.getElem?_eq_some_iff.1 hi).1
  exact (h.2 i gs[i] cs (List.getElem?_eq_getElem hlt) hi).len
theorem RsAt.keep {k : Int} {gs : List G} {css : List (List Value)} (h : RsAt w F k gs css) (hs : SameOn F w w') : RsAt w' F k gs css := by
  rw [RsAt.iff] at h ⊢
  exact ⟨h.1, fun i g cs hi hc => (h.2 i g cs hi hc).keep hs⟩
theorem RsAt.mono {k : Int} {gs : List G} {css : List (List Value)} (h : RsAt w F k gs css) (hF : ∀ b, F b → F' b) : RsAt w F' k gs css := by
  rw [RsAt.iff] at h ⊢
  exact ⟨h.1, fun i g cs hi hc => (h.2 i g cs hi hc).mono hF⟩
theorem RsAt.bounded {k : Int} {gs : List G} {css : List (List Value)} (h : RsAt w F k gs css) : RsAt w (fun b => F b ∧ b < w.heap.size) k gs css := by
  rw [RsAt.iff] at h ⊢
  exact ⟨h.1, fun i g cs hi hc => (h.2 i g cs hi hc).bounded⟩

theorem RAt.cont {g : G} {cs : List Value} (h : RAt w F g cs) (hk : g.kind ≠ 1) (hk2 : g.kind ≠ 2) :
    ∃ v css, cs = [v, .int .u8 g.dim] ∧ Sl w F (kSize g.kind) v css.flatten ∧ RsAt w F g.kind g.kids css ∧ g.nums = [] := by
  obtain ⟨k, d, ns, ks⟩ := g
  rw [RAt] at h
  simp only [G.kind, G.dim, G.kids, G.nums] at *
  rcases h with ⟨_, _, ⟨e, _⟩ | ⟨e, _⟩ | ⟨_, _, e3, v, css, h1, h2, h3⟩⟩
  · exact absurd e hk
  · exact absurd e hk2
  · exact ⟨v, css, h1, h2, h3, e3⟩

/-- A row of parts, opened: each part's cells. -/
theorem rows_at {k : Int} {s : Nat} {v : Value} {css : List (List Value)} {gs : List G} (h : Sl w F s v css.flatten) (hs : s = kSize k) (hg : RsAt w F k gs css) :
    ∃ A c, v = .slice A gs.length c ∧ gs.length ≤ c ∧ c ≤ maxLen ∧
      ∀ (i : Nat) (g : G), gs[i]? = some g → ∃ b o cs, A = some ⟨b, o, none⟩ ∧ F b ∧ b < w.heap.size ∧ css[i]? = some cs ∧ KAt w F k g cs ∧ ∀ j u, cs[j]? = some u → w.cell? ⟨b, o + i * s + j, none⟩ = some u := by
  subst hs
  obtain ⟨hl, h4⟩ := hg.lens
  obtain ⟨A, n, c, rfl, h1, h2, h3, h3b, h5⟩ := h
  rw [flat_len css _ h4, hl] at h3
  have hp : 0 < kSize k := by unfold kSize; split <;> omega
  obtain rfl : gs.length = n := Nat.eq_of_mul_eq_mul_right hp h3
  refine ⟨A, c, rfl, h1, h2, ?_⟩
  intro i g hi
  have hlt : i < gs.length := (List.getElem?_eq_some_iff.1 hi).1
  obtain ⟨b, o, rfl, hF, hb, hc⟩ := h5 (by omega)
  have hci : css[i]? = some css[i] := List.getElem?_eq_getElem (by omega)
  have hga := (RsAt.iff.1 hg).2 i g css[i] hi hci
  refine ⟨b, o, css[i], rfl, hF, hb, hci, hga, ?_⟩
  intro j u hu
  have hj : j < kSize k := by rw [← hga.len]; exact (List.getElem?_eq_some_iff.1 hu).1
  have := hc (i * kSize k + j) u ((flat_get css _ h4 i css[i] hci j hj).trans hu)
  rwa [← Nat.add_assoc] at this
end

theorem RAt.one {w : World} {F : Nat → Prop} {g : G} {cs : List Value} (h : RAt w F g cs) : ∀ u ∈ cs, u.oneCell' = true := by
  obtain ⟨k, d, ns, ks⟩ := g
  rw [RAt] at h
  rcases h with ⟨_, _, ⟨_, _, _, rfl⟩ | ⟨_, _, v, rfl, ⟨A, n, c, rfl, _⟩⟩ | ⟨_, _, _, v, css, rfl, ⟨A, n, c, rfl, _⟩, _⟩⟩
  · simp [ptCells, Value.oneCell']
  · simp [Value.oneCell']
  · simp [Value.oneCell']
theorem RsAt.one {w : World} {F : Nat → Prop} {k : Int} {gs : List G} {css : List (List Value)} (h : RsAt w F k gs css) : ∀ u ∈ css.flatten, u.oneCell' = true := by
  intro u hu
  obtain ⟨cs, hcs, hu⟩ := List.mem_flatten.1 hu
  obtain ⟨i, hi⟩ := List.mem_iff_getElem?.1 hcs
  rw [RsAt.iff] at h
  have hlt : i < gs.length := by rw [← h.1]; exact (List.getElem?_eq_some_iff.1 hi).1
  rcases h.2 i gs[i] cs (List.getElem?_eq_getElem hlt) hi with ⟨_, b, cc, rfl, _⟩ | ⟨_, _, a2⟩
  · simp at hu
    rcases hu with rfl | rfl <;> simp [Value.oneCell']
  · exact a2.one u hu

theorem flat_set2 (a b : Value) : ∀ (css : List (List Value)), (∀ cs ∈ css, cs.length = 2) → ∀ i, i < css.length → (css.flatten.set (i * 2) a).set (i * 2 + 1) b = (css.set i [a, b]).flatten := by
  intro css
  induction css with
  | nil => intro _ i h; simp at h
  | cons c css ih =>
    intro hl i hi
    have hc : c.length = 2 := hl c (by simp)
    match c, hc with
    | [x, y], _ =>
      cases i with
      | zero => simp
      | succ i =>
        have := ih (fun cs hcs => hl cs (by simp [hcs])) i (by simpa using hi)
        rw [show (i + 1) * 2 = i * 2 + 1 + 1 by omega, show i * 2 + 1 + 1 + 1 = i * 2 + 1 + 1 + 1 from rfl]
        simpa using this
theorem flat_set6 (a b c d e f : Value) : ∀ (css : List (List Value)), (∀ cs ∈ css, cs.length = 6) → ∀ i, i < css.length →
    (((((css.flatten.set (i * 6) a).set (i * 6 + 1) b).set (i * 6 + 2) c).set (i * 6 + 3) d).set (i * 6 + 4) e).set (i * 6 + 5) f = (css.set i [a, b, c, d, e, f]).flatten := by
  intro css
  induction css with
  | nil => intro _ i h; simp at h
  | cons q css ih =>
    intro hl i hi
    have hc : q.length = 6 := hl q (by simp)
    match q, hc with
    | [x, y, z, u, v, t], _ =>
      cases i with
      | zero => simp
      | succ i =>
        have := ih (fun cs hcs => hl cs (by simp [hcs])) i (by simpa using hi)
        rw [show (i + 1) * 6 = i * 6 + 1 + 1 + 1 + 1 + 1 + 1 by omega]
        simpa using this

theorem Bk.set2 {w : World} {B : Nat} {t : TypeId} {css : List (List Value)} (h : Bk w B t css.flatten.toArray) (hl : ∀ cs ∈ css, cs.length = 2) (i : Nat) (hi : i < css.length) (a b : Value) :
    Bk ((w.setCell ⟨B, i * 2, none⟩ a).setCell ⟨B, i * 2 + 1, none⟩ b) B t (css.set i [a, b]).flatten.toArray := by
  have := (h.set (i * 2) a).set (i * 2 + 1) b
  rw [List.setIfInBounds_toArray, List.setIfInBounds_toArray, flat_set2 a b css hl i hi] at this
  exact this
theorem Bk.set6 {w : World} {B : Nat} {t : TypeId} {css : List (List Value)} (h : Bk w B t css.flatten.toArray) (hl : ∀ cs ∈ css, cs.length = 6) (i : Nat) (hi : i < css.length) (a b c d e f : Value) :
    Bk ((((((w.setCell ⟨B, i * 6, none⟩ a).setCell ⟨B, i * 6 + 1, none⟩ b).setCell ⟨B, i * 6 + 2, none⟩ c).setCell ⟨B, i * 6 + 3, none⟩ d).setCell ⟨B, i * 6 + 4, none⟩ e).setCell ⟨B, i * 6 + 5, none⟩ f) B t (css.set i [a, b, c, d, e, f]).flatten.toArray := by
  have := (((((h.set (i * 6) a).set (i * 6 + 1) b).set (i * 6 + 2) c).set (i * 6 + 3) d).set (i * 6 + 4) e).set (i * 6 + 5) f
  simp only [List.setIfInBounds_toArray] at this
  rw [flat_set6 a b c d e f css hl i hi] at this
  exact this


/-- Block B begins with the cells xs. -/
def BkT (w : World) (B : Nat) (t : TypeId) (xs : List Value) : Prop := ∃ tl, Bk w B t (xs ++ tl).toArray
section
variable {w w' : World} {B : Nat} {t : TypeId} {xs : List Value}
theorem BkT.of (h : Bk w B t xs.toArray) : BkT w B t xs := ⟨[], by simpa using h⟩
theorem BkT.lt (h : BkT w B t xs) : B < w.heap.size := h.choose_spec.lt
theorem BkT.free (h : BkT w B t xs) (i : Nat) : w.frozen? ⟨B, i, none⟩ = false := h.choose_spec.free i
theorem BkT.same {F : Nat → Prop} (h : BkT w B t xs) (hs : SameOn F w w') (hF : F B) : BkT w' B t xs := ⟨h.choose, h.choose_spec.same hs hF⟩
theorem BkT.cell (h : BkT w B t xs) {i : Nat} {u : Value} (hi : xs[i]? = some u) : w.cell? ⟨B, i, none⟩ = some u := by
  obtain ⟨tl, h⟩ := h
  rw [h.cell, List.getElem?_toArray, List.getElem?_append_left (List.getElem?_eq_some_iff.1 hi).1]
  exact hi
theorem BkT.cl (h : BkT w B t xs) : Cl w B 0 xs := fun j u hu => by rw [Nat.zero_add]; exact h.cell hu
theorem BkT.set2 {css : List (List Value)} (h : BkT w B t css.flatten) (hl : ∀ cs ∈ css, cs.length = 2) (i : Nat) (hi : i < css.length) (a b : Value) :
    BkT ((w.setCell ⟨B, i * 2, none⟩ a).setCell ⟨B, i * 2 + 1, none⟩ b) B t (css.set i [a, b]).flatten := by
  obtain ⟨tl, h⟩ := h
  have hfl := flat_len css 2 hl
  have := (h.set (i * 2) a).set (i * 2 + 1) b
  rw [List.setIfInBounds_toArray, List.setIfInBounds_toArray, List.set_append_left _ _ (by omega), List.set_append_left _ _ (by rw [List.length_set]; omega), flat_set2 a b css hl i hi] at this
  exact ⟨tl, this⟩
theorem BkT.set6 {css : List (List Value)} (h : BkT w B t css.flatten) (hl : ∀ cs ∈ css, cs.length = 6) (i : Nat) (hi : i < css.length) (a b c d e f : Value) :
    BkT ((((((w.setCell ⟨B, i * 6, none⟩ a).setCell ⟨B, i * 6 + 1, none⟩ b).setCell ⟨B, i * 6 + 2, none⟩ c).setCell ⟨B, i * 6 + 3, none⟩ d).setCell ⟨B, i * 6 + 4, none⟩ e).setCell ⟨B, i * 6 + 5, none⟩ f) B t (css.set i [a, b, c, d, e, f]).flatten := by
  obtain ⟨tl, h⟩ := h
  have hfl := flat_len css 6 hl
  have := (((((h.set (i * 6) a).set (i * 6 + 1) b).set (i * 6 + 2) c).set (i * 6 + 3) d).set (i * 6 + 4) e).set (i * 6 + 5) f
  simp only [List.setIfInBounds_toArray] at this
  rw [List.set_append_left _ _ (by omega), List.set_append_left _ _ (by simp only [List.length_set]; omega), List.set_append_left _ _ (by simp only [List.length_set]; omega), List.set_append_left _ _ (by simp only [List.length_set]; omega), List.set_append_left _ _ (by simp only [List.length_set]; omega), List.set_append_left _ _ (by simp only [List.length_set]; omega), flat_set6 a b c d e f css hl i hi] at this
  exact ⟨tl, this⟩
end

/-- A row at block B that is overwritten part by part: below i lie the new parts, from i on what was there. -/
structure RowInv (wr : World) (N B : Nat) (t : TypeId) (k : Int) (F : Nat → Prop) (h : G → G) (gs : List G) (css0 : List (List Value)) (i : Nat) (css : List (List Value)) : Prop where
  len : css.length = gs.length
  all : ∀ cs ∈ css, cs.length = kSize k
  blk : BkT wr B t css.flatten
  done : ∀ j g cs, j < i → gs[j]? = some g → css[j]? = some cs → KAt wr (fun b => (F b ∨ N ≤ b) ∧ b ≠ B) k (h g) cs
  rest : ∀ j, i ≤ j → css[j]? = css0[j]?

theorem RowInv.same {wr w2 : World} {N B : Nat} {t : TypeId} {k : Int} {F : Nat → Prop} {h : G → G} {gs : List G} {css0 css : List (List Value)} {i : Nat} (r : RowInv wr N B t k F h gs css0 i css)
    (hs : ∀ F, SameOn F wr w2) : RowInv w2 N B t k F h gs css0 i css :=
  ⟨r.len, r.all, r.blk.same (hs fun _ => True) trivial, fun j g cs hj hg hc => (r.done j g cs hj hg hc).keep (hs _), r.rest⟩

/-- One part more. -/
theorem RowInv.step {wr w1 w2 : World} {N B : Nat} {t : TypeId} {k : Int} {F : Nat → Prop} {h : G → G} {gs : List G} {css0 css : List (List Value)} {i : Nat} {g : G} {cs' : List Value}
    (r : RowInv wr N B t k F h gs css0 i css) (hi : gs[i]? = some g) (hN : N ≤ wr.heap.size) (hb : ∀ F, SameOn F wr w1) (hk : KAt w1 (fun b => F b ∨ wr.heap.size ≤ b) k (h g) cs') (hFB : ¬ F B)
    (hblk : BkT w2 B t (css.set i cs').flatten) (hs : SameOn (fun b => b ≠ B) w1 w2) : RowInv w2 N B t k F h gs css0 (i + 1) (css.set i cs') := by
  have hBl : B < wr.heap.size := r.blk.lt
  refine ⟨by rw [List.length_set]; exact r.len, ?_, hblk, ?_, ?_⟩
  · intro cs hcs
    rcases List.mem_or_eq_of_mem_set hcs with h | h
    · exact r.all cs h
    · rw [h]; exact hk.len
  · intro j g' cs hj hg hc
    by_cases e : j = i
    · subst e
      rw [hi] at hg
      cases hg
      rw [List.getElem?_set_self (by rw [r.len]; exact (List.getElem?_eq_some_iff.1 hi).1)] at hc
      cases hc
      refine KAt.mono (KAt.keep (KAt.mono hk.bounded (F' := fun b => (F b ∨ wr.heap.size ≤ b) ∧ b ≠ B) ?_) (hs.mono fun b hb => hb.2)) ?_
      · rintro b ⟨h1 | h1, _⟩
        · exact ⟨.inl h1, fun e => hFB (e ▸ h1)⟩
        · exact ⟨.inr h1, by omega⟩
      · rintro b ⟨h1 | h1, h2⟩
        · exact ⟨.inl h1, h2⟩
        · exact ⟨.inr (by omega), h2⟩
    · rw [List.getElem?_set_ne (by omega)] at hc
      exact ((r.done j g' cs (by omega) hg hc).keep (hb _)).keep (hs.mono fun b hb => hb.2)
  · intro j hj
    rw [List.getElem?_set_ne (by omega)]
    exact r.rest j (by omega)

/-- The whole row is new. -/
theorem RowInv.fin {wr : World} {N B : Nat} {t : TypeId} {k : Int} {F : Nat → Prop} {h : G → G} {gs : List G} {css0 css : List (List Value)} {c : Nat} (r : RowInv wr N B t k F h gs css0 gs.length css)
    (hNB : N ≤ B) (hc : gs.length ≤ c) (hcm : c ≤ maxLen) (hgl : gs.length ≤ 1000) :
    Sl wr (fun b => F b ∨ N ≤ b) (kSize k) (.slice (some ⟨B, 0, none⟩) gs.length c) css.flatten ∧ RsAt wr (fun b => F b ∨ N ≤ b) k (gs.map h) css := by
  have hl := flat_len css _ r.all
  have h6 : kSize k ≤ 6 := by unfold kSize; split <;> omega
  have hmul : gs.length * kSize k ≤ 1000 * 6 := Nat.mul_le_mul hgl h6
  refine ⟨⟨_, _, _, rfl, hc, hcm, by rw [hl, r.len], by rw [hl, r.len]; omega, fun _ => ⟨B, 0, rfl, .inr hNB, r.blk.lt, r.blk.cl⟩⟩, ?_⟩
  rw [RsAt.iff]
  refine ⟨by rw [List.length_map, r.len], ?_⟩
  intro i g cs hg hcs
  rw [List.getElem?_map] at hg
  obtain ⟨g0, hg0, rfl⟩ := Option.map_eq_some_iff.1 hg
  exact (r.done i g0 cs (List.getElem?_eq_some_iff.1 hg0).1 hg0 hcs).mono fun b hb => hb.1


theorem RowInv.get {wr : World} {N B : Nat} {t : TypeId} {k : Int} {F : Nat → Prop} {h : G → G} {gs : List G} {css0 css : List (List Value)} {i : Nat} (r : RowInv wr N B t k F h gs css0 i css) {m : Nat} {cs : List Value} (hm : css[m]? = some cs) (j : Nat) (u : Value) (hj : cs[j]? = some u) :
    wr.cell? ⟨B, m * kSize k + j, none⟩ = some u := by
  have hl : cs.length = kSize k := r.all cs (List.mem_of_getElem? hm)
  exact r.blk.cell ((flat_get css _ r.all m cs hm j (by rw [← hl]; exact (List.getElem?_eq_some_iff.1 hj).1)).trans hj)

/-- What a function leaves that makes a geometry out of others: its cells, in their blocks and new ones. -/
def FPost (w : World) (F : Nat → Prop) (g : G) (e : Ending) (w' : World) : Prop :=
  ∃ cs, e = .returned (.agg (List.toArray cs)) ∧ RAt w' (fun b => F b ∨ w.heap.size ≤ b) g cs ∧ Below w.heap.size w w'
def KPost (w : World) (F : Nat → Prop) (k : Int) (g : G) (e : Ending) (w' : World) : Prop :=
  ∃ cs, e = .returned (.agg (List.toArray cs)) ∧ KAt w' (fun b => F b ∨ w.heap.size ≤ b) k g cs ∧ Below w.heap.size w w'
/-- The function f puts the part g of a whole of kind k under the type d. -/
def KidForce (f : Nat) (k d : Int) (g : G) : Prop := ∀ (w : World) (F : Nat → Prop) (cs : List Value), KAt w F k g cs → Calls Tryz.prog f #[.agg (List.toArray cs), .int .u8 d] w (KPost w F k (force d g))

end Go.Proofs.YtjincjepmkgalaaGreatDoor
