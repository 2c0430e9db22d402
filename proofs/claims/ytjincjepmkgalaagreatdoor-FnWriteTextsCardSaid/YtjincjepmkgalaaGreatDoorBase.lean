/- What lies in memory: rows of cells, and geometries as data (spec side); how these are kept. By an AI agent. -/
import Derived.Test.YtjincjepmkgalaaGreatDoorProg
import Derived.Test.YtjincjepmkgalaaGreatDoorPlain
import Derived.WalkKit
import Derived.WalkSpells
import Derived.WalkLawsBesides
import Derived.Lib.Hide
import Derived.BigQuiet
import Derived.Deep.QuietTactic
import Derived.StillTailTactics
import Derived.Deep.AppendLies
import Derived.Maps.AppendAt
import Derived.BigRegion
namespace Go.Proofs.YtjincjepmkgalaaGreatDoor
open Go.RowKit

/-- The cells xs stand in block b from place o on. -/
def Cl (w : World) (b o : Nat) (xs : List Value) : Prop := ∀ j u, xs[j]? = some u → w.cell? ⟨b, o + j, none⟩ = some u

/-- A slice value that reads as the cells xs, 'size' cells an element, in a block with F. -/
def Sl (w : World) (F : Nat → Prop) (size : Nat) (v : Value) (xs : List Value) : Prop :=
  ∃ A n c, v = .slice A n c ∧ n ≤ c ∧ c ≤ maxLen ∧ xs.length = n * size ∧ xs.length ≤ 140737488355328 ∧ (0 < n → ∃ b o, A = some ⟨b, o, none⟩ ∧ F b ∧ b < w.heap.size ∧ Cl w b o xs)

def SameOn (F : Nat → Prop) (w w' : World) : Prop := w.heap.size ≤ w'.heap.size ∧ ∀ b, b < w.heap.size → F b → w'.heap[b]? = w.heap[b]?

theorem SameOn.of_below {w w' : World} (h : Below w.heap.size w w') (F : Nat → Prop) : SameOn F w w' := ⟨h.size, fun b hb _ => h.block b hb⟩
theorem SameOn.of_belowN {w w' : World} {B : Nat} (h : Below B w w') : SameOn (· < B) w w' := ⟨h.size, fun b _ hb => h.block b hb⟩
theorem SameOn.of_grown {w w' : World} {row : Option Nat} (h : w.grownBy w' row) : SameOn (fun b => some b ≠ row) w w' := ⟨h.size, fun b hb hne => h.block b hb hne⟩
theorem SameOn.mono {F F' : Nat → Prop} {w w' : World} (h : SameOn F w w') (hF : ∀ b, F' b → F b) : SameOn F' w w' := ⟨h.1, fun b hb hf => h.2 b hb (hF b hf)⟩

theorem Cl.keep {w w' : World} {b o : Nat} {xs : List Value} (h : Cl w b o xs) (hb : w'.heap[b]? = w.heap[b]?) : Cl w' b o xs :=
  fun j u hu => (World.cell?_of_block (a := ⟨b, o + j, none⟩) hb).trans (h j u hu)

theorem Cl.drop {w : World} {b o : Nat} {xs : List Value} (h : Cl w b o xs) (k : Nat) : Cl w b (o + k) (xs.drop k) := by
  intro j u hu
  rw [List.getElem?_drop] at hu
  have := h (k + j) u hu
  rwa [← Nat.add_assoc] at this

theorem Cl.append {w : World} {b o : Nat} {xs ys : List Value} (h : Cl w b o (xs ++ ys)) : Cl w b o xs :=
  fun j u hu => h j u (by
    have hj : j < xs.length := (List.getElem?_eq_some_iff.1 hu).1
    rw [List.getElem?_append_left hj]; exact hu)

section
variable {w w' : World} {F F' : Nat → Prop} {size : Nat} {v : Value} {xs : List Value}
theorem Sl.keep (h : Sl w F size v xs) (hs : SameOn F w w') : Sl w' F size v xs := by
  obtain ⟨A, n, c, rfl, h1, h2, h3, h4, h5⟩ := h
  refine ⟨A, n, c, rfl, h1, h2, h3, h4, fun hn => ?_⟩
  obtain ⟨b, o, hA, hF, hb, hc⟩ := h5 hn
  exact ⟨b, o, hA, hF, Nat.lt_of_lt_of_le hb hs.1, hc.keep (hs.2 b hb hF)⟩
theorem Sl.mono (h : Sl w F size v xs) (hF : ∀ b, F b → F' b) : Sl w F' size v xs := by
  obtain ⟨A, n, c, rfl, h1, h2, h3, h4, h5⟩ := h
  refine ⟨A, n, c, rfl, h1, h2, h3, h4, fun hn => ?_⟩
  obtain ⟨b, o, hA, hF', hb, hc⟩ := h5 hn
  exact ⟨b, o, hA, hF _ hF', hb, hc⟩
theorem Sl.none_ : Sl w F size (.slice none 0 0) [] := ⟨none, 0, 0, rfl, Nat.le_refl _, by simp, by simp, by simp, fun h => absurd h (by omega)⟩
theorem Sl.of_own {base : Nat} {e : TypeId} {n : Nat} (h : w.ownsRow base e size v n xs) (hlen : xs.length ≤ 140737488355328) (hF : ∀ b, v.ownBlock = some b → F b) : Sl w F size v xs := by
  obtain ⟨hl, h2⟩ := h
  rcases h2 with ⟨rfl, rfl⟩ | ⟨g, cap, cur, rfl, hb, hg, hnc, hcm, hcs, htake⟩
  · obtain rfl : xs = [] := List.eq_nil_of_length_eq_zero (by simpa using hl)
    exact Sl.none_
  · refine ⟨_, _, _, rfl, hnc, hcm, hl, hlen, fun hn => ⟨g, 0, rfl, hF g rfl, (Array.getElem?_eq_some_iff.1 hg).1, fun j u hu => ?_⟩⟩
    rw [Nat.zero_add, cell_of_row w g j cur e (0, 0) hg]
    rw [← htake, List.getElem?_take] at hu
    split at hu
    · simpa using hu
    · cases hu
end

def i64ok (n : Int) : Prop := -9223372036854775808 ≤ n ∧ n ≤ 9223372036854775807

mutual
/-- The four cells cs read as the geometry, in blocks with F. -/
def GAt (w : World) (F : Nat → Prop) : G → List Value → Prop
  | .mk k d ns ks, cs => ∃ vn vk css, cs = [.int .i64 k, .int .i64 d, vn, vk] ∧ i64ok k ∧ i64ok d ∧ (∀ x ∈ ns, x < 18446744073709551616) ∧ Sl w F 1 vn (ns.map (Value.float .f64)) ∧
      Sl w F 4 vk css.flatten ∧ GsAt w F ks css
def GsAt (w : World) (F : Nat → Prop) : List G → List (List Value) → Prop
  | [], css => css = []
  | g :: gs, css => ∃ cs rest, css = cs :: rest ∧ GAt w F g cs ∧ GsAt w F gs rest
end

section
variable {w w' : World} {F F' : Nat → Prop}

theorem Sl.bounded {size : Nat} {v : Value} {xs : List Value} (h : Sl w F size v xs) : Sl w (fun b => F b ∧ b < w.heap.size) size v xs := by
  obtain ⟨A, n, c, rfl, h1, h2, h3, h4, h5⟩ := h
  refine ⟨A, n, c, rfl, h1, h2, h3, h4, fun hn => ?_⟩
  obtain ⟨b, o, hA, hF, hb, hc⟩ := h5 hn
  exact ⟨b, o, hA, ⟨hF, hb⟩, hb, hc⟩

theorem GAt.len {g : G} {cs : List Value} (h : GAt w F g cs) : cs.length = 4 := by
  cases g
  rw [GAt] at h
  obtain ⟨vn, vk, css, rfl, _⟩ := h
  rfl

theorem GAt.shape {g : G} {cs : List Value} (h : GAt w F g cs) : ∃ A2 n2 p2 A3 n3 p3, cs = [.int .i64 g.kind, .int .i64 g.dim, .slice A2 n2 p2, .slice A3 n3 p3] := by
  cases g
  rw [GAt] at h
  obtain ⟨vn, vk, css, rfl, _, _, _, ⟨A2, n2, p2, rfl, _⟩, ⟨A3, n3, p3, rfl, _⟩, _⟩ := h
  exact ⟨A2, n2, p2, A3, n3, p3, rfl⟩

theorem GsAt.iff {gs : List G} : ∀ {css : List (List Value)}, GsAt w F gs css ↔ css.length = gs.length ∧ ∀ (i : Nat) (g : G) (cs : List Value), gs[i]? = some g → css[i]? = some cs → GAt w F g cs := by
  induction gs with
  | nil =>
    intro css
    rw [GsAt]
    constructor
    · rintro rfl; simp
    · intro h; exact List.eq_nil_of_length_eq_zero (by simpa using h.1)
  | cons g gs ih =>
    intro css
    rw [GsAt]
    constructor
    · rintro ⟨cs, rest, rfl, hg, hr⟩
      rw [ih] at hr
      refine ⟨by simp [hr.1], ?_⟩
      intro i g' cs' h1 h2
      cases i with
      | zero => simp at h1 h2; subst h1; subst h2; exact hg
      | succ i => simp at h1 h2; exact hr.2 i g' cs' h1 h2
    · rintro ⟨hl, hall⟩
      cases css with
      | nil => simp at hl
      | cons cs rest =>
        refine ⟨cs, rest, rfl, hall 0 g cs rfl rfl, ih.2 ⟨by simpa using hl, fun i g' cs' h1 h2 => hall (i + 1) g' cs' (by simpa using h1) (by simpa using h2)⟩⟩

theorem GAt.keep_all (g : G) : ∀ cs, GAt w F g cs → SameOn F w w' → GAt w' F g cs := by
  refine G.ind (P := fun g => ∀ cs, GAt w F g cs → SameOn F w w' → GAt w' F g cs) ?_ g
  intro k d ns ks ih cs h hs
  rw [GAt] at h ⊢
  obtain ⟨vn, vk, css, rfl, hk, hd, hx, h1, h2, h3⟩ := h
  refine ⟨vn, vk, css, rfl, hk, hd, hx, h1.keep hs, h2.keep hs, ?_⟩
  rw [GsAt.iff] at h3 ⊢
  exact ⟨h3.1, fun i g cs hi hc => ih g (List.mem_of_getElem? hi) cs (h3.2 i g cs hi hc) hs⟩
theorem GAt.keep {g : G} {cs : List Value} (h : GAt w F g cs) (hs : SameOn F w w') : GAt w' F g cs := GAt.keep_all g cs h hs
theorem GsAt.keep {gs : List G} {css : List (List Value)} (h : GsAt w F gs css) (hs : SameOn F w w') : GsAt w' F gs css := by
  rw [GsAt.iff] at h ⊢
  exact ⟨h.1, fun i g cs hi hc => (h.2 i g cs hi hc).keep hs⟩
theorem GAt.mono_all (hF : ∀ b, F b → F' b) (g : G) : ∀ cs, GAt w F g cs → GAt w F' g cs := by
  refine G.ind (P := fun g => ∀ cs, GAt w F g cs → GAt w F' g cs) ?_ g
  intro k d ns ks ih cs h
  rw [GAt] at h ⊢
  obtain ⟨vn, vk, css, rfl, hk, hd, hx, h1, h2, h3⟩ := h
  refine ⟨vn, vk, css, rfl, hk, hd, hx, h1.mono hF, h2.mono hF, ?_⟩
  rw [GsAt.iff] at h3 ⊢
  exact ⟨h3.1, fun i g cs hi hc => ih g (List.mem_of_getElem? hi) cs (h3.2 i g cs hi hc)⟩
theorem GAt.mono {g : G} {cs : List Value} (h : GAt w F g cs) (hF : ∀ b, F b → F' b) : GAt w F' g cs := GAt.mono_all hF g cs h
theorem GAt.bounded_all (g : G) : ∀ cs, GAt w F g cs → GAt w (fun b => F b ∧ b < w.heap.size) g cs := by
  refine G.ind (P := fun g => ∀ cs, GAt w F g cs → GAt w (fun b => F b ∧ b < w.heap.size) g cs) ?_ g
  intro k d ns ks ih cs h
  rw [GAt] at h ⊢
  obtain ⟨vn, vk, css, rfl, hk, hd, hx, h1, h2, h3⟩ := h
  refine ⟨vn, vk, css, rfl, hk, hd, hx, h1.bounded, h2.bounded, ?_⟩
  rw [GsAt.iff] at h3 ⊢
  exact ⟨h3.1, fun i g cs hi hc => ih g (List.mem_of_getElem? hi) cs (h3.2 i g cs hi hc)⟩
theorem GAt.bounded {g : G} {cs : List Value} (h : GAt w F g cs) : GAt w (fun b => F b ∧ b < w.heap.size) g cs := GAt.bounded_all g cs h
theorem GsAt.mono {gs : List G} {css : List (List Value)} (h : GsAt w F gs css) (hF : ∀ b, F b → F' b) : GsAt w F' gs css := by
  rw [GsAt.iff] at h ⊢
  exact ⟨h.1, fun i g cs hi hc => (h.2 i g cs hi hc).mono hF⟩

theorem GsAt.lens {gs : List G} {css : List (List Value)} (h : GsAt w F gs css) : css.length = gs.length ∧ ∀ cs ∈ css, cs.length = 4 := by
  rw [GsAt.iff] at h
  refine ⟨h.1, fun cs hcs => ?_⟩
  obtain ⟨i, hi⟩ := List.mem_iff_getElem?.1 hcs
  have hlt : i < gs.length := by rw [← h.1]; exact (List.getElem?_eq_some_iff.1 hi).1
  exact (h.2 i gs[i] cs (List.getElem?_eq_getElem hlt) hi).len

theorem flat4_get : ∀ (css : List (List Value)), (∀ cs ∈ css, cs.length = 4) → ∀ i cs, css[i]? = some cs → ∀ j, j < 4 → css.flatten[i * 4 + j]? = cs[j]? := by
  intro css
  induction css with
  | nil => intro _ i cs h; simp at h
  | cons c css ih =>
    intro hl i cs hi j hj
    have hc : c.length = 4 := hl c (by simp)
    cases i with
    | zero =>
      simp at hi; subst hi
      rw [List.flatten_cons, List.getElem?_append_left (by omega)]; simp
    | succ i =>
      simp at hi
      rw [List.flatten_cons, List.getElem?_append_right (by omega), show (i + 1) * 4 + j - c.length = i * 4 + j by omega]
      exact ih (fun cs hcs => hl cs (by simp [hcs])) i cs hi j hj

theorem flat4_len : ∀ (css : List (List Value)), (∀ cs ∈ css, cs.length = 4) → css.flatten.length = css.length * 4 := by
  intro css
  induction css with
  | nil => intro _; rfl
  | cons c css ih =>
    intro hl
    rw [List.flatten_cons, List.length_append, ih (fun cs hcs => hl cs (by simp [hcs])), hl c (by simp), List.length_cons]
    omega

/-- The kids' slice of a geometry, opened: for each kid its four cells, and that these read as it. -/
theorem kids_at {vk : Value} {css : List (List Value)} {ks : List G} (h : Sl w F 4 vk css.flatten) (hg : GsAt w F ks css) :
    ∃ A c, vk = .slice A ks.length c ∧ ks.length ≤ c ∧ c ≤ maxLen ∧ ks.length ≤ 35184372088832 ∧
      ∀ (i : Nat) (g : G), ks[i]? = some g → ∃ b o A2 n2 p2 A3 n3 p3, A = some ⟨b, o, none⟩ ∧ F b ∧ b < w.heap.size ∧ GAt w F g [.int .i64 g.kind, .int .i64 g.dim, .slice A2 n2 p2, .slice A3 n3 p3] ∧
        w.cell? ⟨b, o + i * 4, none⟩ = some (.int .i64 g.kind) ∧ w.cell? ⟨b, o + i * 4 + 1, none⟩ = some (.int .i64 g.dim) ∧ w.cell? ⟨b, o + i * 4 + 2, none⟩ = some (.slice A2 n2 p2) ∧
        w.cell? ⟨b, o + i * 4 + 3, none⟩ = some (.slice A3 n3 p3) := by
  obtain ⟨hl, h4⟩ := hg.lens
  obtain ⟨A, n, c, rfl, h1, h2, h3, h3b, h5⟩ := h
  rw [flat4_len css h4] at h3 h3b
  obtain rfl : n = ks.length := by omega
  refine ⟨A, c, rfl, h1, h2, by omega, ?_⟩
  intro i g hi
  have hlt : i < ks.length := (List.getElem?_eq_some_iff.1 hi).1
  obtain ⟨b, o, rfl, hF, hb, hc⟩ := h5 (by omega)
  have hci : css[i]? = some css[i] := List.getElem?_eq_getElem (by omega)
  have hga := (GsAt.iff.1 hg).2 i g css[i] hi hci
  have hf := flat4_get css h4 i css[i] hci
  obtain ⟨A2, n2, p2, A3, n3, p3, hcs⟩ := hga.shape
  rw [hcs] at hga hf
  refine ⟨b, o, A2, n2, p2, A3, n3, p3, rfl, hF, hb, hga, ?_, ?_, ?_, ?_⟩
  · exact hc (i * 4) _ (by simpa using hf 0 (by omega))
  · have := hc (i * 4 + 1) _ (by simpa using hf 1 (by omega)); rwa [← Nat.add_assoc] at this
  · have := hc (i * 4 + 2) _ (by simpa using hf 2 (by omega)); rwa [← Nat.add_assoc] at this
  · have := hc (i * 4 + 3) _ (by simpa using hf 3 (by omega)); rwa [← Nat.add_assoc] at this

/-- The numbers' slice of a geometry, opened. -/
theorem nums_at {vn : Value} {ns : List Nat} (h : Sl w F 1 vn (ns.map (Value.float .f64))) :
    ∃ A c, vn = .slice A ns.length c ∧ ns.length ≤ c ∧ c ≤ maxLen ∧ ns.length ≤ 140737488355328 ∧
      ∀ (i x : Nat), ns[i]? = some x → ∃ b o, A = some ⟨b, o, none⟩ ∧ F b ∧ b < w.heap.size ∧ w.cell? ⟨b, o + i, none⟩ = some (.float .f64 x) := by
  obtain ⟨A, n, c, rfl, h1, h2, h3, h3b, h5⟩ := h
  rw [List.length_map] at h3 h3b
  obtain rfl : n = ns.length := by omega
  refine ⟨A, c, rfl, h1, h2, h3b, fun i x hi => ?_⟩
  have hlt : i < ns.length := (List.getElem?_eq_some_iff.1 hi).1
  obtain ⟨b, o, rfl, hF, hb, hc⟩ := h5 (by omega)
  exact ⟨b, o, rfl, hF, hb, hc i _ (by rw [List.getElem?_map, hi]; rfl)⟩
end

/-- The m elements behind the slice's address A are the cells news. -/
def Rd (w : World) (A : Option Addr) (m size : Nat) (news : List Value) : Prop := news.length = m * size ∧ (0 < m → ∃ b o, A = some ⟨b, o, none⟩ ∧ Cl w b o news)

theorem Rd.of_block {w : World} {g m size : Nat} {cs : Array Value} {t : TypeId} {fr : Nat × Nat} (hb : w.heap[g]? = some (.cells cs t fr)) (hl : cs.size = m * size) : Rd w (some ⟨g, 0, none⟩) m size cs.toList :=
  ⟨by simpa using hl, fun _ => ⟨g, 0, rfl, fun j u hu => by rw [Nat.zero_add, cell_of_row w g j cs t fr hb]; simpa using hu⟩⟩

theorem Rd.new (w : World) (cs : Array Value) (t : TypeId) (g m size : Nat) (hg : g = w.heap.size) (hl : cs.size = m * size) : Rd (w.alloc (.cells cs t)) (some ⟨g, 0, none⟩) m size cs.toList :=
  Rd.of_block (t := t) (fr := (0, 0)) (by rw [hg]; exact heap_alloc_new w _) hl

theorem Rd.of_sl {w : World} {F : Nat → Prop} {size : Nat} {A : Option Addr} {n c : Nat} {xs : List Value} (h : Sl w F size (.slice A n c) xs) : Rd w A n size xs := by
  obtain ⟨A', n', c', he, _, _, hl, _, h5⟩ := h
  cases he
  exact ⟨hl, fun hn => by obtain ⟨b, o, hA, _, _, hc⟩ := h5 hn; exact ⟨b, o, hA, hc⟩⟩

theorem Rd.take {w : World} {A : Option Addr} {n m : Nat} {xs : List Value} (h : Rd w A n 1 xs) (hm : m ≤ n) : Rd w A m 1 (xs.take m) :=
  ⟨by rw [List.length_take, h.1]; omega, fun h0 => by obtain ⟨b, o, hA, hc⟩ := h.2 (by omega); exact ⟨b, o, hA, fun j u hu => hc j u (by rw [List.getElem?_take] at hu; split at hu; exact hu; cases hu)⟩⟩

theorem below_dN {B : Nat} {a w : World} (h : Below B a w) (n : Nat) : Below B a (w.drewN n) := ⟨h.os, h.tape, h.output, h.size, h.block⟩

theorem addr_add (b o j : Nat) : (⟨b, o, none⟩ : Addr).add j = ⟨b, o + j, none⟩ := by unfold Addr.add; split <;> simp_all

section
variable {P : Program} (w : World)
theorem app_run (base : Nat) (t ty e : TypeId) (z : Value) (size bytes : Nat) (ht : P.underlying t = some (.slice e)) (hinfo : (P.info? e).map (fun i => (i.zero, i.size, i.bytes)) = some (some z, size, bytes))
    (hzs : z.cells.size = size) (hsz : 0 < size) (v : Value) (n : Nat) (xs : List Value) (hown : w.ownsRow base e size v n xs) (A : Option Addr) (m c : Nat) (news : List Value) (hr : Rd w A m size news)
    (h1 : ∀ u ∈ news, u.oneCell' = true) (h63 : n + m ≤ maxLen) (hbytes : (n + m) * bytes ≤ 140737488355328) (hbase : base ≤ w.heap.size) :
    ∃ v' w', (Builtin.append_ #[t, t] ty #[v, .slice A m c]).run P w = .ok v' w' ∧ w'.ownsRow base e size v' (n + m) (xs ++ news) ∧ w.grownBy w' v.ownBlock ∧ (v'.ownBlock = v.ownBlock ∨ v'.ownBlock = some w.heap.size) := by
  obtain ⟨i, hi, hz, hsize, hby⟩ := info_parts hinfo
  rcases Nat.eq_zero_or_pos m with h0 | h0
  · subst h0
    have hn : news = [] := List.eq_nil_of_length_eq_zero (by simpa using hr.1)
    subst hn
    rcases A with _ | ad
    · refine ⟨v, w, ?_, by simpa using hown, World.grownBy.refl w _, .inl rfl⟩
      rcases hown.2 with ⟨rfl, rfl⟩ | ⟨g, cap, cur, rfl, _, _, hnc, _⟩
      · simp [Builtin.append_, run_underlying ht, sizeOf, typeInfo, hi, Builtin.lenOf, Builtin.firstCells]
      · simp [Builtin.append_, run_underlying ht, sizeOf, typeInfo, hi, Builtin.lenOf, Builtin.firstCells, hnc, storeCells]
    · obtain ⟨v', w', hrun, h2, h3, _, h5⟩ := run_append_own_at (P := P) w base t ty e i z size bytes ht hi hz hsize hby hzs hsz v n xs hown ad 0 c [] (by simp) (by simp) (by simp) h63 hbytes hbase
      exact ⟨v', w', hrun, h2, h3, h5⟩
  · obtain ⟨b, o, rfl, hc⟩ := hr.2 h0
    obtain ⟨v', w', hrun, h2, h3, _, h5⟩ := run_append_own_at (P := P) w base t ty e i z size bytes ht hi hz hsize hby hzs hsz v n xs hown ⟨b, o, none⟩ m c news hr.1 (fun j u hu => by rw [addr_add]; exact hc j u hu) h1 h63 hbytes hbase
    exact ⟨v', w', hrun, h2, h3, h5⟩

theorem app_wp {o : Oper} {a : Act} {K : Act → World → Prop} {Q : Exit → Act → World → Prop} (s x : Operand) (t : TypeId)
    (ho : o.op = .call { callee := .builtin .append, args := #[s, x], argTypes := #[t, t] })
    (base : Nat) (e : TypeId) (z : Value) (size bytes : Nat) (ht : P.underlying t = some (.slice e)) (hinfo : (P.info? e).map (fun i => (i.zero, i.size, i.bytes)) = some (some z, size, bytes))
    (hzs : z.cells.size = size) (hsz : 0 < size) (v : Value) (n : Nat) (xs : List Value) (hs : a.eval s = v) (hown : w.ownsRow base e size v n xs) (A : Option Addr) (m c : Nat) (news : List Value)
    (hx : a.eval x = .slice A m c) (hr : Rd w A m size news) (h1 : ∀ u ∈ news, u.oneCell' = true) (h63 : n + m ≤ maxLen) (hbytes : (n + m) * bytes ≤ 140737488355328) (hbase : base ≤ w.heap.size)
    (h : ∀ v' w', w'.ownsRow base e size v' (n + m) (xs ++ news) → w.grownBy w' v.ownBlock → (v'.ownBlock = v.ownBlock ∨ v'.ownBlock = some w.heap.size) → K (a.put o.dst v') w') : o.wp P a w K Q := by
  obtain ⟨v', w', hrun, h2, h3, h4⟩ := app_run (P := P) w base t o.type e z size bytes ht hinfo hzs hsz v n xs hown A m c news hr h1 h63 hbytes hbase
  unfold Oper.wp execOp
  simp only [ho, resolve, invoke, builtin, Sem.run_bind, Sem.run_pure, Result.andThen_ok, List.map_toArray, List.map_cons, List.map_nil, hs, hx, hrun]
  exact h v' w' h2 h3 h4

theorem app_law {ops : Array Oper} {rest : List Oper} {o : Oper} {a : Act} {Q : Exit → Act → World → Prop} (hgd : o.guard = none) (s x : Operand) (t : TypeId)
    (ho : o.op = .call { callee := .builtin .append, args := #[s, x], argTypes := #[t, t] })
    (base : Nat) (e : TypeId) (z : Value) (size bytes : Nat) (ht : P.underlying t = some (.slice e)) (hinfo : (P.info? e).map (fun i => (i.zero, i.size, i.bytes)) = some (some z, size, bytes))
    (hzs : z.cells.size = size) (hsz : 0 < size) (v : Value) (n : Nat) (xs : List Value) (hs : a.eval s = v) (hown : w.ownsRow base e size v n xs) (A : Option Addr) (m c : Nat) (news : List Value)
    (hx : a.eval x = .slice A m c) (hr : Rd w A m size news) (h1 : ∀ u ∈ news, u.oneCell' = true) (h63 : n + m ≤ maxLen) (hbytes : (n + m) * bytes ≤ 140737488355328) (hbase : base ≤ w.heap.size)
    (h : ∀ v' w', w'.ownsRow base e size v' (n + m) (xs ++ news) → w.grownBy w' v.ownBlock → (v'.ownBlock = v.ownBlock ∨ v'.ownBlock = some w.heap.size) → wpList P ops Q rest (a.put o.dst v') w') : wpList P ops Q (o :: rest) a w :=
  wpList_plain hgd fun _ hK => app_wp w s x t ho base e z size bytes ht hinfo hzs hsz v n xs hs hown A m c news hx hr h1 h63 hbytes hbase fun v' w' h2 h3 h4 => hK _ _ (h v' w' h2 h3 h4)
end

theorem step_app {P : Program} (w : World) {ops : Array Oper} {o : Oper} {a : Act} {K : Act → World → Prop} {Q : Exit → Act → World → Prop} {E : Prop} (hgd : o.guard = none) (s x : Operand) (t : TypeId)
    (ho : o.op = .call { callee := .builtin .append, args := #[s, x], argTypes := #[t, t] })
    (base : Nat) (e : TypeId) (z : Value) (size bytes : Nat) (ht : P.underlying t = some (.slice e)) (hinfo : (P.info? e).map (fun i => (i.zero, i.size, i.bytes)) = some (some z, size, bytes))
    (hzs : z.cells.size = size) (hsz : 0 < size) (v : Value) (n : Nat) (xs : List Value) (hs : a.eval s = v) (hown : w.ownsRow base e size v n xs) (A : Option Addr) (m c : Nat) (news : List Value)
    (hx : a.eval x = .slice A m c) (hr : Rd w A m size news) (h1 : ∀ u ∈ news, u.oneCell' = true) (h63 : n + m ≤ maxLen) (hbytes : (n + m) * bytes ≤ 140737488355328) (hbase : base ≤ w.heap.size)
    (h : ∀ v' w', w'.ownsRow base e size v' (n + m) (xs ++ news) → w.grownBy w' v.ownBlock → (v'.ownBlock = v.ownBlock ∨ v'.ownBlock = some w.heap.size) → K (a.put o.dst v') w') :
    if Region.wanted o (yielded ops a.tmps) = true then Oper.wp P o a w K Q else E := by
  have hw : Region.wanted o (yielded ops a.tmps) = true := by simp [Region.wanted, hgd]
  rw [if_pos hw]
  exact app_wp w s x t ho base e z size bytes ht hinfo hzs hsz v n xs hs hown A m c news hx hr h1 h63 hbytes hbase h

theorem region_tail {P : Program} {id : Nat} {Q : Exit → Act → World → Prop} {a : Act} {w : World} {l : List Oper} (n : Nat) (hm : P.follows .mixedOrders = true) (hB : Region.lexTailB .any l.toArray n = true)
    (h : wpStill P l.toArray w.drew (fun a' => wpList P l.toArray Q (l.drop n) a' w.drew) (l.take n) a) : (Code.region id l.toArray true).wp P Q a w := wp_region_still_tail n hm hB h

/-- Block g is just the cells cs of type t, none frozen. -/
def Bk (w : World) (g : Nat) (t : TypeId) (cs : Array Value) : Prop := w.heap[g]? = some (.cells cs t (0, 0))
theorem Bk.lt {w : World} {g : Nat} {t : TypeId} {cs : Array Value} (h : Bk w g t cs) : g < w.heap.size := (Array.getElem?_eq_some_iff.1 h).1
theorem Bk.cell {w : World} {g : Nat} {t : TypeId} {cs : Array Value} (h : Bk w g t cs) (i : Nat) : w.cell? ⟨g, i, none⟩ = cs[i]? := cell_of_row w g i cs t (0, 0) h
theorem Bk.free {w : World} {g : Nat} {t : TypeId} {cs : Array Value} (h : Bk w g t cs) (i : Nat) : w.frozen? ⟨g, i, none⟩ = false := by
  unfold Bk at h; simp [World.frozen?, h]
theorem Bk.set {w : World} {g : Nat} {t : TypeId} {cs : Array Value} (h : Bk w g t cs) (i : Nat) (u : Value) : Bk (w.setCell ⟨g, i, none⟩ u) g t (cs.setIfInBounds i u) := by
  unfold Bk at h ⊢; simp [World.setCell, Array.getElem?_modify, h]
theorem Bk.far {w : World} {g : Nat} {t : TypeId} {cs : Array Value} (h : Bk w g t cs) {p : Addr} (hp : g ≠ p.block) (u : Value) : Bk (w.setCell p u) g t cs := (Below.heap_setCell w p u g hp).trans h
theorem Bk.same {w w' : World} {F : Nat → Prop} {g : Nat} {t : TypeId} {cs : Array Value} (h : Bk w g t cs) (hs : SameOn F w w') (hg : F g) : Bk w' g t cs := (hs.2 g h.lt hg).trans h
theorem Bk.below {w w' : World} {B : Nat} {g : Nat} {t : TypeId} {cs : Array Value} (h : Bk w g t cs) (hb : Below B w w') (hg : g < B) : Bk w' g t cs := (hb.block g hg).trans h
theorem Bk.grown {w w' : World} {row : Option Nat} {g : Nat} {t : TypeId} {cs : Array Value} (h : Bk w g t cs) (hb : w.grownBy w' row) (hg : some g ≠ row) : Bk w' g t cs := (hb.block g h.lt hg).trans h
theorem Bk.alloc {w : World} {g : Nat} {t : TypeId} {cs : Array Value} (h : Bk w g t cs) (o : Obj) : Bk (w.alloc o) g t cs := (Below.heap_alloc w o g h.lt).trans h
theorem Bk.drew {w : World} {g : Nat} {t : TypeId} {cs : Array Value} (h : Bk w g t cs) : Bk w.drew g t cs := h
theorem Bk.drewN {w : World} {g : Nat} {t : TypeId} {cs : Array Value} (h : Bk w g t cs) (n : Nat) : Bk (w.drewN n) g t cs := h
theorem Bk.new (w : World) (t : TypeId) (cs : Array Value) : Bk (w.alloc (.cells cs t)) w.heap.size t cs := heap_alloc_new w _

theorem Bk.new' (w : World) (t : TypeId) (cs : Array Value) (g : Nat) (h : g = w.heap.size) : Bk (w.alloc (.cells cs t)) g t cs := by rw [h]; exact Bk.new w t cs
theorem own_shape {w : World} {base : Nat} {e : TypeId} {size n : Nat} {v : Value} {xs : List Value} (h : w.ownsRow base e size v n xs) : ∃ A c, v = .slice A n c := by
  rcases h.2 with ⟨rfl, rfl⟩ | ⟨g, cap, cur, rfl, _⟩
  · exact ⟨_, _, rfl⟩
  · exact ⟨_, _, rfl⟩

theorem SameOn.refl (F : Nat → Prop) (w : World) : SameOn F w w := ⟨Nat.le_refl _, fun _ _ _ => rfl⟩
theorem SameOn.trans {F : Nat → Prop} {a b c : World} (h : SameOn F a b) (k : SameOn F b c) : SameOn F a c := ⟨Nat.le_trans h.1 k.1, fun i hi hF => (k.2 i (Nat.lt_of_lt_of_le hi h.1) hF).trans (h.2 i hi hF)⟩
theorem SameOn.alloc {F : Nat → Prop} {a b : World} (h : SameOn F a b) (o : Obj) : SameOn F a (b.alloc o) := h.trans ⟨by simp, fun i hi _ => Below.heap_alloc b o i hi⟩
theorem SameOn.drew {F : Nat → Prop} {a b : World} (h : SameOn F a b) : SameOn F a b.drew := h
theorem SameOn.drewN {F : Nat → Prop} {a b : World} (h : SameOn F a b) (n : Nat) : SameOn F a (b.drewN n) := h
theorem SameOn.setCell {F : Nat → Prop} {a b : World} (h : SameOn F a b) {p : Addr} (hp : ¬ F p.block) (u : Value) : SameOn F a (b.setCell p u) :=
  h.trans ⟨by simp [World.setCell], fun i _ hF => Below.heap_setCell b p u i (fun e => hp (e ▸ hF))⟩
theorem SameOn.below {F : Nat → Prop} {a b c : World} (h : SameOn F a b) (hb : Below b.heap.size b c) : SameOn F a c := h.trans (SameOn.of_below hb F)

/-- The slice value vk owns a row of geometries; these read as gs; what lies behind them is in other blocks from N on. -/
def KInv (N : Nat) (gs : List G) (w : World) (vk : Value) : Prop :=
  ∃ css, w.ownsRow N 28 4 vk gs.length css.flatten ∧ GsAt w (fun b => N ≤ b ∧ some b ≠ vk.ownBlock) gs css

theorem KInv.nil (N : Nat) (w : World) : KInv N [] w (.slice none 0 0) := ⟨[], World.ownsRow_nil _ _ _ _, by rw [GsAt]⟩

theorem ownsRow_same {w w' : World} {N : Nat} {e : TypeId} {size n : Nat} {v : Value} {xs : List Value} (h : w.ownsRow N e size v n xs) (hs : SameOn (fun b => N ≤ b) w w') : w'.ownsRow N e size v n xs := by
  obtain ⟨hl, h2⟩ := h
  refine ⟨hl, ?_⟩
  rcases h2 with h2 | ⟨g, cap, cur, rfl, hb, hg, hnc, hcm, hcs, htake⟩
  · exact .inl h2
  · exact .inr ⟨g, cap, cur, rfl, hb, (hs.2 g (Array.getElem?_eq_some_iff.1 hg).1 hb).trans hg, hnc, hcm, hcs, htake⟩

theorem KInv.keep {N : Nat} {gs : List G} {w w' : World} {vk : Value} (h : KInv N gs w vk) (hs : SameOn (fun b => N ≤ b) w w') : KInv N gs w' vk := by
  obtain ⟨css, h1, h2⟩ := h
  exact ⟨css, ownsRow_same h1 hs, h2.keep (hs.mono fun b hb => hb.1)⟩

/-- One geometry more: what the append leaves is the row again. -/
theorem KInv.snoc {N : Nat} {gs : List G} {w W w1 : World} {vk vk' : Value} {g : G} {cs : List Value} {css : List (List Value)}
    (h1 : w.ownsRow N 28 4 vk gs.length css.flatten) (h2 : GsAt w (fun b => N ≤ b ∧ some b ≠ vk.ownBlock) gs css) (hN : N ≤ w.heap.size)
    (hs : SameOn (fun b => N ≤ b) w W) (hg : GAt W (fun b => w.heap.size ≤ b ∧ b < W.heap.size) g cs)
    (hown : w1.ownsRow N 28 4 vk' (gs.length + 1) (css.flatten ++ cs)) (hgr : W.grownBy w1 vk.ownBlock) (hlie : vk'.ownBlock = vk.ownBlock ∨ vk'.ownBlock = some W.heap.size) :
    KInv N (gs ++ [g]) w1 vk' := by
  have hrow : ∀ b, vk.ownBlock = some b → N ≤ b ∧ b < w.heap.size := h1.lt
  have hsz := hs.1
  -- blocks behind the old ones, and behind the new one, are no row
  have hold : GsAt w (fun b => (N ≤ b ∧ some b ≠ vk.ownBlock) ∧ b < w.heap.size) gs css := by
    rw [GsAt.iff] at h2 ⊢
    exact ⟨h2.1, fun i g' cs' hi hc => (h2.2 i g' cs' hi hc).bounded⟩
  have hold1 : GsAt w1 (fun b => N ≤ b ∧ some b ≠ vk'.ownBlock) gs css := by
    have hk : SameOn (fun b => (N ≤ b ∧ some b ≠ vk.ownBlock) ∧ b < w.heap.size) w w1 :=
      ⟨Nat.le_trans hsz hgr.size, fun b hb hF => (hgr.block b (by omega) hF.1.2).trans (hs.2 b hb hF.1.1)⟩
    refine (hold.keep hk).mono ?_
    rintro b ⟨⟨hb1, hb2⟩, hb3⟩
    refine ⟨hb1, ?_⟩
    rcases hlie with h | h
    · rw [h]; exact hb2
    · rw [h]; intro he; cases he; omega
  have hnew1 : GAt w1 (fun b => N ≤ b ∧ some b ≠ vk'.ownBlock) g cs := by
    have hk : SameOn (fun b => w.heap.size ≤ b ∧ b < W.heap.size) W w1 :=
      ⟨hgr.size, fun b hb hF => hgr.block b hb (fun e => by have := (hrow b e.symm).2; omega)⟩
    refine (hg.keep hk).mono ?_
    rintro b ⟨hb1, hb2⟩
    refine ⟨by omega, ?_⟩
    rcases hlie with h | h
    · rw [h]; intro he; have := (hrow b he.symm).2; omega
    · rw [h]; intro he; cases he; omega
  refine ⟨css ++ [cs], ?_, ?_⟩
  · rw [List.length_append, List.length_singleton, List.flatten_append]
    simpa using hown
  · rw [GsAt.iff] at hold1 ⊢
    refine ⟨by simp [hold1.1], ?_⟩
    intro i g' cs' hi hc
    by_cases hlt : i < gs.length
    · rw [List.getElem?_append_left hlt] at hi
      rw [List.getElem?_append_left (by omega)] at hc
      exact hold1.2 i g' cs' hi hc
    · rw [List.getElem?_append_right (by omega)] at hi
      rw [List.getElem?_append_right (by omega)] at hc
      have hi0 : i - gs.length = 0 := by
        rcases Nat.eq_zero_or_pos (i - gs.length) with h | h
        · exact h
        · rw [List.getElem?_eq_none (by simp; omega)] at hi; cases hi
      rw [hi0] at hi
      rw [show i - css.length = 0 by omega] at hc
      simp at hi hc
      subst hi; subst hc
      exact hnew1

end Go.Proofs.YtjincjepmkgalaaGreatDoor
