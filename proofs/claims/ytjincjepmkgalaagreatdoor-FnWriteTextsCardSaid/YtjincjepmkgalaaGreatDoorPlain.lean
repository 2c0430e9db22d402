/- Plain functions for the statement on texts of geometries: a geometry as data, its making, its text. No program in sight. By an AI agent. -/
namespace Go.Proofs.YtjincjepmkgalaaGreatDoor

/-- A geometry as plain data: kind, type of coordinates, the numbers' bits, the parts. -/
inductive G where
  | mk (kind dim : Int) (nums : List Nat) (kids : List G)

theorem G.ind {P : G → Prop} (h : ∀ k d ns ks, (∀ g ∈ ks, P g) → P (.mk k d ns ks)) : ∀ g, P g := by
  intro g
  refine G.rec (motive_1 := P) (motive_2 := fun gs => ∀ g ∈ gs, P g) ?_ ?_ ?_ g
  · intro k d ns ks ih; exact h k d ns ks ih
  · intro g hg; cases hg
  · intro hd tl h1 h2 g hg
    cases hg with
    | head => exact h1
    | tail _ h' => exact h2 g h'

def G.kind : G → Int | .mk k _ _ _ => k
def G.dim : G → Int | .mk _ d _ _ => d
def G.nums : G → List Nat | .mk _ _ ns _ => ns
def G.kids : G → List G | .mk _ _ _ ks => ks

/-- How many numbers a place has. -/
def widthN (d : Int) : Nat := 2 + (d % 2).toNat + (d / 2 % 2).toNat

theorem widthN_le (d : Int) : 2 ≤ widthN d ∧ widthN d ≤ 4 := by
  have h1 : d % 2 = 0 ∨ d % 2 = 1 := by omega
  have h2 : d / 2 % 2 = 0 ∨ d / 2 % 2 = 1 := by omega
  unfold widthN
  rcases h1 with h1 | h1 <;> rcases h2 with h2 | h2 <;> rw [h1, h2] <;> decide

def kidOfN (k : Int) : Int := if k = 4 then 1 else if k = 3 then 2 else if k = 5 then 2 else if k = 6 then 3 else -1

def isLeaf (k : Int) : Bool := decide (k = 1) || decide (k = 2)

structure Pl where
  x : Nat
  y : Nat
  z : Nat
  m : Nat

/-- The place number i of a row of numbers. -/
def placeAt (d : Int) (ns : List Nat) (i : Nat) : Pl :=
  ⟨ns.getD (i * widthN d) 0, ns.getD (i * widthN d + 1) 0, if d % 2 = 1 then ns.getD (i * widthN d + 2) 0 else 0, if d / 2 % 2 = 1 then ns.getD (i * widthN d + widthN d - 1) 0 else 0⟩

def countP (d : Int) (ns : List Nat) : Nat := ns.length / widthN d

def places (d : Int) (ns : List Nat) : List Pl := (List.range (countP d ns)).map (placeAt d ns)

def numsOf (d : Int) (p : Pl) : List Nat := [p.x, p.y] ++ (if d % 2 = 1 then [p.z] else []) ++ (if d / 2 % 2 = 1 then [p.m] else [])

def numsAll (d : Int) (ps : List Pl) : List Nat := ps.flatMap (numsOf d)

theorem numsOf_length (d : Int) (p : Pl) : (numsOf d p).length = widthN d := by
  have h1 : d % 2 = 0 ∨ d % 2 = 1 := by omega
  have h2 : d / 2 % 2 = 0 ∨ d / 2 % 2 = 1 := by omega
  unfold numsOf widthN
  rcases h1 with h1 | h1 <;> rcases h2 with h2 | h2 <;> simp [h1, h2]

theorem numsAll_length (d : Int) (ps : List Pl) : (numsAll d ps).length = ps.length * widthN d := by
  induction ps with
  | nil => simp [numsAll]
  | cons p ps ih =>
    have : numsAll d (p :: ps) = numsOf d p ++ numsAll d ps := by simp [numsAll]
    rw [this, List.length_append, ih, numsOf_length, List.length_cons, Nat.add_mul]
    omega

mutual
def force (d : Int) : G → G
  | .mk k d0 ns ks => .mk k d (numsAll d (places d0 ns)) (forceAll d ks)
def forceAll (d : Int) : List G → List G
  | [] => []
  | g :: gs => force d g :: forceAll d gs
end

theorem forceAll_map (d : Int) (gs : List G) : forceAll d gs = gs.map (force d) := by
  induction gs with
  | nil => rfl
  | cons g gs ih => simp [forceAll, ih]

/-- Bitwise 'and' of two small types. -/
def andD (a b : Int) : Int := (if a % 2 = 1 ∧ b % 2 = 1 then 1 else 0) + (if a / 2 % 2 = 1 ∧ b / 2 % 2 = 1 then 2 else 0)

def normKind (k : Int) : Int := if k < 0 ∨ 6 < k then 0 else k

def keepKid (k' : Int) (m : G) : Bool := decide (kidOfN k' < 0) || decide (kidOfN k' = m.kind)

def makeWhole (k' d' : Int) (ms : List G) : G :=
  if ms.isEmpty then .mk k' d' [] [] else force (ms.foldl (fun a m => andD a m.dim) 3) (.mk k' d' [] ms)

def makeLeaf (k' d' : Int) (ns : List Nat) : G :=
  .mk k' d' (ns.take ((if k' = 1 then min (ns.length / widthN d') 1 else ns.length / widthN d') * widthN d')) []

mutual
def new : G → G
  | .mk k d ns ks =>
    if isLeaf (normKind k) then makeLeaf (normKind k) (d % 4) ns
    else makeWhole (normKind k) (d % 4) ((newAll ks).filter (keepKid (normKind k)))
def newAll : List G → List G
  | [] => []
  | g :: gs => new g :: newAll gs
end

theorem newAll_map (gs : List G) : newAll gs = gs.map new := by
  induction gs with
  | nil => rfl
  | cons g gs ih => simp [newAll, ih]

/-- Parts put together with a byte between them. -/
def joinB (sep : UInt8) : List (List UInt8) → List UInt8
  | [] => []
  | [a] => a
  | a :: b :: r => a ++ sep :: joinB sep (b :: r)

theorem joinB_snoc (sep : UInt8) (l : List (List UInt8)) (a : List UInt8) (h : l ≠ []) : joinB sep (l ++ [a]) = joinB sep l ++ sep :: a := by
  induction l with
  | nil => exact absurd rfl h
  | cons x l ih =>
    cases l with
    | nil => simp [joinB]
    | cons y l =>
      have := ih (by simp)
      simp only [List.cons_append] at this ⊢
      simp only [joinB, this, List.append_assoc, List.cons_append]

def kindBytes (k : Int) : List UInt8 :=
  if k = 1 then [80, 79, 73, 78, 84] else if k = 2 then [76, 73, 78, 69, 83, 84, 82, 73, 78, 71] else if k = 3 then [80, 79, 76, 89, 71, 79, 78]
  else if k = 4 then [77, 85, 76, 84, 73, 80, 79, 73, 78, 84] else if k = 5 then [77, 85, 76, 84, 73, 76, 73, 78, 69, 83, 84, 82, 73, 78, 71]
  else if k = 6 then [77, 85, 76, 84, 73, 80, 79, 76, 89, 71, 79, 78] else [71, 69, 79, 77, 69, 84, 82, 89, 67, 79, 76, 76, 69, 67, 84, 73, 79, 78]

def dimBytes (d : Int) : List UInt8 := if d = 1 then [90] else if d = 2 then [77] else if d = 3 then [90, 77] else []

def emptyBytes : List UInt8 := [69, 77, 80, 84, 89]

section
variable (S : Nat → List UInt8)

def placeText (d : Int) (p : Pl) : List UInt8 := joinB 32 ((numsOf d p).map S)

def wrapParts (parts : List (List UInt8)) : List UInt8 := if parts.isEmpty then emptyBytes else 40 :: joinB 44 parts ++ [41]

def headText (k d : Int) (body : List UInt8) : List UInt8 :=
  kindBytes k ++ (if d = 0 then [] else 32 :: dimBytes d) ++ (if d ≠ 0 ∨ body = emptyBytes then [32] else []) ++ body

mutual
def body : G → List UInt8
  | .mk k d ns ks => wrapParts ((places d ns).map (placeText S d) ++ (if k = 0 then wktAll ks else bodyAll ks))
def bodyAll : List G → List (List UInt8)
  | [] => []
  | g :: gs => body g :: bodyAll gs
def wkt : G → List UInt8
  | .mk k d ns ks => headText k d (wrapParts ((places d ns).map (placeText S d) ++ (if k = 0 then wktAll ks else bodyAll ks)))
def wktAll : List G → List (List UInt8)
  | [] => []
  | g :: gs => wkt g :: wktAll gs
end

theorem wktAll_map (gs : List G) : wktAll S gs = gs.map (wkt S) := by
  induction gs with
  | nil => simp [wktAll]
  | cons g gs ih => simp [wktAll, ih]
theorem bodyAll_map (gs : List G) : bodyAll S gs = gs.map (body S) := by
  induction gs with
  | nil => simp [bodyAll]
  | cons g gs ih => simp [bodyAll, ih]
theorem wkt_eq (g : G) : wkt S g = headText g.kind g.dim (body S g) := by
  cases g; simp [wkt, body, G.kind, G.dim]
end

mutual
/-- No deeper than so many parts within one another. -/
def deepB : G → Int → Bool
  | .mk _ _ _ ks, m => !decide (m < 0) && deepAll ks (m - 1)
def deepAll : List G → Int → Bool
  | [], _ => true
  | g :: gs, m => deepB g m && deepAll gs m
end
theorem deepAll_iff (gs : List G) (m : Int) : deepAll gs m = true ↔ ∀ g ∈ gs, deepB g m = true := by
  induction gs with
  | nil => simp [deepAll]
  | cons g gs ih => simp [deepAll, ih]

end Go.Proofs.YtjincjepmkgalaaGreatDoor
namespace Go.Proofs.YtjincjepmkgalaaGreatDoor
mutual
/-- How many parts and numbers, itself among them. -/
def wtN : G → Nat
  | .mk _ _ ns ks => 1 + ns.length + wtAll ks
def wtAll : List G → Nat
  | [] => 0
  | g :: gs => wtN g + wtAll gs
end
theorem wtAll_take (gs : List G) (k : Nat) (h : k < gs.length) : wtAll (gs.take (k + 1)) = wtAll (gs.take k) + wtN gs[k] := by
  induction gs generalizing k with
  | nil => simp at h
  | cons g gs ih =>
    cases k with
    | zero => simp [wtAll]
    | succ k =>
      have := ih k (by simpa using h)
      simp only [List.take_succ_cons, wtAll, this, List.getElem_cons_succ]
      omega

/-- Whether a number's bits are those of a finite number. -/
def finB (x : Nat) : Bool := decide (x / 4503599627370496 % 2048 ≠ 2047)
mutual
def finG : G → Bool
  | .mk _ _ ns ks => ns.all finB && finAll ks
def finAll : List G → Bool
  | [] => true
  | g :: gs => finG g && finAll gs
end
theorem finAll_iff (gs : List G) : finAll gs = true ↔ ∀ g ∈ gs, finG g = true := by
  induction gs with
  | nil => simp [finAll]
  | cons g gs ih => simp [finAll, ih]
end Go.Proofs.YtjincjepmkgalaaGreatDoor
namespace Go.Proofs.YtjincjepmkgalaaGreatDoor
mutual
/-- Types 0 to 3, whole places, few of them and few parts, all the way down. -/
def okG : G → Prop
  | .mk _ d ns ks => 0 ≤ d ∧ d ≤ 3 ∧ ns.length = countP d ns * widthN d ∧ countP d ns ≤ 300 ∧ ks.length ≤ 300 ∧ okAll ks
def okAll : List G → Prop
  | [] => True
  | g :: gs => okG g ∧ okAll gs
end
theorem okAll_iff (gs : List G) : okAll gs ↔ ∀ g ∈ gs, okG g := by
  induction gs with
  | nil => simp [okAll]
  | cons g gs ih => simp [okAll, ih]

theorem countP_all (d : Int) (ps : List Pl) : countP d (numsAll d ps) = ps.length := by
  unfold countP
  rw [numsAll_length]
  exact Nat.mul_div_cancel _ (by have := widthN_le d; omega)

theorem places_length (d : Int) (ns : List Nat) : (places d ns).length = countP d ns := by simp [places]

theorem okG_force (d : Int) (h0 : 0 ≤ d) (h3 : d ≤ 3) (g : G) : okG g → okG (force d g) := by
  refine G.ind (P := fun g => okG g → okG (force d g)) ?_ g
  intro k d0 ns ks ih h
  rw [okG] at h
  obtain ⟨_, _, h1, h2, h3', h4⟩ := h
  rw [force, okG]
  refine ⟨h0, h3, ?_, ?_, ?_, ?_⟩
  · rw [countP_all, numsAll_length]
  · rw [countP_all, places_length]; exact h2
  · rw [forceAll_map, List.length_map]; exact h3'
  · rw [okAll_iff, forceAll_map]
    intro g hg
    obtain ⟨g0, hg0, rfl⟩ := List.mem_map.1 hg
    exact ih g0 hg0 ((okAll_iff _).1 h4 g0 hg0)
end Go.Proofs.YtjincjepmkgalaaGreatDoor
namespace Go.Proofs.YtjincjepmkgalaaGreatDoor
theorem getD_mem (l : List Nat) (i : Nat) : l.getD i 0 = 0 ∨ l.getD i 0 ∈ l := by
  rcases Nat.lt_or_ge i l.length with h | h
  · right; simp [List.getD, List.getElem?_eq_getElem h]
  · left; simp [List.getD, List.getElem?_eq_none h]
theorem mem_numsAll {d d0 : Int} {ns : List Nat} {x : Nat} (h : x ∈ numsAll d (places d0 ns)) : x = 0 ∨ x ∈ ns := by
  unfold numsAll at h
  obtain ⟨p, hp, hx⟩ := List.mem_flatMap.1 h
  obtain ⟨i, _, rfl⟩ := List.mem_map.1 hp
  have hz : (if d0 % 2 = 1 then ns.getD (i * widthN d0 + 2) 0 else 0) = 0 ∨ (if d0 % 2 = 1 then ns.getD (i * widthN d0 + 2) 0 else 0) ∈ ns := by
    split
    · exact getD_mem _ _
    · exact .inl rfl
  have hm : (if d0 / 2 % 2 = 1 then ns.getD (i * widthN d0 + widthN d0 - 1) 0 else 0) = 0 ∨ (if d0 / 2 % 2 = 1 then ns.getD (i * widthN d0 + widthN d0 - 1) 0 else 0) ∈ ns := by
    split
    · exact getD_mem _ _
    · exact .inl rfl
  simp only [numsOf, placeAt, List.mem_append, List.mem_cons, List.not_mem_nil, or_false] at hx
  rcases hx with ((h | h) | h) | h
  · rw [h]; exact getD_mem _ _
  · rw [h]; exact getD_mem _ _
  · split at h
    · simp only [List.mem_cons, List.not_mem_nil, or_false] at h; rw [h]; exact hz
    · cases h
  · split at h
    · simp only [List.mem_cons, List.not_mem_nil, or_false] at h; rw [h]; exact hm
    · cases h
end Go.Proofs.YtjincjepmkgalaaGreatDoor
namespace Go.Proofs.YtjincjepmkgalaaGreatDoor
theorem andD_range {a b : Int} (ha : 0 ≤ a ∧ a ≤ 3) : 0 ≤ andD a b ∧ andD a b ≤ 3 := by
  unfold andD
  split <;> split <;> omega

theorem fold_range (l : List G) : ∀ a : Int, 0 ≤ a ∧ a ≤ 3 → 0 ≤ l.foldl (fun a m => andD a m.dim) a ∧ l.foldl (fun a m => andD a m.dim) a ≤ 3 := by
  induction l with
  | nil => intro a h; exact h
  | cons g l ih => intro a h; exact ih _ (andD_range h)

theorem normKind_range (k : Int) : 0 ≤ normKind k ∧ normKind k ≤ 6 := by
  unfold normKind
  split <;> omega

theorem okG_mkEmpty (k d : Int) (h0 : 0 ≤ d) (h3 : d ≤ 3) (ms : List G) (hl : ms.length ≤ 300) (h : ∀ m ∈ ms, okG m) : okG (.mk k d [] ms) := by
  rw [okG]
  refine ⟨h0, h3, ?_, ?_, hl, (okAll_iff _).2 h⟩
  · simp [countP]
  · simp [countP]

theorem new_ok (g : G) : wtN g ≤ 300 → okG (new g) := by
  refine G.ind (P := fun g => wtN g ≤ 300 → okG (new g)) ?_ g
  intro k d ns ks ih hw
  rw [wtN] at hw
  have hkw : ∀ g ∈ ks, wtN g ≤ wtAll ks := by
    intro g hg
    clear ih hw
    induction ks with
    | nil => cases hg
    | cons a ks ihk =>
      rw [wtAll]
      cases hg with
      | head => omega
      | tail _ h => have := ihk h; omega
  have hkl : ks.length ≤ wtAll ks := by
    clear ih hw hkw
    induction ks with
    | nil => simp
    | cons a ks ihk =>
      rw [wtAll, List.length_cons]
      have : 1 ≤ wtN a := by cases a; rw [wtN]; omega
      omega
  have hd : 0 ≤ d % 4 ∧ d % 4 ≤ 3 := by omega
  rw [new]
  split
  · unfold makeLeaf
    have hwd := widthN_le (d % 4)
    rw [okG]
    have hlen : (ns.take ((if normKind k = 1 then min (ns.length / widthN (d % 4)) 1 else ns.length / widthN (d % 4)) * widthN (d % 4))).length =
        (if normKind k = 1 then min (ns.length / widthN (d % 4)) 1 else ns.length / widthN (d % 4)) * widthN (d % 4) := by
      rw [List.length_take]
      apply Nat.min_eq_left
      have h1 : (if normKind k = 1 then min (ns.length / widthN (d % 4)) 1 else ns.length / widthN (d % 4)) ≤ ns.length / widthN (d % 4) := by split <;> omega
      exact Nat.le_trans (Nat.mul_le_mul_right _ h1) (Nat.div_mul_le_self _ _)
    have hc : countP (d % 4) (ns.take ((if normKind k = 1 then min (ns.length / widthN (d % 4)) 1 else ns.length / widthN (d % 4)) * widthN (d % 4))) =
        (if normKind k = 1 then min (ns.length / widthN (d % 4)) 1 else ns.length / widthN (d % 4)) := by
      unfold countP
      rw [hlen]
      exact Nat.mul_div_cancel _ (by omega)
    refine ⟨hd.1, hd.2, by rw [hc, hlen], ?_, by simp, by rw [okAll]; trivial⟩
    rw [hc]
    have h1 : (if normKind k = 1 then min (ns.length / widthN (d % 4)) 1 else ns.length / widthN (d % 4)) ≤ ns.length / widthN (d % 4) := by split <;> omega
    have h2 : ns.length / widthN (d % 4) ≤ ns.length := Nat.div_le_self _ _
    omega
  · unfold makeWhole
    have hfl : ((newAll ks).filter (keepKid (normKind k))).length ≤ 300 := by
      refine Nat.le_trans (List.length_filter_le _ _) ?_
      rw [newAll_map, List.length_map]
      omega
    have hall : ∀ m ∈ (newAll ks).filter (keepKid (normKind k)), okG m := by
      intro m hm
      have hm' := (List.mem_filter.1 hm).1
      rw [newAll_map] at hm'
      obtain ⟨g, hg, rfl⟩ := List.mem_map.1 hm'
      exact ih g hg (by have := hkw g hg; omega)
    split
    · exact okG_mkEmpty _ _ hd.1 hd.2 _ (by simp) (by simp)
    · have hf := fold_range ((newAll ks).filter (keepKid (normKind k))) 3 ⟨by omega, by omega⟩
      exact okG_force _ hf.1 hf.2 _ (okG_mkEmpty _ _ hd.1 hd.2 _ hfl hall)
end Go.Proofs.YtjincjepmkgalaaGreatDoor
