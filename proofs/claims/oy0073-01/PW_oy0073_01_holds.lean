import PyProof.Rows.All
import Wide.All
import OpenK.AllK
import Wide.FinOn
import Lean
import PySem.Challenge.RW_oy0073_01
set_option Elab.async false

/- Pure -/
section
namespace Mine
/-- the plain functions that the program computes -/
noncomputable def coll (p q : List Nat) : Int := (if decide (q < p) then 1 else 0) - (if decide (p < q) then 1 else 0)
noncomputable def blanks (r : List Nat) : Nat := (r.takeWhile (· == 32)).length
noncomputable def cornersOf (rows : List (List Nat)) : List Nat := (List.range rows.length).filter fun i => decide (blanks (rows.getD (i + 1) []) < blanks (rows.getD i []))
noncomputable def slRight (rows : List (List Nat)) (i c : Nat) : List Nat := ((rows.getD i []).drop (c + 1)).take 1
noncomputable def slBelow (rows : List (List Nat)) (i c : Nat) : List Nat := ((rows.getD (i + 1) []).drop c).take 1
noncomputable def slUp (rows : List (List Nat)) (i c : Nat) : Bool := (slBelow rows i c != []) && ((slRight rows i c == []) || decide (coll (slBelow rows i c) (slRight rows i c) ≤ 0))
noncomputable def slPut (rows : List (List Nat)) (i c : Nat) : List (List Nat) :=
  rows.set i ((rows.getD i []).take c ++ (if slUp rows i c then slBelow rows i c else slRight rows i c) ++ (rows.getD i []).drop (c + 1))
noncomputable def slLoop : Nat → List (List Nat) → Nat → Nat → List (List Nat) × Nat
  | 0, rows, i, _ => (rows, i)
  | f + 1, rows, i, c =>
    if slRight rows i c = [] ∧ slBelow rows i c = [] then (rows.set i ((rows.getD i []).take c), i)
    else if slUp rows i c then slLoop f (slPut rows i c) (i + 1) c else slLoop f (slPut rows i c) i (c + 1)
noncomputable def slide (s : List (List Nat) × List Nat) (choice : Nat) : List (List Nat) × List Nat :=
  if cornersOf s.1 = [] then s
  else
    let i := (cornersOf s.1).getD (choice % (cornersOf s.1).length) 0
    let r := slLoop 100 s.1 i (blanks (s.1.getD i []) - 1)
    (r.1, s.2 ++ [r.2])
/-- Schensted: the rows passed, the rows left, the letter -/
noncomputable def bump : List (List Nat) → Nat → List (List Nat) × List (List Nat) × Nat
  | [], x => ([], [], x)
  | r :: rs, x =>
    if r ≠ [] ∧ x < r.getLastD 0 then
      let a := (r.filter (· ≤ x)).length
      let b := bump rs (r.getD a 0)
      ((r.take a ++ [x] ++ r.drop (a + 1)) :: b.1, b.2.1, b.2.2)
    else ([], r :: rs, x)
noncomputable def insertP (rows : List (List Nat)) (x : Nat) : List (List Nat) × Nat :=
  let b := bump rows x
  (b.1 ++ (match b.2.1 with | [] => [] | r :: rs => (r ++ [b.2.2]) :: rs), b.1.length)
noncomputable def growthGo : List (List Nat) → List Nat → List Nat
  | _, [] => []
  | rows, x :: xs => (insertP rows x).2 :: growthGo (insertP rows x).1 xs
noncomputable def growthP (w : List Nat) : List Nat := growthGo (List.replicate w.length []) w
/-- the partner: one reverse insertion, from the row above `row` down to row 0 -/
noncomputable def unbump : Nat → List (List Nat) → Nat → Option (List (List Nat) × Nat)
  | 0, rows, x => some (rows, x)
  | i + 1, rows, x =>
    let r := rows.getD i []
    let a := (r.filter (· < x)).length
    if a = 0 then none else unbump i (rows.set i (r.take (a - 1) ++ [x] ++ r.drop a)) (r.getD (a - 1) 0)
noncomputable def unins (rows : List (List Nat)) (row : Nat) : Option (List (List Nat) × Nat) :=
  let r := rows.getD row []
  if r = [] ∨ rows.length ≤ row then none else unbump row (rows.set row r.dropLast) (r.getLastD 0)
noncomputable def partnerGo : List (List Nat) → List Nat → List Nat → Option (List Nat)
  | _, [], w => some w
  | rows, row :: rest, w => match unins rows row with
    | none => none
    | some (rows', x) => partnerGo rows' rest (x :: w)
noncomputable def partnerP (gr : List Nat) : Option (List Nat) :=
  partnerGo ((List.range gr.length).map fun i => List.replicate (gr.count i) (48 + i)) gr.reverse []
noncomputable def place (x : Nat) : Nat := x / 65536 % 16 % 10
noncomputable def initRows (w : List Nat) : List (List Nat) := (List.range w.length).map fun m => List.replicate (w.length - 1 - m) 32 ++ [w.getD (w.length - 1 - m) 0]
end Mine
end

/- Pure2 -/
section
namespace Mine
/-- a row: blanks, then signs -/
noncomputable def RowOk (r : List Nat) : Prop := ∃ b t, r = List.replicate b 32 ++ t ∧ (∀ q ∈ t, q ≠ 32) ∧ r.length ≤ 40
noncomputable def fmTable : List (List (Nat × Nat)) := [[(40960, 108), (49152, 115), (32768, 45), (24576, 98), (16384, 100), (8192, 99), (4096, 112)], [(256, 114)], [(128, 119)], [(2112, 115), (2048, 83), (64, 120)], [(32, 114)], [(16, 119)], [(1032, 115), (1024, 83), (8, 120)], [(4, 114)], [(2, 119)], [(513, 116), (512, 84), (1, 120)]]
noncomputable def fmHit (x i b : Nat) : Bool := if i = 0 then x &&& 61440 == b else x &&& b == b
noncomputable def fmChar (x i : Nat) (t : List (Nat × Nat)) : Nat := match t with
  | [] => if i = 0 then 63 else 45
  | (b, q) :: r => if fmHit x i b then q else fmChar x i r
noncomputable def fmAll (x : Nat) : List Nat := fmTable.zipIdx.map fun q => fmChar x q.2 q.1
noncomputable def kindOfN (k : Nat) : Nat := match k with
  | 1 => 112 | 2 => 99 | 4 => 100 | 6 => 98 | 8 => 45 | 10 => 108 | 12 => 115 | _ => 63
noncomputable def signP (x : Nat) : Nat :=
  if place x = 0 then kindOfN (x / 4096 % 16)
  else if place x % 3 = 0 ∧ x / 2 ^ (12 - place x / 3) % 2 = 1 then (if place x < 9 then [83, 115] else [84, 116]).getD (x / 2 ^ (9 - place x) % 2) 0
  else if x / 2 ^ (9 - place x) % 2 = 1 then [120, 114, 119].getD (place x % 3) 0 else 45
theorem place_lt (x : Nat) : place x < 10 := Nat.mod_lt _ (by decide)
noncomputable def SlsOk : List (List Nat) × List Nat → List Nat → Prop
  | _, [] => True
  | s, ch :: chs => ((∀ r ∈ s.1, RowOk r) ∧ s.1.length ≤ 40 ∧ s.2.length ≤ 1000) ∧ SlsOk (slide s ch) chs
noncomputable def numsP (ns : List Int) : List Nat := ((if ns = [] then [1179776, 65792, 2295872, 1114368, 394240] else ns).take 7).map fun x => (x.fmod (2 ^ 40)).toNat
noncomputable def chsP (xs : List Nat) : List Nat := (List.range (xs.length * (xs.length - 1) / 2)).map fun t => xs.getD (t % xs.length) 0 / 2 ^ 20 / 8 ^ (t / xs.length)
structure LawOk (xs : List Nat) (y : List Nat) : Prop where
  part : partnerP (growthP (xs.map signP)) = some y
  glen : (growthP (xs.map signP)).length = xs.length
  ylen : y.length = xs.length
  fm : ∀ x ∈ xs, (fmAll x)[place x]? = some (signP x)
  sl1 : SlsOk (initRows (xs.map signP), []) (chsP xs)
  sl2 : SlsOk (initRows y, []) (chsP xs)
  ended : ((chsP xs).foldl slide (initRows (xs.map signP), [])).2 = ((chsP xs).foldl slide (initRows y, [])).2
  lens : ((chsP xs).foldl slide (initRows (xs.map signP), [])).1.map List.length = (List.range xs.length).map fun i => (growthP (xs.map signP)).count i
end Mine
end

/- M1 -/
section
namespace Mine
abbrev Sh := Nat → Nat
noncomputable def Part (l : Sh) : Prop := ∀ i, l (i + 1) ≤ l i
noncomputable def ad (l : Sh) (a : Nat) : Sh := fun i => if i = a then l i + 1 else l i
noncomputable def sb (l : Sh) (h : Nat) : Sh := fun i => if i = h then l i - 1 else l i
noncomputable def Rem (l : Sh) (h : Nat) : Prop := l (h + 1) < l h
noncomputable def Add (l : Sh) (a : Nat) : Prop := ∀ b, a = b + 1 → l a < l b
noncomputable def pass (l : Sh) (h a : Nat) : Nat × Nat := if a = h + 1 ∧ l (h + 1) + 1 = l h then (h, h + 1) else (a, h)
theorem pass_ne {l : Sh} {h a : Nat} (e : a ≠ h + 1) : pass l h a = (a, h) := by unfold pass; rw [if_neg fun q => e q.1]
theorem pass_hit {l : Sh} {h : Nat} (e : l (h + 1) + 1 = l h) : pass l h (h + 1) = (h, h + 1) := by unfold pass; rw [if_pos ⟨rfl, e⟩]
theorem pass_miss {l : Sh} {h a : Nat} (e : l (h + 1) + 1 ≠ l h) : pass l h a = (a, h) := by unfold pass; rw [if_neg fun q => e q.2]
theorem part_sb {l : Sh} {h : Nat} (p : Part l) (r : Rem l h) : Part (sb l h) := by
  intro i
  have := p i
  unfold sb
  unfold Rem at r
  by_cases h1 : i + 1 = h <;> by_cases h2 : i = h
  · (first | assumption | lia | omega)
  · simp [h1, h2]; subst h1; (first | assumption | lia | omega)
  · simp [h2]; subst h2; (first | assumption | lia | omega)
  · simp [h1, h2]; (first | assumption | lia | omega)
theorem part_ad {l : Sh} {a : Nat} (p : Part l) (r : Add l a) : Part (ad l a) := by
  intro i
  have := p i
  unfold ad
  by_cases h1 : i + 1 = a <;> by_cases h2 : i = a
  · (first | assumption | lia | omega)
  · have := r i h1.symm
    subst h1
    simp; (first | assumption | lia | omega)
  · simp [h2]; subst h2; (first | assumption | lia | omega)
  · simp [h1, h2]; (first | assumption | lia | omega)
theorem pass_eq {l : Sh} {h a : Nat} (r : Rem l h) : sb (ad l a) (pass l h a).2 = ad (sb l h) (pass l h a).1 := by
  unfold Rem at r
  funext i
  unfold pass
  split
  · rename_i c
    obtain ⟨rfl, c⟩ := c
    simp only [sb, ad]
    by_cases h1 : i = h <;> by_cases h2 : i = h + 1
    · (first | assumption | lia | omega)
    · subst h1; simp; (first | assumption | lia | omega)
    · subst h2; simp
    · simp [h1, h2]
  · simp only [sb, ad]
    by_cases h1 : i = h <;> by_cases h2 : i = a
    · subst h1; subst h2; simp; (first | assumption | lia | omega)
    · rw [if_pos h1, if_neg h2, if_neg h2, if_pos h1]
    · rw [if_neg h1, if_pos h2, if_pos h2, if_neg h1]
    · rw [if_neg h1, if_neg h2, if_neg h2, if_neg h1]
theorem pass_add {l : Sh} {h a : Nat} (p : Part l) (r : Rem l h) (q : Add l a) : Add (sb l h) (pass l h a).1 := by
  unfold Rem at r
  intro b e
  unfold pass at e ⊢
  split at e
  · rename_i c
    rw [if_pos c]
    obtain ⟨rfl, c⟩ := c
    simp only at e ⊢
    subst e
    have := p b
    simp [sb]; (first | assumption | lia | omega)
  · rename_i c
    rw [if_neg c]
    simp only at e ⊢
    have := q b e
    subst e
    have := p b
    simp only [sb]
    by_cases h1 : b = h
    · subst h1; simp; simp at c; (first | assumption | lia | omega)
    · simp [h1]; split <;> (first | assumption | lia | omega)
theorem pass_rem {l : Sh} {h a : Nat} (p : Part l) (r : Rem l h) (q : Add l a) : Rem (ad l a) (pass l h a).2 := by
  unfold Rem at *
  unfold pass
  split
  · rename_i c
    obtain ⟨rfl, c⟩ := c
    have := p (h + 1)
    simp [ad]; (first | assumption | lia | omega)
  · rename_i c
    simp only [ad]
    by_cases h1 : h + 1 = a
    · subst h1
      have := q h rfl
      simp at c ⊢; (first | assumption | lia | omega)
    · simp [h1]; split <;> (first | assumption | lia | omega)

/-- the move of three -/
noncomputable def Mv : Nat × Nat × Nat → Nat × Nat × Nat → Prop
  | (p, q, r), (p', q', r') => (p' = q ∧ q' = p ∧ r' = r ∧ (p ≤ r ∧ r < q ∨ q ≤ r ∧ r < p)) ∨ (p' = p ∧ q' = r ∧ r' = q ∧ (q < p ∧ p ≤ r ∨ r < p ∧ p ≤ q))
theorem Mv.symm {t u : Nat × Nat × Nat} (h : Mv t u) : Mv u t := by
  obtain ⟨p, q, r⟩ := t; obtain ⟨p', q', r'⟩ := u
  rcases h with ⟨rfl, rfl, rfl, h⟩ | ⟨rfl, rfl, rfl, h⟩
  · exact .inl ⟨rfl, rfl, rfl, h.symm⟩
  · exact .inr ⟨rfl, rfl, rfl, h.symm⟩
theorem Mv.two {p q r : Nat} (h : p ≤ r ∧ r < q ∨ q ≤ r ∧ r < p) (h' : q < p ∧ p ≤ r ∨ r < p ∧ p ≤ q) : False := by
  rcases h with h | h
  · rcases h' with h' | h'
    · exact absurd (Nat.lt_of_lt_of_le h'.1 h.1) (Nat.not_lt.mpr (Nat.le_of_lt h.2))
    · exact absurd (Nat.lt_of_lt_of_le h'.1 h.1) (Nat.lt_irrefl _)
  · rcases h' with h' | h'
    · exact absurd (Nat.lt_of_lt_of_le h.2 h'.2) (Nat.lt_irrefl _)
    · exact absurd (Nat.lt_of_lt_of_le h'.1 (Nat.le_trans h'.2 h.1)) (Nat.lt_irrefl _)
theorem Mv.unique {t u v : Nat × Nat × Nat} (h : Mv t u) (h' : Mv t v) : u = v := by
  obtain ⟨p, q, r⟩ := t; obtain ⟨p', q', r'⟩ := u; obtain ⟨p'', q'', r''⟩ := v
  rcases h with ⟨rfl, rfl, rfl, h⟩ | ⟨rfl, rfl, rfl, h⟩
  · rcases h' with ⟨rfl, rfl, rfl, _⟩ | ⟨rfl, rfl, rfl, h'⟩
    · rfl
    · exact (Mv.two h h').elim
  · rcases h' with ⟨rfl, rfl, rfl, h'⟩ | ⟨rfl, rfl, rfl, _⟩
    · exact (Mv.two h' h).elim
    · rfl
theorem Mv.a1 {p q r : Nat} (h : p ≤ r) (h' : r < q) : Mv (p, q, r) (q, p, r) := .inl ⟨rfl, rfl, rfl, .inl ⟨h, h'⟩⟩
theorem Mv.a2 {p q r : Nat} (h : q ≤ r) (h' : r < p) : Mv (p, q, r) (q, p, r) := .inl ⟨rfl, rfl, rfl, .inr ⟨h, h'⟩⟩
theorem Mv.b1 {p q r : Nat} (h : q < p) (h' : p ≤ r) : Mv (p, q, r) (p, r, q) := .inr ⟨rfl, rfl, rfl, .inl ⟨h, h'⟩⟩
theorem Mv.b2 {p q r : Nat} (h : r < p) (h' : p ≤ q) : Mv (p, q, r) (p, r, q) := .inr ⟨rfl, rfl, rfl, .inr ⟨h, h'⟩⟩
/-- one entry passes three holes -/
noncomputable def pass3 (l : Sh) (t : Nat × Nat × Nat) (a : Nat) : Nat × (Nat × Nat × Nat) :=
  let p1 := pass l t.1 a
  let p2 := pass (sb l t.1) t.2.1 p1.1
  let p3 := pass (sb (sb l t.1) t.2.1) t.2.2 p2.1
  (p3.1, p1.2, p2.2, p3.2)
noncomputable def Rem3 (l : Sh) (t : Nat × Nat × Nat) : Prop := Rem l t.1 ∧ Rem (sb l t.1) t.2.1 ∧ Rem (sb (sb l t.1) t.2.1) t.2.2
theorem sb_ne {l : Sh} {h i : Nat} (e : i ≠ h) : sb l h i = l i := by simp [sb, e]
theorem sb_eq {l : Sh} {h : Nat} : sb l h h = l h - 1 := by simp [sb]
theorem sb_comm {l : Sh} {x z : Nat} : sb (sb l x) z = sb (sb l z) x := by
  funext i
  simp only [sb]
  by_cases h1 : i = x <;> by_cases h2 : i = z
  · rw [if_pos h2, if_pos h1, if_pos h1, if_pos h2]
  · rw [if_neg h2, if_pos h1, if_pos h1, if_neg h2]
  · rw [if_pos h2, if_neg h1, if_neg h1, if_pos h2]
  · rw [if_neg h2, if_neg h1, if_neg h1, if_neg h2]
theorem L3_of {l : Sh} {t u : Nat × Nat × Nat} {a a1 a2 a3 b1 b2 h1 h2 h3 k1 k2 k3 : Nat}
    (e1 : pass l t.1 a = (a1, h1)) (e2 : pass (sb l t.1) t.2.1 a1 = (a2, h2)) (e3 : pass (sb (sb l t.1) t.2.1) t.2.2 a2 = (a3, h3))
    (f1 : pass l u.1 a = (b1, k1)) (f2 : pass (sb l u.1) u.2.1 b1 = (b2, k2)) (f3 : pass (sb (sb l u.1) u.2.1) u.2.2 b2 = (a3, k3)) (h : Mv (h1, h2, h3) (k1, k2, k3)) :
    (pass3 l t a).1 = (pass3 l u a).1 ∧ Mv (pass3 l t a).2 (pass3 l u a).2 := by
  simp only [pass3, e1, e2, e3, f1, f2, f3]
  exact ⟨trivial, h⟩
theorem L3a {l : Sh} {x y z a : Nat} (P : Part l) (hxy : x ≤ y) (hyz : y < z) (h1 : Rem3 l (x, z, y)) (h2 : Rem3 l (z, x, y)) (ha : Add l a) :
    (pass3 l (x, z, y) a).1 = (pass3 l (z, x, y) a).1 ∧ Mv (pass3 l (x, z, y) a).2 (pass3 l (z, x, y) a).2 := by
  obtain ⟨r1, r2, r3⟩ := h1
  obtain ⟨u1, u2, u3⟩ := h2
  unfold Rem at *
  simp only at r1 r2 r3 u1 u2 u3
  have nzx : z ≠ x := by (first | assumption | lia | omega)
  by_cases bz : a = z + 1
  · subst bz
    have c1 : sb l x (z + 1) = l (z + 1) := sb_ne (by (first | assumption | lia | omega))
    have c2 : sb l x z = l z := sb_ne nzx
    by_cases d : l (z + 1) + 1 = l z
    · have e1 : pass l x (z + 1) = (z + 1, x) := pass_ne (by (first | assumption | lia | omega))
      have e2 : pass (sb l x) z (z + 1) = (z, z + 1) := pass_hit (by rw [c1, c2]; exact d)
      have f1 : pass l z (z + 1) = (z, z + 1) := pass_hit d
      have f2 : pass (sb l z) x z = (z, x) := by
        by_cases q : z = x + 1
        · refine pass_miss ?_
          rw [← q, sb_eq, sb_ne (by (first | assumption | lia | omega))]
          rw [q] at d u1 ⊢
          (first | assumption | lia | omega)
        · exact pass_ne q
      have cm : sb (sb l z) x = sb (sb l x) z := sb_comm
      rcases Nat.lt_or_ge (y + 1) z with q | q
      · have e3 : pass (sb (sb l x) z) y z = (z, y) := pass_ne (by (first | assumption | lia | omega))
        exact L3_of (t := (x, z, y)) (u := (z, x, y)) e1 e2 e3 f1 f2 (by rw [cm]; exact e3) (by first | exact .a1 (by (first | assumption | lia | omega)) (by (first | assumption | lia | omega)) | exact .b1 (by (first | assumption | lia | omega)) (by (first | assumption | lia | omega)) | exact .a2 (by (first | assumption | lia | omega)) (by (first | assumption | lia | omega)) | exact .b2 (by (first | assumption | lia | omega)) (by (first | assumption | lia | omega)) | fail "mv")
      · have hz : z = y + 1 := by (first | assumption | lia | omega)
        by_cases w : sb (sb l x) z (y + 1) + 1 = sb (sb l x) z y
        · have e3 : pass (sb (sb l x) z) y z = (y, y + 1) := by
            have := pass_hit w
            rw [← hz] at this ⊢
            exact this
          exact L3_of (t := (x, z, y)) (u := (z, x, y)) e1 e2 e3 f1 f2 (by rw [cm]; exact e3) (by first | exact .a1 (by (first | assumption | lia | omega)) (by (first | assumption | lia | omega)) | exact .b1 (by (first | assumption | lia | omega)) (by (first | assumption | lia | omega)) | exact .a2 (by (first | assumption | lia | omega)) (by (first | assumption | lia | omega)) | exact .b2 (by (first | assumption | lia | omega)) (by (first | assumption | lia | omega)) | fail "mv")
        · have e3 : pass (sb (sb l x) z) y z = (z, y) := pass_miss w
          exact L3_of (t := (x, z, y)) (u := (z, x, y)) e1 e2 e3 f1 f2 (by rw [cm]; exact e3) (by first | exact .a1 (by (first | assumption | lia | omega)) (by (first | assumption | lia | omega)) | exact .b1 (by (first | assumption | lia | omega)) (by (first | assumption | lia | omega)) | exact .a2 (by (first | assumption | lia | omega)) (by (first | assumption | lia | omega)) | exact .b2 (by (first | assumption | lia | omega)) (by (first | assumption | lia | omega)) | fail "mv")
    · have e1 : pass l x (z + 1) = (z + 1, x) := pass_ne (by (first | assumption | lia | omega))
      have e2 : pass (sb l x) z (z + 1) = (z + 1, z) := pass_miss (by rw [c1, c2]; exact d)
      have f1 : pass l z (z + 1) = (z + 1, z) := pass_miss d
      have f2 : pass (sb l z) x (z + 1) = (z + 1, x) := pass_ne (by (first | assumption | lia | omega))
      have e3 : pass (sb (sb l x) z) y (z + 1) = (z + 1, y) := pass_ne (by (first | assumption | lia | omega))
      exact L3_of (t := (x, z, y)) (u := (z, x, y)) e1 e2 e3 f1 f2 (by rw [sb_comm]; exact e3) (by first | exact .a1 (by (first | assumption | lia | omega)) (by (first | assumption | lia | omega)) | exact .b1 (by (first | assumption | lia | omega)) (by (first | assumption | lia | omega)) | exact .a2 (by (first | assumption | lia | omega)) (by (first | assumption | lia | omega)) | exact .b2 (by (first | assumption | lia | omega)) (by (first | assumption | lia | omega)) | fail "mv")
  by_cases by' : a = y + 1
  · by_cases exy : x = y
    · -- a = x + 1 = y + 1
      subst exy
      subst by'
      have hadd := ha x rfl
      by_cases ez : z = x + 1
      · subst ez
        by_cases d : l (x + 1) + 1 = l x
        · have e1 : pass l x (x + 1) = (x, x + 1) := pass_hit d
          have e2 : pass (sb l x) (x + 1) x = (x, x + 1) := pass_ne (by (first | assumption | lia | omega))
          have e3 : pass (sb (sb l x) (x + 1)) x x = (x, x) := pass_ne (by (first | assumption | lia | omega))
          have f1 : pass l (x + 1) (x + 1) = (x + 1, x + 1) := pass_ne (by (first | assumption | lia | omega))
          have f2 : pass (sb l (x + 1)) x (x + 1) = (x + 1, x) := pass_miss (by rw [sb_eq, sb_ne (by (first | assumption | lia | omega))]; (first | assumption | lia | omega))
          have f3 : pass (sb (sb l (x + 1)) x) x (x + 1) = (x, x + 1) := pass_hit (by rw [sb_eq, sb_ne (l := sb l (x + 1)) (by (first | assumption | lia | omega)), sb_eq, sb_ne (by (first | assumption | lia | omega))]; (first | assumption | lia | omega))
          exact L3_of (t := (x, x + 1, x)) (u := (x + 1, x, x)) e1 e2 e3 f1 f2 f3 (by first | exact .a1 (by (first | assumption | lia | omega)) (by (first | assumption | lia | omega)) | exact .b1 (by (first | assumption | lia | omega)) (by (first | assumption | lia | omega)) | exact .a2 (by (first | assumption | lia | omega)) (by (first | assumption | lia | omega)) | exact .b2 (by (first | assumption | lia | omega)) (by (first | assumption | lia | omega)) | fail "mv")
        · have e1 : pass l x (x + 1) = (x + 1, x) := pass_miss d
          have e2 : pass (sb l x) (x + 1) (x + 1) = (x + 1, x + 1) := pass_ne (by (first | assumption | lia | omega))
          have f1 : pass l (x + 1) (x + 1) = (x + 1, x + 1) := pass_ne (by (first | assumption | lia | omega))
          have f2 : pass (sb l (x + 1)) x (x + 1) = (x + 1, x) := pass_miss (by rw [sb_eq, sb_ne (by (first | assumption | lia | omega))]; (first | assumption | lia | omega))
          have f3 : pass (sb (sb l (x + 1)) x) x (x + 1) = (x + 1, x) := pass_miss (by rw [sb_eq, sb_ne (l := sb l (x + 1)) (by (first | assumption | lia | omega)), sb_eq, sb_ne (by (first | assumption | lia | omega))]; (first | assumption | lia | omega))
          exact L3_of (t := (x, x + 1, x)) (u := (x + 1, x, x)) e1 e2 (by rw [sb_comm]; exact f3) f1 f2 f3 (by first | exact .a1 (by (first | assumption | lia | omega)) (by (first | assumption | lia | omega)) | exact .b1 (by (first | assumption | lia | omega)) (by (first | assumption | lia | omega)) | exact .a2 (by (first | assumption | lia | omega)) (by (first | assumption | lia | omega)) | exact .b2 (by (first | assumption | lia | omega)) (by (first | assumption | lia | omega)) | fail "mv")
      · have v1 : sb (sb l x) z (x + 1) = l (x + 1) := by rw [sb_ne (by (first | assumption | lia | omega)), sb_ne (by (first | assumption | lia | omega))]
        have v2 : sb (sb l x) z x = l x - 1 := by rw [sb_ne (by (first | assumption | lia | omega)), sb_eq]
        rw [v1, v2] at r3
        have e1 : pass l x (x + 1) = (x + 1, x) := pass_miss (by (first | assumption | lia | omega))
        have e2 : pass (sb l x) z (x + 1) = (x + 1, z) := pass_ne (by (first | assumption | lia | omega))
        have f1 : pass l z (x + 1) = (x + 1, z) := pass_ne (by (first | assumption | lia | omega))
        have f2 : pass (sb l z) x (x + 1) = (x + 1, x) := pass_miss (by rw [sb_ne (by (first | assumption | lia | omega)), sb_ne (by (first | assumption | lia | omega))]; (first | assumption | lia | omega))
        by_cases d : l (x + 1) + 2 = l x
        · have e3 : pass (sb (sb l x) z) x (x + 1) = (x, x + 1) := pass_hit (by rw [v1, v2]; (first | assumption | lia | omega))
          exact L3_of (t := (x, z, x)) (u := (z, x, x)) e1 e2 e3 f1 f2 (by rw [sb_comm]; exact e3) (by first | exact .a1 (by (first | assumption | lia | omega)) (by (first | assumption | lia | omega)) | exact .b1 (by (first | assumption | lia | omega)) (by (first | assumption | lia | omega)) | exact .a2 (by (first | assumption | lia | omega)) (by (first | assumption | lia | omega)) | exact .b2 (by (first | assumption | lia | omega)) (by (first | assumption | lia | omega)) | fail "mv")
        · have e3 : pass (sb (sb l x) z) x (x + 1) = (x + 1, x) := pass_miss (by rw [v1, v2]; (first | assumption | lia | omega))
          exact L3_of (t := (x, z, x)) (u := (z, x, x)) e1 e2 e3 f1 f2 (by rw [sb_comm]; exact e3) (by first | exact .a1 (by (first | assumption | lia | omega)) (by (first | assumption | lia | omega)) | exact .b1 (by (first | assumption | lia | omega)) (by (first | assumption | lia | omega)) | exact .a2 (by (first | assumption | lia | omega)) (by (first | assumption | lia | omega)) | exact .b2 (by (first | assumption | lia | omega)) (by (first | assumption | lia | omega)) | fail "mv")
    · subst by'
      have hadd := ha y rfl
      have e1 : pass l x (y + 1) = (y + 1, x) := pass_ne (by (first | assumption | lia | omega))
      have e2 : pass (sb l x) z (y + 1) = (y + 1, z) := pass_ne (by (first | assumption | lia | omega))
      have f1 : pass l z (y + 1) = (y + 1, z) := pass_ne (by (first | assumption | lia | omega))
      have f2 : pass (sb l z) x (y + 1) = (y + 1, x) := pass_ne (by (first | assumption | lia | omega))
      by_cases w : sb (sb l x) z (y + 1) + 1 = sb (sb l x) z y
      · have e3 : pass (sb (sb l x) z) y (y + 1) = (y, y + 1) := pass_hit w
        have : y + 1 < z := by
          rcases Nat.lt_or_ge (y + 1) z with q | q
          · exact q
          · have hz : z = y + 1 := by (first | assumption | lia | omega)
            subst hz
            rw [sb_eq, sb_ne (l := l) (by (first | assumption | lia | omega)), sb_ne (l := sb l x) (by (first | assumption | lia | omega)), sb_ne (by (first | assumption | lia | omega))] at w
            (first | assumption | lia | omega)
        exact L3_of (t := (x, z, y)) (u := (z, x, y)) e1 e2 e3 f1 f2 (by rw [sb_comm]; exact e3) (by first | exact .a1 (by (first | assumption | lia | omega)) (by (first | assumption | lia | omega)) | exact .b1 (by (first | assumption | lia | omega)) (by (first | assumption | lia | omega)) | exact .a2 (by (first | assumption | lia | omega)) (by (first | assumption | lia | omega)) | exact .b2 (by (first | assumption | lia | omega)) (by (first | assumption | lia | omega)) | fail "mv")
      · have e3 : pass (sb (sb l x) z) y (y + 1) = (y + 1, y) := pass_miss w
        exact L3_of (t := (x, z, y)) (u := (z, x, y)) e1 e2 e3 f1 f2 (by rw [sb_comm]; exact e3) (by first | exact .a1 (by (first | assumption | lia | omega)) (by (first | assumption | lia | omega)) | exact .b1 (by (first | assumption | lia | omega)) (by (first | assumption | lia | omega)) | exact .a2 (by (first | assumption | lia | omega)) (by (first | assumption | lia | omega)) | exact .b2 (by (first | assumption | lia | omega)) (by (first | assumption | lia | omega)) | fail "mv")
  by_cases bx : a = x + 1
  · subst bx
    have hlt : x < y := by (first | assumption | lia | omega)
    have f1 : pass l z (x + 1) = (x + 1, z) := pass_ne (by (first | assumption | lia | omega))
    have g1 : sb l z (x + 1) = l (x + 1) := sb_ne (by (first | assumption | lia | omega))
    have g2 : sb l z x = l x := sb_ne (by (first | assumption | lia | omega))
    by_cases d : l (x + 1) + 1 = l x
    · have e1 : pass l x (x + 1) = (x, x + 1) := pass_hit d
      have e2 : pass (sb l x) z x = (x, z) := pass_ne (by (first | assumption | lia | omega))
      have e3 : pass (sb (sb l x) z) y x = (x, y) := pass_ne (by (first | assumption | lia | omega))
      have f2 : pass (sb l z) x (x + 1) = (x, x + 1) := pass_hit (by rw [g1, g2]; exact d)
      exact L3_of (t := (x, z, y)) (u := (z, x, y)) e1 e2 e3 f1 f2 (by rw [sb_comm]; exact e3) (by first | exact .a1 (by (first | assumption | lia | omega)) (by (first | assumption | lia | omega)) | exact .b1 (by (first | assumption | lia | omega)) (by (first | assumption | lia | omega)) | exact .a2 (by (first | assumption | lia | omega)) (by (first | assumption | lia | omega)) | exact .b2 (by (first | assumption | lia | omega)) (by (first | assumption | lia | omega)) | fail "mv")
    · have e1 : pass l x (x + 1) = (x + 1, x) := pass_miss d
      have e2 : pass (sb l x) z (x + 1) = (x + 1, z) := pass_ne (by (first | assumption | lia | omega))
      have e3 : pass (sb (sb l x) z) y (x + 1) = (x + 1, y) := pass_ne (by (first | assumption | lia | omega))
      have f2 : pass (sb l z) x (x + 1) = (x + 1, x) := pass_miss (by rw [g1, g2]; exact d)
      exact L3_of (t := (x, z, y)) (u := (z, x, y)) e1 e2 e3 f1 f2 (by rw [sb_comm]; exact e3) (by first | exact .a1 (by (first | assumption | lia | omega)) (by (first | assumption | lia | omega)) | exact .b1 (by (first | assumption | lia | omega)) (by (first | assumption | lia | omega)) | exact .a2 (by (first | assumption | lia | omega)) (by (first | assumption | lia | omega)) | exact .b2 (by (first | assumption | lia | omega)) (by (first | assumption | lia | omega)) | fail "mv")
  · have e1 : pass l x a = (a, x) := pass_ne bx
    have e2 : pass (sb l x) z a = (a, z) := pass_ne bz
    have e3 : pass (sb (sb l x) z) y a = (a, y) := pass_ne by'
    have f1 : pass l z a = (a, z) := pass_ne bz
    have f2 : pass (sb l z) x a = (a, x) := pass_ne bx
    exact L3_of (t := (x, z, y)) (u := (z, x, y)) e1 e2 e3 f1 f2 (by rw [sb_comm]; exact e3) (by first | exact .a1 (by (first | assumption | lia | omega)) (by (first | assumption | lia | omega)) | exact .b1 (by (first | assumption | lia | omega)) (by (first | assumption | lia | omega)) | exact .a2 (by (first | assumption | lia | omega)) (by (first | assumption | lia | omega)) | exact .b2 (by (first | assumption | lia | omega)) (by (first | assumption | lia | omega)) | fail "mv")
theorem L3b {l : Sh} {x y z a : Nat} (P : Part l) (hxy : x < y) (hyz : y ≤ z) (h1 : Rem3 l (y, x, z)) (h2 : Rem3 l (y, z, x)) (ha : Add l a) :
    (pass3 l (y, x, z) a).1 = (pass3 l (y, z, x) a).1 ∧ Mv (pass3 l (y, x, z) a).2 (pass3 l (y, z, x) a).2 := by
  obtain ⟨r1, r2, r3⟩ := h1
  obtain ⟨u1, u2, u3⟩ := h2
  unfold Rem at *
  simp only at r1 r2 r3 u1 u2 u3
  by_cases by' : a = y + 1
  · subst by'
    have hadd := ha y rfl
    by_cases d : l (y + 1) + 1 = l y
    · have hz : y < z := by
        rcases Nat.lt_or_ge y z with q | q
        · exact q
        · have : z = y := by (first | assumption | lia | omega)
          subst this
          rw [sb_eq, sb_ne (by (first | assumption | lia | omega))] at u2
          (first | assumption | lia | omega)
      have e1 : pass l y (y + 1) = (y, y + 1) := pass_hit d
      have f2 : pass (sb l y) z y = (y, z) := pass_ne (by (first | assumption | lia | omega))
      by_cases w : y = x + 1 ∧ sb l y (x + 1) + 1 = sb l y x
      · obtain ⟨w1, w2⟩ := w
        have e2 : pass (sb l y) x y = (x, x + 1) := by
          have := pass_hit w2
          rw [← w1] at this ⊢; exact this
        have e3 : pass (sb (sb l y) x) z x = (x, z) := pass_ne (by (first | assumption | lia | omega))
        have f3 : pass (sb (sb l y) z) x y = (x, x + 1) := by
          have : sb (sb l y) z (x + 1) + 1 = sb (sb l y) z x := by rw [sb_ne (by (first | assumption | lia | omega)), sb_ne (l := sb l y) (by (first | assumption | lia | omega))]; exact w2
          have := pass_hit this
          rw [← w1] at this ⊢; exact this
        exact L3_of (t := (y, x, z)) (u := (y, z, x)) e1 e2 e3 e1 f2 f3 (by first | exact .a1 (by (first | assumption | lia | omega)) (by (first | assumption | lia | omega)) | exact .b1 (by (first | assumption | lia | omega)) (by (first | assumption | lia | omega)) | exact .a2 (by (first | assumption | lia | omega)) (by (first | assumption | lia | omega)) | exact .b2 (by (first | assumption | lia | omega)) (by (first | assumption | lia | omega)) | fail "mv")
      · have e2 : pass (sb l y) x y = (y, x) := by unfold pass; rw [if_neg w]
        have e3 : pass (sb (sb l y) x) z y = (y, z) := pass_ne (by (first | assumption | lia | omega))
        have f3 : pass (sb (sb l y) z) x y = (y, x) := by
          unfold pass
          rw [if_neg]
          rintro ⟨q1, q2⟩
          rw [sb_ne (by (first | assumption | lia | omega)), sb_ne (l := sb l y) (by (first | assumption | lia | omega))] at q2
          exact w ⟨q1, q2⟩
        exact L3_of (t := (y, x, z)) (u := (y, z, x)) e1 e2 e3 e1 f2 f3 (by first | exact .a1 (by (first | assumption | lia | omega)) (by (first | assumption | lia | omega)) | exact .b1 (by (first | assumption | lia | omega)) (by (first | assumption | lia | omega)) | exact .a2 (by (first | assumption | lia | omega)) (by (first | assumption | lia | omega)) | exact .b2 (by (first | assumption | lia | omega)) (by (first | assumption | lia | omega)) | fail "mv")
    · have e1 : pass l y (y + 1) = (y + 1, y) := pass_miss d
      have e2 : pass (sb l y) x (y + 1) = (y + 1, x) := pass_ne (by (first | assumption | lia | omega))
      by_cases ez : z = y
      · subst ez
        have v1 : sb l z (z + 1) = l (z + 1) := sb_ne (by (first | assumption | lia | omega))
        have v2 : sb l z z = l z - 1 := sb_eq
        have v3 : sb (sb l z) x (z + 1) = l (z + 1) := by rw [sb_ne (by (first | assumption | lia | omega))]; exact v1
        have v4 : sb (sb l z) x z = l z - 1 := by rw [sb_ne (by (first | assumption | lia | omega))]; exact v2
        by_cases d2 : l (z + 1) + 2 = l z
        · have e3 : pass (sb (sb l z) x) z (z + 1) = (z, z + 1) := pass_hit (by rw [v3, v4]; (first | assumption | lia | omega))
          have f2 : pass (sb l z) z (z + 1) = (z, z + 1) := pass_hit (by rw [v1, v2]; (first | assumption | lia | omega))
          have f3 : pass (sb (sb l z) z) x z = (z, x) := by
            unfold pass
            rw [if_neg]
            rintro ⟨q1, q2⟩
            rw [← q1, sb_eq, sb_eq, sb_ne (l := sb l z) (by (first | assumption | lia | omega)), sb_ne (by (first | assumption | lia | omega))] at q2
            have := P x
            rw [← q1] at this
            (first | assumption | lia | omega)
          exact L3_of (t := (z, x, z)) (u := (z, z, x)) e1 e2 e3 e1 f2 f3 (by first | exact .a1 (by (first | assumption | lia | omega)) (by (first | assumption | lia | omega)) | exact .b1 (by (first | assumption | lia | omega)) (by (first | assumption | lia | omega)) | exact .a2 (by (first | assumption | lia | omega)) (by (first | assumption | lia | omega)) | exact .b2 (by (first | assumption | lia | omega)) (by (first | assumption | lia | omega)) | fail "mv")
        · have e3 : pass (sb (sb l z) x) z (z + 1) = (z + 1, z) := pass_miss (by rw [v3, v4]; (first | assumption | lia | omega))
          have f2 : pass (sb l z) z (z + 1) = (z + 1, z) := pass_miss (by rw [v1, v2]; (first | assumption | lia | omega))
          have f3 : pass (sb (sb l z) z) x (z + 1) = (z + 1, x) := pass_ne (by (first | assumption | lia | omega))
          exact L3_of (t := (z, x, z)) (u := (z, z, x)) e1 e2 e3 e1 f2 f3 (by first | exact .a1 (by (first | assumption | lia | omega)) (by (first | assumption | lia | omega)) | exact .b1 (by (first | assumption | lia | omega)) (by (first | assumption | lia | omega)) | exact .a2 (by (first | assumption | lia | omega)) (by (first | assumption | lia | omega)) | exact .b2 (by (first | assumption | lia | omega)) (by (first | assumption | lia | omega)) | fail "mv")
      · have e3 : pass (sb (sb l y) x) z (y + 1) = (y + 1, z) := pass_ne (by (first | assumption | lia | omega))
        have f2 : pass (sb l y) z (y + 1) = (y + 1, z) := pass_ne (by (first | assumption | lia | omega))
        have f3 : pass (sb (sb l y) z) x (y + 1) = (y + 1, x) := pass_ne (by (first | assumption | lia | omega))
        exact L3_of (t := (y, x, z)) (u := (y, z, x)) e1 e2 e3 e1 f2 f3 (by first | exact .a1 (by (first | assumption | lia | omega)) (by (first | assumption | lia | omega)) | exact .b1 (by (first | assumption | lia | omega)) (by (first | assumption | lia | omega)) | exact .a2 (by (first | assumption | lia | omega)) (by (first | assumption | lia | omega)) | exact .b2 (by (first | assumption | lia | omega)) (by (first | assumption | lia | omega)) | fail "mv")
  have e1 : pass l y a = (a, y) := pass_ne by'
  by_cases bx : a = x + 1
  · subst bx
    have hadd := ha x rfl
    have f2 : pass (sb l y) z (x + 1) = (x + 1, z) := pass_ne (by (first | assumption | lia | omega))
    by_cases w : sb l y (x + 1) + 1 = sb l y x
    · have hxy1 : x + 1 < y := by
        rcases Nat.lt_or_ge (x + 1) y with q | q
        · exact q
        · have : y = x + 1 := by (first | assumption | lia | omega)
          subst this
          rw [sb_eq, sb_ne (by (first | assumption | lia | omega))] at w
          (first | assumption | lia | omega)
      have e2 : pass (sb l y) x (x + 1) = (x, x + 1) := pass_hit w
      have e3 : pass (sb (sb l y) x) z x = (x, z) := pass_ne (by (first | assumption | lia | omega))
      have f3 : pass (sb (sb l y) z) x (x + 1) = (x, x + 1) := pass_hit (by rw [sb_ne (by (first | assumption | lia | omega)), sb_ne (l := sb l y) (by (first | assumption | lia | omega))]; exact w)
      exact L3_of (t := (y, x, z)) (u := (y, z, x)) e1 e2 e3 e1 f2 f3 (by first | exact .a1 (by (first | assumption | lia | omega)) (by (first | assumption | lia | omega)) | exact .b1 (by (first | assumption | lia | omega)) (by (first | assumption | lia | omega)) | exact .a2 (by (first | assumption | lia | omega)) (by (first | assumption | lia | omega)) | exact .b2 (by (first | assumption | lia | omega)) (by (first | assumption | lia | omega)) | fail "mv")
    · have e2 : pass (sb l y) x (x + 1) = (x + 1, x) := pass_miss w
      have e3 : pass (sb (sb l y) x) z (x + 1) = (x + 1, z) := pass_ne (by (first | assumption | lia | omega))
      have f3 : pass (sb (sb l y) z) x (x + 1) = (x + 1, x) := by
        refine pass_miss fun q => ?_
        by_cases ez : z = x + 1
        · have : y = x + 1 := by (first | assumption | lia | omega)
          subst this
          subst ez
          rw [sb_eq, sb_eq, sb_ne (l := sb l (x + 1)) (by (first | assumption | lia | omega)), sb_ne (by (first | assumption | lia | omega))] at q
          (first | assumption | lia | omega)
        · rw [sb_ne (by (first | assumption | lia | omega)), sb_ne (l := sb l y) (by (first | assumption | lia | omega))] at q
          exact w q
      exact L3_of (t := (y, x, z)) (u := (y, z, x)) e1 e2 e3 e1 f2 f3 (by first | exact .a1 (by (first | assumption | lia | omega)) (by (first | assumption | lia | omega)) | exact .b1 (by (first | assumption | lia | omega)) (by (first | assumption | lia | omega)) | exact .a2 (by (first | assumption | lia | omega)) (by (first | assumption | lia | omega)) | exact .b2 (by (first | assumption | lia | omega)) (by (first | assumption | lia | omega)) | fail "mv")
  have e2 : pass (sb l y) x a = (a, x) := pass_ne bx
  by_cases bz : a = z + 1
  · subst bz
    have hz : y < z := by (first | assumption | lia | omega)
    by_cases d : sb l y (z + 1) + 1 = sb l y z
    · have f2 : pass (sb l y) z (z + 1) = (z, z + 1) := pass_hit d
      have f3 : pass (sb (sb l y) z) x z = (z, x) := pass_ne (by (first | assumption | lia | omega))
      have e3 : pass (sb (sb l y) x) z (z + 1) = (z, z + 1) := pass_hit (by rw [sb_ne (by (first | assumption | lia | omega)), sb_ne (l := sb l y) (by (first | assumption | lia | omega))]; exact d)
      exact L3_of (t := (y, x, z)) (u := (y, z, x)) e1 e2 e3 e1 f2 f3 (by first | exact .a1 (by (first | assumption | lia | omega)) (by (first | assumption | lia | omega)) | exact .b1 (by (first | assumption | lia | omega)) (by (first | assumption | lia | omega)) | exact .a2 (by (first | assumption | lia | omega)) (by (first | assumption | lia | omega)) | exact .b2 (by (first | assumption | lia | omega)) (by (first | assumption | lia | omega)) | fail "mv")
    · have f2 : pass (sb l y) z (z + 1) = (z + 1, z) := pass_miss d
      have f3 : pass (sb (sb l y) z) x (z + 1) = (z + 1, x) := pass_ne (by (first | assumption | lia | omega))
      have e3 : pass (sb (sb l y) x) z (z + 1) = (z + 1, z) := pass_miss (by rw [sb_ne (by (first | assumption | lia | omega)), sb_ne (l := sb l y) (by (first | assumption | lia | omega))]; exact d)
      exact L3_of (t := (y, x, z)) (u := (y, z, x)) e1 e2 e3 e1 f2 f3 (by first | exact .a1 (by (first | assumption | lia | omega)) (by (first | assumption | lia | omega)) | exact .b1 (by (first | assumption | lia | omega)) (by (first | assumption | lia | omega)) | exact .a2 (by (first | assumption | lia | omega)) (by (first | assumption | lia | omega)) | exact .b2 (by (first | assumption | lia | omega)) (by (first | assumption | lia | omega)) | fail "mv")
  · have e3 : pass (sb (sb l y) x) z a = (a, z) := pass_ne bz
    have f2 : pass (sb l y) z a = (a, z) := pass_ne bz
    have f3 : pass (sb (sb l y) z) x a = (a, x) := pass_ne bx
    exact L3_of (t := (y, x, z)) (u := (y, z, x)) e1 e2 e3 e1 f2 f3 (by first | exact .a1 (by (first | assumption | lia | omega)) (by (first | assumption | lia | omega)) | exact .b1 (by (first | assumption | lia | omega)) (by (first | assumption | lia | omega)) | exact .a2 (by (first | assumption | lia | omega)) (by (first | assumption | lia | omega)) | exact .b2 (by (first | assumption | lia | omega)) (by (first | assumption | lia | omega)) | fail "mv")
theorem L3 {l : Sh} {t u : Nat × Nat × Nat} {a : Nat} (P : Part l) (h1 : Rem3 l t) (h2 : Rem3 l u) (ha : Add l a) (m : Mv t u) :
    (pass3 l t a).1 = (pass3 l u a).1 ∧ Mv (pass3 l t a).2 (pass3 l u a).2 := by
  obtain ⟨p, q, r⟩ := t; obtain ⟨p', q', r'⟩ := u
  unfold Mv at m
  rcases m with ⟨rfl, rfl, rfl, m | m⟩ | ⟨rfl, rfl, rfl, m | m⟩
  · exact L3a P m.1 m.2 h1 h2 ha
  · have := L3a P m.1 m.2 h2 h1 ha
    exact ⟨this.1.symm, this.2.symm⟩
  · exact L3b P m.1 m.2 h1 h2 ha
  · have := L3b P m.1 m.2 h2 h1 ha
    exact ⟨this.1.symm, this.2.symm⟩
end Mine
end

/- M2 -/
section
namespace Mine
noncomputable def adds (l : Sh) : List Nat → Sh
  | [] => l
  | a :: as => adds (ad l a) as
noncomputable def Adds (l : Sh) : List Nat → Prop
  | [] => True
  | a :: as => Add l a ∧ Adds (ad l a) as
noncomputable def slideRow (l : Sh) (h : Nat) : List Nat → List Nat × Nat
  | [] => ([], h)
  | a :: as => ((pass l h a).1 :: (slideRow (ad l a) (pass l h a).2 as).1, (slideRow (ad l a) (pass l h a).2 as).2)
theorem slideRow_ok : ∀ (as : List Nat) {l : Sh} {h : Nat}, Part l → Rem l h → Adds l as →
    Adds (sb l h) (slideRow l h as).1 ∧ Rem (adds l as) (slideRow l h as).2 ∧ sb (adds l as) (slideRow l h as).2 = adds (sb l h) (slideRow l h as).1
  | [], l, h, P, R, A => ⟨trivial, R, rfl⟩
  | a :: as, l, h, P, R, A => by
    have ih := slideRow_ok as (part_ad P A.1) (pass_rem P R A.1) A.2
    have e := pass_eq (a := a) R
    simp only [slideRow, Adds, adds]
    rw [← e]
    exact ⟨⟨pass_add P R A.1, ih.1⟩, ih.2.1, ih.2.2⟩
theorem part_adds : ∀ (as : List Nat) {l : Sh}, Part l → Adds l as → Part (adds l as)
  | [], _, P, _ => P
  | _ :: as, _, P, A => part_adds as (part_ad P A.1) A.2
noncomputable def slide3 (l : Sh) (t : Nat × Nat × Nat) (as : List Nat) : List Nat × (Nat × Nat × Nat) :=
  ((slideRow (sb (sb l t.1) t.2.1) t.2.2 (slideRow (sb l t.1) t.2.1 (slideRow l t.1 as).1).1).1,
   (slideRow l t.1 as).2, (slideRow (sb l t.1) t.2.1 (slideRow l t.1 as).1).2, (slideRow (sb (sb l t.1) t.2.1) t.2.2 (slideRow (sb l t.1) t.2.1 (slideRow l t.1 as).1).1).2)
theorem pass3_rem {l : Sh} {t : Nat × Nat × Nat} {a : Nat} (P : Part l) (R : Rem3 l t) (A : Add l a) :
    Rem3 (ad l a) (pass3 l t a).2 ∧ sb (ad l a) (pass3 l t a).2.1 = ad (sb l t.1) (pass l t.1 a).1 ∧
      sb (ad (sb l t.1) (pass l t.1 a).1) (pass3 l t a).2.2.1 = ad (sb (sb l t.1) t.2.1) (pass (sb l t.1) t.2.1 (pass l t.1 a).1).1 := by
  obtain ⟨h1, h2, h3⟩ := t
  obtain ⟨r1, r2, r3⟩ := R
  have P1 := part_sb P r1
  have P2 := part_sb P1 r2
  have A1 := pass_add P r1 A
  have A2 := pass_add P1 r2 A1
  have e1 := pass_eq (a := a) r1
  have e2 := pass_eq (a := (pass l h1 a).1) r2
  refine ⟨⟨pass_rem P r1 A, ?_, ?_⟩, e1, e2⟩
  · simp only [pass3]
    rw [e1]
    exact pass_rem P1 r2 A1
  · simp only [pass3]
    rw [e1, e2]
    exact pass_rem P2 r3 A2
theorem slide3_cons {l : Sh} {t : Nat × Nat × Nat} {a : Nat} {as : List Nat} (P : Part l) (R : Rem3 l t) (A : Add l a) :
    slide3 l t (a :: as) = ((pass3 l t a).1 :: (slide3 (ad l a) (pass3 l t a).2 as).1, (slide3 (ad l a) (pass3 l t a).2 as).2) := by
  obtain ⟨_, e1, e2⟩ := pass3_rem P R A
  obtain ⟨h1, h2, h3⟩ := t
  simp only [slide3, slideRow]
  rw [e1, e2]
  rfl
theorem slide3_mv : ∀ (as : List Nat) {l : Sh} {t u : Nat × Nat × Nat}, Part l → Rem3 l t → Rem3 l u → Adds l as → Mv t u →
    (slide3 l t as).1 = (slide3 l u as).1 ∧ Mv (slide3 l t as).2 (slide3 l u as).2
  | [], l, t, u, _, _, _, _, m => ⟨rfl, m⟩
  | a :: as, l, t, u, P, R, R', A, m => by
    rw [slide3_cons P R A.1, slide3_cons P R' A.1]
    have h := L3 P R R' A.1 m
    have ih := slide3_mv as (part_ad P A.1) (pass3_rem P R A.1).1 (pass3_rem P R' A.1).1 A.2 h.2
    exact ⟨by simp only [h.1, ih.1], ih.2⟩
noncomputable def run (l : Sh) : List Nat → List Nat → List Nat × List Nat
  | [], as => (as, [])
  | h :: S, as => ((run (sb l h) S (slideRow l h as).1).1, (slideRow l h as).2 :: (run (sb l h) S (slideRow l h as).1).2)
noncomputable def Rems (l : Sh) : List Nat → Prop
  | [] => True
  | h :: S => Rem l h ∧ Rems (sb l h) S
inductive Conn : Sh → List Nat → List Nat → Prop
  | refl (l S) : Conn l S S
  | mv {l p q r p' q' r' S} : Rems l (p :: q :: r :: S) → Rems l (p' :: q' :: r' :: S) → Mv (p, q, r) (p', q', r') → Conn l (p :: q :: r :: S) (p' :: q' :: r' :: S)
  | cons {l h S S'} : Rem l h → Conn (sb l h) S S' → Conn l (h :: S) (h :: S')
  | trans {l S T U} : Conn l S T → Conn l T U → Conn l S U
theorem Conn.symm {l : Sh} {S T : List Nat} (h : Conn l S T) : Conn l T S := by
  induction h with
  | refl l S => exact .refl l S
  | mv a b m => exact .mv b a m.symm
  | cons a _ ih => exact .cons a ih
  | trans _ _ i1 i2 => exact .trans i2 i1
theorem sb3_mv {l : Sh} {p q r p' q' r' : Nat} (m : Mv (p, q, r) (p', q', r')) : sb (sb (sb l p) q) r = sb (sb (sb l p') q') r' := by
  unfold Mv at m
  rcases m with ⟨rfl, rfl, rfl, _⟩ | ⟨rfl, rfl, rfl, _⟩
  · exact congrArg (fun s => sb s _) sb_comm
  · exact sb_comm
theorem run_conn {l : Sh} {S T : List Nat} (h : Conn l S T) : Part l → ∀ as bs, Adds l as → Adds l bs →
    (run l S as).1 = (run l T as).1 ∧ ((run l S as).2 = (run l S bs).2 → (run l T as).2 = (run l T bs).2) := by
  induction h with
  | refl l S => exact fun _ _ _ _ _ => ⟨rfl, id⟩
  | @mv l p q r p' q' r' S a b m =>
    intro P as bs A B
    have R1 : Rem3 l (p, q, r) := ⟨a.1, a.2.1, a.2.2.1⟩
    have R2 : Rem3 l (p', q', r') := ⟨b.1, b.2.1, b.2.2.1⟩
    have hA := slide3_mv as P R1 R2 A m
    have hB := slide3_mv bs P R1 R2 B m
    have e : ∀ p q r cs, run l (p :: q :: r :: S) cs = ((run (sb (sb (sb l p) q) r) S (slide3 l (p, q, r) cs).1).1, (slide3 l (p, q, r) cs).2.1 :: (slide3 l (p, q, r) cs).2.2.1 :: (slide3 l (p, q, r) cs).2.2.2 :: (run (sb (sb (sb l p) q) r) S (slide3 l (p, q, r) cs).1).2) := fun p q r cs => rfl
    rw [e p q r as, e p q r bs, e p' q' r' as, e p' q' r' bs, sb3_mv m, hA.1, hB.1]
    refine ⟨rfl, fun q => ?_⟩
    simp only [List.cons.injEq] at q ⊢
    have t : (slide3 l (p, _, _) as).2 = (slide3 l (p, _, _) bs).2 := Prod.ext q.1 (Prod.ext q.2.1 q.2.2.1)
    have hA2 := hA.2
    rw [t] at hA2
    have u := Mv.unique hA2 hB.2
    rw [u]
    exact ⟨rfl, rfl, rfl, q.2.2.2⟩
  | @cons l h S S' a _ ih =>
    intro P as bs A B
    have i := ih (part_sb P a) (slideRow l h as).1 (slideRow l h bs).1 (slideRow_ok as P a A).1 (slideRow_ok bs P a B).1
    simp only [run]
    refine ⟨i.1, fun q => ?_⟩
    simp only [List.cons.injEq] at q ⊢
    exact ⟨q.1, i.2 q.2⟩
  | trans _ _ i1 i2 =>
    intro P as bs A B
    have a := i1 P as bs A B
    have b := i2 P as bs A B
    exact ⟨a.1.trans b.1, fun q => b.2 (a.2 q)⟩
/-- cells in the rows below N -/
noncomputable def size (l : Sh) : Nat → Nat
  | 0 => 0
  | n + 1 => size l n + l n
theorem size_sb_ge {l : Sh} {h : Nat} : ∀ n, n ≤ h → size (sb l h) n = size l n
  | 0, _ => rfl
  | n + 1, e => by simp only [size]; rw [size_sb_ge n (by (first | assumption | lia | omega)), sb_ne (by (first | assumption | lia | omega))]
theorem size_sb {l : Sh} {h : Nat} (r : 0 < l h) : ∀ n, h < n → size (sb l h) n + 1 = size l n
  | 0, e => by (first | assumption | lia | omega)
  | n + 1, e => by
    simp only [size]
    by_cases q : h = n
    · subst q; rw [size_sb_ge h (Nat.le_refl _), sb_eq]; (first | assumption | lia | omega)
    · rw [sb_ne (fun w => q w.symm)]
      have := size_sb r n (by (first | assumption | lia | omega))
      (first | assumption | lia | omega)
theorem size_zero {l : Sh} : ∀ n, size l n = 0 → ∀ i, i < n → l i = 0
  | 0, _, i, h => by (first | assumption | lia | omega)
  | n + 1, e, i, h => by
    simp only [size] at e
    by_cases q : i = n
    · subst q; (first | assumption | lia | omega)
    · exact size_zero n (by (first | assumption | lia | omega)) i (by (first | assumption | lia | omega))
theorem rem_lt {l : Sh} {N h : Nat} (P : Part l) (s : ∀ i, N ≤ i → l i = 0) (r : Rem l h) : h < N := by
  unfold Rem at r
  rcases Nat.lt_or_ge h N with q | q
  · exact q
  · have := s h q; (first | assumption | lia | omega)
theorem sb_supp {l : Sh} {N h : Nat} (s : ∀ i, N ≤ i → l i = 0) : ∀ i, N ≤ i → sb l h i = 0 := by
  intro i hi
  have := s i hi
  simp only [sb]
  split <;> (first | assumption | lia | omega)
theorem exists_rem {l : Sh} {N : Nat} (P : Part l) (s : ∀ i, N ≤ i → l i = 0) (h : 0 < size l N) : ∃ h, Rem l h := by
  induction N with
  | zero => simp [size] at h
  | succ n ih =>
    by_cases q : l n = 0
    · refine ih (fun i hi => ?_) (by simp only [size] at h; (first | assumption | lia | omega))
      rcases Nat.lt_or_ge n i with w | w
      · exact s i w
      · have : i = n := by (first | assumption | lia | omega)
        rw [this]; exact q
    · exact ⟨n, by unfold Rem; rw [s (n + 1) (Nat.le_refl _)]; (first | assumption | lia | omega)⟩
theorem exists_full (N : Nat) : ∀ (m : Nat) {l : Sh}, Part l → (∀ i, N ≤ i → l i = 0) → size l N = m → ∃ R, Rems l R ∧ R.length = m
  | 0, l, _, _, _ => ⟨[], trivial, rfl⟩
  | m + 1, l, P, s, e => by
    obtain ⟨h, r⟩ := exists_rem P s (by (first | assumption | lia | omega))
    have := size_sb (h := h) (l := l) (by unfold Rem at r; (first | assumption | lia | omega)) N (rem_lt P s r)
    obtain ⟨R, h1, h2⟩ := exists_full N m (part_sb P r) (sb_supp s) (by (first | assumption | lia | omega))
    exact ⟨h :: R, ⟨r, h1⟩, by simp [h2]⟩
theorem conn_lt {N : Nat} {l : Sh} {x z : Nat} {S T : List Nat} {m : Nat} (P : Part l) (s : ∀ i, N ≤ i → l i = 0) (e : size l N = m + 1) (rx : Rem l x) (rz : Rem l z) (hxz : x < z)
    (ih : ∀ {l : Sh} {S T : List Nat}, Part l → (∀ i, N ≤ i → l i = 0) → size l N = m → Rems l S → Rems l T → S.length = m → T.length = m → Conn l S T)
    (hS : Rems (sb l x) S) (hT : Rems (sb l z) T) (lS : S.length = m) (lT : T.length = m) : Conn l (x :: S) (z :: T) := by
  have x1 : l (x + 1) < l x := rx
  have z1 : l (z + 1) < l z := rz
  have rxz : Rem (sb l x) z := by
    unfold Rem; rw [sb_ne (by (first | assumption | lia | omega)), sb_ne (by (first | assumption | lia | omega))]; exact z1
  have rzx : Rem (sb l z) x := by
    unfold Rem
    rw [sb_ne (l := l) (h := z) (i := x) (by (first | assumption | lia | omega))]
    by_cases q : x + 1 = z
    · rw [q, sb_eq]; rw [q] at x1; (first | assumption | lia | omega)
    · rw [sb_ne q]; exact x1
  obtain ⟨y, rfl⟩ : ∃ y, z = y + 1 := ⟨z - 1, by (first | assumption | lia | omega)⟩
  have ry : Rem (sb (sb l x) (y + 1)) y := by
    unfold Rem
    rw [sb_eq, sb_ne (l := l) (by (first | assumption | lia | omega)), sb_ne (l := sb l x) (by (first | assumption | lia | omega))]
    have := P y
    by_cases q : y = x
    · subst q; rw [sb_eq]; (first | assumption | lia | omega)
    · rw [sb_ne q]; (first | assumption | lia | omega)
  have P1 := part_sb P rx
  have P2 := part_sb P1 rxz
  have P3 := part_sb P2 ry
  have s1 := size_sb (h := x) (l := l) (by (first | assumption | lia | omega)) N (rem_lt P s rx)
  have s2 := size_sb (h := y + 1) (l := sb l x) (by unfold Rem at rxz; (first | assumption | lia | omega)) N (rem_lt P1 (sb_supp s) rxz)
  have s3 := size_sb (h := y) (l := sb (sb l x) (y + 1)) (by unfold Rem at ry; (first | assumption | lia | omega)) N (rem_lt P2 (sb_supp (sb_supp s)) ry)
  have sz := size_sb (h := y + 1) (l := l) (by (first | assumption | lia | omega)) N (rem_lt P s rz)
  obtain ⟨R, hR, lR⟩ := exists_full N (m - 2) P3 (sb_supp (sb_supp (sb_supp s))) (by (first | assumption | lia | omega))
  have c1 : Conn (sb l x) S ((y + 1) :: y :: R) := ih P1 (sb_supp s) (by (first | assumption | lia | omega)) hS ⟨rxz, ry, hR⟩ lS (by simp; (first | assumption | lia | omega))
  have cm : sb (sb l x) (y + 1) = sb (sb l (y + 1)) x := sb_comm
  have hR' := hR
  have ry' := ry
  rw [cm] at hR' ry'
  have c2 : Conn (sb l (y + 1)) T (x :: y :: R) := ih (part_sb P rz) (sb_supp s) (by (first | assumption | lia | omega)) hT ⟨rzx, ry', hR'⟩ lT (by simp; (first | assumption | lia | omega))
  exact .trans (.cons rx c1) (.trans (.mv ⟨rx, rxz, ry, hR⟩ ⟨rz, rzx, ry', hR'⟩ (.a1 (by (first | assumption | lia | omega)) (by (first | assumption | lia | omega)))) (.cons rz c2.symm))
theorem conn_full (N : Nat) : ∀ (m : Nat) {l : Sh} {S T : List Nat}, Part l → (∀ i, N ≤ i → l i = 0) → size l N = m → Rems l S → Rems l T → S.length = m → T.length = m → Conn l S T
  | 0, l, S, T, _, _, _, _, _, a, b => by
    rw [List.length_eq_zero_iff.mp a, List.length_eq_zero_iff.mp b]; exact .refl _ _
  | m + 1, l, x :: S, z :: T, P, s, e, hS, hT, a, b => by
    simp only [List.length_cons, Nat.add_right_cancel_iff] at a b
    rcases Nat.lt_trichotomy x z with q | q | q
    · exact conn_lt P s e hS.1 hT.1 q (conn_full N m) hS.2 hT.2 a b
    · subst q
      have := size_sb (h := x) (l := l) (by have := hS.1; unfold Rem at this; (first | assumption | lia | omega)) N (rem_lt P s hS.1)
      exact .cons hS.1 (conn_full N m (part_sb P hS.1) (sb_supp s) (by (first | assumption | lia | omega)) hS.2 hT.2 a b)
    · exact (conn_lt P s e hT.1 hS.1 q (conn_full N m) hT.2 hS.2 b a).symm
end Mine
end

/- M3 -/
section
namespace Mine
noncomputable def passAll (l : Sh) : List Nat → Nat → Nat × List Nat
  | [], a => (a, [])
  | h :: hs, a => ((passAll (sb l h) hs (pass l h a).1).1, (pass l h a).2 :: (passAll (sb l h) hs (pass l h a).1).2)
theorem slideRow_snoc : ∀ (as : List Nat) (l : Sh) (h r : Nat),
    slideRow l h (as ++ [r]) = ((slideRow l h as).1 ++ [(pass (adds l as) (slideRow l h as).2 r).1], (pass (adds l as) (slideRow l h as).2 r).2)
  | [], l, h, r => rfl
  | a :: as, l, h, r => by
    simp only [List.cons_append, slideRow, adds]
    rw [slideRow_snoc as]
theorem run_snoc : ∀ (S : List Nat) (l : Sh) (as : List Nat) (r : Nat), Part l → Rems l S → Adds l as →
    run l S (as ++ [r]) = ((run l S as).1 ++ [(passAll (adds l as) (run l S as).2 r).1], (passAll (adds l as) (run l S as).2 r).2)
  | [], l, as, r, _, _, _ => rfl
  | h :: S, l, as, r, P, R, A => by
    have k := slideRow_ok as P R.1 A
    simp only [run, passAll]
    rw [slideRow_snoc as, run_snoc S (sb l h) (slideRow l h as).1 _ (part_sb P R.1) R.2 k.1, k.2.2]
theorem passAll_append : ∀ (hs ks : List Nat) (l : Sh) (a : Nat),
    passAll l (hs ++ ks) a = ((passAll (hs.foldl sb l) ks (passAll l hs a).1).1, (passAll l hs a).2 ++ (passAll (hs.foldl sb l) ks (passAll l hs a).1).2)
  | [], ks, l, a => rfl
  | h :: hs, ks, l, a => by
    simp only [List.cons_append, passAll, List.foldl_cons]
    rw [passAll_append hs ks]
theorem foldl_repl (l : Sh) (h : Nat) : ∀ c, (List.replicate c h).foldl sb l = fun i => if i = h then l i - c else l i := by
  intro c
  induction c generalizing l with
  | zero => funext i; simp
  | succ c ih =>
    rw [List.replicate_succ, List.foldl_cons, ih]
    funext i
    by_cases e : i = h
    · simp only [if_pos e, sb]; (first | assumption | lia | omega)
    · simp only [if_neg e, sb]
theorem passAll_ne (h a : Nat) (e : a ≠ h + 1) : ∀ c (l : Sh), passAll l (List.replicate c h) a = (a, List.replicate c h)
  | 0, l => rfl
  | c + 1, l => by rw [List.replicate_succ]; simp only [passAll]; rw [pass_ne e]; simp only; rw [passAll_ne h a e c]
theorem passAll_miss (h : Nat) : ∀ c (l : Sh), l (h + 1) + c < l h → passAll l (List.replicate c h) (h + 1) = (h + 1, List.replicate c h)
  | 0, l, _ => rfl
  | c + 1, l, e => by
    rw [List.replicate_succ]; simp only [passAll]
    rw [pass_miss (by (first | assumption | lia | omega))]
    simp only
    rw [passAll_miss h c (sb l h) (by rw [sb_eq, sb_ne (by (first | assumption | lia | omega))]; (first | assumption | lia | omega))]
theorem passAll_hit (h : Nat) : ∀ c (l : Sh), l (h + 1) + (c + 1) = l h → passAll l (List.replicate (c + 1) h) (h + 1) = (h, List.replicate c h ++ [h + 1])
  | 0, l, e => by
    show passAll l [h] (h + 1) = _
    simp only [passAll]
    rw [pass_hit e]
    rfl
  | c + 1, l, e => by
    rw [List.replicate_succ]; simp only [passAll]
    rw [pass_miss (by (first | assumption | lia | omega))]
    simp only
    rw [passAll_hit h c (sb l h) (by rw [sb_eq, sb_ne (by (first | assumption | lia | omega))]; (first | assumption | lia | omega))]
    rfl
/-- a sorted strip from shape A down to shape B, rows lo .. lo + n - 1 -/
noncomputable def strip (A B : Sh) : Nat → Nat → List Nat
  | _, 0 => []
  | lo, n + 1 => List.replicate (A lo - B lo) lo ++ strip A B (lo + 1) n
theorem strip_above {A B : Sh} {a : Nat} : ∀ n lo (C : Sh), a ≤ lo → passAll C (strip A B lo n) a = (a, strip A B lo n)
  | 0, lo, C, _ => rfl
  | n + 1, lo, C, h => by
    simp only [strip]
    rw [passAll_append, passAll_ne lo a (by (first | assumption | lia | omega))]
    simp only
    rw [strip_above n (lo + 1) _ (by (first | assumption | lia | omega))]
theorem strip_congr {A B A' B' : Sh} : ∀ n lo, (∀ i, lo ≤ i → A i - B i = A' i - B' i) → strip A B lo n = strip A' B' lo n
  | 0, _, _ => rfl
  | n + 1, lo, h => by
    simp only [strip]
    rw [h lo (Nat.le_refl _), strip_congr n (lo + 1) fun i hi => h i (by (first | assumption | lia | omega))]
theorem strip_pass {A B : Sh} : ∀ n lo (C : Sh) (j : Nat), (∀ i, lo ≤ i → C i = A i) → (∀ i, lo ≤ i → B i ≤ A i ∧ A (i + 1) ≤ B i) → lo ≤ j → A (j + 1) < A j → j + 1 < lo + n →
    passAll C (strip A B lo n) (j + 1) = (if B j = A (j + 1) then j else j + 1, strip (ad A (j + 1)) (ad B (if B j = A (j + 1) then j else j + 1)) lo n)
  | 0, lo, C, j, _, _, h1, _, h3 => by (first | assumption | lia | omega)
  | n + 1, lo, C, j, hC, hB, h1, h2, h3 => by
    simp only [strip]
    rw [passAll_append]
    have b := hB lo (Nat.le_refl _)
    by_cases e : j = lo
    · subst e
      by_cases t : B j = A (j + 1)
      · obtain ⟨c, hc⟩ : ∃ c, A j - B j = c + 1 := ⟨A j - B j - 1, by (first | assumption | lia | omega)⟩
        rw [if_pos t, hc, passAll_hit j c C (by rw [hC j (Nat.le_refl _), hC (j + 1) (by (first | assumption | lia | omega))]; (first | assumption | lia | omega))]
        simp only
        rw [strip_above n (j + 1) _ (by (first | assumption | lia | omega))]
        have e1 : ad A (j + 1) j - ad B j j = c := by simp only [ad]; simp; (first | assumption | lia | omega)
        rw [e1]
        have b1 := hB (j + 1) (by (first | assumption | lia | omega))
        cases n with
        | zero => (first | assumption | lia | omega)
        | succ n =>
          simp only [strip]
          have e2 : ad A (j + 1) (j + 1) - ad B j (j + 1) = (A (j + 1) - B (j + 1)) + 1 := by simp only [ad]; simp; (first | assumption | lia | omega)
          rw [e2, strip_congr (A := ad A (j + 1)) (B := ad B j) (A' := A) (B' := B) n (j + 1 + 1) (fun i hi => by simp only [ad]; rw [if_neg (by (first | assumption | lia | omega)), if_neg (by (first | assumption | lia | omega))]), List.replicate_succ]
          simp
      · rw [if_neg t, passAll_miss j (A j - B j) C (by rw [hC j (Nat.le_refl _), hC (j + 1) (by (first | assumption | lia | omega))]; (first | assumption | lia | omega))]
        simp only
        rw [strip_above n (j + 1) _ (Nat.le_refl _)]
        have e1 : ad A (j + 1) j - ad B (j + 1) j = A j - B j := by simp only [ad]; simp
        rw [e1, strip_congr (A := ad A (j + 1)) (B := ad B (j + 1)) (A' := A) (B' := B) n (j + 1) fun i hi => ?_]
        simp only [ad]
        split <;> (first | assumption | lia | omega)
    · rw [passAll_ne lo (j + 1) (by (first | assumption | lia | omega))]
      simp only
      rw [strip_pass n (lo + 1) _ j (fun i hi => ?_) (fun i hi => hB i (by (first | assumption | lia | omega))) (by (first | assumption | lia | omega)) h2 (by (first | assumption | lia | omega))]
      · have : ad A (j + 1) lo - ad B (if B j = A (j + 1) then j else j + 1) lo = A lo - B lo := by
          simp only [ad]
          rw [if_neg (by (first | assumption | lia | omega)), if_neg (by split <;> (first | assumption | lia | omega))]
        rw [this]
      · rw [foldl_repl]
        show (if i = lo then _ else _) = _
        rw [if_neg (by (first | assumption | lia | omega))]
        exact hC i (by (first | assumption | lia | omega))
theorem strip_foldl {A B : Sh} : ∀ n lo (C : Sh) i, (strip A B lo n).foldl sb C i = if lo ≤ i ∧ i < lo + n then C i - (A i - B i) else C i
  | 0, lo, C, i => by
    rw [if_neg (by (first | assumption | lia | omega))]; rfl
  | n + 1, lo, C, i => by
    simp only [strip, List.foldl_append]
    rw [strip_foldl n (lo + 1), foldl_repl]
    by_cases e : i = lo
    · subst e
      rw [if_neg (by (first | assumption | lia | omega)), if_pos (by (first | assumption | lia | omega))]
      show (if i = i then _ else _) = _
      rw [if_pos rfl]
    · have ei : (fun i => if i = lo then C i - (A lo - B lo) else C i) i = C i := by
        show (if i = lo then _ else _) = _
        rw [if_neg e]
      rw [ei]
      by_cases q : lo + 1 ≤ i ∧ i < lo + 1 + n
      · rw [if_pos q, if_pos (by (first | assumption | lia | omega))]
      · rw [if_neg q, if_neg (by (first | assumption | lia | omega))]
/-- one place more: rows m and below move up by one, and the growth is added -/
noncomputable def next (m : Nat) (g : Option Nat) (A : Sh) : Sh := fun i => if i < m then A i else A (i + 1) + (if g = some (i - m) then 1 else 0)
noncomputable def blks (N : Nat) (A : Sh) : List (Option Nat) → List Nat
  | [] => []
  | g :: gs => strip A (next gs.length g A) gs.length N ++ blks N (next gs.length g A) gs
noncomputable def Val (A : Sh) : List (Option Nat) → Prop
  | [] => True
  | g :: gs => (∀ r, g = some r → A (gs.length + r + 1) < A (gs.length + r)) ∧ Val (next gs.length g A) gs
noncomputable def adj (j : Nat) : List (Option Nat) → List (Option Nat)
  | [] => []
  | none :: gs => none :: adj j gs
  | some g :: gs => if g = j then some (j + 1) :: adj (j + 1) gs else some g :: adj j gs
noncomputable def adjEnd (j : Nat) : List (Option Nat) → Nat
  | [] => j
  | none :: gs => adjEnd j gs
  | some g :: gs => if g = j then adjEnd (j + 1) gs else adjEnd j gs
theorem adj_len : ∀ gs j, (adj j gs).length = gs.length
  | [], _ => rfl
  | none :: gs, j => by simp [adj, adj_len gs]
  | some g :: gs, j => by simp only [adj]; split <;> simp [adj_len gs]
noncomputable def dl (i j : Nat) : Nat := if i = j then 1 else 0
theorem dl_eq (i : Nat) : dl i i = 1 := by simp [dl]
theorem dl_ne {i j : Nat} (h : i ≠ j) : dl i j = 0 := by simp [dl, h]
theorem count_some (i g : Nat) (gs : List (Option Nat)) : (some g :: gs).count (some i) = gs.count (some i) + dl i g := by
  by_cases h : i = g
  · subst h; simp [dl]
  · rw [List.count_cons_of_ne (by simpa using fun e => h e.symm), dl_ne h]; rfl
theorem count_none (i : Nat) (gs : List (Option Nat)) : (none :: gs).count (some i) = gs.count (some i) := List.count_cons_of_ne (by simp)
theorem adj_count (i : Nat) : ∀ gs j, (adj j gs).count (some i) + dl i j = gs.count (some i) + dl i (adjEnd j gs)
  | [], j => rfl
  | none :: gs, j => by
    have := adj_count i gs j
    simp only [adj, adjEnd, count_none]
    exact this
  | some g :: gs, j => by
    simp only [adj, adjEnd]
    split
    · rename_i e
      subst e
      have := adj_count i gs (g + 1)
      rw [count_some, count_some]
      (first | assumption | lia | omega)
    · have := adj_count i gs j
      rw [count_some, count_some]
      (first | assumption | lia | omega)
theorem next_bound {m : Nat} {g : Option Nat} {A : Sh} (P : Part A) (hg : ∀ r, g = some r → A (m + r + 1) < A (m + r)) : ∀ i, m ≤ i → next m g A i ≤ A i ∧ A (i + 1) ≤ next m g A i := by
  intro i hi
  unfold next
  rw [if_neg (by (first | assumption | lia | omega))]
  have := P i
  split
  · rename_i e
    have := hg _ e
    rw [show m + (i - m) = i by (first | assumption | lia | omega)] at this
    (first | assumption | lia | omega)
  · (first | assumption | lia | omega)
theorem next_part {m : Nat} {g : Option Nat} {A : Sh} (P : Part A) (hg : ∀ r, g = some r → A (m + r + 1) < A (m + r)) : Part (next m g A) := by
  intro i
  rcases Nat.lt_or_ge i m with h | h
  · rcases Nat.lt_or_ge (i + 1) m with q | q
    · unfold next; rw [if_pos q, if_pos h]; exact P i
    · have b := (next_bound P hg (i + 1) q).1
      have : next m g A i = A i := by unfold next; rw [if_pos h]
      rw [this]
      exact Nat.le_trans b (P i)
  · exact Nat.le_trans (next_bound P hg (i + 1) (by (first | assumption | lia | omega))).1 (next_bound P hg i h).2
theorem next_supp {m N : Nat} {g : Option Nat} {A : Sh} (P : Part A) (hg : ∀ r, g = some r → A (m + r + 1) < A (m + r)) (s : ∀ i, N ≤ i → A i = 0) : ∀ i, N ≤ i → next m g A i = 0 := by
  intro i hi
  rcases Nat.lt_or_ge i m with h | h
  · unfold next; rw [if_pos h]; exact s i hi
  · have := (next_bound P hg i h).1
    have := s i hi
    (first | assumption | lia | omega)
theorem strip_end {m N : Nat} {g : Option Nat} {A : Sh} (P : Part A) (hg : ∀ r, g = some r → A (m + r + 1) < A (m + r)) (s : ∀ i, N ≤ i → A i = 0) :
    (strip A (next m g A) m N).foldl sb A = next m g A := by
  funext i
  rw [strip_foldl]
  split
  · rename_i h
    have := next_bound P hg i h.1
    (first | assumption | lia | omega)
  · rename_i h
    rcases Nat.lt_or_ge i m with q | q
    · unfold next; rw [if_pos q]
    · rw [s i (by (first | assumption | lia | omega)), next_supp P hg s i (by (first | assumption | lia | omega))]
/-- the blocks after the new letter's place -/
theorem blks_after (N : Nat) : ∀ (gs : List (Option Nat)) (A : Sh) (j : Nat), Part A → (∀ i, N ≤ i → A i = 0) → Val A gs → Add A (gs.length + j) → gs.length + j < N →
    passAll A (blks N A gs) (gs.length + j) = (adjEnd j gs, blks N (ad A (gs.length + j)) (adj j gs)) ∧ Val (ad A (gs.length + j)) (adj j gs)
  | [], A, j, _, _, _, _, _ => by simp [blks, passAll, adjEnd, adj, Val]
  | g :: gs, A, j, P, s, V, hA, hN => by
    obtain ⟨V1, V2⟩ := V
    generalize hm : gs.length = m at *
    have ea : (g :: gs).length + j = m + j + 1 := by simp only [List.length_cons]; (first | assumption | lia | omega)
    rw [ea] at hA hN ⊢
    have hlt : A (m + j + 1) < A (m + j) := hA _ rfl
    have hb := next_bound P V1
    have Bp := next_part P V1
    have Bs := next_supp P V1 s
    have hBj : next m g A (m + j) = A (m + j + 1) + (if g = some j then 1 else 0) := by
      unfold next; rw [if_neg (by (first | assumption | lia | omega)), show m + j - m = j by (first | assumption | lia | omega)]
    simp only [blks, hm]
    rw [passAll_append, strip_pass N m A (m + j) (fun _ _ => rfl) hb (by (first | assumption | lia | omega)) hlt (by (first | assumption | lia | omega)), strip_end P V1 s]
    simp only
    by_cases c : g = some j
    · subst c
      rw [if_pos rfl] at hBj
      rw [if_neg (by (first | assumption | lia | omega))]
      have hB' : ad (next m (some j) A) (m + j + 1) = next m (some (j + 1)) (ad A (m + j + 1)) := by
        funext i
        simp only [ad, next, Option.some.injEq]
        by_cases q : i < m
        · rw [if_neg (by (first | assumption | lia | omega)), if_pos q, if_pos q, if_neg (by (first | assumption | lia | omega))]
        · rw [if_neg q, if_neg q]
          by_cases w1 : i = m + j + 1
          · rw [if_pos w1, if_neg (by (first | assumption | lia | omega)), if_neg (by (first | assumption | lia | omega)), if_pos (by (first | assumption | lia | omega))]
          · by_cases w2 : i = m + j
            · rw [if_neg w1, if_pos (by (first | assumption | lia | omega)), if_pos (by (first | assumption | lia | omega)), if_neg (by (first | assumption | lia | omega))]
            · rw [if_neg w1, if_neg (by (first | assumption | lia | omega)), if_neg (by (first | assumption | lia | omega)), if_neg (by (first | assumption | lia | omega))]
      have hAdd : Add (next m (some j) A) (m + (j + 1)) := by
        intro b hb'
        have : b = m + j := by (first | assumption | lia | omega)
        subst this
        rw [hBj]
        unfold next
        rw [if_neg (by (first | assumption | lia | omega)), if_neg (by simp <;> (first | assumption | lia | omega))]
        have := P (m + (j + 1))
        rw [show m + (j + 1) = m + j + 1 by (first | assumption | lia | omega)] at *
        (first | assumption | lia | omega)
      have ih := blks_after N gs (next m (some j) A) (j + 1) Bp Bs V2 (by rw [hm]; exact hAdd) (by (first | assumption | lia | omega))
      rw [hm, show m + (j + 1) = m + j + 1 by (first | assumption | lia | omega)] at ih
      simp only [adj, if_pos rfl, adjEnd, blks, Val, adj_len, hm, if_true]
      rw [ih.1, hB']
      refine ⟨rfl, ⟨fun r hr => ?_, ?_⟩⟩
      · cases hr
        simp only [ad]
        rw [if_neg (by (first | assumption | lia | omega)), if_pos (by (first | assumption | lia | omega))]
        have := P (m + (j + 1))
        (first | assumption | lia | omega)
      · rw [← hB']; exact ih.2
    · have hBj' : next m g A (m + j) = A (m + j + 1) := by rw [hBj, if_neg c]; rfl
      rw [if_pos hBj']
      have hB' : ad (next m g A) (m + j) = next m g (ad A (m + j + 1)) := by
        funext i
        simp only [ad, next]
        by_cases q : i < m
        · rw [if_neg (by (first | assumption | lia | omega)), if_pos q, if_pos q, if_neg (by (first | assumption | lia | omega))]
        · rw [if_neg q, if_neg q]
          generalize (if g = some (i - m) then 1 else 0) = t
          by_cases w1 : i = m + j
          · rw [if_pos w1, if_pos (by (first | assumption | lia | omega))]; (first | assumption | lia | omega)
          · rw [if_neg w1, if_neg (by (first | assumption | lia | omega))]
      have hAdd : Add (next m g A) (m + j) := by
        intro b hb'
        rw [hBj']
        by_cases q : b < m
        · have : next m g A b = A b := by unfold next; rw [if_pos q]
          rw [this, hb']
          have := P b
          rw [hb'] at hlt
          (first | assumption | lia | omega)
        · have := (hb b (by (first | assumption | lia | omega))).2
          rw [hb'] at hlt ⊢
          (first | assumption | lia | omega)
      have ih := blks_after N gs (next m g A) j Bp Bs V2 (by rw [hm]; exact hAdd) (by (first | assumption | lia | omega))
      rw [hm] at ih
      have eadj : adj j (g :: gs) = g :: adj j gs := by
        cases g with
        | none => rfl
        | some r => simp only [adj]; rw [if_neg (fun e => c (by rw [e]))]
      have eend : adjEnd j (g :: gs) = adjEnd j gs := by
        cases g with
        | none => rfl
        | some r => simp only [adjEnd]; rw [if_neg (fun e => c (by rw [e]))]
      rw [eadj, eend]
      simp only [blks, Val, adj_len, hm]
      rw [ih.1, hB']
      refine ⟨rfl, ⟨fun r hr => ?_, ?_⟩⟩
      · have h1 := V1 r hr
        have : r ≠ j := fun e => c (by rw [hr, e])
        simp only [ad]
        rw [if_neg (by (first | assumption | lia | omega))]
        split <;> (first | assumption | lia | omega)
      · rw [← hB']; exact ih.2
end Mine
end

/- M3b -/
section
namespace Mine
theorem blks_step (N : Nat) : ∀ (pre post : List (Option Nat)) (A : Sh), Part A → (∀ i, N ≤ i → A i = 0) → Val A (pre ++ none :: post) → Add A post.length → post.length < N →
    passAll A (blks N A (pre ++ none :: post)) post.length = (adjEnd 0 post, blks N (ad A post.length) (pre ++ some 0 :: adj 0 post)) ∧ Val (ad A post.length) (pre ++ some 0 :: adj 0 post)
  | [], post, A, P, s, V, hA, hN => by
    simp only [List.nil_append] at V ⊢
    obtain ⟨V1, V2⟩ := V
    generalize hm : post.length = m at *
    have hb := next_bound P V1
    have Bp := next_part P V1
    have Bs := next_supp P V1 s
    have hBm : next m none A m = A (m + 1) := by unfold next; rw [if_neg (by (first | assumption | lia | omega))]; simp
    have hB' : ad (next m none A) m = next m (some 0) (ad A m) := by
      funext i
      simp only [ad, next, Option.some.injEq]
      by_cases q : i < m
      · rw [if_neg (by (first | assumption | lia | omega)), if_pos q, if_pos q, if_neg (by (first | assumption | lia | omega))]
      · rw [if_neg q, if_neg q]
        by_cases w : i = m
        · rw [if_pos w, if_neg (by simp), if_neg (by (first | assumption | lia | omega)), if_pos (by (first | assumption | lia | omega))]
        · rw [if_neg w, if_neg (by simp), if_neg (by (first | assumption | lia | omega)), if_neg (by (first | assumption | lia | omega))]
    have hAdd : Add (next m none A) m := by
      intro b hb'
      rw [hBm]
      have e : next m none A b = A b := by unfold next; rw [if_pos (by (first | assumption | lia | omega))]
      rw [e]
      have := hA b hb'
      have := P m
      (first | assumption | lia | omega)
    have ih := blks_after N post (next m none A) 0 Bp Bs V2 (by rw [hm]; exact hAdd) (by (first | assumption | lia | omega))
    rw [hm, Nat.add_zero] at ih
    simp only [blks, Val, adj_len, hm]
    rw [passAll_append, strip_above N m A (Nat.le_refl _), strip_end P V1 s]
    simp only
    rw [ih.1, ← hB']
    refine ⟨?_, ⟨fun r hr => ?_, ih.2⟩⟩
    · rw [strip_congr (A := ad A m) (B := ad (next m none A) m) (A' := A) (B' := next m none A) N m fun i hi => ?_]
      simp only [ad]
      split <;> (first | assumption | lia | omega)
    · cases hr
      simp only [ad]
      rw [if_neg (by (first | assumption | lia | omega)), if_pos (by (first | assumption | lia | omega))]
      have := P m
      simp only [Nat.add_zero]
      (first | assumption | lia | omega)
  | g :: pre, post, A, P, s, V, hA, hN => by
    simp only [List.cons_append] at V ⊢
    obtain ⟨V1, V2⟩ := V
    have hl : (pre ++ none :: post).length = (pre ++ some 0 :: adj 0 post).length := by simp [adj_len]
    have hma : post.length < (pre ++ none :: post).length := by simp; (first | assumption | lia | omega)
    have Bp := next_part P V1
    have Bs := next_supp P V1 s
    have hAdd : Add (next (pre ++ none :: post).length g A) post.length := by
      intro b hb'
      have e1 : next (pre ++ none :: post).length g A b = A b := by unfold next; rw [if_pos (by (first | assumption | lia | omega))]
      have e2 : next (pre ++ none :: post).length g A post.length = A post.length := by unfold next; rw [if_pos hma]
      rw [e1, e2]
      exact hA b hb'
    have ih := blks_step N pre post (next (pre ++ none :: post).length g A) Bp Bs V2 hAdd hN
    simp only [blks, Val]
    rw [← hl]
    rw [passAll_append, strip_above N _ A (by (first | assumption | lia | omega)), strip_end P V1 s]
    simp only
    rw [ih.1]
    generalize (pre ++ none :: post).length = m at *
    generalize post.length = a at *
    have hB' : ad (next m g A) a = next m g (ad A a) := by
      funext i
      simp only [ad, next]
      by_cases q : i < m
      · rw [if_pos q, if_pos q]
      · rw [if_neg q, if_neg q]
        generalize (if g = some (i - m) then 1 else 0) = t
        rw [if_neg (by (first | assumption | lia | omega)), if_neg (by (first | assumption | lia | omega))]
    rw [← hB']
    refine ⟨?_, ⟨fun r hr => ?_, ih.2⟩⟩
    · rw [strip_congr (A := ad A a) (B := ad (next m g A) a) (A' := A) (B' := next m g A) N m fun i hi => ?_]
      simp only [ad]
      rw [if_neg (by (first | assumption | lia | omega)), if_neg (by (first | assumption | lia | omega))]
    · have := V1 r hr
      simp only [ad]
      rw [if_neg (by (first | assumption | lia | omega)), if_neg (by (first | assumption | lia | omega))]
      exact this
end Mine
end

/- M4 -/
section
namespace Mine
noncomputable def ins : List (List Nat) → Nat → List (List Nat) × Nat
  | [], x => ([[x]], 0)
  | r :: rs, x =>
    if r ≠ [] ∧ x < r.getLastD 0 then
      ((r.take (r.filter (· ≤ x)).length ++ [x] ++ r.drop ((r.filter (· ≤ x)).length + 1)) :: (ins rs (r.getD (r.filter (· ≤ x)).length 0)).1, (ins rs (r.getD (r.filter (· ≤ x)).length 0)).2 + 1)
    else ((r ++ [x]) :: rs, 0)
noncomputable def gro : List (List Nat) → List (Option Nat) → List (Option Nat)
  | _, [] => []
  | rows, none :: xs => none :: gro rows xs
  | rows, some x :: xs => some (ins rows x).2 :: gro (ins rows x).1 xs
noncomputable def SR (rows : List (List Nat)) : Prop := ∀ r ∈ rows, r.Pairwise (· ≤ ·)
theorem sorted_split (x : Nat) : ∀ (r : List Nat), r.Pairwise (· ≤ ·) → r = r.filter (· ≤ x) ++ r.filter (x < ·)
  | [], _ => rfl
  | q :: r, h => by
    rw [List.pairwise_cons] at h
    by_cases c : q ≤ x
    · rw [List.filter_cons_of_pos (by simpa using c), List.filter_cons_of_neg (by simpa using c), List.cons_append, ← sorted_split x r h.2]
    · have h1 : r.filter (· ≤ x) = [] := List.filter_eq_nil_iff.mpr fun p hp => by have := h.1 p hp; simp; (first | assumption | lia | omega)
      have h2 : r.filter (x < ·) = r := List.filter_eq_self.mpr fun p hp => by have := h.1 p hp; simp; (first | assumption | lia | omega)
      rw [List.filter_cons_of_neg (by simpa using c), List.filter_cons_of_pos (by simpa using c), h1, h2]; rfl
theorem ins_app {r : List Nat} {rs : List (List Nat)} {x : Nat} (h : r.Pairwise (· ≤ ·)) (e : r.filter (x < ·) = []) : ins (r :: rs) x = ((r ++ [x]) :: rs, 0) := by
  simp only [ins]
  rw [if_neg]
  rintro ⟨h1, h2⟩
  have hm : r.getLastD 0 ∈ r := by
    rw [List.getLastD_eq_getLast?, List.getLast?_eq_some_getLast h1]; exact List.getLast_mem h1
  have := List.filter_eq_nil_iff.mp e _ hm
  exact this (by simpa using h2)
theorem ins_bump {r hi : List Nat} {rs : List (List Nat)} {x y : Nat} (h : r.Pairwise (· ≤ ·)) (e : r.filter (x < ·) = y :: hi) :
    ins (r :: rs) x = ((r.filter (· ≤ x) ++ x :: hi) :: (ins rs y).1, (ins rs y).2 + 1) := by
  have sp := sorted_split x r h
  rw [e] at sp
  have hne : r ≠ [] := by rw [sp]; simp
  have hy : y ∈ r ∧ x < y := by
    have : y ∈ r.filter (x < ·) := by rw [e]; simp
    simpa using this
  have hl : r.getLastD 0 ∈ y :: hi := by
    rw [List.getLastD_eq_getLast?, sp, List.getLast?_append, List.getLast?_eq_some_getLast (l := y :: hi) (by simp)]
    exact List.getLast_mem _
  have hlx : x < r.getLastD 0 := by
    have : r.getLastD 0 ∈ r.filter (x < ·) := by rw [e]; exact hl
    simpa using (List.mem_filter.mp this).2
  simp only [ins]
  rw [if_pos ⟨hne, hlx⟩]
  generalize r.filter (· ≤ x) = lo at *
  subst sp
  simp
theorem filter_hi (z x : Nat) (r : List Nat) (h : x < z) : (r ++ [z]).filter (x < ·) = r.filter (x < ·) ++ [z] := by
  rw [List.filter_append]; simp [h]
theorem filter_lo (z x : Nat) (r : List Nat) (h : x < z) : (r ++ [z]).filter (· ≤ x) = r.filter (· ≤ x) := by
  rw [List.filter_append]; simp; (first | assumption | lia | omega)
noncomputable def addz (z : Nat) : List (List Nat) → Nat → List (List Nat)
  | [], _ => [[z]]
  | r :: rs, 0 => (r ++ [z]) :: rs
  | r :: rs, j + 1 => r :: addz z rs j
noncomputable def HypZ (z : Nat) : Nat → List (List Nat) → Prop
  | 0, rows => ∀ r ∈ rows, ∀ q ∈ r, q ≤ z
  | _ + 1, [] => False
  | j + 1, r :: rs => (∀ q ∈ r, q < z) ∧ HypZ z j rs
theorem ins_sr : ∀ (rows : List (List Nat)) (x : Nat), SR rows → SR (ins rows x).1
  | [], x, _ => by intro r hr; simp [ins] at hr; subst hr; simp
  | r :: rs, x, h => by
    have h1 := h r (by simp)
    have h2 : SR rs := fun q hq => h q (by simp [hq])
    cases e : r.filter (x < ·) with
    | nil =>
      rw [ins_app h1 e]
      intro q hq
      rcases List.mem_cons.mp hq with rfl | hq
      · rw [List.pairwise_append]
        refine ⟨h1, by simp, fun p hp q hq => ?_⟩
        have := List.filter_eq_nil_iff.mp e p hp
        simp at this hq
        (first | assumption | lia | omega)
      · exact h2 q hq
    | cons y hi =>
      rw [ins_bump h1 e]
      have ih := ins_sr rs y h2
      intro q hq
      rcases List.mem_cons.mp hq with rfl | hq
      · have sp := sorted_split x r h1
        rw [e] at sp
        have hlo : ∀ p ∈ r.filter (· ≤ x), p ≤ x := fun p hp => by simpa using (List.mem_filter.mp hp).2
        have hhi : ∀ p ∈ hi, x < p := fun p hp => by
          have : p ∈ r.filter (x < ·) := by rw [e]; simp [hp]
          simpa using (List.mem_filter.mp this).2
        rw [sp] at h1
        generalize r.filter (· ≤ x) = lo at *
        rw [List.pairwise_append] at h1 ⊢
        obtain ⟨w1, w2, w3⟩ := h1
        rw [List.pairwise_cons] at w2 ⊢
        refine ⟨w1, ⟨fun p hp => Nat.le_of_lt (hhi p hp), w2.2⟩, fun p hp q hq => ?_⟩
        rcases List.mem_cons.mp hq with rfl | hq
        · exact hlo p hp
        · have := hlo p hp; have := hhi q hq; (first | assumption | lia | omega)
      · exact ih q hq
theorem ins_le (z : Nat) : ∀ (rows : List (List Nat)) (x : Nat), SR rows → (∀ r ∈ rows, ∀ q ∈ r, q ≤ z) → x ≤ z → ∀ r ∈ (ins rows x).1, ∀ q ∈ r, q ≤ z
  | [], x, _, _, hx => by intro r hr q hq; simp [ins] at hr; subst hr; simp at hq; (first | assumption | lia | omega)
  | r :: rs, x, s, h, hx => by
    have s1 := s r (by simp)
    have s2 : SR rs := fun q hq => s q (by simp [hq])
    have h1 := h r (by simp)
    have h2 : ∀ r ∈ rs, ∀ q ∈ r, q ≤ z := fun q hq => h q (by simp [hq])
    cases e : r.filter (x < ·) with
    | nil =>
      rw [ins_app s1 e]
      intro q hq p hp
      rcases List.mem_cons.mp hq with rfl | hq
      · rcases List.mem_append.mp hp with hp | hp
        · exact h1 p hp
        · simp at hp; (first | assumption | lia | omega)
      · exact h2 q hq p hp
    | cons y hi =>
      rw [ins_bump s1 e]
      have hy : ∀ p ∈ y :: hi, p ≤ z := fun p hp => h1 p (by rw [← e] at hp; exact (List.mem_filter.mp hp).1)
      intro q hq p hp
      rcases List.mem_cons.mp hq with rfl | hq
      · rcases List.mem_append.mp hp with hp | hp
        · exact h1 p (List.mem_filter.mp hp).1
        · rcases List.mem_cons.mp hp with rfl | hp
          · exact hx
          · exact hy p (by simp [hp])
      · exact ins_le z rs y s2 h2 (hy y (by simp)) q hq p hp
theorem ins_max (z : Nat) (rows : List (List Nat)) (s : SR rows) (h : ∀ r ∈ rows, ∀ q ∈ r, q ≤ z) : ins rows z = (addz z rows 0, 0) := by
  cases rows with
  | nil => rfl
  | cons r rs =>
    rw [ins_app (s r (by simp)) (List.filter_eq_nil_iff.mpr fun p hp => by have := h r (by simp) p hp; simp; (first | assumption | lia | omega))]
    rfl
theorem ins_addz (z : Nat) : ∀ (rows : List (List Nat)) (j x : Nat), SR rows → HypZ z j rows → x < z →
    ((ins rows x).2 = j → ins (addz z rows j) x = (addz z (ins rows x).1 (j + 1), j + 1) ∧ HypZ z (j + 1) (ins rows x).1) ∧
    ((ins rows x).2 ≠ j → ins (addz z rows j) x = (addz z (ins rows x).1 j, (ins rows x).2) ∧ HypZ z j (ins rows x).1)
  | [], 0, x, _, _, hx => by
    refine ⟨fun _ => ⟨?_, ?_⟩, fun h => absurd rfl h⟩
    · simp only [addz]
      rw [ins_bump (r := [z]) (hi := []) (y := z) (by simp) (by simp [hx])]
      simp [ins, addz]; (first | assumption | lia | omega)
    · simp [ins, HypZ, hx]
  | [], j + 1, x, _, h, _ => h.elim
  | r :: rs, 0, x, s, h, hx => by
    have s1 := s r (by simp)
    have s2 : SR rs := fun q hq => s q (by simp [hq])
    have h1 : ∀ q ∈ r, q ≤ z := h r (by simp)
    have h2 : ∀ r ∈ rs, ∀ q ∈ r, q ≤ z := fun q hq => h q (by simp [hq])
    have s1z : (r ++ [z]).Pairwise (· ≤ ·) := by
      rw [List.pairwise_append]
      exact ⟨s1, by simp, fun p hp q hq => by simp at hq; subst hq; exact h1 p hp⟩
    cases e : r.filter (x < ·) with
    | nil =>
      have er : r.filter (· ≤ x) = r := by have := sorted_split x r s1; rw [e, List.append_nil] at this; exact this.symm
      refine ⟨fun _ => ⟨?_, ?_⟩, fun q => absurd (by rw [ins_app s1 e]) q⟩
      · rw [ins_app s1 e]
        simp only [addz]
        rw [ins_bump (hi := []) (y := z) s1z (by rw [filter_hi z x r hx, e]; rfl), filter_lo z x r hx, er, ins_max z rs s2 h2]
      · rw [ins_app s1 e]
        refine ⟨fun q hq => ?_, h2⟩
        rcases List.mem_append.mp hq with hq | hq
        · have := List.filter_eq_nil_iff.mp e q hq
          simp at this; (first | assumption | lia | omega)
        · simp at hq; (first | assumption | lia | omega)
    | cons y hi =>
      refine ⟨fun q => ?_, fun _ => ⟨?_, ?_⟩⟩
      · rw [ins_bump s1 e] at q; simp at q
      · rw [ins_bump s1 e]
        simp only [addz]
        rw [ins_bump (hi := hi ++ [z]) (y := y) s1z (by rw [filter_hi z x r hx, e]; rfl), filter_lo z x r hx]
        simp
      · exact ins_le z (r :: rs) x s h (Nat.le_of_lt hx)
  | r :: rs, j + 1, x, s, h, hx => by
    have s1 := s r (by simp)
    have s2 : SR rs := fun q hq => s q (by simp [hq])
    obtain ⟨h1, h2⟩ := h
    cases e : r.filter (x < ·) with
    | nil =>
      refine ⟨fun q => ?_, fun _ => ⟨?_, ?_⟩⟩
      · rw [ins_app s1 e] at q; simp at q
      · rw [ins_app s1 e]
        simp only [addz]
        rw [ins_app s1 e]
      · rw [ins_app s1 e]
        refine ⟨fun q hq => ?_, h2⟩
        rcases List.mem_append.mp hq with hq | hq
        · exact h1 q hq
        · simp at hq; (first | assumption | lia | omega)
    | cons y hi =>
      have hyr : ∀ p ∈ y :: hi, p ∈ r := fun p hp => by rw [← e] at hp; exact (List.mem_filter.mp hp).1
      have ih := ins_addz z rs j y s2 h2 (h1 y (hyr y (by simp)))
      have hrow : ∀ q ∈ r.filter (· ≤ x) ++ x :: hi, q < z := fun q hq => by
        rcases List.mem_append.mp hq with hq | hq
        · exact h1 q (List.mem_filter.mp hq).1
        · rcases List.mem_cons.mp hq with rfl | hq
          · exact hx
          · exact h1 q (hyr q (by simp [hq]))
      refine ⟨fun q => ?_, fun q => ?_⟩
      · rw [ins_bump s1 e] at q ⊢
        simp only [Nat.add_right_cancel_iff] at q
        have i := ih.1 q
        simp only [addz]
        rw [ins_bump s1 e, i.1]
        exact ⟨rfl, hrow, i.2⟩
      · rw [ins_bump s1 e] at q ⊢
        have q' : (ins rs y).2 ≠ j := fun w => q (by simp [w])
        have i := ih.2 q'
        simp only [addz]
        rw [ins_bump s1 e, i.1]
        exact ⟨rfl, hrow, i.2⟩
theorem gro_addz (z : Nat) : ∀ (xs : List (Option Nat)) (rows : List (List Nat)) (j : Nat), SR rows → HypZ z j rows → (∀ x, some x ∈ xs → x < z) → gro (addz z rows j) xs = adj j (gro rows xs)
  | [], _, _, _, _, _ => rfl
  | none :: xs, rows, j, s, h, hx => by
    simp only [gro, adj]
    rw [gro_addz z xs rows j s h fun x hm => hx x (by simp [hm])]
  | some x :: xs, rows, j, s, h, hx => by
    have a := ins_addz z rows j x s h (hx x (by simp))
    simp only [gro, adj]
    split
    · rename_i c
      have a := a.1 c
      rw [a.1]
      simp only
      rw [gro_addz z xs _ (j + 1) (ins_sr rows x s) a.2 fun x hm => hx x (by simp [hm])]
    · rename_i c
      have a := a.2 c
      rw [a.1]
      simp only
      rw [gro_addz z xs _ j (ins_sr rows x s) a.2 fun x hm => hx x (by simp [hm])]
theorem gro_len : ∀ (xs : List (Option Nat)) (rows : List (List Nat)), (gro rows xs).length = xs.length
  | [], _ => rfl
  | none :: xs, rows => by simp [gro, gro_len xs]
  | some x :: xs, rows => by simp [gro, gro_len xs]
theorem gro_step (z : Nat) (post : List (Option Nat)) (hpost : ∀ x, some x ∈ post → x < z) : ∀ (pre : List (Option Nat)) (rows : List (List Nat)), SR rows → (∀ r ∈ rows, ∀ q ∈ r, q ≤ z) → (∀ x, some x ∈ pre → x ≤ z) →
    ∃ gp gq, gp.length = pre.length ∧ gq.length = post.length ∧ gro rows (pre ++ none :: post) = gp ++ none :: gq ∧ gro rows (pre ++ some z :: post) = gp ++ some 0 :: adj 0 gq
  | [], rows, s, h, _ => by
    refine ⟨[], gro rows post, rfl, gro_len _ _, rfl, ?_⟩
    simp only [List.nil_append, gro]
    rw [ins_max z rows s h]
    simp only
    rw [gro_addz z post rows 0 s h hpost]
  | none :: pre, rows, s, h, hp => by
    obtain ⟨gp, gq, h1, h2, h3, h4⟩ := gro_step z post hpost pre rows s h fun x hm => hp x (by simp [hm])
    exact ⟨none :: gp, gq, by simp [h1], h2, by simp [gro, h3], by simp [gro, h4]⟩
  | some x :: pre, rows, s, h, hp => by
    obtain ⟨gp, gq, h1, h2, h3, h4⟩ := gro_step z post hpost pre (ins rows x).1 (ins_sr rows x s) (ins_le z rows x s h (hp x (by simp))) fun x hm => hp x (by simp [hm])
    exact ⟨some (ins rows x).2 :: gp, gq, by simp [h1], h2, by simp [gro, h3], by simp [gro, h4]⟩
end Mine
end

/- M5 -/
section
namespace Mine
noncomputable def stair (N : Nat) : Sh := fun i => N - 1 - i
noncomputable def S0 (N : Nat) : List Nat := blks N (stair N) (List.replicate N none)
inductive Fill (N : Nat) : List Nat → List (Option Nat) → Prop
  | nil : Fill N [] (List.replicate N none)
  | snoc {es pre post z} : Fill N es (pre ++ none :: post) → (∀ x, some x ∈ pre → x ≤ z) → (∀ x, some x ∈ post → x < z) → Fill N (es ++ [post.length]) (pre ++ some z :: post)
theorem Fill.len {N : Nat} {es : List Nat} {u : List (Option Nat)} (h : Fill N es u) : u.length = N := by
  induction h with
  | nil => simp
  | snoc _ _ _ ih => simpa using ih
theorem adds_snoc : ∀ (as : List Nat) (l : Sh) (r : Nat), adds l (as ++ [r]) = ad (adds l as) r
  | [], _, _ => rfl
  | _ :: as, _, r => adds_snoc as _ r
theorem Adds_snoc : ∀ (as : List Nat) (l : Sh) (r : Nat), Adds l as → Add (adds l as) r → Adds l (as ++ [r])
  | [], _, _, _, h => ⟨h, trivial⟩
  | _ :: as, _, r, a, h => ⟨a.1, Adds_snoc as _ r a.2 h⟩
theorem stair_part (N : Nat) : Part (stair N) := fun i => by unfold stair; (first | assumption | lia | omega)
theorem run_nil : ∀ (S : List Nat) (l : Sh), run l S [] = ([], S)
  | [], _ => rfl
  | h :: S, l => by simp only [run, slideRow]; rw [run_nil S]
theorem val_none (A : Sh) : ∀ n, Val A (List.replicate n none)
  | 0 => trivial
  | n + 1 => by
    rw [List.replicate_succ]
    exact ⟨fun r h => (by cases h), val_none _ n⟩
/-- the state after the letters so far -/
structure FillOk (N : Nat) (es : List Nat) (u : List (Option Nat)) : Prop where
  ads : Adds (stair N) es
  sh : ∀ i, i < N → adds (stair N) es i = stair N i + (if (u.getD (N - 1 - i) none).isSome then 1 else 0)
  supp : ∀ i, N ≤ i → adds (stair N) es i = 0
  val : Val (adds (stair N) es) (gro [] u)
  endd : (run (stair N) (S0 N) es).2 = blks N (adds (stair N) es) (gro [] u)
  cnt : ∀ i, (run (stair N) (S0 N) es).1.count i = (gro [] u).count (some i)
theorem gro_none : ∀ n rows, gro rows (List.replicate n none) = List.replicate n none
  | 0, _ => rfl
  | n + 1, rows => by rw [List.replicate_succ]; simp only [gro]; rw [gro_none n]
theorem Fill.ok {N : Nat} (R : Rems (stair N) (S0 N)) {es : List Nat} {u : List (Option Nat)} (h : Fill N es u) : FillOk N es u := by
  induction h with
  | nil =>
    refine ⟨trivial, fun i hi => ?_, fun i hi => ?_, ?_, ?_, fun i => ?_⟩
    · have : (List.replicate N (none : Option Nat)).getD (N - 1 - i) none = none := by
        rw [List.getD_eq_getElem?_getD, List.getElem?_replicate]; split <;> rfl
      rw [this]; simp [adds]
    · simp only [adds, stair]; (first | assumption | lia | omega)
    · rw [gro_none]; exact val_none _ N
    · rw [run_nil, gro_none]; rfl
    · rw [run_nil, gro_none]
      exact (List.count_eq_zero.mpr fun q => by have := (List.mem_replicate.mp q).2; cases this).symm
  | @snoc es pre post z hf h1 h2 ih =>
    have hl := hf.len
    simp only [List.length_append, List.length_cons] at hl
    obtain ⟨gp, gq, l1, l2, g1, g2⟩ := gro_step z post h2 pre [] (fun r hr => by cases hr) (fun r hr => by cases hr) h1
    obtain ⟨i1, i2, i3, i4, i5, i6⟩ := ih
    have P := part_adds es (stair_part N) i1
    have hun : adds (stair N) es post.length = stair N post.length := by
      rw [i2 _ (by (first | assumption | lia | omega))]
      have : (pre ++ none :: post).getD (N - 1 - post.length) none = none := by
        rw [List.getD_eq_getElem?_getD, show N - 1 - post.length = pre.length by (first | assumption | lia | omega)]; simp
      rw [this]; rfl
    have hAdd : Add (adds (stair N) es) post.length := by
      intro b hb
      rw [hun, i2 b (by (first | assumption | lia | omega))]
      have : stair N post.length < stair N b := by unfold stair; (first | assumption | lia | omega)
      (first | assumption | lia | omega)
    rw [g1] at i4 i5 i6
    have st := blks_step N gp gq (adds (stair N) es) P i3 i4 (by rw [l2]; exact hAdd) (by (first | assumption | lia | omega))
    rw [l2] at st
    have rs := run_snoc (S0 N) (stair N) es post.length (stair_part N) R i1
    rw [i5, st.1] at rs
    refine ⟨Adds_snoc es _ _ i1 hAdd, fun i hi => ?_, fun i hi => ?_, ?_, ?_, fun i => ?_⟩
    · rw [adds_snoc]
      simp only [ad]
      have hi2 := i2 i hi
      by_cases e : i = post.length
      · rw [if_pos e]
        have : (pre ++ some z :: post).getD (N - 1 - i) none = some z := by
          rw [List.getD_eq_getElem?_getD, show N - 1 - i = pre.length by (first | assumption | lia | omega)]; simp
        rw [this, e, hun]; rfl
      · rw [if_neg e, hi2]
        congr 2
        rw [List.getD_eq_getElem?_getD, List.getD_eq_getElem?_getD]
        rcases Nat.lt_or_ge (N - 1 - i) pre.length with q | q
        · rw [List.getElem?_append_left q, List.getElem?_append_left q]
        · obtain ⟨d, hd⟩ : ∃ d, N - 1 - i = pre.length + (d + 1) := ⟨N - 1 - i - pre.length - 1, by (first | assumption | lia | omega)⟩
          rw [hd, List.getElem?_append_right (by (first | assumption | lia | omega)), List.getElem?_append_right (by (first | assumption | lia | omega))]
          simp
    · rw [adds_snoc]
      simp only [ad]
      rw [if_neg (by (first | assumption | lia | omega))]
      exact i3 i hi
    · rw [adds_snoc, g2]; exact st.2
    · rw [rs, adds_snoc, g2]
    · rw [rs, g2]
      simp only [List.count_append, List.count_cons, List.count_nil]
      have := i6 i
      simp only [List.count_append] at this
      rw [count_none] at this
      have e2 := adj_count i gq 0
      have e3 : (some 0 :: adj 0 gq).count (some i) = (adj 0 gq).count (some i) + dl i 0 := count_some i 0 _
      simp only [List.count_cons] at e3
      rw [this, e3, e2]
      have : (if (adjEnd 0 gq == i) = true then 1 else 0) = dl i (adjEnd 0 gq) := by
        unfold dl
        by_cases w : adjEnd 0 gq = i
        · subst w; simp
        · rw [if_neg (by simpa using w), if_neg (fun q => w q.symm)]
      rw [this]
      (first | assumption | lia | omega)
end Mine
end

/- M6 -/
section
namespace Mine
theorem getD_map_some (W : List Nat) (i : Nat) (h : i < W.length) : ((W.map some).getD i none).isSome = true := by
  rw [List.getD_eq_getElem?_getD, List.getElem?_map, List.getElem?_eq_getElem h]; rfl
theorem fill_shape {N : Nat} {es : List Nat} {W : List Nat} (R : Rems (stair N) (S0 N)) (h : Fill N es (W.map some)) : adds (stair N) es = fun i => if i < N then N - i else 0 := by
  have k := h.ok R
  have hl := h.len
  rw [List.length_map] at hl
  funext i
  by_cases e : i < N
  · rw [if_pos e, k.sh i e, getD_map_some W _ (by (first | assumption | lia | omega))]
    simp only [stair, if_true]
    (first | assumption | lia | omega)
  · rw [if_neg e]; exact k.supp i (by (first | assumption | lia | omega))
theorem haiman {N : Nat} (R : Rems (stair N) (S0 N)) (L : (S0 N).length = size (stair N) N) {es fs : List Nat} {W V : List Nat} (hW : Fill N es (W.map some)) (hV : Fill N fs (V.map some))
    (hg : gro [] (W.map some) = gro [] (V.map some)) {S : List Nat} (hS : Rems (stair N) S) (lS : S.length = size (stair N) N) :
    (run (stair N) S es).2 = (run (stair N) S fs).2 ∧ ∀ i, (run (stair N) S es).1.count i = (gro [] (W.map some)).count (some i) := by
  have kW := hW.ok R
  have kV := hV.ok R
  have P := stair_part N
  have c := conn_full N (size (stair N) N) P (fun i hi => by unfold stair; (first | assumption | lia | omega)) rfl R hS L lS
  have r := run_conn c P es fs kW.ads kV.ads
  refine ⟨r.2 ?_, fun i => ?_⟩
  · rw [kW.endd, kV.endd, fill_shape R hW, fill_shape R hV, hg]
  · rw [← r.1]; exact kW.cnt i
end Mine
end

/- M7 -/
section
namespace Mine
noncomputable def mk (N : Nat) (f : Nat → List Nat) : List (List Nat) := (List.range N).map f
theorem mk_len (N : Nat) (f : Nat → List Nat) : (mk N f).length = N := by simp [mk]
theorem mk_get {N i : Nat} {f : Nat → List Nat} (h : i < N) : (mk N f).getD i [] = f i := by
  rw [List.getD_eq_getElem?_getD]; simp [mk, h]
theorem mk_get' {N i : Nat} {f : Nat → List Nat} (h : N ≤ i) : (mk N f).getD i [] = [] := by
  rw [List.getD_eq_getElem?_getD, List.getElem?_eq_none (by rw [mk_len]; exact h)]; rfl
theorem mk_congr {N : Nat} {f g : Nat → List Nat} (h : ∀ i, i < N → f i = g i) : mk N f = mk N g :=
  List.map_congr_left fun i hi => h i (by simpa using hi)
theorem mk_set {N i : Nat} {f : Nat → List Nat} {v : List Nat} (h : i < N) : (mk N f).set i v = mk N (fun k => if k = i then v else f k) := by
  apply List.ext_getElem
  · simp [mk]
  · intro k h1 h2
    rw [List.getElem_set]
    simp only [mk, List.getElem_map, List.getElem_range]
    by_cases e : i = k
    · rw [if_pos e, if_pos e.symm]
    · rw [if_neg e, if_neg fun q => e q.symm]
noncomputable def lets (E : List (Nat × Nat)) (i : Nat) : List Nat := (E.filter (fun e => e.1 == i)).map (·.2)
theorem lets_nil (i : Nat) : lets [] i = [] := rfl
theorem lets_cons_eq (a x : Nat) (E : List (Nat × Nat)) : lets ((a, x) :: E) a = x :: lets E a := by simp [lets]
theorem lets_cons_ne {a i : Nat} (x : Nat) (E : List (Nat × Nat)) (h : i ≠ a) : lets ((a, x) :: E) i = lets E i := by
  have : ¬ a = i := fun e => h e.symm
  simp [lets, this]
theorem lets_snoc_eq (a x : Nat) (E : List (Nat × Nat)) : lets (E ++ [(a, x)]) a = lets E a ++ [x] := by simp [lets]
theorem lets_snoc_ne {a i : Nat} (x : Nat) (E : List (Nat × Nat)) (h : i ≠ a) : lets (E ++ [(a, x)]) i = lets E i := by
  have : ¬ a = i := fun e => h e.symm
  simp [lets, this]
theorem lets_mem {E : List (Nat × Nat)} {i y : Nat} (h : y ∈ lets E i) : (i, y) ∈ E := by
  simp only [lets, List.mem_map, List.mem_filter, beq_iff_eq] at h
  obtain ⟨⟨a, b⟩, ⟨h1, h2⟩, h3⟩ := h
  simp only at h2 h3
  subst h2; subst h3; exact h1
noncomputable def slideE (l : Sh) (h : Nat) : List (Nat × Nat) → List (Nat × Nat) × Nat
  | [] => ([], h)
  | (a, x) :: as => (((pass l h a).1, x) :: (slideE (ad l a) (pass l h a).2 as).1, (slideE (ad l a) (pass l h a).2 as).2)
theorem slideE_row : ∀ (E : List (Nat × Nat)) (l : Sh) (h : Nat), (slideE l h E).1.map (·.1) = (slideRow l h (E.map (·.1))).1 ∧ (slideE l h E).2 = (slideRow l h (E.map (·.1))).2 ∧ (slideE l h E).1.map (·.2) = E.map (·.2)
  | [], _, _ => ⟨rfl, rfl, rfl⟩
  | (a, x) :: E, l, h => by
    have ih := slideE_row E (ad l a) (pass l h a).2
    simp only [slideE, slideRow, List.map_cons]
    exact ⟨by rw [ih.1], ih.2.1, by rw [ih.2.2]⟩
noncomputable def srel (e f : Nat × Nat) : Prop := e.2 < f.2 ∨ (e.2 = f.2 ∧ f.1 ≤ e.1)
noncomputable def cfg (mu : Sh) (D : List (Nat × Nat)) (h q : Nat) (as : List (Nat × Nat)) : Nat → List Nat := fun i =>
  List.replicate (mu i) 32 ++ lets D i ++ ((if i = h then [q] else []) ++ lets as i)
theorem drop_len {α : Type} (A B : List α) (n : Nat) (h : A.length = n) : (A ++ B).drop n = B := by subst h; simp
theorem take_len {α : Type} (A B : List α) (n : Nat) (h : A.length = n) : (A ++ B).take n = A := by subst h; simp
theorem collM_gt {x y : Nat} (h : x < y) : ¬ coll [y] [x] ≤ 0 := by
  have h1 : ([x] : List Nat) < [y] := by rw [List.cons_lt_cons_iff]; exact .inl h
  have h2 : ¬ ([y] : List Nat) < [x] := by
    rw [List.cons_lt_cons_iff]
    rintro (q | q)
    · (first | assumption | lia | omega)
    · exact absurd q.2 (List.lt_irrefl _)
  unfold coll
  rw [if_pos (by simpa using h1), if_neg (by simpa using h2)]
  (first | assumption | lia | omega)
theorem collM_le {x y : Nat} (h : x ≤ y) : coll [x] [y] ≤ 0 := by
  have h2 : ¬ ([y] : List Nat) < [x] := by
    rw [List.cons_lt_cons_iff]
    rintro (q | q)
    · (first | assumption | lia | omega)
    · exact absurd q.2 (List.lt_irrefl _)
  unfold coll
  rw [if_neg (by simpa using h2)]
  split <;> (first | assumption | lia | omega)
end Mine
end

/- M8 -/
section
namespace Mine
theorem slLoop_eq (N : Nat) (mu : Sh) : ∀ (as : List (Nat × Nat)) (D : List (Nat × Nat)) (l : Sh) (h q fuel : Nat), Part l → Rem l h → Adds l (as.map (·.1)) → (∀ i, N ≤ i → adds l (as.map (·.1)) i = 0) → h < N →
    as.Pairwise srel → (∀ i, l i = mu i + (lets D i).length + (if i = h then 1 else 0)) → as.length < fuel →
    slLoop fuel (mk N (cfg mu D h q as)) h (mu h + (lets D h).length) = (mk N (fun i => List.replicate (mu i) 32 ++ lets (D ++ (slideE l h as).1) i), (slideE l h as).2)
  | _, _, _, _, _, 0, _, _, _, _, _, _, _, hf => by (first | assumption | lia | omega)
  | [], D, l, h, q, fuel + 1, P, R, A, s, hN, so, hs, hf => by
    unfold Rem at R
    have hh := hs h
    rw [if_pos rfl] at hh
    have hrow : (mk N (cfg mu D h q [])).getD h [] = (List.replicate (mu h) 32 ++ lets D h) ++ [q] := by
      rw [mk_get hN]; simp [cfg, lets_nil]
    have hright : slRight (mk N (cfg mu D h q [])) h (mu h + (lets D h).length) = [] := by
      unfold slRight
      rw [hrow, List.drop_eq_nil_of_le (by simp; (first | assumption | lia | omega))]; rfl
    have hbelow : slBelow (mk N (cfg mu D h q [])) h (mu h + (lets D h).length) = [] := by
      unfold slBelow
      rcases Nat.lt_or_ge (h + 1) N with w | w
      · rw [mk_get w, List.drop_eq_nil_of_le]; rfl
        have := hs (h + 1)
        rw [if_neg (by (first | assumption | lia | omega))] at this
        simp [cfg, lets_nil]; (first | assumption | lia | omega)
      · rw [mk_get' w]; simp
    simp only [slLoop]
    rw [if_pos ⟨hright, hbelow⟩, hrow, take_len _ _ _ (by simp), mk_set hN]
    simp only [slideE, List.append_nil]
    refine Prod.ext (mk_congr fun i _ => ?_) rfl
    by_cases e : i = h
    · rw [if_pos e, e]
    · rw [if_neg e]; simp [cfg, e, lets_nil]
  | (a, x) :: as, D, l, h, q, fuel + 1, P, R, A, s, hN, so, hs, hf => by
    have R' : l (h + 1) < l h := R
    have hh := hs h
    rw [if_pos rfl] at hh
    have hh1 := hs (h + 1)
    rw [if_neg (by (first | assumption | lia | omega))] at hh1
    rw [List.pairwise_cons] at so
    obtain ⟨so1, so2⟩ := so
    simp only [List.map_cons] at A s
    have A1 := A.1
    have A2 := A.2
    have hp := pass_rem P R A1
    have PA := part_ad P A1
    simp only [List.length_cons] at hf
    by_cases ha : a = h
    · subst ha
      have ep : pass l a a = (a, a) := pass_ne (by (first | assumption | lia | omega))
      have hrow : (mk N (cfg mu D a q ((a, x) :: as))).getD a [] = (List.replicate (mu a) 32 ++ lets D a) ++ ([q] ++ (x :: lets as a)) := by
        rw [mk_get hN]; simp [cfg, lets_cons_eq]
      have hright : slRight (mk N (cfg mu D a q ((a, x) :: as))) a (mu a + (lets D a).length) = [x] := by
        unfold slRight
        rw [hrow, ← List.append_assoc, drop_len _ _ _ (by simp; (first | assumption | lia | omega))]; rfl
      have hup : slUp (mk N (cfg mu D a q ((a, x) :: as))) a (mu a + (lets D a).length) = false := by
        unfold slUp
        rw [hright]
        cases hb : slBelow (mk N (cfg mu D a q ((a, x) :: as))) a (mu a + (lets D a).length) with
        | nil => rfl
        | cons y ys =>
          have hys : ys = [] := by
            unfold slBelow at hb
            have := congrArg List.length hb
            simp only [List.length_take, List.length_cons] at this
            exact List.length_eq_zero_iff.mp (by (first | assumption | lia | omega))
          subst hys
          have hy : y ∈ lets as (a + 1) := by
            unfold slBelow at hb
            rcases Nat.lt_or_ge (a + 1) N with w | w
            · rw [mk_get w] at hb
              have e2 : cfg mu D a q ((a, x) :: as) (a + 1) = (List.replicate (mu (a + 1)) 32 ++ lets D (a + 1)) ++ lets as (a + 1) := by
                simp [cfg, lets_cons_ne x as (show a + 1 ≠ a by (first | assumption | lia | omega))]
              rw [e2, List.drop_append, List.drop_eq_nil_of_le (as := List.replicate (mu (a + 1)) 32 ++ lets D (a + 1)) (by simp; (first | assumption | lia | omega)), List.nil_append] at hb
              have hm : y ∈ (lets as (a + 1)).drop (mu a + (lets D a).length - (List.replicate (mu (a + 1)) 32 ++ lets D (a + 1)).length) := List.mem_of_mem_take (by rw [hb]; simp)
              exact List.mem_of_mem_drop hm
            · rw [mk_get' w] at hb; simp at hb
          have := so1 _ (lets_mem hy)
          have hxy : x < y := by
            rcases this with w | w
            · exact w
            · simp only at w; (first | assumption | lia | omega)
          simp [collM_gt hxy]
      simp only [slLoop]
      rw [if_neg (by rw [hright]; simp), hup, if_neg (by simp)]
      have hput : slPut (mk N (cfg mu D a q ((a, x) :: as))) a (mu a + (lets D a).length) = mk N (cfg mu (D ++ [(a, x)]) a x as) := by
        unfold slPut
        rw [hup, hright, hrow, take_len _ _ _ (by simp), ← List.append_assoc, drop_len _ _ _ (by simp; (first | assumption | lia | omega)), mk_set hN]
        refine mk_congr fun i _ => ?_
        by_cases e : i = a
        · subst e; rw [if_pos rfl]; simp [cfg, lets_snoc_eq]
        · rw [if_neg e]; simp [cfg, e, lets_snoc_ne x D e, lets_cons_ne x as e]
      rw [hput]
      rw [ep] at hp
      have ih := slLoop_eq N mu as (D ++ [(a, x)]) (ad l a) a x fuel PA hp A2 s hN so2 (fun i => ?_) (by (first | assumption | lia | omega))
      · rw [lets_snoc_eq, List.length_append, ← Nat.add_assoc] at ih
        simp only [List.length_cons, List.length_nil, Nat.zero_add] at ih
        rw [ih]
        simp only [slideE, ep]
        simp
      · have := hs i
        simp only [ad]
        by_cases e : i = a
        · subst e; rw [if_pos rfl, if_pos rfl, lets_snoc_eq]; rw [if_pos rfl] at this; simp; (first | assumption | lia | omega)
        · rw [if_neg e, if_neg e, lets_snoc_ne x D e]; rw [if_neg e] at this; exact this
    · by_cases hc : a = h + 1 ∧ l (h + 1) + 1 = l h
      · obtain ⟨rfl, hc⟩ := hc
        have ep : pass l h (h + 1) = (h, h + 1) := pass_hit hc
        have hN1 : h + 1 < N := by
          rcases Nat.lt_or_ge (h + 1) N with w | w
          · exact w
          · have := s (h + 1) w
            have m : ∀ (bs : List Nat) (k : Sh) i, k i ≤ adds k bs i := by
              intro bs
              induction bs with
              | nil => exact fun k i => Nat.le_refl _
              | cons b bs ih => exact fun k i => Nat.le_trans (by simp only [ad]; split <;> (first | assumption | lia | omega)) (ih (ad k b) i)
            have := m (as.map (·.1)) (ad l (h + 1)) (h + 1)
            simp only [adds] at *
            simp only [ad, if_true] at this
            (first | assumption | lia | omega)
        have hrow : (mk N (cfg mu D h q ((h + 1, x) :: as))).getD h [] = (List.replicate (mu h) 32 ++ lets D h) ++ ([q] ++ lets as h) := by
          rw [mk_get hN]; simp [cfg, lets_cons_ne x as (show h ≠ h + 1 by (first | assumption | lia | omega))]
        have hbelow : slBelow (mk N (cfg mu D h q ((h + 1, x) :: as))) h (mu h + (lets D h).length) = [x] := by
          unfold slBelow
          rw [mk_get hN1]
          have e2 : cfg mu D h q ((h + 1, x) :: as) (h + 1) = (List.replicate (mu (h + 1)) 32 ++ lets D (h + 1)) ++ (x :: lets as (h + 1)) := by
            simp [cfg, lets_cons_eq]
          rw [e2, drop_len _ _ _ (by simp; (first | assumption | lia | omega))]; rfl
        have hup : slUp (mk N (cfg mu D h q ((h + 1, x) :: as))) h (mu h + (lets D h).length) = true := by
          unfold slUp
          rw [hbelow]
          cases hb : slRight (mk N (cfg mu D h q ((h + 1, x) :: as))) h (mu h + (lets D h).length) with
          | nil => rfl
          | cons y ys =>
            unfold slRight at hb
            have hys : ys = [] := by
              have := congrArg List.length hb
              simp only [List.length_take, List.length_cons] at this
              exact List.length_eq_zero_iff.mp (by (first | assumption | lia | omega))
            subst hys
            rw [hrow, ← List.append_assoc, drop_len _ _ _ (by simp; (first | assumption | lia | omega))] at hb
            have hy : y ∈ lets as h := List.mem_of_mem_take (by rw [hb]; simp)
            have := so1 _ (lets_mem hy)
            have hxy : x ≤ y := by
              rcases this with w | w
              · simp only at w; (first | assumption | lia | omega)
              · simp only at w; (first | assumption | lia | omega)
            simp [collM_le hxy]
        simp only [slLoop]
        rw [if_neg (by rw [hbelow]; simp), hup, if_pos rfl]
        have hput : slPut (mk N (cfg mu D h q ((h + 1, x) :: as))) h (mu h + (lets D h).length) = mk N (cfg mu (D ++ [(h, x)]) (h + 1) x as) := by
          unfold slPut
          rw [hup, if_pos rfl, hbelow, hrow, take_len _ _ _ (by simp), ← List.append_assoc, drop_len _ _ _ (by simp; (first | assumption | lia | omega)), mk_set hN]
          refine mk_congr fun i _ => ?_
          by_cases e : i = h
          · subst e; rw [if_pos rfl]; simp [cfg, lets_snoc_eq]
          · rw [if_neg e]
            by_cases e' : i = h + 1
            · subst e'; simp [cfg, lets_snoc_ne x D e, lets_cons_eq]
            · simp [cfg, e, e', lets_snoc_ne x D e, lets_cons_ne x as e']
        rw [hput]
        rw [ep] at hp
        have ih := slLoop_eq N mu as (D ++ [(h, x)]) (ad l (h + 1)) (h + 1) x fuel PA hp A2 s hN1 so2 (fun i => ?_) (by (first | assumption | lia | omega))
        · rw [lets_snoc_ne x D (show h + 1 ≠ h by (first | assumption | lia | omega)), show mu (h + 1) + (lets D (h + 1)).length = mu h + (lets D h).length by (first | assumption | lia | omega)] at ih
          rw [ih]
          simp only [slideE, ep]
          simp
        · have := hs i
          simp only [ad]
          by_cases e : i = h
          · subst e; rw [if_neg (by (first | assumption | lia | omega)), if_neg (by (first | assumption | lia | omega)), lets_snoc_eq]; rw [if_pos rfl] at this; simp; (first | assumption | lia | omega)
          · rw [lets_snoc_ne x D e]
            rw [if_neg e] at this
            by_cases e' : i = h + 1
            · rw [if_pos e', if_pos e']; (first | assumption | lia | omega)
            · rw [if_neg e', if_neg e']; exact this
      · have ep : pass l h a = (a, h) := by unfold pass; rw [if_neg hc]
        have hcf : mk N (cfg mu D h q ((a, x) :: as)) = mk N (cfg mu (D ++ [(a, x)]) h q as) := by
          refine mk_congr fun i _ => ?_
          by_cases e : i = a
          · subst e; simp [cfg, ha, lets_snoc_eq, lets_cons_eq]
          · simp [cfg, lets_snoc_ne x D e, lets_cons_ne x as e]
        rw [hcf]
        rw [ep] at hp
        have ih := slLoop_eq N mu as (D ++ [(a, x)]) (ad l a) h q (fuel + 1) PA hp A2 s hN so2 (fun i => ?_) (by (first | assumption | lia | omega))
        · rw [lets_snoc_ne x D (fun e => ha e.symm)] at ih
          rw [ih]
          simp only [slideE, ep]
          simp
        · have := hs i
          simp only [ad]
          by_cases e : i = a
          · subst e; rw [if_pos rfl, lets_snoc_eq]; simp; (first | assumption | lia | omega)
          · rw [if_neg e, lets_snoc_ne x D e]; exact this
end Mine
end

/- M9 -/
section
namespace Mine
noncomputable def rowsOf (N : Nat) (mu : Sh) (E : List (Nat × Nat)) : List (List Nat) := mk N (fun i => List.replicate (mu i) 32 ++ lets E i)
structure St (N : Nat) (mu : Sh) (E : List (Nat × Nat)) : Prop where
  part : Part mu
  supp : ∀ i, N ≤ i → mu i = 0
  asupp : ∀ i, N ≤ i → adds mu (E.map (·.1)) i = 0
  ads : Adds mu (E.map (·.1))
  so : E.Pairwise srel
  nb : ∀ e ∈ E, e.2 ≠ 32
  len : E.length ≤ 40
theorem blanks_of (b : Nat) (t : List Nat) (ht : ∀ q ∈ t, q ≠ 32) : blanks (List.replicate b 32 ++ t) = b := by
  unfold blanks
  rw [List.takeWhile_append_of_pos (by simp)]
  cases t with
  | nil => simp
  | cons q t => rw [List.takeWhile_cons_of_neg (by simpa using ht q (by simp))]; simp
theorem St.blanks {N : Nat} {mu : Sh} {E : List (Nat × Nat)} (h : St N mu E) (i : Nat) : blanks ((rowsOf N mu E).getD i []) = mu i := by
  unfold rowsOf
  rcases Nat.lt_or_ge i N with w | w
  · rw [mk_get w]
    exact blanks_of _ _ fun q hq => h.nb _ (lets_mem hq)
  · rw [mk_get' w, h.supp i w]; rfl
noncomputable def crn (N : Nat) (mu : Sh) : List Nat := (List.range N).filter fun i => decide (mu (i + 1) < mu i)
noncomputable def pick (N : Nat) (mu : Sh) (ch : Nat) : Nat := (crn N mu).getD (ch % (crn N mu).length) 0
noncomputable def picks (N : Nat) (mu : Sh) : List Nat → List Nat
  | [] => []
  | ch :: chs => pick N mu ch :: picks N (sb mu (pick N mu ch)) chs
theorem St.corners {N : Nat} {mu : Sh} {E : List (Nat × Nat)} (h : St N mu E) : cornersOf (rowsOf N mu E) = crn N mu := by
  unfold cornersOf crn
  rw [show (rowsOf N mu E).length = N from mk_len _ _]
  refine List.filter_congr fun i _ => ?_
  rw [h.blanks, h.blanks]
theorem slideE_le (x k : Nat) : ∀ (E : List (Nat × Nat)) (l : Sh) (h : Nat), (∀ e ∈ E, e.2 = x → e.1 ≤ k) → ∀ e ∈ (slideE l h E).1, e.2 = x → e.1 ≤ k
  | [], _, _, _, e, he, _ => by cases he
  | (a, y) :: E, l, h, hk, e, he, hx => by
    simp only [slideE] at he
    rcases List.mem_cons.mp he with rfl | he
    · have := hk (a, y) (by simp) hx
      have : (pass l h a).1 ≤ a := by unfold pass; split <;> simp <;> (first | assumption | lia | omega)
      simp only at *
      (first | assumption | lia | omega)
    · exact slideE_le x k E _ _ (fun e he => hk e (by simp [he])) e he hx
theorem slideE_snd {E : List (Nat × Nat)} {l : Sh} {h : Nat} {e : Nat × Nat} (he : e ∈ (slideE l h E).1) : ∃ f ∈ E, f.2 = e.2 := by
  have : e.2 ∈ (slideE l h E).1.map (·.2) := List.mem_map_of_mem he
  rw [(slideE_row E l h).2.2] at this
  obtain ⟨f, h1, h2⟩ := List.mem_map.mp this
  exact ⟨f, h1, h2⟩
theorem slideE_so : ∀ (E : List (Nat × Nat)) (l : Sh) (h : Nat), Part l → Rem l h → Adds l (E.map (·.1)) → E.Pairwise srel → (slideE l h E).1.Pairwise srel
  | [], _, _, _, _, _, _ => by simp [slideE]
  | (a, x) :: E, l, h, P, R, A, so => by
    rw [List.pairwise_cons] at so
    simp only [List.map_cons] at A
    simp only [slideE]
    rw [List.pairwise_cons]
    refine ⟨fun e he => ?_, slideE_so E (ad l a) _ (part_ad P A.1) (pass_rem P R A.1) A.2 so.2⟩
    obtain ⟨f, hf, ef⟩ := slideE_snd he
    have hx : x ≤ e.2 := by
      rcases so.1 f hf with w | w
      · simp only at w; (first | assumption | lia | omega)
      · simp only at w; (first | assumption | lia | omega)
    rcases Nat.lt_or_ge x e.2 with w | w
    · exact .inl w
    · refine .inr ⟨by simp only; (first | assumption | lia | omega), ?_⟩
      simp only
      have hle : ∀ e ∈ E, e.2 = x → e.1 ≤ a := fun f hf ex => by
        rcases so.1 f hf with w | w
        · simp only at w; (first | assumption | lia | omega)
        · exact w.2
      by_cases c : a = h + 1 ∧ l (h + 1) + 1 = l h
      · have ep : pass l h a = (h, h + 1) := by unfold pass; rw [if_pos c]
        rw [ep] at he ⊢
        obtain ⟨rfl, c⟩ := c
        refine slideE_le x h E _ _ (fun g hg gx => ?_) e he (by (first | assumption | lia | omega))
        cases E with
        | nil => cases hg
        | cons b E =>
          have hb : b.2 = x ∧ b.1 ≤ h + 1 := by
            have hb1 := so.1 b (by simp)
            have : b.2 ≤ x := by
              rcases List.mem_cons.mp hg with rfl | hg
              · (first | assumption | lia | omega)
              · have s2 := so.2
                rw [List.pairwise_cons] at s2
                rcases s2.1 g hg with w | w
                · (first | assumption | lia | omega)
                · (first | assumption | lia | omega)
            rcases hb1 with w | w
            · simp only at w; (first | assumption | lia | omega)
            · simp only at w; exact ⟨w.1.symm, w.2⟩
          have hbl : b.1 ≤ h := by
            rcases Nat.lt_or_ge h b.1 with w | w
            · have e1 : b.1 = h + 1 := by (first | assumption | lia | omega)
              have := A.2.1 h e1
              simp only at this
              rw [e1] at this
              simp only [ad] at this
              rw [if_pos trivial, if_neg (by (first | assumption | lia | omega))] at this
              (first | assumption | lia | omega)
            · exact w
          rcases List.mem_cons.mp hg with rfl | hg
          · exact hbl
          · have s2 := so.2
            rw [List.pairwise_cons] at s2
            rcases s2.1 g hg with w | w
            · (first | assumption | lia | omega)
            · have := w.2; (first | assumption | lia | omega)
      · have ep : pass l h a = (a, h) := by unfold pass; rw [if_neg c]
        rw [ep] at he ⊢
        exact slideE_le x a E _ _ hle e he (by (first | assumption | lia | omega))
theorem St.slide {N : Nat} {mu : Sh} {E : List (Nat × Nat)} (h : St N mu E) (hne : crn N mu ≠ []) (ch : Nat) (en : List Nat) :
    Rem mu (pick N mu ch) ∧ pick N mu ch < N ∧ slide (rowsOf N mu E, en) ch = (rowsOf N (sb mu (pick N mu ch)) (slideE mu (pick N mu ch) E).1, en ++ [(slideE mu (pick N mu ch) E).2]) ∧
      St N (sb mu (pick N mu ch)) (slideE mu (pick N mu ch) E).1 := by
  have hm : pick N mu ch ∈ crn N mu := by
    unfold pick
    have hl : ch % (crn N mu).length < (crn N mu).length := Nat.mod_lt _ (List.length_pos_iff.mpr hne)
    rw [List.getD_eq_getElem?_getD, List.getElem?_eq_getElem hl]
    exact List.getElem_mem hl
  generalize hp : pick N mu ch = p at *
  have hR : Rem mu p ∧ p < N := by
    unfold crn at hm
    have := List.mem_filter.mp hm
    exact ⟨by unfold Rem; simpa using this.2, by simpa using this.1⟩
  obtain ⟨R, hN⟩ := hR
  have R' : mu (p + 1) < mu p := R
  have ok := slideRow_ok (E.map (·.1)) h.part R h.ads
  have row := slideE_row E mu p
  refine ⟨R, hN, ?_, ⟨part_sb h.part R, sb_supp h.supp, fun i hi => ?_, ?_, slideE_so E mu p h.part R h.ads h.so, fun e he => ?_, ?_⟩⟩
  · unfold Mine.slide
    simp only
    rw [h.corners, if_neg hne]
    have e1 : (crn N mu).getD (ch % (crn N mu).length) 0 = p := hp
    rw [e1, h.blanks]
    have e2 : rowsOf N mu E = Mine.mk N (cfg (sb mu p) [] p 32 E) := by
      refine mk_congr fun i _ => ?_
      by_cases e : i = p
      · subst e
        obtain ⟨m, hm⟩ : ∃ m, mu i = m + 1 := ⟨mu i - 1, by (first | assumption | lia | omega)⟩
        simp only [cfg, sb, if_true, lets_nil, List.append_nil]
        rw [hm, Nat.add_sub_cancel, List.replicate_succ', List.append_assoc]
      · simp [cfg, sb, e, lets_nil]
    have key := slLoop_eq N (sb mu p) E [] mu p 32 100 h.part R h.ads h.asupp hN h.so (fun i => ?_) (by have := h.len; (first | assumption | lia | omega))
    · rw [lets_nil, List.length_nil, Nat.add_zero, sb_eq] at key
      rw [e2, key]
      simp [rowsOf]
    · rw [lets_nil]
      by_cases e : i = p
      · subst e; rw [if_pos rfl, sb_eq]; simp; (first | assumption | lia | omega)
      · rw [if_neg e, sb_ne e]; simp
  · rw [row.1, ← ok.2.2]
    exact sb_supp h.asupp i hi
  · rw [row.1]; exact ok.1
  · obtain ⟨f, h1, h2⟩ := slideE_snd he
    rw [← h2]; exact h.nb f h1
  · have := congrArg List.length row.2.2
    simp only [List.length_map] at this
    rw [this]; exact h.len
end Mine
end

/- M10 -/
section
namespace Mine
theorem sb_le (l : Sh) (h i : Nat) : sb l h i ≤ l i := by
  unfold sb; split <;> (first | assumption | lia | omega)
theorem slideE_len (E : List (Nat × Nat)) (l : Sh) (h : Nat) : (slideE l h E).1.length = E.length := by
  have := congrArg List.length (slideE_row E l h).2.2
  simpa using this
theorem lets_len (E : List (Nat × Nat)) (i : Nat) : (lets E i).length = (E.map (·.1)).count i := by
  induction E with
  | nil => rfl
  | cons e E ih =>
    obtain ⟨a, x⟩ := e
    by_cases c : i = a
    · subst c; rw [lets_cons_eq]; simp [ih]
    · rw [lets_cons_ne x E c, ih, List.map_cons, List.count_cons_of_ne (fun q => c q.symm)]
theorem lets_le (E : List (Nat × Nat)) (i : Nat) : (lets E i).length ≤ E.length := by
  rw [lets_len]
  have := List.count_le_length (a := i) (l := E.map (·.1))
  simpa using this
theorem crn_ne {N : Nat} {mu : Sh} (P : Part mu) (s : ∀ i, N ≤ i → mu i = 0) (h : 0 < size mu N) : crn N mu ≠ [] := by
  obtain ⟨k, r⟩ := exists_rem P s h
  have := rem_lt P s r
  intro q
  have hm : k ∈ crn N mu := by
    unfold crn
    rw [List.mem_filter]
    exact ⟨by simpa using this, by unfold Rem at r; simpa using r⟩
  rw [q] at hm
  cases hm
theorem fold_slide {N : Nat} (h7 : N ≤ 7) : ∀ (chs : List Nat) (mu : Sh) (E : List (Nat × Nat)) (en : List Nat), St N mu E → (∀ i, mu i ≤ 7) → E.length ≤ 7 → en.length + chs.length ≤ 1000 → chs.length ≤ size mu N →
    Rems mu (picks N mu chs) ∧ SlsOk (rowsOf N mu E, en) chs ∧ ∃ E' mu', chs.foldl slide (rowsOf N mu E, en) = (rowsOf N mu' E', en ++ (run mu (picks N mu chs) (E.map (·.1))).2) ∧
      E'.map (·.1) = (run mu (picks N mu chs) (E.map (·.1))).1 ∧ size mu' N + chs.length = size mu N
  | [], mu, E, en, _, _, _, _, _ => ⟨trivial, trivial, E, mu, by simp [picks, run], rfl, rfl⟩
  | ch :: chs, mu, E, en, h, h1, h2, h3, h4 => by
    simp only [List.length_cons] at h3 h4
    obtain ⟨R, hN, e, h'⟩ := h.slide (crn_ne h.part h.supp (by (first | assumption | lia | omega))) ch en
    have sz := size_sb (l := mu) (h := pick N mu ch) (by unfold Rem at R; (first | assumption | lia | omega)) N hN
    have ih := fold_slide h7 chs _ _ (en ++ [(slideE mu (pick N mu ch) E).2]) h' (fun i => Nat.le_trans (sb_le _ _ _) (h1 i)) (by rw [slideE_len]; exact h2) (by simp; (first | assumption | lia | omega)) (by (first | assumption | lia | omega))
    have row := slideE_row E mu (pick N mu ch)
    rw [row.1] at ih
    obtain ⟨i1, i2, E', mu', i3, i4, i5⟩ := ih
    refine ⟨⟨R, i1⟩, ⟨⟨fun r hr => ?_, ?_, ?_⟩, ?_⟩, E', mu', ?_, i4, ?_⟩
    · unfold rowsOf mk at hr
      obtain ⟨i, _, rfl⟩ := List.mem_map.mp hr
      refine ⟨mu i, lets E i, rfl, fun q hq => h.nb _ (lets_mem hq), ?_⟩
      have := lets_le E i
      have := h1 i
      simp
      (first | assumption | lia | omega)
    · unfold rowsOf
      simp only [mk_len]
      (first | assumption | lia | omega)
    · simp only; (first | assumption | lia | omega)
    · rw [e]; exact i2
    · rw [List.foldl_cons, e, i3, row.2.1]
      simp [run, picks]
    · simp only [List.length_cons]; (first | assumption | lia | omega)
theorem rows_len {N : Nat} {mu : Sh} {E : List (Nat × Nat)} (h : size mu N = 0) : (rowsOf N mu E).map List.length = (List.range N).map fun i => (E.map (·.1)).count i := by
  unfold rowsOf mk
  rw [List.map_map]
  refine List.map_congr_left fun i hi => ?_
  have := size_zero N h i (by simpa using hi)
  simp only [Function.comp]
  rw [this, ← lets_len]
  simp
end Mine
end

/- M11 -/
section
namespace Mine
noncomputable def sle (e f : Nat × Nat) : Bool := decide (e.2 < f.2) || (decide (e.2 = f.2) && decide (f.1 ≤ e.1))
theorem sle_iff (e f : Nat × Nat) : sle e f = true ↔ srel e f := by
  unfold sle srel; simp
noncomputable def base (W : List Nat) : List (Nat × Nat) := (List.range W.length).map fun m => (m, W.getD (W.length - 1 - m) 0)
noncomputable def ents (W : List Nat) : List (Nat × Nat) := (base W).mergeSort sle
theorem ents_perm (W : List Nat) : (ents W).Perm (base W) := List.mergeSort_perm _ _
theorem ents_so (W : List Nat) : (ents W).Pairwise srel := by
  have := List.pairwise_mergeSort (le := sle) (fun a b c h1 h2 => by rw [sle_iff] at *; unfold srel at *; (first | assumption | omega)) (fun a b => by
    rw [Bool.or_eq_true, sle_iff, sle_iff]; unfold srel; (first | assumption | omega)) (base W)
  exact this.imp fun h => (sle_iff _ _).mp h
theorem ents_len (W : List Nat) : (ents W).length = W.length := by rw [(ents_perm W).length_eq]; simp [base]
theorem ents_nodup (W : List Nat) : ((ents W).map (·.1)).Nodup := by
  have := (ents_perm W).map (·.1)
  rw [this.nodup_iff]
  have : (base W).map (·.1) = List.range W.length := by unfold base; rw [List.map_map]; exact List.map_id _
  rw [this]; exact List.nodup_range
theorem ents_lt {W : List Nat} {e : Nat × Nat} (h : e ∈ ents W) : e.1 < W.length ∧ e.2 = W.getD (W.length - 1 - e.1) 0 := by
  have := (ents_perm W).mem_iff.mp h
  unfold base at this
  obtain ⟨m, hm, rfl⟩ := List.mem_map.mp this
  exact ⟨by simpa using hm, rfl⟩
theorem lets_perm {E F : List (Nat × Nat)} (h : E.Perm F) (i : Nat) : (lets E i).Perm (lets F i) := (h.filter _).map _
theorem range_one (i : Nat) : ∀ n, i < n → (List.range n).filter (fun m => m == i) = [i]
  | 0, h => by (first | assumption | omega)
  | n + 1, hi => by
    rw [List.range_succ, List.filter_append]
    by_cases c : i = n
    · subst c
      have : (List.range i).filter (fun m => m == i) = [] := List.filter_eq_nil_iff.mpr fun p hp => by
        have := List.mem_range.mp hp; simp; (first | assumption | omega)
      rw [this]; simp
    · rw [range_one i n (by (first | assumption | omega))]
      have : ¬ n = i := fun q => c q.symm
      simp [this]
theorem lets_base (W : List Nat) (i : Nat) (hi : i < W.length) : lets (base W) i = [W.getD (W.length - 1 - i) 0] := by
  unfold lets base
  rw [List.filter_map, List.map_map]
  have : (List.range W.length).filter ((fun e : Nat × Nat => e.1 == i) ∘ fun m => (m, W.getD (W.length - 1 - m) 0)) = [i] := range_one _ _ hi
  rw [this]; rfl
theorem lets_ents (W : List Nat) (i : Nat) (hi : i < W.length) : lets (ents W) i = [W.getD (W.length - 1 - i) 0] := by
  have := lets_perm (ents_perm W) i
  rw [lets_base W i hi] at this
  exact List.perm_singleton.mp this
theorem init_rows (W : List Nat) : rowsOf W.length (stair W.length) (ents W) = initRows W := by
  unfold rowsOf initRows mk
  refine List.map_congr_left fun i hi => ?_
  rw [lets_ents W i (by simpa using hi)]
  rfl
noncomputable def uof (n : Nat) (E : List (Nat × Nat)) : List (Option Nat) := (List.range n).map fun k => (lets E (n - 1 - k)).head?
theorem uof_ents (W : List Nat) : uof W.length (ents W) = W.map some := by
  unfold uof
  apply List.ext_getElem
  · simp
  · intro k h1 h2
    simp only [List.length_map, List.length_range] at h1 h2
    simp only [List.getElem_map, List.getElem_range]
    rw [lets_ents W _ (by (first | assumption | omega)), show W.length - 1 - (W.length - 1 - k) = k by (first | assumption | omega), List.getD_eq_getElem?_getD, List.getElem?_eq_getElem h1]
    rfl
theorem range_split (m n : Nat) (h : m < n) : List.range n = List.range m ++ m :: (List.range (n - 1 - m)).map (m + 1 + ·) := by
  have e : n = m + (1 + (n - 1 - m)) := by (first | assumption | omega)
  conv => lhs; rw [e, List.range_add, List.range_add]
  simp [Nat.add_assoc]
theorem uof_split (n m : Nat) (E : List (Nat × Nat)) (hm : m < n) : uof n E = (List.range (n - 1 - m)).map (fun k => (lets E (n - 1 - k)).head?) ++ (lets E m).head? :: (List.range m).map (fun k => (lets E (m - 1 - k)).head?) := by
  unfold uof
  rw [range_split (n - 1 - m) n (by (first | assumption | omega)), List.map_append, List.map_cons, show n - 1 - (n - 1 - m) = m by (first | assumption | omega), List.map_map]
  congr 2
  refine List.map_congr_left fun k _ => ?_
  simp only [Function.comp]
  rw [show n - 1 - (n - 1 - m + 1 + k) = m - 1 - k by (first | assumption | omega)]
theorem fill_of (n : Nat) : ∀ (k : Nat) (E : List (Nat × Nat)), E.length = k → E.Pairwise srel → (E.map (·.1)).Nodup → (∀ e ∈ E, e.1 < n) → Fill n (E.map (·.1)) (uof n E)
  | 0, E, hl, _, _, _ => by
    have : E = [] := List.length_eq_zero_iff.mp hl
    subst this
    have : uof n [] = List.replicate n none := by
      apply List.ext_getElem
      · simp [uof]
      · intro k h1 h2; simp [uof, lets_nil]
    rw [this]; exact .nil
  | k + 1, E, hl, so, nd, hb => by
    obtain ⟨D, ⟨m, z⟩, rfl⟩ : ∃ D e, E = D ++ [e] := by
      have hne : E ≠ [] := fun q => by rw [q] at hl; simp at hl
      exact ⟨E.dropLast, E.getLast hne, (List.dropLast_concat_getLast hne).symm⟩
    rw [List.pairwise_append] at so
    rw [List.map_append, List.nodup_append] at nd
    have hm : m < n := hb (m, z) (by simp)
    have ih := fill_of n k D (by simpa using hl) so.1 nd.1 fun e he => hb e (by simp [he])
    have hnm : lets D m = [] := by
      cases q : lets D m with
      | nil => rfl
      | cons y ys =>
        have : (m, y) ∈ D := lets_mem (by rw [q]; simp)
        exact absurd rfl (nd.2.2 m (List.mem_map.mpr ⟨_, this, rfl⟩) m (by simp))
    rw [uof_split n m _ hm, hnm] at ih
    rw [uof_split n m _ hm, lets_snoc_eq, hnm]
    have e1 : (List.range (n - 1 - m)).map (fun k => (lets (D ++ [(m, z)]) (n - 1 - k)).head?) = (List.range (n - 1 - m)).map (fun k => (lets D (n - 1 - k)).head?) :=
      List.map_congr_left fun k hk => by rw [lets_snoc_ne z D (by have := List.mem_range.mp hk; (first | assumption | omega))]
    have e2 : (List.range m).map (fun k => (lets (D ++ [(m, z)]) (m - 1 - k)).head?) = (List.range m).map (fun k => (lets D (m - 1 - k)).head?) :=
      List.map_congr_left fun k hk => by rw [lets_snoc_ne z D (by have := List.mem_range.mp hk; (first | assumption | omega))]
    rw [e1, e2, List.map_append]
    have key := Fill.snoc (z := z) ih (fun x hx => ?_) (fun x hx => ?_)
    · simpa using key
    · obtain ⟨k, hk, e⟩ := List.mem_map.mp hx
      have hme := lets_mem (List.mem_of_mem_head? e)
      have := so.2.2 _ hme (m, z) (by simp)
      unfold srel at this
      simp only at this
      (first | assumption | omega)
    · obtain ⟨k, hk, e⟩ := List.mem_map.mp hx
      have hme := lets_mem (List.mem_of_mem_head? e)
      have := so.2.2 _ hme (m, z) (by simp)
      have := List.mem_range.mp hk
      unfold srel at *
      simp only at *
      (first | assumption | omega)
theorem fill_word (W : List Nat) : Fill W.length ((ents W).map (·.1)) (W.map some) := by
  have := fill_of W.length _ (ents W) rfl (ents_so W) (ents_nodup W) fun e he => (ents_lt he).1
  rw [uof_ents] at this
  exact this
end Mine
end

/- M12 -/
section
namespace Mine
theorem insertP_cons (r : List Nat) (rs : List (List Nat)) (x : Nat) : insertP (r :: rs) x =
    if r ≠ [] ∧ x < r.getLastD 0 then
      ((r.take (r.filter (· ≤ x)).length ++ [x] ++ r.drop ((r.filter (· ≤ x)).length + 1)) :: (insertP rs (r.getD (r.filter (· ≤ x)).length 0)).1, (insertP rs (r.getD (r.filter (· ≤ x)).length 0)).2 + 1)
    else ((r ++ [x]) :: rs, 0) := by
  unfold insertP
  simp only [bump]
  split
  · simp only [List.cons_append, List.length_cons]
  · simp
theorem insertP_ins (k : Nat) : ∀ (rows : List (List Nat)) (x : Nat), ∃ k', k ≤ k' ∧ insertP (rows ++ List.replicate (k + 1) []) x = ((ins rows x).1 ++ List.replicate k' [], (ins rows x).2)
  | [], x => by
    refine ⟨k, Nat.le_refl _, ?_⟩
    rw [List.nil_append, List.replicate_succ, insertP_cons, if_neg (by simp)]
    rfl
  | r :: rs, x => by
    rw [List.cons_append, insertP_cons]
    simp only [ins]
    split
    · obtain ⟨k', h, e⟩ := insertP_ins k rs (r.getD (r.filter (· ≤ x)).length 0)
      exact ⟨k', h, by rw [e]; simp⟩
    · exact ⟨k + 1, by (first | assumption | lia | omega), by simp⟩
theorem growthGo_gro : ∀ (xs : List Nat) (rows : List (List Nat)) (k : Nat), xs.length ≤ k → gro rows (xs.map some) = (growthGo (rows ++ List.replicate k []) xs).map some
  | [], _, _, _ => rfl
  | x :: xs, rows, k, h => by
    simp only [List.length_cons] at h
    obtain ⟨j, rfl⟩ : ∃ j, k = j + 1 := ⟨k - 1, by (first | assumption | lia | omega)⟩
    obtain ⟨k', h', e⟩ := insertP_ins j rows x
    simp only [List.map_cons, gro, growthGo]
    rw [e]
    simp only
    rw [growthGo_gro xs _ k' (by (first | assumption | lia | omega))]
theorem growth_gro (W : List Nat) : gro [] (W.map some) = (growthP W).map some := by
  unfold growthP
  rw [growthGo_gro W [] W.length (Nat.le_refl _)]
  rfl
theorem growthGo_len : ∀ (xs : List Nat) (rows : List (List Nat)), (growthGo rows xs).length = xs.length
  | [], _ => rfl
  | x :: xs, rows => by simp [growthGo, growthGo_len xs]
theorem growth_len (W : List Nat) : (growthP W).length = W.length := growthGo_len _ _
theorem count_map_some (l : List Nat) (i : Nat) : (l.map some).count (some i) = l.count i := by
  induction l with
  | nil => rfl
  | cons a l ih =>
    rw [List.map_cons, count_some, ih, List.count_cons]
    unfold dl
    by_cases e : i = a
    · subst e; simp
    · rw [if_neg e, if_neg (by simpa using fun q => e q.symm)]
/-- the lattice words -/
noncomputable def lat (w : List Nat) (r : Nat) : Prop := r = 0 ∨ w.count r < w.count (r - 1)
noncomputable def Lat : List Nat → List Nat → Prop
  | _, [] => True
  | w, r :: rs => lat w r ∧ Lat (w ++ [r]) rs
theorem val_lat : ∀ (gs w : List Nat) (A : Sh), (∀ i, A (gs.length + i) = w.count i) → Val A (gs.map some) → Lat w gs
  | [], _, _, _, _ => trivial
  | r :: gs, w, A, h, v => by
    obtain ⟨v1, v2⟩ := v
    simp only [List.length_cons, List.length_map] at h v1 v2
    refine ⟨?_, val_lat gs (w ++ [r]) _ (fun i => ?_) v2⟩
    · unfold lat
      by_cases e : r = 0
      · exact .inl e
      · have := v1 r rfl
        have e1 := h r
        have e2 := h (r - 1)
        rw [show gs.length + 1 + r = gs.length + r + 1 by (first | assumption | lia | omega)] at e1
        rw [show gs.length + 1 + (r - 1) = gs.length + r by (first | assumption | lia | omega)] at e2
        rw [e1, e2] at this
        exact .inr this
    · unfold next
      rw [if_neg (by (first | assumption | lia | omega)), show gs.length + i - gs.length = i by (first | assumption | lia | omega), show gs.length + i + 1 = gs.length + 1 + i by (first | assumption | lia | omega), h i, List.count_append]
      simp only [Option.some.injEq, List.count_cons, List.count_nil]
      congr 1
      by_cases e : r = i
      · subst e; simp
      · simp [e]
theorem growth_lat {W : List Nat} (R : Rems (stair W.length) (S0 W.length)) : Lat [] (growthP W) := by
  have k := (fill_word W).ok R
  have v := k.val
  rw [growth_gro, fill_shape R (fill_word W)] at v
  refine val_lat _ _ _ (fun i => ?_) v
  rw [growth_len]
  show (if W.length + i < W.length then _ else 0) = _
  rw [if_neg (by (first | assumption | lia | omega))]
  simp
end Mine
end

/- M13 -/
section
namespace Mine
/- evaluators for the check of the partner: the same functions, by plain recursors -/
noncomputable def cF (x : Nat) (r : List Nat) : Nat := @List.rec Nat (fun _ => Nat) 0 (fun a _ ih => @Bool.rec (fun _ => Nat) ih (Nat.succ ih) (Nat.ble a x)) r
noncomputable def bF (x : Nat) (r : List Nat) : Nat := @List.rec Nat (fun _ => Nat) 0 (fun a _ ih => @Bool.rec (fun _ => Nat) ih (Nat.succ ih) (Nat.ble (Nat.succ a) x)) r
noncomputable def nF (x : Nat) (r : List Nat) : Nat := @List.rec Nat (fun _ => Nat) 0 (fun a _ ih => @Bool.rec (fun _ => Nat) ih (Nat.succ ih) (Nat.beq a x)) r
noncomputable def gF (r : List Nat) : Nat → Nat := @List.rec Nat (fun _ => Nat → Nat) (fun _ => 0) (fun a _ ih c => @Bool.rec (fun _ => Nat) (ih (Nat.pred c)) a (Nat.beq c 0)) r
noncomputable def uF (x : Nat) (r : List Nat) : Nat → List Nat := @List.rec Nat (fun _ => Nat → List Nat) (fun _ => [x]) (fun a t ih c => @Bool.rec (fun _ => List Nat) (a :: ih (Nat.pred c)) (x :: t) (Nat.beq c 0)) r
noncomputable def lF (r : List Nat) : Nat → Nat := @List.rec Nat (fun _ => Nat → Nat) (fun d => d) (fun a _ ih _ => ih a) r
noncomputable def aF (x : Nat) (r : List Nat) : List Nat := @List.rec Nat (fun _ => List Nat) [x] (fun a _ ih => a :: ih) r
noncomputable def insF (rows : List (List Nat)) : Nat → List (List Nat) × Nat :=
  @List.rec (List Nat) (fun _ => Nat → List (List Nat) × Nat) (fun x => ([[x]], 0)) (fun r rs ih x => @Bool.rec (fun _ => List (List Nat) × Nat) (aF x r :: rs, 0)
    (@Prod.rec (List (List Nat)) Nat (fun _ => List (List Nat) × Nat) (fun a b => (uF x r (cF x r) :: a, Nat.succ b)) (ih (gF r (cF x r)))) (Nat.ble (Nat.succ x) (lF r 0))) rows
noncomputable def eqF (y : List Nat) : List (List Nat) → List Nat → Bool :=
  @List.rec Nat (fun _ => List (List Nat) → List Nat → Bool) (fun _ g => @List.rec Nat (fun _ => Bool) true (fun _ _ _ => false) g) (fun x _ ih rows g => @List.rec Nat (fun _ => Bool) false (fun k g' _ =>
     @Prod.rec (List (List Nat)) Nat (fun _ => Bool) (fun a b => @Bool.rec (fun _ => Bool) false (ih a g') (Nat.beq b k)) (insF rows x)) g) y
noncomputable def rowF (rows : List (List Nat)) : Nat → List Nat := @List.rec (List Nat) (fun _ => Nat → List Nat) (fun _ => []) (fun a _ ih c => @Bool.rec (fun _ => List Nat) (ih (Nat.pred c)) a (Nat.beq c 0)) rows
noncomputable def setF (r : List Nat) (rows : List (List Nat)) : Nat → List (List Nat) := @List.rec (List Nat) (fun _ => Nat → List (List Nat)) (fun _ => []) (fun a t ih c => @Bool.rec (fun _ => List (List Nat)) (a :: ih (Nat.pred c)) (r :: t) (Nat.beq c 0)) rows
noncomputable def dF (r : List Nat) : List Nat := @List.rec Nat (fun _ => List Nat) [] (fun a t ih => @List.rec Nat (fun _ => List Nat) [] (fun _ _ _ => a :: ih) t) r
noncomputable def unF (i : Nat) : List (List Nat) → Nat → Option (List (List Nat) × Nat) :=
  @Nat.rec (fun _ => List (List Nat) → Nat → Option (List (List Nat) × Nat)) (fun rows x => some (rows, x)) (fun i ih rows x =>
    @Bool.rec (fun _ => Option (List (List Nat) × Nat)) (ih (setF (uF x (rowF rows i) (Nat.pred (bF x (rowF rows i)))) rows i) (gF (rowF rows i) (Nat.pred (bF x (rowF rows i))))) none (Nat.beq (bF x (rowF rows i)) 0)) i
noncomputable def ptF (gs : List Nat) : List (List Nat) → List Nat → Option (List Nat) :=
  @List.rec Nat (fun _ => List (List Nat) → List Nat → Option (List Nat)) (fun _ w => some w) (fun k _ ih rows w => @List.rec Nat (fun _ => Option (List Nat)) none (fun _ _ _ =>
    @Option.rec (List (List Nat) × Nat) (fun _ => Option (List Nat)) none (fun p => @Prod.rec (List (List Nat)) Nat (fun _ => Option (List Nat)) (fun a b => ih a (b :: w)) p) (unF k (setF (dF (rowF rows k)) rows k) (lF (rowF rows k) 0))) (rowF rows k)) gs
noncomputable def repF (x n : Nat) : List Nat := @Nat.rec (fun _ => List Nat) [] (fun _ ih => x :: ih) n
/-- the table of a growth, w the growth turned -/
noncomputable def tabF (w : List Nat) (n : Nat) : Nat → List (List Nat) := @Nat.rec (fun _ => Nat → List (List Nat)) (fun _ => []) (fun _ ih i => repF (Nat.add 48 i) (nF i w) :: ih (Nat.succ i)) n
noncomputable def lenF (w : List Nat) : Nat := @List.rec Nat (fun _ => Nat) 0 (fun _ _ ih => Nat.succ ih) w
noncomputable def revF (w : List Nat) : List Nat → List Nat := @List.rec Nat (fun _ => List Nat → List Nat) (fun g => g) (fun a _ ih g => ih (a :: g)) w
noncomputable def neF (y : List Nat) : Bool := @List.rec Nat (fun _ => Bool) true (fun a _ ih => @Bool.rec (fun _ => Bool) ih false (Nat.beq a 32)) y
noncomputable def testF (w : List Nat) : Bool := @Option.rec (List Nat) (fun _ => Bool) false (fun y => @Bool.rec (fun _ => Bool) false (eqF y [] (revF w [])) (neF y)) (ptF w (tabF w (lenF w) 0) [])
noncomputable def latF (w : List Nat) (r : Nat) : Bool := @Bool.rec (fun _ => Bool) (Nat.ble (Nat.succ (nF r w)) (nF (Nat.pred r) w)) true (Nat.beq r 0)
noncomputable def allF (f : Nat → Bool) (l : List Nat) : Bool := @List.rec Nat (fun _ => Bool) true (fun a _ ih => @Bool.rec (fun _ => Bool) false ih (f a)) l
noncomputable def chkF (n : Nat) : List Nat → Bool := @Nat.rec (fun _ => List Nat → Bool) testF (fun _ ih w =>
  @Bool.rec (fun _ => Bool) false (allF (fun r => @Bool.rec (fun _ => Bool) true (ih (r :: w)) (latF w r)) [nat_lit 0, nat_lit 1, nat_lit 2, nat_lit 3, nat_lit 4, nat_lit 5, nat_lit 6]) (testF w)) n
theorem cF_eq (x : Nat) : ∀ r, cF x r = (r.filter (· ≤ x)).length
  | [] => rfl
  | a :: r => by
    show @Bool.rec (fun _ => Nat) (cF x r) (Nat.succ (cF x r)) (Nat.ble a x) = _
    rw [cF_eq x r]
    cases h : Nat.ble a x with
    | true => rw [List.filter_cons_of_pos (by simpa using Nat.le_of_ble_eq_true h)]; rfl
    | false => rw [List.filter_cons_of_neg (by simpa using Nat.not_le_of_not_ble_eq_true (by rw [h]; decide))]
theorem bF_eq (x : Nat) : ∀ r, bF x r = (r.filter (· < x)).length
  | [] => rfl
  | a :: r => by
    show @Bool.rec (fun _ => Nat) (bF x r) (Nat.succ (bF x r)) (Nat.ble (Nat.succ a) x) = _
    rw [bF_eq x r]
    cases h : Nat.ble (Nat.succ a) x with
    | true => rw [List.filter_cons_of_pos (p := fun q => decide (q < x)) (decide_eq_true (Nat.le_of_ble_eq_true h : a < x))]; rfl
    | false => rw [List.filter_cons_of_neg (p := fun q => decide (q < x)) (fun q => absurd (Nat.ble_eq_true_of_le (of_decide_eq_true q : a < x)) (by rw [h]; decide))]
theorem nF_eq (x : Nat) : ∀ r, nF x r = r.count x
  | [] => rfl
  | a :: r => by
    show @Bool.rec (fun _ => Nat) (nF x r) (Nat.succ (nF x r)) (Nat.beq a x) = _
    rw [nF_eq x r]
    cases h : Nat.beq a x with
    | true => rw [Nat.eq_of_beq_eq_true h, List.count_cons_self]
    | false => rw [List.count_cons_of_ne (Nat.ne_of_beq_eq_false h)]
theorem gF_eq : ∀ (r : List Nat) (c : Nat), gF r c = r.getD c 0
  | [], _ => rfl
  | _ :: _, 0 => rfl
  | _ :: r, c + 1 => gF_eq r c
theorem uF_eq (x : Nat) : ∀ (r : List Nat) (c : Nat), c ≤ r.length → uF x r c = r.take c ++ [x] ++ r.drop (c + 1)
  | [], 0, _ => rfl
  | _ :: _, 0, _ => rfl
  | [], c + 1, h => absurd h (Nat.not_succ_le_zero c)
  | a :: r, c + 1, h => congrArg (a :: ·) (uF_eq x r c (Nat.le_of_succ_le_succ h))
theorem lF_eq : ∀ (r : List Nat) (d : Nat), lF r d = r.getLastD d
  | [], _ => rfl
  | a :: r, d => (lF_eq r a).trans (by cases r <;> rfl)
theorem aF_eq (x : Nat) : ∀ r, aF x r = r ++ [x]
  | [] => rfl
  | a :: r => congrArg (a :: ·) (aF_eq x r)
theorem insF_eq : ∀ (rows : List (List Nat)) (x : Nat), insF rows x = ins rows x
  | [], _ => rfl
  | r :: rs, x => by
    show @Bool.rec (fun _ => List (List Nat) × Nat) (aF x r :: rs, 0) (@Prod.rec (List (List Nat)) Nat (fun _ => List (List Nat) × Nat) (fun a b => (uF x r (cF x r) :: a, Nat.succ b)) (insF rs (gF r (cF x r)))) (Nat.ble (Nat.succ x) (lF r 0)) = _
    rw [insF_eq rs, cF_eq, gF_eq, lF_eq, aF_eq, uF_eq x r _ (List.length_filter_le _ _)]
    simp only [ins]
    cases h : Nat.ble (Nat.succ x) (r.getLastD 0) with
    | true =>
      have h1 : x < r.getLastD 0 := Nat.le_of_ble_eq_true h
      rw [if_pos ⟨fun q => absurd h1 (by rw [q]; exact Nat.not_lt_zero _), h1⟩]
    | false => rw [if_neg fun q => absurd (Nat.ble_eq_true_of_le q.2) (by rw [h]; decide)]
theorem eqF_gro : ∀ (y : List Nat) (rows : List (List Nat)) (g : List Nat), eqF y rows g = true → gro rows (y.map some) = g.map some
  | [], _, [], _ => rfl
  | [], _, _ :: _, h => nomatch (show false = true from h)
  | _ :: _, _, [], h => nomatch (show false = true from h)
  | x :: y, rows, k :: g, h => by
    have h : @Prod.rec (List (List Nat)) Nat (fun _ => Bool) (fun a b => @Bool.rec (fun _ => Bool) false (eqF y a g) (Nat.beq b k)) (insF rows x) = true := h
    rw [insF_eq] at h
    have h : @Bool.rec (fun _ => Bool) false (eqF y (ins rows x).1 g) (Nat.beq (ins rows x).2 k) = true := h
    cases e : Nat.beq (ins rows x).2 k with
    | false => rw [e] at h; cases h
    | true =>
      rw [e] at h
      simp only [List.map_cons, gro]
      rw [Nat.eq_of_beq_eq_true e, eqF_gro y _ g h]
theorem rowF_eq : ∀ (r : List (List Nat)) (c : Nat), rowF r c = r.getD c []
  | [], _ => rfl
  | _ :: _, 0 => rfl
  | _ :: r, c + 1 => rowF_eq r c
theorem setF_eq (x : List Nat) : ∀ (r : List (List Nat)) (c : Nat), setF x r c = r.set c x
  | [], _ => rfl
  | _ :: _, 0 => rfl
  | a :: r, c + 1 => congrArg (a :: ·) (setF_eq x r c)
theorem dF_eq : ∀ r : List Nat, dF r = r.dropLast
  | [] => rfl
  | [_] => rfl
  | a :: b :: r => congrArg (a :: ·) (dF_eq (b :: r))
theorem unF_eq : ∀ (i : Nat) (rows : List (List Nat)) (x : Nat), unF i rows x = unbump i rows x
  | 0, _, _ => rfl
  | i + 1, rows, x => by
    show @Bool.rec (fun _ => Option (List (List Nat) × Nat)) (unF i (setF (uF x (rowF rows i) (Nat.pred (bF x (rowF rows i)))) rows i) (gF (rowF rows i) (Nat.pred (bF x (rowF rows i))))) none (Nat.beq (bF x (rowF rows i)) 0) = _
    rw [unF_eq i, setF_eq, rowF_eq, gF_eq, bF_eq]
    simp only [unbump]
    have hl : ((rows.getD i []).filter (· < x)).length ≤ (rows.getD i []).length := List.length_filter_le _ _
    cases h : Nat.beq ((rows.getD i []).filter (· < x)).length 0 with
    | true => rw [if_pos (Nat.eq_of_beq_eq_true h)]
    | false =>
      have h0 := Nat.ne_of_beq_eq_false h
      rw [if_neg h0, uF_eq x _ _ (by simp only [Nat.pred_eq_sub_one]; (first | assumption | lia | omega))]
      simp only [Nat.pred_eq_sub_one]
      rw [Nat.sub_add_cancel (Nat.pos_of_ne_zero h0)]
theorem ptF_eq : ∀ (gs : List Nat) (rows : List (List Nat)) (w : List Nat), ptF gs rows w = partnerGo rows gs w
  | [], _, _ => rfl
  | k :: gs, rows, w => by
    show @List.rec Nat (fun _ => Option (List Nat)) none (fun _ _ _ => @Option.rec (List (List Nat) × Nat) (fun _ => Option (List Nat)) none (fun p => @Prod.rec (List (List Nat)) Nat (fun _ => Option (List Nat)) (fun a b => ptF gs a (b :: w)) p) (unF k (setF (dF (rowF rows k)) rows k) (lF (rowF rows k) 0))) (rowF rows k) = _
    rw [unF_eq, setF_eq, dF_eq, rowF_eq, lF_eq]
    simp only [partnerGo, unins]
    cases h : rows.getD k [] with
    | nil => rw [if_pos (.inl rfl)]
    | cons a r =>
      have hk : ¬ rows.length ≤ k := fun q => by
        rw [List.getD_eq_getElem?_getD, List.getElem?_eq_none q] at h; cases h
      rw [if_neg (fun q => q.elim (fun q => nomatch q) hk)]
      cases e : unbump k (rows.set k (a :: r).dropLast) ((a :: r).getLastD 0) with
      | none => rfl
      | some p => exact ptF_eq gs p.1 (p.2 :: w)
theorem repF_eq (x : Nat) : ∀ n, repF x n = List.replicate n x
  | 0 => rfl
  | n + 1 => congrArg (x :: ·) (repF_eq x n)
theorem tabF_eq (w : List Nat) : ∀ n i, tabF w n i = (List.range n).map fun k => List.replicate (w.count (i + k)) (48 + (i + k))
  | 0, _ => rfl
  | n + 1, i => by
    show repF (48 + i) (nF i w) :: tabF w n (i + 1) = _
    rw [tabF_eq w n (i + 1), repF_eq, nF_eq, List.range_succ_eq_map, List.map_cons, List.map_map]
    refine congrArg (List.replicate (w.count (i + 0)) (48 + (i + 0)) :: ·) (List.map_congr_left fun k _ => ?_)
    simp only [Function.comp]
    rw [show i + 1 + k = i + Nat.succ k by (first | assumption | lia | omega)]
theorem lenF_eq : ∀ w, lenF w = w.length
  | [] => rfl
  | _ :: w => congrArg Nat.succ (lenF_eq w)
theorem revF_eq : ∀ w g, revF w g = w.reverse ++ g
  | [], _ => rfl
  | a :: w, g => by
    show revF w (a :: g) = _
    rw [revF_eq w]; simp
theorem neF_ok : ∀ y, neF y = true → ∀ q ∈ y, q ≠ 32
  | [], _, q, hq => nomatch hq
  | a :: y, h, q, hq => by
    have h : @Bool.rec (fun _ => Bool) (neF y) false (Nat.beq a 32) = true := h
    cases e : Nat.beq a 32 with
    | true => rw [e] at h; cases h
    | false =>
      rw [e] at h
      rcases List.mem_cons.mp hq with rfl | hq
      · exact Nat.ne_of_beq_eq_false e
      · exact neF_ok y h q hq
theorem map_some_inj : ∀ {a b : List Nat}, a.map some = b.map some → a = b
  | [], [], _ => rfl
  | [], _ :: _, h => nomatch h
  | _ :: _, [], h => nomatch h
  | _ :: _, _ :: _, h => by
    injection h with h1 h2
    injection h1 with h1
    rw [h1, map_some_inj h2]
theorem testF_ok (g : List Nat) (h : testF g.reverse = true) : ∃ y, partnerP g = some y ∧ (∀ q ∈ y, q ≠ 32) ∧ growthP y = g := by
  have h : @Option.rec (List Nat) (fun _ => Bool) false (fun y => @Bool.rec (fun _ => Bool) false (eqF y [] (revF g.reverse [])) (neF y)) (ptF g.reverse (tabF g.reverse (lenF g.reverse) 0) []) = true := h
  have e : ptF g.reverse (tabF g.reverse (lenF g.reverse) 0) [] = partnerP g := by
    rw [ptF_eq, tabF_eq, lenF_eq, List.length_reverse]
    unfold partnerP
    congr 1
    refine List.map_congr_left fun k _ => ?_
    rw [Nat.zero_add, List.count_reverse]
  rw [e, revF_eq, List.reverse_reverse, List.append_nil] at h
  cases hp : partnerP g with
  | none => rw [hp] at h; cases h
  | some y =>
    rw [hp] at h
    have h : @Bool.rec (fun _ => Bool) false (eqF y [] g) (neF y) = true := h
    cases hn : neF y with
    | false => rw [hn] at h; cases h
    | true =>
      rw [hn] at h
      refine ⟨y, rfl, neF_ok y hn, map_some_inj ?_⟩
      rw [← growth_gro]; exact eqF_gro y [] g h
theorem allF_mem {f : Nat → Bool} : ∀ {l : List Nat}, allF f l = true → ∀ r ∈ l, f r = true
  | [], _, r, hr => nomatch hr
  | a :: l, h, r, hr => by
    have h : @Bool.rec (fun _ => Bool) false (allF f l) (f a) = true := h
    cases e : f a with
    | false => rw [e] at h; cases h
    | true =>
      rw [e] at h
      rcases List.mem_cons.mp hr with rfl | hr
      · exact e
      · exact allF_mem h r hr
theorem latF_of {w : List Nat} {r : Nat} (h : lat w r) : latF w.reverse r = true := by
  show @Bool.rec (fun _ => Bool) (Nat.ble (Nat.succ (nF r w.reverse)) (nF (Nat.pred r) w.reverse)) true (Nat.beq r 0) = true
  cases e : Nat.beq r 0 with
  | true => rfl
  | false =>
    rcases h with h | h
    · exact absurd h (Nat.ne_of_beq_eq_false e)
    · rw [nF_eq, nF_eq, List.count_reverse, List.count_reverse]
      exact Nat.ble_eq_true_of_le h
theorem mem7 : ∀ {r : Nat}, r < 7 → r ∈ [0, 1, 2, 3, 4, 5, 6]
  | 0, _ => by simp
  | 1, _ => by simp
  | 2, _ => by simp
  | 3, _ => by simp
  | 4, _ => by simp
  | 5, _ => by simp
  | 6, _ => by simp
  | k + 7, h => by (first | assumption | lia | omega)
theorem chk_test : ∀ (k : Nat) (w gs : List Nat), chkF k w.reverse = true → gs.length ≤ k → w.length + k ≤ 7 → (∀ q ∈ w, q < w.length) → Lat w gs → testF (w ++ gs).reverse = true
  | 0, w, gs, h, l, _, _, _ => by
    have : gs = [] := List.length_eq_zero_iff.mp (by (first | assumption | lia | omega))
    subst this
    rw [List.append_nil]; exact h
  | k + 1, w, gs, h, l, l7, b, L => by
    have h : @Bool.rec (fun _ => Bool) false (allF (fun r => @Bool.rec (fun _ => Bool) true (chkF k (r :: w.reverse)) (latF w.reverse r)) [0, 1, 2, 3, 4, 5, 6]) (testF w.reverse) = true := h
    cases e : testF w.reverse with
    | false => rw [e] at h; cases h
    | true =>
      rw [e] at h
      cases gs with
      | nil => rw [List.append_nil]; exact e
      | cons r gs =>
        obtain ⟨L1, L2⟩ := L
        have hr : r ≤ w.length := by
          rcases L1 with e | e
          · (first | assumption | lia | omega)
          · have : r - 1 ∈ w := List.count_pos_iff.mp (by (first | assumption | lia | omega))
            have := b _ this
            (first | assumption | lia | omega)
        have hm : r ∈ [0, 1, 2, 3, 4, 5, 6] := by
          exact mem7 (by (first | assumption | lia | omega))
        have h2 := allF_mem h r hm
        rw [latF_of L1] at h2
        have h3 : chkF k (w ++ [r]).reverse = true := by rw [List.reverse_append]; exact h2
        have := chk_test k (w ++ [r]) gs h3 (by simp only [List.length_cons] at l; (first | assumption | lia | omega)) (by simp; (first | assumption | lia | omega)) (fun q hq => ?_) L2
        · simpa using this
        · rw [List.length_append]
          rcases List.mem_append.mp hq with hq | hq
          · have := b q hq; simp; (first | assumption | lia | omega)
          · simp at hq; subst hq; simp; (first | assumption | lia | omega)
theorem chk7 : chkF 7 [] = true := by decide +kernel
theorem partner_ok (g : List Nat) (h : g.length ≤ 7) (L : Lat [] g) : ∃ y, partnerP g = some y ∧ (∀ q ∈ y, q ≠ 32) ∧ growthP y = g :=
  testF_ok g (chk_test 7 [] g chk7 h (Nat.le_refl 7) (fun q hq => nomatch hq) L)
end Mine
end

/- M14 -/
section
namespace Mine
theorem and_one (x k : Nat) : (x &&& 2 ^ k == 2 ^ k) = decide (x / 2 ^ k % 2 = 1) := by
  rw [← Nat.testBit_eq_decide_div_mod_eq, Bool.eq_iff_iff, beq_iff_eq]
  constructor
  · intro h
    have := congrArg (fun t => Nat.testBit t k) h
    simpa using this
  · intro h
    apply Nat.eq_of_testBit_eq
    intro i
    rw [Nat.testBit_and, Nat.testBit_two_pow]
    by_cases e : k = i
    · subst e; simp [h]
    · simp [e]
theorem and_two (x k j : Nat) : (x &&& (2 ^ k ||| 2 ^ j) == (2 ^ k ||| 2 ^ j)) = (decide (x / 2 ^ k % 2 = 1) && decide (x / 2 ^ j % 2 = 1)) := by
  rw [← Nat.testBit_eq_decide_div_mod_eq, ← Nat.testBit_eq_decide_div_mod_eq, Bool.eq_iff_iff, beq_iff_eq, Bool.and_eq_true]
  constructor
  · intro h
    have h1 := congrArg (fun t => Nat.testBit t k) h
    have h2 := congrArg (fun t => Nat.testBit t j) h
    simp at h1 h2
    exact ⟨h1, h2⟩
  · rintro ⟨h1, h2⟩
    apply Nat.eq_of_testBit_eq
    intro i
    rw [Nat.testBit_and, Nat.testBit_or, Nat.testBit_two_pow, Nat.testBit_two_pow]
    by_cases e : k = i
    · subst e; simp [h1]
    · by_cases e' : j = i
      · subst e'; simp [h2]
      · simp [e, e']
theorem and_kind (x : Nat) : x &&& 61440 = x / 4096 % 16 * 4096 := by
  have h1 : (x &&& 61440) / 2 ^ 12 = (x / 2 ^ 12) &&& (61440 / 2 ^ 12) := Nat.and_div_two_pow
  have h2 : (x &&& 61440) % 2 ^ 12 = (x % 2 ^ 12) &&& (61440 % 2 ^ 12) := Nat.and_mod_two_pow
  have h3 : (x / 2 ^ 12) &&& (2 ^ 4 - 1) = (x / 2 ^ 12) % 2 ^ 4 := Nat.and_two_pow_sub_one_eq_mod _ _
  rw [show 61440 / 2 ^ 12 = 2 ^ 4 - 1 by decide, h3] at h1
  rw [show 61440 % 2 ^ 12 = 0 by decide, Nat.and_zero] at h2
  generalize x &&& 61440 = t at *
  (first | assumption | lia | omega)
theorem fm_kind (x : Nat) : fmChar x 0 [(40960, 108), (49152, 115), (32768, 45), (24576, 98), (16384, 100), (8192, 99), (4096, 112)] = kindOfN (x / 4096 % 16) := by
  simp only [fmChar, fmHit, if_true]
  rw [and_kind]
  have h : x / 4096 % 16 < 16 := Nat.mod_lt _ (by decide)
  generalize x / 4096 % 16 = m at *
  match m, h with
  | 0, _ => rfl
  | 1, _ => rfl
  | 2, _ => rfl
  | 3, _ => rfl
  | 4, _ => rfl
  | 5, _ => rfl
  | 6, _ => rfl
  | 7, _ => rfl
  | 8, _ => rfl
  | 9, _ => rfl
  | 10, _ => rfl
  | 11, _ => rfl
  | 12, _ => rfl
  | 13, _ => rfl
  | 14, _ => rfl
  | 15, _ => rfl
  | k + 16, h => exact absurd h (by (first | assumption | lia | omega))
theorem fm_one (x i k q : Nat) (hi : i ≠ 0) : fmChar x i [(2 ^ k, q)] = if x / 2 ^ k % 2 = 1 then q else 45 := by
  simp only [fmChar, fmHit, if_neg hi, and_one]
  by_cases h : x / 2 ^ k % 2 = 1 <;> simp [h]
theorem fm_three (x i k j q1 q2 q3 : Nat) (hi : i ≠ 0) : fmChar x i [(2 ^ k ||| 2 ^ j, q1), (2 ^ k, q2), (2 ^ j, q3)] =
    if x / 2 ^ k % 2 = 1 then [q2, q1].getD (x / 2 ^ j % 2) 0 else if x / 2 ^ j % 2 = 1 then q3 else 45 := by
  simp only [fmChar, fmHit, if_neg hi, and_one, and_two]
  by_cases h : x / 2 ^ k % 2 = 1
  · by_cases h' : x / 2 ^ j % 2 = 1
    · simp [h, h']
    · have : x / 2 ^ j % 2 = 0 := by (first | assumption | lia | omega)
      simp [h, this]
  · by_cases h' : x / 2 ^ j % 2 = 1
    · simp [h, h']
    · simp [h, h']
theorem fm_sign (x : Nat) : (fmAll x)[place x]? = some (signP x) := by
  have hp := place_lt x
  unfold signP
  generalize place x = p at *
  match p, hp with
  | 0, _ => exact congrArg some (fm_kind x)
  | 1, _ => exact congrArg some (fm_one x 1 8 114 (by decide))
  | 2, _ => exact congrArg some (fm_one x 2 7 119 (by decide))
  | 3, _ => exact congrArg some ((fm_three x 3 11 6 115 83 120 (by decide)).trans (by simp))
  | 4, _ => exact congrArg some (fm_one x 4 5 114 (by decide))
  | 5, _ => exact congrArg some (fm_one x 5 4 119 (by decide))
  | 6, _ => exact congrArg some ((fm_three x 6 10 3 115 83 120 (by decide)).trans (by simp))
  | 7, _ => exact congrArg some (fm_one x 7 2 114 (by decide))
  | 8, _ => exact congrArg some (fm_one x 8 1 119 (by decide))
  | 9, _ => exact congrArg some ((fm_three x 9 9 0 116 84 120 (by decide)).trans (by simp))
  | k + 10, h => exact absurd h (by (first | assumption | lia | omega))
theorem sign_ne (x : Nat) : signP x ≠ 32 := by
  unfold signP
  have h1 : x / 2 ^ (9 - place x) % 2 < 2 := Nat.mod_lt _ (by decide)
  have h2 : place x % 3 < 3 := Nat.mod_lt _ (by decide)
  have h3 : x / 4096 % 16 < 16 := Nat.mod_lt _ (by decide)
  generalize x / 2 ^ (9 - place x) % 2 = a at *
  generalize x / 2 ^ (12 - place x / 3) % 2 = b at *
  generalize place x % 3 = c at *
  generalize x / 4096 % 16 = k at *
  split
  · revert k; decide
  · split
    · split
      · revert a; decide
      · revert a; decide
    · split
      · rename_i w _; clear w; revert c; decide
      · decide
end Mine
end

/- M15 -/
section
namespace Mine
noncomputable def remsB : Sh → List Nat → Bool
  | _, [] => true
  | l, h :: S => decide (l (h + 1) < l h) && remsB (sb l h) S
theorem rems_of : ∀ (S : List Nat) (l : Sh), remsB l S = true → Rems l S
  | [], _, _ => trivial
  | h :: S, l, e => by
    simp only [remsB, Bool.and_eq_true, decide_eq_true_eq] at e
    exact ⟨e.1, rems_of S _ e.2⟩
noncomputable def stairB (N : Nat) : Bool := remsB (stair N) (S0 N) && ((S0 N).length == size (stair N) N && size (stair N) N == N * (N - 1) / 2)
set_option maxRecDepth 100000 in
theorem stairs : (List.range 8).all stairB = true := by decide +kernel
theorem stair_ok {N : Nat} (h : N ≤ 7) : Rems (stair N) (S0 N) ∧ (S0 N).length = size (stair N) N ∧ size (stair N) N = N * (N - 1) / 2 := by
  have := List.all_eq_true.mp stairs N (List.mem_range.mpr (by (first | assumption | lia | omega)))
  simp only [stairB, Bool.and_eq_true, beq_iff_eq] at this
  exact ⟨rems_of _ _ this.1, this.2.1, this.2.2⟩
theorem word_ok {n : Nat} (h7 : n ≤ 7) {V chs : List Nat} (hV : V.length = n) (hb : ∀ q ∈ V, q ≠ 32) (hc : chs.length = n * (n - 1) / 2) :
    Rems (stair n) (picks n (stair n) chs) ∧ SlsOk (initRows V, []) chs ∧ (chs.foldl slide (initRows V, [])).2 = (run (stair n) (picks n (stair n) chs) ((ents V).map (·.1))).2 ∧
      (chs.foldl slide (initRows V, [])).1.map List.length = (List.range n).map fun i => (run (stair n) (picks n (stair n) chs) ((ents V).map (·.1))).1.count i := by
  subst hV
  obtain ⟨R, _, sz⟩ := stair_ok h7
  have k := (fill_word V).ok R
  have st : St V.length (stair V.length) (ents V) := by
    refine ⟨stair_part _, fun i hi => ?_, k.supp, k.ads, ents_so V, fun e he => ?_, ?_⟩
    · unfold stair; (first | assumption | lia | omega)
    · have := ents_lt he
      rw [this.2, List.getD_eq_getElem?_getD, List.getElem?_eq_getElem (by (first | assumption | lia | omega))]
      exact hb _ (List.getElem_mem _)
    · rw [ents_len]; (first | assumption | lia | omega)
  have hsz : V.length * (V.length - 1) / 2 ≤ 21 := by
    have : V.length * (V.length - 1) ≤ 7 * 6 := Nat.mul_le_mul h7 (by (first | assumption | lia | omega))
    (first | assumption | lia | omega)
  have f := fold_slide h7 chs _ _ [] st (fun i => by unfold stair; (first | assumption | lia | omega)) (by rw [ents_len]; exact h7) (by simp; (first | assumption | lia | omega)) (by (first | assumption | lia | omega))
  rw [init_rows] at f
  obtain ⟨f1, f2, E', mu', f3, f4, f5⟩ := f
  refine ⟨f1, f2, ?_, ?_⟩
  · rw [f3]; simp
  · rw [f3]
    simp only
    rw [rows_len (by (first | assumption | lia | omega)), f4]
theorem picks_len (N : Nat) : ∀ (chs : List Nat) (mu : Sh), (picks N mu chs).length = chs.length
  | [], _ => rfl
  | _ :: chs, _ => by simp [picks, picks_len N chs]
theorem law_ok (ns : List Int) : ∃ y, LawOk (numsP ns) y := by
  have h7 : (numsP ns).length ≤ 7 := by simp [numsP]; (first | assumption | lia | omega)
  generalize numsP ns = xs at *
  have hW : (xs.map signP).length = xs.length := by simp
  obtain ⟨R, L, sz⟩ := stair_ok h7
  have R' := R
  rw [← hW] at R'
  have gl : (growthP (xs.map signP)).length = xs.length := by rw [growth_len, hW]
  obtain ⟨y, hp, T2, T3⟩ := partner_ok _ (by rw [gl]; exact h7) (growth_lat R')
  have T1 : y.length = xs.length := by rw [← growth_len y, T3, gl]
  have hc : (chsP xs).length = xs.length * (xs.length - 1) / 2 := by simp [chsP]
  have a := word_ok h7 hW (fun q hq => by obtain ⟨x, _, rfl⟩ := List.mem_map.mp hq; exact sign_ne x) hc
  have b := word_ok h7 T1 T2 hc
  have fW := fill_word (xs.map signP)
  have fY := fill_word y
  rw [hW] at fW
  rw [T1] at fY
  have H := haiman R L fW fY (by rw [growth_gro, growth_gro, T3]) a.1 (by rw [picks_len, hc, sz])
  refine ⟨y, ⟨hp, gl, T1, fun x _ => fm_sign x, a.2.1, b.2.1, ?_, ?_⟩⟩
  · rw [a.2.2.1, b.2.2.1, H.1]
  · rw [a.2.2.2]
    refine List.map_congr_left fun i _ => ?_
    rw [H.2 i, growth_gro, count_map_some]
end Mine
end

/- LayA -/
section
open PySem PySem.W PySem.Calls PyProof.Rows
set_option maxRecDepth 100000
namespace Mine

/-- plain data -/
inductive D where
  | none
  | bool (b : Bool)
  | int (i : Int)
  | str (x : List Nat)
  | tup (ds : List D)
  | lst (ds : List D)
  | fn (a : Addr)

/-- a tuple as the machine lays it -/
noncomputable def PT (h : Heap) (a : Addr) (items : Array Value) : Prop := ∃ n, h.get? a = some { cls := .type "tuple", data := .seq items n }
theorem PT.isTuple {h : Heap} {a : Addr} {items : Array Value} (x : PT h a items) : h.IsTuple a items := let ⟨n, e⟩ := x; ⟨_, e, rfl, n, rfl⟩

mutual
inductive Rep (av : List Addr) (h : Heap) : Value → D → Prop
  | none : Rep av h .none .none
  | bool (b : Bool) : Rep av h (.bool b) (.bool b)
  | int (i : Int) (t : Tok) : Rep av h (.int i t) (.int i)
  | str (x : List Nat) (t : Tok) : Rep av h (.str ⟨x.toArray⟩ t) (.str x)
  | tup {a : Addr} {vs : List Value} {ds : List D} : a ∉ av → PT h a vs.toArray → Reps av h vs ds → Rep av h (.ref a) (.tup ds)
  | lst {a : Addr} {vs : List Value} {ds : List D} : a ∉ av → h.PlainList a vs.toArray → Reps av h vs ds → Rep av h (.ref a) (.lst ds)
  | fn (a : Addr) : Rep av h (.ref a) (.fn a)
inductive Reps (av : List Addr) (h : Heap) : List Value → List D → Prop
  | nil : Reps av h [] []
  | cons {v : Value} {vs : List Value} {d : D} {ds : List D} : Rep av h v d → Reps av h vs ds → Reps av h (v :: vs) (d :: ds)
end

mutual
theorem Rep.move {av av' : List Addr} {h h' : Heap} (ha : ∀ a o, a ∉ av → h.get? a = some o → a ∉ av') (hk : ∀ b o, b ∉ av → h.get? b = some o → h'.get? b = some o) :
    ∀ {v : Value} {d : D}, Rep av h v d → Rep av' h' v d
  | _, _, .none => .none
  | _, _, .bool b => .bool b
  | _, _, .int i t => .int i t
  | _, _, .str x t => .str x t
  | _, _, .tup n ⟨o, ho⟩ q => .tup (ha _ _ n ho) ⟨o, hk _ _ n ho⟩ (Reps.move ha hk q)
  | _, _, .lst n ⟨o, ho⟩ q => .lst (ha _ _ n ho) ⟨o, hk _ _ n ho⟩ (Reps.move ha hk q)
  | _, _, .fn a => .fn a
theorem Reps.move {av av' : List Addr} {h h' : Heap} (ha : ∀ a o, a ∉ av → h.get? a = some o → a ∉ av') (hk : ∀ b o, b ∉ av → h.get? b = some o → h'.get? b = some o) :
    ∀ {vs : List Value} {ds : List D}, Reps av h vs ds → Reps av' h' vs ds
  | _, _, .nil => .nil
  | _, _, .cons p q => .cons (Rep.move ha hk p) (Reps.move ha hk q)
end
theorem len1 {α : Type} {vs : List α} (h : vs.length = 1) : ∃ a, vs = [a] := List.length_eq_one_iff.mp h
theorem len2 {α : Type} {vs : List α} (h : vs.length = 2) : ∃ a b, vs = [a, b] := by
  cases vs with
  | nil => cases h
  | cons a vs =>
    obtain ⟨b, e⟩ := len1 (Nat.succ.inj h)
    exact ⟨a, b, by rw [e]⟩
theorem len3 {α : Type} {vs : List α} (h : vs.length = 3) : ∃ a b c, vs = [a, b, c] := by
  cases vs with
  | nil => cases h
  | cons a vs =>
    obtain ⟨b, c, e⟩ := len2 (Nat.succ.inj h)
    exact ⟨a, b, c, by rw [e]⟩
section
variable {av : List Addr} {h : Heap}
theorem Rep.int_cases {n : Int} {motive : (v : Value) → Rep av h v (.int n) → Prop} (int : ∀ t, motive (.int n t) (.int n t)) : ∀ {v : Value} (r : Rep av h v (.int n)), motive v r
  | _, .int _ t => int t
theorem Rep.str_cases {x : List Nat} {motive : (v : Value) → Rep av h v (.str x) → Prop} (str : ∀ t, motive (.str ⟨x.toArray⟩ t) (.str x t)) : ∀ {v : Value} (r : Rep av h v (.str x)), motive v r
  | _, .str _ t => str t
theorem Rep.bool_cases {b : Bool} {motive : (v : Value) → Rep av h v (.bool b) → Prop} (bool : motive (.bool b) (.bool b)) : ∀ {v : Value} (r : Rep av h v (.bool b)), motive v r
  | _, .bool _ => bool
theorem Rep.fn_cases {a : Addr} {motive : (v : Value) → Rep av h v (.fn a) → Prop} (fn : motive (.ref a) (.fn a)) : ∀ {v : Value} (r : Rep av h v (.fn a)), motive v r
  | _, .fn _ => fn
theorem Rep.tup_cases {ds : List D} {motive : (v : Value) → Rep av h v (.tup ds) → Prop} (tup : ∀ {a : Addr} {vs : List Value} (n : a ∉ av) (p : PT h a vs.toArray) (q : Reps av h vs ds), motive (.ref a) (.tup n p q)) :
    ∀ {v : Value} (r : Rep av h v (.tup ds)), motive v r
  | _, .tup n p q => tup n p q
theorem Rep.lst_cases {ds : List D} {motive : (v : Value) → Rep av h v (.lst ds) → Prop} (lst : ∀ {a : Addr} {vs : List Value} (n : a ∉ av) (p : h.PlainList a vs.toArray) (q : Reps av h vs ds), motive (.ref a) (.lst n p q)) :
    ∀ {v : Value} (r : Rep av h v (.lst ds)), motive v r
  | _, .lst n p q => lst n p q
theorem Reps.nil_cases {motive : (vs : List Value) → Reps av h vs [] → Prop} (nil : motive [] .nil) : ∀ {vs : List Value} (r : Reps av h vs []), motive vs r
  | _, .nil => nil
theorem Reps.cons_cases {d : D} {ds : List D} {motive : (vs : List Value) → Reps av h vs (d :: ds) → Prop} (cons : ∀ {v : Value} {vs : List Value} (p : Rep av h v d) (q : Reps av h vs ds), motive (v :: vs) (.cons p q)) :
    ∀ {vs : List Value} (r : Reps av h vs (d :: ds)), motive vs r
  | _, .cons p q => cons p q
end
section
variable {av av' : List Addr} {h h' : Heap} {v : Value} {d : D} {vs ws : List Value} {ds es : List D}
theorem Rep.keep (hk : ∀ b o, h.get? b = some o → h'.get? b = some o) (r : Rep av h v d) : Rep av h' v d := r.move (fun _ _ n _ => n) fun b o _ e => hk b o e
theorem Reps.keep (hk : ∀ b o, h.get? b = some o → h'.get? b = some o) (r : Reps av h vs ds) : Reps av h' vs ds := r.move (fun _ _ n _ => n) fun b o _ e => hk b o e
theorem Rep.keepBut (hk : ∀ b o, b ∉ av → h.get? b = some o → h'.get? b = some o) (r : Rep av h v d) : Rep av h' v d := r.move (fun _ _ n _ => n) hk
theorem Reps.keepBut (hk : ∀ b o, b ∉ av → h.get? b = some o → h'.get? b = some o) (r : Reps av h vs ds) : Reps av h' vs ds := r.move (fun _ _ n _ => n) hk
theorem Rep.weaken (ha : ∀ a ∈ av', a ∈ av) (r : Rep av h v d) : Rep av' h v d := r.move (fun _ _ n _ m => n (ha _ m)) fun _ _ _ e => e
theorem Reps.weaken (ha : ∀ a ∈ av', a ∈ av) (r : Reps av h vs ds) : Reps av' h vs ds := r.move (fun _ _ n _ m => n (ha _ m)) fun _ _ _ e => e
theorem Rep.more (xs : List Addr) (hx : ∀ x ∈ xs, h.get? x = Option.none) (r : Rep av h v d) : Rep (xs ++ av) h v d :=
  r.move (fun a o n e m => (List.mem_append.mp m).elim (fun q => by rw [hx a q] at e; cases e) n) fun _ _ _ e => e
theorem Reps.length : ∀ {vs : List Value} {ds : List D}, Reps av h vs ds → vs.length = ds.length
  | _, _, .nil => rfl
  | _, _, .cons _ q => by simp [Reps.length q]
theorem Reps.append : ∀ {vs : List Value} {ds : List D}, Reps av h vs ds → Reps av h ws es → Reps av h (vs ++ ws) (ds ++ es)
  | _, _, .nil, r => r
  | _, _, .cons p q, r => .cons p (Reps.append q r)
theorem Reps.get : ∀ {vs : List Value} {ds : List D} {k : Nat} {d : D}, Reps av h vs ds → ds[k]? = some d → ∃ v, vs[k]? = some v ∧ Rep av h v d
  | _, _, _, _, .nil, e => by simp at e
  | _, _, 0, _, .cons p _, e => by simp at e; subst e; exact ⟨_, rfl, p⟩
  | _, _, k + 1, _, .cons _ q, e => by simpa using Reps.get q (by simpa using e)
theorem Reps.get' : ∀ {vs : List Value} {ds : List D} {k : Nat} {v : Value}, Reps av h vs ds → vs[k]? = some v → ∃ d, ds[k]? = some d ∧ Rep av h v d
  | _, _, _, _, .nil, e => by simp at e
  | _, _, 0, _, .cons p _, e => by simp at e; subst e; exact ⟨_, rfl, p⟩
  | _, _, k + 1, _, .cons _ q, e => by simpa using Reps.get' q (by simpa using e)
theorem Reps.drop : ∀ {vs : List Value} {ds : List D} (k : Nat), Reps av h vs ds → Reps av h (vs.drop k) (ds.drop k)
  | _, _, 0, r => by simpa using r
  | _, _, k + 1, .nil => by simpa using Reps.nil
  | _, _, k + 1, .cons _ q => by simpa using Reps.drop k q
theorem Reps.take : ∀ {vs : List Value} {ds : List D} (k : Nat), Reps av h vs ds → Reps av h (vs.take k) (ds.take k)
  | _, _, 0, r => by simpa using Reps.nil
  | _, _, k + 1, .nil => by simpa using Reps.nil
  | _, _, k + 1, .cons p q => by simpa using Reps.cons p (Reps.take k q)
theorem Reps.reverse : ∀ {vs : List Value} {ds : List D}, Reps av h vs ds → Reps av h vs.reverse ds.reverse
  | _, _, .nil => .nil
  | _, _, .cons p q => by simpa using Reps.append (Reps.reverse q) (.cons p .nil)
end

/-- the ground: program, world, the written part, the heap at the law's call -/
structure Gd where
  prog : Program
  w : World
  K : Frag
  h₀ : Heap

structure Gd.Ok (g : Gd) : Prop where
  X : g.K.In g.h₀
  top : ∃ mg mb, g.h₀.Ns mainGlobals mg ∧ g.h₀.Ns builtinsNs mb ∧ ∀ x : Str, x ≠ "__name__" → mb x = bootBuiltins x
  nolimit : g.h₀.NoLimit

/-- a frame: `mu` are the addresses that its own statements change, `ov` those of the frames below -/
structure Cx where
  A : Around
  env : Env
  mu : List Addr
  ov : List Addr
  k : Nat
@[reducible] noncomputable def Cx.av (c : Cx) : List Addr := c.mu ++ c.ov
theorem Cx.mu_av {c : Cx} {a : Addr} (h : a ∈ c.mu) : a ∈ c.av := List.mem_append_left _ h

structure AOk (A : Around) (k : Nat) : Prop where
  handled : A.handled = none
  depth : A.depth + k < recursionLimit
  units : A.units + 8 * k + 8 < cLine

structure Cx.Ok (c : Cx) : Prop where
  a : AOk c.A c.k
  kind : c.env.scope.kind = .function
  glob : c.env.globals = mainGlobals
  bui : c.env.builtins = builtinsNs
  locIn : c.env.locals ∈ c.mu
  cellIn : ∀ x a, c.env.cells.lookup x = some a → a ∈ c.av ∧ a ≠ c.env.locals
  apart : ∀ b ∈ c.mu, b ∉ c.ov
  cellNe : ∀ x y a b, c.env.cells.lookup x = some a → c.env.cells.lookup y = some b → x ≠ y → a ≠ b

abbrev Vars := List (Str × D)
abbrev Own := Option (Str × Addr × List D)

noncomputable def VarIs (c : Cx) (h : Heap) (m : Str → Option Value) (x : Str) (d : D) : Prop :=
  (c.env.kindOf x = some .local ∧ ∃ v, m x = some v ∧ Rep c.av h v d) ∨
  (c.env.kindOf x = some .cell ∧ ∃ a v, c.env.cells.lookup x = some a ∧ h.IsCell a (some v) ∧ Rep c.av h v d)

noncomputable def OwnIs (c : Cx) (h : Heap) (m : Str → Option Value) (θ : Own) : Prop := ∀ x a ds, θ = some (x, a, ds) →
  c.env.kindOf x = some .local ∧ m x = some (.ref a) ∧ a ∈ c.mu ∧ a ≠ c.env.locals ∧ (∀ y b, c.env.cells.lookup y = some b → b ≠ a) ∧
    ∃ vs : List Value, h.PlainList a vs.toArray ∧ Reps c.av h vs ds

structure Inv (g : Gd) (c : Cx) (ρ : Vars) (θ : Own) (s : Shared) : Prop where
  gok : g.Ok
  ok : c.Ok
  ground : ∀ b o, g.h₀.get? b = some o → s.heap.get? b = some o
  avok : ∀ b ∈ c.av, g.h₀.get? b = none ∧ ∃ o, s.heap.get? b = some o
  cells : ∀ x a, c.env.cells.lookup x = some a → ∃ v, s.heap.IsCell a v
  vars : ∃ m, s.heap.Ns c.env.locals m ∧ (∀ x d, ρ.lookup x = some d → VarIs c s.heap m x d) ∧ OwnIs c s.heap m θ

theorem VarIs.keep {c : Cx} {h h' : Heap} {m : Str → Option Value} {x : Str} {d : D} (hk : ∀ b o, h.get? b = some o → h'.get? b = some o) (r : VarIs c h m x d) : VarIs c h' m x d := by
  rcases r with ⟨a, v, b, r⟩ | ⟨a, b, v, e, i, r⟩
  · exact .inl ⟨a, v, b, r.keep hk⟩
  · exact .inr ⟨a, b, v, e, i.keeps hk, r.keep hk⟩
theorem OwnIs.keep {c : Cx} {h h' : Heap} {m : Str → Option Value} {θ : Own} (hk : ∀ b o, h.get? b = some o → h'.get? b = some o) (r : OwnIs c h m θ) : OwnIs c h' m θ := by
  intro x a ds e
  obtain ⟨p, q, u, v, y, vs, z, t⟩ := r x a ds e
  exact ⟨p, q, u, v, y, vs, z.at fun o e => hk _ _ e, t.keep hk⟩
theorem Inv.keep {g : Gd} {c : Cx} {ρ : Vars} {θ : Own} {s s' : Shared} (i : Inv g c ρ θ s) (hk : ∀ b o, s.heap.get? b = some o → s'.heap.get? b = some o) : Inv g c ρ θ s' where
  gok := i.gok
  ok := i.ok
  ground := fun b o e => hk b o (i.ground b o e)
  avok := fun b hb => ⟨(i.avok b hb).1, let ⟨o, e⟩ := (i.avok b hb).2; ⟨o, hk b o e⟩⟩
  cells := fun x a e => let ⟨v, q⟩ := i.cells x a e; ⟨v, q.keeps hk⟩
  vars := let ⟨m, n, v, o⟩ := i.vars; ⟨m, n.keeps hk, fun x d e => (v x d e).keep hk, o.keep hk⟩
theorem Keeps.h {s s' : Shared} (k : Keeps s s') : ∀ b o, s.heap.get? b = some o → s'.heap.get? b = some o := by
  obtain ⟨h', tk, rfl, hk⟩ := k; exact hk
theorem Inv.keeps {g : Gd} {c : Cx} {ρ : Vars} {θ : Own} {s s' : Shared} (i : Inv g c ρ θ s) (k : Keeps s s') : Inv g c ρ θ s' := i.keep (Keeps.h k)
theorem keeps_refl (s : Shared) : Keeps s s := ⟨s.heap, s.toks, rfl, fun _ _ e => e⟩
theorem keeps_trans {s s' s'' : Shared} (a : Keeps s s') (b : Keeps s' s'') : Keeps s s'' := by
  obtain ⟨h, t, rfl, k⟩ := a
  obtain ⟨h', t', rfl, k'⟩ := b
  exact ⟨h', t', rfl, fun b o e => k' b o (k b o e)⟩
theorem keeps_toks (s : Shared) (t : Nat) : Keeps s { s with toks := t } := ⟨s.heap, t, rfl, fun _ _ e => e⟩
theorem keeps_push (s : Shared) (o : Obj) (t : Nat) : Keeps s { s with heap := s.heap.push o, toks := t } := ⟨_, t, rfl, fun _ _ e => Heap.get?_push_of_some _ e⟩
theorem keeps_push' (s : Shared) (o : Obj) : Keeps s { s with heap := s.heap.push o } := ⟨_, _, rfl, fun _ _ e => Heap.get?_push_of_some _ e⟩
theorem Inv.weaken {g : Gd} {c : Cx} {ρ ρ' : Vars} {θ : Own} {s : Shared} (i : Inv g c ρ θ s) (h : ∀ x d, ρ'.lookup x = some d → ρ.lookup x = some d) : Inv g c ρ' θ s :=
  { i with vars := let ⟨m, n, v, o⟩ := i.vars; ⟨m, n, fun x d e => v x d (h x d e), o⟩ }

/-- a new address is not among those to avoid -/
theorem Inv.fresh {g : Gd} {c : Cx} {ρ : Vars} {θ : Own} {s : Shared} (i : Inv g c ρ θ s) : s.heap.objs.size ∉ c.av := fun hm => by
  obtain ⟨_, o, e⟩ := i.avok _ hm
  exact Nat.lt_irrefl _ (Heap.lt_size e)

/-- an expression's value -/
noncomputable def EV (g : Gd) (c : Cx) (ρ : Vars) (θ : Own) (e : Expr) (d : D) : Prop :=
  ∀ (s : Shared) (Q : Value → Shared → Prop) (E : Value → Shared → Prop), Inv g c ρ θ s → (∀ v s', Keeps s s' → Rep c.av s'.heap v d → Q v s') → wpAny (model g.prog g.w) c.A (eval e c.env) Q E s
/-- a test's truth -/
noncomputable def TE (g : Gd) (c : Cx) (ρ : Vars) (θ : Own) (e : Expr) (b : Bool) : Prop :=
  ∀ (s : Shared) (Q : Bool → Shared → Prop) (E : Value → Shared → Prop), Inv g c ρ θ s → (∀ s', Keeps s s' → Q b s') → wpAny (model g.prog g.w) c.A (isTrue e c.env (eval e c.env)) Q E s

section
variable {g : Gd} {c : Cx} {ρ : Vars} {θ : Own}
theorem EV.var {x : Str} {pos : Pos} {d : D} (h : ρ.lookup x = some d) (hd : (x == ("__debug__" : Str)) = false := by rfl) : EV g c ρ θ (.Name x pos) d := by
  intro s Q E i k
  obtain ⟨m, n, v, _⟩ := i.vars
  rcases v x d h with ⟨hk, v, hm, r⟩ | ⟨hk, a, v, hc, hi, r⟩
  · exact wpAny_Name (wpAny_loadName_local i.ok.kind hk n hm (k v s (keeps_refl s) r)) hd
  · exact wpAny_Name (wpAny_loadName_cell i.ok.kind hk hc hi (k v s (keeps_refl s) r)) hd
theorem EV.int {n : Int} {p : Nat} {pos : Pos} : EV g c ρ θ (.Constant (.int n) p pos) (.int n) := by
  intro s Q E i k
  exact wpAny_Constant_int (k _ _ (keeps_toks _ _) (.int _ _))
theorem EV.bool {b : Bool} {p : Nat} {pos : Pos} : EV g c ρ θ (.Constant (.bool b) p pos) (.bool b) := by
  intro s Q E i k
  exact wpAny_Constant_bool (k _ _ (keeps_refl _) (.bool _))
theorem EV.str {x : Str} {l : List Nat} {p : Nat} {pos : Pos} (h : x = ⟨l.toArray⟩) : EV g c ρ θ (.Constant (.str x) p pos) (.str l) := by
  intro s Q E i k
  subst h
  exact wpAny_Constant_str (k _ _ (keeps_toks _ _) (.str _ _))
end
end Mine
end

/- LayB -/
section
open PySem PySem.W PySem.Calls PyProof.Rows
set_option maxRecDepth 100000
namespace Mine

/-- a binary operation on data -/
noncomputable def BOP (g : Gd) (c : Cx) (op : Operator) (d1 d2 d : D) : Prop :=
  ∀ (ρ : Vars) (θ : Own) (s : Shared) (v1 v2 : Value) (Q : Value → Shared → Prop) (E : Value → Shared → Prop), Inv g c ρ θ s → Rep c.av s.heap v1 d1 → Rep c.av s.heap v2 d2 →
    (∀ v s', Keeps s s' → Rep c.av s'.heap v d → Q v s') → wpAny (model g.prog g.w) c.A (binaryOp op v1 v2) Q E s
/-- a comparison of data -/
noncomputable def COP (g : Gd) (c : Cx) (op : CmpOp) (d1 d2 : D) (b : Bool) : Prop :=
  ∀ (ρ : Vars) (θ : Own) (s : Shared) (v1 v2 : Value) (Q : Value → Shared → Prop) (E : Value → Shared → Prop), Inv g c ρ θ s → Rep c.av s.heap v1 d1 → Rep c.av s.heap v2 d2 →
    (∀ s', Keeps s s' → Q (.bool b) s') → wpAny (model g.prog g.w) c.A (compareOp op v1 v2) Q E s
/-- truth of a datum -/
noncomputable def TOP (g : Gd) (c : Cx) (d : D) (b : Bool) : Prop :=
  ∀ (ρ : Vars) (θ : Own) (s : Shared) (v : Value) (Q : Bool → Shared → Prop) (E : Value → Shared → Prop), Inv g c ρ θ s → Rep c.av s.heap v d →
    (∀ s', Keeps s s' → Q b s') → wpAny (model g.prog g.w) c.A (truthy v) Q E s

section
variable {g : Gd} {c : Cx} {ρ : Vars} {θ : Own} {l r x y e e1 e2 : Expr} {d1 d2 d : D} {pos : Pos} {b b1 b2 : Bool}

theorem EV.bin {op : Operator} (hl : EV g c ρ θ l d1) (hr : EV g c ρ θ r d2) (h : BOP g c op d1 d2 d) : EV g c ρ θ (.BinOp l op r pos) d := by
  intro s Q E i k
  refine wpAny_BinOp (hl s _ E i fun v1 s1 k1 r1 => hr s1 _ E (i.keeps k1) fun v2 s2 k2 r2 => ?_)
  exact h ρ θ s2 v1 v2 Q E ((i.keeps k1).keeps k2) (r1.keep (Keeps.h k2)) r2 fun v s3 k3 r3 => k v s3 (keeps_trans k1 (keeps_trans k2 k3)) r3
theorem EV.cmp {op : CmpOp} (hl : EV g c ρ θ l d1) (hr : EV g c ρ θ r d2) (h : COP g c op d1 d2 b) (hm : behindInMarks op r = false := by with_unfolding_all rfl) : EV g c ρ θ (.Compare l [op] [r] pos) (.bool b) := by
  intro s Q E i k
  refine wpAny_Compare1 (hl s _ E i fun v1 s1 k1 r1 => hr s1 _ E (i.keeps k1) fun v2 s2 k2 r2 => ?_) hm
  exact h ρ θ s2 v1 v2 Q E ((i.keeps k1).keeps k2) (r1.keep (Keeps.h k2)) r2 fun s3 k3 => k _ s3 (keeps_trans k1 (keeps_trans k2 k3)) (.bool b)
theorem TE.cmp {op : CmpOp} (hl : EV g c ρ θ l d1) (hr : EV g c ρ θ r d2) (h : COP g c op d1 d2 b) (hm : behindInMarks op r = false := by with_unfolding_all rfl) : TE g c ρ θ (.Compare l [op] [r] pos) b := by
  intro s Q E i k
  refine wpAny_isTrue_Compare1 (hl s _ E i fun v1 s1 k1 r1 => hr s1 _ E (i.keeps k1) fun v2 s2 k2 r2 => ?_) hm
  exact h ρ θ s2 v1 v2 _ E ((i.keeps k1).keeps k2) (r1.keep (Keeps.h k2)) r2 fun s3 k3 => wpAny_truthy_bool (k s3 (keeps_trans k1 (keeps_trans k2 k3)))
theorem TE.val (h : EV g c ρ θ e d) (ht : TOP g c d b) (he : ∀ whole, isTrue e c.env whole = (do let v ← whole; standAt e.pos; holding [v] (truthy v)) := by intro _; rfl) : TE g c ρ θ e b := by
  intro s Q E i k
  exact wpAny_isTrue_value (h s _ E i fun v s1 k1 r1 => ht ρ θ s1 v Q E (i.keeps k1) r1 fun s2 k2 => k s2 (keeps_trans k1 k2)) (he _)
theorem TE.and2 (h1 : TE g c ρ θ e1 b1) (h2 : b1 = true → TE g c ρ θ e2 b2) : TE g c ρ θ (.BoolOp .And [e1, e2] pos) (b1 && b2) := by
  intro s Q E i k
  refine wpAny_isTrue_BoolOp (wpAny_allTrue_And_cons (h1 s _ E i fun s1 k1 => ?_))
  cases b1 with
  | false => exact k s1 k1
  | true =>
    refine wpAny_allTrue_And_cons (h2 rfl s1 _ E (i.keeps k1) fun s2 k2 => ?_)
    cases b2 with
    | false => exact k s2 (keeps_trans k1 k2)
    | true => exact wpAny_allTrue_And_nil (k s2 (keeps_trans k1 k2))
theorem EV.and2 (h1 : EV g c ρ θ e1 (.bool b1)) (h2 : b1 = true → EV g c ρ θ e2 (.bool b2)) : EV g c ρ θ (.BoolOp .And [e1, e2] pos) (.bool (b1 && b2)) := by
  intro s Q E i k
  refine wpAny_And2 (h1 s _ E i fun v s1 k1 r1 => ?_)
  (first | cases r1 using Rep.int_cases | cases r1 using Rep.str_cases | cases r1 using Reps.nil_cases | cases r1 using Rep.fn_cases | cases r1 using Rep.bool_cases | cases r1)
  refine wpAny_truthy_bool ?_
  cases b1 with
  | false => exact k _ s1 k1 (.bool _)
  | true => exact h2 rfl s1 _ E (i.keeps k1) fun v s2 k2 r2 => k v s2 (keeps_trans k1 k2) (by simpa using r2)
theorem EV.or2 (h1 : EV g c ρ θ e1 (.bool b1)) (h2 : b1 = false → EV g c ρ θ e2 (.bool b2)) : EV g c ρ θ (.BoolOp .Or [e1, e2] pos) (.bool (b1 || b2)) := by
  intro s Q E i k
  refine wpAny_Or2 (h1 s _ E i fun v s1 k1 r1 => ?_)
  (first | cases r1 using Rep.int_cases | cases r1 using Rep.str_cases | cases r1 using Reps.nil_cases | cases r1 using Rep.fn_cases | cases r1 using Rep.bool_cases | cases r1)
  refine wpAny_truthy_bool ?_
  cases b1 with
  | true => exact k _ s1 k1 (.bool _)
  | false => exact h2 rfl s1 _ E (i.keeps k1) fun v s2 k2 r2 => k v s2 (keeps_trans k1 k2) (by simpa using r2)
theorem EV.ite (ht : TE g c ρ θ e b) (h1 : b = true → EV g c ρ θ e1 d) (h2 : b = false → EV g c ρ θ e2 d) : EV g c ρ θ (.IfExp e e1 e2 pos) d := by
  intro s Q E i k
  refine wpAny_IfExp (ht s _ E i fun s1 k1 => ?_)
  cases b with
  | true => exact h1 rfl s1 _ E (i.keeps k1) fun v s2 k2 r2 => k v s2 (keeps_trans k1 k2) r2
  | false => exact h2 rfl s1 _ E (i.keeps k1) fun v s2 k2 r2 => k v s2 (keeps_trans k1 k2) r2

theorem TOP.bool : TOP g c (.bool b) b := by
  intro ρ θ s v Q E i r k
  (first | cases r using Rep.int_cases | cases r using Rep.str_cases | cases r using Reps.nil_cases | cases r using Rep.fn_cases | cases r using Rep.bool_cases | cases r)
  exact wpAny_truthy_bool (k s (keeps_refl s))
theorem TOP.int {n : Int} : TOP g c (.int n) (n != 0) := by
  intro ρ θ s v Q E i r k
  (first | cases r using Rep.int_cases | cases r using Rep.str_cases | cases r using Reps.nil_cases | cases r using Rep.fn_cases | cases r using Rep.bool_cases | cases r)
  exact PyProof.Rows.truthy_int (k s (keeps_refl s))

section
variable {a n : Int} {p q : List Nat} {us vs : List D}
theorem BOP.add_int {a b : Int} : BOP g c .Add (.int a) (.int b) (.int (a + b)) := by
  intro ρ θ s v1 v2 Q E i r1 r2 k
  (first | cases r1 using Rep.int_cases | cases r1 using Rep.str_cases | cases r1 using Reps.nil_cases | cases r1 using Rep.fn_cases | cases r1 using Rep.bool_cases | cases r1); (first | cases r2 using Rep.int_cases | cases r2 using Rep.str_cases | cases r2 using Reps.nil_cases | cases r2 using Rep.fn_cases | cases r2 using Rep.bool_cases | cases r2)
  exact PyProof.Rows.add_int (k _ _ (keeps_toks _ _) (.int _ _))
theorem BOP.sub_int {a b : Int} : BOP g c .Sub (.int a) (.int b) (.int (a - b)) := by
  intro ρ θ s v1 v2 Q E i r1 r2 k
  (first | cases r1 using Rep.int_cases | cases r1 using Rep.str_cases | cases r1 using Reps.nil_cases | cases r1 using Rep.fn_cases | cases r1 using Rep.bool_cases | cases r1); (first | cases r2 using Rep.int_cases | cases r2 using Rep.str_cases | cases r2 using Reps.nil_cases | cases r2 using Rep.fn_cases | cases r2 using Rep.bool_cases | cases r2)
  exact PyProof.Rows.sub_int (k _ _ (keeps_toks _ _) (.int _ _))
theorem BOP.mul_int {a b : Int} (ha : a.natAbs < 2 ^ 64) : BOP g c .Mult (.int a) (.int b) (.int (a * b)) := by
  intro ρ θ s v1 v2 Q E i r1 r2 k
  (first | cases r1 using Rep.int_cases | cases r1 using Rep.str_cases | cases r1 using Reps.nil_cases | cases r1 using Rep.fn_cases | cases r1 using Rep.bool_cases | cases r1); (first | cases r2 using Rep.int_cases | cases r2 using Rep.str_cases | cases r2 using Reps.nil_cases | cases r2 using Rep.fn_cases | cases r2 using Rep.bool_cases | cases r2)
  exact PyProof.Rows.mul_int (k _ _ (keeps_toks _ _) (.int _ _)) (.of_left (intBits_le ha))
theorem BOP.mod_int {a b : Int} (hb : b ≠ 0) : BOP g c .Mod (.int a) (.int b) (.int (a.fmod b)) := by
  intro ρ θ s v1 v2 Q E i r1 r2 k
  (first | cases r1 using Rep.int_cases | cases r1 using Rep.str_cases | cases r1 using Reps.nil_cases | cases r1 using Rep.fn_cases | cases r1 using Rep.bool_cases | cases r1); (first | cases r2 using Rep.int_cases | cases r2 using Rep.str_cases | cases r2 using Reps.nil_cases | cases r2 using Rep.fn_cases | cases r2 using Rep.bool_cases | cases r2)
  exact PyProof.Rows.mod_int hb (k _ _ (keeps_toks _ _) (.int _ _))
theorem BOP.div_int {a b : Int} (hb : b ≠ 0) (hs : b.natAbs.log2 < 9000) : BOP g c .FloorDiv (.int a) (.int b) (.int (a.fdiv b)) := by
  intro ρ θ s v1 v2 Q E i r1 r2 k
  (first | cases r1 using Rep.int_cases | cases r1 using Rep.str_cases | cases r1 using Reps.nil_cases | cases r1 using Rep.fn_cases | cases r1 using Rep.bool_cases | cases r1); (first | cases r2 using Rep.int_cases | cases r2 using Rep.str_cases | cases r2 using Reps.nil_cases | cases r2 using Rep.fn_cases | cases r2 using Rep.bool_cases | cases r2)
  exact PyProof.Rows.floordiv_int hb (k _ _ (keeps_toks _ _) (.int _ _)) (.inl (PyProof.noPylong_of_log2 hs))
theorem BOP.pow_int {a n : Int} (hn : 0 ≤ n) (hn2 : n ≤ 1000000) (ha : a.natAbs < 2 ^ 64) : BOP g c .Pow (.int a) (.int n) (.int (a ^ n.toNat)) := by
  intro ρ θ s v1 v2 Q E i r1 r2 k
  (first | cases r1 using Rep.int_cases | cases r1 using Rep.str_cases | cases r1 using Reps.nil_cases | cases r1 using Rep.fn_cases | cases r1 using Rep.bool_cases | cases r1); (first | cases r2 using Rep.int_cases | cases r2 using Rep.str_cases | cases r2 using Reps.nil_cases | cases r2 using Rep.fn_cases | cases r2 using Rep.bool_cases | cases r2)
  exact PyProof.Rows.pow_int_small hn hn2 ha (k _ _ (keeps_toks _ _) (.int _ _))
theorem BOP.and_int {a b : Int} : BOP g c .BitAnd (.int a) (.int b) (.int (Builtin.bitAnd a b)) := by
  intro ρ θ s v1 v2 Q E i r1 r2 k
  (first | cases r1 using Rep.int_cases | cases r1 using Rep.str_cases | cases r1 using Reps.nil_cases | cases r1 using Rep.fn_cases | cases r1 using Rep.bool_cases | cases r1); (first | cases r2 using Rep.int_cases | cases r2 using Rep.str_cases | cases r2 using Reps.nil_cases | cases r2 using Rep.fn_cases | cases r2 using Rep.bool_cases | cases r2)
  exact PyProof.Rows.and_int (k _ _ (keeps_toks _ _) (.int _ _))
theorem BOP.sub_bool : BOP g c .Sub (.bool b1) (.bool b2) (.int ((if b1 then 1 else 0) - (if b2 then 1 else 0))) := by
  intro ρ θ s v1 v2 Q E i r1 r2 k
  (first | cases r1 using Rep.int_cases | cases r1 using Rep.str_cases | cases r1 using Reps.nil_cases | cases r1 using Rep.fn_cases | cases r1 using Rep.bool_cases | cases r1); (first | cases r2 using Rep.int_cases | cases r2 using Rep.str_cases | cases r2 using Reps.nil_cases | cases r2 using Rep.fn_cases | cases r2 using Rep.bool_cases | cases r2)
  refine PyProof.Rows.sub_bool (k _ _ (keeps_toks _ _) ?_)
  have : (b2i b1 - b2i b2) = ((if b1 then 1 else 0) - (if b2 then 1 else 0) : Int) := by cases b1 <;> cases b2 <;> rfl
  rw [this]; exact .int _ _
theorem str_append (p q : List Nat) : ((⟨p.toArray⟩ : Str) ++ (⟨q.toArray⟩ : Str)) = ⟨(p ++ q).toArray⟩ := by
  show (⟨p.toArray ++ q.toArray⟩ : Str) = _
  simp
theorem str_length (p : List Nat) : (⟨p.toArray⟩ : Str).length = p.length := by simp [Str.length]
theorem BOP.add_str (hz : p.length + q.length ≤ 1000000) : BOP g c .Add (.str p) (.str q) (.str (p ++ q)) := by
  intro ρ θ s v1 v2 Q E i r1 r2 k
  (first | cases r1 using Rep.int_cases | cases r1 using Rep.str_cases | cases r1 using Reps.nil_cases | cases r1 using Rep.fn_cases | cases r1 using Rep.bool_cases | cases r1); (first | cases r2 using Rep.int_cases | cases r2 using Rep.str_cases | cases r2 using Reps.nil_cases | cases r2 using Rep.fn_cases | cases r2 using Rep.bool_cases | cases r2)
  refine PyProof.Rows.add_str (fun t' tk => ?_) (by rw [str_length, str_length]; unfold sizeLine; (first | assumption | lia | omega))
  rw [str_append]
  exact k _ _ (keeps_toks _ _) (.str _ _)
theorem rep_arr (p : List Nat) : ∀ (n : Nat) (acc : List Nat), (List.replicate n p.toArray).foldl (· ++ ·) acc.toArray = (acc ++ (List.replicate n p).flatten).toArray
  | 0, acc => by simp
  | n + 1, acc => by
    rw [List.replicate_succ, List.foldl_cons, List.append_toArray, rep_arr p n, List.replicate_succ, List.flatten_cons, List.append_assoc]
theorem BOP.mul_str (h1 : (p.length : Int) ≤ 1000) (h2 : n ≤ 1000) (h3 : -1000 ≤ n) : BOP g c .Mult (.str p) (.int n) (.str (List.replicate n.toNat p).flatten) := by
  intro ρ θ s v1 v2 Q E i r1 r2 k
  (first | cases r1 using Rep.int_cases | cases r1 using Rep.str_cases | cases r1 using Reps.nil_cases | cases r1 using Rep.fn_cases | cases r1 using Rep.bool_cases | cases r1); (first | cases r2 using Rep.int_cases | cases r2 using Rep.str_cases | cases r2 using Reps.nil_cases | cases r2 using Rep.fn_cases | cases r2 using Rep.bool_cases | cases r2)
  have hbig : ¬ n < 1 → ((2 : Int) ^ 63 - 1) / n ≥ 1000 := by
    intro hn
    exact (Int.le_ediv_iff_mul_le (by (first | assumption | lia | omega))).mpr (by (first | assumption | lia | omega))
  have hmul : p.length * n.toNat ≤ 1000 * 1000 := Nat.mul_le_mul (by (first | assumption | lia | omega)) (by (first | assumption | lia | omega))
  refine PySem.P.mul_str ?_ ?_ ?_ ?_
  · rw [decide_eq_false (by (first | assumption | lia | omega)), decide_eq_false (by (first | assumption | lia | omega))]; rfl
  · intro hn _; have := hbig hn; rw [str_length]; (first | assumption | lia | omega)
  · intro hn _
    rw [str_length]
    unfold Builtin.Str.tooLong sizeLine
    exact decide_eq_false (by (first | assumption | lia | omega))
  · split
    · rename_i hn
      have e0 : (List.replicate n.toNat p).flatten = [] := by
        have : n.toNat = 0 := by (first | assumption | lia | omega)
        rw [this]; rfl
      rw [e0] at k
      exact ⟨by decide, k _ _ (keeps_toks _ _) (.str [] _)⟩
    · split
      · rename_i hn h
        refine k _ _ (keeps_refl _) ?_
        rcases Bool.or_eq_true_iff.mp h with h | h
        · have : n = 1 := by simpa using h
          subst this
          have e : (List.replicate (1 : Int).toNat p).flatten = p := by simp
          rw [e]; exact .str _ _
        · have : p = [] := by simpa [str_length] using h
          subst this
          have e : (List.replicate n.toNat ([] : List Nat)).flatten = [] := by simp
          rw [e]; exact .str [] _
      · have e := rep_arr p n.toNat []
        refine ⟨?_, ?_⟩
        · show ((List.replicate n.toNat p.toArray).foldl (· ++ ·) #[]).size ≤ sizeLine
          have e' : (List.replicate n.toNat p.toArray).foldl (· ++ ·) #[] = ((List.replicate n.toNat p).flatten).toArray := by simpa using e
          rw [e']
          simp only [List.size_toArray, List.length_flatten, List.map_replicate, List.sum_replicate_nat]
          unfold sizeLine
          have := Nat.mul_comm n.toNat p.length
          (first | assumption | lia | omega)
        · have e' : (List.replicate n.toNat p.toArray).foldl (· ++ ·) #[] = ((List.replicate n.toNat p).flatten).toArray := by simpa using e
          show Q (.str ⟨(List.replicate n.toNat p.toArray).foldl (· ++ ·) #[]⟩ s.toks) _
          rw [e']
          exact k _ _ (keeps_toks _ _) (.str _ _)
theorem BOP.add_lst (hz : us.length + vs.length ≤ 1000000) : BOP g c .Add (.lst us) (.lst vs) (.lst (us ++ vs)) := by
  intro ρ θ s v1 v2 Q E i r1 r2 k
  cases r1 using Rep.lst_cases with
  | lst n1 h1 q1 =>
    cases r2 using Rep.lst_cases with
    | lst n2 h2 q2 =>
      obtain ⟨m1, e1⟩ := h1
      obtain ⟨m2, e2⟩ := h2
      refine PySem.P.add_list e1 e2 (k _ _ (keeps_push' _ _) ?_) ?_
      · refine .lst i.fresh ⟨0, ?_⟩ ((q1.append q2).keep (Keeps.h (keeps_push' _ _)))
        rw [← List.append_toArray]
        exact Heap.get?_push_size _ rfl
      · simp only [List.size_toArray, q1.length, q2.length]; unfold sizeLine; (first | assumption | lia | omega)
theorem reps_rep {av : List Addr} {h : Heap} {ws : List Value} {ds : List D} (r : Reps av h ws ds) : ∀ n, Reps av h (List.replicate n ws).flatten (List.replicate n ds).flatten
  | 0 => .nil
  | n + 1 => by simpa [List.replicate_succ] using r.append (reps_rep r n)
theorem BOP.mul_lst (h1 : us.length ≤ 1000) (h2 : n ≤ 1000) (h3 : -1000 ≤ n) : BOP g c .Mult (.lst us) (.int n) (.lst (List.replicate n.toNat us).flatten) := by
  intro ρ θ s v1 v2 Q E i r1 r2 k
  (first | cases r2 using Rep.int_cases | cases r2 using Rep.str_cases | cases r2 using Reps.nil_cases | cases r2 using Rep.fn_cases | cases r2 using Rep.bool_cases | cases r2)
  cases r1 using Rep.lst_cases with
  | lst n1 hl q1 =>
    obtain ⟨m1, e1⟩ := hl
    have hsz : us.length * n.toNat ≤ 1000 * 1000 := Nat.mul_le_mul h1 (by (first | assumption | lia | omega))
    rename_i u a ws
    have hlen := q1.length
    have hws : ws.toArray.size * n.toNat ≤ 1000000 := by rw [List.size_toArray, hlen]; exact hsz
    refine wpAny_binaryOp_repeat_ref (T := "list") (U := "int") (by decide) ⟨_, e1, rfl⟩ (fun s' => typeIs_int s' n u) noFill_list_mul F.fills_int_mul F.slot_int_rmul repeat_list F.slot_int_index.lookup ?_
    refine call_meets F.slot_int_rmul (typeIs_int s n u) F.entry_int_rmul (F.args_int_rmul_2 _ _) (int___rmul___int_list n u a ws.toArray m1) ⟨e1, rfl, ⟨_, e1, rfl⟩, ?_⟩
    refine call_meets F.slot_list_mul ⟨_, e1, rfl⟩ F.entry_list_mul (F.args_list_mul_2 _ _)
      (AutoListH.list___mul___list_int_3 a ws.toArray m1 n u (by simp [Builtin.List.listFitsIndex]; (first | assumption | lia | omega)) (by (first | assumption | lia | omega)) (by simp [Builtin.List.listTooLong, sizeLine] at hws ⊢; (first | assumption | lia | omega))) ⟨e1, ?_⟩
    refine k _ _ (keeps_push' _ _) ?_
    rw [listMul_foldl_if]
    exact .lst i.fresh ⟨0, Heap.get?_push_size _ rfl⟩ ((reps_rep q1 _).keep (Keeps.h (keeps_push' _ _)))
end
end
end Mine
end

/- LayC -/
section
open PySem PySem.W PySem.Calls PyProof.Rows PySem.MeetsSeq PySem.SeqAt
set_option maxRecDepth 100000
namespace Mine
section
variable {g : Gd} {c : Cx} {ρ : Vars} {θ : Own}
theorem COP.eq_int {a b : Int} : COP g c .Eq (.int a) (.int b) (a == b) := by
  intro ρ θ s v1 v2 Q E i r1 r2 k
  (first | cases r1 using Rep.int_cases | cases r1 using Rep.str_cases | cases r1 using Reps.nil_cases | cases r1 using Rep.fn_cases | cases r1 using Rep.bool_cases | cases r1); (first | cases r2 using Rep.int_cases | cases r2 using Rep.str_cases | cases r2 using Reps.nil_cases | cases r2 using Rep.fn_cases | cases r2 using Rep.bool_cases | cases r2)
  exact PyProof.Rows.eq_int (k _ (keeps_refl _))
theorem COP.lt_int {a b : Int} : COP g c .Lt (.int a) (.int b) (decide (a < b)) := by
  intro ρ θ s v1 v2 Q E i r1 r2 k
  (first | cases r1 using Rep.int_cases | cases r1 using Rep.str_cases | cases r1 using Reps.nil_cases | cases r1 using Rep.fn_cases | cases r1 using Rep.bool_cases | cases r1); (first | cases r2 using Rep.int_cases | cases r2 using Rep.str_cases | cases r2 using Reps.nil_cases | cases r2 using Rep.fn_cases | cases r2 using Rep.bool_cases | cases r2)
  exact PyProof.Rows.lt_int (k _ (keeps_refl _))
theorem COP.gt_int {a b : Int} : COP g c .Gt (.int a) (.int b) (decide (b < a)) := by
  intro ρ θ s v1 v2 Q E i r1 r2 k
  (first | cases r1 using Rep.int_cases | cases r1 using Rep.str_cases | cases r1 using Reps.nil_cases | cases r1 using Rep.fn_cases | cases r1 using Rep.bool_cases | cases r1); (first | cases r2 using Rep.int_cases | cases r2 using Rep.str_cases | cases r2 using Reps.nil_cases | cases r2 using Rep.fn_cases | cases r2 using Rep.bool_cases | cases r2)
  exact PyProof.Rows.gt_int (k _ (keeps_refl _))
theorem COP.le_int {a b : Int} : COP g c .LtE (.int a) (.int b) (decide (a ≤ b)) := by
  intro ρ θ s v1 v2 Q E i r1 r2 k
  (first | cases r1 using Rep.int_cases | cases r1 using Rep.str_cases | cases r1 using Reps.nil_cases | cases r1 using Rep.fn_cases | cases r1 using Rep.bool_cases | cases r1); (first | cases r2 using Rep.int_cases | cases r2 using Rep.str_cases | cases r2 using Reps.nil_cases | cases r2 using Rep.fn_cases | cases r2 using Rep.bool_cases | cases r2)
  exact PyProof.Rows.le_int (k _ (keeps_refl _))
theorem COP.eq_str {p q : List Nat} : COP g c .Eq (.str p) (.str q) (p == q) := by
  intro ρ θ s v1 v2 Q E i r1 r2 k
  (first | cases r1 using Rep.int_cases | cases r1 using Rep.str_cases | cases r1 using Reps.nil_cases | cases r1 using Rep.fn_cases | cases r1 using Rep.bool_cases | cases r1); (first | cases r2 using Rep.int_cases | cases r2 using Rep.str_cases | cases r2 using Reps.nil_cases | cases r2 using Rep.fn_cases | cases r2 using Rep.bool_cases | cases r2)
  exact PySem.P.eq_str (by simpa using k _ (keeps_refl _))
theorem COP.ne_str {p q : List Nat} : COP g c .NotEq (.str p) (.str q) (p != q) := by
  intro ρ θ s v1 v2 Q E i r1 r2 k
  (first | cases r1 using Rep.int_cases | cases r1 using Rep.str_cases | cases r1 using Reps.nil_cases | cases r1 using Rep.fn_cases | cases r1 using Rep.bool_cases | cases r1); (first | cases r2 using Rep.int_cases | cases r2 using Rep.str_cases | cases r2 using Reps.nil_cases | cases r2 using Rep.fn_cases | cases r2 using Rep.bool_cases | cases r2)
  exact PySem.P.ne_str (by simpa using k _ (keeps_refl _))
theorem COP.lt_str {p q : List Nat} : COP g c .Lt (.str p) (.str q) (decide (p < q)) := by
  intro ρ θ s v1 v2 Q E i r1 r2 k
  (first | cases r1 using Rep.int_cases | cases r1 using Rep.str_cases | cases r1 using Reps.nil_cases | cases r1 using Rep.fn_cases | cases r1 using Rep.bool_cases | cases r1); (first | cases r2 using Rep.int_cases | cases r2 using Rep.str_cases | cases r2 using Reps.nil_cases | cases r2 using Rep.fn_cases | cases r2 using Rep.bool_cases | cases r2)
  exact PySem.P.lt_str (by simpa using k _ (keeps_refl _))
theorem COP.gt_str {p q : List Nat} : COP g c .Gt (.str p) (.str q) (decide (q < p)) := by
  intro ρ θ s v1 v2 Q E i r1 r2 k
  (first | cases r1 using Rep.int_cases | cases r1 using Rep.str_cases | cases r1 using Reps.nil_cases | cases r1 using Rep.fn_cases | cases r1 using Rep.bool_cases | cases r1); (first | cases r2 using Rep.int_cases | cases r2 using Rep.str_cases | cases r2 using Reps.nil_cases | cases r2 using Rep.fn_cases | cases r2 using Rep.bool_cases | cases r2)
  exact PySem.P.gt_str (by simpa using k _ (keeps_refl _))
theorem COP.le_str {p q : List Nat} : COP g c .LtE (.str p) (.str q) (!decide (q < p)) := by
  intro ρ θ s v1 v2 Q E i r1 r2 k
  (first | cases r1 using Rep.int_cases | cases r1 using Rep.str_cases | cases r1 using Reps.nil_cases | cases r1 using Rep.fn_cases | cases r1 using Rep.bool_cases | cases r1); (first | cases r2 using Rep.int_cases | cases r2 using Rep.str_cases | cases r2 using Reps.nil_cases | cases r2 using Rep.fn_cases | cases r2 using Rep.bool_cases | cases r2)
  exact PySem.P.le_str (by simpa using k _ (keeps_refl _))

theorem reps_ints {av : List Addr} {h : Heap} : ∀ {ws : List Value} {ns : List Int}, Reps av h ws (ns.map D.int) → ∀ j : Nat, ∀ v, ws[j]? = some v → ∃ n t, ns[j]? = some n ∧ v = .int n t
  | _, [], .nil, j, v, e => by simp at e
  | _, n :: ns, .cons p q, 0, v, e => by
    simp at e; subst e
    (first | cases p using Rep.int_cases | cases p using Rep.str_cases | cases p using Reps.nil_cases | cases p using Rep.fn_cases | cases p using Rep.bool_cases | cases p)
    exact ⟨n, _, rfl, rfl⟩
  | _, n :: ns, .cons p q, j + 1, v, e => by simpa using reps_ints q j v (by simpa using e)
theorem all_range_eq (ms ns : List Int) (h : ms.length = ns.length) : (List.range ms.length).all (fun j => ms.getD j 0 == ns.getD j 0) = (ms == ns) := by
  rw [Bool.eq_iff_iff, List.all_eq_true, beq_iff_eq]
  constructor
  · intro hj
    apply List.ext_getElem h
    intro j h1 h2
    have := hj j (List.mem_range.mpr h1)
    simpa [List.getD_eq_getElem?_getD, h1, h2] using this
  · rintro rfl j _
    simp
theorem len_ne {ms ns : List Int} (h : ms.length ≠ ns.length) : (ms == ns) = false := by
  rw [beq_eq_false_iff_ne]
  rintro rfl
  exact h rfl
theorem COP.eq_ints {ms ns : List Int} : COP g c .Eq (.lst (ms.map D.int)) (.lst (ns.map D.int)) (ms == ns) := by
  intro ρ θ s v1 v2 Q E i r1 r2 k
  have hu : c.A.units < cLine := by have := i.ok.a.units; (first | assumption | lia | omega)
  cases r1 using Rep.lst_cases with
  | lst n1 h1 q1 =>
    cases r2 using Rep.lst_cases with
    | lst n2 h2 q2 =>
      rename_i a1 ws1 a2 ws2
      have l1 : ws1.length = ms.length := by simpa using q1.length
      have l2 : ws2.length = ns.length := by simpa using q2.length
      obtain ⟨m1, e1⟩ := h1
      obtain ⟨m2, e2⟩ := h2
      by_cases hlen : ms.length = ns.length
      · refine PySem.P.eq_list (e := fun j => ms.getD j 0 == ns.getD j 0) e1 e2 (by simp [l1, l2, hlen]) (fun j h1 h2 => ?_) hu ?_
        · have b1 : j < ws1.length := by simpa using h1
          have b2 : j < ws2.length := by simpa using h2
          obtain ⟨n, t, x1, x2⟩ := reps_ints q1 j ws1[j] (by simp [b1])
          obtain ⟨n', t', y1, y2⟩ := reps_ints q2 j ws2[j] (by simp [b2])
          show EqGives ws1[j] ws2[j] _
          rw [x2, y2]
          have : (ms.getD j 0 == ns.getD j 0) = (n == n') := by simp [List.getD_eq_getElem?_getD, x1, y1]
          show EqGives _ _ (ms.getD j 0 == ns.getD j 0)
          rw [this]
          exact EqGives.int _ _ _ _
        · have : ws1.toArray.size = ms.length := by simp [l1]
          rw [this, all_range_eq ms ns hlen]
          exact k _ (keeps_refl _)
      · refine PySem.P.eq_list_lengths e1 e2 (by simp [l1, l2, hlen]) hu ?_
        have := k _ (keeps_refl _)
        rwa [len_ne hlen] at this
theorem COP.ne_ints {ms ns : List Int} : COP g c .NotEq (.lst (ms.map D.int)) (.lst (ns.map D.int)) (ms != ns) := by
  intro ρ θ s v1 v2 Q E i r1 r2 k
  have hu : c.A.units < cLine := by have := i.ok.a.units; (first | assumption | lia | omega)
  cases r1 using Rep.lst_cases with
  | lst n1 h1 q1 =>
    cases r2 using Rep.lst_cases with
    | lst n2 h2 q2 =>
      rename_i a1 ws1 a2 ws2
      have l1 : ws1.length = ms.length := by simpa using q1.length
      have l2 : ws2.length = ns.length := by simpa using q2.length
      by_cases hlen : ms.length = ns.length
      · refine RcNeAt.lists (e := fun j => ms.getD j 0 == ns.getD j 0) h1.isList h2.isList (by simp [l1, l2, hlen]) hu (fun j h1 h2 => ?_) _ _ E Q ?_
        · have b1 : j < ws1.length := by simpa using h1
          have b2 : j < ws2.length := by simpa using h2
          obtain ⟨n, t, x1, x2⟩ := reps_ints q1 j ws1[j] (by simp [b1])
          obtain ⟨n', t', y1, y2⟩ := reps_ints q2 j ws2[j] (by simp [b2])
          show EqAt _ _ ws1[j] ws2[j] _
          rw [x2, y2]
          have : (ms.getD j 0 == ns.getD j 0) = (n == n') := by simp [List.getD_eq_getElem?_getD, x1, y1]
          show EqAt _ _ _ _ (ms.getD j 0 == ns.getD j 0)
          rw [this]
          exact EqAt.int_int _ _ _ _
        · have : ws1.toArray.size = ms.length := by simp [l1]
          rw [this, all_range_eq ms ns hlen]
          exact k _ (keeps_refl _)
      · refine RcNeAt.lists_lengths h1.isList h2.isList (by simp [l1, l2, hlen]) hu _ _ E Q ?_
        have := k _ (keeps_refl _)
        simpa [bne, len_ne hlen] using this
theorem COP.eq_nil {us : List D} : COP g c .Eq (.lst us) (.lst []) us.isEmpty := by
  intro ρ θ s v1 v2 Q E i r1 r2 k
  have hu : c.A.units < cLine := by have := i.ok.a.units; (first | assumption | lia | omega)
  cases r1 using Rep.lst_cases with
  | lst n1 h1 q1 =>
    cases r2 using Rep.lst_cases with
    | lst n2 h2 q2 =>
      rename_i a1 ws1 a2 ws2
      have l1 : ws1.length = us.length := q1.length
      (first | cases q2 using Rep.int_cases | cases q2 using Rep.str_cases | cases q2 using Reps.nil_cases | cases q2 using Rep.fn_cases | cases q2 using Rep.bool_cases | cases q2)
      obtain ⟨m1, e1⟩ := h1
      obtain ⟨m2, e2⟩ := h2
      by_cases hlen : us = []
      · subst hlen
        have hw : ws1 = [] := by simpa using l1
        subst hw
        exact PySem.P.eq_list (e := fun _ => true) e1 e2 rfl (fun j h1 h2 => by simp at h1) hu (k _ (keeps_refl _))
      · have hl : ws1.length ≠ 0 := by rw [l1]; simpa using hlen
        refine PySem.P.eq_list_lengths e1 e2 (by simpa using hl) hu ?_
        have := k _ (keeps_refl _)
        cases us with
        | nil => exact absurd rfl hlen
        | cons => exact this
end
end Mine
end

/- LayD -/
section
open PySem PySem.W PySem.Calls PyProof.Rows
set_option maxRecDepth 100000
namespace Mine

noncomputable def EVS (g : Gd) (c : Cx) (ρ : Vars) (θ : Own) (pos : Pos) (es : List Expr) (ds : List D) : Prop :=
  ∀ (s : Shared) (Q : List Value → Shared → Prop) (E : Value → Shared → Prop), Inv g c ρ θ s → (∀ vs s', Keeps s s' → Reps c.av s'.heap vs ds → Q vs s') →
    wpAny (model g.prog g.w) c.A (spliced (backTo pos (starEach es c.env))) Q E s
/-- a slice's part -/
noncomputable def EVP (g : Gd) (c : Cx) (ρ : Vars) (θ : Own) (e : Option Expr) (o : Option Int) : Prop :=
  ∀ (s : Shared) (Q : Value → Shared → Prop) (E : Value → Shared → Prop), Inv g c ρ θ s → (∀ v s', Keeps s s' → IsPart v o → Q v s') → wpAny (model g.prog g.w) c.A (evalPart e c.env) Q E s
/-- an item by an int -/
noncomputable def IOP (g : Gd) (c : Cx) (dv : D) (n : Int) (d : D) : Prop :=
  ∀ (ρ : Vars) (θ : Own) (s : Shared) (v : Value) (t : Tok) (Q : Value → Shared → Prop) (E : Value → Shared → Prop), Inv g c ρ θ s → Rep c.av s.heap v dv →
    (∀ v s', Keeps s s' → Rep c.av s'.heap v d → Q v s') → (∃ T id, s.TypeIs v T ∧ typeLookup (.type T) "__getitem__" = pure (some (.builtin id))) ∧ wpAny (model g.prog g.w) c.A (getItem v (.int n t)) Q E s

noncomputable def clip (n : Nat) (i : Int) : Nat := (max 0 (min (if i < 0 then i + n else i) n)).toNat
noncomputable def pySlice {α : Type} (xs : List α) (lo hi : Option Int) : List α :=
  (xs.drop ((lo.map (clip xs.length)).getD 0)).take ((hi.map (clip xs.length)).getD xs.length - (lo.map (clip xs.length)).getD 0)
noncomputable def pyGet {α : Type} (xs : List α) (i : Int) : Option α := (seqIndex? i xs.length).bind (xs[·]?)

theorem clip_le (n : Nat) (i : Int) : clip n i ≤ n := by unfold clip; (first | assumption | lia | omega)
theorem bounds_eq (lo hi : Option Int) (n : Nat) : sliceBounds lo hi none n = ((((lo.map (clip n)).getD 0 : Nat) : Int), (((hi.map (clip n)).getD n : Nat) : Int), 1) := by
  simp only [sliceBounds, Option.getD_none, show (1 : Int) > 0 by decide, if_true]
  cases lo <;> cases hi <;> simp [clip] <;> (first | assumption | lia | omega)
theorem pick_eq (items : List Value) (lo hi : Option Int) : slicePick items.toArray lo hi none = (pySlice items lo hi).toArray := by
  have e := bounds_eq lo hi items.toArray.size
  rw [kmk_pick_nat _ e]
  simp [pySlice]
theorem idx_eq (lo hi : Option Int) (n : Nat) : Builtin.Str.strSliceIndices lo hi 1 n = (List.range (((hi.map (clip n)).getD n) - ((lo.map (clip n)).getD 0))).map (((lo.map (clip n)).getD 0) + ·) := by
  rw [← sliceRange_one]
  have e := bounds_eq lo hi n
  unfold sliceBounds at e
  unfold Builtin.Str.strSliceIndices
  simp only [Option.getD_none, show (1 : Int) > 0 by decide, if_true] at e ⊢
  have e1 := congrArg Prod.fst e
  have e2 := congrArg (fun x => x.2.1) e
  exact congr (congr (congrArg sliceRange e1) e2) rfl
theorem pySlice_all {α : Type} (xs : List α) (lo hi : Option Int) (h : ((hi.map (clip xs.length)).getD xs.length) - ((lo.map (clip xs.length)).getD 0) = xs.length) : pySlice xs lo hi = xs := by
  have h1 : (hi.map (clip xs.length)).getD xs.length ≤ xs.length := by cases hi <;> simp [clip_le]
  unfold pySlice
  generalize (hi.map (clip xs.length)).getD xs.length = b at *
  generalize (lo.map (clip xs.length)).getD 0 = a at *
  by_cases hn : xs.length = 0
  · have : xs = [] := by simpa using hn
    subst this; simp
  · have ha : a = 0 := by (first | assumption | lia | omega)
    subst ha
    rw [List.drop_zero, List.take_of_length_le (by (first | assumption | lia | omega))]

section
variable {g : Gd} {c : Cx} {ρ : Vars} {θ : Own} {e e1 e2 value slice : Expr} {d dv : D} {pos p : Pos} {es : List Expr} {ds us : List D} {n : Int}
theorem EVS.nil : EVS g c ρ θ pos [] [] := by
  intro s Q E i k
  exact spliced_none (k [] s (keeps_refl s) .nil)
theorem EVS.cons (h : EV g c ρ θ e d) (hs : EVS g c ρ θ pos es ds) (he : starEach (e :: es) c.env = (false, eval e c.env) :: starEach es c.env := by rfl) : EVS g c ρ θ pos (e :: es) (d :: ds) := by
  intro s Q E i k
  refine spliced_more (h s _ E i fun v s1 k1 r1 => hs s1 _ E (i.keeps k1) fun vs s2 k2 r2 => ?_) he
  exact k _ s2 (keeps_trans k1 k2) (.cons (r1.keep (Keeps.h k2)) r2)
theorem EV.list (h : EVS g c ρ θ pos es ds) (hz : ds.length ≤ 1000 := by exact Nat.le_of_ble_eq_true rfl) : EV g c ρ θ (.List es pos) (.lst ds) := by
  intro s Q E i k
  refine wpAny_List (h s _ E i fun vs s1 k1 r1 => ⟨by rw [r1.length]; unfold sizeLine; (first | assumption | lia | omega), ?_⟩)
  exact k _ _ (keeps_trans k1 (keeps_push' _ _)) (.lst (i.keeps k1).fresh ⟨0, Heap.get?_push_size _ rfl⟩ (r1.keep (Keeps.h (keeps_push' _ _))))
theorem EV.tuple {kk : Nat} (h : EVS g c ρ θ pos es ds) (hz : ds.length ≤ 1000 := by exact Nat.le_of_ble_eq_true rfl) : EV g c ρ θ (.Tuple es kk pos) (.tup ds) := by
  intro s Q E i k
  refine wpAny_Tuple (h s _ E i fun vs s1 k1 r1 => ⟨by rw [r1.length]; unfold sizeLine; (first | assumption | lia | omega), ?_⟩)
  exact k _ _ (keeps_trans k1 (keeps_push' _ _)) (.tup (i.keeps k1).fresh ⟨0, Heap.get?_push_size _ rfl⟩ (r1.keep (Keeps.h (keeps_push' _ _))))
theorem EV.neg (h : EV g c ρ θ e (.int n)) : EV g c ρ θ (.UnaryOp .USub e pos) (.int (-n)) := by
  intro s Q E i k
  refine wpAny_UnaryOp (h s _ E i fun v s1 k1 r1 => ?_)
  (first | cases r1 using Rep.int_cases | cases r1 using Rep.str_cases | cases r1 using Reps.nil_cases | cases r1 using Rep.fn_cases | cases r1 using Rep.bool_cases | cases r1)
  exact PyProof.Rows.neg_int (k _ _ (keeps_trans k1 (keeps_toks _ _)) (.int _ _))
theorem EVP.none : EVP g c ρ θ Option.none Option.none := by
  intro s Q E i k
  exact wpAny_evalPart_none (k _ s (keeps_refl s) .none)
theorem EVP.some (h : EV g c ρ θ e (.int n)) : EVP g c ρ θ (Option.some e) (Option.some n) := by
  intro s Q E i k
  refine wpAny_evalPart_some (h s _ E i fun v s1 k1 r1 => ?_)
  (first | cases r1 using Rep.int_cases | cases r1 using Rep.str_cases | cases r1 using Reps.nil_cases | cases r1 using Rep.fn_cases | cases r1 using Rep.bool_cases | cases r1)
  exact k _ s1 k1 (.int _ _)

theorem EV.item (h : EV g c ρ θ value dv) (hi : EV g c ρ θ slice (.int n)) (ho : IOP g c dv n d) (hs : ∀ o j, subscripted slice false o j = operate [o, j] (getItem o j) := by intro _ _; rfl) : EV g c ρ θ (.Subscript value slice pos) d := by
  intro s Q E i k
  refine Subscript_ (h s _ E i fun v s1 k1 r1 => hi s1 _ E (i.keeps k1) fun w s2 k2 r2 => ?_)
  (first | cases r2 using Rep.int_cases | cases r2 using Rep.str_cases | cases r2 using Reps.nil_cases | cases r2 using Rep.fn_cases | cases r2 using Rep.bool_cases | cases r2)
  obtain ⟨⟨T, id, h1, h2⟩, h3⟩ := ho ρ θ s2 v _ Q E ((i.keeps k1).keeps k2) (r1.keep (Keeps.h k2)) fun u s3 k3 r3 => k u s3 (keeps_trans k1 (keeps_trans k2 k3)) r3
  exact tail_any h1 h2 h3 (hs _ _)
theorem fits63 {n : Int} (h1 : -1000000 ≤ n) (h2 : n ≤ 1000000) : (decide (n < -(2 ^ 63 : Int)) || decide (n ≥ 2 ^ 63)) = false := by
  rw [decide_eq_false (by (first | assumption | lia | omega)), decide_eq_false (by (first | assumption | lia | omega))]; rfl
theorem IOP.str {x : List Nat} {q : Nat} (h : pyGet x n = some q) (h1 : -1000000 ≤ n) (h2 : n ≤ 1000000) : IOP g c (.str x) n (.str [q]) := by
  intro ρ θ s v t Q E i r k
  (first | cases r using Rep.int_cases | cases r using Rep.str_cases | cases r using Reps.nil_cases | cases r using Rep.fn_cases | cases r using Rep.bool_cases | cases r)
  refine ⟨⟨"str", _, typeIs_str _ _ _, F.slot_str_getitem.lookup⟩, PySem.P.getItem_str (c := q) (fits63 h1 h2) ?_ (k _ _ (keeps_toks _ _) (.str [q] _))⟩
  simpa [pyGet, str_length] using h
theorem IOP.lst (h : pyGet us n = some d) (h1 : -1000000 ≤ n) (h2 : n ≤ 1000000) : IOP g c (.lst us) n d := by
  intro ρ θ s v t Q E i r k
  cases r using Rep.lst_cases with
  | lst n1 hl q =>
    have hl' := hl.isList
    unfold pyGet seqIndex? at h
    by_cases h0 : n < 0
    · simp only [h0, if_true] at h
      split at h
      · rename_i hc
        simp only [Bool.and_eq_true, decide_eq_true_eq] at hc
        obtain ⟨y, hy, ry⟩ := q.get (by simpa using h)
        refine ⟨⟨"list", _, hl'.typeIs, F.slot_list_getitem.lookup⟩, wpAny_getItem_list_neg hl' h0 (by simp [q.length]; (first | assumption | lia | omega)) (by (first | assumption | lia | omega)) ?_ (k y _ (keeps_refl _) ry)⟩
        simpa [q.length] using hy
      · simp at h
    · simp only [h0, if_false] at h
      split at h
      · obtain ⟨y, hy, ry⟩ := q.get (by simpa using h)
        exact ⟨⟨"list", _, hl'.typeIs, F.slot_list_getitem.lookup⟩, wpAny_getItem_list hl' (by (first | assumption | lia | omega)) (by (first | assumption | lia | omega)) (by simpa using hy) (k y _ (keeps_refl _) ry)⟩
      · simp at h

theorem EV.slice_lst {lo hi : Option Expr} {l u : Option Int} (h : EV g c ρ θ value (.lst us)) (hl : EVP g c ρ θ lo l) (hh : EVP g c ρ θ hi u) (hz : us.length ≤ 1000000) :
    EV g c ρ θ (.Subscript value (.Slice lo hi Option.none p) pos) (.lst (pySlice us l u)) := by
  intro s Q E i k
  refine Subscript_ (h s _ E i fun v s1 k1 r1 => wpAny_Slice (hl s1 _ E (i.keeps k1) fun vl s2 k2 p2 => hh s2 _ E ((i.keeps k1).keeps k2) fun vu s3 k3 p3 => wpAny_evalPart_none ?_))
  have i3 := ((i.keeps k1).keeps k2).keeps k3
  have r3 := r1.keep (Keeps.h (keeps_trans k2 k3))
  have kk := keeps_trans k1 (keeps_trans k2 k3)
  cases r3 using Rep.lst_cases with
  | lst n1 hl q =>
    rename_i a ws
    have hl4 : (s3.heap.push { cls := .type "slice", data := .fields #[vl, vu, Value.none] }).PlainList a ws.toArray := hl.at fun o e => Heap.get?_push_of_some _ e
    refine tail_any (T := "list") (Heap.IsList.typeIs (s := { s3 with heap := s3.heap.push { cls := .type "slice", data := .fields #[vl, vu, Value.none] } }) hl4.isList) F.slot_list_getitem.lookup ?_ rfl
    refine wpAny_getItem_list_slice (st := Option.none) (s := { s3 with heap := s3.heap.push { cls := .type "slice", data := .fields #[vl, vu, Value.none] } }) hl4.isList (Heap.IsSliceOf.new _ _ _ _) p2 p3 .none (by simp) ?_ ?_
    · rw [pick_eq]
      refine k _ _ (keeps_trans kk (keeps_trans (keeps_push' _ _) (keeps_push' _ _))) (.lst ((i3.keeps (keeps_push' _ _)).fresh) ⟨0, Heap.get?_push_size _ rfl⟩ ?_)
      have z : Reps c.av s3.heap (pySlice ws l u) (pySlice us l u) := by
        have := Reps.take ((u.map (clip us.length)).getD us.length - (l.map (clip us.length)).getD 0) (Reps.drop ((l.map (clip us.length)).getD 0) q)
        simpa [pySlice, q.length] using this
      exact z.keep (Keeps.h (keeps_trans (keeps_push' _ _) (keeps_push' { s3 with heap := s3.heap.push { cls := .type "slice", data := .fields #[vl, vu, Value.none] } } _)))
    · simp [q.length]; unfold sizeLine; (first | assumption | lia | omega)
theorem EV.rev_lst {st : Expr} (h : EV g c ρ θ value (.lst us)) (hst : EV g c ρ θ st (.int (-1))) (hz : us.length ≤ 1000000) :
    EV g c ρ θ (.Subscript value (.Slice Option.none Option.none (Option.some st) p) pos) (.lst us.reverse) := by
  intro s Q E i k
  refine Subscript_ (h s _ E i fun v s1 k1 r1 => wpAny_Slice (wpAny_evalPart_none (wpAny_evalPart_none (wpAny_evalPart_some (hst s1 _ E (i.keeps k1) fun vs s3 k3 p3 => ?_)))))
  have i3 := (i.keeps k1).keeps k3
  have r3 := r1.keep (Keeps.h k3)
  have kk := keeps_trans k1 k3
  (first | cases p3 using Rep.int_cases | cases p3 using Rep.str_cases | cases p3 using Reps.nil_cases | cases p3 using Rep.fn_cases | cases p3 using Rep.bool_cases | cases p3)
  rename_i tk
  cases r3 using Rep.lst_cases with
  | lst n1 hl q =>
    rename_i a ws
    have hl4 : (s3.heap.push { cls := .type "slice", data := .fields #[Value.none, Value.none, Value.int (-1) tk] }).PlainList a ws.toArray := hl.at fun o e => Heap.get?_push_of_some _ e
    refine tail_any (T := "list") (Heap.IsList.typeIs (s := { s3 with heap := s3.heap.push { cls := .type "slice", data := .fields #[Value.none, Value.none, Value.int (-1) tk] } }) hl4.isList) F.slot_list_getitem.lookup ?_ rfl
    refine wpAny_getItem_list_slice (st := Option.some (-1)) (s := { s3 with heap := s3.heap.push { cls := .type "slice", data := .fields #[Value.none, Value.none, Value.int (-1) tk] } }) hl4.isList (Heap.IsSliceOf.new _ _ _ _) .none .none (.int _ _) (by simp) ?_ ?_
    · rw [krv_pick]
      refine k _ _ (keeps_trans kk (keeps_trans (keeps_push' _ _) (keeps_push' _ _))) (.lst ((i3.keeps (keeps_push' _ _)).fresh) ⟨0, Heap.get?_push_size _ rfl⟩ ?_)
      exact (q.reverse).keep (Keeps.h (keeps_trans (keeps_push' _ _) (keeps_push' { s3 with heap := s3.heap.push { cls := .type "slice", data := .fields #[Value.none, Value.none, Value.int (-1) tk] } } _)))
    · simp [q.length]; unfold sizeLine; (first | assumption | lia | omega)
theorem isPart_value {v : Value} {o : Option Int} (h : IsPart v o) : ∃ q : Option (Int × Tok), v = partValue q ∧ q.map (·.1) = o := by
  cases h with
  | none => exact ⟨Option.none, rfl, rfl⟩
  | int i t => exact ⟨Option.some (i, t), rfl, rfl⟩
theorem EV.slice_str {x : List Nat} {lo hi : Option Expr} {l u : Option Int} (h : EV g c ρ θ value (.str x)) (hl : EVP g c ρ θ lo l) (hh : EVP g c ρ θ hi u) (hz : x.length ≤ 1000000) :
    EV g c ρ θ (.Subscript value (.Slice lo hi Option.none p) pos) (.str (pySlice x l u)) := by
  intro s Q E i k
  refine Subscript_ (h s _ E i fun v s1 k1 r1 => wpAny_Slice (hl s1 _ E (i.keeps k1) fun vl s2 k2 p2 => hh s2 _ E ((i.keeps k1).keeps k2) fun vu s3 k3 p3 => wpAny_evalPart_none ?_))
  have kk := keeps_trans k1 (keeps_trans k2 k3)
  (first | cases r1 using Rep.int_cases | cases r1 using Rep.str_cases | cases r1 using Reps.nil_cases | cases r1 using Rep.fn_cases | cases r1 using Rep.bool_cases | cases r1)
  rename_i tk
  obtain ⟨ql, rfl, e1⟩ := isPart_value p2
  obtain ⟨qu, rfl, e2⟩ := isPart_value p3
  refine tail_any (T := "str") (typeIs_str _ _ _) F.slot_str_getitem.lookup ?_ rfl
  refine wpAny_getItem_str_slice (l := ql) (u := qu) (st := Option.none) ⟨_, Heap.get?_push_size _ rfl, rfl, rfl⟩ rfl ?_
  unfold sliceMade slicePicked
  simp only [Option.map_none, Option.getD_none, e1, e2, idx_eq, str_length, List.length_map, List.length_range]
  split
  · rename_i hfull
    refine k _ _ (keeps_trans kk (keeps_push' _ _)) ?_
    have hf : ((u.map (clip x.length)).getD x.length) - ((l.map (clip x.length)).getD 0) = x.length := by simpa using hfull
    rw [pySlice_all x l u hf]
    exact .str _ _
  · have e : (List.map (fun q => (l.map (clip x.length)).getD 0 + q) (List.range (((u.map (clip x.length)).getD x.length) - ((l.map (clip x.length)).getD 0)))).filterMap (x.toArray[·]?) = pySlice x l u := by
      rw [pick_run]; rfl
    rw [e]
    refine ⟨?_, k _ _ (keeps_trans kk (keeps_push _ _ _)) (.str _ _)⟩
    show (pySlice x l u).toArray.size ≤ sizeLine
    rw [List.size_toArray]
    unfold pySlice sizeLine
    rw [List.length_take, List.length_drop]
    (first | assumption | lia | omega)
end
end Mine
end

/- LayE -/
section
open PySem PySem.W PySem.Calls PyProof.Rows
set_option maxRecDepth 100000
namespace Mine

/-- what a def gives back -/
noncomputable def FN (g : Gd) (k : Nat) (f : Addr) (ds : List D) (d : D) : Prop :=
  ∀ (A : Around) (av : List Addr) (s : Shared) (vs : List Value) (Q : Value → Shared → Prop) (E : Value → Shared → Prop), g.Ok → AOk A k →
    (∀ b o, g.h₀.get? b = some o → s.heap.get? b = some o) → (∀ b ∈ av, g.h₀.get? b = none ∧ ∃ o, s.heap.get? b = some o) → Reps av s.heap vs ds →
    (∀ v s', Keeps s s' → Rep av s'.heap v d → Q v s') → wpAny (model g.prog g.w) A (call (.ref f) vs) Q E s
/-- a built-in function on data -/
noncomputable def FOP (g : Gd) (c : Cx) (id : String) (ds : List D) (d : D) : Prop :=
  ∀ (ρ : Vars) (θ : Own) (s : Shared) (vs : List Value) (Q : Value → Shared → Prop) (E : Value → Shared → Prop), Inv g c ρ θ s → Reps c.av s.heap vs ds →
    (∀ v s', Keeps s s' → Rep c.av s'.heap v d → Q v s') → wpAny (model g.prog g.w) c.A (call (.builtin id) vs) Q E s

section
variable {g : Gd} {c : Cx} {ρ : Vars} {θ : Own} {e e1 e2 value slice : Expr} {d dv : D} {pos p : Pos} {es : List Expr} {ds us : List D} {n : Int}
theorem eval_glob {x : Str} {np : Pos} {v : Value} {s : Shared} {Q : Value → Shared → Prop} {E : Value → Shared → Prop} (i : Inv g c ρ θ s) (hn : nsIn g.K mainGlobals x = some (some v)) (hq : Q v s)
    (hx : c.env.kindOf x = some .globalImplicit := by rfl) (hd : (x == ("__debug__" : Str)) = false := by rfl) : wpAny (model g.prog g.w) c.A (eval (.Name x np) c.env) Q E s := by
  obtain ⟨mg, mb, hg, hb, _⟩ := i.gok.top
  exact Name_function_global i.ok.kind hx (loadGlobal_global (env := c.env) (by rw [i.ok.glob]; exact hg.keeps i.ground) (mg_of i.gok.X hg hn) hq) hd
theorem eval_boot {x : Str} {np : Pos} {v : Value} {s : Shared} {Q : Value → Shared → Prop} {E : Value → Shared → Prop} (i : Inv g c ρ θ s) (hn : nsIn g.K mainGlobals x = some none) (hv : bootBuiltins x = some v) (hq : Q v s)
    (hx : c.env.kindOf x = some .globalImplicit := by rfl) (hd : (x == ("__debug__" : Str)) = false := by rfl) (hne : x ≠ "__name__" := by decide) : wpAny (model g.prog g.w) c.A (eval (.Name x np) c.env) Q E s := by
  obtain ⟨mg, mb, hg, hb, hbb⟩ := i.gok.top
  exact Name_function_global i.ok.kind hx (loadGlobal_builtin (env := c.env) (by rw [i.ok.glob]; exact hg.keeps i.ground) (mg_none_of i.gok.X hg hn) (by rw [i.ok.bui]; exact hb.keeps i.ground) ((hbb x hne).trans hv) hq) hd
theorem EV.fname {x : Str} {f : Addr} (hn : nsIn g.K mainGlobals x = some (some (.ref f))) (hx : c.env.kindOf x = some .globalImplicit := by rfl) (hd : (x == ("__debug__" : Str)) = false := by rfl) : EV g c ρ θ (.Name x p) (.fn f) := by
  intro s Q E i k
  exact eval_glob i hn (k _ s (keeps_refl s) (.fn f)) hx hd
theorem AOk.le {A : Around} {k j : Nat} (h : AOk A k) (hj : j ≤ k) : AOk A j := ⟨h.handled, by have := h.depth; (first | assumption | lia | omega), by have := h.units; (first | assumption | lia | omega)⟩

theorem EV.call {x : Str} {np : Pos} {f : Addr} {k : Nat} (hF : FN g k f ds d) (hn : nsIn g.K mainGlobals x = some (some (.ref f))) (hk : keepIn g.K (.ref f) = true) (hr : k ≤ c.k) (ha : EVS g c ρ θ pos (e :: es) ds)
    (hx : c.env.kindOf x = some .globalImplicit := by rfl) (hd : (x == ("__debug__" : Str)) = false := by rfl)
    (he : starEach (e :: es) c.env = (false, eval e c.env) :: starEach es c.env := by rfl) (hplain : (backTo pos (starEach es c.env)).any (·.1) = false := by rfl) :
    EV g c ρ θ (.Call (.Name x np) (e :: es) [] pos) d := by
  intro s Q E i kk
  refine wpAny_Call_NameR (eval_glob i hn ?_ hx hd)
  refine callWith_K (K := g.K) (h₀ := g.h₀) i.gok.X hk (ha s _ E i fun vs s1 k1 r1 => ⟨i.gok.X.keeps (i.keeps k1).ground, ?_⟩) he hplain
  exact hF c.A c.av s1 vs Q E i.gok (i.ok.a.le hr) (i.keeps k1).ground (i.keeps k1).avok r1 fun v s2 k2 r2 => kk v s2 (keeps_trans k1 k2) r2
/-- a call of a def that a variable holds -/
theorem EV.callv {x : Str} {np : Pos} {f : Addr} {k : Nat} (hF : FN g k f ds d) (hv : ρ.lookup x = some (.fn f)) (hk : keepIn g.K (.ref f) = true) (hr : k ≤ c.k) (ha : EVS g c ρ θ pos (e :: es) ds)
    (hd : (x == ("__debug__" : Str)) = false := by rfl)
    (he : starEach (e :: es) c.env = (false, eval e c.env) :: starEach es c.env := by rfl) (hplain : (backTo pos (starEach es c.env)).any (·.1) = false := by rfl) :
    EV g c ρ θ (.Call (.Name x np) (e :: es) [] pos) d := by
  intro s Q E i kk
  refine wpAny_Call_NameR (EV.var hv hd s _ E i fun fv s0 k0 r0 => ?_)
  (first | cases r0 using Rep.int_cases | cases r0 using Rep.str_cases | cases r0 using Reps.nil_cases | cases r0 using Rep.fn_cases | cases r0 using Rep.bool_cases | cases r0)
  have i := i.keeps k0
  refine callWith_K (K := g.K) (h₀ := g.h₀) i.gok.X hk (ha s0 _ E i fun vs s1 k1 r1 => ⟨i.gok.X.keeps (i.keeps k1).ground, ?_⟩) he hplain
  exact hF c.A c.av s1 vs Q E i.gok (i.ok.a.le hr) (i.keeps k1).ground (i.keeps k1).avok r1 fun v s2 k2 r2 => kk v s2 (keeps_trans k0 (keeps_trans k1 k2)) r2
theorem EV.bcall {x : Str} {np : Pos} {id : String} (hF : FOP g c id ds d) (hn : nsIn g.K mainGlobals x = some none) (ha : EVS g c ρ θ pos (e :: es) ds) (hv : bootBuiltins x = some (.builtin id) := by rfl)
    (hx : c.env.kindOf x = some .globalImplicit := by rfl) (hd : (x == ("__debug__" : Str)) = false := by rfl) (hne : x ≠ "__name__" := by decide)
    (he : starEach (e :: es) c.env = (false, eval e c.env) :: starEach es c.env := by rfl) (hplain : (backTo pos (starEach (e :: es) c.env)).any (·.1) = false := by rfl) :
    EV g c ρ θ (.Call (.Name x np) (e :: es) [] pos) d := by
  intro s Q E i kk
  refine wpAny_Call_NameR (eval_boot i hn hv ?_ hx hd hne)
  refine callWith_builtin hplain ?_
  rw [he]
  refine evalArgs_plain ?_
  have := ha s (fun vs s' => wpAny (model g.prog g.w) c.A (PySem.call (.builtin id) ([] ++ vs) []) Q E s') E i fun vs s1 k1 r1 => hF ρ θ s1 vs Q E (i.keeps k1) r1 fun v s2 k2 r2 => kk v s2 (keeps_trans k1 k2) r2
  rw [he] at this
  exact this
theorem EV.method {name : Str} {apos : Pos} {T id : String} (ho : EV g c ρ θ e1 dv) (ha : EVS g c ρ θ pos (e :: es) ds) (hF : FOP g c id (dv :: ds) d)
    (hT : ∀ (s : Shared) v, Rep c.av s.heap v dv → s.TypeIs v T ∧ (∀ a, v = .ref a → ∃ ob, s.heap.get? a = some ob ∧ ob.dict = none))
    (pa : PlainAttrs T) (slot : Slot T name id) (hty : typeOf (.builtin id) = pure (.type "method_descriptor"))
    (hbase : attributeBase e1 name c.env (eval e1 c.env) = eval e1 c.env := by rfl)
    (hfew : ((backTo pos (starEach (e :: es) c.env)).all (fun x => !x.1) && (backToKw pos (keywordEach [] c.env)).all (fun x => x.1.isSome)
      && decide ((e :: es).length + ([] : List Keyword).length + (if ([] : List Keyword).isEmpty then 0 else 1) < 30)) = true := by rfl)
    (hline : (apos.endLine == pos.line) = true := by rfl)
    (he : starEach (e :: es) c.env = (false, eval e c.env) :: starEach es c.env := by rfl) (hplain : (backTo pos (starEach (e :: es) c.env)).any (·.1) = false := by rfl) :
    EV g c ρ θ (.Call (.Attribute e1 name apos) (e :: es) [] pos) d := by
  intro s Q E i kk
  refine wpAny_Call_method hbase hfew hline pa slot hty (ho s _ E i fun v s1 k1 r1 => ⟨(hT s1 v r1).1, (hT s1 v r1).2, ?_⟩)
  refine callWith_builtin hplain ?_
  rw [he]
  refine evalArgs_plain ?_
  have := ha s1 (fun vs s' => wpAny (model g.prog g.w) c.A (PySem.call (.builtin id) ([v] ++ vs) []) Q E s') E (i.keeps k1) fun vs s2 k2 r2 =>
    hF ρ θ s2 (v :: vs) Q E ((i.keeps k1).keeps k2) (.cons (r1.keep (Keeps.h k2)) r2) fun u s3 k3 r3 => kk u s3 (keeps_trans k1 (keeps_trans k2 k3)) r3
  rw [he] at this
  exact this
theorem FOP.len_str {x : List Nat} (hz : x.length ≤ 1000000) : FOP g c "len" [.str x] (.int x.length) := by
  intro ρ θ s vs Q E i r k
  cases r using Reps.cons_cases with
  | cons p q =>
    (first | cases q using Rep.int_cases | cases q using Rep.str_cases | cases q using Reps.nil_cases | cases q using Rep.fn_cases | cases q using Rep.bool_cases | cases q)
    (first | cases p using Rep.int_cases | cases p using Rep.str_cases | cases p using Reps.nil_cases | cases p using Rep.fn_cases | cases p using Rep.bool_cases | cases p)
    refine PyProof.Rows.len_str (by rw [str_length]; (first | assumption | lia | omega)) ?_
    rw [str_length]
    exact k _ _ (keeps_toks _ _) (.int _ _)
theorem FOP.len_lst (hz : us.length ≤ 1000000) : FOP g c "len" [.lst us] (.int us.length) := by
  intro ρ θ s vs Q E i r k
  cases r using Reps.cons_cases with
  | cons p q =>
    (first | cases q using Rep.int_cases | cases q using Rep.str_cases | cases q using Reps.nil_cases | cases q using Rep.fn_cases | cases q using Rep.bool_cases | cases q)
    cases p using Rep.lst_cases with
    | lst n1 hl q1 =>
      refine Calls.call_len_list hl.isList (by simp [q1.length]; (first | assumption | lia | omega)) ?_
      rw [List.size_toArray, q1.length]
      exact k _ _ (keeps_toks _ _) (.int _ _)
theorem intsAre_of {av : List Addr} {h : Heap} : ∀ {ws : List Value} {ns : List Int}, Reps av h ws (ns.map D.int) → IntsAre ws ns
  | _, [], .nil => .nil
  | _, n :: ns, .cons p q => by cases p; exact .cons _ _ (intsAre_of q)
theorem FOP.count {ns : List Int} : FOP g c "list.count" [.lst (ns.map D.int), .int n] (.int (ns.count n : Nat)) := by
  intro ρ θ s vs Q E i r k
  cases r using Reps.cons_cases with
  | cons p q =>
    cases q using Reps.cons_cases with
    | cons p2 q2 =>
      (first | cases q2 using Rep.int_cases | cases q2 using Rep.str_cases | cases q2 using Reps.nil_cases | cases q2 using Rep.fn_cases | cases q2 using Rep.bool_cases | cases q2)
      (first | cases p2 using Rep.int_cases | cases p2 using Rep.str_cases | cases p2 using Reps.nil_cases | cases p2 using Rep.fn_cases | cases p2 using Rep.bool_cases | cases p2)
      cases p using Rep.lst_cases with
      | lst n1 hl q1 => exact count_list_ints hl.isList (intsAre_of q1) (k _ _ (keeps_toks _ _) (.int _ _))
theorem lst_type {s : Shared} {v : Value} (r : Rep c.av s.heap v (.lst us)) : s.TypeIs v "list" ∧ (∀ a, v = .ref a → ∃ ob, s.heap.get? a = some ob ∧ ob.dict = none) := by
  cases r using Rep.lst_cases with
  | lst n1 hl q1 =>
    obtain ⟨m, e⟩ := hl
    exact ⟨⟨_, e, rfl⟩, fun a h => by cases h; exact ⟨_, e, rfl⟩⟩
theorem EV.count {ns : List Int} {apos : Pos} (ho : EV g c ρ θ e1 (.lst (ns.map D.int))) (ha : EV g c ρ θ e (.int n))
    (hbase : attributeBase e1 "count" c.env (eval e1 c.env) = eval e1 c.env := by rfl)
    (hfew : ((backTo pos (starEach [e] c.env)).all (fun x => !x.1) && (backToKw pos (keywordEach [] c.env)).all (fun x => x.1.isSome)
      && decide (([e] : List Expr).length + ([] : List Keyword).length + (if ([] : List Keyword).isEmpty then 0 else 1) < 30)) = true := by rfl)
    (hline : (apos.endLine == pos.line) = true := by rfl)
    (he : starEach [e] c.env = (false, eval e c.env) :: starEach [] c.env := by rfl) (hplain : (backTo pos (starEach [e] c.env)).any (·.1) = false := by rfl) :
    EV g c ρ θ (.Call (.Attribute e1 "count" apos) [e] [] pos) (.int (ns.count n : Nat)) :=
  EV.method ho (EVS.cons ha .nil he) FOP.count (fun _ _ r => lst_type r) F.plainAttrs_list F.slot_list_count F.type_list_count hbase hfew hline he hplain
end
end Mine
end

/- LayF -/
section
open PySem PySem.W PySem.Calls PyProof.Rows
set_option maxRecDepth 100000
namespace Mine

noncomputable def KeepsBut (mu : List Addr) (s s' : Shared) : Prop := ∃ h' tk, s' = { s with heap := h', toks := tk } ∧ ∀ b o, b ∉ mu → s.heap.get? b = some o → h'.get? b = some o
theorem KeepsBut.h {mu : List Addr} {s s' : Shared} (k : KeepsBut mu s s') : ∀ b o, b ∉ mu → s.heap.get? b = some o → s'.heap.get? b = some o := by
  obtain ⟨h', tk, rfl, hk⟩ := k; exact hk
theorem keepsBut_refl (mu : List Addr) (s : Shared) : KeepsBut mu s s := ⟨s.heap, s.toks, rfl, fun _ _ _ e => e⟩
theorem keepsBut_trans {mu : List Addr} {s s' s'' : Shared} (a : KeepsBut mu s s') (b : KeepsBut mu s' s'') : KeepsBut mu s s'' := by
  obtain ⟨h, t, rfl, k⟩ := a
  obtain ⟨h', t', rfl, k'⟩ := b
  exact ⟨h', t', rfl, fun b o n e => k' b o n (k b o n e)⟩
theorem keepsBut_of {mu : List Addr} {s s' : Shared} (a : Keeps s s') : KeepsBut mu s s' := by
  obtain ⟨h, t, rfl, k⟩ := a
  exact ⟨h, t, rfl, fun b o _ e => k b o e⟩
/-- a fresh part of what may change falls away -/
theorem keepsBut_fresh {wr mu : List Addr} {s s' s'' : Shared} (a : Keeps s s') (b : KeepsBut (wr ++ mu) s' s'') (hw : ∀ x ∈ wr, s.heap.get? x = none) : KeepsBut mu s s'' := by
  obtain ⟨h, t, rfl, k⟩ := a
  obtain ⟨h', t', rfl, k'⟩ := b
  refine ⟨h', t', rfl, fun b o n e => k' b o (fun m => ?_) (k b o e)⟩
  rcases List.mem_append.mp m with m | m
  · rw [hw b m] at e; cases e
  · exact n m

inductive Out where
  | next (ρ : Vars) (θ : Own)
  | brk (ρ : Vars) (θ : Own)
  | cont (ρ : Vars) (θ : Own)
  | ret (d : D)

noncomputable def Fits (g : Gd) (c : Cx) (o : Out) (f : Flow) (s : Shared) : Prop :=
  match o with
  | .next ρ θ => f = .next ∧ Inv g c ρ θ s
  | .brk ρ θ => f = .brk ∧ Inv g c ρ θ s
  | .cont ρ θ => f = .cont ∧ Inv g c ρ θ s
  | .ret d => ∃ v, f = .ret v ∧ Rep c.ov s.heap v d

noncomputable def EX (g : Gd) (c : Cx) (ρ : Vars) (θ : Own) (st : Stmt) (o : Out) : Prop :=
  ∀ (s : Shared) (Q : Flow → Shared → Prop) (E : Value → Shared → Prop), Inv g c ρ θ s → (∀ f s', KeepsBut c.mu s s' → Fits g c o f s' → Q f s') → wpAny (model g.prog g.w) c.A (exec st c.env) Q E s
noncomputable def RUN (g : Gd) (c : Cx) (ρ : Vars) (θ : Own) (ss : List Stmt) (o : Out) : Prop :=
  ∀ (s : Shared) (Q : Flow → Shared → Prop) (E : Value → Shared → Prop), Inv g c ρ θ s → (∀ f s', KeepsBut c.mu s s' → Fits g c o f s' → Q f s') → wpAny (model g.prog g.w) c.A (execs ss c.env) Q E s
/-- a store into a name -/
noncomputable def STO (g : Gd) (c : Cx) (ρ : Vars) (θ : Own) (x : Str) (d : D) : Prop :=
  ∀ (s : Shared) (v : Value) (Q : Unit → Shared → Prop) (E : Value → Shared → Prop), Inv g c ρ θ s → Rep c.av s.heap v d → (∀ s', KeepsBut c.mu s s' → Inv g c ((x, d) :: ρ) θ s' → Q () s') → wpAny (model g.prog g.w) c.A (storeName c.env x v) Q E s

section
variable {g : Gd} {c : Cx} {ρ ρ' ρ1 ρ2 : Vars} {θ θ' θ1 : Own} {e e1 e2 value slice : Expr} {d d1 d2 dv : D} {pos p p1 p2 : Pos} {es : List Expr} {ds us : List D} {n : Int} {x y z : Str} {o : Out} {st : Stmt} {ss body orelse : List Stmt} {b : Bool}

theorem str_ne {x y : Str} (q : y ≠ x) : (y == x) = false := by
  cases h : (y == x) with
  | false => rfl
  | true => exact absurd (eq_of_beq h) q
theorem VarIs.but {h h' : Heap} {m m' : Str → Option Value} (hk : ∀ b o, b ∉ c.av → h.get? b = some o → h'.get? b = some o) (hm : c.env.kindOf x = some .local → m' x = m x)
    (hc : ∀ a v, c.env.kindOf x = some .cell → c.env.cells.lookup x = some a → h.IsCell a v → h'.IsCell a v) (r : VarIs c h m x d) : VarIs c h' m' x d := by
  rcases r with ⟨a, v, b, r⟩ | ⟨a, b, v, e, i, r⟩
  · exact .inl ⟨a, v, (hm a).trans b, r.keepBut hk⟩
  · exact .inr ⟨a, b, v, e, hc b _ a e i, r.keepBut hk⟩

theorem STO.local (hx : c.env.kindOf x = some .local := by rfl) (hθ : ∀ a ds y, θ = some (y, a, ds) → y ≠ x := by intro _ _ _ h; cases h <;> decide) : STO g c ρ θ x d := by
  intro s v Q E i r k
  obtain ⟨m, hn, hv, ho⟩ := i.vars
  refine wpAny_storeName_local hx hn (fun h' hn' hs => ?_) (by rw [i.ok.kind]; rfl)
  have hL := Cx.mu_av i.ok.locIn
  have hk : ∀ b o, b ∉ c.av → s.heap.get? b = some o → h'.get? b = some o := fun b o n e => hs.extBut b o (fun q => n (q ▸ hL)) e
  refine k _ ⟨h', _, rfl, fun b o n e => hs.extBut b o (fun q => n (q ▸ i.ok.locIn)) e⟩ ⟨i.gok, i.ok, ?_, ?_, ?_, _, hn', ?_, ?_⟩
  · intro b o e
    refine hs.extBut b o (fun q => ?_) (i.ground b o e)
    have := (i.avok _ hL).1
    rw [← q, e] at this; cases this
  · intro b hb
    refine ⟨(i.avok b hb).1, ?_⟩
    by_cases q : b = c.env.locals
    · obtain ⟨oL, es, ep, h1, _⟩ := hn'
      exact ⟨oL, q ▸ h1⟩
    · obtain ⟨o, e⟩ := (i.avok b hb).2
      exact ⟨o, hs.extBut b o q e⟩
  · intro y a e
    obtain ⟨u, q⟩ := i.cells y a e
    exact ⟨u, q.sameBut hs (i.ok.cellIn y a e).2⟩
  · intro y dy e
    by_cases q : y = x
    · subst q
      rw [List.lookup_cons_self] at e
      cases e
      exact .inl ⟨hx, v, by simp, r.keepBut hk⟩
    · have e' : ρ.lookup y = some dy := by
        rw [List.lookup_cons, str_ne q] at e
        exact e
      exact (hv y dy e').but hk (fun _ => by simp [q]) fun a w _ ha hi => hi.sameBut hs (i.ok.cellIn y a ha).2
  · intro y a ds e
    obtain ⟨p1, p2, p3, p4, p5, vs, p6, p7⟩ := ho y a ds e
    exact ⟨p1, by simp [hθ a ds y e, p2], p3, p4, p5, vs, p6.at (fun o q => hs.extBut _ _ p4 q), p7.keepBut hk⟩
theorem STO.cell {a₀ : Addr} (hc : c.env.cells.lookup x = some a₀) (hmu : a₀ ∈ c.mu) (hx : c.env.kindOf x = some .cell := by rfl) : STO g c ρ θ x d := by
  intro s v Q E i r k
  obtain ⟨m, hn, hv, ho⟩ := i.vars
  obtain ⟨v₀, hi₀⟩ := i.cells x a₀ hc
  refine wpAny_storeName_cell i.ok.kind hx hc hi₀ fun h' hi' hs => ?_
  have hL := Cx.mu_av hmu
  have hk : ∀ b o, b ∉ c.av → s.heap.get? b = some o → h'.get? b = some o := fun b o n e => hs.extBut b o (fun q => n (q ▸ hL)) e
  have hne : c.env.locals ≠ a₀ := fun q => (i.ok.cellIn x a₀ hc).2 q.symm
  refine k _ ⟨h', _, rfl, fun b o n e => hs.extBut b o (fun q => n (q ▸ hmu)) e⟩ ⟨i.gok, i.ok, ?_, ?_, ?_, m, hn.sameBut hs hne, ?_, ?_⟩
  · intro b o e
    refine hs.extBut b o (fun q => ?_) (i.ground b o e)
    have := (i.avok _ hL).1
    rw [← q, e] at this; cases this
  · intro b hb
    refine ⟨(i.avok b hb).1, ?_⟩
    by_cases q : b = a₀
    · obtain ⟨oL, h1, _⟩ := hi'
      exact ⟨oL, q ▸ h1⟩
    · obtain ⟨o, e⟩ := (i.avok b hb).2
      exact ⟨o, hs.extBut b o q e⟩
  · intro y a e
    by_cases q : a = a₀
    · exact ⟨_, q ▸ hi'⟩
    · obtain ⟨u, q'⟩ := i.cells y a e
      exact ⟨u, q'.sameBut hs q⟩
  · intro y dy e
    by_cases q : y = x
    · subst q
      rw [List.lookup_cons_self] at e
      cases e
      exact .inr ⟨hx, a₀, v, hc, hi', r.keepBut hk⟩
    · have e' : ρ.lookup y = some dy := by
        rw [List.lookup_cons, str_ne q] at e
        exact e
      exact (hv y dy e').but hk (fun _ => rfl) fun a w _ ha hi => hi.sameBut hs (i.ok.cellNe y x a a₀ ha hc q)
  · intro y a ds e
    obtain ⟨p1, p2, p3, p4, p5, vs, p6, p7⟩ := ho y a ds e
    exact ⟨p1, p2, p3, p4, p5, vs, p6.at (fun o q => hs.extBut _ _ (fun q' => p5 x a₀ hc q'.symm) q), p7.keepBut hk⟩

theorem RUN.nil : RUN g c ρ θ [] (.next ρ θ) := by
  intro s Q E i k
  exact wpAny_execs_nil (k _ s (keepsBut_refl _ s) ⟨rfl, i⟩)
theorem RUN.cons (h1 : EX g c ρ θ st (.next ρ' θ')) (h2 : RUN g c ρ' θ' ss o) : RUN g c ρ θ (st :: ss) o := by
  intro s Q E i k
  refine wpAny_execs_cons (h1 s _ E i fun f s1 k1 r1 => ?_)
  obtain ⟨rfl, i1⟩ := r1
  exact h2 s1 Q E i1 fun f s2 k2 r2 => k f s2 (keepsBut_trans k1 k2) r2
theorem RUN.stop (h1 : EX g c ρ θ st o) (ho : ∀ a b, o ≠ .next a b := by intro _ _ h; cases h) : RUN g c ρ θ (st :: ss) o := by
  intro s Q E i k
  refine wpAny_execs_cons (h1 s _ E i fun f s1 k1 r1 => ?_)
  cases o with
  | next a b => exact absurd rfl (ho a b)
  | brk a b => obtain ⟨rfl, i1⟩ := r1; exact k _ s1 k1 ⟨rfl, i1⟩
  | cont a b => obtain ⟨rfl, i1⟩ := r1; exact k _ s1 k1 ⟨rfl, i1⟩
  | ret d => obtain ⟨v, rfl, r⟩ := r1; exact k _ s1 k1 ⟨v, rfl, r⟩
/-- a known part of the variables is enough -/
theorem EX.out (h : EX g c ρ θ st (.next ρ1 θ')) (hw : ∀ x d, ρ'.lookup x = some d → ρ1.lookup x = some d) : EX g c ρ θ st (.next ρ' θ') := by
  intro s Q E i k
  exact h s Q E i fun f s' k' r => k f s' k' ⟨r.1, r.2.weaken hw⟩
theorem EX.assign (hv : EV g c ρ θ value d) (hs : STO g c ρ θ x d) (hw : swapsWith value (some (.Name x p)) pos.line c.env = pure false := by rfl) : EX g c ρ θ (.Assign [.Name x p] value pos) (.next ((x, d) :: ρ) θ) := by
  intro s Q E i k
  refine wpAny_Assign_Name (hv s _ E i fun v s1 k1 r1 => hs s1 v _ E (i.keeps k1) r1 fun s2 k2 i2 => ?_) hw
  exact k _ s2 (keepsBut_trans (keepsBut_of k1) k2) ⟨rfl, i2⟩
theorem EX.aug_add {a n : Int} (ho : ρ.lookup x = some (.int a)) (hv : EV g c ρ θ value (.int n)) (hs : STO g c ρ θ x (.int (a + n))) : EX g c ρ θ (.AugAssign (.Name x p) .Add value pos) (.next ((x, .int (a + n)) :: ρ) θ) := by
  intro s Q E i k
  obtain ⟨m, hn, hvv, _⟩ := i.vars
  have hold : ∀ Q', (∀ v, Rep c.av s.heap v (.int a) → Q' v s) → wpAny (model g.prog g.w) c.A (loadName c.env x) Q' E s := by
    intro Q' hq
    rcases hvv x _ ho with ⟨hk, v, hm, r⟩ | ⟨hk, b, v, hc, hi, r⟩
    · exact wpAny_loadName_local i.ok.kind hk hn hm (hq v r)
    · exact wpAny_loadName_cell i.ok.kind hk hc hi (hq v r)
  refine wpAny_AugAssign_Name (hold _ fun v r => hv s _ E i fun w s1 k1 r1 => ?_)
  (first | cases r using Rep.int_cases | cases r using Rep.str_cases | cases r using Reps.nil_cases | cases r using Rep.fn_cases | cases r using Rep.bool_cases | cases r); (first | cases r1 using Rep.int_cases | cases r1 using Rep.str_cases | cases r1 using Reps.nil_cases | cases r1 using Rep.fn_cases | cases r1 using Rep.bool_cases | cases r1)
  refine PyProof.Rows.iadd_int (hs _ _ _ E ((i.keeps k1).keeps (keeps_toks _ _)) (.int _ _) fun s2 k2 i2 => ?_)
  exact k _ s2 (keepsBut_trans (keepsBut_of (keeps_trans k1 (keeps_toks _ _))) k2) ⟨rfl, i2⟩
theorem EX.aug_sub {a n : Int} (ho : ρ.lookup x = some (.int a)) (hv : EV g c ρ θ value (.int n)) (hs : STO g c ρ θ x (.int (a - n))) : EX g c ρ θ (.AugAssign (.Name x p) .Sub value pos) (.next ((x, .int (a - n)) :: ρ) θ) := by
  intro s Q E i k
  obtain ⟨m, hn, hvv, _⟩ := i.vars
  have hold : ∀ Q', (∀ v, Rep c.av s.heap v (.int a) → Q' v s) → wpAny (model g.prog g.w) c.A (loadName c.env x) Q' E s := by
    intro Q' hq
    rcases hvv x _ ho with ⟨hk, v, hm, r⟩ | ⟨hk, b, v, hc, hi, r⟩
    · exact wpAny_loadName_local i.ok.kind hk hn hm (hq v r)
    · exact wpAny_loadName_cell i.ok.kind hk hc hi (hq v r)
  refine wpAny_AugAssign_Name (hold _ fun v r => hv s _ E i fun w s1 k1 r1 => ?_)
  (first | cases r using Rep.int_cases | cases r using Rep.str_cases | cases r using Reps.nil_cases | cases r using Rep.fn_cases | cases r using Rep.bool_cases | cases r); (first | cases r1 using Rep.int_cases | cases r1 using Rep.str_cases | cases r1 using Reps.nil_cases | cases r1 using Rep.fn_cases | cases r1 using Rep.bool_cases | cases r1)
  refine PyProof.Rows.isub_int (hs _ _ _ E ((i.keeps k1).keeps (keeps_toks _ _)) (.int _ _) fun s2 k2 i2 => ?_)
  exact k _ s2 (keepsBut_trans (keepsBut_of (keeps_trans k1 (keeps_toks _ _))) k2) ⟨rfl, i2⟩
theorem keeps_extNew {s : Shared} {h' : Heap} (he : Heap.ExtBut s.heap.objs.size s.heap h') : Keeps s { s with heap := h' } :=
  ⟨h', _, rfl, fun b o e => he b o (Nat.ne_of_lt (Heap.lt_size e)) e⟩
theorem EX.assign2 {kk : Nat} {pt : Pos} (hv : EV g c ρ θ value (.tup [d1, d2])) (h1 : STO g c ρ θ x d1) (h2 : STO g c ((x, d1) :: ρ) θ y d2)
    (hs : swapsWithSole [.Tuple [.Name x p1, .Name y p2] kk pt] value pos.line c.env = pure false := by rfl) (hw : swappedStores [.Tuple [.Name x p1, .Name y p2] kk pt] value c.env = pure none := by rfl) :
    EX g c ρ θ (.Assign [.Tuple [.Name x p1, .Name y p2] kk pt] value pos) (.next ((y, d2) :: (x, d1) :: ρ) θ) := by
  intro s Q E i k
  refine Assign_Tuple (hv s _ E i fun v s1 k1 r1 => ?_) hs hw
  cases r1 using Rep.tup_cases with
  | tup n1 ht q =>
    cases q using Reps.cons_cases with
    | cons q1 q =>
      cases q using Reps.cons_cases with
      | cons q2 q =>
        (first | cases q using Rep.int_cases | cases q using Rep.str_cases | cases q using Reps.nil_cases | cases q using Rep.fn_cases | cases q using Rep.bool_cases | cases q)
        refine wpAny_assign_Tuple i.ok.a.handled ht.isTuple rfl rfl fun h' he => ?_
        have k2 := keeps_extNew he
        refine wpAny_assignInOrder_more (wpAny_assign_Name (h1 _ _ _ E ((i.keeps k1).keeps k2) (q1.keep (Keeps.h k2)) fun s3 k3 i3 => ?_))
        refine wpAny_assignInOrder_more (wpAny_assign_Name (h2 _ _ _ E i3 ((q2.keep (Keeps.h k2)).keepBut (fun b o hb e => k3.h b o (fun m => hb (Cx.mu_av m)) e)) fun s4 k4 i4 => wpAny_assignInOrder_none ?_))
        exact k _ s4 (keepsBut_trans (keepsBut_of (keeps_trans k1 k2)) (keepsBut_trans k3 k4)) ⟨rfl, i4⟩
theorem EX.assign2s {kk : Nat} {pt : Pos} (hv : EV g c ρ θ value (.tup [d1, d2])) (h2 : STO g c ρ θ y d2) (h1 : STO g c ((y, d2) :: ρ) θ x d1)
    (hs : swapsWithSole [.Tuple [.Name x p1, .Name y p2] kk pt] value pos.line c.env = pure false := by rfl) (hw : swappedStores [.Tuple [.Name x p1, .Name y p2] kk pt] value c.env = pure (some [x, y]) := by rfl) :
    EX g c ρ θ (.Assign [.Tuple [.Name x p1, .Name y p2] kk pt] value pos) (.next ((x, d1) :: (y, d2) :: ρ) θ) := by
  intro s Q E i k
  refine Assign_Tuple_swapped (names := [x, y]) (hv s _ E i fun v s1 k1 r1 => ?_) hs hw
  cases r1 using Rep.tup_cases with
  | tup n1 ht q =>
    cases q using Reps.cons_cases with
    | cons q1 q =>
      cases q using Reps.cons_cases with
      | cons q2 q =>
        (first | cases q using Rep.int_cases | cases q using Rep.str_cases | cases q using Reps.nil_cases | cases q using Rep.fn_cases | cases q using Rep.bool_cases | cases q)
        rename_i v1 v2
        refine wpAny_unpackItems_tuple (items := [v1, v2].toArray) i.ok.a.handled ht.isTuple fun h' he => ?_
        have k2 := keeps_extNew he
        show wpAny _ _ (assignInOrder [bindName c.env y, bindName c.env x] [v2, v1]) _ _ _
        refine wpAny_assignInOrder_more (wpAny_bindName (h2 _ _ _ E ((i.keeps k1).keeps k2) (q2.keep (Keeps.h k2)) fun s3 k3 i3 => ?_))
        refine wpAny_assignInOrder_more (wpAny_bindName (h1 _ _ _ E i3 ((q1.keep (Keeps.h k2)).keepBut (fun b o hb e => k3.h b o (fun m => hb (Cx.mu_av m)) e)) fun s4 k4 i4 => wpAny_assignInOrder_none ?_))
        exact k _ s4 (keepsBut_trans (keepsBut_of (keeps_trans k1 k2)) (keepsBut_trans k3 k4)) ⟨rfl, i4⟩
theorem EX.ifs (ht : TE g c ρ θ e b) (h1 : b = true → RUN g c ρ θ body o) (h2 : b = false → RUN g c ρ θ orelse o) : EX g c ρ θ (.If e body orelse pos) o := by
  intro s Q E i k
  refine wpAny_If (ht s _ E i fun s1 k1 => ?_)
  cases b with
  | true => exact h1 rfl s1 Q E (i.keeps k1) fun f s2 k2 r2 => k f s2 (keepsBut_trans (keepsBut_of k1) k2) r2
  | false => exact h2 rfl s1 Q E (i.keeps k1) fun f s2 k2 r2 => k f s2 (keepsBut_trans (keepsBut_of k1) k2) r2
theorem EX.ret (hv : EV g c ρ θ value d) : EX g c ρ θ (.Return (some value) pos) (.ret d) := by
  intro s Q E i k
  refine wpAny_Return_some (hv s _ E i fun v s1 k1 r1 => ?_)
  exact k _ s1 (keepsBut_of k1) ⟨v, rfl, r1.weaken fun a ha => List.mem_append_right _ ha⟩
theorem EX.brk : EX g c ρ θ (.Break pos) (.brk ρ θ) := by
  intro s Q E i k
  exact wpAny_Break (k _ s (keepsBut_refl _ s) ⟨rfl, i⟩)
end
end Mine
end

/- LayG -/
section
open PySem PySem.W PySem.Calls PyProof.Rows
set_option maxRecDepth 100000
namespace Mine

theorem whileU {prog : Program} {w : World} {A : Around} {R : Result → Shared → Prop} {s : Shared} {test : Expr} {body orelse : List Stmt} {env : Env}
    (h : wpAny (model prog w) A (isTrue test env (eval test env)) (fun b s₂ =>
        if b then wpAny (model prog w) A (execs body env) (fun f s₃ => match f with
            | .next | .cont => codeAny (model prog w) A (.whileLoop test body orelse env) R s₃
            | .brk => R (.ok .next) s₃
            | .ret v => R (.ok (.ret v)) s₃) (notedBy (model prog w) A env fun e s' => R (.error e) s') s₂
        else wpAny (model prog w) A (execs orelse env) (fun f s₃ => R (.ok f) s₃) (notedBy (model prog w) A env fun e s' => R (.error e) s') s₂)
        (notedBy (model prog w) A env fun e s' => R (.error e) s') s) : codeAny (model prog w) A (.whileLoop test body orelse env) R s := by
  refine codeAny_of_tree ?_
  show wpAny _ A ((whileTurn test body orelse env).onRaise (fun x => do noteFrame x env; theTreesLotGoes x)) _ _ s
  refine wpAny_noted ?_
  simp only [whileTurn]
  refine wpAny_bind (wpAny_mono h (fun b s₂ h₂ => ?_) fun _ _ h' => h')
  cases b with
  | false =>
    simp only [Bool.false_eq_true, if_false] at h₂ ⊢
    exact wpAny_bind (wpAny_mono h₂ (fun f s₃ h₃ => wpAny_pure h₃) fun _ _ h' => h')
  | true =>
    simp only [if_true] at h₂ ⊢
    refine wpAny_bind (wpAny_mono h₂ (fun f s₃ h₃ => ?_) fun _ _ h' => h')
    cases f with
    | next => exact wpAny_pure ⟨rfl, h₃⟩
    | cont => exact wpAny_pure ⟨rfl, h₃⟩
    | brk => exact wpAny_pure h₃
    | ret v => exact wpAny_pure h₃
theorem forU {prog : Program} {w : World} {A : Around} {R : Result → Shared → Prop} {s : Shared} {target : Expr} {it : Value} {body orelse : List Stmt} {env : Env}
    (h : wpAny (model prog w) A (pyNext it) (fun r s₁ => match r with
      | none => wpAny (model prog w) A (execs orelse env) (fun f s₃ => R (.ok f) s₃) (notedBy (model prog w) A env fun e s' => R (.error e) s') s₁
      | some v => wpAny (model prog w) A (letOwnedTupleGo target it v) (fun _ s₁' => wpAny (model prog w) A (assign target env v) (fun _ s₂ => wpAny (model prog w) A (execs body env) (fun f s₃ => match f with
          | .next | .cont => codeAny (model prog w) A (.forLoop target it body orelse env) R s₃
          | .brk => R (.ok .next) s₃
          | .ret v => R (.ok (.ret v)) s₃) (notedBy (model prog w) A env fun e s' => R (.error e) s') s₂) (notedBy (model prog w) A env fun e s' => R (.error e) s') s₁') (notedBy (model prog w) A env fun e s' => R (.error e) s') s₁) (notedBy (model prog w) A env fun e s' => R (.error e) s') s) :
    codeAny (model prog w) A (.forLoop target it body orelse env) R s := by
  refine codeAny_of_tree ?_
  show wpAny _ A ((forTurn target it body orelse env).onRaise (fun x => do noteFrame x env; theTreesLotGoes x)) _ _ s
  refine wpAny_noted ?_
  simp only [forTurn]
  refine wpAny_bind (wpAny_standAt (wpAny_bind (wpAny_onRaise (wpAny_mono h (fun r s₁ h₁ => ?_) fun _ _ h' => wpAny_standAt h'))))
  cases r with
  | none => exact wpAny_pure ⟨rfl, codeAny_block h₁⟩
  | some v =>
    refine wpAny_bind (wpAny_mono h₁ (fun _ s₁' h₁' => wpAny_bind (wpAny_mono h₁' (fun _ s₂ h₂ => wpAny_bind (wpAny_mono h₂ (fun f s₃ h₃ => ?_) fun _ _ h' => h')) fun _ _ h' => h')) fun _ _ h' => h')
    cases f with
    | next => exact wpAny_pure ⟨rfl, h₃⟩
    | cont => exact wpAny_pure ⟨rfl, h₃⟩
    | brk => exact wpAny_pure h₃
    | ret v => exact wpAny_pure h₃

noncomputable def WH (g : Gd) (c : Cx) (ρ : Vars) (θ : Own) (test : Expr) (body : List Stmt) (o : Out) : Prop :=
  ∀ (s : Shared) (R : Result → Shared → Prop), Inv g c ρ θ s → (∀ f s', KeepsBut c.mu s s' → Fits g c o f s' → R (.ok f) s') → codeAny (model g.prog g.w) c.A (.whileLoop test body [] c.env) R s

section
variable {g : Gd} {c : Cx} {ρ ρ' ρ1 ρ2 : Vars} {θ θ' θ1 : Own} {e e1 e2 value slice test : Expr} {d d1 d2 dv : D} {pos p p1 p2 : Pos} {es : List Expr} {ds us : List D} {n : Int} {x y z : Str} {o : Out} {st : Stmt} {ss body orelse : List Stmt} {b : Bool}
theorem WH.done (ht : TE g c ρ θ test false) : WH g c ρ θ test body (.next ρ θ) := by
  intro s R i k
  refine whileU (ht s _ _ i fun s1 k1 => ?_)
  simp only [Bool.false_eq_true, if_false]
  exact wpAny_execs_nil (k _ s1 (keepsBut_of k1) ⟨rfl, i.keeps k1⟩)
theorem WH.step (ht : TE g c ρ θ test true) (hb : RUN g c ρ θ body (.next ρ' θ')) (hw : WH g c ρ' θ' test body o) : WH g c ρ θ test body o := by
  intro s R i k
  refine whileU (ht s _ _ i fun s1 k1 => ?_)
  simp only [if_true]
  refine hb s1 _ _ (i.keeps k1) fun f s2 k2 r2 => ?_
  obtain ⟨rfl, i2⟩ := r2
  exact hw s2 R i2 fun f s3 k3 r3 => k f s3 (keepsBut_trans (keepsBut_of k1) (keepsBut_trans k2 k3)) r3
theorem WH.ret (ht : TE g c ρ θ test true) (hb : RUN g c ρ θ body (.ret d)) : WH g c ρ θ test body (.ret d) := by
  intro s R i k
  refine whileU (ht s _ _ i fun s1 k1 => ?_)
  simp only [if_true]
  refine hb s1 _ _ (i.keeps k1) fun f s2 k2 r2 => ?_
  obtain ⟨v, rfl, r⟩ := r2
  exact k _ s2 (keepsBut_trans (keepsBut_of k1) k2) ⟨v, rfl, r⟩
theorem WH.weaken (h : WH g c ρ' θ test body o) (hw : ∀ x d, ρ'.lookup x = some d → ρ.lookup x = some d) : WH g c ρ θ test body o := by
  intro s R i k
  exact h s R (i.weaken hw) k
theorem WH.out (h : WH g c ρ θ test body (.next ρ1 θ')) (hw : ∀ x d, ρ'.lookup x = some d → ρ1.lookup x = some d) : WH g c ρ θ test body (.next ρ' θ') := by
  intro s R i k
  exact h s R i fun f s' k' r => k f s' k' ⟨r.1, r.2.weaken hw⟩

/-- the frame while an iterator's objects stand -/
noncomputable def Cx.ext (c : Cx) (wr : List Addr) : Cx := { c with ov := wr ++ c.ov }

structure Loop (g : Gd) (c : Cx) (I : Addr) (fp wr : List Addr) (n : Nat) (P : Nat → Value → Prop) (St : Nat → Heap → Prop) (i : Nat) (ds : List D) (s : Shared) : Prop where
  W : Walks g.prog g.w c.A I fp wr n P St
  hn : n = i + ds.length
  items : ∀ j v, P (i + j) v → ∃ d, ds[j]? = some d ∧ Rep (c.ext wr).av s.heap v d
  st : St i s.heap
  dis : ∀ b ∈ wr, b ∉ c.mu ∧ b ∉ c.ov ∧ g.h₀.get? b = none
  fpd : ∀ b ∈ fp, b ∉ c.mu
  hob : ∀ i h, St i h → ∀ b ∈ wr, ∃ o, h.get? b = some o
  cok : c.Ok

noncomputable def FR (g : Gd) (c : Cx) (ρ : Vars) (θ : Own) (target : Expr) (body orelse : List Stmt) (ds : List D) (o : Out) : Prop :=
  ∀ (s : Shared) (R : Result → Shared → Prop) (I : Addr) (fp wr : List Addr) (n : Nat) (P : Nat → Value → Prop) (St : Nat → Heap → Prop) (i : Nat), Loop g c I fp wr n P St i ds s → Inv g (c.ext wr) ρ θ s →
    (∀ f s', KeepsBut (wr ++ c.mu) s s' → Fits g c o f s' → R (.ok f) s') → codeAny (model g.prog g.w) c.A (.forLoop target (.ref I) body orelse c.env) R s

theorem ext_sub {wr : List Addr} : ∀ a ∈ c.av, a ∈ (c.ext wr).av := by
  intro a ha
  rcases List.mem_append.mp ha with h | h
  · exact List.mem_append_left _ h
  · exact List.mem_append_right _ (List.mem_append_right _ h)
theorem wr_in {wr : List Addr} : ∀ a ∈ wr, a ∈ (c.ext wr).av := fun _ ha => List.mem_append_right _ (List.mem_append_left _ ha)
/-- the iterator's objects turn; the rest stands -/
theorem Inv.turn {wr : List Addr} {s : Shared} {h' : Heap} {tk : Nat} (i : Inv g (c.ext wr) ρ θ s) (cok : c.Ok) (dis : ∀ b ∈ wr, b ∉ c.mu ∧ b ∉ c.ov ∧ g.h₀.get? b = none)
    (hk : ∀ b o, b ∉ wr → s.heap.get? b = some o → h'.get? b = some o) : Inv g c ρ θ { s with heap := h', toks := tk } ∧ ((∀ b ∈ wr, ∃ o, h'.get? b = some o) → Inv g (c.ext wr) ρ θ { s with heap := h', toks := tk }) := by
  have hwr : ∀ b ∈ wr, b ∉ c.av := fun b hb q => (List.mem_append.mp q).elim (dis b hb).1 (dis b hb).2.1
  have hL : c.env.locals ∉ wr := fun q => hwr _ q (Cx.mu_av cok.locIn)
  have hC : ∀ x a, c.env.cells.lookup x = some a → a ∉ wr := fun x a e q => hwr a q (cok.cellIn x a e).1
  have hK : ∀ b o, b ∉ (c.ext wr).av → s.heap.get? b = some o → h'.get? b = some o := fun b o n e => hk b o (fun q => n (wr_in b q)) e
  obtain ⟨m, hn, hv, ho⟩ := i.vars
  have hg : ∀ b o, g.h₀.get? b = some o → h'.get? b = some o := fun b o e => hk b o (fun q => by rw [(dis b q).2.2] at e; cases e) (i.ground b o e)
  have hcell : ∀ x a, c.env.cells.lookup x = some a → ∃ v, h'.IsCell a v := fun x a e => by
    obtain ⟨v, o, h1, h2⟩ := i.cells x a e
    exact ⟨v, o, hk a o (hC x a e) h1, h2⟩
  have hnn : h'.Ns c.env.locals m := by
    obtain ⟨o, es, ep, h1, r⟩ := hn
    exact ⟨o, es, ep, hk _ _ hL h1, r⟩
  have hvv : ∀ x d, ρ.lookup x = some d → VarIs (c.ext wr) h' m x d := fun x d e => by
    rcases hv x d e with ⟨a, v, b, r⟩ | ⟨a, b, v, e, ⟨o, h1, h2⟩, r⟩
    · exact .inl ⟨a, v, b, r.keepBut hK⟩
    · exact .inr ⟨a, b, v, e, ⟨o, hk b o (hC x b e) h1, h2⟩, r.keepBut hK⟩
  have hoo : OwnIs (c.ext wr) h' m θ := fun x a ds e => by
    obtain ⟨p1, p2, p3, p4, p5, vs, p6, p7⟩ := ho x a ds e
    exact ⟨p1, p2, p3, p4, p5, vs, p6.at fun o q => hk _ _ (fun w => (dis a w).1 p3) q, p7.keepBut hK⟩
  have hav : ∀ b ∈ c.av, g.h₀.get? b = none ∧ ∃ o, h'.get? b = some o := fun b hb => by
    obtain ⟨h1, o, h2⟩ := i.avok b (ext_sub b hb)
    exact ⟨h1, o, hk b o (fun q => hwr b q hb) h2⟩
  refine ⟨⟨i.gok, cok, hg, hav, hcell, m, hnn, fun x d e => ?_, fun x a ds e => ?_⟩, fun hob => ⟨i.gok, i.ok, hg, fun b hb => ?_, hcell, m, hnn, hvv, hoo⟩⟩
  · rcases hvv x d e with ⟨a, v, b, r⟩ | ⟨a, b, v, e, q, r⟩
    · exact .inl ⟨a, v, b, r.weaken ext_sub⟩
    · exact .inr ⟨a, b, v, e, q, r.weaken ext_sub⟩
  · obtain ⟨p1, p2, p3, p4, p5, vs, p6, p7⟩ := hoo x a ds e
    exact ⟨p1, p2, p3, p4, p5, vs, p6, p7.weaken ext_sub⟩
  · refine ⟨(i.avok b hb).1, ?_⟩
    rcases List.mem_append.mp hb with q | q
    · exact (hav b (List.mem_append_left _ q)).2
    · rcases List.mem_append.mp q with q | q
      · exact hob b q
      · exact (hav b (List.mem_append_right _ q)).2

theorem FR.nil {target : Expr} (h : RUN g c ρ θ orelse o) : FR g c ρ θ target body orelse [] o := by
  intro s R I fp wr n P St i L iv k
  have hn : n = i := by simpa using L.hn
  refine forU (L.W.done s _ _ (hn ▸ L.st) fun h' tk hk => ?_)
  have i1 := (iv.turn (tk := tk) L.cok L.dis hk).1
  refine h _ _ _ i1 fun f s2 k2 r2 => k f s2 ?_ r2
  obtain ⟨h2, t2, rfl, hk2⟩ := k2
  exact ⟨h2, t2, rfl, fun b o nb e => hk2 b o (fun q => nb (List.mem_append_right _ q)) (hk b o (fun q => nb (List.mem_append_left _ q)) e)⟩
/-- one turn of a for -/
theorem FR.turn {px : Pos} {ob : Out} (hs : ∀ wr, STO g (c.ext wr) ρ θ x d) (hb : ∀ wr, RUN g (c.ext wr) ((x, d) :: ρ) θ body ob)
    (hnext : ∀ ρ' θ', ob = .next ρ' θ' → FR g c ρ' θ' (.Name x px) body orelse ds o) (hcont : ∀ ρ' θ', ob = .cont ρ' θ' → FR g c ρ' θ' (.Name x px) body orelse ds o)
    (hbrk : ∀ ρ' θ', ob = .brk ρ' θ' → o = .next ρ' θ') (hret : ∀ d', ob = .ret d' → o = .ret d') : FR g c ρ θ (.Name x px) body orelse (d :: ds) o := by
  intro s R I fp wr n P St i L iv k
  have hlt : i < n := by have := L.hn; simp at this; (first | assumption | lia | omega)
  refine forU (L.W.item i s _ _ hlt L.st fun v h' tk hp st' hk => ?_)
  have i1 := (iv.turn (tk := tk) L.cok L.dis hk).2 (L.hob _ _ st')
  obtain ⟨d', hd', rv⟩ := L.items 0 v hp
  have : d' = d := by simpa using hd'.symm
  subst this
  have hK : ∀ b o, b ∉ (c.ext wr).av → s.heap.get? b = some o → h'.get? b = some o := fun b o nb e => hk b o (fun q => nb (wr_in b q)) e
  refine wpAny_pure (wpAny_assign_Name (hs wr _ v _ _ i1 (rv.keepBut hK) fun s2 k2 i2 => ?_))
  refine hb wr s2 _ _ i2 fun f s3 k3 r3 => ?_
  have k23 : KeepsBut c.mu { s with heap := h', toks := tk } s3 := keepsBut_trans k2 k3
  have kall : KeepsBut (wr ++ c.mu) s s3 := by
    obtain ⟨h3, t3, rfl, hk3⟩ := k23
    exact ⟨h3, t3, rfl, fun b o nb e => hk3 b o (fun q => nb (List.mem_append_right _ q)) (hk b o (fun q => nb (List.mem_append_left _ q)) e)⟩
  have L3 : Loop g c I fp wr n P St (i + 1) ds s3 := by
    refine ⟨L.W, by have := L.hn; simp at this; (first | assumption | lia | omega), fun j w hw => ?_, ?_, L.dis, L.fpd, L.hob, L.cok⟩
    · obtain ⟨e, he, re⟩ := L.items (j + 1) w (by rw [show i + (j + 1) = i + 1 + j by (first | assumption | lia | omega)]; exact hw)
      refine ⟨e, by simpa using he, (re.keepBut hK).keepBut fun b o nb eq => k23.h b o (fun q => nb (List.mem_append_left _ q)) eq⟩
    · exact L.W.frame _ _ _ st' fun b hb o e => k23.h b o (L.fpd b hb) e
  have go : ∀ ρ' θ', Inv g (c.ext wr) ρ' θ' s3 → FR g c ρ' θ' (.Name x px) body orelse ds o → codeAny (model g.prog g.w) c.A (.forLoop (.Name x px) (.ref I) body orelse c.env) R s3 := fun ρ' θ' i3 fr =>
    fr s3 R I fp wr n P St (i + 1) L3 i3 fun f s4 k4 r4 => k f s4 (keepsBut_trans kall k4) r4
  have same : ∀ ρ' θ', Inv g (c.ext wr) ρ' θ' s3 → Inv g c ρ' θ' s3 := fun ρ' θ' i3 => by
    obtain ⟨h3, t3, e3, _⟩ := kall
    have := (i3.turn (h' := s3.heap) (tk := s3.toks) L.cok L.dis fun b o _ e => e).1
    exact this
  cases ob with
  | next ρ' θ' => obtain ⟨rfl, i3⟩ := r3; exact go ρ' θ' i3 (hnext ρ' θ' rfl)
  | cont ρ' θ' => obtain ⟨rfl, i3⟩ := r3; exact go ρ' θ' i3 (hcont ρ' θ' rfl)
  | brk ρ' θ' =>
    obtain ⟨rfl, i3⟩ := r3
    have := hbrk ρ' θ' rfl
    subst this
    exact k _ s3 kall ⟨rfl, same ρ' θ' i3⟩
  | ret d' =>
    obtain ⟨w, rfl, rw'⟩ := r3
    have := hret d' rfl
    subst this
    exact k _ s3 kall ⟨w, rfl, rw'.weaken fun a ha => List.mem_append_right _ ha⟩
theorem FR.next {px : Pos} (hs : ∀ wr, STO g (c.ext wr) ρ θ x d) (hb : ∀ wr, RUN g (c.ext wr) ((x, d) :: ρ) θ body (.next ρ' θ')) (h : FR g c ρ' θ' (.Name x px) body orelse ds o) :
    FR g c ρ θ (.Name x px) body orelse (d :: ds) o :=
  FR.turn hs hb (fun _ _ e => by cases e; exact h) (fun _ _ e => nomatch e) (fun _ _ e => nomatch e) fun _ e => nomatch e
theorem FR.weaken {target : Expr} (h : FR g c ρ' θ target body orelse ds o) (hw : ∀ x d, ρ'.lookup x = some d → ρ.lookup x = some d) : FR g c ρ θ target body orelse ds o := by
  intro s R I fp wr n P St i L iv k
  exact h s R I fp wr n P St i L (iv.weaken hw) k

/-- where a loop's or a comprehension's items come from -/
noncomputable def SRC (g : Gd) (c : Cx) (ρ : Vars) (θ : Own) (iter : Expr) (ds : List D) (fb : Bool) : Prop :=
  ∀ (s : Shared) (Q : Value → Shared → Prop) (E : Value → Shared → Prop), Inv g c ρ θ s →
    (∀ I fp wr P St s', Keeps s s' → Walks g.prog g.w c.A I fp wr ds.length P St → St 0 s'.heap → (∀ j v, P j v → ∃ d, ds[j]? = some d ∧ Rep (c.ext wr).av s'.heap v d) →
      (∀ b ∈ wr, s.heap.get? b = none ∧ (fb = true → ∃ o, s'.heap.get? b = some o)) → (∀ b ∈ fp, b ∈ wr ∨ b ∉ c.av) → (∀ b ∈ fp, b < s'.heap.objs.size) → (fb = true → ∀ i h, St i h → ∀ b ∈ wr, ∃ o, h.get? b = some o) → Q (.ref I) s') →
    wpAny (model g.prog g.w) c.A (eval iter c.env) (fun x s1 => wpAny (model g.prog g.w) c.A (pyIter x) Q E s1) E s

theorem Inv.toExt {wr : List Addr} {s s' : Shared} (i : Inv g c ρ θ s) (k : Keeps s s') (hw : ∀ b ∈ wr, s.heap.get? b = none ∧ ∃ o, s'.heap.get? b = some o) : Inv g (c.ext wr) ρ θ s' := by
  have i' := i.keeps k
  have hmv : ∀ a o, a ∉ c.av → s.heap.get? a = some o → a ∉ (c.ext wr).av := fun a o n e q => by
    rcases List.mem_append.mp q with h | h
    · exact n (List.mem_append_left _ h)
    · rcases List.mem_append.mp h with h | h
      · rw [(hw a h).1] at e; cases e
      · exact n (List.mem_append_right _ h)
  have hkk : ∀ b o, b ∉ c.av → s.heap.get? b = some o → s'.heap.get? b = some o := fun b o _ e => Keeps.h k b o e
  obtain ⟨m, hn, hv, ho⟩ := i.vars
  refine ⟨i.gok, ⟨i.ok.a, i.ok.kind, i.ok.glob, i.ok.bui, i.ok.locIn, fun x a e => ⟨ext_sub a (i.ok.cellIn x a e).1, (i.ok.cellIn x a e).2⟩, (fun b hb q => (List.mem_append.mp q).elim (fun q => by obtain ⟨_, o, e⟩ := i.avok b (Cx.mu_av hb); rw [(hw b q).1] at e; cases e) (i.ok.apart b hb)), i.ok.cellNe⟩, i'.ground, fun b hb => ?_, i'.cells, m, hn.keeps (Keeps.h k), fun x d e => ?_, fun x a ds e => ?_⟩
  · rcases List.mem_append.mp hb with q | q
    · exact i'.avok b (List.mem_append_left _ q)
    · rcases List.mem_append.mp q with q | q
      · refine ⟨?_, (hw b q).2⟩
        cases e : g.h₀.get? b with
        | none => rfl
        | some o => have := i.ground b o e; rw [(hw b q).1] at this; cases this
      · exact i'.avok b (List.mem_append_right _ q)
  · rcases hv x d e with ⟨a, v, b, r⟩ | ⟨a, b, v, e, q, r⟩
    · exact .inl ⟨a, v, b, r.move hmv hkk⟩
    · exact .inr ⟨a, b, v, e, q.keeps (Keeps.h k), r.move hmv hkk⟩
  · obtain ⟨p1, p2, p3, p4, p5, vs, p6, p7⟩ := ho x a ds e
    exact ⟨p1, p2, p3, p4, p5, vs, p6.at fun o q => Keeps.h k _ _ q, p7.move hmv hkk⟩
theorem EX.for {target iter : Expr} (hsrc : SRC g c ρ θ iter ds true) (h : FR g c ρ θ target body orelse ds o) (hf : ∀ x, foldedSetIterable iter c.env x = pure x := by intro _; rfl) : EX g c ρ θ (.For target iter body orelse pos) o := by
  intro s Q E i k
  refine wpAny_For (hsrc s _ E i fun I fp wr P St s' k1 W st items hw hfp hlt hob => ?_) hf
  have hav : ∀ b ∈ wr, b ∉ c.av := fun b hb q => by
    obtain ⟨_, o, e⟩ := i.avok b q
    rw [(hw b hb).1] at e; cases e
  refine h s' _ I fp wr ds.length P St 0 ⟨W, by simp, fun j v hp => items j v (by simpa using hp), st, fun b hb => ⟨fun q => hav b hb (List.mem_append_left _ q), fun q => hav b hb (List.mem_append_right _ q), ?_⟩, fun b hb q => ?_, hob rfl, i.ok⟩ (i.toExt k1 fun b hb => ⟨(hw b hb).1, (hw b hb).2 rfl⟩) fun f s2 k2 r2 => ?_
  · cases e : g.h₀.get? b with
    | none => rfl
    | some o => have := i.ground b o e; rw [(hw b hb).1] at this; cases this
  · rcases hfp b hb with h1 | h1
    · exact hav b h1 (List.mem_append_left _ q)
    · exact h1 (List.mem_append_left _ q)
  · exact k f s2 (keepsBut_fresh k1 k2 fun b hb => (hw b hb).1) r2
theorem EX.while (h : WH g c ρ θ test body o) : EX g c ρ θ (.While test body [] pos) o := by
  intro s Q E i k
  exact wpAny_While (h s _ i fun f s' k' r => k f s' k' r)
end
end Mine
end

/- LayH -/
section
open PySem PySem.W PySem.Calls PyProof.Rows
set_option maxRecDepth 100000
namespace Mine
section
variable {g : Gd} {c : Cx} {ρ ρ' ρ1 ρ2 : Vars} {θ θ' θ1 : Own} {e e1 e2 e3 value slice test iter : Expr} {d d1 d2 dv : D} {pos p p1 p2 : Pos} {es : List Expr} {ds us : List D} {n : Int} {x y z : Str} {o : Out} {st : Stmt} {ss body orelse : List Stmt} {b : Bool}

theorem ext_av {wr : List Addr} {h : Heap} {v : Value} (hw : ∀ b ∈ wr, h.get? b = none) (r : Rep c.av h v d) : Rep (c.ext wr).av h v d :=
  r.move (fun a o n e q => by
    rcases List.mem_append.mp q with h | h
    · exact n (List.mem_append_left _ h)
    · rcases List.mem_append.mp h with h | h
      · rw [hw a h] at e; cases e
      · exact n (List.mem_append_right _ h)) fun _ _ _ e => e
theorem size_none (h : Heap) : h.get? h.objs.size = none := by
  cases e : h.get? h.objs.size with
  | none => rfl
  | some o => exact absurd (Heap.lt_size e) (Nat.lt_irrefl _)
theorem none_of_keeps {s s' : Shared} (k : Keeps s s') {b : Addr} (h : s'.heap.get? b = none) : s.heap.get? b = none := by
  cases e : s.heap.get? b with
  | none => rfl
  | some o => rw [Keeps.h k b o e] at h; cases h

theorem SRC.lst (h : EV g c ρ θ iter (.lst ds)) : SRC g c ρ θ iter ds true := by
  intro s Q E i k
  refine h s _ E i fun v s1 k1 r1 => ?_
  cases r1 using Rep.lst_cases with
  | lst n1 hl q =>
    rename_i a ws
    have hl' := hl.isList
    have hlt : a < s1.heap.objs.size := by obtain ⟨m, e⟩ := hl; exact Heap.lt_size e
    have hne : a ≠ s1.heap.objs.size := Nat.ne_of_lt hlt
    refine wpAny_pyIter_list hl' ?_
    have W := Walks.list (prog := g.prog) (w := g.w) i.ok.a.handled s1.heap.objs.size a hne ws.toArray
    have hsz : ws.toArray.size = ds.length := by simp [q.length]
    rw [hsz] at W
    refine k _ _ _ _ _ _ (keeps_trans k1 (keeps_push' _ _)) W ⟨⟨_, Heap.get?_push_size _ rfl, rfl, rfl⟩, hl'.push _⟩ (fun j v hp => ?_) (fun b hb => ?_) (fun b hb => ?_) (fun b hb => ?_) fun _ j h st b hb => ?_
    · obtain ⟨d, hd, r⟩ := q.get' (by simpa using hp)
      refine ⟨d, hd, (ext_av (fun b hb => ?_) r).keep (Keeps.h (keeps_push' _ _))⟩
      rw [List.mem_singleton.mp hb]; exact size_none _
    · rw [List.mem_singleton.mp hb]
      exact ⟨none_of_keeps k1 (size_none _), fun _ => ⟨_, Heap.get?_push_size _ rfl⟩⟩
    · rcases List.mem_cons.mp hb with rfl | hb
      · exact .inl (List.mem_singleton.mpr rfl)
      · rw [List.mem_singleton.mp hb]; exact .inr n1
    · rw [Heap.size_push]
      rcases List.mem_cons.mp hb with rfl | hb
      · exact Nat.lt_succ_self _
      · rw [List.mem_singleton.mp hb]; exact Nat.lt_succ_of_lt hlt
    · rw [List.mem_singleton.mp hb]
      obtain ⟨⟨o, ho, _⟩, _⟩ := st
      exact ⟨o, ho⟩
theorem SRC.tup (h : EV g c ρ θ iter (.tup ds)) : SRC g c ρ θ iter ds true := by
  intro s Q E i k
  refine h s _ E i fun v s1 k1 r1 => ?_
  cases r1 using Rep.tup_cases with
  | tup n1 hl q =>
    rename_i a ws
    have hl' := hl.isTuple
    have hlt : a < s1.heap.objs.size := by obtain ⟨m, e⟩ := hl; exact Heap.lt_size e
    have hne : a ≠ s1.heap.objs.size := Nat.ne_of_lt hlt
    refine wpAny_pyIter_tuple hl' ?_
    have W := Walks.tuple (prog := g.prog) (w := g.w) i.ok.a.handled s1.heap.objs.size a hne ws.toArray
    have hsz : ws.toArray.size = ds.length := by simp [q.length]
    rw [hsz] at W
    refine k _ _ _ _ _ _ (keeps_trans k1 (keeps_push' _ _)) W ⟨⟨_, Heap.get?_push_size _ rfl, rfl, rfl⟩, hl'.push _⟩ (fun j v hp => ?_) (fun b hb => ?_) (fun b hb => ?_) (fun b hb => ?_) fun _ j h st b hb => ?_
    · obtain ⟨d, hd, r⟩ := q.get' (by simpa using hp)
      refine ⟨d, hd, (ext_av (fun b hb => ?_) r).keep (Keeps.h (keeps_push' _ _))⟩
      rw [List.mem_singleton.mp hb]; exact size_none _
    · rw [List.mem_singleton.mp hb]
      exact ⟨none_of_keeps k1 (size_none _), fun _ => ⟨_, Heap.get?_push_size _ rfl⟩⟩
    · rcases List.mem_cons.mp hb with rfl | hb
      · exact .inl (List.mem_singleton.mpr rfl)
      · rw [List.mem_singleton.mp hb]; exact .inr n1
    · rw [Heap.size_push]
      rcases List.mem_cons.mp hb with rfl | hb
      · exact Nat.lt_succ_self _
      · rw [List.mem_singleton.mp hb]; exact Nat.lt_succ_of_lt hlt
    · rw [List.mem_singleton.mp hb]
      obtain ⟨⟨o, ho, _⟩, _⟩ := st
      exact ⟨o, ho⟩
theorem SRC.str {l : List Nat} (h : EV g c ρ θ iter (.str l)) : SRC g c ρ θ iter (l.map fun q => D.str [q]) false := by
  intro s Q E i k
  refine h s _ E i fun v s1 k1 r1 => ?_
  (first | cases r1 using Rep.int_cases | cases r1 using Rep.str_cases | cases r1 using Reps.nil_cases | cases r1 using Rep.fn_cases | cases r1 using Rep.bool_cases | cases r1)
  refine wpAny_pyIter_str fun ob St W st => ?_
  have W := W c.A i.ok.a.handled
  have hsz : (l.toArray).size = (l.map fun q => D.str [q]).length := by simp
  rw [hsz] at W
  refine k _ _ _ _ _ _ (keeps_trans k1 (keeps_push' _ _)) W st (fun j v hp => ?_) (fun b hb => ?_) (fun b hb => .inl hb) (fun b hb => ?_) fun h => nomatch h
  · obtain ⟨q, u, hq, rfl⟩ := hp
    exact ⟨.str [q], by simpa using hq, .str [q] u⟩
  · rw [List.mem_singleton.mp hb]
    exact ⟨none_of_keeps k1 (size_none _), fun h => nomatch h⟩
  · rw [List.mem_singleton.mp hb, Heap.size_push]; exact Nat.lt_succ_self _
/-- the ints of a range by ones from 0 -/
noncomputable def upto (n : Int) : List D := (List.range n.toNat).map fun i => D.int (i : Nat)
noncomputable def downs (n : Int) : List D := (List.range n.toNat).map fun i => D.int (n - 1 - (i : Nat))
theorem src_range {s s1 : Shared} {Q : Value → Shared → Prop} {E : Value → Shared → Prop} {r : Addr} {a b st : Int} {t u v : Tok} {n : Nat} (i : Inv g c ρ θ s) (k1 : Keeps s s1) (hr : IsRange s1.heap r a b st t u v) (hs : Builtin.Range.small a b st = true) (hn : Builtin.Range.rangeSize a b st = (n : Int))
    (hds : ds = (List.range n).map fun (j : Nat) => D.int (a + (j : Int) * st))
    (k : ∀ I fp wr P St s', Keeps s s' → Walks g.prog g.w c.A I fp wr ds.length P St → St 0 s'.heap → (∀ j v, P j v → ∃ d, ds[j]? = some d ∧ Rep (c.ext wr).av s'.heap v d) →
      (∀ b ∈ wr, s.heap.get? b = none ∧ (true = true → ∃ o, s'.heap.get? b = some o)) → (∀ b ∈ fp, b ∈ wr ∨ b ∉ c.av) → (∀ b ∈ fp, b < s'.heap.objs.size) → (true = true → ∀ i h, St i h → ∀ b ∈ wr, ∃ o, h.get? b = some o) → Q (.ref I) s') :
    wpAny (model g.prog g.w) c.A (pyIter (.ref r)) Q E s1 := by
  refine wpAny_pyIter_range hr hs ?_
  have W := (Walks.range (prog := g.prog) (w := g.w) i.ok.a.handled s1.heap.objs.size a st n).bound
  have hlen : ds.length = n := by rw [hds]; simp
  rw [← hlen] at W
  refine k _ _ _ _ _ _ (keeps_trans k1 (keeps_push' _ _)) W ?_ (fun j v hp => ?_) (fun b hb => ?_) (fun b hb => .inl hb) (fun b hb => ?_) fun _ j h st b hb => ?_
  · show IsRangeIter _ _ _ _ _
    rw [hn, hlen]
    simpa using Heap.get?_push_size _ rfl
  · obtain ⟨hj, tk, rfl⟩ := hp
    rw [hlen] at hj
    exact ⟨.int (a + (j : Int) * st), by rw [hds]; simp [hj], .int _ _⟩
  · rw [List.mem_singleton.mp hb]
    exact ⟨none_of_keeps k1 (size_none _), fun _ => ⟨_, Heap.get?_push_size _ rfl⟩⟩
  · rw [List.mem_singleton.mp hb, Heap.size_push]; exact Nat.lt_succ_self _
  · rw [List.mem_singleton.mp hb]; exact ⟨_, st⟩
theorem SRC.range1 {np : Pos} (h : EV g c ρ θ e (.int n)) (hr : nsIn g.K mainGlobals "range" = some none) (h1 : -1000000 ≤ n) (h2 : n ≤ 1000000) (hx : c.env.kindOf "range" = some .globalImplicit := by rfl)
    (he : starEach [e] c.env = (false, eval e c.env) :: starEach [] c.env := by rfl) (hplain : (backTo pos (starEach [e] c.env)).any (·.1) = false := by rfl) :
    SRC g c ρ θ (.Call (.Name "range" np) [e] [] pos) (upto n) true := by
  intro s Q E i k
  refine wpAny_Call_NameR (eval_boot i hr (v := .type "range") (by rfl) ?_ hx)
  refine PySem.callWith_type hplain ?_
  rw [he]
  refine evalArgs_plain ?_
  have := (EVS.cons h (EVS.nil (pos := pos)) he) s (fun vs s' => wpAny (model g.prog g.w) c.A (PySem.call (.type "range") ([] ++ vs) []) (fun x s1 => wpAny (model g.prog g.w) c.A (pyIter x) Q E s1) E s') E i fun vs s1 k1 r1 => by
    cases r1 using Reps.cons_cases with
    | cons p1 p2 =>
      (first | cases p2 using Rep.int_cases | cases p2 using Rep.str_cases | cases p2 using Reps.nil_cases | cases p2 using Rep.fn_cases | cases p2 using Rep.bool_cases | cases p2); (first | cases p1 using Rep.int_cases | cases p1 using Rep.str_cases | cases p1 using Reps.nil_cases | cases p1 using Rep.fn_cases | cases p1 using Rep.bool_cases | cases p1)
      refine call_range_1 ?_
      refine src_range (n := n.toNat) i (keeps_trans k1 (keeps_push _ _ _)) (IsRange.new ..) (small_one (by (first | assumption | lia | omega)) (by (first | assumption | lia | omega)) (by (first | assumption | lia | omega)) (by (first | assumption | lia | omega))) (by rw [rangeSize_one]; split <;> (first | assumption | lia | omega)) (by simp [upto]) k
  rw [he] at this
  exact this
theorem SRC.rangeDown {np : Pos} (ha : EV g c ρ θ e1 (.int (n - 1))) (hb : EV g c ρ θ e2 (.int (-1))) (hc : EV g c ρ θ e3 (.int (-1))) (hr : nsIn g.K mainGlobals "range" = some none) (h1 : 0 ≤ n) (h2 : n ≤ 1000000) (hx : c.env.kindOf "range" = some .globalImplicit := by rfl)
    (he : starEach [e1, e2, e3] c.env = [(false, eval e1 c.env), (false, eval e2 c.env), (false, eval e3 c.env)] := by rfl) (hplain : (backTo pos (starEach [e1, e2, e3] c.env)).any (·.1) = false := by rfl)
    (he1 : starEach [e1, e2, e3] c.env = (false, eval e1 c.env) :: starEach [e2, e3] c.env := by rfl) (he2 : starEach [e2, e3] c.env = (false, eval e2 c.env) :: starEach [e3] c.env := by rfl) (he3 : starEach [e3] c.env = (false, eval e3 c.env) :: starEach [] c.env := by rfl) :
    SRC g c ρ θ (.Call (.Name "range" np) [e1, e2, e3] [] pos) (downs n) true := by
  intro s Q E i k
  refine wpAny_Call_NameR (eval_boot i hr (v := .type "range") (by rfl) ?_ hx)
  refine PySem.callWith_type hplain ?_
  rw [he1]
  refine evalArgs_plain ?_
  have := (EVS.cons ha (EVS.cons hb (EVS.cons hc (EVS.nil (pos := pos)) he3) he2) he1) s (fun vs s' => wpAny (model g.prog g.w) c.A (PySem.call (.type "range") ([] ++ vs) []) (fun x s1 => wpAny (model g.prog g.w) c.A (pyIter x) Q E s1) E s') E i fun vs s1 k1 r1 => by
    cases r1 using Reps.cons_cases with
    | cons p1 p2 =>
      cases p2 using Reps.cons_cases with
      | cons p2 p3 =>
        cases p3 using Reps.cons_cases with
        | cons p3 p4 =>
          (first | cases p4 using Rep.int_cases | cases p4 using Rep.str_cases | cases p4 using Reps.nil_cases | cases p4 using Rep.fn_cases | cases p4 using Rep.bool_cases | cases p4); (first | cases p1 using Rep.int_cases | cases p1 using Rep.str_cases | cases p1 using Reps.nil_cases | cases p1 using Rep.fn_cases | cases p1 using Rep.bool_cases | cases p1); (first | cases p2 using Rep.int_cases | cases p2 using Rep.str_cases | cases p2 using Reps.nil_cases | cases p2 using Rep.fn_cases | cases p2 using Rep.bool_cases | cases p2); (first | cases p3 using Rep.int_cases | cases p3 using Rep.str_cases | cases p3 using Reps.nil_cases | cases p3 using Rep.fn_cases | cases p3 using Rep.bool_cases | cases p3)
          refine call_range_3 (by decide) ?_ (.inl (PyProof.noPylong_small (by decide)))
          refine src_range (n := n.toNat) i (keeps_trans k1 (keeps_push _ _ _)) (IsRange.new ..) (small_down (by (first | assumption | lia | omega)) (by (first | assumption | lia | omega)) (by (first | assumption | lia | omega)) (by (first | assumption | lia | omega))) (by rw [rangeSize_downNat]; congr 1; (first | assumption | lia | omega)) ?_ k
          unfold downs
          apply List.map_congr_left
          intro j _
          congr 1
          (first | assumption | lia | omega)
  rw [he1] at this
  exact this
end
end Mine
end

/- LayI -/
section
open PySem PySem.W PySem.Calls PyProof.Rows
set_option maxRecDepth 100000
namespace Mine

theorem bindL_skip {kd : Str → Option NameKind} {x : Str} : ∀ (bs : List (Str × Value)) (m : Str → Option Value), x ∉ bs.map (·.1) → bindL kd bs m x = m x
  | [], _, _ => rfl
  | (n, v) :: r, m, h => by
    simp only [List.map_cons, List.mem_cons, not_or] at h
    unfold bindL
    rw [bindL_skip r _ h.2]
    split
    · simp [h.1]
    · rfl
theorem bindL_get {kd : Str → Option NameKind} {x : Str} {v : Value} : ∀ (bs : List (Str × Value)) (m : Str → Option Value), (bs.map (·.1)).Nodup → (x, v) ∈ bs → kd x = some .local → bindL kd bs m x = some v
  | [], _, _, h, _ => nomatch h
  | (n, w) :: r, m, nd, h, hk => by
    simp only [List.map_cons, List.nodup_cons] at nd
    unfold bindL
    rcases List.mem_cons.mp h with e | h
    · cases e
      rw [bindL_skip r _ nd.1, if_pos hk]
      simp
    · exact bindL_get r _ nd.2 h hk
theorem bindC_skip {kd : Str → Option NameKind} {x : Str} : ∀ (bs : List (Str × Value)) (m : Str → Option Value), x ∉ bs.map (·.1) → bindC kd bs m x = m x
  | [], _, _ => rfl
  | (n, v) :: r, m, h => by
    simp only [List.map_cons, List.mem_cons, not_or] at h
    unfold bindC
    rw [bindC_skip r _ h.2]
    split
    · rfl
    · simp [h.1]
theorem bindC_get {kd : Str → Option NameKind} {x : Str} {v : Value} : ∀ (bs : List (Str × Value)) (m : Str → Option Value), (bs.map (·.1)).Nodup → (x, v) ∈ bs → kd x = some .cell → bindC kd bs m x = some v
  | [], _, _, h, _ => nomatch h
  | (n, w) :: r, m, nd, h, hk => by
    simp only [List.map_cons, List.nodup_cons] at nd
    unfold bindC
    rcases List.mem_cons.mp h with e | h
    · cases e
      rw [bindC_skip r _ nd.1, if_neg (by rw [hk]; decide)]
      simp
    · exact bindC_get r _ nd.2 h hk
theorem zip_get {av : List Addr} {h : Heap} {x : Str} {d : D} : ∀ {ps : List Str} {vs : List Value} {ds : List D}, Reps av h vs ds → (ps.zip ds).lookup x = some d → ∃ v, (x, v) ∈ ps.zip vs ∧ Rep av h v d
  | [], _, _, _, e => by simp at e
  | p :: ps, _, _, .nil, e => by simp at e
  | p :: ps, v :: vs, d' :: ds, .cons r q, e => by
    rw [List.zip_cons_cons, List.lookup_cons] at e
    cases hx : x == p with
    | true =>
      rw [hx] at e
      cases e
      have := eq_of_beq hx
      subst this
      exact ⟨v, by simp, r⟩
    | false =>
      rw [hx] at e
      obtain ⟨w, hw, rw'⟩ := zip_get q e
      exact ⟨w, by simp [hw], rw'⟩
theorem lookup_mem' {α : Type} {x : Str} {a : α} : ∀ {l : List (Str × α)}, l.lookup x = some a → (x, a) ∈ l
  | [], h => by simp at h
  | (y, b) :: r, h => by
    rw [List.lookup_cons] at h
    cases hx : x == y with
    | true => rw [hx] at h; cases h; rw [eq_of_beq hx]; simp
    | false => rw [hx] at h; exact List.mem_cons_of_mem _ (lookup_mem' h)
theorem zip_names {α : Type} : ∀ (ps : List Str) (vs : List α), vs.length = ps.length → (ps.zip vs).map (·.1) = ps
  | [], _, _ => by simp
  | p :: ps, [], h => by simp at h
  | p :: ps, v :: vs, h => by simp at h; simp [zip_names ps vs h]

/-- the frame of a def's call -/
@[reducible] noncomputable def frm (qual : Str) (scope : Scope) (f : Addr) (cd : Value) (A : Around) (L : Addr) (ov : List Addr) (k : Nat) : Cx :=
  { A := A.deeper (envX qual scope L f cd (cellsFrom (L + 1) scope.names [])), env := envX qual scope L f cd (cellsFrom (L + 1) scope.names []), mu := L :: (cellsFrom (L + 1) scope.names []).map (·.2), ov := ov, k := k }

theorem AOk.deeper {A : Around} {k : Nat} {env : Env} (h : AOk A (k + 1)) : AOk (A.deeper env) k :=
  ⟨h.handled, by have := h.depth; show A.depth + 1 + k < _; (first | assumption | lia | omega), by have := h.units; show A.units + 3 + 8 * k + 8 < _; (first | assumption | lia | omega)⟩

theorem FN.of {g : Gd} {k : Nat} {f : Addr} {ps : List Str} {ds : List D} {d : D} {name qual : Str} {params : Arguments} {body : List Stmt} {scope : Scope} {dV kV doc pm cdv ct oc : Value} {an od : Option Addr} {osl : Array (Option Value)}
    (ho : g.K.lookup f = some ⟨oc, od, .func (fnOf name qual params body scope dV kV doc pm an cdv ct), osl⟩) (hcd : codeIn g.K cdv qual = true)
    (hbind : ∀ (s : Shared) (vs : List Value), g.K.In s.heap → vs.length = ds.length → BindsTo s (fnOf name qual params body scope dV kV doc pm an cdv ct) ⟨vs, []⟩ (ps.zip vs))
    (hkind : (ps.all fun y => scope.names.lookup y == some .local || scope.names.lookup y == some .cell) = true) (hnd : ps.Nodup) (hlen : ps.length = ds.length)
    (hcn : ((cellsFrom 0 scope.names []).map (·.1)).Nodup) (hco : scope.isCoroutine = false) (hgen : scope.isGenerator = false) (hk : scope.kind = .function)
    (hbody : ∀ A L ov, RUN g (frm qual scope f cdv A L ov k) (ps.zip ds) none body (.ret d)) : FN g (k + 1) f ds d := by
  intro A av s vs Q E gok aok ground avok reps kk
  have X : g.K.In s.heap := gok.X.keeps ground
  refine wpAny_call ?_
  refine codeAny_call_function (fd := fnOf name qual params body scope dV kV doc pm an cdv ct) (by have := aok.depth; (first | assumption | lia | omega)) (X _ _ ho) rfl hco hgen rfl (codeRec_of X hcd) ?_
  have hl : vs.length = ps.length := by rw [reps.length, hlen]
  refine hbind s vs X reps.length _ _ _ _ ?_
  refine wpAny_newFunctionEnv_cells hk (fun y hy => ?_) fun env he s' x => ?_
  · have hy' : y.1 ∈ ps := by rw [← zip_names ps vs hl]; exact List.mem_map_of_mem hy
    have := List.all_eq_true.mp hkind y.1 hy'
    rcases Bool.or_eq_true_iff.mp this with q | q
    · exact .inl (by simpa using q)
    · have q' : scope.names.lookup y.1 = some .cell := by simpa using q
      exact .inr ⟨q', cellsFrom_some _ _ _ (.inl q')⟩
  · subst he
    refine ⟨(gok.nolimit.keeps ground).keeps x.toInCall.keep, codeAny_func ?_⟩
    generalize hL : s.heap.objs.size = L at *
    have hLs : s.heap.get? L = none := hL ▸ size_none _
    obtain ⟨h₁, tk, rfl⟩ := x.toInCall.same
    have kp := x.toInCall.keep
    have hns := x.toInCall.ns
    have hcells := x.cell
    have hap := x.apart
    have habove := x.above
    have fresh : ∀ b, L ≤ b → s.heap.get? b = none := fun b hb => by
      cases e : s.heap.get? b with
      | none => rfl
      | some o => exact absurd (Heap.lt_size e) (Nat.not_lt.mpr (by rw [hL]; exact hb))
    let cl := cellsFrom (L + 1) scope.names []
    have hcl : ∀ y a, cl.lookup y = some a → L < a := fun y a e => habove y a (lookup_mem' e)
    have hmu : ∀ b ∈ L :: cl.map (·.2), s.heap.get? b = none := fun b hb => by
      rcases List.mem_cons.mp hb with rfl | hb
      · exact hLs
      · obtain ⟨⟨y, a⟩, hy, rfl⟩ := List.mem_map.mp hb
        exact fresh _ (Nat.le_of_lt (habove y a hy))
    have hex : ∀ b ∈ L :: cl.map (·.2), ∃ o, h₁.get? b = some o := fun b hb => by
      rcases List.mem_cons.mp hb with rfl | hb
      · obtain ⟨o, _, _, h, _⟩ := hns; exact ⟨o, h⟩
      · obtain ⟨⟨y, a⟩, hy, rfl⟩ := List.mem_map.mp hb
        have hlk : cl.lookup y = some a := lookup_of_mem_nodup (cellsFrom_names scope.names 0 (L + 1) [] [] rfl ▸ hcn) hy
        obtain ⟨o, h, _⟩ := hcells y a hlk
        exact ⟨o, h⟩
    refine hbody A L av _ _ _ ?_ fun fl s2 k2 r2 => ?_
    · have hrep : ∀ {v d}, Rep av s.heap v d → Rep ((L :: cl.map (·.2)) ++ av) h₁ v d := fun r => (r.more _ hmu).keep kp
      refine ⟨gok, ⟨aok.deeper, hk, rfl, rfl, List.mem_cons_self .., fun y a e => ⟨List.mem_append_left _ (List.mem_cons_of_mem _ (List.mem_map.mpr ⟨_, lookup_mem' e, rfl⟩)), Nat.ne_of_gt (hcl y a e)⟩, fun b hb q => ?_, fun y z a b h1 h2 hne => ?_⟩,
        fun b o e => kp b o (ground b o e), fun b hb => ?_, fun y a e => ⟨_, hcells y a e⟩, _, hns, fun y dy e => ?_, fun _ _ _ e => nomatch e⟩
      · obtain ⟨_, o, e⟩ := avok b q
        rw [hmu b hb] at e; cases e
      · rintro rfl
        exact hne (name_of_addr hap (lookup_mem' h1) (lookup_mem' h2))
      · rcases List.mem_append.mp hb with q | q
        · refine ⟨?_, hex b q⟩
          cases e : g.h₀.get? b with
          | none => rfl
          | some o => have := ground b o e; rw [hmu b q] at this; cases this
        · obtain ⟨h1, o, h2⟩ := avok b q
          exact ⟨h1, o, kp b o h2⟩
      · obtain ⟨v, hv, rv⟩ := zip_get reps e
        have hyp : y ∈ ps := (List.of_mem_zip hv).1
        have := List.all_eq_true.mp hkind y hyp
        have hnd' : ((ps.zip vs).map (·.1)).Nodup := by rw [zip_names ps vs hl]; exact hnd
        rcases Bool.or_eq_true_iff.mp this with q | q
        · have q' : scope.names.lookup y = some .local := by simpa using q
          exact .inl ⟨q', v, bindL_get _ _ hnd' hv q', hrep rv⟩
        · have q' : scope.names.lookup y = some .cell := by simpa using q
          obtain ⟨a, ha⟩ := Option.isSome_iff_exists.mp (cellsFrom_some scope.names (L + 1) [] (.inl q'))
          refine .inr ⟨q', a, v, ha, ?_, hrep rv⟩
          have := hcells y a ha
          rw [show bindC _ (ps.zip vs) (fun _ => none) y = some v from bindC_get _ _ hnd' hv q'] at this
          exact this
    · obtain ⟨v, rfl, rv⟩ := r2
      refine kk v s2 ?_ rv
      obtain ⟨h2, t2, rfl, hk2⟩ := k2
      refine ⟨h2, t2, rfl, fun b o e => hk2 b o (fun q => ?_) (kp b o e)⟩
      rw [hmu b q] at e; cases e
end Mine
end

/- LayJ -/
section
open PySem PySem.W PySem.Calls PyProof.Rows
set_option maxRecDepth 100000
namespace Mine

/-- the datum of a value that lies in no heap -/
noncomputable def datOf : Value → Option D
  | .int i _ => some (.int i)
  | .str x _ => some (.str x.cps.toList)
  | .bool b => some (.bool b)
  | _ => none
noncomputable def D.imm : D → Bool
  | .int _ => true
  | .str _ => true
  | .bool _ => true
  | _ => false
theorem Rep.dat {av : List Addr} {h : Heap} {v : Value} {d : D} (r : Rep av h v d) (hi : d.imm = true) : datOf v = some d := by
  cases r <;> first | rfl | cases hi
theorem Rep.of_dat {av : List Addr} {h : Heap} {v : Value} {d : D} (e : datOf v = some d) : Rep av h v d := by
  unfold datOf at e
  split at e
  · cases e; exact .int _ _
  · rename_i x t
    cases e
    obtain ⟨a⟩ := x
    have := Rep.str (av := av) (h := h) a.toList t
    simpa using this
  · cases e; exact .bool _
  · cases e

section
variable {g : Gd} {c : Cx} {ρ ρ' ρ1 ρ2 : Vars} {θ θ' θ1 : Own} {e e1 e2 e3 value slice test iter elt : Expr} {d d1 d2 dv : D} {pos p p1 p2 px py spos : Pos} {es : List Expr} {ds us : List D} {n : Int} {x y z : Str} {o : Out} {st : Stmt} {ss body orelse : List Stmt} {b : Bool}

/-- the block of a comprehension -/
@[reducible] noncomputable def blk (c : Cx) (scope : Scope) (cl : List (Str × Addr)) (C : Addr) : Cx := { A := c.A, env := compEnvC scope cl C c.env, mu := [C], ov := c.av, k := c.k }

structure BlkOk (c : Cx) (ρ ρ' : Vars) (x : Str) (scope : Scope) (cl : List (Str × Addr)) : Prop where
  clos : closureFor scope c.env = pure cl
  nocell : ∀ y ∈ scope.names, y.2 ≠ .cell
  kind : scope.kind = .function
  names : ∀ y ∈ scope.names, y.2 = .local → scope.names.lookup y.1 = some .local
  hx : scope.names.lookup x = some .local
  hcl : ∀ y a, cl.lookup y = some a → c.env.cells.lookup y = some a
  got : ∀ y d, ρ'.lookup y = some d → (y == x) = false ∧ ρ.lookup y = some d ∧ c.env.kindOf y = some .cell ∧ (relabel scope c.env).names.lookup y = some .cell ∧ cl.lookup y = c.env.cells.lookup y

theorem blk_inv {scope : Scope} {cl : List (Str × Addr)} {C : Addr} {wr : List Addr} {s s2 s3 : Shared} {m3 : Str → Option Value} {v : Value} (B : BlkOk c ρ ρ' x scope cl) (i : Inv g c ρ θ s) (k12 : Keeps s s2) (hw : ∀ b ∈ wr, s.heap.get? b = none) (hC : s2.heap.objs.size ≤ C)
    (hn : s3.heap.Ns C m3) (hm : m3 x = some v) (hk : ∀ b o, b ∉ wr → s2.heap.get? b = some o → s3.heap.get? b = some o) (hd : datOf v = some d) : Inv g (blk c scope cl C) ((x, d) :: ρ') none s3 := by
  have keep : ∀ b o, s.heap.get? b = some o → s3.heap.get? b = some o := fun b o e => hk b o (fun q => by rw [hw b q] at e; cases e) (Keeps.h k12 b o e)
  have lt : ∀ b o, s.heap.get? b = some o → b < C := fun b o e => Nat.lt_of_lt_of_le (Heap.lt_size (Keeps.h k12 b o e)) hC
  have hCn : s.heap.get? C = none := by
    cases e : s.heap.get? C with
    | none => rfl
    | some o => exact absurd (lt C o e) (Nat.lt_irrefl _)
  have hCav : C ∉ c.av := fun q => by
    obtain ⟨_, o, e⟩ := i.avok C q
    rw [hCn] at e; cases e
  have hrep : ∀ {w e}, Rep c.av s.heap w e → Rep ([C] ++ c.av) s3.heap w e := fun r => (r.more [C] (fun b hb => by rw [List.mem_singleton.mp hb]; exact hCn)).keep keep
  obtain ⟨m, hns, hv, _⟩ := i.vars
  refine ⟨i.gok, ⟨i.ok.a, B.kind, i.ok.glob, i.ok.bui, List.mem_singleton.mpr rfl, fun y a e => ?_, fun b hb q => ?_, fun y z a b h1 h2 hne => i.ok.cellNe y z a b (B.hcl y a h1) (B.hcl z b h2) hne⟩,
    fun b o e => keep b o (i.ground b o e), fun b hb => ?_, fun y a e => ?_, m3, hn, fun y dy e => ?_, fun _ _ _ e => nomatch e⟩
  · have h1 := B.hcl y a e
    obtain ⟨w, o, ho, _⟩ := i.cells y a h1
    exact ⟨List.mem_append_right _ (i.ok.cellIn y a h1).1, Nat.ne_of_lt (lt a o ho)⟩
  · rw [List.mem_singleton.mp hb] at q
    exact hCav q
  · rcases List.mem_append.mp hb with q | q
    · rw [List.mem_singleton.mp q]
      refine ⟨?_, ?_⟩
      · cases e : g.h₀.get? C with
        | none => rfl
        | some o => have := i.ground C o e; rw [hCn] at this; cases this
      · obtain ⟨o, _, _, h, _⟩ := hn; exact ⟨o, h⟩
    · obtain ⟨h1, o, h2⟩ := i.avok b q
      exact ⟨h1, o, keep b o h2⟩
  · obtain ⟨w, hi⟩ := i.cells y a (B.hcl y a e)
    exact ⟨w, hi.keeps keep⟩
  · rw [List.lookup_cons] at e
    cases hx : y == x with
    | true =>
      rw [hx] at e
      cases e
      have := eq_of_beq hx
      subst this
      exact .inl ⟨lookup_relabel_local B.hx, v, hm, .of_dat hd⟩
    | false =>
      rw [hx] at e
      obtain ⟨_, h2, h3, h4, h5⟩ := B.got y dy e
      rcases hv y dy h2 with ⟨q, _⟩ | ⟨_, a, w, ha, hi, r⟩
      · rw [h3] at q; cases q
      · exact .inr ⟨h4, a, w, h5.trans ha, hi.keeps keep, hrep r⟩

/-- what a comprehension asks of its tests and its element -/
structure CompOk (g : Gd) (c : Cx) (ρ' : Vars) (x : Str) (scope : Scope) (cl : List (Str × Addr)) (ifs : List Expr) (elt : Expr) (ds : List D) (tf : D → Bool) (ef : D → D) : Prop where
  imm : ∀ d ∈ ds, d.imm = true
  test : ∀ C, ∀ d ∈ ds, (ifs = [] ∧ tf d = true) ∨ ∃ t, ifs = [t] ∧ TE g (blk c scope cl C) ((x, d) :: ρ') none t (tf d)
  elt : ∀ C, ∀ d ∈ ds, tf d = true → (ef d).imm = true ∧ EV g (blk c scope cl C) ((x, d) :: ρ') none elt (ef d)

noncomputable def pOf (tf : D → Bool) (v : Value) : Bool := (datOf v).any tf
noncomputable def fOf (ef : D → D) (v y : Value) : Prop := ∃ d, datOf v = some d ∧ datOf y = some (ef d)

theorem quiet {scope : Scope} {cl : List (Str × Addr)} {ifs : List Expr} {wr : List Addr} {P : Nat → Value → Prop} {tf : D → Bool} {ef : D → D} {s s2 : Shared} {av' : List Addr} (B : BlkOk c ρ ρ' x scope cl) (O : CompOk g c ρ' x scope cl ifs elt ds tf ef) (i : Inv g c ρ θ s) (k12 : Keeps s s2) (hw : ∀ b ∈ wr, s.heap.get? b = none)
    (items : ∀ j v, P j v → ∃ d, ds[j]? = some d ∧ Rep av' s2.heap v d) : QuietOnC g.prog g.w c.A c.env scope cl x ifs elt wr P (pOf tf) (fOf ef) s2 where
  tests := fun C j v s3 m3 E' hC hp hn hm hk _ => by
    obtain ⟨d, hd, r⟩ := items j v hp
    have hmem := List.mem_of_getElem? hd
    have hv := r.dat (O.imm d hmem)
    have iv := blk_inv B i k12 hw hC hn hm hk hv
    have hpv : pOf tf v = tf d := by simp [pOf, hv]
    rw [hpv]
    rcases O.test C d hmem with ⟨rfl, ht⟩ | ⟨t, rfl, ht⟩
    · exact wpAny_tests_nil (by rw [ht]; exact ⟨rfl, keeps_refl _⟩)
    · exact wpAny_tests_one (ht s3 _ E' iv fun s4 k4 => ⟨rfl, k4⟩)
  elt := fun C j v s3 m3 E' hC hp hpv hn hm hk _ => by
    obtain ⟨d, hd, r⟩ := items j v hp
    have hmem := List.mem_of_getElem? hd
    have hv := r.dat (O.imm d hmem)
    have iv := blk_inv B i k12 hw hC hn hm hk hv
    have ht : tf d = true := by simpa [pOf, hv] using hpv
    obtain ⟨h1, h2⟩ := O.elt C d hmem ht
    exact h2 s3 _ E' iv fun y s4 k4 r4 => ⟨⟨d, hv, r4.dat h1⟩, k4⟩

theorem reps_paired {av : List Addr} {h : Heap} {ef : D → D} : ∀ {vs ys : List Value} {ds : List D}, (vs.map datOf = ds.map some) → Paired (fOf ef) vs ys → Reps av h ys (ds.map ef)
  | [], _, ds, he, hp => by
    cases hp
    cases ds with
    | nil => exact .nil
    | cons => simp at he
  | v :: vs, _, ds, he, hp => by
    cases hp with
    | cons h1 h2 =>
      cases ds with
      | nil => simp at he
      | cons d ds =>
        simp only [List.map_cons, List.cons.injEq] at he
        obtain ⟨d', e1, e2⟩ := h1
        rw [he.1] at e1
        cases e1
        exact .cons (.of_dat e2) (reps_paired he.2 h2)
theorem filter_dat {tf : D → Bool} : ∀ {vs : List Value} {ds : List D}, (vs.map datOf = ds.map some) → (vs.filter (pOf tf)).map datOf = (ds.filter tf).map some
  | [], ds, he => by
    cases ds with
    | nil => rfl
    | cons => simp at he
  | v :: vs, ds, he => by
    cases ds with
    | nil => simp at he
    | cons d ds =>
      simp only [List.map_cons, List.cons.injEq] at he
      have ih := filter_dat (tf := tf) he.2
      have hp : pOf tf v = tf d := by simp [pOf, he.1]
      rw [List.filter_cons, List.filter_cons, hp]
      split
      · simp [he.1, ih]
      · exact ih
theorem vs_dat {P : Nat → Value → Prop} {vs : List Value} {av' : List Addr} {h : Heap} (hl : vs.length = ds.length) (hp : ∀ j v, vs[j]? = some v → P j v) (items : ∀ j v, P j v → ∃ d, ds[j]? = some d ∧ Rep av' h v d) (imm : ∀ d ∈ ds, d.imm = true) : vs.map datOf = ds.map some := by
  apply List.ext_getElem?
  intro j
  rw [List.getElem?_map, List.getElem?_map]
  cases e : vs[j]? with
  | none =>
    have : ds[j]? = none := by rw [List.getElem?_eq_none_iff] at e ⊢; (first | assumption | lia | omega)
    simp [this]
  | some v =>
    obtain ⟨d, hd, r⟩ := items j v (hp j v e)
    simp [hd, r.dat (imm d (List.mem_of_getElem? hd))]

theorem EV.comp {scope : Scope} {cl : List (Str × Addr)} {ifs : List Expr} {tf : D → Bool} {ef : D → D} {fb : Bool} (hs : SRC g c ρ θ iter ds fb) (B : BlkOk c ρ ρ' x scope cl) (O : CompOk g c ρ' x scope cl ifs elt ds tf ef) (hz : ds.length ≤ 1000000)
    (hf : ∀ x, foldedSetIterable iter c.env x = pure x := by intro _; rfl) : EV g c ρ θ (.ListComp elt [⟨.Name x px, iter, ifs, 0⟩] scope pos) (.lst ((ds.filter tf).map ef)) := by
  intro s Q E i k
  refine wpAny_ListComp_free (pOf tf) (fOf ef) B.clos B.nocell B.kind B.names B.hx (hs s _ E i fun I fp wr P St s2 k2 W st items hw hfp hlt hob => ?_) hf
  refine ⟨I, fp, wr, ds.length, P, St, rfl, W, by unfold sizeLine; (first | assumption | lia | omega), st, hlt, quiet B O i k2 (fun b hb => (hw b hb).1) items, fun D' h' tk ys vs hD hl hpl hlen hp hF hk => ?_⟩
  have hav : D' ∉ c.av := fun q => by
    obtain ⟨_, o, e⟩ := i.avok D' q
    rw [Keeps.h k2 _ _ e] at hD; cases hD
  have k' : Keeps s { s2 with heap := h', toks := tk } := by
    obtain ⟨h2, t2, rfl, hk2⟩ := k2
    exact ⟨h', tk, rfl, fun b o e => hk b o (fun q => by rw [(hw b q).1] at e; cases e) (hk2 b o e)⟩
  refine k _ _ k' (.lst hav (vs := ys.toList) (by simpa using hpl) (reps_paired (filter_dat (vs_dat hlen hp items O.imm)) hF))

theorem Inv.setLocal {s : Shared} {h' : Heap} {tk : Nat} {v : Value} {m : Str → Option Value} (i : Inv g c ρ θ s) (hx : c.env.kindOf x = some .local) (hθ : ∀ a ds y, θ = some (y, a, ds) → y ≠ x)
    (hm : s.heap.Ns c.env.locals m) (hn' : h'.Ns c.env.locals (fun z => if z = x then some v else m z)) (hs : ∀ b o, b ≠ c.env.locals → s.heap.get? b = some o → h'.get? b = some o) (r : Rep c.av h' v d) : Inv g c ((x, d) :: ρ) θ { s with heap := h', toks := tk } := by
  obtain ⟨m', hn, hv, ho⟩ := i.vars
  have hmm : m' = m := by
    obtain ⟨o1, es1, ep1, a1, a2, a3, a4⟩ := hn
    obtain ⟨o2, es2, ep2, b1, b2, b3, b4⟩ := hm
    rw [a1] at b1
    cases b1
    rw [a2] at b2
    cases b2
    funext z
    rw [← a4, ← b4]
  subst hmm
  have hL := Cx.mu_av i.ok.locIn
  have hk : ∀ b o, b ∉ c.av → s.heap.get? b = some o → h'.get? b = some o := fun b o n e => hs b o (fun q => n (q ▸ hL)) e
  refine ⟨i.gok, i.ok, ?_, ?_, ?_, _, hn', ?_, ?_⟩
  · intro b o e
    refine hs b o (fun q => ?_) (i.ground b o e)
    have := (i.avok _ hL).1
    rw [← q, e] at this; cases this
  · intro b hb
    refine ⟨(i.avok b hb).1, ?_⟩
    by_cases q : b = c.env.locals
    · obtain ⟨oL, es, ep, h1, _⟩ := hn'
      exact ⟨oL, q ▸ h1⟩
    · obtain ⟨o, e⟩ := (i.avok b hb).2
      exact ⟨o, hs b o q e⟩
  · intro y a e
    obtain ⟨u, o, h1, h2⟩ := i.cells y a e
    exact ⟨u, o, hs a o (i.ok.cellIn y a e).2 h1, h2⟩
  · intro y dy e
    by_cases q : y = x
    · subst q
      rw [List.lookup_cons_self] at e
      cases e
      exact .inl ⟨hx, v, by simp, r⟩
    · have e' : ρ.lookup y = some dy := by
        rw [List.lookup_cons, str_ne q] at e
        exact e
      exact (hv y dy e').but hk (fun _ => by simp [q]) fun a w _ ha ⟨o, h1, h2⟩ => ⟨o, hs a o (i.ok.cellIn y a ha).2 h1, h2⟩
  · intro y a ds e
    obtain ⟨p1, p2, p3, p4, p5, vs, p6, p7⟩ := ho y a ds e
    exact ⟨p1, by simp [hθ a ds y e, p2], p3, p4, p5, vs, p6.at (fun o q => hs _ _ p4 q), p7.keepBut hk⟩

theorem EX.assignComp {scope : Scope} {cl : List (Str × Addr)} {ifs : List Expr} {tf : D → Bool} {ef : D → D} {fb : Bool} (hs : SRC g c ρ θ iter ds fb) (B : BlkOk c ρ ρ' x scope cl) (O : CompOk g c ρ' x scope cl ifs elt ds tf ef) (hz : ds.length ≤ 1000000)
    (hy : c.env.kindOf y = some .local := by rfl) (hsw : swapsWith (.ListComp elt [⟨.Name x px, iter, ifs, 0⟩] scope pos) (some (.Name y py)) spos.line c.env = pure true := by rfl)
    (hθ : ∀ a ds z, θ = some (z, a, ds) → z ≠ y := by intro _ _ _ h; cases h <;> decide)
    (hf : ∀ x, foldedSetIterable iter c.env x = pure x := by intro _; rfl) : EX g c ρ θ (.Assign [.Name y py] (.ListComp elt [⟨.Name x px, iter, ifs, 0⟩] scope pos) spos) (.next ((y, .lst ((ds.filter tf).map ef)) :: ρ) θ) := by
  intro s Q E i k
  refine wpAny_Assign_ListComp_free (pOf tf) (fOf ef) hsw B.clos B.nocell B.kind B.names B.hx hy (by rw [i.ok.kind]; rfl) (hs s _ E i fun I fp wr P St s2 k2 W st items hw hfp hlt hob => ?_) hf
  obtain ⟨m, hn, _⟩ := i.vars
  have hLw : c.env.locals ∉ wr := fun q => by
    obtain ⟨_, o, e⟩ := i.avok _ (Cx.mu_av i.ok.locIn)
    rw [(hw _ q).1] at e; cases e
  refine ⟨I, fp, wr, ds.length, P, St, m, rfl, W, by unfold sizeLine; (first | assumption | lia | omega), st, hlt, hLw, hn.keeps (Keeps.h k2), quiet B O i k2 (fun b hb => (hw b hb).1) items, fun D' h' tk ys vs hD hl hpl hlen hp hF hn' hk => ?_⟩
  have hav : D' ∉ c.av := fun q => by
    obtain ⟨_, o, e⟩ := i.avok D' q
    rw [Keeps.h k2 _ _ e] at hD; cases hD
  have kk : ∀ b o, b ≠ c.env.locals → s.heap.get? b = some o → h'.get? b = some o := fun b o nb e => hk b o nb (fun q => by rw [(hw b q).1] at e; cases e) (Keeps.h k2 b o e)
  have r : Rep c.av h' (.ref D') (.lst ((ds.filter tf).map ef)) := .lst hav (vs := ys.toList) (by simpa using hpl) (reps_paired (filter_dat (vs_dat hlen hp items O.imm)) hF)
  obtain ⟨h2, t2, rfl, hk2⟩ := k2
  exact k _ _ ⟨h', tk, rfl, fun b o nb e => kk b o (fun q => nb (q ▸ i.ok.locIn)) e⟩ ⟨rfl, i.setLocal hy hθ hn hn' kk r⟩
end
end Mine
end

/- LayK -/
section
open PySem PySem.W PySem.Calls PyProof.Rows
set_option maxRecDepth 100000
namespace Mine
section
variable {g : Gd} {c : Cx} {ρ ρ' ρ1 ρ2 : Vars} {θ θ' θ1 : Own} {e e1 e2 e3 value slice test iter elt : Expr} {d d1 d2 dv : D} {pos p p1 p2 px py spos pl np ap : Pos} {es : List Expr} {ds us : List D} {n : Int} {x y z : Str} {o : Out} {st : Stmt} {ss body orelse : List Stmt} {b : Bool}

/-- the frame with one more list of its own -/
@[reducible] noncomputable def Cx.own (c : Cx) (a : Addr) : Cx := { c with mu := a :: c.mu }

theorem RUN.own (hρ : ρ.lookup x = none) (h : ∀ a, a ∉ c.av → RUN g (c.own a) ρ (some (x, a, [])) ss (.ret d)) (hx : c.env.kindOf x = some .local := by rfl) : RUN g c ρ none (.Assign [.Name x p] (.List [] pl) pos :: ss) (.ret d) := by
  intro s Q E i k
  obtain ⟨m, hn, hv, _⟩ := i.vars
  refine wpAny_execs_cons (wpAny_Assign_Name (wpAny_List (spliced_none ⟨by decide, ?_⟩)))
  have k1 := keeps_push' s ({ cls := .type "list", data := .seq ([] : List Value).toArray } : Obj)
  have i1 := i.keeps k1
  generalize hA : s.heap.objs.size = a at *
  have hna : s.heap.get? a = none := hA ▸ size_none _
  have hav : a ∉ c.av := hA ▸ i.fresh
  have hga : (s.heap.push { cls := .type "list", data := .seq ([] : List Value).toArray }).get? a = some { cls := .type "list", data := .seq ([] : List Value).toArray } := hA ▸ Heap.get?_push_size _ rfl
  have haL : a ≠ c.env.locals := fun q => hav (q ▸ Cx.mu_av i.ok.locIn)
  refine wpAny_storeName_local hx (hn.push _) (fun h' hn' hs => ?_) (by rw [i.ok.kind]; rfl)
  have hL := i.ok.locIn
  have keep : ∀ b o, b ≠ c.env.locals → s.heap.get? b = some o → h'.get? b = some o := fun b o nb e => hs.extBut b o nb (Heap.get?_push_of_some _ e)
  have hrep : ∀ {w e}, Rep c.av s.heap w e → Rep (c.own a).av h' w e := fun r =>
    r.move (fun b o nb e q => by
      rcases List.mem_cons.mp q with rfl | q
      · rw [hna] at e; cases e
      · exact nb q) fun b o nb e => keep b o (fun q => nb (q ▸ Cx.mu_av hL)) e
  have iv : Inv g (c.own a) ρ (some (x, a, [])) { s with heap := h', toks := s.toks + 1 } := by
    refine ⟨i.gok, ⟨i.ok.a, i.ok.kind, i.ok.glob, i.ok.bui, List.mem_cons_of_mem _ hL, fun y b e => ⟨List.mem_cons_of_mem _ (i.ok.cellIn y b e).1, (i.ok.cellIn y b e).2⟩, fun b hb q => ?_, i.ok.cellNe⟩, fun b o e => ?_, fun b hb => ?_, fun y b e => ?_, _, hn', fun y dy e => ?_, fun y b us e => ?_⟩
    · rcases List.mem_cons.mp hb with rfl | hb
      · exact hav (List.mem_append_right _ q)
      · exact i.ok.apart b hb q
    · refine keep b o (fun q => ?_) (i.ground b o e)
      have := (i.avok _ (Cx.mu_av hL)).1
      rw [← q, e] at this; cases this
    · rcases List.mem_cons.mp hb with rfl | hb
      · refine ⟨?_, _, hs.extBut _ _ haL hga⟩
        cases e : g.h₀.get? b with
        | none => rfl
        | some o => have := i.ground b o e; rw [hna] at this; cases this
      · refine ⟨(i.avok b hb).1, ?_⟩
        by_cases q : b = c.env.locals
        · obtain ⟨oL, es, ep, h1, _⟩ := hn'
          exact ⟨oL, q ▸ h1⟩
        · obtain ⟨o, e⟩ := (i.avok b hb).2
          exact ⟨o, keep b o q e⟩
    · obtain ⟨u, o, h1, h2⟩ := i.cells y b e
      exact ⟨u, o, keep b o (i.ok.cellIn y b e).2 h1, h2⟩
    · have q : y ≠ x := fun q => by rw [q, hρ] at e; cases e
      rcases hv y dy e with ⟨h1, w, h2, r⟩ | ⟨h1, b, w, h2, ⟨o, h3, h4⟩, r⟩
      · exact .inl ⟨h1, w, by simp [q, h2], hrep r⟩
      · exact .inr ⟨h1, b, w, h2, ⟨o, keep b o (i.ok.cellIn y b h2).2 h3, h4⟩, hrep r⟩
    · cases e
      exact ⟨hx, by simp, List.mem_cons_self .., haL, fun y b e q => hav (q ▸ (i.ok.cellIn y b e).1), [], ⟨0, hs.extBut _ _ haL hga⟩, .nil⟩
  refine h a hav _ Q E iv fun f s2 k2 r2 => k f s2 ?_ r2
  obtain ⟨h2, t2, rfl, hk2⟩ := k2
  refine ⟨h2, t2, rfl, fun b o nb e => hk2 b o (fun q => ?_) (keep b o (fun q => nb (q ▸ hL)) e)⟩
  rcases List.mem_cons.mp q with rfl | q
  · rw [hna] at e; cases e
  · exact nb q

theorem RUN.freeze {a : Addr} (hav : a ∉ c.av) (h : RUN g c ((x, .lst ds) :: ρ) none ss (.ret d)) : RUN g (c.own a) ρ (some (x, a, ds)) ss (.ret d) := by
  intro s Q E i k
  obtain ⟨m, hn, hv, ho⟩ := i.vars
  obtain ⟨p1, p2, p3, p4, p5, vs, p6, p7⟩ := ho x a ds rfl
  have sub : ∀ b ∈ c.av, b ∈ (c.own a).av := fun b hb => List.mem_cons_of_mem _ hb
  have hL : c.env.locals ∈ c.mu := by
    rcases List.mem_cons.mp i.ok.locIn with q | q
    · exact absurd q.symm p4
    · exact q
  have iv : Inv g c ((x, .lst ds) :: ρ) none s := by
    refine ⟨i.gok, ⟨i.ok.a, i.ok.kind, i.ok.glob, i.ok.bui, hL, fun y b e => ⟨?_, (i.ok.cellIn y b e).2⟩, fun b hb q => i.ok.apart b (List.mem_cons_of_mem _ hb) q, i.ok.cellNe⟩, i.ground, fun b hb => i.avok b (sub b hb), i.cells, m, hn, fun y dy e => ?_, fun _ _ _ e => nomatch e⟩
    · rcases List.mem_cons.mp (i.ok.cellIn y b e).1 with q | q
      · exact absurd q (p5 y b e)
      · exact q
    · rw [List.lookup_cons] at e
      cases hx : y == x with
      | true =>
        rw [hx] at e
        cases e
        rw [eq_of_beq hx]
        exact .inl ⟨p1, _, p2, .lst hav p6 (p7.weaken sub)⟩
      | false =>
        rw [hx] at e
        rcases hv y dy e with ⟨h1, w, h2, r⟩ | ⟨h1, b, w, h2, h3, r⟩
        · exact .inl ⟨h1, w, h2, r.weaken sub⟩
        · exact .inr ⟨h1, b, w, h2, h3, r.weaken sub⟩
  refine h s Q E iv fun f s2 k2 r2 => k f s2 ?_ r2
  obtain ⟨h2, t2, rfl, hk2⟩ := k2
  exact ⟨h2, t2, rfl, fun b o nb e => hk2 b o (fun q => nb (List.mem_cons_of_mem _ q)) e⟩

theorem EX.append {a : Addr} (hv : EV g c ρ (some (x, a, ds)) elt d) (hz : ds.length ≤ 1000000)
    (hbase : attributeBase (.Name x np) "append" c.env (eval (.Name x np) c.env) = eval (.Name x np) c.env := by rfl)
    (hfew : ((backTo pos (starEach [elt] c.env)).all (fun x => !x.1) && (backToKw pos (keywordEach [] c.env)).all (fun x => x.1.isSome)
      && decide (([elt] : List Expr).length + ([] : List Keyword).length + (if ([] : List Keyword).isEmpty then 0 else 1) < 30)) = true := by rfl)
    (hline : (ap.endLine == pos.line) = true := by rfl)
    (htrees : backTo pos (starEach [elt] c.env) = [(false, eval elt c.env)] := by rfl) (hd : (x == ("__debug__" : Str)) = false := by rfl) (hi : interactive c.env = false := by rfl) :
    EX g c ρ (some (x, a, ds)) (.Expr (.Call (.Attribute (.Name x np) "append" ap) [elt] [] pos) spos) (.next ρ (some (x, a, ds ++ [d]))) := by
  intro s Q E i k
  obtain ⟨m, hn, hvv, ho⟩ := i.vars
  obtain ⟨p1, p2, p3, p4, p5, vs, p6, p7⟩ := ho x a ds rfl
  refine wpAny_Expr ?_ hi rfl
  refine wpAny_Call_append hbase hfew hline htrees (wpAny_Name (wpAny_loadName_local i.ok.kind p1 hn p2 ?_) hd)
  obtain ⟨n6, e6⟩ := p6
  refine ⟨a, vs.toArray, rfl, ⟨_, n6, e6, rfl, rfl, rfl⟩, ?_⟩
  refine hv s _ E i fun v s1 k1 r1 => ?_
  have i1 := i.keeps k1
  have e1 : s1.heap.PlainList a vs.toArray := ⟨n6, Keeps.h k1 _ _ e6⟩
  refine wpAny_list_append_plain e1 (fun h' hl' hs' => ?_) (by rw [List.size_toArray, p7.length]; unfold sizeLine; (first | assumption | lia | omega))
  have ha := Cx.mu_av p3
  have hk : ∀ b o, b ∉ c.av → s1.heap.get? b = some o → h'.get? b = some o := fun b o nb e => hs'.extBut b o (fun q => nb (q ▸ ha)) e
  have ga : g.h₀.get? a = none := (i.avok a ha).1
  obtain ⟨h1, t1, rfl, hk1⟩ := k1
  refine k _ _ ⟨h', _, rfl, fun b o nb e => hs'.extBut b o (fun q => nb (q ▸ p3)) (hk1 b o e)⟩ ⟨rfl, i.gok, i.ok, fun b o e => ?_, fun b hb => ?_, fun y b e => ?_, m, ?_, fun y dy e => ?_, fun y b us e => ?_⟩
  · exact hs'.extBut b o (fun q => by rw [q, ga] at e; cases e) (i1.ground b o e)
  · refine ⟨(i.avok b hb).1, ?_⟩
    by_cases q : b = a
    · obtain ⟨n', e'⟩ := hl'
      exact ⟨_, q ▸ e'⟩
    · obtain ⟨o, e⟩ := (i1.avok b hb).2
      exact ⟨o, hs'.extBut b o q e⟩
  · obtain ⟨u, o, h2, h3⟩ := i1.cells y b e
    exact ⟨u, o, hs'.extBut b o (p5 y b e) h2, h3⟩
  · exact (hn.keeps hk1).sameBut hs' (fun q => p4 q.symm)
  · rcases hvv y dy e with ⟨q1, w, q2, r⟩ | ⟨q1, b, w, q2, ⟨o, q3, q4⟩, r⟩
    · exact .inl ⟨q1, w, q2, (r.keep hk1).keepBut hk⟩
    · exact .inr ⟨q1, b, w, q2, ⟨o, hs'.extBut b o (p5 y b q2) (hk1 b o q3), q4⟩, (r.keep hk1).keepBut hk⟩
  · cases e
    exact ⟨p1, p2, p3, p4, p5, vs ++ [v], by simpa using hl', ((p7.keep hk1).append (.cons r1 .nil)).keepBut hk⟩
end
end Mine
end

/- LayL -/
section
open PySem PySem.W PySem.Calls PyProof.Rows
set_option maxRecDepth 100000
namespace Mine
section
variable {prog : Program} {w : World} {A : Around} {E : Value → Shared → Prop} {s : Shared}
theorem nextOf_tuple {it t : Addr} {i : Nat} {items : Array Value} {x : Value} {Q : Value → Shared → Prop} (hit : s.heap.IsTupleIter it t i) (ht : s.heap.IsTuple t items) (hx : items[i]? = some x)
    (hQ : ∀ h', h'.IsTupleIter it t (i + 1) → Heap.SameBut it s.heap h' → Q x { s with heap := h' }) : wpAny (model prog w) A (Builtin.SmallTypes.nextOf (.ref it)) Q E s := by
  obtain ⟨o, ho, hc, hd⟩ := id hit
  obtain ⟨ol, hol, _, nl, hdl⟩ := ht
  unfold Builtin.SmallTypes.nextOf
  refine wpAny_bind (wpAny_callSpecial?_slot (name := Str.ofString "__next__") hit.typeIs F.slot_tuple_iterator_next
    (wpAny_call_entry F.slot_tuple_iterator_next hit.typeIs F.entry_tuple_iterator_next ?_ (F.args_tuple_iterator_next_1 _)))
  show wpAny _ _ (field (.ref it) 0 >>= _) _ _ s
  refine wpAny_bind (wpAny_field ho hd (x := .ref t) rfl ?_)
  show wpAny _ _ (if (Value.ref t == Value.none) = true then _ else _) _ _ s
  rw [if_neg (show ¬ ((Value.ref t == Value.none) = true) from Bool.false_ne_true)]
  show wpAny _ _ (field (.ref it) 1 >>= _) _ _ s
  refine wpAny_bind (wpAny_field ho hd (x := .int i 0) rfl ?_)
  show wpAny _ _ (seqItems? (.ref t) >>= _) _ _ s
  refine wpAny_bind (wpAny_seqItems hol hdl ?_)
  simp only [Int.toNat_natCast, hx]
  refine wpAny_bind (wpAny_setField ho hd (by simp) (wpAny_pure ⟨x, rfl, wpAny_pure (hQ _ ?_ (Heap.SameBut.update ..))⟩))
  exact ⟨_, Heap.get?_update_self _ ho (Obj.isFreed_of_fields (Obj.data_mapFields hd _)), (Obj.cls_mapFields ..).trans hc, by
    rw [Obj.data_mapFields hd]; simp [rawInt]⟩
theorem nextOf_tuple_end {it t : Addr} {i : Nat} {items : Array Value} {Q : Value → Shared → Prop} (hh : A.handled = none) (hit : s.heap.IsTupleIter it t i) (ht : s.heap.IsTuple t items) (hx : items[i]? = none)
    (hE : ∀ h' e, Heap.ExtBut it s.heap h' → (∃ o, h'.get? e = some o ∧ o.cls = .type "StopIteration") → E (.ref e) { s with heap := h' }) : wpAny (model prog w) A (Builtin.SmallTypes.nextOf (.ref it)) Q E s := by
  obtain ⟨o, ho, hc, hd⟩ := id hit
  obtain ⟨ol, hol, _, nl, hdl⟩ := ht
  unfold Builtin.SmallTypes.nextOf
  refine wpAny_bind (wpAny_callSpecial?_slot (name := Str.ofString "__next__") hit.typeIs F.slot_tuple_iterator_next
    (wpAny_call_entry F.slot_tuple_iterator_next hit.typeIs F.entry_tuple_iterator_next ?_ (F.args_tuple_iterator_next_1 _)))
  show wpAny _ _ (field (.ref it) 0 >>= _) _ _ s
  refine wpAny_bind (wpAny_field ho hd (x := .ref t) rfl ?_)
  show wpAny _ _ (if (Value.ref t == Value.none) = true then _ else _) _ _ s
  rw [if_neg (show ¬ ((Value.ref t == Value.none) = true) from Bool.false_ne_true)]
  show wpAny _ _ (field (.ref it) 1 >>= _) _ _ s
  refine wpAny_bind (wpAny_field ho hd (x := .int i 0) rfl ?_)
  show wpAny _ _ (seqItems? (.ref t) >>= _) _ _ s
  refine wpAny_bind (wpAny_seqItems hol hdl ?_)
  simp only [Int.toNat_natCast, hx]
  refine wpAny_bind (wpAny_rule (wpAny_bind (wpAny_setField ho hd (by simp) ?_)))
  show wpAny _ _ (newExc (.type "StopIteration") [] >>= _) _ _ _
  refine wpAny_bind ?_
  simp only [newExc, newTuple]
  refine wpAny_bind (wpAny_newObj_type ?_ (by size_fits))
  refine wpAny_bind (m := firstArgMember _ _) (wpAny_of_eq (a := Value.none) (by first | rfl | (simp only [firstArgMember]; rfl)) ?_)
  refine wpAny_newObj_type ?_ (by size_fits)
  simp only [raiseNew]
  refine wpAny_bind (wpAny_handled ?_)
  first | rw [show A.in1.handled = none from hh] | rw [hh]
  refine wpAny_bind (wpAny_pure (wpAny_throw ?_))
  exact hE _ _ (((Heap.SameBut.update ..).extBut.push _).push _) ⟨_, Heap.get?_push_size _ rfl, rfl⟩
end
theorem draws_tuple {prog : Program} {w : World} {A : Around} (hh : A.handled = none) (it t : Addr) (hne : t ≠ it) (items : Array Value) :
    Draws prog w A it [it, t] items.size (fun i v => items[i]? = some v) (fun i h => h.IsTupleIter it t i ∧ h.IsTuple t items) where
  live := fun _ _ st => let ⟨o, ho, _⟩ := st.1; ⟨o, ho⟩
  frame := fun _ _ _ st hk => ⟨st.1.at fun o e => hk it (by simp) o e, st.2.at fun o e => hk t (by simp) o e⟩
  item := fun i s Q E hi st hQ => by
    refine nextOf_tuple st.1 st.2 (x := items[i]) (by simp [hi]) fun h' hit' hs' => ?_
    exact hQ _ h' s.toks (by simp [hi]) ⟨hit', st.2.extBut hs'.extBut hne⟩ hs'
  done := fun s Q E st hE => nextOf_tuple_end hh st.1 st.2 (by simp) hE

open AutoSeq1 (wpAny_loadPart') in
theorem meets_enum_tuple (l : Addr) (items : Array Value) (n : Nat) :
    Meets (Builtin.«enumerate.__new__» ⟨[.type "enumerate", .ref l], []⟩) (fun _ R s => s.heap.get? l = some { cls := .type "tuple", data := .seq items n } ∧
      R (.ok (.ret (.ref (s.heap.push { cls := .type "tuple_iterator", data := .fields #[.ref l, .int 0 0] }).objs.size)))
        { s with heap := (s.heap.push { cls := .type "tuple_iterator", data := .fields #[.ref l, .int 0 0] }).push { cls := .type "enumerate", data := .fields #[.none, .bool false, .ref s.heap.objs.size, rawInt 0, .none, .none] } }) :=
  .of_wp fun prog w A R s h => by
    obtain ⟨hp, g, d, tk, os⟩ := s; obtain ⟨hl, h⟩ := h
    have hsub := sub_enumerate
    have hL : Heap.IsTuple (Shared.heap ⟨hp, g, d, tk, os⟩) l items := ⟨_, hl, rfl, n, rfl⟩
    wp_walk using wpAny_loadPart' hl
    refine wpAny_stack_any fun st => wpAny_pure ?_
    split
    · rename_i c _ _ _ _ _
      cases (c == Value.type "enumerate")
      · wp_walk using wpAny_loadPart' hl, wpAny_pyIter_tuple hL
        exact ⟨_, rfl, h⟩
      · wp_walk using wpAny_loadPart' hl, wpAny_pyIter_tuple hL
        exact ⟨_, rfl, h⟩
    · wp_walk using wpAny_loadPart' hl, wpAny_pyIter_tuple hL
      exact ⟨_, rfl, h⟩
theorem call_enum_tuple {prog : Program} {w : World} {A : Around} {E : Value → Shared → Prop} {s : Shared} {l : Addr} {items : Array Value} {Q : Value → Shared → Prop} (hl : PT s.heap l items)
    (h : ∀ h', IsEnum h' (s.heap.objs.size + 1) s.heap.objs.size 0 .none → h'.IsTupleIter s.heap.objs.size l 0 → h'.objs.size = s.heap.objs.size + 2 →
      (∀ b o, s.heap.get? b = some o → h'.get? b = some o) → Q (.ref (s.heap.objs.size + 1)) { s with heap := h' }) :
    wpAny (model prog w) A (call (.type "enumerate") [.ref l]) Q E s := by
  obtain ⟨n, hl⟩ := hl
  refine callType_new F.called_enumerate (by decide) (F.typeCall_enumerate_1 _) (F.newCall_enumerate_1 _) (fun obj => F.args_object_init_2 obj _) F.entry_enumerate_new
    (meets_enum_tuple l items n) ⟨hl, ?_⟩
  have hz : (s.heap.push { cls := .type "tuple_iterator", data := .fields #[.ref l, .int 0 0] }).objs.size = s.heap.objs.size + 1 := Heap.size_push ..
  show _ ∧ _
  rw [hz]
  have he : IsEnum ((s.heap.push { cls := .type "tuple_iterator", data := .fields #[.ref l, .int 0 0] }).push
      { cls := .type "enumerate", data := .fields #[.none, .bool false, .ref s.heap.objs.size, rawInt 0, .none, .none] }) (s.heap.objs.size + 1) s.heap.objs.size 0 .none := by
    have := Heap.get?_push_size (s.heap.push { cls := .type "tuple_iterator", data := .fields #[.ref l, .int 0 0] })
      (o := { cls := .type "enumerate", data := .fields #[.none, .bool false, .ref s.heap.objs.size, rawInt 0, .none, .none] }) rfl
    rw [hz] at this; exact this
  refine ⟨⟨_, he, rfl⟩, h _ he ⟨_, Heap.get?_push_of_some _ (Heap.get?_push_size _ rfl), rfl, rfl⟩ (by rw [Heap.size_push, hz]) fun b o x => Heap.get?_push_of_some _ (Heap.get?_push_of_some _ x)⟩
theorem letOwned_tupiter {prog : Program} {w : World} {A : Around} {E : Value → Shared → Prop} {s : Shared} {elts : List Expr} {x1 : Nat} {pos : Pos} {I l T : Addr} {i : Nat} {Q : Unit → Shared → Prop} (hit : s.heap.IsTupleIter I l i) (hQ : Q () s) :
    wpAny (model prog w) A (letOwnedTupleGo (.Tuple elts x1 pos) (.ref I) (.ref T)) Q E s := by
  obtain ⟨o, ho, hc, hd⟩ := hit
  unfold letOwnedTupleGo
  refine wpAny_bind (wpAny_load ho ?_)
  rw [hc, hd]
  show wpAny _ A (if (["enumerate", "zip", "dict_itemiterator", "dict_reverseitemiterator", "odict_iterator", "itertools.zip_longest", "itertools.pairwise"].contains "tuple_iterator" &&
      (#[.ref l, .int i 0] : Array Value)[0]? == some (rawInt T)) = true then _ else _) Q E s
  rw [if_neg (by
    intro h
    rw [show (["enumerate", "zip", "dict_itemiterator", "dict_reverseitemiterator", "odict_iterator", "itertools.zip_longest", "itertools.pairwise"].contains "tuple_iterator") = false from by decide, Bool.false_and] at h
    cases h)]
  exact wpAny_pure hQ
end Mine
end

/- LayM -/
section
open PySem PySem.W PySem.Calls PyProof.Rows
set_option maxRecDepth 100000
namespace Mine
section
variable {g : Gd} {c : Cx} {ρ ρ' ρ1 ρ2 : Vars} {θ θ' θ1 : Own} {e e1 e2 e3 value slice test iter elt : Expr} {d d1 d2 dv : D} {pos p p1 p2 px py pt spos pl np ap : Pos} {es : List Expr} {ds us : List D} {n : Int} {x y z : Str} {o : Out} {st : Stmt} {ss body orelse : List Stmt} {b : Bool} {kk : Nat}

structure Loop2 (g : Gd) (c : Cx) (I : Addr) (fp wr : List Addr) (n : Nat) (Pt : Nat → Array Value → Prop) (St : Nat → Heap → Prop) (Mid : Nat → Addr → Heap → Prop) (i : Nat) (ds : List (D × D)) (s : Shared) : Prop where
  W : WalksU g.prog g.w c.A I fp wr n Pt St Mid
  hn : n = i + ds.length
  items : ∀ j vals, Pt (i + j) vals → ∃ d1 d2 v1 v2, ds[j]? = some (d1, d2) ∧ vals = #[v1, v2] ∧ Rep (c.ext wr).av s.heap v1 d1 ∧ Rep (c.ext wr).av s.heap v2 d2
  st : St i s.heap
  dis : ∀ b ∈ wr, b ∉ c.mu ∧ b ∉ c.ov ∧ g.h₀.get? b = none
  fpd : ∀ b ∈ fp, b ∉ c.mu
  hob : ∀ i h, St i h → ∀ b ∈ wr, ∃ o, h.get? b = some o
  hoM : ∀ i T h, Mid i T h → ∀ b ∈ wr, ∃ o, h.get? b = some o
  cok : c.Ok

noncomputable def FR2 (g : Gd) (c : Cx) (ρ : Vars) (θ : Own) (target : Expr) (body orelse : List Stmt) (ds : List (D × D)) (o : Out) : Prop :=
  ∀ (s : Shared) (R : Result → Shared → Prop) (I : Addr) (fp wr : List Addr) (n : Nat) (Pt : Nat → Array Value → Prop) (St : Nat → Heap → Prop) (Mid : Nat → Addr → Heap → Prop) (i : Nat), Loop2 g c I fp wr n Pt St Mid i ds s → Inv g (c.ext wr) ρ θ s →
    (∀ f s', KeepsBut (wr ++ c.mu) s s' → Fits g c o f s' → R (.ok f) s') → codeAny (model g.prog g.w) c.A (.forLoop target (.ref I) body orelse c.env) R s

theorem FR2.nil {target : Expr} (h : RUN g c ρ θ orelse o) : FR2 g c ρ θ target body orelse [] o := by
  intro s R I fp wr n Pt St Mid i L iv k
  have hn : n = i := by simpa using L.hn
  refine forU (L.W.done s _ _ (hn ▸ L.st) fun h' tk hk => ?_)
  have i1 := (iv.turn (tk := tk) L.cok L.dis hk).1
  refine h _ _ _ i1 fun f s2 k2 r2 => k f s2 ?_ r2
  obtain ⟨h2, t2, rfl, hk2⟩ := k2
  exact ⟨h2, t2, rfl, fun b o nb e => hk2 b o (fun q => nb (List.mem_append_right _ q)) (hk b o (fun q => nb (List.mem_append_left _ q)) e)⟩
theorem FR2.turn {ds : List (D × D)} {ob : Out} (hs1 : ∀ wr, STO g (c.ext wr) ρ θ x d1) (hs2 : ∀ wr, STO g (c.ext wr) ((x, d1) :: ρ) θ y d2) (hb : ∀ wr, RUN g (c.ext wr) ((y, d2) :: (x, d1) :: ρ) θ body ob)
    (hnext : ∀ ρ' θ', ob = .next ρ' θ' → FR2 g c ρ' θ' (.Tuple [.Name x px, .Name y py] kk pt) body orelse ds o)
    (hcont : ∀ ρ' θ', ob ≠ .cont ρ' θ') (hret : ∀ d, ob ≠ .ret d) (hbrk : ∀ ρ' θ', ob = .brk ρ' θ' → o = .next ρ' θ') : FR2 g c ρ θ (.Tuple [.Name x px, .Name y py] kk pt) body orelse ((d1, d2) :: ds) o := by
  intro s R I fp wr n Pt St Mid i L iv k
  have hlt : i < n := by have := L.hn; simp at this; (first | assumption | lia | omega)
  refine forU (L.W.item i s _ _ hlt L.st fun T vals h' tk hp hT hm hk => ?_)
  obtain ⟨d1', d2', v1, v2, hd', rfl, rv1, rv2⟩ := L.items 0 vals hp
  have : d1' = d1 ∧ d2' = d2 := by simpa using hd'.symm
  obtain ⟨rfl, rfl⟩ := this
  have i1 := (iv.turn (tk := tk) L.cok L.dis hk).2 (L.hoM _ _ _ hm)
  refine L.W.go _ _ _ i T _ _ _ hm fun h'' st'' hk'' => ?_
  have i2 : Inv g (c.ext wr) ρ θ { s with heap := h'', toks := tk } := (i1.turn (tk := tk) L.cok L.dis hk'').2 (L.hob _ _ st'')
  have hK : ∀ b o, b ∉ (c.ext wr).av → s.heap.get? b = some o → h''.get? b = some o := fun b o nb e => hk'' b o (fun q => nb (wr_in b q)) (hk b o (fun q => nb (wr_in b q)) e)
  have hT2 : h''.IsTuple T #[v1, v2] := by
    obtain ⟨ob, h1, h2⟩ := hT
    exact ⟨ob, hk'' T ob (L.W.apart _ _ _ hm) h1, h2⟩
  refine wpAny_assign_Tuple i2.ok.a.handled (s := { s with heap := h'', toks := tk }) hT2 rfl rfl fun h3 he3 => ?_
  have k3 : Keeps { s with heap := h'', toks := tk } { s with heap := h3, toks := tk } := keeps_extNew he3
  refine wpAny_assignInOrder_more (wpAny_assign_Name (hs1 wr _ v1 _ _ (i2.keeps k3) ((rv1.keepBut hK).keep (Keeps.h k3)) fun s4 k4 i4 => ?_))
  refine wpAny_assignInOrder_more (wpAny_assign_Name (hs2 wr _ v2 _ _ i4 (((rv2.keepBut hK).keep (Keeps.h k3)).keepBut fun b o nb e => k4.h b o (fun q => nb (List.mem_append_left _ q)) e) fun s5 k5 i5 => wpAny_assignInOrder_none ?_))
  refine hb wr s5 _ _ i5 fun f s6 k6 r6 => ?_
  have k26 : KeepsBut c.mu { s with heap := h'', toks := tk } s6 := keepsBut_trans (keepsBut_of k3) (keepsBut_trans k4 (keepsBut_trans k5 k6))
  have kall : KeepsBut (wr ++ c.mu) s s6 := by
    obtain ⟨h6, t6, rfl, hk6⟩ := k26
    exact ⟨h6, t6, rfl, fun b o nb e => hk6 b o (fun q => nb (List.mem_append_right _ q)) (hk'' b o (fun q => nb (List.mem_append_left _ q)) (hk b o (fun q => nb (List.mem_append_left _ q)) e))⟩
  have L6 : Loop2 g c I fp wr n Pt St Mid (i + 1) ds s6 := by
    refine ⟨L.W, by have := L.hn; simp at this; (first | assumption | lia | omega), fun j w hw => ?_, ?_, L.dis, L.fpd, L.hob, L.hoM, L.cok⟩
    · obtain ⟨a1, a2, w1, w2, he, hv, re1, re2⟩ := L.items (j + 1) w (by rw [show i + (j + 1) = i + 1 + j by (first | assumption | lia | omega)]; exact hw)
      exact ⟨a1, a2, w1, w2, by simpa using he, hv, (re1.keepBut hK).keepBut fun b o nb eq => k26.h b o (fun q => nb (List.mem_append_left _ q)) eq, (re2.keepBut hK).keepBut fun b o nb eq => k26.h b o (fun q => nb (List.mem_append_left _ q)) eq⟩
    · exact L.W.frame _ _ _ st'' fun b hb o e => k26.h b o (L.fpd b hb) e
  have same : ∀ ρ' θ', Inv g (c.ext wr) ρ' θ' s6 → Inv g c ρ' θ' s6 := fun ρ' θ' i3 =>
    (i3.turn (h' := s6.heap) (tk := s6.toks) L.cok L.dis fun b o _ e => e).1
  cases ob with
  | next ρ' θ' =>
    obtain ⟨rfl, i6⟩ := r6
    exact hnext ρ' θ' rfl s6 R I fp wr n Pt St Mid (i + 1) L6 i6 fun f s7 k7 r7 => k f s7 (keepsBut_trans kall k7) r7
  | cont ρ' θ' => exact absurd rfl (hcont ρ' θ')
  | brk ρ' θ' =>
    obtain ⟨rfl, i6⟩ := r6
    have := hbrk ρ' θ' rfl
    subst this
    exact k _ s6 kall ⟨rfl, same ρ' θ' i6⟩
  | ret d' => exact absurd rfl (hret d')
theorem FR2.next {ds : List (D × D)} (hs1 : ∀ wr, STO g (c.ext wr) ρ θ x d1) (hs2 : ∀ wr, STO g (c.ext wr) ((x, d1) :: ρ) θ y d2) (hb : ∀ wr, RUN g (c.ext wr) ((y, d2) :: (x, d1) :: ρ) θ body (.next ρ' θ'))
    (h : FR2 g c ρ' θ' (.Tuple [.Name x px, .Name y py] kk pt) body orelse ds o) : FR2 g c ρ θ (.Tuple [.Name x px, .Name y py] kk pt) body orelse ((d1, d2) :: ds) o :=
  FR2.turn hs1 hs2 hb (fun _ _ e => by cases e; exact h) (fun _ _ e => nomatch e) (fun _ e => nomatch e) fun _ _ e => nomatch e
theorem FR2.brk {ds : List (D × D)} (hs1 : ∀ wr, STO g (c.ext wr) ρ θ x d1) (hs2 : ∀ wr, STO g (c.ext wr) ((x, d1) :: ρ) θ y d2) (hb : ∀ wr, RUN g (c.ext wr) ((y, d2) :: (x, d1) :: ρ) θ body (.brk ρ' θ')) :
    FR2 g c ρ θ (.Tuple [.Name x px, .Name y py] kk pt) body orelse ((d1, d2) :: ds) (.next ρ' θ') :=
  FR2.turn hs1 hs2 hb (fun _ _ e => nomatch e) (fun _ _ e => nomatch e) (fun _ e => nomatch e) fun _ _ e => by cases e; rfl
theorem FR2.weaken {target : Expr} {ds : List (D × D)} (h : FR2 g c ρ' θ target body orelse ds o) (hw : ∀ x d, ρ'.lookup x = some d → ρ.lookup x = some d) : FR2 g c ρ θ target body orelse ds o := by
  intro s R I fp wr n Pt St Mid i L iv k
  exact h s R I fp wr n Pt St Mid i L (iv.weaken hw) k

/-- pairs of a tuple -/
noncomputable def pairsD (ds : List (D × D)) : List D := ds.map fun q => D.tup [q.1, q.2]

noncomputable def SRC2 (g : Gd) (c : Cx) (ρ : Vars) (θ : Own) (iter : Expr) (ds : List (D × D)) : Prop :=
  ∀ (s : Shared) (Q : Value → Shared → Prop) (E : Value → Shared → Prop), Inv g c ρ θ s →
    (∀ I fp wr Pt St Mid s', Keeps s s' → WalksU g.prog g.w c.A I fp wr ds.length Pt St Mid → St 0 s'.heap →
      (∀ j vals, Pt j vals → ∃ d1 d2 v1 v2, ds[j]? = some (d1, d2) ∧ vals = #[v1, v2] ∧ Rep (c.ext wr).av s'.heap v1 d1 ∧ Rep (c.ext wr).av s'.heap v2 d2) →
      (∀ b ∈ wr, s.heap.get? b = none ∧ ∃ o, s'.heap.get? b = some o) → (∀ b ∈ fp, b ∈ wr ∨ b ∉ c.av) → (∀ i h, St i h → ∀ b ∈ wr, ∃ o, h.get? b = some o) → (∀ i T h, Mid i T h → ∀ b ∈ wr, ∃ o, h.get? b = some o) → Q (.ref I) s') →
    wpAny (model g.prog g.w) c.A (eval iter c.env) (fun x s1 => wpAny (model g.prog g.w) c.A (pyIter x) Q E s1) E s
theorem EX.for2 {target iter : Expr} {ds : List (D × D)} (hsrc : SRC2 g c ρ θ iter ds) (h : FR2 g c ρ θ target body orelse ds o) (hf : ∀ x, foldedSetIterable iter c.env x = pure x := by intro _; rfl) : EX g c ρ θ (.For target iter body orelse pos) o := by
  intro s Q E i k
  refine wpAny_For (hsrc s _ E i fun I fp wr Pt St Mid s' k1 W st items hw hfp hob hoM => ?_) hf
  have hav : ∀ b ∈ wr, b ∉ c.av := fun b hb q => by
    obtain ⟨_, o, e⟩ := i.avok b q
    rw [(hw b hb).1] at e; cases e
  refine h s' _ I fp wr ds.length Pt St Mid 0 ⟨W, by simp, fun j v hp => items j v (by simpa using hp), st, fun b hb => ⟨fun q => hav b hb (List.mem_append_left _ q), fun q => hav b hb (List.mem_append_right _ q), ?_⟩, fun b hb q => ?_, hob, hoM, i.ok⟩ (i.toExt k1 hw) fun f s2 k2 r2 => ?_
  · cases e : g.h₀.get? b with
    | none => rfl
    | some o => have := i.ground b o e; rw [(hw b hb).1] at this; cases this
  · rcases hfp b hb with h1 | h1
    · exact hav b h1 (List.mem_append_left _ q)
    · exact h1 (List.mem_append_left _ q)
  · exact k f s2 (keepsBut_fresh k1 k2 fun b hb => (hw b hb).1) r2

noncomputable def tAt (ws : List Value) (k : Nat) : Addr := match ws[k]? with
  | some (.ref T) => T
  | _ => 0
theorem reps_pair {av : List Addr} {h : Heap} : ∀ {ws : List Value} {ds : List (D × D)}, Reps av h ws (pairsD ds) → ∀ j, j < ds.length → ∃ T v1 v2 d1 d2, ws[j]? = some (.ref T) ∧ ds[j]? = some (d1, d2) ∧ T ∉ av ∧ PT h T #[v1, v2] ∧ Rep av h v1 d1 ∧ Rep av h v2 d2
  | _, [], _, j, hj => by simp at hj
  | _, (d1, d2) :: ds, .cons p q, 0, _ => by
    cases p using Rep.tup_cases with
    | tup n ht r =>
      cases r using Reps.cons_cases with
      | cons r1 r =>
        cases r using Reps.cons_cases with
        | cons r2 r =>
          (first | cases r using Rep.int_cases | cases r using Rep.str_cases | cases r using Reps.nil_cases | cases r using Rep.fn_cases | cases r using Rep.bool_cases | cases r)
          exact ⟨_, _, _, _, _, rfl, rfl, n, ht, r1, r2⟩
  | _, (d1, d2) :: ds, .cons p q, j + 1, hj => by
    obtain ⟨T, v1, v2, e1, e2, a⟩ := reps_pair q j (by simpa using hj)
    exact ⟨T, v1, v2, e1, e2, by simpa using a⟩
theorem SRC2.tup {ds : List (D × D)} (h : EV g c ρ θ iter (.tup (pairsD ds))) : SRC2 g c ρ θ iter ds := by
  intro s Q E i k
  refine h s _ E i fun v s1 k1 r1 => ?_
  cases r1 using Rep.tup_cases with
  | tup n1 hl q =>
    rename_i a ws
    have hl' := hl.isTuple
    have hlt : a < s1.heap.objs.size := by obtain ⟨m, e⟩ := hl; exact Heap.lt_size e
    have hne : a ≠ s1.heap.objs.size := Nat.ne_of_lt hlt
    have hsz : ws.toArray.size = ds.length := by simp [q.length, pairsD]
    have pr := reps_pair q
    have ht : ∀ j, j < ds.length → ws[j]? = some (.ref (tAt ws j)) := fun j hj => by
      obtain ⟨T, _, _, _, _, h1, _⟩ := pr j hj
      rw [tAt, h1]
    have hTI : ∀ j, j < ds.length → tAt ws j ≠ s1.heap.objs.size := fun j hj => by
      obtain ⟨T, _, _, _, _, h1, _, _, ⟨_, h2⟩, _⟩ := pr j hj
      have e : tAt ws j = T := by rw [tAt, h1]
      rw [e]; exact Nat.ne_of_lt (Heap.lt_size h2)
    refine wpAny_pyIter_tuple hl' ?_
    have W : WalksU g.prog g.w c.A s1.heap.objs.size (s1.heap.objs.size :: a :: (List.range ds.length).map (tAt ws)) [s1.heap.objs.size] ds.length
        (fun j vals => j < ds.length ∧ s1.heap.IsTuple (tAt ws j) vals)
        (fun j h => h.IsTupleIter s1.heap.objs.size a j ∧ h.IsTuple a ws.toArray ∧ ∀ m, m < ds.length → ∀ vals, s1.heap.IsTuple (tAt ws m) vals → h.IsTuple (tAt ws m) vals)
        (fun j T h => (j < ds.length ∧ T = tAt ws j) ∧ h.IsTupleIter s1.heap.objs.size a (j + 1) ∧ h.IsTuple a ws.toArray ∧ ∀ m, m < ds.length → ∀ vals, s1.heap.IsTuple (tAt ws m) vals → h.IsTuple (tAt ws m) vals) := by
      refine ⟨fun b hb => by simp at hb; simp [hb], fun _ _ _ st hk => ⟨st.1.at fun o e => hk _ (by simp) o e, st.2.1.at fun o e => hk a (by simp) o e, fun m hm vals hv => (st.2.2 m hm vals hv).at fun o e => hk (tAt ws m) (List.mem_cons_of_mem _ (List.mem_cons_of_mem _ (List.mem_map.mpr ⟨m, List.mem_range.mpr hm, rfl⟩))) o e⟩, fun j s' Q' E' hj st hQ => ?_, fun _ _ _ _ _ s' Q' _ hm hQ => letOwned_tupiter hm.2.1 (hQ s'.heap hm.2 fun _ _ _ e => e), fun j T _ hm hmem => ?_, fun s' Q' E' st hQ => wpAny_pyNext_tuple_end i.ok.a.handled st.1 st.2.1 (by simp [← hsz]) fun h' he' => hQ h' s'.toks fun b o hb e => he' b o (fun h => hb (by simp [h])) e, fun _ _ _ _ st hQ => wpAny_pyIter_tupleiter st.1 hQ⟩
      · refine wpAny_pyNext_tuple_item st.1 st.2.1 (x := .ref (tAt ws j)) (by simpa using ht j hj) fun h' hit' hs' => ?_
        have tup : ∀ m, m < ds.length → ∀ vals, s1.heap.IsTuple (tAt ws m) vals → h'.IsTuple (tAt ws m) vals := fun m hm vals hv => (st.2.2 m hm vals hv).extBut hs'.extBut (hTI m hm)
        obtain ⟨T, v1, v2, d1, d2, h1, _, _, h2, _⟩ := pr j hj
        have e : tAt ws j = T := by rw [tAt, h1]
        have hv : s1.heap.IsTuple (tAt ws j) #[v1, v2] := by rw [e]; exact h2.isTuple
        exact hQ (tAt ws j) #[v1, v2] h' s'.toks ⟨hj, hv⟩ (tup j hj _ hv) ⟨⟨hj, rfl⟩, hit', st.2.1.extBut hs'.extBut hne, tup⟩ fun b o hb e => hs'.extBut b o (fun h => hb (by simp [h])) e
      · rcases List.mem_cons.mp hmem with e | e
        · exact hTI j hm.1.1 (hm.1.2 ▸ e)
        · cases e
    have hnone : ∀ b ∈ [s1.heap.objs.size], s1.heap.get? b = none := fun b hb => by rw [List.mem_singleton.mp hb]; exact size_none _
    refine k _ _ _ _ _ _ _ (keeps_trans k1 (keeps_push' _ _)) W ⟨⟨_, Heap.get?_push_size _ rfl, rfl, rfl⟩, hl'.push _, fun m _ vals hv => hv.push _⟩ (fun j vals hp => ?_) (fun b hb => ?_) (fun b hb => ?_) (fun j h st b hb => ?_) (fun j T h st b hb => ?_)
    · obtain ⟨hj, hv⟩ := hp
      obtain ⟨T, v1, v2, d1, d2, h1, hd, _, ⟨m, h2⟩, r1, r2⟩ := pr j hj
      have e : tAt ws j = T := by rw [tAt, h1]
      rw [e] at hv
      obtain ⟨o, ho, _, n', hdat⟩ := hv
      rw [h2] at ho
      cases ho
      cases hdat
      exact ⟨d1, d2, v1, v2, hd, rfl, (ext_av hnone r1).keep (Keeps.h (keeps_push' _ _)), (ext_av hnone r2).keep (Keeps.h (keeps_push' _ _))⟩
    · rw [List.mem_singleton.mp hb]
      exact ⟨none_of_keeps k1 (size_none _), _, Heap.get?_push_size _ rfl⟩
    · rcases List.mem_cons.mp hb with rfl | hb
      · exact .inl (List.mem_singleton.mpr rfl)
      · rcases List.mem_cons.mp hb with rfl | hb
        · exact .inr n1
        · obtain ⟨m, hm, rfl⟩ := List.mem_map.mp hb
          obtain ⟨T, _, _, _, _, h1, _, h3, _⟩ := pr m (List.mem_range.mp hm)
          have e : tAt ws m = T := by rw [tAt, h1]
          rw [e]; exact .inr h3
    · rw [List.mem_singleton.mp hb]
      obtain ⟨⟨o, ho, _⟩, _⟩ := st
      exact ⟨o, ho⟩
    · rw [List.mem_singleton.mp hb]
      obtain ⟨_, ⟨o, ho, _⟩, _⟩ := st
      exact ⟨o, ho⟩
/-- enumerate over a tuple -/
theorem SRC2.enum {np : Pos} (h : EV g c ρ θ e (.tup us)) (hr : nsIn g.K mainGlobals "enumerate" = some none) (hx : c.env.kindOf "enumerate" = some .globalImplicit := by rfl)
    (he : starEach [e] c.env = (false, eval e c.env) :: starEach [] c.env := by rfl) (hplain : (backTo pos (starEach [e] c.env)).any (·.1) = false := by rfl) :
    SRC2 g c ρ θ (.Call (.Name "enumerate" np) [e] [] pos) (us.zipIdx.map fun q => (D.int (q.2 : Nat), q.1)) := by
  intro s Q E i k
  refine wpAny_Call_NameR (eval_boot i hr (v := .type "enumerate") (by rfl) ?_ hx)
  refine PySem.callWith_type hplain ?_
  rw [he]
  refine evalArgs_plain ?_
  have := (EVS.cons h (EVS.nil (pos := pos)) he) s (fun vs s' => wpAny (model g.prog g.w) c.A (PySem.call (.type "enumerate") ([] ++ vs) []) (fun x s1 => wpAny (model g.prog g.w) c.A (pyIter x) Q E s1) E s') E i fun vs s1 k1 r1 => by
    cases r1 using Reps.cons_cases with
    | cons p1 p2 =>
      (first | cases p2 using Rep.int_cases | cases p2 using Rep.str_cases | cases p2 using Reps.nil_cases | cases p2 using Rep.fn_cases | cases p2 using Rep.bool_cases | cases p2)
      cases p1 using Rep.tup_cases with
      | tup n1 hl q =>
        rename_i a ws
        have hlt : a < s1.heap.objs.size := by obtain ⟨m, e⟩ := hl; exact Heap.lt_size e
        have hne : a ≠ s1.heap.objs.size := Nat.ne_of_lt hlt
        have hne2 : a ≠ s1.heap.objs.size + 1 := Nat.ne_of_lt (Nat.lt_succ_of_lt hlt)
        refine call_enum_tuple hl fun h' hE hit hsz hk => ?_
        refine wpAny_pyIter_enum hE ?_
        have Dr := draws_tuple (prog := g.prog) (w := g.w) (A := c.A.in1) i.ok.a.handled s1.heap.objs.size a hne ws.toArray
        have W := (WalksT.enumerateD Dr (s1.heap.objs.size + 1) (Nat.succ_ne_self _) (by simp; exact fun q => hne2 q.symm) (by simp)).toU.bound
        have hlen : ws.toArray.size = (us.zipIdx.map fun q => (D.int (q.2 : Nat), q.1)).length := by simp [q.length]
        have fresh : ∀ b ∈ [s1.heap.objs.size + 1, s1.heap.objs.size], s1.heap.get? b = none := fun b hb => by
          cases e : s1.heap.get? b with
          | none => rfl
          | some o =>
            have hb' := Heap.lt_size e
            rcases List.mem_cons.mp hb with rfl | hb
            · exact absurd hb' (Nat.not_lt.mpr (Nat.le_succ _))
            · rw [List.mem_singleton.mp hb] at hb'; exact absurd hb' (Nat.lt_irrefl _)
        have hex : ∀ b ∈ [s1.heap.objs.size + 1, s1.heap.objs.size], ∃ o, h'.get? b = some o := fun b hb => by
          rcases List.mem_cons.mp hb with rfl | hb
          · exact ⟨_, hE⟩
          · rw [List.mem_singleton.mp hb]; obtain ⟨o, ho, _⟩ := hit; exact ⟨o, ho⟩
        have k2 : Keeps s1 { s1 with heap := h' } := ⟨h', _, rfl, hk⟩
        rw [hlen] at W
        refine k _ _ _ _ _ _ { s1 with heap := h' } (keeps_trans k1 k2) W ⟨⟨_, hE⟩, hit, (hl.isTuple).at fun o e => hk _ _ e⟩ (fun j vals hp => ?_) (fun b hb => ⟨none_of_keeps k1 (fresh b hb), hex b hb⟩) (fun b hb => ?_) (fun j h st b hb => ?_) (fun j T h st b hb => ?_)
        · obtain ⟨hj, t, x, hx', rfl⟩ := hp
          obtain ⟨d, hd, r⟩ := q.get' (by simpa using hx')
          refine ⟨.int (j : Nat), d, .int j t, x, ?_, rfl, .int _ _, (ext_av fresh r).keep hk⟩
          rw [List.getElem?_map, List.getElem?_zipIdx, hd]
          simp
        · rcases List.mem_cons.mp hb with rfl | hb
          · exact .inl (by simp)
          · rcases List.mem_cons.mp hb with rfl | hb
            · exact .inl (by simp)
            · rw [List.mem_singleton.mp hb]; exact .inr n1
        · obtain ⟨⟨old, h1⟩, ⟨o, h2, _⟩, _⟩ := st
          rcases List.mem_cons.mp hb with rfl | hb
          · exact ⟨_, h1⟩
          · rw [List.mem_singleton.mp hb]; exact ⟨_, h2⟩
        · obtain ⟨⟨old, h1⟩, ⟨⟨o, h2, _⟩, _⟩, _⟩ := st
          rcases List.mem_cons.mp hb with rfl | hb
          · exact ⟨_, h1⟩
          · rw [List.mem_singleton.mp hb]; exact ⟨_, h2⟩
  rw [he] at this
  exact this
end
end Mine
end

/- HeadA -/
section
open PySem PySem.W PyProof.Rows
set_option maxRecDepth 100000
set_option maxHeartbeats 8000000
namespace Mine
open_top hd for PySem.Challenge.rw_oy0073_01
end Mine
end

/- Fn1 -/
section
open PySem PySem.W PySem.Calls PyProof.Rows
set_option maxRecDepth 100000
namespace Mine
@[reducible] noncomputable def G0 (prog : Program) (w : World) (h₀ : Heap) : Gd := ⟨prog, w, hd.heap_39 w.params, h₀⟩

theorem fn_strcoll {prog : Program} {w : World} {h₀ : Heap} (p q : List Nat) : FN (G0 prog w h₀) 1 21 [.str p, .str q] (.int (coll p q)) := by
  refine FN.of (ps := ["a", "b"]) (k := 0) (ho := rfl) (hcd := rfl) (hbind := ?_) (hkind := rfl) (hnd := by decide) (hlen := rfl) (hcn := by decide) (hco := rfl) (hgen := rfl) (hk := rfl) (hbody := ?_)
  · intro s vs _ hl
    obtain ⟨a, b, rfl⟩ := len2 hl
    exact BindsTo.of_eq rfl
  · intro A L ov
    exact RUN.stop (EX.ret (EV.bin (EV.cmp (EV.var rfl) (EV.var rfl) COP.gt_str) (EV.cmp (EV.var rfl) (EV.var rfl) COP.lt_str) BOP.sub_bool))
end Mine
end

/- Fn2 -/
section
open PySem PySem.W PySem.Calls PyProof.Rows
set_option maxRecDepth 100000
namespace Mine
theorem subv_nil {ρ : Vars} : ∀ x d, (([] : Vars).lookup x = some d) → ρ.lookup x = some d := by intro x d h; cases h
theorem subv {ρ ρ' : Vars} {x : Str} {d : D} (h : ρ.lookup x = some d) (hr : ∀ y e, ρ'.lookup y = some e → ρ.lookup y = some e) : ∀ y e, ((x, d) :: ρ' : Vars).lookup y = some e → ρ.lookup y = some e := by
  intro y e q
  rw [List.lookup_cons] at q
  cases hx : y == x with
  | true => rw [hx] at q; cases q; rw [eq_of_beq hx]; exact h
  | false => rw [hx] at q; exact hr y e q
theorem lookup_eq {ρ : Vars} {x : Str} {d d' : D} (h : ρ.lookup x = some d') (e : d' = d) : ρ.lookup x = some d := e ▸ h

theorem pyGet_nat {α : Type} (xs : List α) (i : Nat) : pyGet xs (i : Int) = xs[i]? := by
  unfold pyGet seqIndex?
  by_cases h : i < xs.length
  · have h1 : (if (i : Int) < 0 then (i : Int) + xs.length else (i : Int)) = i := by rw [if_neg (by (first | assumption | lia | omega))]
    simp only [h1]
    rw [if_pos (by simp; (first | assumption | lia | omega))]
    simp
  · have h1 : (if (i : Int) < 0 then (i : Int) + xs.length else (i : Int)) = i := by rw [if_neg (by (first | assumption | lia | omega))]
    simp only [h1]
    rw [if_neg (by simp; (first | assumption | lia | omega)), List.getElem?_eq_none (by (first | assumption | lia | omega))]
    rfl
theorem clip_nat (n i : Nat) : clip n (i : Int) = min i n := by unfold clip; rw [if_neg (by (first | assumption | lia | omega))]; (first | assumption | lia | omega)
theorem pySlice_nat {α : Type} (xs : List α) (a b : Nat) : pySlice xs (some (a : Int)) (some (b : Int)) = (xs.drop a).take (b - a) := by
  unfold pySlice
  simp only [Option.map_some, Option.getD_some, clip_nat]
  by_cases h : a ≤ xs.length
  · rw [Nat.min_eq_left h]
    by_cases h2 : b ≤ xs.length
    · rw [Nat.min_eq_left h2]
    · rw [Nat.min_eq_right (by (first | assumption | lia | omega)), List.take_of_length_le (by simp), List.take_of_length_le (by simp; (first | assumption | lia | omega))]
  · rw [Nat.min_eq_right (show xs.length ≤ a by (first | assumption | lia | omega)), List.drop_of_length_le (Nat.le_refl _), List.drop_of_length_le (by (first | assumption | lia | omega))]
    simp
theorem pySlice_from {α : Type} (xs : List α) (a : Nat) : pySlice xs (some (a : Int)) none = xs.drop a := by
  unfold pySlice
  simp only [Option.map_some, Option.getD_some, clip_nat, Option.map_none, Option.getD_none]
  by_cases h : a ≤ xs.length
  · rw [Nat.min_eq_left h, List.take_of_length_le (by simp)]
  · rw [Nat.min_eq_right (by (first | assumption | lia | omega)), List.drop_of_length_le (Nat.le_refl _), List.drop_of_length_le (by (first | assumption | lia | omega))]
    simp
theorem pySlice_upto {α : Type} (xs : List α) (b : Nat) : pySlice xs none (some (b : Int)) = xs.take b := by
  unfold pySlice
  simp only [Option.map_some, Option.getD_some, clip_nat, Option.map_none, Option.getD_none, List.drop_zero, Nat.sub_zero]
  by_cases h : b ≤ xs.length
  · rw [Nat.min_eq_left h]
  · rw [Nat.min_eq_right (by (first | assumption | lia | omega)), List.take_of_length_le (Nat.le_refl _), List.take_of_length_le (by (first | assumption | lia | omega))]

theorem WH.count {g : Gd} {c : Cx} {test : Expr} {body : List Stmt} (R : Nat → Vars) (T : Nat → Own) (b : Nat) (step : ∀ i, i < b → TE g c (R i) (T i) test true ∧ RUN g c (R i) (T i) body (.next (R (i + 1)) (T (i + 1))))
    (fin : TE g c (R b) (T b) test false) : ∀ j i, i + j = b → WH g c (R i) (T i) test body (.next (R b) (T b)) := by
  intro j
  induction j with
  | zero =>
    intro i hi
    have : i = b := by (first | assumption | lia | omega)
    subst this
    exact WH.done fin
  | succ j ih =>
    intro i hi
    obtain ⟨h1, h2⟩ := step i (by (first | assumption | lia | omega))
    exact WH.step h1 h2 (ih (i + 1) (by (first | assumption | lia | omega)))
theorem WH.ind {g : Gd} {c : Cx} {test : Expr} {body : List Stmt} {α : Type} (ms : α → Nat) (R : α → Vars) (T : α → Own) (out : α → Out) (h : ∀ a, (∀ a', ms a' < ms a → WH g c (R a') (T a') test body (out a')) → WH g c (R a) (T a) test body (out a)) :
    ∀ a, WH g c (R a) (T a) test body (out a) := by
  have all : ∀ n a, ms a < n → WH g c (R a) (T a) test body (out a) := by
    intro n
    induction n with
    | zero => intro a h; exact absurd h (Nat.not_lt_zero _)
    | succ n ih => exact fun a ha => h a fun a' ha' => ih a' (by (first | assumption | lia | omega))
  exact fun a => all _ a (Nat.lt_succ_self _)
theorem WH.turn {g : Gd} {c : Cx} {ρ : Vars} {θ : Own} {test : Expr} {body : List Stmt} {ob o : Out} (ht : TE g c ρ θ test true) (hb : RUN g c ρ θ body ob) (hnext : ∀ ρ' θ', ob = .next ρ' θ' → WH g c ρ' θ' test body o) (hcont : ∀ ρ' θ', ob ≠ .cont ρ' θ') (hbrk : ∀ ρ' θ', ob ≠ .brk ρ' θ') (hret : ∀ d, ob = .ret d → o = .ret d) :
    WH g c ρ θ test body o := by
  cases ob with
  | next ρ' θ' => exact WH.step ht hb (hnext ρ' θ' rfl)
  | brk ρ' θ' => exact absurd rfl (hbrk ρ' θ')
  | cont ρ' θ' => exact absurd rfl (hcont ρ' θ')
  | ret d => rw [hret d rfl]; exact WH.ret ht hb
theorem RUN.out {g : Gd} {c : Cx} {ρ ρ1 ρ' : Vars} {θ θ' : Own} {ss : List Stmt} (h : RUN g c ρ θ ss (.next ρ1 θ')) (hw : ∀ x d, ρ'.lookup x = some d → ρ1.lookup x = some d) : RUN g c ρ θ ss (.next ρ' θ') := by
  intro s Q E i k
  exact h s Q E i fun f s' k' r => k f s' k' ⟨r.1, r.2.weaken hw⟩

section
variable {prog : Program} {w : World} {h₀ : Heap}
theorem TE.of {g : Gd} {c : Cx} {ρ : Vars} {θ : Own} {e : Expr} {b b' : Bool} (h : TE g c ρ θ e b) (e' : b = b') : TE g c ρ θ e b' := e' ▸ h
theorem EV.of {g : Gd} {c : Cx} {ρ : Vars} {θ : Own} {e : Expr} {d d' : D} (h : EV g c ρ θ e d) (e' : d = d') : EV g c ρ θ e d' := e' ▸ h
/-- blanks in front fall away -/
theorem fn_strip (b : Nat) (t : List Nat) (ht : ∀ q ∈ t, q ≠ 32) (hz : b + t.length ≤ 1000) : FN (G0 prog w h₀) 1 28 [.str (List.replicate b 32 ++ t), .int ((b + t.length : Nat) : Int)] (.str t) := by
  refine FN.of (ps := ["s", "amount"]) (k := 0) (ho := rfl) (hcd := rfl) (hbind := ?_) (hkind := rfl) (hnd := by decide) (hlen := rfl) (hcn := by decide) (hco := rfl) (hgen := rfl) (hk := rfl) (hbody := ?_)
  · intro s vs _ hl
    obtain ⟨a, b, rfl⟩ := len2 hl
    exact BindsTo.of_eq rfl
  · intro A L ov
    have hlen : (List.replicate b 32 ++ t).length = b + t.length := by simp
    generalize hX : List.replicate b 32 ++ t = X at *
    have hget : ∀ i, i < b → X[i]? = some 32 := fun i hi => by rw [← hX, List.getElem?_append_left (by simpa using hi)]; simp [hi]
    have hget2 : ∀ i, X[b + i]? = t[i]? := fun i => by rw [← hX, List.getElem?_append_right (by simp)]; simp
    let R := fun i : Nat => ([("amount", .int ((b + t.length - i : Nat) : Int)), ("lpos", .int (i : Int)), ("s", .str X)] : Vars)
    refine RUN.cons (EX.assign EV.int STO.local) ?_
    refine RUN.cons (ρ' := R b) (θ' := none) (EX.while ?_) ?_
    · refine WH.weaken (ρ' := R 0) ?_ (subv rfl (subv rfl (subv rfl subv_nil)))
      refine WH.count R (fun _ => none) b (fun i hi => ⟨?_, ?_⟩) ?_ b 0 (by (first | assumption | lia | omega))
      · refine (TE.and2 (TE.val (EV.var rfl) TOP.int) fun _ => TE.cmp (EV.item (EV.var rfl) (EV.var rfl) (IOP.str (q := 32) (by rw [pyGet_nat]; exact hget i hi) (by (first | assumption | lia | omega)) (by (first | assumption | lia | omega)))) (EV.str (l := [32]) rfl) COP.eq_str).of ?_
        simp; (first | assumption | lia | omega)
      · refine RUN.out (RUN.cons (EX.aug_add rfl EV.int STO.local) (RUN.cons (EX.aug_sub rfl EV.int STO.local) RUN.nil)) ?_
        refine subv (lookup_eq rfl ?_) (subv (lookup_eq rfl ?_) (subv rfl subv_nil))
        · congr 1; (first | assumption | lia | omega)
        · congr 1
      · refine (TE.and2 (b2 := false) (TE.val (EV.var rfl) TOP.int) fun hne => ?_).of (by simp)
        have hne' : t ≠ [] := by rintro rfl; simp at hne
        obtain ⟨q, r, rfl⟩ := List.exists_cons_of_ne_nil hne'
        refine (TE.cmp (EV.item (EV.var rfl) (EV.var rfl) (IOP.str (q := q) (by rw [pyGet_nat]; simpa using hget2 0) (by (first | assumption | lia | omega)) (by (first | assumption | lia | omega)))) (EV.str (l := [32]) rfl) COP.eq_str).of ?_
        have := ht q (by simp)
        simpa using this
    refine RUN.cons (EX.assign (EV.bin (EV.bcall (FOP.len_str (by (first | assumption | lia | omega))) rfl (EVS.cons (EV.var rfl) EVS.nil)) EV.int BOP.sub_int) STO.local) ?_
    refine RUN.cons (EX.while (WH.done ?_)) ?_
    · refine (TE.and2 (b2 := false) (TE.val (EV.var rfl) TOP.int) fun hne => ?_).of (by simp)
      have hne' : t ≠ [] := by rintro rfl; simp at hne
      have hpos : 0 < t.length := List.length_pos_iff.mpr hne'
      have hlast : t[t.length - 1]? = some (t.getLast hne') := by rw [List.getLast_eq_getElem]; simp [hpos]
      refine (TE.cmp (EV.item (EV.var rfl) (EV.var rfl) (IOP.str (q := t.getLast hne') ?_ (by (first | assumption | lia | omega)) (by (first | assumption | lia | omega)))) (EV.str (l := [32]) rfl) COP.eq_str).of ?_
      · have : (X.length : Int) - 1 = ((b + (t.length - 1) : Nat) : Int) := by rw [hlen]; (first | assumption | lia | omega)
        rw [this, pyGet_nat, hget2]; exact hlast
      · have := ht _ (List.getLast_mem hne')
        simpa using this
    · refine RUN.stop (EX.ret ?_)
      refine (EV.slice_str (EV.var rfl) (EVP.some (EV.var rfl)) (EVP.some (EV.bin (EV.var rfl) EV.int BOP.add_int)) (by (first | assumption | lia | omega))).of ?_
      have e : (X.length : Int) - 1 + 1 = ((b + t.length : Nat) : Int) := by rw [hlen]; (first | assumption | lia | omega)
      rw [e, pySlice_nat, ← hX]
      congr 1
      simp
end
end Mine
end

/- Fn3 -/
section
open PySem PySem.W PySem.Calls PyProof.Rows
set_option maxRecDepth 100000
namespace Mine
@[reducible] noncomputable def strsD (rows : List (List Nat)) : D := .lst (rows.map D.str)
@[reducible] noncomputable def natsD (l : List Nat) : D := .lst ((l.map Int.ofNat).map D.int)
@[reducible] noncomputable def slidD (s : List (List Nat) × List Nat) : D := .tup [strsD s.1, natsD s.2]

theorem blanks_rep (b : Nat) (t : List Nat) (ht : ∀ q ∈ t, q ≠ 32) : blanks (List.replicate b 32 ++ t) = b := by
  unfold blanks
  rw [List.takeWhile_append_of_pos (by simp)]
  cases t with
  | nil => simp
  | cons q r =>
    have : (q == 32) = false := by simpa using ht q (by simp)
    simp [this]

theorem pyGet_map {α β : Type} (f : α → β) (xs : List α) (i : Nat) (x : α) (h : xs[i]? = some x) : pyGet (xs.map f) (i : Int) = some (f x) := by
  rw [pyGet_nat]; simp [h]

theorem look1 {x y : Str} {d e : D} (h : ([(x, d)] : Vars).lookup y = some e) : y = x ∧ e = d := by
  rw [List.lookup_cons] at h
  cases hx : y == x with
  | true => rw [hx] at h; cases h; exact ⟨eq_of_beq hx, rfl⟩
  | false => rw [hx] at h; cases h
theorem pyGet_ints (l : List Nat) (i : Nat) (hi : i < l.length) : pyGet ((l.map Int.ofNat).map D.int) (i : Int) = some (D.int (l.getD i 0 : Nat)) := by
  rw [pyGet_nat]; simp [hi]
theorem pyGet_strs (l : List (List Nat)) (i : Nat) (hi : i < l.length) : pyGet (l.map D.str) (i : Int) = some (D.str (l.getD i [])) := by
  rw [pyGet_nat]; simp [hi]
theorem blk_got (rows : List (List Nat)) (i : Nat) (hi : i ≤ rows.length) : (rows.map blanks ++ [0]).getD i 0 = blanks (rows.getD i []) := by
  by_cases h : i < rows.length
  · simp [List.getD_eq_getElem?_getD, List.getElem?_append_left, h]
  · have : i = rows.length := by (first | assumption | lia | omega)
    subst this
    simp [List.getD_eq_getElem?_getD, blanks]
noncomputable def tfC (rows : List (List Nat)) : D → Bool
  | .int i => decide (blanks (rows.getD (i.toNat + 1) []) < blanks (rows.getD i.toNat []))
  | _ => false
theorem corners_eq (rows : List (List Nat)) : ((upto (rows.length : Int)).filter (tfC rows)).map (fun d => d) = ((cornersOf rows).map Int.ofNat).map D.int := by
  unfold upto cornersOf
  rw [List.map_id', Int.toNat_natCast, List.filter_map, List.map_map]
  congr 1
theorem fmod_nat (a b : Nat) : Int.fmod (a : Int) (b : Int) = ((a % b : Nat) : Int) := by
  rw [Int.fmod_eq_emod_of_nonneg _ (by (first | assumption | lia | omega))]; rfl
theorem fdiv_nat (a b : Nat) : Int.fdiv (a : Int) (b : Int) = ((a / b : Nat) : Int) := by
  rw [Int.fdiv_eq_ediv_of_nonneg _ (by (first | assumption | lia | omega))]; rfl
theorem lt1 (x y : Nat) : (([x] : List Nat) < [y]) ↔ x < y := by
  rw [List.cons_lt_cons_iff]
  simp
theorem set_split {α β : Type} (f : α → β) (rows : List α) (i : Nat) (hi : i < rows.length) (r : α) : (rows.map f).take i ++ [f r] ++ (rows.map f).drop (i + 1) = (rows.set i r).map f := by
  rw [List.set_eq_take_append_cons_drop, if_pos hi]
  simp
/-- a state of the slide's loop -/
structure SlOk (n f : Nat) (rows : List (List Nat)) (i c : Nat) : Prop where
  hn : rows.length = n
  h40 : n ≤ 40
  hl : ∀ r ∈ rows, r.length ≤ 40
  hi : i < n
  hc : c < (rows.getD i []).length
  hf : (n - i) + (40 - c) < f
theorem getD_mem {rows : List (List Nat)} {i : Nat} (h : i < rows.length) : rows.getD i [] ∈ rows := by
  rw [List.getD_eq_getElem?_getD, List.getElem?_eq_getElem h]; exact List.getElem_mem h
theorem take1_ne {l : List Nat} {k : Nat} (h : (l.drop k).take 1 ≠ []) : k < l.length := by
  by_cases q : k < l.length
  · exact q
  · exact absurd (by rw [List.drop_of_length_le (by (first | assumption | lia | omega))]; rfl) h
theorem take1_len (l : List Nat) (h : l.take 1 ≠ []) : (l.take 1).length = 1 := by
  cases l with
  | nil => exact absurd rfl h
  | cons a r => rfl
theorem slUp_below {rows : List (List Nat)} {i c : Nat} (h : slUp rows i c = true) : slBelow rows i c ≠ [] := by
  unfold slUp at h
  simp at h
  exact h.1
theorem slUp_right {rows : List (List Nat)} {i c : Nat} (hne : ¬ (slRight rows i c = [] ∧ slBelow rows i c = [])) (h : slUp rows i c = false) : slRight rows i c ≠ [] := by
  intro q
  unfold slUp at h
  simp [q] at h
  exact hne ⟨q, h⟩
theorem slPut_len {rows : List (List Nat)} {i c : Nat} (hi : i < rows.length) (hc : c < (rows.getD i []).length) (hne : ¬ (slRight rows i c = [] ∧ slBelow rows i c = [])) (j : Nat) : ((slPut rows i c).getD j []).length = (rows.getD j []).length := by
  unfold slPut
  by_cases q : j = i
  · subst q
    rw [List.getD_eq_getElem?_getD, List.getElem?_set_self hi]
    have h1 : (if slUp rows j c = true then slBelow rows j c else slRight rows j c).length = 1 := by
      split
      · rename_i h; exact take1_len _ (slUp_below h)
      · rename_i h; exact take1_len _ (slUp_right hne (by simpa using h))
    simp only [Option.getD_some, List.length_append, List.length_take, List.length_drop, h1]
    (first | assumption | lia | omega)
  · rw [List.getD_eq_getElem?_getD, List.getElem?_set_ne (fun h => q h.symm), ← List.getD_eq_getElem?_getD]
theorem mem_getD {rows : List (List Nat)} {r : List Nat} (h : r ∈ rows) : ∃ j, j < rows.length ∧ rows.getD j [] = r := by
  obtain ⟨j, hj, rfl⟩ := List.mem_iff_getElem.mp h
  exact ⟨j, hj, by simp [List.getD_eq_getElem?_getD, hj]⟩
theorem SlOk.step {n f : Nat} {rows : List (List Nat)} {i c : Nat} (h : SlOk n (f + 1) rows i c) (hne : ¬ (slRight rows i c = [] ∧ slBelow rows i c = [])) :
    (slUp rows i c = true → SlOk n f (slPut rows i c) (i + 1) c) ∧ (slUp rows i c = false → SlOk n f (slPut rows i c) i (c + 1)) := by
  have hi : i < rows.length := by rw [h.hn]; exact h.hi
  have hl : ∀ r ∈ slPut rows i c, r.length ≤ 40 := fun r hr => by
    obtain ⟨j, hj, rfl⟩ := mem_getD hr
    rw [slPut_len hi h.hc hne]
    have hj' : j < rows.length := by simpa [slPut] using hj
    exact h.hl _ (getD_mem hj')
  have hn : (slPut rows i c).length = n := by simp [slPut, h.hn]
  have hci := h.hl _ (getD_mem hi)
  have hc := h.hc
  have hf := h.hf
  have hin := h.hi
  refine ⟨fun u => ?_, fun u => ?_⟩
  · have hb := take1_ne (slUp_below u)
    have hb' : i + 1 < rows.length := by
      by_cases q : i + 1 < rows.length
      · exact q
      · rw [List.getD_eq_getElem?_getD, List.getElem?_eq_none (by (first | assumption | lia | omega))] at hb; simp at hb
    refine ⟨hn, h.h40, hl, by rw [← h.hn]; exact hb', by rw [slPut_len hi h.hc hne]; exact hb, ?_⟩
    (first | assumption | lia | omega)
  · have hb := take1_ne (slUp_right hne u)
    refine ⟨hn, h.h40, hl, h.hi, by rw [slPut_len hi h.hc hne]; exact hb, ?_⟩
    (first | assumption | lia | omega)
section
variable {prog : Program} {w : World} {h₀ : Heap}
noncomputable def efB : D → D
  | .str r => .int (blanks r : Nat)
  | d => d
theorem fn_slide (rows : List (List Nat)) (ended : List Nat) (choice : Nat) (hr : ∀ r ∈ rows, RowOk r) (hn : rows.length ≤ 40) (he : ended.length ≤ 1000) :
    FN (G0 prog w h₀) 3 89 [slidD (rows, ended), .int (choice : Int)] (slidD (slide (rows, ended) choice)) := by
  refine FN.of (ps := ["slid", "choice"]) (k := 2) (ho := rfl) (hcd := rfl) (hbind := ?_) (hkind := rfl) (hnd := by decide) (hlen := rfl) (hcn := by decide) (hco := rfl) (hgen := rfl) (hk := rfl) (hbody := ?_)
  · intro s vs _ hl
    obtain ⟨a, b, rfl⟩ := len2 hl
    exact BindsTo.of_eq rfl
  · intro A L ov
    refine RUN.cons (EX.assign2 (EV.var rfl) STO.local STO.local) ?_
    have hlen : ∀ r ∈ rows, r.length ≤ 40 := fun r h => let ⟨_, _, _, _, q⟩ := hr r h; q
    have hft : (rows.map D.str).filter (fun _ => true) = rows.map D.str := List.filter_eq_self.mpr (by simp)
    have hB : (((rows.map D.str).filter fun _ => true).map efB) ++ [D.int 0] = ((rows.map blanks ++ [0]).map Int.ofNat).map D.int := by
      rw [hft]
      simp [efB]
    refine RUN.cons (ρ' := [("blanks", natsD (rows.map blanks ++ [0])), ("rows", strsD rows), ("ended", natsD ended), ("slid", slidD (rows, ended)), ("choice", .int (choice : Int))]) (θ' := none) (EX.out (EX.assign ((EV.bin (EV.comp (ρ' := []) (cl := []) (tf := fun _ => true) (ef := efB) (SRC.lst (EV.var rfl)) ?_ ?_ ?_) (EV.list (EVS.cons EV.int .nil)) (BOP.add_lst ?_)).of (congrArg D.lst hB)) (STO.cell rfl ?_)) (subv rfl (subv rfl (subv rfl (subv rfl (subv rfl subv_nil)))))) ?_
    · exact ⟨rfl, by decide, rfl, by decide, rfl, (fun y a h => nomatch h), (fun y d h => nomatch h)⟩
    · refine ⟨fun d hd => ?_, fun C d hd => .inl ⟨rfl, rfl⟩, fun C d hd _ => ?_⟩
      · obtain ⟨r, _, rfl⟩ := List.mem_map.mp hd; rfl
      · obtain ⟨r, hrr, rfl⟩ := List.mem_map.mp hd
        obtain ⟨b, t, e, ht, hl⟩ := hr r hrr
        have hrl : r.length = b + t.length := by rw [e]; simp
        refine ⟨rfl, (EV.bin (EV.bcall (FOP.len_str (by (first | assumption | omega))) rfl (EVS.cons (EV.var rfl) .nil)) (EV.bcall (FOP.len_str (x := t) (by (first | assumption | omega))) rfl (EVS.cons (EV.call (fn_strip b t ht (by (first | assumption | omega))) rfl rfl (Nat.le_of_ble_eq_true rfl) (EVS.cons ((EV.var rfl).of ?_) (EVS.cons ((EV.bcall (FOP.len_str (x := r) (by (first | assumption | omega))) rfl (EVS.cons (EV.var rfl) .nil)).of ?_) .nil))) .nil)) BOP.sub_int).of ?_⟩
        · rw [e]
        · rw [hrl]
        · show D.int _ = D.int _
          rw [e, blanks_rep b t ht]
          congr 1
          simp
    · simp; (first | assumption | omega)
    · rw [hft]; simp; (first | assumption | omega)
    · exact List.Mem.tail _ (List.Mem.head _)
    refine RUN.cons (ρ' := [("corners", natsD (cornersOf rows)), ("blanks", natsD (rows.map blanks ++ [0])), ("rows", strsD rows), ("ended", natsD ended), ("slid", slidD (rows, ended)), ("choice", .int (choice : Int))]) (θ' := none)
      (EX.out (EX.assignComp (ρ' := [("blanks", natsD (rows.map blanks ++ [0]))]) (cl := [("blanks", L + 1)]) (tf := tfC rows) (ef := fun d => d) (SRC.range1 (n := (rows.length : Int)) ((EV.bcall (FOP.len_lst (by simp; (first | assumption | omega))) rfl (EVS.cons (EV.var rfl) .nil)).of (by simp)) rfl (by (first | assumption | omega)) (by (first | assumption | omega))) ?_ ?_ ?_) (subv (lookup_eq rfl (congrArg D.lst (corners_eq rows))) (subv rfl (subv rfl (subv rfl (subv rfl (subv rfl subv_nil))))))) ?_
    · refine ⟨rfl, by decide, rfl, by decide, rfl, fun y a h => h, fun y d h => ?_⟩
      obtain ⟨rfl, rfl⟩ := look1 h
      exact ⟨rfl, rfl, rfl, rfl, rfl⟩
    · refine ⟨fun d hd => ?_, fun C d hd => .inr ⟨_, rfl, ?_⟩, fun C d hd _ => ?_⟩
      · obtain ⟨j, _, rfl⟩ := List.mem_map.mp hd; rfl
      · obtain ⟨j, hj, rfl⟩ := List.mem_map.mp hd
        have hj : j < rows.length := by simpa using hj
        refine (TE.cmp (EV.item (EV.var rfl) (EV.var rfl) (IOP.lst (pyGet_ints _ j (by simp; (first | assumption | omega))) (by (first | assumption | omega)) (by (first | assumption | omega)))) (EV.item (EV.var rfl) ((EV.bin (EV.var rfl) EV.int BOP.add_int).of (show _ = D.int ((j + 1 : Nat) : Int) by simp)) (IOP.lst (pyGet_ints _ (j + 1) (by simp; (first | assumption | omega))) (by (first | assumption | omega)) (by (first | assumption | omega)))) COP.gt_int).of ?_
        rw [blk_got rows j (by (first | assumption | omega)), blk_got rows (j + 1) (by (first | assumption | omega))]
        simp [tfC]
      · obtain ⟨j, hj, rfl⟩ := List.mem_map.mp hd
        exact ⟨rfl, EV.var rfl⟩
    · simp [upto]; (first | assumption | omega)
    by_cases hc : cornersOf rows = []
    · refine RUN.stop (EX.ifs (b := true) ((TE.cmp (EV.var rfl) (EV.list .nil) COP.eq_nil).of (by simp [hc])) (fun _ => RUN.stop (EX.ret ((EV.var rfl).of ?_))) fun h => nomatch h)
      simp [slide, hc]
    refine RUN.cons (EX.ifs (b := false) ((TE.cmp (EV.var rfl) (EV.list .nil) COP.eq_nil).of (by simpa using hc)) (fun h => nomatch h) fun _ => RUN.nil) ?_
    have hcl : 0 < (cornersOf rows).length := List.length_pos_iff.mpr hc
    have hcl40 : (cornersOf rows).length ≤ 40 := by
      have := List.length_filter_le (fun i => decide (blanks (rows.getD (i + 1) []) < blanks (rows.getD i []))) (List.range rows.length)
      unfold cornersOf; simp at this ⊢; (first | assumption | omega)
    have hm := Nat.mod_lt choice hcl
    generalize hi : (cornersOf rows).getD (choice % (cornersOf rows).length) 0 = i
    have hin : i ∈ cornersOf rows := by
      rw [← hi, List.getD_eq_getElem?_getD, List.getElem?_eq_getElem hm]; exact List.getElem_mem hm
    have hin' : i < rows.length ∧ blanks (rows.getD (i + 1) []) < blanks (rows.getD i []) := by
      unfold cornersOf at hin; simpa using hin
    refine RUN.cons (EX.assign ((EV.item (EV.var rfl) ((EV.bin (EV.var rfl) ((EV.bcall (FOP.len_lst (by simp; (first | assumption | omega))) rfl (EVS.cons (EV.var rfl) .nil))) (BOP.mod_int (by simp; (first | assumption | omega)))).of (show _ = D.int ((choice % (cornersOf rows).length : Nat) : Int) by simp [fmod_nat])) (IOP.lst (pyGet_ints _ _ hm) (by (first | assumption | omega)) (by (first | assumption | omega)))).of (show _ = D.int (i : Nat) by rw [hi])) STO.local) ?_
    refine RUN.cons (EX.assign ((EV.bin (EV.item (EV.var rfl) (EV.var rfl) (IOP.lst (pyGet_ints _ i (by simp; (first | assumption | omega))) (by (first | assumption | omega)) (by (first | assumption | omega)))) EV.int BOP.sub_int).of (show _ = D.int ((blanks (rows.getD i []) - 1 : Nat) : Int) by rw [blk_got rows i (by (first | assumption | omega))]; congr 1; (first | assumption | omega))) STO.local) ?_
    generalize hcc : blanks (rows.getD i []) - 1 = c
    have hb40 : blanks (rows.getD i []) ≤ (rows.getD i []).length := by unfold blanks; exact (List.takeWhile_sublist _).length_le
    have ok : SlOk rows.length 100 rows i c := ⟨rfl, hn, hlen, hin'.1, by (first | assumption | omega), by (first | assumption | omega)⟩
    have hslide : slide (rows, ended) choice = ((slLoop 100 rows i c).1, ended ++ [(slLoop 100 rows i c).2]) := by
      simp only [slide, hc, if_false, hi, hcc]
    rw [hslide]
    refine RUN.stop (EX.while ?_)
    obtain ⟨n, hnn⟩ : ∃ n, n = rows.length := ⟨_, rfl⟩
    rw [← hnn] at ok
    let α := { p : Nat × List (List Nat) × Nat × Nat // SlOk n p.1 p.2.1 p.2.2.1 p.2.2.2 }
    let R : α → Vars := fun a => [("i", .int (a.1.2.2.1 : Nat)), ("c", .int (a.1.2.2.2 : Nat)), ("rows", strsD a.1.2.1), ("ended", natsD ended)]
    refine WH.weaken (ρ' := R ⟨(100, rows, i, c), ok⟩) ?_ (subv rfl (subv rfl (subv rfl (subv rfl subv_nil))))
    refine WH.ind (α := α) (fun a => a.1.1) R (fun _ => none) (fun a => .ret (slidD ((slLoop a.1.1 a.1.2.1 a.1.2.2.1 a.1.2.2.2).1, ended ++ [(slLoop a.1.1 a.1.2.1 a.1.2.2.1 a.1.2.2.2).2]))) ?_ ⟨(100, rows, i, c), ok⟩
    clear hslide hcc hin' hin hi hm hcl40 hcl hc hB hft hlen hr hn hnn hb40 ok
    rintro ⟨⟨f, rows, i, c⟩, ok⟩ IH
    dsimp only at ok
    cases f with
    | zero => exact absurd ok.hf (by (first | assumption | omega))
    | succ f =>
      have hi : i < rows.length := by rw [ok.hn]; exact ok.hi
      have hr40 := ok.hl _ (getD_mem hi)
      have hc := ok.hc
      have h40 := ok.h40
      have hn := ok.hn
      have hitem : ∀ cx, IOP (G0 prog w h₀) cx (strsD rows) (i : Nat) (.str (rows.getD i [])) := fun _ => IOP.lst (pyGet_strs rows i hi) (by (first | assumption | omega)) (by (first | assumption | omega))
      have hb1 : (rows.getD (i + 1) []).length ≤ 40 := by
        by_cases q : i + 1 < rows.length
        · exact ok.hl _ (getD_mem q)
        · rw [List.getD_eq_getElem?_getD, List.getElem?_eq_none (by (first | assumption | omega))]; simp
      have hbelow : pyGet (rows.map D.str ++ [D.str []]) ((i + 1 : Nat) : Int) = some (.str (rows.getD (i + 1) [])) := by
        rw [pyGet_nat]
        by_cases q : i + 1 < rows.length
        · rw [List.getElem?_append_left (by simpa using q)]; simp [q]
        · have : i + 1 = rows.length := by (first | assumption | omega)
          rw [this, List.getElem?_append_right (by simp)]; simp [List.getD_eq_getElem?_getD]
      let V' : Vars := [("i", .int ((if slUp rows i c then i + 1 else i) : Nat)), ("c", .int ((if slUp rows i c then c else c + 1) : Nat)), ("rows", strsD (slPut rows i c)), ("ended", natsD ended)]
      refine WH.turn (ob := if slRight rows i c = [] ∧ slBelow rows i c = [] then .ret (slidD (rows.set i ((rows.getD i []).take c), ended ++ [i])) else .next V' none) (TE.val EV.bool TOP.bool) (RUN.cons (EX.assign2s (d1 := .str (slRight rows i c)) (d2 := .str (slBelow rows i c)) (EV.tuple (EVS.cons ?_ (EVS.cons ?_ .nil))) STO.local STO.local) ?_) ?_ ?_ ?_ ?_
      · refine (EV.slice_str (EV.item (EV.var rfl) (EV.var rfl) (hitem _)) (EVP.some ((EV.bin (EV.var rfl) EV.int BOP.add_int).of (show _ = D.int ((c + 1 : Nat) : Int) by simp))) (EVP.some ((EV.bin (EV.var rfl) EV.int BOP.add_int).of (show _ = D.int ((c + 2 : Nat) : Int) by simp))) (by (first | assumption | omega))).of ?_
        rw [pySlice_nat, slRight]; congr 2; (first | assumption | omega)
      · refine (EV.slice_str (EV.item (EV.bin (EV.var rfl) (EV.list (EVS.cons (EV.str (l := []) rfl) .nil)) (BOP.add_lst (by simp; (first | assumption | omega)))) ((EV.bin (EV.var rfl) EV.int BOP.add_int).of (show _ = D.int ((i + 1 : Nat) : Int) by simp)) (IOP.lst hbelow (by (first | assumption | omega)) (by (first | assumption | omega)))) (EVP.some (EV.var rfl)) (EVP.some ((EV.bin (EV.var rfl) EV.int BOP.add_int).of (show _ = D.int ((c + 1 : Nat) : Int) by simp))) (by (first | assumption | omega))).of ?_
        dsimp only; rw [pySlice_nat, slBelow]; congr 2; (first | assumption | omega)
      · have htest : ((slRight rows i c == []) && (slBelow rows i c == [])) = decide (slRight rows i c = [] ∧ slBelow rows i c = []) := by
          rw [Bool.eq_iff_iff]; simp
        by_cases hne : slRight rows i c = [] ∧ slBelow rows i c = []
        · rw [if_pos hne]
          refine RUN.stop (EX.ifs (b := true) ((TE.and2 (TE.cmp (EV.var rfl) (EV.str (l := []) rfl) COP.eq_str) fun _ => TE.cmp (EV.var rfl) (EV.str (l := []) rfl) COP.eq_str).of (by rw [htest]; simp [hne])) (fun _ => RUN.stop (EX.ret ?_)) fun h => nomatch h)
          refine EV.tuple (EVS.cons ((EV.bin (EV.bin (EV.slice_lst (EV.var rfl) .none (.some (EV.var rfl)) (by simp; (first | assumption | omega))) (EV.list (EVS.cons (EV.slice_str (EV.item (EV.var rfl) (EV.var rfl) (hitem _)) .none (.some (EV.var rfl)) (by (first | assumption | omega))) .nil)) (BOP.add_lst ?_)) (EV.slice_lst (EV.var rfl) (.some ((EV.bin (EV.var rfl) EV.int BOP.add_int).of (show _ = D.int ((i + 1 : Nat) : Int) by simp))) .none (by simp; (first | assumption | omega))) (BOP.add_lst ?_)).of (show _ = strsD _ from ?_)) (EVS.cons ((EV.bin (EV.var rfl) (EV.list (EVS.cons (EV.var rfl) .nil)) (BOP.add_lst (by simp; (first | assumption | omega)))).of (by simp)) .nil))
          · rw [pySlice_upto]; simp; (first | assumption | omega)
          · rw [pySlice_upto, pySlice_from]; simp; (first | assumption | omega)
          · rw [pySlice_upto, pySlice_upto, pySlice_from, set_split D.str rows i hi]
        · rw [if_neg hne]
          refine RUN.cons (EX.ifs (b := false) ((TE.and2 (TE.cmp (EV.var rfl) (EV.str (l := []) rfl) COP.eq_str) fun _ => TE.cmp (EV.var rfl) (EV.str (l := []) rfl) COP.eq_str).of (by rw [htest]; simpa using hne)) (fun h => nomatch h) fun _ => RUN.nil) ?_
          have hup : ((slBelow rows i c != []) && ((slRight rows i c == []) || decide (coll (slBelow rows i c) (slRight rows i c) ≤ 0))) = slUp rows i c := rfl
          refine RUN.cons (EX.assign ((EV.and2 (EV.cmp (EV.var rfl) (EV.str (l := []) rfl) COP.ne_str) fun _ => EV.or2 (EV.cmp (EV.var rfl) (EV.str (l := []) rfl) COP.eq_str) fun _ => EV.cmp (EV.call (fn_strcoll (slBelow rows i c) (slRight rows i c)) rfl rfl (Nat.le_of_ble_eq_true rfl) (EVS.cons (EV.var rfl) (EVS.cons (EV.var rfl) .nil))) EV.int COP.le_int).of (congrArg D.bool hup)) STO.local) ?_
          have hl1 : (slBelow rows i c).length ≤ 1 := by unfold slBelow; simp; (first | assumption | omega)
          have hl2 : (slRight rows i c).length ≤ 1 := by unfold slRight; simp; (first | assumption | omega)
          refine RUN.cons (EX.assign ((EV.bin (EV.bin (EV.slice_lst (EV.var rfl) .none (.some (EV.var rfl)) (by simp; (first | assumption | omega))) (EV.list (EVS.cons (EV.bin (EV.bin (EV.slice_str (EV.item (EV.var rfl) (EV.var rfl) (hitem _)) .none (.some (EV.var rfl)) (by (first | assumption | omega))) (EV.ite (d := .str (if slUp rows i c then slBelow rows i c else slRight rows i c)) (TE.val (EV.var rfl) TOP.bool) (fun h => (EV.var rfl).of ?_) (fun h => (EV.var rfl).of ?_)) (BOP.add_str ?_)) (EV.slice_str (EV.item (EV.var rfl) (EV.var rfl) (hitem _)) (.some ((EV.bin (EV.var rfl) EV.int BOP.add_int).of (show _ = D.int ((c + 1 : Nat) : Int) by simp))) .none (by (first | assumption | omega))) (BOP.add_str ?_)) .nil)) (BOP.add_lst ?_)) (EV.slice_lst (EV.var rfl) (.some ((EV.bin (EV.var rfl) EV.int BOP.add_int).of (show _ = D.int ((i + 1 : Nat) : Int) by simp))) .none (by simp; (first | assumption | omega))) (BOP.add_lst ?_)).of (show _ = strsD (slPut rows i c) from ?_)) STO.local) ?_
          · rw [h]; rfl
          · rw [h]; rfl
          · rw [pySlice_upto]; split <;> simp only [List.length_append, List.length_take, List.length_drop] <;> (first | assumption | omega)
          · rw [pySlice_upto, pySlice_from]; split <;> simp only [List.length_append, List.length_take, List.length_drop] <;> (first | assumption | omega)
          · simp only [pySlice_upto, List.length_append, List.length_take, List.length_map, List.length_cons, List.length_nil]; (first | assumption | omega)
          · simp only [pySlice_upto, pySlice_from, List.length_append, List.length_take, List.length_drop, List.length_map, List.length_cons, List.length_nil]; (first | assumption | omega)
          · rw [pySlice_upto, pySlice_upto, pySlice_from, pySlice_from, set_split D.str rows i hi]; rfl
          refine RUN.cons (EX.out (EX.assign2 (d1 := .int ((if slUp rows i c then i + 1 else i) : Nat)) (d2 := .int ((if slUp rows i c then c else c + 1) : Nat)) (EV.ite (TE.val (EV.var rfl) TOP.bool) (fun h => (EV.tuple (EVS.cons (EV.bin (EV.var rfl) EV.int BOP.add_int) (EVS.cons (EV.var rfl) .nil))).of ?_) (fun h => (EV.tuple (EVS.cons (EV.var rfl) (EVS.cons (EV.bin (EV.var rfl) EV.int BOP.add_int) .nil))).of ?_)) STO.local STO.local) (ρ' := V') (subv rfl (subv rfl (subv rfl (subv rfl subv_nil))))) RUN.nil
          · simp [h]
          · simp [h]
      · intro ρ' θ' e
        by_cases hne : slRight rows i c = [] ∧ slBelow rows i c = []
        · rw [if_pos hne] at e; cases e
        · rw [if_neg hne] at e
          cases e
          have hs := ok.step hne
          by_cases hu : slUp rows i c = true
          · have := IH ⟨(f, slPut rows i c, i + 1, c), hs.1 hu⟩ (Nat.lt_succ_self f)
            simpa [slLoop, hne, hu, V', R] using this
          · have hu' : slUp rows i c = false := by simpa using hu
            have := IH ⟨(f, slPut rows i c, i, c + 1), hs.2 hu'⟩ (Nat.lt_succ_self f)
            simpa [slLoop, hne, hu', V', R] using this
      · intro ρ' θ' e; split at e <;> cases e
      · intro ρ' θ' e; split at e <;> cases e
      · intro d e
        by_cases hne : slRight rows i c = [] ∧ slBelow rows i c = []
        · rw [if_pos hne] at e
          cases e
          simp [slLoop, hne]
        · rw [if_neg hne] at e; cases e
end
end Mine
end

/- Fn4 -/
section
open PySem PySem.W PySem.Calls PyProof.Rows
set_option maxRecDepth 100000
namespace Mine
@[reducible] noncomputable def wordD (w : List Nat) : D := .lst (w.map fun q => D.str [q])

theorem FR.fold {g : Gd} {c : Cx} {x : Str} {px : Pos} {body : List Stmt} {α β : Type} (emb : β → D) (R : α → Vars) (T : α → Own) (f : α → β → α) (ok : α → List β → Prop)
    (hs : ∀ a b bs, ok a (b :: bs) → ∀ wr, STO g (c.ext wr) (R a) (T a) x (emb b))
    (hk : ∀ a b bs, ok a (b :: bs) → ok (f a b) bs)
    (hb : ∀ a b bs, ok a (b :: bs) → ∀ wr, RUN g (c.ext wr) ((x, emb b) :: R a) (T a) body (.next (R (f a b)) (T (f a b)))) :
    ∀ bs a, ok a bs → FR g c (R a) (T a) (.Name x px) body [] (bs.map emb) (.next (R (bs.foldl f a)) (T (bs.foldl f a))) := by
  intro bs
  induction bs with
  | nil => intro a _; exact FR.nil RUN.nil
  | cons b bs ih => intro a h; exact FR.next (hs a b bs h) (hb a b bs h) (ih _ (hk a b bs h))

theorem pyGet_last (r : List Nat) (h : r ≠ []) : pyGet r (-1) = some (r.getLastD 0) := by
  unfold pyGet seqIndex?
  have hp : 0 < r.length := List.length_pos_iff.mpr h
  have e : (if (-1 : Int) < 0 then (-1 : Int) + r.length else -1) = ((r.length - 1 : Nat) : Int) := by rw [if_pos (by (first | assumption | lia | omega))]; (first | assumption | lia | omega)
  simp only [e]
  rw [if_pos (by simp; (first | assumption | lia | omega))]
  simp [List.getLastD_eq_getLast?, List.getLast?_eq_getElem?]
  rw [List.getElem?_eq_getElem (by (first | assumption | lia | omega))]
  simp
theorem filter_lt_len (r : List Nat) (x : Nat) (h : r ≠ []) (hl : x < r.getLastD 0) : (r.filter (· ≤ x)).length < r.length := by
  have hm : r.getLastD 0 ∈ r := by
    rw [List.getLastD_eq_getLast?, List.getLast?_eq_some_getLast h]; exact List.getLast_mem h
  rcases Nat.lt_or_ge (r.filter (· ≤ x)).length r.length with q | q
  · exact q
  · have := List.length_filter_le (fun y => decide (y ≤ x)) r
    have e : r.filter (· ≤ x) = r := List.filter_sublist.eq_of_length (by (first | assumption | lia | omega))
    have := of_decide_eq_true ((List.filter_eq_self.mp e) _ hm)
    (first | assumption | lia | omega)

structure GrOk (n : Nat) (a : List (List Nat) × List Nat) (xs : List Nat) : Prop where
  hn : a.1.length = n
  h40 : n ≤ 40
  hk : a.2.length + xs.length = n
  he : ∀ j, a.2.length ≤ j → a.1.getD j [] = []
  hl : ∀ r ∈ a.1, r.length ≤ a.2.length
noncomputable def grStep (a : List (List Nat) × List Nat) (x : Nat) : List (List Nat) × List Nat := ((insertP a.1 x).1, a.2 ++ [(insertP a.1 x).2])
theorem grFold (xs : List Nat) : ∀ a : List (List Nat) × List Nat, (xs.foldl grStep a).2 = a.2 ++ growthGo a.1 xs := by
  induction xs with
  | nil => intro a; simp [growthGo]
  | cons x xs ih => intro a; rw [List.foldl_cons, ih]; simp [grStep, growthGo]
theorem bump_split (rows : List (List Nat)) : ∀ x, (bump rows x).1.length + (bump rows x).2.1.length = rows.length ∧ (∀ j, (bump rows x).1.length ≤ j → rows.getD j [] = (bump rows x).2.1.getD (j - (bump rows x).1.length) []) ∧ (∀ r ∈ (bump rows x).1, ∃ r' ∈ rows, r.length = r'.length) ∧ (∀ j, j < (bump rows x).1.length → rows.getD j [] ≠ []) := by
  induction rows with
  | nil => intro x; simp [bump]
  | cons r rs ih =>
    intro x
    unfold bump
    split
    · rename_i h
      obtain ⟨i1, i2, i3, i4⟩ := ih (r.getD (r.filter (· ≤ x)).length 0)
      have hlt := filter_lt_len r x h.1 h.2
      refine ⟨by simp only [List.length_cons]; (first | assumption | lia | omega), fun j hj => ?_, fun q hq => ?_, fun j hj => ?_⟩
      · cases j with
        | zero => simp at hj
        | succ j =>
          have := i2 j (by simpa using hj)
          simpa using this
      · rcases List.mem_cons.mp hq with rfl | hq
        · refine ⟨r, by simp, ?_⟩
          simp only [List.length_append, List.length_take, List.length_drop, List.length_cons, List.length_nil]; (first | assumption | lia | omega)
        · obtain ⟨r', h1, h2⟩ := i3 q hq
          exact ⟨r', by simp [h1], h2⟩
      · cases j with
        | zero => simpa using h.1
        | succ j => simpa using i4 j (by simpa using hj)
    · refine ⟨by simp, fun j hj => by simp, fun q hq => by simp at hq, fun j hj => by simp at hj⟩
theorem GrOk.step {n : Nat} {a : List (List Nat) × List Nat} {x : Nat} {xs : List Nat} (h : GrOk n a (x :: xs)) : GrOk n (grStep a x) xs := by
  obtain ⟨h1, h2, h3, h4⟩ := bump_split a.1 x
  have hk := h.hk
  simp only [List.length_cons] at hk
  have hlt : (bump a.1 x).1.length ≤ a.2.length := by
    rcases Nat.lt_or_ge a.2.length (bump a.1 x).1.length with q | q
    · exact absurd (h.he a.2.length (Nat.le_refl _)) (h4 _ q)
    · exact q
  have hn := h.hn
  refine ⟨?_, h.h40, by simp [grStep]; (first | assumption | lia | omega), fun j hj => ?_, fun r hr => ?_⟩
  · show (insertP a.1 x).1.length = n
    unfold insertP
    cases hb : (bump a.1 x).2.1 with
    | nil => simp [hb] at h1 ⊢; (first | assumption | lia | omega)
    | cons r rs => simp [hb] at h1 ⊢; (first | assumption | lia | omega)
  · show (insertP a.1 x).1.getD j [] = []
    have hj' : a.2.length + 1 ≤ j := by simpa [grStep] using hj
    unfold insertP
    have e := h2 j (by (first | assumption | lia | omega))
    rw [h.he j (by (first | assumption | lia | omega))] at e
    rw [List.getD_eq_getElem?_getD, List.getElem?_append_right (by (first | assumption | lia | omega)), ← List.getD_eq_getElem?_getD]
    obtain ⟨m, hm⟩ : ∃ m, j - (bump a.1 x).1.length = m + 1 := ⟨j - (bump a.1 x).1.length - 1, by (first | assumption | lia | omega)⟩
    rw [hm] at e ⊢
    cases hb : (bump a.1 x).2.1 with
    | nil => simp
    | cons r rs => rw [hb] at e; simpa using e.symm
  · have hr : r ∈ (insertP a.1 x).1 := hr
    have goal : (grStep a x).2.length = a.2.length + 1 := by simp [grStep]
    rw [goal]
    unfold insertP at hr
    rcases List.mem_append.mp hr with hr | hr
    · obtain ⟨r', q1, q2⟩ := h3 r hr
      have := h.hl r' q1
      (first | assumption | lia | omega)
    · have hmem : ∀ q ∈ (bump a.1 x).2.1, q.length ≤ a.2.length := fun q hq => by
        obtain ⟨j, hj, rfl⟩ := mem_getD hq
        have := h2 ((bump a.1 x).1.length + j) (by (first | assumption | lia | omega))
        rw [Nat.add_sub_cancel_left] at this
        rw [← this]
        by_cases hj2 : (bump a.1 x).1.length + j < a.1.length
        · exact h.hl _ (getD_mem hj2)
        · rw [List.getD_eq_getElem?_getD, List.getElem?_eq_none (by (first | assumption | lia | omega))]; simp
      cases hb : (bump a.1 x).2.1 with
      | nil => rw [hb] at hr; simp at hr
      | cons q qs =>
        rw [hb] at hr hmem
        rcases List.mem_cons.mp hr with rfl | hr
        · have := hmem q (by simp)
          simp; (first | assumption | lia | omega)
        · have := hmem r (by simp [hr])
          (first | assumption | lia | omega)

noncomputable def tfG (x : Nat) : D → Bool
  | .str q => !decide (([x] : List Nat) < q)
  | _ => false
theorem tfG_len (r : List Nat) (x : Nat) : (((r.map fun q => D.str [q]).filter (tfG x)).map fun d => d).length = (r.filter (· ≤ x)).length := by
  rw [List.map_id', List.filter_map, List.length_map]
  congr 2
  funext q
  simp only [Function.comp, tfG, lt1]
  rw [Bool.eq_iff_iff]; simp
theorem bump_left {rows : List (List Nat)} (h : [] ∈ rows) (x : Nat) : ∃ r rs, (bump rows x).2.1 = r :: rs := by
  obtain ⟨h1, h2, h3, h4⟩ := bump_split rows x
  obtain ⟨j, hj, e⟩ := mem_getD h
  have : ¬ j < (bump rows x).1.length := fun q => h4 j q e
  cases hb : (bump rows x).2.1 with
  | nil => rw [hb] at h1; simp at h1; (first | assumption | lia | omega)
  | cons r rs => exact ⟨r, rs, rfl⟩
theorem cut_mid {α β : Type} (f : α → β) (pre rs : List α) (r : α) : pySlice ((pre ++ r :: rs).map f) none (some (pre.length : Int)) = pre.map f ∧ pySlice ((pre ++ r :: rs).map f) (some ((pre.length + 1 : Nat) : Int)) none = rs.map f := by
  constructor
  · rw [pySlice_upto]; simp
  · rw [pySlice_from, List.map_append, List.map_cons, List.drop_append]; simp
section
variable {prog : Program} {w : World} {h₀ : Heap}
set_option maxHeartbeats 8000000 in
theorem fn_growth (W : List Nat) (hn : W.length ≤ 40) : FN (G0 prog w h₀) 2 108 [wordD W] (natsD (growthP W)) := by
  refine FN.of (ps := ["word"]) (k := 1) (ho := rfl) (hcd := rfl) (hbind := ?_) (hkind := rfl) (hnd := by decide) (hlen := rfl) (hcn := by decide) (hco := rfl) (hgen := rfl) (hk := rfl) (hbody := ?_)
  · intro s vs _ hl
    obtain ⟨a, rfl⟩ := len1 hl
    exact BindsTo.of_eq rfl
  · intro A L ov
    refine RUN.cons (ρ' := [("rows", strsD (List.replicate W.length [])), ("word", wordD W)]) (θ' := none) (EX.out (EX.assign ((EV.bin (EV.list (EVS.cons (EV.str (l := []) rfl) .nil)) (EV.bcall (FOP.len_lst (by simp; (first | assumption | lia | omega))) rfl (EVS.cons (EV.var rfl) .nil)) (BOP.mul_lst (Nat.le_of_ble_eq_true rfl) (by simp <;> (first | assumption | lia | omega)) (by simp <;> (first | assumption | lia | omega)))).of (show _ = strsD (List.replicate W.length []) by simp [List.flatten_replicate_singleton])) STO.local) (subv rfl (subv rfl subv_nil))) ?_
    refine RUN.own rfl fun a hav => ?_
    let R : List (List Nat) × List Nat → Vars := fun s => [("rows", strsD s.1)]
    let T : List (List Nat) × List Nat → Own := fun s => some ("growth", a, (s.2.map Int.ofNat).map D.int)
    have ok0 : GrOk W.length (List.replicate W.length [], []) W := ⟨by simp, hn, by simp, fun j _ => by simp [List.getD_eq_getElem?_getD, List.getElem?_replicate]; split <;> rfl, fun r hr => by simp [List.mem_replicate] at hr; simp [hr.2]⟩
    refine RUN.cons (EX.for (SRC.lst (EV.var rfl)) (FR.weaken (ρ' := R (List.replicate W.length [], [])) (FR.fold (fun q => D.str [q]) R T grStep (GrOk W.length) ?_ (fun a b bs h => h.step) ?_ W (List.replicate W.length [], []) ok0) (subv rfl subv_nil))) ?_
    · intro s b bs h wr
      exact STO.cell rfl (List.Mem.tail _ (List.Mem.tail _ (List.Mem.head _)))
    · rintro ⟨rows, gr⟩ x xs ok wr
      have h40 := ok.h40
      have hk := ok.hk
      have hrn := ok.hn
      simp only [List.length_cons] at hk hrn
      let β := { p : List (List Nat) × List (List Nat) × Nat // (p.1 ++ p.2.1).length = W.length ∧ [] ∈ p.2.1 ∧ ∀ r ∈ p.1 ++ p.2.1, r.length ≤ 40 }
      let R2 : β → Vars := fun p => [("row", .int (p.1.1.length : Nat)), ("rows", strsD (p.1.1 ++ p.1.2.1)), ("sign", .str [p.1.2.2])]
      have hlast : rows.getD gr.length [] = [] := ok.he gr.length (Nat.le_refl _)
      have ok1 : (([] : List (List Nat)) ++ rows).length = W.length ∧ [] ∈ rows ∧ ∀ r ∈ ([] : List (List Nat)) ++ rows, r.length ≤ 40 := by
        refine ⟨by simpa using hrn, ?_, fun r hr => ?_⟩
        · rw [← hlast]; exact getD_mem (by (first | assumption | lia | omega))
        · have := ok.hl r (by simpa using hr)
          simp only at this
          (first | assumption | lia | omega)
      refine RUN.cons (EX.assign EV.int STO.local) ?_
      let out : β → Vars := fun p => [("row", .int ((p.1.1 ++ (bump p.1.2.1 p.1.2.2).1).length : Nat)), ("rows", strsD (p.1.1 ++ (bump p.1.2.1 p.1.2.2).1 ++ (bump p.1.2.1 p.1.2.2).2.1)), ("sign", .str [(bump p.1.2.1 p.1.2.2).2.2])]
      refine RUN.cons (ρ' := out ⟨([], rows, x), ok1⟩) (θ' := T (rows, gr)) (EX.while (WH.weaken (ρ' := R2 ⟨([], rows, x), ok1⟩) ?_ (subv rfl (subv rfl (subv rfl subv_nil))))) ?_
      · refine WH.ind (α := β) (fun p => p.1.2.1.length) R2 (fun _ => T (rows, gr)) (fun p => .next (out p) (T (rows, gr))) ?_ ⟨([], rows, x), ok1⟩
        rintro ⟨⟨pre, rest, x⟩, okp⟩ IH
        dsimp only at okp
        obtain ⟨o1, o2, o3⟩ := okp
        cases rest with
        | nil => cases o2
        | cons r rs =>
          have hr40 : r.length ≤ 40 := o3 r (by simp)
          have hrow : ∀ cx, IOP (G0 prog w h₀) cx (strsD (pre ++ r :: rs)) (pre.length : Nat) (.str r) := fun _ => IOP.lst (by rw [pyGet_nat]; simp) (by simp at o1; (first | assumption | lia | omega)) (by simp at o1; (first | assumption | lia | omega))
          have htst : ∀ (q : r ≠ []), ((r != []) && decide (([x] : List Nat) < [r.getLastD 0])) = decide (r ≠ [] ∧ x < r.getLastD 0) := by
            intro q
            rw [Bool.eq_iff_iff]; simp only [lt1, Bool.and_eq_true, bne_iff_ne, decide_eq_true_eq]
          by_cases hc : r ≠ [] ∧ x < r.getLastD 0
          · have hlt := filter_lt_len r x hc.1 hc.2
            generalize ha : (r.filter (· ≤ x)).length = a' at hlt
            have hb : bump (r :: rs) x = ((r.take a' ++ [x] ++ r.drop (a' + 1)) :: (bump rs (r.getD a' 0)).1, (bump rs (r.getD a' 0)).2.1, (bump rs (r.getD a' 0)).2.2) := by
              rw [bump, if_pos hc, ha]
            have o1' : pre.length + (rs.length + 1) = W.length := by simpa using o1
            generalize hr' : r.take a' ++ [x] ++ r.drop (a' + 1) = r' at hb
            have hr'l : r'.length = r.length := by rw [← hr']; simp only [List.length_append, List.length_take, List.length_drop, List.length_cons, List.length_nil]; (first | assumption | lia | omega)
            have okn : ((pre ++ [r']) ++ rs).length = W.length ∧ [] ∈ rs ∧ ∀ q ∈ (pre ++ [r']) ++ rs, q.length ≤ 40 := by
              refine ⟨by simp; (first | assumption | lia | omega), ?_, fun q hq => ?_⟩
              · rcases List.mem_cons.mp o2 with e | e
                · exact absurd e.symm hc.1
                · exact e
              · simp only [List.append_assoc, List.singleton_append, List.mem_append, List.mem_cons] at hq
                rcases hq with hq | rfl | hq
                · exact o3 q (by simp [hq])
                · (first | assumption | lia | omega)
                · exact o3 q (by simp [hq])
            have cm := cut_mid D.str pre rs r
            have IH' := IH ⟨(pre ++ [r'], rs, r.getD a' 0), okn⟩ (by simp)
            have eo : out ⟨(pre ++ [r'], rs, r.getD a' 0), okn⟩ = out ⟨(pre, r :: rs, x), o1, o2, o3⟩ := by
              show ([_, _, _] : Vars) = [_, _, _]
              dsimp only
              rw [hb]
              simp
            rw [eo] at IH'
            refine WH.step ?_ (RUN.cons (EX.assign ((EV.bcall (FOP.len_lst ?_) rfl (EVS.cons (EV.comp (ρ' := [("sign", .str [x])]) (cl := [("sign", L + 1)]) (tf := tfG x) (ef := fun d => d) (SRC.str (EV.item (EV.var rfl) (EV.var rfl) (hrow _))) ?_ ?_ ?_) .nil)).of (show _ = D.int (a' : Nat) by rw [tfG_len, ha])) STO.local) ?_) IH'
            · refine (TE.and2 (TE.cmp (EV.item (EV.var rfl) (EV.var rfl) (hrow _)) (EV.str (l := []) rfl) COP.ne_str) fun _ => TE.cmp (EV.item (EV.item (EV.var rfl) (EV.var rfl) (hrow _)) (EV.neg EV.int) (IOP.str (pyGet_last r hc.1) (by (first | assumption | lia | omega)) (by (first | assumption | lia | omega)))) (EV.var rfl) COP.gt_str).of ?_
              rw [htst hc.1]; simpa using hc
            · rw [tfG_len]; (first | assumption | lia | omega)
            · refine ⟨rfl, by decide, rfl, by decide, rfl, fun y a h => h, fun y d h => ?_⟩
              obtain ⟨rfl, rfl⟩ := look1 h
              exact ⟨rfl, rfl, rfl, rfl, rfl⟩
            · refine ⟨fun d hd => ?_, fun C d hd => .inr ⟨_, rfl, ?_⟩, fun C d hd _ => ?_⟩
              · obtain ⟨j, _, rfl⟩ := List.mem_map.mp hd; rfl
              · obtain ⟨j, hj, rfl⟩ := List.mem_map.mp hd
                exact (TE.cmp (EV.var rfl) (EV.var rfl) COP.le_str).of rfl
              · obtain ⟨j, hj, rfl⟩ := List.mem_map.mp hd
                exact ⟨rfl, EV.var rfl⟩
            · simp; (first | assumption | lia | omega)
            refine RUN.cons (EX.assign (EV.item (EV.item (EV.var rfl) (EV.var rfl) (hrow _)) (EV.var rfl) (IOP.str (q := r.getD a' 0) (by rw [pyGet_nat]; simp [hlt]) (by (first | assumption | lia | omega)) (by (first | assumption | lia | omega)))) STO.local) ?_
            refine RUN.cons (EX.assign ((EV.bin (EV.bin (EV.slice_lst (EV.var rfl) .none (.some (EV.var rfl)) (by simp; (first | assumption | lia | omega))) (EV.list (EVS.cons (EV.bin (EV.bin (EV.slice_str (EV.item (EV.var rfl) (EV.var rfl) (hrow _)) .none (.some (EV.var rfl)) (by (first | assumption | lia | omega))) (EV.var rfl) (BOP.add_str ?_)) (EV.slice_str (EV.item (EV.var rfl) (EV.var rfl) (hrow _)) (.some ((EV.bin (EV.var rfl) EV.int BOP.add_int).of (show _ = D.int ((a' + 1 : Nat) : Int) by simp))) .none (by (first | assumption | lia | omega))) (BOP.add_str ?_)) .nil)) (BOP.add_lst ?_)) (EV.slice_lst (EV.var rfl) (.some ((EV.bin (EV.var rfl) EV.int BOP.add_int).of (show _ = D.int ((pre.length + 1 : Nat) : Int) by simp))) .none (by simp; (first | assumption | lia | omega))) (BOP.add_lst ?_)).of (show _ = strsD ((pre ++ [r']) ++ rs) from ?_)) STO.local) ?_
            · rw [pySlice_upto]; simp; (first | assumption | lia | omega)
            · rw [pySlice_upto, pySlice_from]; simp; (first | assumption | lia | omega)
            · dsimp only; rw [cm.1]; simp; (first | assumption | lia | omega)
            · dsimp only; rw [cm.1, cm.2]; simp; (first | assumption | lia | omega)
            · dsimp only; rw [cm.1, cm.2, pySlice_upto, pySlice_from, hr']; simp
            refine RUN.out (RUN.cons (EX.assign2 (EV.tuple (EVS.cons (EV.var rfl) (EVS.cons (EV.bin (EV.var rfl) EV.int BOP.add_int) .nil))) (STO.cell rfl (List.Mem.tail _ (List.Mem.tail _ (List.Mem.head _)))) STO.local) RUN.nil) (subv (lookup_eq rfl ?_) (subv rfl (subv rfl subv_nil)))
            simp
          · have hb : bump (r :: rs) x = ([], r :: rs, x) := by rw [bump, if_neg hc]
            refine WH.out (WH.done ?_) (subv (lookup_eq rfl ?_) (subv (lookup_eq rfl ?_) (subv (lookup_eq rfl ?_) subv_nil)))
            · by_cases q : r = []
              · refine (TE.and2 (b1 := false) (b2 := false) ((TE.cmp (EV.item (EV.var rfl) (EV.var rfl) (hrow _)) (EV.str (l := []) rfl) COP.ne_str).of (by simp [q])) fun h => nomatch h).of rfl
              · refine (TE.and2 (TE.cmp (EV.item (EV.var rfl) (EV.var rfl) (hrow _)) (EV.str (l := []) rfl) COP.ne_str) fun _ => TE.cmp (EV.item (EV.item (EV.var rfl) (EV.var rfl) (hrow _)) (EV.neg EV.int) (IOP.str (pyGet_last r q) (by (first | assumption | lia | omega)) (by (first | assumption | lia | omega)))) (EV.var rfl) COP.gt_str).of ?_
                rw [htst q]; simpa using hc
            · dsimp only; rw [hb]; simp
            · dsimp only; rw [hb]; simp
            · dsimp only; rw [hb]
      · obtain ⟨r, rs, hb⟩ := bump_left ok1.2.1 x
        obtain ⟨b1, b2, b3, b4⟩ := bump_split rows x
        have hin : insertP rows x = ((bump rows x).1 ++ ((r ++ [(bump rows x).2.2]) :: rs), (bump rows x).1.length) := by
          unfold insertP; simp only [hb]
        have eV : out ⟨([], rows, x), ok1⟩ = ([("row", .int ((bump rows x).1.length : Nat)), ("rows", strsD ((bump rows x).1 ++ r :: rs)), ("sign", .str [(bump rows x).2.2])] : Vars) := by
          show ([_, _, _] : Vars) = [_, _, _]
          dsimp only
          rw [hb]; simp
        rw [eV]
        rw [hb] at b1
        simp only [List.length_cons] at b1
        have hr40 : r.length ≤ 40 := by
          have := b2 (bump rows x).1.length (Nat.le_refl _)
          rw [hb] at this
          simp only [Nat.sub_self, List.getD_cons_zero] at this
          rw [← this]
          exact ok1.2.2 _ (by simpa using getD_mem (by (first | assumption | lia | omega)))
        generalize hpre : (bump rows x).1 = pre at *
        generalize hy : (bump rows x).2.2 = y at *
        have cm := cut_mid D.str pre rs r
        have hrow : ∀ cx, IOP (G0 prog w h₀) cx (strsD (pre ++ r :: rs)) (pre.length : Nat) (.str r) := fun _ => IOP.lst (by rw [pyGet_nat]; simp) (by (first | assumption | lia | omega)) (by (first | assumption | lia | omega))
        refine RUN.cons (EX.assign ((EV.bin (EV.bin (EV.slice_lst (EV.var rfl) .none (.some (EV.var rfl)) (by simp; (first | assumption | lia | omega))) (EV.list (EVS.cons (EV.bin (EV.item (EV.var rfl) (EV.var rfl) (hrow _)) (EV.var rfl) (BOP.add_str (by simp; (first | assumption | lia | omega)))) .nil)) (BOP.add_lst ?_)) (EV.slice_lst (EV.var rfl) (.some ((EV.bin (EV.var rfl) EV.int BOP.add_int).of (show _ = D.int ((pre.length + 1 : Nat) : Int) by simp))) .none (by simp; (first | assumption | lia | omega))) (BOP.add_lst ?_)).of (show _ = strsD (insertP rows x).1 from ?_)) STO.local) ?_
        · rw [cm.1]; simp; (first | assumption | lia | omega)
        · rw [cm.1, cm.2]; simp; (first | assumption | lia | omega)
        · rw [cm.1, cm.2, hin]; simp
        have hθ : T (grStep (rows, gr) x) = (some ("growth", a, ((gr.map Int.ofNat).map D.int) ++ [D.int (pre.length : Nat)]) : Own) := by
          simp [T, grStep, hin]
        rw [hθ]
        exact RUN.out (RUN.cons (EX.append (EV.var rfl) (by simp; (first | assumption | lia | omega))) RUN.nil) (subv rfl subv_nil)
    · have e : ∀ l, T l = (some ("growth", a, (l.2.map Int.ofNat).map D.int) : Own) := fun _ => rfl
      rw [e]
      refine RUN.freeze hav (RUN.stop (EX.ret ((EV.var rfl).of ?_)))
      rw [grFold]
      rfl
end
end Mine
end

/- Fn5 -/
section
open PySem PySem.W PySem.Calls PyProof.Rows
set_option maxRecDepth 100000
namespace Mine
noncomputable def downList : Nat → List Nat
  | 0 => []
  | k + 1 => k :: downList k
theorem downs_eq (k : Nat) : downs (k : Int) = (downList k).map fun (i : Nat) => D.int (i : Int) := by
  unfold downs
  rw [Int.toNat_natCast]
  induction k with
  | zero => rfl
  | succ k ih =>
    rw [List.range_succ_eq_map, List.map_cons, List.map_map]
    simp only [downList, List.map_cons]
    congr 1
    · congr 1; (first | assumption | lia | omega)
    · rw [← ih]
      apply List.map_congr_left
      intro j _
      simp only [Function.comp]
      congr 1; (first | assumption | lia | omega)
noncomputable def upd (s : List (List Nat) × Nat) (i : Nat) : List (List Nat) × Nat :=
  (s.1.set i ((s.1.getD i []).take (((s.1.getD i []).filter (· < s.2)).length - 1) ++ [s.2] ++ (s.1.getD i []).drop ((s.1.getD i []).filter (· < s.2)).length), (s.1.getD i []).getD (((s.1.getD i []).filter (· < s.2)).length - 1) 0)
theorem unbump_fold : ∀ (k : Nat) (rows : List (List Nat)) (x : Nat) (r : List (List Nat) × Nat), unbump k rows x = some r → r = (downList k).foldl upd (rows, x)
  | 0, _, _, _, h => by simp [unbump] at h; exact h.symm
  | k + 1, rows, x, r, h => by
    unfold unbump at h
    dsimp only at h
    split at h
    · cases h
    · exact unbump_fold k _ _ r h
structure UbOk (s : List (List Nat) × Nat) (bs : List Nat) : Prop where
  k : ∃ k, bs = downList k ∧ (unbump k s.1 s.2).isSome = true ∧ k ≤ s.1.length
  h40 : s.1.length ≤ 40
  hl : ∀ r ∈ s.1, r.length ≤ 40
theorem UbOk.facts {s : List (List Nat) × Nat} {i : Nat} {bs : List Nat} (h : UbOk s (i :: bs)) : i < s.1.length ∧ 0 < ((s.1.getD i []).filter (· < s.2)).length ∧ ((s.1.getD i []).filter (· < s.2)).length ≤ (s.1.getD i []).length ∧ (s.1.getD i []).length ≤ 40 ∧ UbOk (upd s i) bs := by
  obtain ⟨⟨k, e, hu, hk⟩, h40, hl⟩ := h
  cases k with
  | zero => cases e
  | succ k =>
    simp only [downList, List.cons.injEq] at e
    obtain ⟨rfl, rfl⟩ := e
    have hi : i < s.1.length := by (first | assumption | lia | omega)
    have hle := List.length_filter_le (fun y => decide (y < s.2)) (s.1.getD i [])
    unfold unbump at hu
    dsimp only at hu
    split at hu
    · cases hu
    · rename_i ha
      have hri := hl _ (getD_mem hi)
      refine ⟨hi, by (first | assumption | lia | omega), hle, hri, ⟨i, rfl, hu, by simp [upd]; (first | assumption | lia | omega)⟩, by simpa [upd] using h40, fun r hr => ?_⟩
      rcases List.mem_or_eq_of_mem_set hr with q | rfl
      · exact hl r q
      · simp only [List.length_append, List.length_take, List.length_drop, List.length_cons, List.length_nil]; (first | assumption | lia | omega)
noncomputable def tfL (x : Nat) : D → Bool
  | .str q => decide (q < [x])
  | _ => false
theorem tfL_len (r : List Nat) (x : Nat) : (((r.map fun q => D.str [q]).filter (tfL x)).map fun d => d).length = (r.filter (· < x)).length := by
  rw [List.map_id', List.filter_map, List.length_map]
  congr 2
  funext q
  simp only [Function.comp, tfL, lt1]
noncomputable def pStep (s : List (List Nat) × List Nat) (row : Nat) : List (List Nat) × List Nat :=
  match unins s.1 row with
  | none => s
  | some (rows, x) => (rows, x :: s.2)
structure PtOk (s : List (List Nat) × List Nat) (bs : List Nat) : Prop where
  hp : (partnerGo s.1 bs s.2).isSome = true
  h40 : s.1.length ≤ 40
  hl : ∀ r ∈ s.1, r.length ≤ 40
  hw : s.2.length + bs.length ≤ 1000
theorem partner_fold : ∀ (bs : List Nat) (s : List (List Nat) × List Nat) (r : List Nat), partnerGo s.1 bs s.2 = some r → (bs.foldl pStep s).2 = r
  | [], _, _, h => by simp [partnerGo] at h; exact h
  | b :: bs, s, r, h => by
    unfold partnerGo at h
    rw [List.foldl_cons]
    unfold pStep
    split at h
    · cases h
    · rename_i rows x e
      try rw [e]
      exact partner_fold bs (rows, x :: s.2) r h
theorem PtOk.facts {s : List (List Nat) × List Nat} {row : Nat} {bs : List Nat} (h : PtOk s (row :: bs)) : row < s.1.length ∧ s.1.getD row [] ≠ [] ∧ (s.1.getD row []).length ≤ 40 ∧ UbOk (s.1.set row (s.1.getD row []).dropLast, (s.1.getD row []).getLastD 0) (downList row) ∧
    pStep s row = (((downList row).foldl upd (s.1.set row (s.1.getD row []).dropLast, (s.1.getD row []).getLastD 0)).1, ((downList row).foldl upd (s.1.set row (s.1.getD row []).dropLast, (s.1.getD row []).getLastD 0)).2 :: s.2) ∧ PtOk (pStep s row) bs := by
  obtain ⟨hp, h40, hl, hw⟩ := h
  unfold partnerGo at hp
  cases hu : unins s.1 row with
  | none => rw [hu] at hp; cases hp
  | some r =>
    obtain ⟨rows, x⟩ := r
    rw [hu] at hp
    have hu' := hu
    unfold unins at hu'
    dsimp only at hu'
    split at hu'
    · cases hu'
    · rename_i hc
      simp only [not_or, Nat.not_le] at hc
      have hri := hl _ (getD_mem hc.2)
      have hf := unbump_fold _ _ _ _ hu'
      have hub : UbOk (s.1.set row (s.1.getD row []).dropLast, (s.1.getD row []).getLastD 0) (downList row) := by
        refine ⟨⟨row, rfl, by rw [hu']; rfl, by simp; (first | assumption | lia | omega)⟩, by simpa using h40, fun r hr => ?_⟩
        rcases List.mem_or_eq_of_mem_set hr with q | rfl
        · exact hl r q
        · simp only [List.length_dropLast]; (first | assumption | lia | omega)
      have hs : pStep s row = (rows, x :: s.2) := by unfold pStep; rw [hu]
      have hrows : ∀ (bs : List Nat) (s : List (List Nat) × Nat), UbOk s bs → UbOk (bs.foldl upd s) [] := by
        intro bs
        induction bs with
        | nil => intro s h; exact h
        | cons b bs ih => intro s h; exact ih _ h.facts.2.2.2.2
      have hfin := hrows _ _ hub
      rw [← hf] at hfin
      refine ⟨hc.2, hc.1, hri, hub, by rw [hs, ← hf], ?_⟩
      rw [hs]
      exact ⟨hp, hfin.h40, hfin.hl, by simp at hw ⊢; (first | assumption | lia | omega)⟩
noncomputable def efP (gr : List Nat) : D → D
  | .int i => .str (List.replicate (gr.count i.toNat) (48 + i.toNat))
  | d => d
theorem count_int (gr : List Nat) (j : Nat) : (gr.map Int.ofNat).count (j : Int) = gr.count j := by
  induction gr with
  | nil => rfl
  | cons a gr ih =>
    rw [List.map_cons, List.count_cons, List.count_cons, ih]
    congr 1
    by_cases h : a = j
    · simp [h]
    · have : ¬ (a : Int) = (j : Int) := by (first | assumption | lia | omega)
      simp [h, this]
theorem flat_rep (n q : Nat) : (List.replicate n [q]).flatten = List.replicate n q := by
  induction n with
  | zero => rfl
  | succ n ih => simp [List.replicate_succ, ih]
theorem slice_init (r : List Nat) (h : r ≠ []) : pySlice r none (some (-1)) = r.dropLast := by
  have hp : 0 < r.length := List.length_pos_iff.mpr h
  unfold pySlice
  simp only [Option.map_none, Option.getD_none, Option.map_some, Option.getD_some, List.drop_zero, Nat.sub_zero]
  have : clip r.length (-1) = r.length - 1 := by unfold clip; rw [if_pos (by (first | assumption | lia | omega))]; (first | assumption | lia | omega)
  rw [this, List.dropLast_eq_take]

theorem look1' {α : Type} {x y : Str} {d e : α} (h : ([(x, d)] : List (Str × α)).lookup y = some e) : y = x ∧ e = d := by
  rw [List.lookup_cons] at h
  cases hx : y == x with
  | true => rw [hx] at h; cases h; exact ⟨eq_of_beq hx, rfl⟩
  | false => rw [hx] at h; cases h
section
variable {prog : Program} {w : World} {h₀ : Heap}
set_option maxHeartbeats 8000000 in
theorem fn_partner (gr W : List Nat) (hn : gr.length ≤ 7) (hp : partnerP gr = some W) : FN (G0 prog w h₀) 2 113 [natsD gr] (.str W) := by
  refine FN.of (ps := ["growth"]) (k := 1) (ho := rfl) (hcd := rfl) (hbind := ?_) (hkind := rfl) (hnd := by decide) (hlen := rfl) (hcn := by decide) (hco := rfl) (hgen := rfl) (hk := rfl) (hbody := ?_)
  · intro s vs _ hl
    obtain ⟨a, rfl⟩ := len1 hl
    exact BindsTo.of_eq rfl
  · intro A L ov
    generalize hrows : (List.range gr.length).map (fun i => List.replicate (gr.count i) (48 + i)) = rows0
    have hp' : partnerGo rows0 gr.reverse [] = some W := by rw [← hrows]; exact hp
    have hft : (upto (gr.length : Int)).filter (fun _ => true) = upto (gr.length : Int) := List.filter_eq_self.mpr (by simp)
    have hB : ((upto (gr.length : Int)).filter fun _ => true).map (efP gr) = rows0.map D.str := by
      rw [hft, ← hrows]; unfold upto; simp [efP]
    refine RUN.cons (ρ' := [("rows", strsD rows0), ("growth", natsD gr)]) (θ' := none) (EX.out (EX.assignComp (ρ' := [("growth", natsD gr)]) (cl := [("growth", L + 1)]) (tf := fun _ => true) (ef := efP gr) (SRC.range1 (n := (gr.length : Int)) ((EV.bcall (FOP.len_lst (by simp; (first | assumption | lia | omega))) rfl (EVS.cons (EV.var rfl) .nil)).of (by simp)) rfl (by (first | assumption | lia | omega)) (by (first | assumption | lia | omega))) ?_ ?_ ?_) (subv (lookup_eq rfl (congrArg D.lst hB)) (subv rfl subv_nil))) ?_
    · refine ⟨rfl, by decide, rfl, by decide, rfl, fun y a h => ?_, fun y d h => ?_⟩
      · obtain ⟨rfl, rfl⟩ := look1' h; rfl
      · obtain ⟨rfl, rfl⟩ := look1 h
        exact ⟨rfl, rfl, rfl, rfl, rfl⟩
    · refine ⟨fun d hd => ?_, fun C d hd => .inl ⟨rfl, rfl⟩, fun C d hd _ => ?_⟩
      · obtain ⟨j, _, rfl⟩ := List.mem_map.mp hd; rfl
      · obtain ⟨j, hj, rfl⟩ := List.mem_map.mp hd
        have hj : j < gr.length := by simpa using hj
        have hcnt : gr.count j ≤ 7 := Nat.le_trans List.count_le_length hn
        refine ⟨rfl, (EV.bin (EV.item (EV.str (l := [48, 49, 50, 51, 52, 53, 54]) rfl) (EV.var rfl) (IOP.str (q := 48 + j) ?_ (by (first | assumption | lia | omega)) (by (first | assumption | lia | omega)))) (EV.count (EV.var rfl) (EV.var rfl)) (BOP.mul_str (by simp) (by rw [count_int]; (first | assumption | lia | omega)) (by (first | assumption | lia | omega)))).of ?_⟩
        · rw [pyGet_nat]
          match j, (show j < 7 by (first | assumption | lia | omega)) with
          | 0, _ => rfl
          | 1, _ => rfl
          | 2, _ => rfl
          | 3, _ => rfl
          | 4, _ => rfl
          | 5, _ => rfl
          | 6, _ => rfl
        · rw [count_int, Int.toNat_natCast, flat_rep]; rfl
    · simp [upto]; (first | assumption | lia | omega)
    refine RUN.cons (EX.assign (EV.str (l := []) rfl) STO.local) ?_
    let R : List (List Nat) × List Nat → Vars := fun s => [("rows", strsD s.1), ("word", .str s.2)]
    have ok0 : PtOk (rows0, []) gr.reverse := by
      refine ⟨by dsimp only; rw [hp']; rfl, ?_, fun r hr => ?_, by simp; (first | assumption | lia | omega)⟩
      · rw [← hrows]; simp; (first | assumption | lia | omega)
      · rw [← hrows] at hr
        obtain ⟨j, _, rfl⟩ := List.mem_map.mp hr
        have : gr.count j ≤ 7 := Nat.le_trans List.count_le_length hn
        simp; (first | assumption | lia | omega)
    have hrev : ((gr.map Int.ofNat).map D.int).reverse = gr.reverse.map fun (i : Nat) => D.int (i : Int) := by
      rw [List.map_map, ← List.map_reverse]; rfl
    refine RUN.cons (EX.for (ds := gr.reverse.map fun (i : Nat) => D.int (i : Int)) (SRC.lst ((EV.rev_lst (EV.var rfl) (EV.neg EV.int) (by simp; (first | assumption | lia | omega))).of (congrArg D.lst hrev))) (FR.weaken (ρ' := R (rows0, [])) (FR.fold (fun (i : Nat) => D.int (i : Int)) R (fun _ => none) pStep PtOk ?_ (fun a b bs h => h.facts.2.2.2.2.2) ?_ gr.reverse (rows0, []) ok0) (subv rfl (subv rfl subv_nil)))) ?_
    · intro s b bs h wr
      exact STO.local
    · rintro ⟨rows, word⟩ row bs ok wr
      obtain ⟨f1, f2, f3, f4, f5, f6⟩ := ok.facts
      have h40 := ok.h40
      have hw := ok.hw
      simp only [List.length_cons] at f1 f2 f3 h40 hw
      have hrow : ∀ cx, IOP (G0 prog w h₀) cx (strsD rows) (row : Nat) (.str (rows.getD row [])) := fun _ => IOP.lst (pyGet_strs rows row f1) (by (first | assumption | lia | omega)) (by (first | assumption | lia | omega))
      refine RUN.cons (EX.assign (EV.item (EV.item (EV.var rfl) (EV.var rfl) (hrow _)) (EV.neg EV.int) (IOP.str (pyGet_last _ f2) (by (first | assumption | lia | omega)) (by (first | assumption | lia | omega)))) (STO.cell rfl ?_)) ?_
      · exact List.Mem.tail _ (List.Mem.head _)
      have hset : (rows.map D.str).take row ++ [D.str (rows.getD row []).dropLast] ++ (rows.map D.str).drop (row + 1) = (rows.set row (rows.getD row []).dropLast).map D.str := set_split D.str rows row f1 _
      refine RUN.cons (EX.assign ((EV.bin (EV.bin (EV.slice_lst (EV.var rfl) .none (.some (EV.var rfl)) (by simp; (first | assumption | lia | omega))) (EV.list (EVS.cons (EV.slice_str (EV.item (EV.var rfl) (EV.var rfl) (hrow _)) .none (.some (EV.neg EV.int)) (by (first | assumption | lia | omega))) .nil)) (BOP.add_lst ?_)) (EV.slice_lst (EV.var rfl) (.some ((EV.bin (EV.var rfl) EV.int BOP.add_int).of (show _ = D.int ((row + 1 : Nat) : Int) by simp))) .none (by simp; (first | assumption | lia | omega))) (BOP.add_lst ?_)).of (show _ = strsD (rows.set row (rows.getD row []).dropLast) from ?_)) STO.local) ?_
      · rw [pySlice_upto]; simp; (first | assumption | lia | omega)
      · rw [pySlice_upto, pySlice_from]; simp; (first | assumption | lia | omega)
      · rw [pySlice_upto, pySlice_from, slice_init _ f2, hset]
      generalize hs0 : ((rows.set row (rows.getD row []).dropLast, (rows.getD row []).getLastD 0) : List (List Nat) × Nat) = s0 at f4 f5
      let R2 : List (List Nat) × Nat → Vars := fun s => [("rows", strsD s.1), ("sign", .str [s.2]), ("word", .str word)]
      refine RUN.cons (EX.for (ds := (downList row).map fun (i : Nat) => D.int (i : Int)) (by rw [← downs_eq]; exact SRC.rangeDown (EV.bin (EV.var rfl) EV.int BOP.sub_int) (EV.neg EV.int) (EV.neg EV.int) rfl (by (first | assumption | lia | omega)) (by (first | assumption | lia | omega))) (FR.weaken (ρ' := R2 s0) (FR.fold (fun (i : Nat) => D.int (i : Int)) R2 (fun _ => none) upd UbOk ?_ (fun a b bs h => h.facts.2.2.2.2) ?_ (downList row) s0 f4) (by rw [← hs0]; exact subv rfl (subv rfl (subv rfl subv_nil))))) ?_
      · intro s b bs h wr
        exact STO.local
      · rintro ⟨rows, x⟩ i bs ok wr2
        clear hset hrow
        obtain ⟨g1, g2, g3, g4, g5⟩ := ok.facts
        have h40 := ok.h40
        simp only at g1 g2 g3 g4 h40
        generalize ha : ((rows.getD i []).filter (· < x)).length = a at g2 g3
        have hrow : ∀ cx, IOP (G0 prog w h₀) cx (strsD rows) (i : Nat) (.str (rows.getD i [])) := fun _ => IOP.lst (pyGet_strs rows i g1) (by (first | assumption | lia | omega)) (by (first | assumption | lia | omega))
        have hu : upd (rows, x) i = (rows.set i ((rows.getD i []).take (a - 1) ++ [x] ++ (rows.getD i []).drop a), (rows.getD i []).getD (a - 1) 0) := by unfold upd; simp only [ha]
        rw [hu]
        refine RUN.cons (EX.assign ((EV.bin (EV.bcall (FOP.len_lst ?_) rfl (EVS.cons (EV.comp (ρ' := [("sign", .str [x])]) (cl := [("sign", L + 2)]) (tf := tfL x) (ef := fun d => d) (SRC.str (EV.item (EV.var rfl) (EV.var rfl) (hrow _))) ?_ ?_ ?_) .nil)) EV.int BOP.sub_int).of (show _ = D.int ((a - 1 : Nat) : Int) by rw [tfL_len, ha]; congr 1; (first | assumption | lia | omega))) STO.local) ?_
        · rw [tfL_len]; (first | assumption | lia | omega)
        · refine ⟨rfl, by decide, rfl, by decide, rfl, fun y a h => ?_, fun y d h => ?_⟩
          · obtain ⟨rfl, rfl⟩ := look1' h; rfl
          · obtain ⟨rfl, rfl⟩ := look1 h
            exact ⟨rfl, rfl, rfl, rfl, rfl⟩
        · refine ⟨fun d hd => ?_, fun C d hd => .inr ⟨_, rfl, ?_⟩, fun C d hd _ => ?_⟩
          · obtain ⟨j, _, rfl⟩ := List.mem_map.mp hd; rfl
          · obtain ⟨j, hj, rfl⟩ := List.mem_map.mp hd
            exact (TE.cmp (EV.var rfl) (EV.var rfl) COP.lt_str).of rfl
          · obtain ⟨j, hj, rfl⟩ := List.mem_map.mp hd
            exact ⟨rfl, EV.var rfl⟩
        · rw [List.length_map]; (first | assumption | lia | omega)
        have hlt : a - 1 < (rows.getD i []).length := by (first | assumption | lia | omega)
        refine RUN.cons (EX.assign (EV.item (EV.item (EV.var rfl) (EV.var rfl) (hrow _)) (EV.var rfl) (IOP.str (q := (rows.getD i []).getD (a - 1) 0) (by rw [pyGet_nat, List.getD_eq_getElem?_getD (l := rows.getD i []), List.getElem?_eq_getElem hlt]; rfl) (by (first | assumption | lia | omega)) (by (first | assumption | lia | omega)))) STO.local) ?_
        have hset : (rows.map D.str).take i ++ [D.str ((rows.getD i []).take (a - 1) ++ [x] ++ (rows.getD i []).drop a)] ++ (rows.map D.str).drop (i + 1) = (rows.set i ((rows.getD i []).take (a - 1) ++ [x] ++ (rows.getD i []).drop a)).map D.str := set_split D.str rows i g1 _
        have ha1 : ((a - 1 : Nat) : Int) + 1 = ((a : Nat) : Int) := by (first | assumption | lia | omega)
        refine RUN.cons (EX.assign ((EV.bin (EV.bin (EV.slice_lst (EV.var rfl) .none (.some (EV.var rfl)) (by simp; (first | assumption | lia | omega))) (EV.list (EVS.cons (EV.bin (EV.bin (EV.slice_str (EV.item (EV.var rfl) (EV.var rfl) (hrow _)) .none (.some (EV.var rfl)) (by (first | assumption | lia | omega))) (EV.var rfl) (BOP.add_str ?_)) (EV.slice_str (EV.item (EV.var rfl) (EV.var rfl) (hrow _)) (.some ((EV.bin (EV.var rfl) EV.int BOP.add_int).of (congrArg D.int ha1))) .none (by (first | assumption | lia | omega))) (BOP.add_str ?_)) .nil)) (BOP.add_lst ?_)) (EV.slice_lst (EV.var rfl) (.some ((EV.bin (EV.var rfl) EV.int BOP.add_int).of (show _ = D.int ((i + 1 : Nat) : Int) by simp))) .none (by simp; (first | assumption | lia | omega))) (BOP.add_lst ?_)).of (show _ = strsD (rows.set i ((rows.getD i []).take (a - 1) ++ [x] ++ (rows.getD i []).drop a)) from ?_)) STO.local) ?_
        · rw [pySlice_upto]; simp only [List.length_take, List.length_cons, List.length_nil]; (first | assumption | lia | omega)
        · rw [pySlice_upto, pySlice_from]; simp only [List.length_append, List.length_take, List.length_drop, List.length_cons, List.length_nil]; (first | assumption | lia | omega)
        · rw [pySlice_upto]; simp; (first | assumption | lia | omega)
        · simp only [pySlice_upto, pySlice_from, List.length_append, List.length_take, List.length_drop, List.length_map, List.length_cons, List.length_nil]; (first | assumption | lia | omega)
        · rw [pySlice_upto, pySlice_upto, pySlice_from, pySlice_from, hset]
        exact RUN.out (RUN.cons (EX.assign (EV.var rfl) (STO.cell rfl (List.Mem.tail _ (List.Mem.head _)))) RUN.nil) (subv rfl (subv rfl (subv rfl subv_nil)))
      · rw [f5]
        exact RUN.out (RUN.cons (EX.assign (EV.bin (EV.var rfl) (EV.var rfl) (BOP.add_str (by simp; (first | assumption | lia | omega)))) STO.local) RUN.nil) (subv rfl (subv rfl subv_nil))
    · refine RUN.stop (EX.ret ((EV.var rfl).of ?_))
      rw [partner_fold gr.reverse (rows0, []) W hp']
end
end Mine
end

/- Fn6 -/
section
open PySem PySem.W PySem.Calls PyProof.Rows
set_option maxRecDepth 100000
namespace Mine
section
variable {prog : Program} {w : World} {h₀ : Heap}
theorem pow16 : (2 : Int) ^ (16 : Int).toNat = ((65536 : Nat) : Int) := by decide
set_option maxHeartbeats 8000000 in
theorem fn_place (x : Nat) : FN (G0 prog w h₀) 1 96 [.int (x : Int)] (.int (place x : Nat)) := by
  refine FN.of (ps := ["x"]) (k := 0) (ho := rfl) (hcd := rfl) (hbind := ?_) (hkind := rfl) (hnd := by decide) (hlen := rfl) (hcn := by decide) (hco := rfl) (hgen := rfl) (hk := rfl) (hbody := ?_)
  · intro s vs _ hl
    obtain ⟨a, rfl⟩ := len1 hl
    exact BindsTo.of_eq rfl
  · intro A L ov
    refine RUN.stop (EX.ret ((EV.bin (EV.bin (EV.bin (EV.var rfl) ((EV.bin EV.int EV.int (BOP.pow_int (by decide) (by decide) (by decide))).of (congrArg D.int pow16)) (BOP.div_int (by decide) (by decide))) EV.int (BOP.mod_int (by decide))) EV.int (BOP.mod_int (by decide))).of ?_))
    have e1 : (16 : Int) = ((16 : Nat) : Int) := rfl
    have e2 : (10 : Int) = ((10 : Nat) : Int) := rfl
    rw [fdiv_nat, e1, fmod_nat, e2, fmod_nat]
    rfl
set_option maxHeartbeats 8000000 in
theorem fn_ifmt (x : Nat) : FN (G0 prog w h₀) 1 44 [.int (x : Int)] (.int (Builtin.bitAnd (x : Int) 61440)) := by
  refine FN.of (ps := ["mode"]) (k := 0) (ho := rfl) (hcd := rfl) (hbind := ?_) (hkind := rfl) (hnd := by decide) (hlen := rfl) (hcn := by decide) (hco := rfl) (hgen := rfl) (hk := rfl) (hbody := ?_)
  · intro s vs _ hl
    obtain ⟨a, rfl⟩ := len1 hl
    exact BindsTo.of_eq rfl
  · intro A L ov
    exact RUN.stop (EX.ret (EV.bin (EV.var rfl) EV.int BOP.and_int))

/-- signs joined -/
theorem reps_signs {av : List Addr} {h : Heap} : ∀ {ws : List Value} {l : List Nat}, Reps av h ws (l.map fun q => D.str [q]) → ∃ ts : List (Str × Tok), ws = strValues ts ∧ ts.map (·.1) = l.map fun q => (⟨#[q]⟩ : Str)
  | _, [], .nil => ⟨[], rfl, rfl⟩
  | _, q :: l, .cons p r => by
    (first | cases p using Rep.int_cases | cases p using Rep.str_cases | cases p using Reps.nil_cases | cases p using Rep.fn_cases | cases p using Rep.bool_cases | cases p)
    rename_i t
    obtain ⟨ts, h1, h2⟩ := reps_signs r
    exact ⟨(⟨#[q]⟩, t) :: ts, by rw [h1]; rfl, by simp [h2]⟩
theorem join_signs (l : List Nat) : Str.join (Str.ofString "") (l.map fun q => (⟨#[q]⟩ : Str)) = ⟨l.toArray⟩ := by
  induction l with
  | nil => rfl
  | cons q l ih =>
    cases l with
    | nil => rfl
    | cons r l =>
      rw [List.map_cons, List.map_cons, Str.join, ← List.map_cons (f := fun q => (⟨#[q]⟩ : Str)), ih]
      · have e1 : (⟨#[q]⟩ : Str) = ⟨[q].toArray⟩ := rfl
        have e2 : Str.ofString "" = ⟨([] : List Nat).toArray⟩ := rfl
        rw [e1, e2, str_append, str_append]
        simp
      · simp
theorem fold_signs (l : List Nat) : ∀ k, (l.map fun q => (⟨#[q]⟩ : Str)).foldl (fun a b => a + b.length + (Str.ofString "").length) k = k + l.length := by
  induction l with
  | nil => intro k; rfl
  | cons q l ih =>
    intro k
    rw [List.map_cons, List.foldl_cons, ih]
    have : (⟨#[q]⟩ : Str).length = 1 := rfl
    have e2 : (Str.ofString "").length = 0 := rfl
    rw [this, e2, List.length_cons]; (first | assumption | lia | omega)
end
end Mine
end

/- Fn7 -/
section
open PySem PySem.W PySem.Calls PyProof.Rows
set_option maxRecDepth 100000
set_option maxHeartbeats 4000000
namespace Mine
theorem FOP.join {g : Gd} {c : Cx} (l : List Nat) (hz : l.length ≤ 1000) : FOP g c "str.join" [.str [], .lst (l.map fun q => D.str [q])] (.str l) := by
  intro ρ θ s vs Q E i r k
  cases r using Reps.cons_cases with
  | cons p q =>
    cases q using Reps.cons_cases with
    | cons p2 q2 =>
      (first | cases q2 using Rep.int_cases | cases q2 using Rep.str_cases | cases q2 using Reps.nil_cases | cases q2 using Rep.fn_cases | cases q2 using Rep.bool_cases | cases q2)
      (first | cases p using Rep.int_cases | cases p using Rep.str_cases | cases p using Reps.nil_cases | cases p using Rep.fn_cases | cases p using Rep.bool_cases | cases p)
      cases p2 using Rep.lst_cases with
      | lst n1 hl q1 =>
        obtain ⟨ts, rfl, e⟩ := reps_signs q1
        refine SC.join (x := Str.ofString "") hl.isList e ?_ fun t' tk => ?_
        · unfold JoinOk Builtin.Str.tooLong
          rw [List.foldl_toArray, fold_signs]
          unfold sizeLine
          simp; (first | assumption | lia | omega)
        · have : Txt.join (Str.ofString "") (l.map fun q => (⟨#[q]⟩ : Str)) = ⟨l.toArray⟩ := by
            show Builtin.Str.glued _ _ = _
            rw [StrLaws.glued_eq_join, join_signs]
          rw [this]
          exact k _ _ (keeps_toks _ _) (.str _ _)
theorem str_type {c : Cx} {x : List Nat} {s : Shared} {v : Value} (r : Rep c.av s.heap v (.str x)) : s.TypeIs v "str" ∧ (∀ a, v = .ref a → ∃ ob, s.heap.get? a = some ob ∧ ob.dict = none) := by
  (first | cases r using Rep.int_cases | cases r using Rep.str_cases | cases r using Reps.nil_cases | cases r using Rep.fn_cases | cases r using Rep.bool_cases | cases r)
  exact ⟨typeIs_str _ _ _, fun a h => nomatch h⟩

@[reducible] noncomputable def pairD (q : Nat × Nat) : D × D := (D.int (q.1 : Nat), D.str [q.2])
@[reducible] noncomputable def rowD (t : List (Nat × Nat)) : D := .tup (pairsD (t.map pairD))

theorem rep_table {w : World} {h : Heap} {av : List Addr} (X : (hd.heap_39 w.params).In h) (na : ∀ a o, (hd.heap_39 w.params).lookup a = some o → a ∉ av) : Rep av h (.ref 77) (.tup (fmTable.map rowD)) := by
  refine Rep.tup (na 77 _ rfl) ⟨0, X _ _ rfl⟩ ?_
  repeat' (first | exact Reps.nil | refine Reps.cons ?_ ?_ | exact Rep.int _ _ | exact Rep.str _ _ | refine Rep.tup (na _ _ rfl) ⟨0, X _ _ rfl⟩ ?_)
theorem bitAnd_nat (x b : Nat) : Builtin.bitAnd (x : Int) (b : Int) = ((x &&& b : Nat) : Int) := by
  unfold Builtin.bitAnd
  simp
theorem FR2.fold {g : Gd} {c : Cx} {x y : Str} {px py pt : Pos} {kk : Nat} {body : List Stmt} {α β : Type} (emb : β → D × D) (R : α → Vars) (T : α → Own) (f : α → β → α) (ok : α → List β → Prop)
    (hs1 : ∀ a b bs, ok a (b :: bs) → ∀ wr, STO g (c.ext wr) (R a) (T a) x (emb b).1) (hs2 : ∀ a b bs, ok a (b :: bs) → ∀ wr, STO g (c.ext wr) ((x, (emb b).1) :: R a) (T a) y (emb b).2)
    (hk : ∀ a b bs, ok a (b :: bs) → ok (f a b) bs)
    (hb : ∀ a b bs, ok a (b :: bs) → ∀ wr, RUN g (c.ext wr) ((y, (emb b).2) :: (x, (emb b).1) :: R a) (T a) body (.next (R (f a b)) (T (f a b)))) :
    ∀ bs a, ok a bs → FR2 g c (R a) (T a) (.Tuple [.Name x px, .Name y py] kk pt) body [] (bs.map emb) (.next (R (bs.foldl f a)) (T (bs.foldl f a))) := by
  intro bs
  induction bs with
  | nil => intro a _; exact FR2.nil RUN.nil
  | cons b bs ih => intro a h; exact FR2.next (hs1 a b bs h) (hs2 a b bs h) (hb a b bs h) (ih _ (hk a b bs h))
theorem FR2.list {g : Gd} {c : Cx} {ρ : Vars} {θ : Own} {target : Expr} {body orelse : List Stmt} {β : Type} (emb : β → D × D) (P : List β → Out) (nil : FR2 g c ρ θ target body orelse [] (P [])) (cons : ∀ b bs, FR2 g c ρ θ target body orelse (bs.map emb) (P bs) → FR2 g c ρ θ target body orelse ((emb b) :: bs.map emb) (P (b :: bs))) :
    ∀ bs, FR2 g c ρ θ target body orelse (bs.map emb) (P bs) := by
  intro bs
  induction bs with
  | nil => exact nil
  | cons b bs ih => exact cons b bs ih
theorem foldl_snoc {α β : Type} (h : α → β) : ∀ (bs : List α) (l : List β), bs.foldl (fun l q => l ++ [h q]) l = l ++ bs.map h
  | [], l => by simp
  | b :: bs, l => by rw [List.foldl_cons, foldl_snoc h bs]; simp
theorem FR2.out {g : Gd} {c : Cx} {ρ ρ1 ρ' : Vars} {θ θ' : Own} {target : Expr} {body orelse : List Stmt} {ds : List (D × D)} (h : FR2 g c ρ θ target body orelse ds (.next ρ1 θ')) (hw : ∀ x d, ρ'.lookup x = some d → ρ1.lookup x = some d) : FR2 g c ρ θ target body orelse ds (.next ρ' θ') := by
  intro s R I fp wr n Pt St Mid i L iv k
  exact h s R I fp wr n Pt St Mid i L iv fun f s' k' r => k f s' k' ⟨r.1, r.2.weaken hw⟩
section
variable {prog : Program} {w : World} {h₀ : Heap}
theorem EV.table {c : Cx} {ρ : Vars} {θ : Own} {p : Pos} (hx : c.env.kindOf "_filemode_table" = some .globalImplicit := by rfl) : EV (G0 prog w h₀) c ρ θ (.Name "_filemode_table" p) (.tup (fmTable.map rowD)) := by
  intro s Q E i k
  refine eval_glob i (v := .ref 77) rfl (k _ s (keeps_refl s) (rep_table (i.gok.X.keeps i.ground) fun a o e q => ?_)) hx
  have := (i.avok a q).1
  rw [i.gok.X a o e] at this
  cases this
set_option maxHeartbeats 8000000 in
theorem fn_filemode (x : Nat) : FN (G0 prog w h₀) 2 84 [.int (x : Int)] (.str (fmAll x)) := by
  refine FN.of (ps := ["mode"]) (k := 1) (ho := rfl) (hcd := rfl) (hbind := ?_) (hkind := rfl) (hnd := by decide) (hlen := rfl) (hcn := by decide) (hco := rfl) (hgen := rfl) (hk := rfl) (hbody := ?_)
  · intro s vs _ hl
    obtain ⟨a, rfl⟩ := len1 hl
    exact BindsTo.of_eq rfl
  · intro A L ov
    refine RUN.own rfl fun a hav => ?_
    let T : List Nat → Own := fun l => some ("perm", a, l.map fun q => D.str [q])
    let f : List Nat → List (Nat × Nat) × Nat → List Nat := fun l q => l ++ [fmChar x q.2 q.1]
    refine RUN.cons (EX.for2 (ds := fmTable.zipIdx.map fun q => (D.int (q.2 : Nat), rowD q.1)) (SRC2.enum EV.table rfl) (FR2.fold (fun q => (D.int (q.2 : Nat), rowD q.1)) (fun _ => [("mode", .int (x : Int))]) T f (fun l bs => l.length + bs.length ≤ 1000) (fun _ _ _ _ _ => STO.local) (fun _ _ _ _ _ => STO.local) (fun l b bs h => by simp [f] at h ⊢; (first | assumption | lia | omega)) ?_ fmTable.zipIdx [] (by decide))) ?_
    · rintro l ⟨t, i⟩ bs ok wr
      have hl : l.length ≤ 1000 := by simp at ok; (first | assumption | lia | omega)
      have hT : ∀ q, T (l ++ [q]) = (some ("perm", a, (l.map fun q => D.str [q]) ++ [D.str [q]]) : Own) := fun q => by simp [T]
      let ρ0 : Vars := [("index", .int (i : Nat)), ("mode", .int (x : Int))]
      refine RUN.out (ρ1 := ρ0) (RUN.cons (EX.for2 (ds := t.map pairD) (SRC2.tup (EV.var rfl)) (FR2.weaken (ρ' := ρ0) (FR2.list pairD (fun t => .next ρ0 (T (l ++ [fmChar x i t]))) ?_ ?_ t) (subv rfl (subv rfl subv_nil)))) RUN.nil) (subv rfl subv_nil)
      · refine FR2.nil ?_
        by_cases hi : i = 0
        · have e : fmChar x i [] = 63 := by simp [fmChar, hi]
          rw [e, hT]
          exact RUN.cons (EX.ifs (b := true) ((TE.cmp (EV.var rfl) EV.int COP.eq_int).of (by simp [hi])) (fun _ => RUN.cons (EX.append (EV.str (l := [63]) rfl) (by simp; (first | assumption | lia | omega))) RUN.nil) fun h => nomatch h) RUN.nil
        · have e : fmChar x i [] = 45 := by simp [fmChar, hi]
          rw [e, hT]
          exact RUN.cons (EX.ifs (b := false) ((TE.cmp (EV.var rfl) EV.int COP.eq_int).of (by simp; (first | assumption | lia | omega))) (fun h => nomatch h) fun _ => RUN.cons (EX.append (EV.str (l := [45]) rfl) (by simp; (first | assumption | lia | omega))) RUN.nil) RUN.nil
      · rintro ⟨b, q⟩ bs ih
        have hifmt : (Builtin.bitAnd (x : Int) 61440 == ((b : Nat) : Int)) = (x &&& 61440 == b) := by
          rw [show (61440 : Int) = ((61440 : Nat) : Int) from rfl, bitAnd_nat, Bool.eq_iff_iff]; simp only [beq_iff_eq]; (first | assumption | lia | omega)
        have hmode : (Builtin.bitAnd (x : Int) ((b : Nat) : Int) == ((b : Nat) : Int)) = (x &&& b == b) := by
          rw [bitAnd_nat, Bool.eq_iff_iff]; simp only [beq_iff_eq]; (first | assumption | lia | omega)
        by_cases hit : fmHit x i b = true
        · have e : fmChar x i ((b, q) :: bs) = q := by simp [fmChar, hit]
          rw [e, hT]
          refine FR2.out (ρ1 := ("char", .str [q]) :: ("bit", .int (b : Nat)) :: ρ0) (FR2.brk (fun _ => STO.local) (fun _ => STO.local) fun wr => ?_) (subv rfl (subv rfl subv_nil))
          by_cases hi : i = 0
          · refine RUN.stop (EX.ifs (b := true) ((TE.cmp (EV.var rfl) EV.int COP.eq_int).of (by simp [hi])) (fun _ => RUN.stop (EX.ifs (b := true) ((TE.cmp (EV.call (fn_ifmt x) rfl rfl (Nat.le_of_ble_eq_true rfl) (EVS.cons (EV.var rfl) .nil)) (EV.var rfl) COP.eq_int).of ?_) (fun _ => RUN.cons (EX.append (EV.var rfl) (by simp; (first | assumption | lia | omega))) (RUN.stop EX.brk)) fun h => nomatch h)) fun h => nomatch h)
            rw [hifmt]; simpa [fmHit, hi] using hit
          · refine RUN.stop (EX.ifs (b := false) ((TE.cmp (EV.var rfl) EV.int COP.eq_int).of (by simp; (first | assumption | lia | omega))) (fun h => nomatch h) fun _ => RUN.stop (EX.ifs (b := true) ((TE.cmp (EV.bin (EV.var rfl) (EV.var rfl) BOP.and_int) (EV.var rfl) COP.eq_int).of ?_) (fun _ => RUN.cons (EX.append (EV.var rfl) (by simp; (first | assumption | lia | omega))) (RUN.stop EX.brk)) fun h => nomatch h))
            rw [hmode]; simpa [fmHit, hi] using hit
        · have e : fmChar x i ((b, q) :: bs) = fmChar x i bs := by simp [fmChar, hit]
          rw [e]
          refine FR2.next (ρ' := ρ0) (θ' := T l) (fun _ => STO.local) (fun _ => STO.local) (fun wr => ?_) ih
          by_cases hi : i = 0
          · refine RUN.out (RUN.cons (EX.ifs (b := true) ((TE.cmp (EV.var rfl) EV.int COP.eq_int).of (by simp [hi])) (fun _ => RUN.cons (EX.ifs (b := false) ((TE.cmp (EV.call (fn_ifmt x) rfl rfl (Nat.le_of_ble_eq_true rfl) (EVS.cons (EV.var rfl) .nil)) (EV.var rfl) COP.eq_int).of ?_) (fun h => nomatch h) fun _ => RUN.nil) RUN.nil) fun h => nomatch h) RUN.nil) (subv rfl (subv rfl subv_nil))
            rw [hifmt]; simpa [fmHit, hi] using hit
          · refine RUN.out (RUN.cons (EX.ifs (b := false) ((TE.cmp (EV.var rfl) EV.int COP.eq_int).of (by simp; (first | assumption | lia | omega))) (fun h => nomatch h) fun _ => RUN.cons (EX.ifs (b := false) ((TE.cmp (EV.bin (EV.var rfl) (EV.var rfl) BOP.and_int) (EV.var rfl) COP.eq_int).of ?_) (fun h => nomatch h) fun _ => RUN.nil) RUN.nil) RUN.nil) (subv rfl (subv rfl subv_nil))
            rw [hmode]; simpa [fmHit, hi] using hit
    · have e : ∀ l, T l = (some ("perm", a, l.map fun q => D.str [q]) : Own) := fun _ => rfl
      have e2 : fmTable.zipIdx.foldl f [] = fmAll x := by
        have := foldl_snoc (fun q : List (Nat × Nat) × Nat => fmChar x q.2 q.1) fmTable.zipIdx []
        simpa [f, fmAll] using this
      rw [e2, e]
      have hz : (fmAll x).length ≤ 1000 := by simp [fmAll]; decide
      generalize fmAll x = r at hz ⊢
      refine RUN.freeze hav (RUN.stop (EX.ret ?_))
      exact EV.method (dv := .str []) (ds := [.lst (r.map fun q => D.str [q])]) (T := "str") (id := "str.join") (EV.str rfl) (EVS.cons (EV.var rfl) .nil) (FOP.join r hz) (fun _ _ r => str_type r) F.plainAttrs_str F.slot_str_join F.type_str_join
end
end Mine
end

/- Fn8 -/
section
open PySem PySem.W PySem.Calls PyProof.Rows
set_option maxRecDepth 100000
set_option maxHeartbeats 400000
namespace Mine
section
variable {g : Gd} {c : Cx} {ρ : Vars} {θ : Own} {e e1 e2 : Expr} {d d1 d2 : D} {pos p apos : Pos} {n : Int}
/-- a display's pairs: int keys, signs -/
noncomputable def EVK (g : Gd) (c : Cx) (ρ : Vars) (θ : Own) (ks : List (Option Expr)) (vs : List Expr) (pos : Pos) (kv : List (Int × D)) : Prop :=
  ∀ (s : Shared) (Q : List (Value × Value) → Shared → Prop) (E : Value → Shared → Prop), Inv g c ρ θ s →
    (∀ us kvs s', Keeps s s' → Carries (intKind g.prog g.w) us kvs → kvs.map (·.1) = kv.map (·.1) → kvs.map (fun q => datOf q.2) = kv.map (fun q => some q.2) → Q us s') →
    wpAny (model g.prog g.w) c.A (evalPairs (pairTrees ks vs c.env pos)) Q E s
theorem EVK.nil : EVK g c ρ θ [] [] pos [] := by
  intro s Q E i k
  exact evalPairs_nil (k [] [] s (keeps_refl s) trivial rfl rfl)
theorem EVK.cons {ks : List (Option Expr)} {vs : List Expr} {kv : List (Int × D)} (hk : EV g c ρ θ e1 (.int n)) (hv : EV g c ρ θ e2 d) (hi : d.imm = true) (h : EVK g c ρ θ ks vs pos kv) : EVK g c ρ θ (some e1 :: ks) (e2 :: vs) pos ((n, d) :: kv) := by
  intro s Q E i k
  refine pairTrees_cons_walk (hk s _ E i fun v1 s1 k1 r1 => hv s1 _ E (i.keeps k1) fun v2 s2 k2 r2 => h s2 _ E ((i.keeps k1).keeps k2) fun us kvs s3 k3 hc e1 e2 => ?_)
  (first | cases r1 using Rep.int_cases | cases r1 using Rep.str_cases | cases r1 using Reps.nil_cases | cases r1 using Rep.fn_cases | cases r1 using Rep.bool_cases | cases r1)
  exact k _ ((n, v2) :: kvs) s3 (keeps_trans k1 (keeps_trans k2 k3)) ⟨by simp [intKind, Value.isInt], rfl, hc⟩ (by simp [e1]) (by simp [e2, r2.dat hi])
theorem stored_new {kvs : List (Int × Value)} {k : Int} {v : Value} (h : k ∉ kvs.map (·.1)) : stored kvs k v = kvs ++ [(k, v)] := by
  unfold stored
  rw [if_neg]
  intro q
  obtain ⟨x, h1, h2⟩ := List.any_eq_true.mp q
  exact h (List.mem_map.mpr ⟨x, h1, by simpa using h2⟩)
theorem merged_new : ∀ (more kvs : List (Int × Value)), ((kvs ++ more).map (·.1)).Nodup → merged kvs more = kvs ++ more
  | [], kvs, _ => by simp [merged]
  | (k, v) :: more, kvs, h => by
    have h1 : k ∉ kvs.map (·.1) := by
      intro q
      rw [List.map_append, List.map_cons, List.nodup_append] at h
      exact h.2.2 k q k (by simp) rfl
    have : merged kvs ((k, v) :: more) = merged (stored kvs k v) more := rfl
    rw [this, stored_new h1, merged_new more _ (by simpa using h)]
    simp
theorem valueAt_dat : ∀ {kvs : List (Int × Value)} {kv : List (Int × D)} (n : Int), kvs.map (·.1) = kv.map (·.1) → kvs.map (fun q => datOf q.2) = kv.map (fun q => some q.2) →
    (valueAt kvs n = none ∧ (kv.find? fun q => decide (q.1 = n)) = none) ∨ ∃ v d, valueAt kvs n = some v ∧ datOf v = some d ∧ (kv.find? fun q => decide (q.1 = n)) = some (n, d)
  | [], [], n, _, _ => .inl ⟨rfl, rfl⟩
  | [], _ :: _, _, h, _ => by simp at h
  | _ :: _, [], _, h, _ => by simp at h
  | (a, v) :: kvs, (b, d) :: kv, n, h1, h2 => by
    simp only [List.map_cons, List.cons.injEq] at h1 h2
    obtain ⟨rfl, h1⟩ := h1
    by_cases q : a = n
    · subst q
      exact .inr ⟨v, d, by simp [valueAt], h2.1, by simp⟩
    · rcases valueAt_dat n h1 h2.2 with ⟨q1, q2⟩ | ⟨v', d', q1, q2, q3⟩
      · exact .inl ⟨by simpa [valueAt, q] using q1, by simpa [q] using q2⟩
      · exact .inr ⟨v', d', by simpa [valueAt, q] using q1, q2, by simpa [q] using q3⟩
theorem EV.dictget {ks : List (Option Expr)} {vs : List Expr} {dp : Pos} {kv : List (Int × D)} (hK : EVK g c ρ θ ks vs dp kv) (h1 : EV g c ρ θ e1 (.int n)) (h2 : EV g c ρ θ e2 d2) (hd : ((kv.find? fun q => decide (q.1 = n)).map (·.2)).getD d2 = d) (hnd : (kv.map (·.1)).Nodup)
    (hall : ks.all (·.isSome) = true) (hl : ks.length = vs.length) (h0 : ks ≠ []) (hlen : ks.length ≤ 15)
    (hbase : attributeBase (.Dict ks vs dp) "get" c.env (eval (.Dict ks vs dp) c.env) = eval (.Dict ks vs dp) c.env := by rfl)
    (hfew : ((backTo pos (starEach [e1, e2] c.env)).all (fun x => !x.1) && (backToKw pos (keywordEach [] c.env)).all (fun x => x.1.isSome)
      && decide (([e1, e2] : List Expr).length + ([] : List Keyword).length + (if ([] : List Keyword).isEmpty then 0 else 1) < 30)) = true := by rfl)
    (hline : (apos.endLine == pos.line) = true := by rfl) (htrees : backTo pos (starEach [e1, e2] c.env) = [(false, eval e1 c.env), (false, eval e2 c.env)] := by rfl) :
    EV g c ρ θ (.Call (.Attribute (.Dict ks vs dp) "get" apos) [e1, e2] [] pos) d := by
  intro s Q E i k
  subst hd
  have k0 := keeps_push' s ({ cls := .type "dict", data := .dict #[] } : Obj)
  refine wpAny_Call_method hbase hfew hline F.plainAttrs_dict F.slot_dict_get F.type_dict_get (wpAny_Dict_walk (knd := intKind g.prog g.w) hall hl h0 hlen (hK _ _ E (i.keeps k0) fun us kvs s1 k1 hc e1 e2 => ⟨kvs, hc, (Heap.DictOf.new s.heap).at (fun o e => Keeps.h k1 _ _ e), fun h' hd hs => ?_⟩))
  have ka : Keeps s { s1 with heap := h', toks := s1.toks + us.length } := by
    obtain ⟨h1, t1, rfl, hk1⟩ := k1
    exact ⟨h', _, rfl, fun b o e => hs.extBut b o (Nat.ne_of_lt (Heap.lt_size e)) (hk1 b o (Heap.get?_push_of_some _ e))⟩
  have hm : merged [] kvs = kvs := by
    have := merged_new kvs [] (by rw [List.nil_append, e1]; exact hnd)
    simpa using this
  rw [hm] at hd
  have hdo : ∃ ob, h'.get? s.heap.objs.size = some ob ∧ ob.dict = none := by
    obtain ⟨o, es, ep, ho, hx, _⟩ := hd
    exact ⟨o, ho, hx.2.1⟩
  have hsys : (s.heap.objs.size == sysModules) = false := by
    obtain ⟨mc, hn, _⟩ := i.gok.nolimit
    obtain ⟨o, _, _, ho, _⟩ := hn
    have hlt := Heap.lt_size (i.ground _ _ ho)
    have : (2 : Nat) < s.heap.objs.size := hlt
    simp only [sysModules]
    exact beq_eq_false_iff_ne.mpr (by (first | assumption | lia | omega))
  refine ⟨hd.typeIs (s := { s1 with heap := h', toks := s1.toks + us.length }), fun a h => by cases h; exact hdo, ?_⟩
  rw [htrees]
  refine wpAny_dict_get2 (knd := intKind g.prog g.w) hsys (h1 _ _ E (i.keeps ka) fun v1 s2 k2 r1 => h2 s2 _ E ((i.keeps ka).keeps k2) fun v2 s3 k3 r2 => ?_)
  (first | cases r1 using Rep.int_cases | cases r1 using Rep.str_cases | cases r1 using Reps.nil_cases | cases r1 using Rep.fn_cases | cases r1 using Rep.bool_cases | cases r1)
  refine ⟨n, valueAt kvs, by simp [intKind, Value.isInt], (hd.at fun o e => Keeps.h k3 _ _ (Keeps.h k2 _ _ e)).mapOf, ?_⟩
  have kk := keeps_trans ka (keeps_trans k2 (keeps_trans k3 (keeps_toks s3 (s3.toks + 1))))
  rcases valueAt_dat n e1 e2 with ⟨q1, q2⟩ | ⟨v', d', q1, q2, q3⟩
  · rw [q1]
    rw [q2] at k
    exact k _ _ kk r2
  · rw [q1]
    rw [q3] at k
    exact k _ _ kk (.of_dat q2)
end
noncomputable def kinds : List (Int × D) := [(1, .str [112]), (2, .str [99]), (4, .str [100]), (6, .str [98]), (8, .str [45]), (10, .str [108]), (12, .str [115])]
theorem kinds_get (k : Nat) (hk : k < 16) : ((kinds.find? fun q => decide (q.1 = (k : Int))).map (·.2)).getD (.str [63]) = .str [kindOfN k] := by
  match k, hk with
  | 0, _ => rfl
  | 1, _ => rfl
  | 2, _ => rfl
  | 3, _ => rfl
  | 4, _ => rfl
  | 5, _ => rfl
  | 6, _ => rfl
  | 7, _ => rfl
  | 8, _ => rfl
  | 9, _ => rfl
  | 10, _ => rfl
  | 11, _ => rfl
  | 12, _ => rfl
  | 13, _ => rfl
  | 14, _ => rfl
  | 15, _ => rfl
  | k + 16, h => exact absurd h (by (first | assumption | lia | omega))
theorem pow_nat (k : Nat) : (2 : Int) ^ ((k : Nat) : Int).toNat = ((2 ^ k : Nat) : Int) := by
  rw [Int.toNat_natCast]; push_cast; rfl
section
variable {prog : Program} {w : World} {h₀ : Heap}
set_option maxHeartbeats 8000000 in
theorem fn_sign (x : Nat) : FN (G0 prog w h₀) 2 103 [.int (x : Int)] (.str [signP x]) := by
  refine FN.of (ps := ["x"]) (k := 1) (ho := rfl) (hcd := rfl) (hbind := ?_) (hkind := rfl) (hnd := by decide) (hlen := rfl) (hcn := by decide) (hco := rfl) (hgen := rfl) (hk := rfl) (hbody := ?_)
  · intro s vs _ hl
    obtain ⟨a, rfl⟩ := len1 hl
    exact BindsTo.of_eq rfl
  · intro A L ov
    have hp := place_lt x
    refine RUN.cons (EX.assign (EV.call (fn_place x) rfl rfl (Nat.le_of_ble_eq_true rfl) (EVS.cons (EV.var rfl) .nil)) STO.local) ?_
    obtain ⟨q, hq⟩ : ∃ q, q = signP x := ⟨_, rfl⟩
    rw [← hq]
    unfold signP at hq
    generalize hpl : place x = pl at *
    by_cases h0 : pl = 0
    · rw [if_pos h0] at hq
      have hk : x / 4096 % 16 < 16 := Nat.mod_lt _ (by decide)
      have hkq := kinds_get (x / 4096 % 16) hk
      rw [← hq] at hkq
      have harg : Int.fmod (Int.fdiv (x : Int) 4096) 16 = ((x / 4096 % 16 : Nat) : Int) := by
        rw [show (4096 : Int) = ((4096 : Nat) : Int) from rfl, fdiv_nat, show (16 : Int) = ((16 : Nat) : Int) from rfl, fmod_nat]
      generalize x / 4096 % 16 = k4 at *
      refine RUN.stop (EX.ifs (b := true) ?_ (fun _ => ?_) fun h => nomatch h)
      · exact ((TE.cmp (EV.var rfl) EV.int COP.eq_int).of (by simp [h0]))
      refine RUN.stop ?_
      refine EX.ret ?_
      have hnd : (kinds.map (·.1)).Nodup := by decide
      generalize hK : kinds = K at *
      refine @EV.dictget _ _ _ _ _ _ _ (.str [63]) _ _ k4 _ _ _ K ?_ ?_ ?_ hkq hnd ?_ ?_ ?_ ?_ ?_ ?_ ?_ ?_
      · subst hK
        exact EVK.cons EV.int (EV.str rfl) rfl (EVK.cons EV.int (EV.str rfl) rfl (EVK.cons EV.int (EV.str rfl) rfl (EVK.cons EV.int (EV.str rfl) rfl (EVK.cons EV.int (EV.str rfl) rfl (EVK.cons EV.int (EV.str rfl) rfl (EVK.cons EV.int (EV.str rfl) rfl EVK.nil))))))
      · exact ((EV.bin (EV.bin (EV.var rfl) EV.int (BOP.div_int (by decide) (by decide))) EV.int (BOP.mod_int (by decide))).of (congrArg D.int harg))
      · exact EV.str rfl
      · rfl
      · rfl
      · simp
      · exact (Nat.le_of_ble_eq_true rfl)
      · rfl
      · rfl
      · rfl
      · rfl
    rw [if_neg h0] at hq
    refine RUN.cons (EX.ifs (b := false) ((TE.cmp (EV.var rfl) EV.int COP.eq_int).of (by simp; (first | assumption | lia | omega))) (fun h => nomatch h) fun _ => RUN.nil) ?_
    have hr2 : x / 2 ^ (9 - pl) % 2 < 2 := Nat.mod_lt _ (by decide)
    have hright : Int.fmod (Int.fdiv (x : Int) ((2 ^ (9 - pl) : Nat) : Int)) 2 = ((x / 2 ^ (9 - pl) % 2 : Nat) : Int) := by
      rw [fdiv_nat, show (2 : Int) = ((2 : Nat) : Int) from rfl, fmod_nat]
    have hleft : Int.fmod (Int.fdiv (x : Int) ((2 ^ (12 - pl / 3) : Nat) : Int)) 2 = ((x / 2 ^ (12 - pl / 3) % 2 : Nat) : Int) := by
      rw [fdiv_nat, show (2 : Int) = ((2 : Nat) : Int) from rfl, fmod_nat]
    have e9 : (9 : Int) - (pl : Int) = ((9 - pl : Nat) : Int) := by (first | assumption | lia | omega)
    have e3 : Int.fdiv (pl : Int) 3 = ((pl / 3 : Nat) : Int) := by rw [show (3 : Int) = ((3 : Nat) : Int) from rfl, fdiv_nat]
    have e3' : Int.fmod (pl : Int) 3 = ((pl % 3 : Nat) : Int) := by rw [show (3 : Int) = ((3 : Nat) : Int) from rfl, fmod_nat]
    have e12 : (12 : Int) - ((pl / 3 : Nat) : Int) = ((12 - pl / 3 : Nat) : Int) := by (first | assumption | lia | omega)
    have hp9 : 9 - pl < 10 := by (first | assumption | lia | omega)
    have hp12 : 12 - pl / 3 < 13 := by (first | assumption | lia | omega)
    have hb9 : ((2 ^ (9 - pl) : Nat) : Int) ≠ 0 ∧ ((2 ^ (9 - pl) : Nat) : Int).natAbs.log2 < 9000 := by
      generalize 9 - pl = m at hp9
      refine ⟨by have := Nat.two_pow_pos m; (first | assumption | lia | omega), ?_⟩
      rw [Int.natAbs_natCast, Nat.log2_two_pow]; (first | assumption | lia | omega)
    have hb12 : ((2 ^ (12 - pl / 3) : Nat) : Int) ≠ 0 ∧ ((2 ^ (12 - pl / 3) : Nat) : Int).natAbs.log2 < 9000 := by
      generalize 12 - pl / 3 = m at hp12
      refine ⟨by have := Nat.two_pow_pos m; (first | assumption | lia | omega), ?_⟩
      rw [Int.natAbs_natCast, Nat.log2_two_pow]; (first | assumption | lia | omega)
    generalize hrt : x / 2 ^ (9 - pl) % 2 = rt at *
    generalize hlt : x / 2 ^ (12 - pl / 3) % 2 = lt at *
    have hm3 : pl % 3 < 3 := Nat.mod_lt _ (by decide)
    generalize hp3 : pl % 3 = p3 at *
    generalize hd3 : pl / 3 = d3 at *
    generalize hP9 : 9 - pl = n9 at *
    generalize hP12 : 12 - d3 = n12 at *
    refine RUN.cons (EX.assign (EV.of (EV.bin (EV.bin (EV.var rfl) (EV.of (EV.bin EV.int (EV.of (EV.bin EV.int (EV.var rfl) BOP.sub_int) (congrArg D.int e9)) (BOP.pow_int (by (first | assumption | lia | omega)) (by (first | assumption | lia | omega)) (by decide))) (congrArg D.int (pow_nat n9))) (BOP.div_int hb9.1 hb9.2)) EV.int (BOP.mod_int (by decide))) (congrArg D.int hright)) STO.local) ?_
    have hps : ((p3 : Int) == 0) = decide (p3 = 0) := by
      by_cases h : p3 = 0 <;> simp [h]
    have hls : ((lt : Int) == 1) = decide (lt = 1) := by
      by_cases h : lt = 1 <;> simp [h] <;> (first | assumption | lia | omega)
    by_cases hb : p3 = 0 ∧ lt = 1
    · rw [if_pos hb] at hq
      refine RUN.stop (EX.ifs (b := decide (p3 = 0) && decide (lt = 1)) ?_ (fun _ => ?_) fun h => by simp [hb.1, hb.2] at h)
      · refine TE.and2 (TE.of (TE.cmp (EV.of (EV.bin (EV.var rfl) EV.int (BOP.mod_int (by decide))) (congrArg D.int e3')) EV.int COP.eq_int) hps) fun _ => TE.of (TE.cmp (EV.of (EV.bin (EV.bin (EV.var rfl) (EV.of (EV.bin EV.int (EV.of (EV.bin EV.int (EV.of (EV.bin (EV.var rfl) EV.int (BOP.div_int (by decide) (by decide))) (congrArg D.int e3)) BOP.sub_int) (congrArg D.int e12)) (BOP.pow_int (by (first | assumption | lia | omega)) (by (first | assumption | lia | omega)) (by decide))) (congrArg D.int (pow_nat n12))) (BOP.div_int hb12.1 hb12.2)) EV.int (BOP.mod_int (by decide))) (congrArg D.int hleft)) EV.int COP.eq_int) hls
      refine RUN.stop ?_
      refine EX.ret ?_
      refine EV.item (dv := .str (if pl < 9 then [83, 115] else [84, 116])) (n := (rt : Int)) ?_ (EV.var rfl) (IOP.str ?_ (by (first | assumption | lia | omega)) (by (first | assumption | lia | omega)))
      · refine EV.ite (b := decide (pl < 9)) (TE.of (TE.cmp (EV.var rfl) EV.int COP.lt_int) (by by_cases h : pl < 9 <;> simp [h] <;> (first | assumption | lia | omega))) (fun h => ?_) fun h => ?_
        · rw [if_pos (by simpa using h)]; exact EV.str rfl
        · rw [if_neg (by simpa using h)]; exact EV.str rfl
      · subst hq
        match rt, hr2 with
        | 0, _ => split <;> rfl
        | 1, _ => split <;> rfl
    · rw [if_neg hb] at hq
      refine RUN.cons (EX.ifs (b := decide (p3 = 0) && decide (lt = 1)) ?_ (fun h => absurd (by simpa using h) hb) fun _ => RUN.nil) ?_
      · refine TE.and2 (TE.of (TE.cmp (EV.of (EV.bin (EV.var rfl) EV.int (BOP.mod_int (by decide))) (congrArg D.int e3')) EV.int COP.eq_int) hps) fun _ => TE.of (TE.cmp (EV.of (EV.bin (EV.bin (EV.var rfl) (EV.of (EV.bin EV.int (EV.of (EV.bin EV.int (EV.of (EV.bin (EV.var rfl) EV.int (BOP.div_int (by decide) (by decide))) (congrArg D.int e3)) BOP.sub_int) (congrArg D.int e12)) (BOP.pow_int (by (first | assumption | lia | omega)) (by (first | assumption | lia | omega)) (by decide))) (congrArg D.int (pow_nat n12))) (BOP.div_int hb12.1 hb12.2)) EV.int (BOP.mod_int (by decide))) (congrArg D.int hleft)) EV.int COP.eq_int) hls
      refine RUN.stop ?_
      refine EX.ret ?_
      refine EV.ite (b := decide (rt = 1)) (TE.of (TE.cmp (EV.var rfl) EV.int COP.eq_int) (by by_cases h : rt = 1 <;> simp [h] <;> (first | assumption | lia | omega))) (fun h => ?_) fun h => ?_
      · rw [if_pos (by simpa using h)] at hq
        refine EV.item (dv := .str [120, 114, 119]) (n := (p3 : Int)) (EV.str rfl) (EV.of (EV.bin (EV.var rfl) EV.int (BOP.mod_int (by decide))) (congrArg D.int e3')) (IOP.str ?_ (by (first | assumption | lia | omega)) (by (first | assumption | lia | omega)))
        subst hq
        match p3, hm3 with
        | 0, _ => rfl
        | 1, _ => rfl
        | 2, _ => rfl
      · rw [if_neg (by simpa using h)] at hq
        subst hq
        exact EV.str rfl
end
end Mine
end

/- Fn9 -/
section
open PySem PySem.W PySem.Calls PyProof.Rows
set_option maxRecDepth 100000
namespace Mine
section
variable {g : Gd} {c : Cx} {ρ ρ' ρ2 ρ3 : Vars} {θ θ' θ1 θ3 : Own} {e e1 e2 value slice test : Expr} {d d1 d2 dv : D} {pos p p1 p2 p3 pos2 pos3 np : Pos} {es : List Expr} {ds us : List D} {n : Int} {x y z it : Str} {o : Out} {st : Stmt} {ss body orelse : List Stmt} {b : Bool}
theorem eval_iter {s : Shared} {Q : Value → Shared → Prop} {E : Value → Shared → Prop} (hseq : EV g c ρ θ e (.lst ds)) (i : Inv g c ρ θ s) (hn : nsIn g.K mainGlobals "iter" = some none)
    (k : ∀ a ws s1, Keeps s s1 → a ∉ c.av → s1.heap.PlainList a ws.toArray → Reps c.av s1.heap ws ds → Q (.ref s1.heap.objs.size) { s1 with heap := s1.heap.push { cls := .type "list_iterator", data := .fields #[.ref a, .int 0 0] } })
    (hx : c.env.kindOf "iter" = some .globalImplicit)
    (he : starEach [e] c.env = (false, eval e c.env) :: starEach [] c.env) (hplain : (backTo pos (starEach [e] c.env)).any (·.1) = false) :
    wpAny (model g.prog g.w) c.A (eval (.Call (.Name "iter" np) [e] [] pos) c.env) Q E s := by
  refine wpAny_Call_NameR (eval_boot i hn (v := .builtin "iter") rfl ?_ hx rfl (by decide))
  refine callWith_builtin hplain ?_
  rw [he]
  refine evalArgs_plain ?_
  have := (EVS.cons hseq .nil he : EVS g c ρ θ pos [e] [.lst ds]) s (fun vs s' => wpAny (model g.prog g.w) c.A (PySem.call (.builtin "iter") ([] ++ vs) []) Q E s') E i fun vs s1 k1 r1 => by
    cases r1 using Reps.cons_cases with
    | cons r1 r2 =>
      (first | cases r2 using Rep.int_cases | cases r2 using Rep.str_cases | cases r2 using Reps.nil_cases | cases r2 using Rep.fn_cases | cases r2 using Rep.bool_cases | cases r2)
      cases r1 using Rep.lst_cases with
      | lst n1 hl q =>
        rename_i a ws
        refine call_function_entry (by decide +kernel) (by decide +kernel) kdk_entry_iter (kdk_args_iter _) ?_
        unfold Builtin.«iter»
        refine wpAny_bind (m := someArgs "iter" 1 2 _) (wpAny_of_eq (a := [Value.ref a]) (by first | rfl | kernel_rfl!) ?_)
        show wpAny _ _ (pyIter (.ref a) >>= _) _ _ _
        refine wpAny_bind (wpAny_pyIter_list hl.isList ?_)
        exact wpAny_pure ⟨_, rfl, k a ws s1 k1 n1 hl q⟩
  rw [he] at this
  exact this
theorem RUN.iter {target : Expr} {ρ1 : Addr → Vars} (hseq : EV g c ρ θ e (.lst ds)) (hn : nsIn g.K mainGlobals "iter" = some none) (hsto : ∀ wr d, STO g (c.ext wr) ρ θ it d)
    (hmid : ∀ I, EX g (c.ext [I]) ((it, .fn I) :: ρ) θ st (.next (ρ1 I) θ1)) (hρ : ∀ I, (ρ1 I).lookup it = some (.fn I)) (hw : ∀ I x d, ρ2.lookup x = some d → (ρ1 I).lookup x = some d)
    (hfor : FR g c ρ2 θ1 target body orelse ds (.next ρ3 θ3)) (hrest : RUN g c ρ3 θ3 ss o)
    (hx : c.env.kindOf "iter" = some .globalImplicit := by rfl) (hd : (it == ("__debug__" : Str)) = false := by rfl)
    (he : starEach [e] c.env = (false, eval e c.env) :: starEach [] c.env := by rfl) (hplain : (backTo pos (starEach [e] c.env)).any (·.1) = false := by rfl)
    (hsw : swapsWith (.Call (.Name "iter" np) [e] [] pos) (some (.Name it p)) pos2.line c.env = pure false := by rfl) (hf : ∀ x, foldedSetIterable (.Name it p3) c.env x = pure x := by intro _; rfl) :
    RUN g c ρ θ (.Assign [.Name it p] (.Call (.Name "iter" np) [e] [] pos) pos2 :: st :: .For target (.Name it p3) body orelse pos3 :: ss) o := by
  intro s Q E i k
  refine wpAny_execs_cons (wpAny_Assign_Name (eval_iter hseq i hn (fun a ws s1 k1 n1 hl q => ?_) hx he hplain) hsw)
  have hlt : a < s1.heap.objs.size := by obtain ⟨m, e⟩ := hl; exact Heap.lt_size e
  generalize hI : s1.heap.objs.size = I at *
  have hne : a ≠ I := Nat.ne_of_lt hlt
  have hIn : s1.heap.get? I = none := hI ▸ size_none _
  have hgI : (s1.heap.push { cls := .type "list_iterator", data := .fields #[.ref a, .int 0 0] }).get? I = some { cls := .type "list_iterator", data := .fields #[.ref a, .int 0 0] } := hI ▸ Heap.get?_push_size _ rfl
  generalize hs2 : ({ s1 with heap := s1.heap.push { cls := .type "list_iterator", data := .fields #[.ref a, .int 0 0] } } : Shared) = s2 at *
  have k2 : Keeps s1 s2 := hs2 ▸ keeps_push' _ _
  have hgI2 : s2.heap.get? I = some { cls := .type "list_iterator", data := .fields #[.ref a, .int 0 0] } := hs2 ▸ hgI
  have i1 := i.keeps k1
  have hwr : ∀ b ∈ [I], s1.heap.get? b = none ∧ ∃ o, s2.heap.get? b = some o := fun b hb => by rw [List.mem_singleton.mp hb]; exact ⟨hIn, _, hgI2⟩
  have i2 : Inv g (c.ext [I]) ρ θ s2 := i1.toExt k2 hwr
  have hIav : I ∉ c.av := fun q => by
    obtain ⟨_, o, e⟩ := i1.avok I q
    rw [hIn] at e; cases e
  have hImu : I ∉ c.mu := fun q => hIav (List.mem_append_left _ q)
  have hamu : a ∉ c.mu := fun q => n1 (List.mem_append_left _ q)
  refine hsto [I] (.fn I) s2 _ _ E i2 (.fn I) fun s3 k3 i3 => ?_
  refine wpAny_execs_cons (hmid I s3 _ E i3 fun f s4 k4 r4 => ?_)
  obtain ⟨rfl, i4⟩ := r4
  refine wpAny_execs_cons (wpAny_For ?_ hf)
  have hev : EV g (c.ext [I]) (ρ1 I) θ1 (.Name it p3) (.fn I) := EV.var (hρ I) hd
  refine hev s4 _ E i4 fun v s5 k5 r5 => ?_
  (first | cases r5 using Rep.int_cases | cases r5 using Rep.str_cases | cases r5 using Reps.nil_cases | cases r5 using Rep.fn_cases | cases r5 using Rep.bool_cases | cases r5)
  have k35 : KeepsBut c.mu s2 s5 := keepsBut_trans k3 (keepsBut_trans k4 (keepsBut_of k5))
  have hk5 : ∀ b o, b ∉ c.mu → s2.heap.get? b = some o → s5.heap.get? b = some o := by
    obtain ⟨h5, t5, rfl, hh⟩ := k35
    exact hh
  have hit5 : s5.heap.IsListIter I a 0 := ⟨_, hk5 _ _ hImu hgI2, rfl, rfl⟩
  have hl5 : s5.heap.PlainList a ws.toArray := by
    obtain ⟨m, e⟩ := hl
    exact ⟨m, hk5 _ _ hamu (Keeps.h k2 _ _ e)⟩
  refine wpAny_pyIter_listiter hit5 ?_
  have W := Walks.list (prog := g.prog) (w := g.w) i.ok.a.handled I a hne ws.toArray
  have hsz : ws.toArray.size = ds.length := by simp [q.length]
  rw [hsz] at W
  have i5 := i4.keeps k5
  have q5 : Reps (c.ext [I]).av s5.heap ws ds := by
    refine Reps.move (av := c.av) (h := s1.heap) (fun b o nb e hb => ?_) (fun b o nb e => hk5 _ _ (fun w => nb (List.mem_append_left _ w)) (Keeps.h k2 _ _ e)) q
    rcases List.mem_append.mp hb with h | h
    · exact nb (List.mem_append_left _ h)
    · rcases List.mem_append.mp h with h | h
      · rw [List.mem_singleton.mp h, hIn] at e; cases e
      · exact nb (List.mem_append_right _ h)
  refine hfor s5 _ I _ [I] ds.length _ _ 0 ⟨W, by simp, fun j v hp => q5.get' (by simpa using hp), ⟨hit5, hl5.isList⟩, fun b hb => ?_, fun b hb => ?_, fun j h st b hb => ?_, i.ok⟩ (i5.weaken (hw I)) fun f s6 k6 r6 => ?_
  · rw [List.mem_singleton.mp hb]
    refine ⟨hImu, fun q => hIav (List.mem_append_right _ q), ?_⟩
    cases e : g.h₀.get? I with
    | none => rfl
    | some o => have := i1.ground I o e; rw [hIn] at this; cases this
  · rcases List.mem_cons.mp hb with rfl | hb
    · exact hImu
    · rw [List.mem_singleton.mp hb]; exact hamu
  · rw [List.mem_singleton.mp hb]
    obtain ⟨⟨o, ho, _⟩, _⟩ := st
    exact ⟨o, ho⟩
  · obtain ⟨rfl, i6⟩ := r6
    refine hrest s6 Q E i6 fun f s7 k7 r7 => k f s7 ?_ r7
    have k26 : KeepsBut ([I] ++ c.mu) s2 s6 := by
      refine keepsBut_trans ?_ k6
      obtain ⟨h5, t5, rfl, hh⟩ := k35
      exact ⟨h5, t5, rfl, fun b o nb e => hh b o (fun w => nb (List.mem_append_right _ w)) e⟩
    refine keepsBut_trans (keepsBut_fresh (keeps_trans k1 k2) k26 fun b hb => ?_) k7
    rw [List.mem_singleton.mp hb]
    exact none_of_keeps k1 hIn
theorem COP.is_tup_fn {f : Addr} {ob : Obj} (ho : g.K.lookup f = some ob) (hc : ob.cls ≠ .type "tuple") : COP g c .Is (.tup us) (.fn f) false := by
  intro ρ θ s v1 v2 Q E i r1 r2 k
  (first | cases r2 using Rep.int_cases | cases r2 using Rep.str_cases | cases r2 using Reps.nil_cases | cases r2 using Rep.fn_cases | cases r2 using Rep.bool_cases | cases r2)
  cases r1 using Rep.tup_cases with
  | tup n1 hl q =>
    rename_i a ws
    obtain ⟨m, e⟩ := hl
    have ef : s.heap.get? f = some ob := (i.gok.X.keeps i.ground) _ _ ho
    have hne : a ≠ f := by
      rintro rfl
      rw [e] at ef
      cases ef
      exact hc rfl
    show wpAny _ _ (do return .bool (← isSame (.ref a) (.ref f))) Q E s
    refine wpAny_bind ?_
    show wpAny _ _ (if (a == f) = true then pure true else _) _ E s
    rw [if_neg (by simpa using hne)]
    refine wpAny_bind (wpAny_load e (wpAny_bind (wpAny_load ef ?_)))
    split
    · rename_i h1 _ _; exact absurd h1 hc
    · exact wpAny_pure (wpAny_pure (k _ (keeps_refl s)))
end
section
variable {prog : Program} {w : World} {h₀ : Heap}
set_option maxHeartbeats 8000000 in
theorem fn_reduce (chs : List Nat) (s0 : List (List Nat) × List Nat) (hok : SlsOk s0 chs) : FN (G0 prog w h₀) 4 37 [.fn 89, natsD chs, slidD s0] (slidD (chs.foldl slide s0)) := by
  refine FN.of (ps := ["function", "sequence", "initial"]) (k := 3) (ho := rfl) (hcd := rfl) (hbind := ?_) (hkind := rfl) (hnd := by decide) (hlen := rfl) (hcn := by decide) (hco := rfl) (hgen := rfl) (hk := rfl) (hbody := ?_)
  · intro s vs hX hl
    obtain ⟨a, b, c, rfl⟩ := len3 hl
    exact BindsTo.of_defaults rfl (hX _ _ rfl) rfl rfl rfl
  · intro A L ov
    let R : (List (List Nat) × List Nat) → Vars := fun s => [("value", slidD s), ("function", .fn 89)]
    refine RUN.iter (ρ1 := fun I => ("value", slidD s0) :: ("it", .fn I) :: List.zip ["function", "sequence", "initial"] [.fn 89, natsD chs, slidD s0]) (ρ2 := R s0) (θ1 := none) (θ3 := none) (ρ3 := R (chs.foldl slide s0)) (EV.var rfl) rfl (fun _ _ => STO.local) (fun I => ?_) (fun I => rfl) (fun I => ?_) ?_ ?_
    · refine EX.ifs (b := false) ?_ (fun h => nomatch h) fun _ => ?_
      · exact TE.cmp (EV.var rfl) (EV.fname rfl) (COP.is_tup_fn rfl (by decide))
      · exact RUN.cons (EX.assign (EV.var rfl) STO.local) RUN.nil
    · exact subv rfl (subv rfl subv_nil)
    · have e : (chs.map Int.ofNat).map D.int = chs.map fun (i : Nat) => D.int (i : Int) := by simp
      rw [e]
      refine FR.fold (fun (i : Nat) => D.int (i : Int)) R (fun _ => none) slide SlsOk (fun _ _ _ _ wr => STO.local) (fun a b bs h => h.2) (fun a b bs h wr => ?_) chs s0 hok
      refine RUN.out (RUN.cons (EX.assign (EV.callv (fn_slide a.1 a.2 b h.1.1 h.1.2.1 h.1.2.2) rfl rfl (Nat.le_of_ble_eq_true rfl) (EVS.cons (EV.var rfl) (EVS.cons (EV.var rfl) .nil))) STO.local) RUN.nil) ?_
      exact subv rfl (subv rfl subv_nil)
    · exact RUN.stop (EX.ret (EV.var rfl))
end
end Mine
end

/- Fn10 -/
section
open PySem PySem.W PySem.Calls PyProof.Rows
set_option maxRecDepth 100000
namespace Mine
section
variable {g : Gd} {c : Cx} {ρ ρ' ρ2 ρ3 : Vars} {θ θ' θ1 θ3 : Own} {e e1 e2 value slice test : Expr} {d d1 d2 dv : D} {pos p p1 p2 p3 pos2 pos3 np bp : Pos} {es : List Expr} {ds us : List D} {n : Int} {x y z it : Str} {o : Out} {st : Stmt} {ss body orelse : List Stmt} {b : Bool}
theorem reps_intsAre {av : List Addr} {h : Heap} : ∀ {ws : List Value} {ns : List Int}, IntsAre ws ns → Reps av h ws (ns.map D.int)
  | _, _, .nil => .nil
  | _, _, .cons n t q => .cons (.int n t) (reps_intsAre q)
theorem isList_at {h h' : Heap} {a : Addr} {ws : Array Value} (hl : h.IsList a ws) (hk : ∀ b o, h.get? b = some o → h'.get? b = some o) : h'.IsList a ws := by
  obtain ⟨o, ho, r⟩ := hl
  exact ⟨o, hk _ _ ho, r⟩
theorem slice_go {hi : Option Expr} {u : Option Int} {s s1 : Shared} {a : Addr} {ws : List Value} {Q : Value → Shared → Prop} {E : Value → Shared → Prop} (hh : EVP g c ρ θ hi u) (hz : us.length ≤ 1000000) (i : Inv g c ρ θ s) (k1 : Keeps s s1)
    (hl : s1.heap.IsList a ws.toArray) (q : Reps c.av s1.heap ws us) (k : ∀ v s', Keeps s s' → Rep c.av s'.heap v (.lst (pySlice us none u)) → Q v s') :
    wpAny (model g.prog g.w) c.A (eval (.Slice none hi Option.none p) c.env) (fun j s2 => wpAny (model g.prog g.w) c.A (subscriptTail value (.Slice none hi Option.none p) (.ref a) j) Q E s2) E s1 := by
  refine wpAny_Slice (EVP.none s1 _ E (i.keeps k1) fun vl s2 k2 p2 => hh s2 _ E ((i.keeps k1).keeps k2) fun vu s3 k3 p3 => wpAny_evalPart_none ?_)
  have i3 := ((i.keeps k1).keeps k2).keeps k3
  have kk := keeps_trans k1 (keeps_trans k2 k3)
  have q3 := q.keep (Keeps.h (keeps_trans k2 k3))
  have hl4 : (s3.heap.push { cls := .type "slice", data := .fields #[vl, vu, Value.none] }).IsList a ws.toArray := isList_at (isList_at hl (Keeps.h (keeps_trans k2 k3))) fun b o e => Heap.get?_push_of_some _ e
  refine tail_any (T := "list") (Heap.IsList.typeIs (s := { s3 with heap := s3.heap.push { cls := .type "slice", data := .fields #[vl, vu, Value.none] } }) hl4) F.slot_list_getitem.lookup ?_ rfl
  refine wpAny_getItem_list_slice (st := Option.none) (s := { s3 with heap := s3.heap.push { cls := .type "slice", data := .fields #[vl, vu, Value.none] } }) hl4 (Heap.IsSliceOf.new _ _ _ _) p2 p3 .none (by simp) ?_ ?_
  · rw [pick_eq]
    refine k _ _ (keeps_trans kk (keeps_trans (keeps_push' _ _) (keeps_push' _ _))) (.lst ((i3.keeps (keeps_push' _ _)).fresh) ⟨0, Heap.get?_push_size _ rfl⟩ ?_)
    have z : Reps c.av s3.heap (pySlice ws none u) (pySlice us none u) := by
      have := Reps.take ((u.map (clip us.length)).getD us.length - ((none : Option Int).map (clip us.length)).getD 0) (Reps.drop (((none : Option Int).map (clip us.length)).getD 0) q3)
      simpa [pySlice, q.length] using this
    exact z.keep (Keeps.h (keeps_trans (keeps_push' _ _) (keeps_push' { s3 with heap := s3.heap.push { cls := .type "slice", data := .fields #[vl, vu, Value.none] } } _)))
  · simp [q.length]; unfold sizeLine; (first | assumption | lia | omega)
theorem EV.script {hi : Option Expr} {u : Option Int} {a : Addr} {ws : List Value} {ns ms : List Int} (hρ : ρ.lookup x = some (.fn a)) (hL : g.h₀.IsList a ws.toArray) (hI : IntsAre ws ns) (hlen : ns.length ≤ 63)
    (hdef : EV g c ρ θ e2 (.lst (ms.map D.int))) (hm : ms.length ≤ 63) (hh : EVP g c ρ θ hi u) (hd : (x == ("__debug__" : Str)) = false := by rfl) :
    EV g c ρ θ (.Subscript (.BoolOp .Or [.Name x np, e2] bp) (.Slice none hi Option.none p) pos) (.lst (pySlice ((if ns = [] then ms else ns).map D.int) none u)) := by
  intro s Q E i k
  have hv : EV g c ρ θ (.Name x np) (.fn a) := EV.var hρ hd
  refine Subscript_ (wpAny_Or2 (hv s _ E i fun v s1 k1 r1 => ?_))
  (first | cases r1 using Rep.int_cases | cases r1 using Rep.str_cases | cases r1 using Reps.nil_cases | cases r1 using Rep.fn_cases | cases r1 using Rep.bool_cases | cases r1)
  have hL1 := isList_at hL ((i.keeps k1).ground)
  have hr : Reps c.av s1.heap ws (ns.map D.int) := reps_intsAre hI
  have hwl : ws.length = ns.length := by simpa using hr.length
  refine wpAny_truthy_list hL1 (by simp; (first | assumption | lia | omega)) ?_
  have kt := keeps_toks s1 (s1.toks + 1 + 1)
  by_cases hn : ns = []
  · have hw0 : ws = [] := List.length_eq_zero_iff.mp (by rw [hwl, hn]; rfl)
    subst hw0
    show wpAny _ _ _ _ _ _
    refine hdef _ _ E ((i.keeps k1).keeps kt) fun v s2 k2 r2 => ?_
    cases r2 using Rep.lst_cases with
    | lst n1 hl q =>
      rw [if_pos hn] at k
      exact slice_go hh (by simp; (first | assumption | lia | omega)) i (keeps_trans k1 (keeps_trans kt k2)) hl.isList q k
  · have hw0 : ws ≠ [] := fun q => hn (List.length_eq_zero_iff.mp (by rw [← hwl, q]; rfl))
    have ht : (!ws.toArray.isEmpty) = true := by cases ws with | nil => exact absurd rfl hw0 | cons _ _ => rfl
    rw [ht]
    rw [if_neg hn] at k
    show wpAny _ _ _ _ _ _
    exact slice_go hh (by simp; (first | assumption | lia | omega)) i (keeps_trans k1 kt) hL1 (hr.keep (Keeps.h kt)) k
end
end Mine
end

/- Fn11 -/
section
open PySem PySem.W PySem.Calls PyProof.Rows
set_option maxRecDepth 100000
namespace Mine
theorem look2 {α : Type} {x x2 y : Str} {d d2 e : α} (h : ([(x, d), (x2, d2)] : List (Str × α)).lookup y = some e) : (y = x ∧ e = d) ∨ (y = x2 ∧ e = d2) := by
  rw [List.lookup_cons] at h
  cases hx : y == x with
  | true => rw [hx] at h; cases h; exact .inl ⟨eq_of_beq hx, rfl⟩
  | false => rw [hx] at h; exact .inr (look1' h)
noncomputable def efN : D → D
  | .int x => .int (x.fmod (2 ^ 40))
  | d => d
noncomputable def efS : D → D
  | .int x => .str [signP x.toNat]
  | d => d
noncomputable def efC (xs : List Nat) : D → D
  | .int t => .int (xs.getD (t.toNat % xs.length) 0 / 2 ^ 20 / 8 ^ (t.toNat / xs.length) : Nat)
  | d => d
noncomputable def efW (n : Nat) (w : List Nat) : D → D
  | .int m => .str (List.replicate (n - 1 - m.toNat) 32 ++ [w.getD (n - 1 - m.toNat) 0])
  | d => d
noncomputable def efL : D → D
  | .str r => .int (r.length : Nat)
  | d => d
noncomputable def efK (gr : List Nat) : D → D
  | .int i => .int (gr.count i.toNat : Nat)
  | d => d
noncomputable def embW : List Nat × Bool → D
  | (V, true) => .str V
  | (V, false) => wordD V
theorem iop_word {g : Gd} {c : Cx} (b : List Nat × Bool) (n j : Nat) (hn : b.1.length = n) (h7 : n ≤ 7) (hj : j < n) : IOP g c (embW b) (j : Int) (.str [b.1.getD j 0]) := by
  obtain ⟨V, t⟩ := b
  dsimp only at hn
  have hV : V[j]? = some (V.getD j 0) := by rw [List.getD_eq_getElem?_getD, List.getElem?_eq_getElem (by (first | assumption | lia | omega))]; rfl
  cases t with
  | true => exact IOP.str (by rw [pyGet_nat]; exact hV) (by (first | assumption | lia | omega)) (by (first | assumption | lia | omega))
  | false => exact IOP.lst (by rw [pyGet_map (fun q => D.str [q]) V j _ hV]) (by (first | assumption | lia | omega)) (by (first | assumption | lia | omega))
theorem filt {ds : List D} : ds.filter (fun _ => true) = ds := List.filter_eq_self.mpr (by simp)
section
variable {prog : Program} {w : World} {h₀ : Heap}
set_option maxHeartbeats 8000000 in
theorem fn_law (a : Addr) (ws : List Value) (ns : List Int) (hL : h₀.IsList a ws.toArray) (hI : IntsAre ws ns) (hlen : ns.length ≤ 63) (xs y : List Nat) (hxs : xs = numsP ns) (ok : LawOk xs y) : FN (G0 prog w h₀) 5 118 [.fn a] (.bool true) := by
  refine FN.of (ps := ["script"]) (k := 4) (ho := rfl) (hcd := rfl) (hbind := ?_) (hkind := rfl) (hnd := by decide) (hlen := rfl) (hcn := by decide) (hco := rfl) (hgen := rfl) (hk := rfl) (hbody := ?_)
  · intro s vs _ hl
    obtain ⟨a, rfl⟩ := len1 hl
    exact BindsTo.of_eq rfl
  · intro A L ov
    have hn7 : xs.length ≤ 7 := by rw [hxs]; simp [numsP]; (first | assumption | lia | omega)
    have hn0 : 0 < xs.length := by
      rw [hxs]; simp only [numsP, List.length_map, List.length_take]
      split
      · decide
      · rename_i h; have := List.length_pos_iff.mpr h; (first | assumption | lia | omega)
    have hN : ((pySlice ((if ns = [] then [1179776, 65792, 2295872, 1114368, 394240] else ns).map D.int) none (some 7)).filter fun _ => true).map efN = (xs.map Int.ofNat).map D.int := by
      rw [filt, show (some (7 : Int)) = some ((7 : Nat) : Int) from rfl, pySlice_upto, hxs, numsP, ← List.map_take]
      generalize (if ns = [] then [1179776, 65792, 2295872, 1114368, 394240] else ns).take 7 = zs
      rw [List.map_map, List.map_map, List.map_map]
      refine List.map_congr_left fun z _ => ?_
      show D.int _ = D.int _
      congr 1
      have : 0 ≤ z.fmod (2 ^ 40) := by rw [Int.fmod_eq_emod_of_nonneg _ (by decide)]; exact Int.emod_nonneg _ (by decide)
      simp only [Int.ofNat_eq_natCast]
      (first | assumption | lia | omega)
    refine RUN.cons (ρ' := [("numbers", natsD xs)]) (θ' := none) (EX.out (EX.assign (EV.of (EV.comp (ρ' := []) (cl := []) (tf := fun _ => true) (ef := efN) (SRC.lst (EV.script (ms := [1179776, 65792, 2295872, 1114368, 394240]) rfl hL hI hlen (EV.list (EVS.cons EV.int (EVS.cons EV.int (EVS.cons EV.int (EVS.cons EV.int (EVS.cons EV.int .nil)))))) (by decide) (.some EV.int))) ?_ ?_ ?_) (congrArg D.lst hN)) (STO.cell rfl ?_)) (subv rfl subv_nil)) ?_
    · exact ⟨rfl, by decide, rfl, by decide, rfl, (fun y a h => nomatch h), (fun y d h => nomatch h)⟩
    · refine ⟨fun d hd => ?_, fun C d hd => .inl ⟨rfl, rfl⟩, fun C d hd _ => ?_⟩
      · rw [show (some (7 : Int)) = some ((7 : Nat) : Int) from rfl, pySlice_upto] at hd
        obtain ⟨z, _, rfl⟩ := List.mem_map.mp (List.mem_of_mem_take hd); rfl
      · rw [show (some (7 : Int)) = some ((7 : Nat) : Int) from rfl, pySlice_upto] at hd
        obtain ⟨z, _, rfl⟩ := List.mem_map.mp (List.mem_of_mem_take hd)
        exact ⟨rfl, EV.bin (EV.var rfl) (EV.bin EV.int EV.int (BOP.pow_int (by decide) (by decide) (by decide))) (BOP.mod_int (by decide))⟩
    · rw [show (some (7 : Int)) = some ((7 : Nat) : Int) from rfl, pySlice_upto]; simp; (first | assumption | lia | omega)
    · exact (List.Mem.tail _ (List.Mem.tail _ (List.Mem.tail _ (List.Mem.tail _ (List.Mem.head _)))))
    clear hN
    refine RUN.cons (ρ' := [("size", .int (xs.length : Nat)), ("numbers", natsD xs)]) (θ' := none) (EX.out (EX.assign ((EV.bcall (FOP.len_lst (by simp; (first | assumption | lia | omega))) rfl (EVS.cons (EV.var rfl) .nil)).of (by simp)) (STO.cell rfl (List.Mem.tail _ (List.Mem.tail _ (List.Mem.tail _ (List.Mem.head _)))))) (subv rfl (subv rfl subv_nil))) ?_
    generalize hW : xs.map signP = W at *
    have hWl : W.length = xs.length := by rw [← hW]; simp
    have hG : ((((xs.map Int.ofNat).map D.int).filter fun _ => true).map efS) = W.map fun q => D.str [q] := by
      rw [filt, ← hW]; simp [efS]
    generalize hgr : growthP W = gr at *
    refine RUN.cons (ρ' := [("growth", natsD gr), ("size", .int (xs.length : Nat)), ("numbers", natsD xs)]) (θ' := none) (EX.out (EX.assign (EV.of (EV.call (fn_growth W (by (first | assumption | lia | omega))) rfl rfl (Nat.le_of_ble_eq_true rfl) (EVS.cons (EV.of (EV.comp (ρ' := []) (cl := []) (tf := fun _ => true) (ef := efS) (SRC.lst (EV.var rfl)) ?_ ?_ ?_) (congrArg D.lst hG)) .nil)) (congrArg natsD hgr)) (STO.cell rfl ?_)) (subv rfl (subv rfl (subv rfl subv_nil)))) ?_
    · exact ⟨rfl, by decide, rfl, by decide, rfl, (fun y a h => nomatch h), (fun y d h => nomatch h)⟩
    · refine ⟨fun d hd => ?_, fun C d hd => .inl ⟨rfl, rfl⟩, fun C d hd _ => ?_⟩
      · obtain ⟨z, _, rfl⟩ := List.mem_map.mp hd; rfl
      · obtain ⟨z, hz, rfl⟩ := List.mem_map.mp hd
        obtain ⟨x, _, rfl⟩ := List.mem_map.mp hz
        exact ⟨rfl, EV.of (EV.call (fn_sign x) rfl rfl (Nat.le_of_ble_eq_true rfl) (EVS.cons (EV.var rfl) .nil)) rfl⟩
    · simp; (first | assumption | lia | omega)
    · exact (List.Mem.tail _ (List.Mem.tail _ (List.Mem.head _)))
    clear hG
    have hC : ((upto ((xs.length * (xs.length - 1) / 2 : Nat) : Int)).filter fun _ => true).map (efC xs) = ((chsP xs).map Int.ofNat).map D.int := by
      rw [filt]; unfold upto chsP
      rw [Int.toNat_natCast, List.map_map, List.map_map, List.map_map]
      exact List.map_congr_left fun t _ => rfl
    have hsz : Int.fdiv ((xs.length : Int) * ((xs.length : Int) - 1)) 2 = ((xs.length * (xs.length - 1) / 2 : Nat) : Int) := by
      rw [show (xs.length : Int) - 1 = ((xs.length - 1 : Nat) : Int) by (first | assumption | lia | omega), ← Int.natCast_mul, show (2 : Int) = ((2 : Nat) : Int) from rfl, fdiv_nat]
    have hsz2 : xs.length * (xs.length - 1) / 2 ≤ 21 := by
      have : xs.length * (xs.length - 1) ≤ 7 * 6 := Nat.mul_le_mul hn7 (by (first | assumption | lia | omega))
      (first | assumption | lia | omega)
    generalize hT : xs.length * (xs.length - 1) / 2 = T at hC hsz hsz2
    refine RUN.cons (ρ' := [("choices", natsD (chsP xs)), ("growth", natsD gr), ("size", .int (xs.length : Nat)), ("numbers", natsD xs)]) (θ' := none)
      (EX.out (EX.assignComp (ρ' := [("numbers", natsD xs), ("size", .int (xs.length : Nat))]) (cl := [("size", L + 2), ("numbers", L + 1)]) (tf := fun _ => true) (ef := efC xs) (SRC.range1 (n := (T : Int)) (EV.of (EV.bin (EV.bin (EV.var rfl) (EV.bin (EV.var rfl) EV.int BOP.sub_int) (BOP.mul_int (by simp; (first | assumption | lia | omega)))) EV.int (BOP.div_int (by decide) (by decide))) (congrArg D.int hsz)) rfl (by (first | assumption | lia | omega)) (by (first | assumption | lia | omega))) ?_ ?_ ?_) (subv (lookup_eq rfl (congrArg D.lst hC)) (subv rfl (subv rfl (subv rfl subv_nil))))) ?_
    · refine ⟨rfl, by decide, rfl, by decide, rfl, fun y a h => ?_, fun y d h => ?_⟩
      · rcases look2 h with ⟨rfl, rfl⟩ | ⟨rfl, rfl⟩ <;> rfl
      · rcases look2 h with ⟨rfl, rfl⟩ | ⟨rfl, rfl⟩ <;> exact ⟨rfl, rfl, rfl, rfl, rfl⟩
    · refine ⟨fun d hd => ?_, fun C d hd => .inl ⟨rfl, rfl⟩, fun C d hd _ => ?_⟩
      · obtain ⟨j, _, rfl⟩ := List.mem_map.mp hd; rfl
      · obtain ⟨j, hj, rfl⟩ := List.mem_map.mp hd
        have hj : j < T := by simpa using hj
        have hjm : j % xs.length < xs.length := Nat.mod_lt _ hn0
        have e1 : Int.fmod (j : Int) (xs.length : Int) = ((j % xs.length : Nat) : Int) := fmod_nat _ _
        have e2 : Int.fdiv (j : Int) (xs.length : Int) = ((j / xs.length : Nat) : Int) := fdiv_nat _ _
        have hj3 : j / xs.length ≤ 21 := Nat.le_trans (Nat.div_le_self _ _) (by (first | assumption | lia | omega))
        have e8 : (8 : Int) ^ ((j / xs.length : Nat) : Int).toNat = ((8 ^ (j / xs.length) : Nat) : Int) := by rw [Int.toNat_natCast]; push_cast; rfl
        have e20 : (2 : Int) ^ (20 : Int).toNat = ((2 ^ 20 : Nat) : Int) := by decide
        have hl8 : ((8 ^ (j / xs.length) : Nat) : Int) ≠ 0 ∧ ((8 ^ (j / xs.length) : Nat) : Int).natAbs.log2 < 9000 := by
          generalize j / xs.length = m at hj3
          have : (8 : Nat) ^ m = 2 ^ (3 * m) := by rw [Nat.pow_mul]
          rw [this]
          refine ⟨by have := Nat.two_pow_pos (3 * m); (first | assumption | lia | omega), ?_⟩
          rw [Int.natAbs_natCast, Nat.log2_two_pow]; (first | assumption | lia | omega)
        have ev : Int.fdiv (Int.fdiv ((xs.getD (j % xs.length) 0 : Nat) : Int) ((2 ^ 20 : Nat) : Int)) ((8 ^ (j / xs.length) : Nat) : Int) = ((xs.getD (j % xs.length) 0 / 2 ^ 20 / 8 ^ (j / xs.length) : Nat) : Int) := by rw [fdiv_nat, fdiv_nat]
        have eo : efC xs (D.int (j : Nat)) = D.int ((xs.getD (j % xs.length) 0 / 2 ^ 20 / 8 ^ (j / xs.length) : Nat) : Int) := rfl
        rw [eo]
        have hnz : (xs.length : Int) ≠ 0 := by (first | assumption | lia | omega)
        have hnl : (xs.length : Int).natAbs.log2 < 9000 := by
          rw [Int.natAbs_natCast]
          exact Nat.lt_of_le_of_lt (Nat.log2_le_self _) (by (first | assumption | lia | omega))
        generalize j / xs.length = m at *
        generalize j % xs.length = r at *
        refine ⟨rfl, EV.of (EV.bin (EV.bin (EV.item (EV.var rfl) (EV.of (EV.bin (EV.var rfl) (EV.var rfl) (BOP.mod_int hnz)) (congrArg D.int e1)) (IOP.lst (pyGet_ints _ _ hjm) (by (first | assumption | lia | omega)) (by (first | assumption | lia | omega)))) (EV.of (EV.bin EV.int EV.int (BOP.pow_int (by decide) (by decide) (by decide))) (congrArg D.int e20)) (BOP.div_int (by decide) (by decide))) (EV.of (EV.bin EV.int (EV.of (EV.bin (EV.var rfl) (EV.var rfl) (BOP.div_int hnz hnl)) (congrArg D.int e2)) (BOP.pow_int (by (first | assumption | lia | omega)) (by (first | assumption | lia | omega)) (by decide))) (congrArg D.int e8)) (BOP.div_int hl8.1 hl8.2)) (congrArg D.int ev)⟩
    · simp [upto]; (first | assumption | lia | omega)
    clear hC
    refine RUN.own rfl fun ba hba => ?_
    have hF : ((((xs.map Int.ofNat).map D.int).filter fun _ => true).map efS) = W.map fun q => D.str [q] := by
      rw [filt, ← hW]; simp [efS]
    have part : partnerP gr = some y := by rw [← hgr, ← hW]; exact ok.part
    have glen : gr.length = xs.length := by rw [← hgr, ← hW]; exact ok.glen
    have hV : ∀ V : List Nat, V.length = xs.length → ((upto (xs.length : Int)).filter fun _ => true).map (efW xs.length V) = (initRows V).map D.str := by
      intro V hV
      rw [filt]; unfold upto initRows
      rw [Int.toNat_natCast, List.map_map, List.map_map, hV]
      exact List.map_congr_left fun t _ => rfl
    let R : Vars := [("choices", natsD (chsP xs)), ("growth", natsD gr), ("size", .int (xs.length : Nat)), ("numbers", natsD xs)]
    let TT : List (List Nat) → Own := fun done => some ("begins", ba, done.map fun V => slidD (initRows V, []))
    let okk : List (List Nat) → List (List Nat × Bool) → Prop := fun done bs => done.length + bs.length ≤ 2 ∧ ∀ b ∈ bs, b.1.length = xs.length
    refine RUN.cons (ρ' := R) (θ' := some ("begins", ba, [slidD (initRows W, []), slidD (initRows y, [])])) (EX.for (SRC.tup (EV.tuple (EVS.cons (EV.of (EV.comp (ρ' := []) (cl := []) (tf := fun _ => true) (ef := efS) (SRC.lst (EV.var rfl)) ?_ ?_ ?_) (congrArg D.lst hF)) (EVS.cons (EV.call (fn_partner gr y (by (first | assumption | lia | omega)) part) rfl rfl (Nat.le_of_ble_eq_true rfl) (EVS.cons (EV.var rfl) .nil)) .nil)))) ?_) ?_
    · exact ⟨rfl, by decide, rfl, by decide, rfl, (fun y a h => nomatch h), (fun y d h => nomatch h)⟩
    · refine ⟨fun d hd => ?_, fun C d hd => .inl ⟨rfl, rfl⟩, fun C d hd _ => ?_⟩
      · obtain ⟨z, _, rfl⟩ := List.mem_map.mp hd; rfl
      · obtain ⟨z, hz, rfl⟩ := List.mem_map.mp hd
        obtain ⟨x, hx, rfl⟩ := List.mem_map.mp hz
        have hfm := ok.fm x hx
        have hpl := place_lt x
        have eo : efS (D.int (Int.ofNat x)) = D.str [signP x] := rfl
        rw [eo]
        generalize hq : signP x = q at *
        have hP := fn_place (prog := prog) (w := w) (h₀ := h₀) x
        have hM := fn_filemode (prog := prog) (w := w) (h₀ := h₀) x
        generalize fmAll x = fx at *
        generalize place x = px at *
        refine ⟨rfl, EV.item (EV.call hM rfl rfl (Nat.le_of_ble_eq_true rfl) (EVS.cons (EV.var rfl) .nil)) (EV.call hP rfl rfl (Nat.le_of_ble_eq_true rfl) (EVS.cons (EV.var rfl) .nil)) (IOP.str (by rw [pyGet_nat]; exact hfm) (by (first | assumption | lia | omega)) (by (first | assumption | lia | omega)))⟩
    · simp; (first | assumption | lia | omega)
    · refine FR.fold (β := List Nat × Bool) embW (fun _ => R) TT (fun done b => done ++ [b.1]) okk (fun done b bs h wr => STO.cell rfl ?_) (fun done b bs h => ⟨?_, ?_⟩) (fun done b bs h wr => ?_) [(W, false), (y, true)] [] ⟨Nat.le_refl 2, ?_⟩
      · exact (List.Mem.tail _ (List.Mem.tail _ (List.Mem.head _)))
      · have := h.1; simp at this ⊢; (first | assumption | lia | omega)
      · exact fun b' hb' => h.2 b' (List.mem_cons_of_mem _ hb')
      · have hb := h.2 b (List.mem_cons_self ..)
        refine RUN.cons (EX.out (EX.append (EV.tuple (EVS.cons (EV.of (EV.comp (ρ' := [("size", .int (xs.length : Nat)), ("word", embW b)]) (cl := [("word", L + 4), ("size", L + 2)]) (tf := fun _ => true) (ef := efW xs.length b.1) (SRC.range1 (n := (xs.length : Int)) (EV.var rfl) rfl (by (first | assumption | lia | omega)) (by (first | assumption | lia | omega))) ?_ ?_ ?_) (congrArg D.lst (hV b.1 hb))) (EVS.cons (EV.list .nil) .nil))) (by have := h.1; simp; (first | assumption | lia | omega))) (ρ' := R) ?_) ?_
        · refine ⟨rfl, by decide, rfl, by decide, rfl, fun y a h => ?_, fun y d h => ?_⟩
          · rcases look2 h with ⟨rfl, rfl⟩ | ⟨rfl, rfl⟩ <;> rfl
          · rcases look2 h with ⟨rfl, rfl⟩ | ⟨rfl, rfl⟩ <;> exact ⟨rfl, rfl, rfl, rfl, rfl⟩
        · refine ⟨fun d hd => ?_, fun C d hd => .inl ⟨rfl, rfl⟩, fun C d hd _ => ?_⟩
          · obtain ⟨j, _, rfl⟩ := List.mem_map.mp hd; rfl
          · obtain ⟨j, hj, rfl⟩ := List.mem_map.mp hd
            have hj : j < xs.length := by simpa using hj
            have eo : efW xs.length b.1 (D.int (j : Nat)) = D.str (List.replicate (xs.length - 1 - j) 32 ++ [b.1.getD (xs.length - 1 - j) 0]) := rfl
            have ei : (xs.length : Int) - 1 - (j : Int) = ((xs.length - 1 - j : Nat) : Int) := by (first | assumption | lia | omega)
            have hm : xs.length - 1 - j < xs.length := by (first | assumption | lia | omega)
            rw [eo]
            have hi := fun c => iop_word (g := G0 prog w h₀) (c := c) b xs.length (xs.length - 1 - j) hb hn7 hm
            have hre : ∀ m : Nat, (List.replicate ((m : Nat) : Int).toNat [32]).flatten = List.replicate m 32 := by
              intro m; rw [Int.toNat_natCast]
              induction m with
              | zero => rfl
              | succ m ih => rw [List.replicate_succ, List.flatten_cons, ih]; rfl
            generalize embW b = dw at *
            generalize b.1.getD (xs.length - 1 - j) 0 = q at *
            generalize xs.length - 1 - j = m at *
            refine ⟨rfl, EV.bin (EV.of (EV.bin (EV.str (l := [32]) rfl) (EV.of (EV.bin (EV.bin (EV.var rfl) EV.int BOP.sub_int) (EV.var rfl) BOP.sub_int) (congrArg D.int ei)) (BOP.mul_str (by decide) (by (first | assumption | lia | omega)) (by (first | assumption | lia | omega)))) (congrArg D.str (hre m))) (EV.item (EV.var rfl) (EV.of (EV.bin (EV.bin (EV.var rfl) EV.int BOP.sub_int) (EV.var rfl) BOP.sub_int) (congrArg D.int ei)) (hi _)) (BOP.add_str (by simp; (first | assumption | lia | omega)))⟩
        · simp [upto]; (first | assumption | lia | omega)
        · exact subv rfl (subv rfl (subv rfl (subv rfl subv_nil)))
        · have : TT (done ++ [b.1]) = (some (("begins" : Str), ba, (done.map fun V => slidD (initRows V, [])) ++ [slidD (initRows b.1, [])]) : Own) := by
            show some _ = some _
            rw [List.map_append]; rfl
          rw [this]
          exact RUN.nil
      · intro b hb
        simp only [List.mem_cons, List.not_mem_nil, or_false] at hb
        rcases hb with rfl | rfl
        · exact hWl
        · exact ok.ylen
    refine RUN.freeze hba ?_
    have sl1 : SlsOk (initRows W, []) (chsP xs) := hW ▸ ok.sl1
    have sl2 := ok.sl2
    have oe := ok.ended
    have ol := ok.lens
    rw [hW] at oe ol
    rw [hgr] at ol
    have g1 : pyGet [slidD (initRows W, []), slidD (initRows y, [])] 0 = some (slidD (initRows W, [])) := by rw [show (0 : Int) = ((0 : Nat) : Int) from rfl, pyGet_nat]; rfl
    have g2 : pyGet [slidD (initRows W, []), slidD (initRows y, [])] 1 = some (slidD (initRows y, [])) := by rw [show (1 : Int) = ((1 : Nat) : Int) from rfl, pyGet_nat]; rfl
    have r1 := fn_reduce (prog := prog) (w := w) (h₀ := h₀) (chsP xs) (initRows W, []) sl1
    have r2 := fn_reduce (prog := prog) (w := w) (h₀ := h₀) (chsP xs) (initRows y, []) sl2
    generalize (chsP xs).foldl slide (initRows W, []) = f1 at *
    generalize (chsP xs).foldl slide (initRows y, []) = f2 at *
    refine RUN.cons (EX.assign2 (EV.call r1 rfl rfl (Nat.le_of_ble_eq_true rfl) (EVS.cons (EV.fname rfl) (EVS.cons (EV.var rfl) (EVS.cons (EV.item (EV.var rfl) EV.int (IOP.lst g1 (by decide) (by decide))) .nil)))) STO.local STO.local) ?_
    refine RUN.cons (EX.assign2 (EV.call r2 rfl rfl (Nat.le_of_ble_eq_true rfl) (EVS.cons (EV.fname rfl) (EVS.cons (EV.var rfl) (EVS.cons (EV.item (EV.var rfl) EV.int (IOP.lst g2 (by decide) (by decide))) .nil)))) STO.local STO.local) ?_
    refine RUN.cons (EX.ifs (b := false) ((TE.cmp (EV.var rfl) (EV.var rfl) COP.ne_ints).of (by rw [oe]; simp)) (fun h => nomatch h) fun _ => RUN.nil) ?_
    refine RUN.stop ?_
    refine EX.ret ?_
    have hLL : (((f1.1.map D.str).filter fun _ => true).map efL) = ((f1.1.map List.length).map Int.ofNat).map D.int := by
      rw [filt]; simp [efL]
    have hKK : ((upto (xs.length : Int)).filter fun _ => true).map (efK gr) = (((List.range xs.length).map fun i => gr.count i).map Int.ofNat).map D.int := by
      rw [filt]; unfold upto
      rw [Int.toNat_natCast, List.map_map, List.map_map, List.map_map]
      exact List.map_congr_left fun t _ => rfl
    have hlf : ∀ r ∈ f1.1, r.length ≤ 7 := by
      intro r hr
      have : r.length ∈ f1.1.map List.length := List.mem_map_of_mem hr
      rw [ol] at this
      obtain ⟨i, _, e⟩ := List.mem_map.mp this
      have := List.count_le_length (a := i) (l := gr)
      (first | assumption | lia | omega)
    have hfl : f1.1.length = xs.length := by
      have := congrArg List.length ol
      simpa using this
    refine EV.of (EV.cmp (EV.of (EV.comp (ρ' := []) (cl := []) (tf := fun _ => true) (ef := efL) (SRC.lst (EV.var rfl)) ?_ ?_ ?_) (congrArg D.lst hLL)) (EV.of (EV.comp (ρ' := [("growth", natsD gr)]) (cl := [("growth", L + 3)]) (tf := fun _ => true) (ef := efK gr) (SRC.range1 (n := (xs.length : Int)) (EV.var rfl) rfl (by (first | assumption | lia | omega)) (by (first | assumption | lia | omega))) ?_ ?_ ?_) (congrArg D.lst hKK)) COP.eq_ints) (by rw [ol]; simp)
    · exact ⟨rfl, by decide, rfl, by decide, rfl, (fun y a h => nomatch h), (fun y d h => nomatch h)⟩
    · refine ⟨fun d hd => ?_, fun C d hd => .inl ⟨rfl, rfl⟩, fun C d hd _ => ?_⟩
      · obtain ⟨z, _, rfl⟩ := List.mem_map.mp hd; rfl
      · obtain ⟨z, hz, rfl⟩ := List.mem_map.mp hd
        have := hlf z hz
        exact ⟨rfl, EV.bcall (FOP.len_str (by (first | assumption | lia | omega))) rfl (EVS.cons (EV.var rfl) .nil)⟩
    · simp; (first | assumption | lia | omega)
    · refine ⟨rfl, by decide, rfl, by decide, rfl, fun y a h => ?_, fun y d h => ?_⟩
      · obtain ⟨rfl, rfl⟩ := look1' h; rfl
      · obtain ⟨rfl, rfl⟩ := look1 h
        exact ⟨rfl, rfl, rfl, rfl, rfl⟩
    · refine ⟨fun d hd => ?_, fun C d hd => .inl ⟨rfl, rfl⟩, fun C d hd _ => ?_⟩
      · obtain ⟨j, _, rfl⟩ := List.mem_map.mp hd; rfl
      · obtain ⟨j, hj, rfl⟩ := List.mem_map.mp hd
        refine ⟨rfl, EV.of (EV.count (EV.var rfl) (EV.var rfl)) ?_⟩
        show D.int _ = D.int _
        rw [count_int]; rfl
    · simp [upto]; (first | assumption | lia | omega)
end
end Mine
end

/- Fin0 -/
section
open PySem PySem.W PySem.Calls PyProof.Rows
set_option maxRecDepth 100000
set_option maxHeartbeats 8000000
namespace Mine
theorem holds_of (hm : ∀ ns : List Int, ns.length ≤ 63 → ∃ y, LawOk (numsP ns) y) : PySem.Challenge.rw_oy0073_01.Holds := by
  refine Mine.hd ?_
  intro w s₀ s₁ mg mb G Y fa o pm cd doc dV kV ho hd hcd hD hmg hg args vals as hpre hlay hrd hwl hlo
  have KX := kIn_of Y
  refine Ground.open G ?_
  intro T B D TE TW
  have gok : (G0 PySem.Challenge.rw_oy0073_01.row.prog w s₁.heap).Ok := ⟨KX, ⟨mg, mb, T.g, T.b, T.builtins⟩, T.nolimit⟩
  have hfa : fa = 118 := by
    have := mg_of (n := "law") (v := .ref 118) KX T.g rfl
    have h2 : mg "law" = some (.ref fa) := hmg
    rw [this] at h2
    cases h2
    rfl
  clear hmg ho hd hcd hD Y G D TE TW T B
  subst hfa
  wrow_args hpre hlay hrd hwl hlo
  rename_i ns hs h1 h2 h3 h4 as1 as2 la vs as3 hL ra w1 r0 hI hr hc1 hc2
  have hlen : ns.length ≤ 63 := by (first | assumption | lia | omega)
  obtain ⟨y, ok⟩ := hm ns hlen
  refine fn_law la vs ns hL hI hlen _ y rfl ok callerA [] s₁ [.ref la] _ _ gok ⟨rfl, by decide, by decide⟩ (fun _ _ e => e) (fun b hb => nomatch hb) (.cons (.fn la) .nil) fun v s' k r => ?_
  cases r
  obtain ⟨h', tk, rfl, hk⟩ := k
  refine GoodW.toG ⟨.inl ⟨.bool true, .bool true, [], rfl, raisesW_false (by wrow_none_raised), ?_, postW_of (by wrow_shape) (by wtm_val) (by w_fin), ?_⟩, hk, rfl, hg⟩
  · exact readsW_of_reads (.bool true)
  · exact unshared_nil
end Mine
end

theorem PySem.Challenge.cw_oy0073_01_holds : PySem.Challenge.rw_oy0073_01.Holds :=
  Mine.holds_of fun ns _ => Mine.law_ok ns
