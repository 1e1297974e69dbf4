/- Plain facts on bits packed in words of 32. No program in sight. Grids of whole numbers: rows of a list. No program in sight. The fixed patterns of a symbol as functions on grids: as the program lays them, step by step. No program in sight. GF(256), plain: the tables of powers and logarithms, the product, its laws. Polynomials over GF(256), plain: values, sums, multiples, remainders. Coefficients from the highest down. Polynomials over GF(256), plain, 2: the sum's value, the remainder's step. The product of two polynomials, plain, as the loops fill it; the generators by evaluation. -/
set_option linter.unusedSimpArgs false
set_option linter.unusedVariables false

/- B0: Plain facts on bits packed in words of 32. No program in sight. -/
namespace Go.Proofs.YtnpkihobbcglcaaGreatDoor

def wordBit (ws : List Nat) (i : Nat) : Bool := (ws.getD (i / 32) 0).testBit (i % 32)

/-- The words hold the bits, and nothing beyond them. -/
structure Rep (ws : List Nat) (bits : List Bool) : Prop where
  rng : ∀ x ∈ ws, x < 4294967296
  len : bits.length ≤ 32 * ws.length
  bit : ∀ i, i < 32 * ws.length → wordBit ws i = bits.getD i false

theorem Rep.at_lt {ws : List Nat} {bits : List Bool} (h : Rep ws bits) (i : Nat) : ws.getD i 0 < 4294967296 := by
  by_cases hi : i < ws.length
  · rw [List.getD_eq_getElem?_getD, List.getElem?_eq_getElem hi]; exact h.rng _ (List.getElem_mem hi)
  · simp [List.getElem?_eq_none (Nat.le_of_not_lt hi)]

theorem testBit_or_two_pow (x j k : Nat) : (x ||| 2 ^ j).testBit k = (x.testBit k || decide (j = k)) := by
  rw [Nat.testBit_or, Nat.testBit_two_pow]

theorem Rep.snoc_false {ws : List Nat} {bits : List Bool} (h : Rep ws bits) (hl : bits.length < 32 * ws.length) : Rep ws (bits ++ [false]) :=
  ⟨h.rng, by simp; omega, fun i hi => by
    rw [h.bit i hi]
    by_cases h1 : i < bits.length
    · simp [List.getElem?_append_left h1]
    · by_cases h2 : i = bits.length
      · subst h2; simp
      · simp [List.getElem?_eq_none (Nat.le_of_not_lt h1), List.getElem?_append_right (Nat.le_of_not_lt h1)]
        rw [List.getElem?_eq_none (by simp; omega)]; rfl⟩

theorem Rep.snoc_true {ws : List Nat} {bits : List Bool} (h : Rep ws bits) (hl : bits.length < 32 * ws.length) :
    Rep (ws.set (bits.length / 32) (ws.getD (bits.length / 32) 0 ||| 2 ^ (bits.length % 32))) (bits ++ [true]) := by
  refine ⟨fun x hx => ?_, by simp; omega, fun i hi => ?_⟩
  · rcases List.mem_or_eq_of_mem_set hx with hx | hx
    · exact h.rng _ hx
    · subst hx
      exact Nat.or_lt_two_pow (n := 32) (h.at_lt _) (Nat.pow_lt_pow_right (by omega) (by omega))
  · have hb : bits.length / 32 < ws.length := by omega
    rw [List.length_set] at hi
    have hh := h.bit i hi
    unfold wordBit at *
    by_cases h1 : i / 32 = bits.length / 32
    · rw [h1] at hh ⊢
      rw [show (ws.set (bits.length / 32) (ws.getD (bits.length / 32) 0 ||| 2 ^ (bits.length % 32))).getD (bits.length / 32) 0 = (ws.getD (bits.length / 32) 0 ||| 2 ^ (bits.length % 32)) by
        simp [hb]]
      rw [testBit_or_two_pow, hh]
      by_cases h2 : i < bits.length
      · rw [List.getD_eq_getElem?_getD, List.getD_eq_getElem?_getD, List.getElem?_append_left h2]
        have : ¬ bits.length % 32 = i % 32 := by omega
        simp [this]
      · by_cases h3 : i = bits.length
        · subst h3; simp
        · have : ¬ bits.length % 32 = i % 32 := by omega
          rw [List.getD_eq_getElem?_getD, List.getD_eq_getElem?_getD, List.getElem?_eq_none (Nat.le_of_not_lt h2), List.getElem?_eq_none (by simp; omega)]
          simp [this]
    · rw [show (ws.set (bits.length / 32) (ws.getD (bits.length / 32) 0 ||| 2 ^ (bits.length % 32))).getD (i / 32) 0 = ws.getD (i / 32) 0 by
        simp [Ne.symm h1]]
      rw [hh]
      by_cases h2 : i < bits.length
      · rw [List.getD_eq_getElem?_getD, List.getD_eq_getElem?_getD, List.getElem?_append_left h2]
      · have h3 : i ≠ bits.length := fun e => h1 (by rw [e])
        rw [List.getD_eq_getElem?_getD, List.getD_eq_getElem?_getD, List.getElem?_eq_none (Nat.le_of_not_lt h2), List.getElem?_eq_none (by simp; omega)]

theorem Rep.grow {ws : List Nat} {bits : List Bool} (h : Rep ws bits) (n : Nat) : Rep (ws ++ List.replicate n 0) bits :=
  ⟨fun x hx => by
    rcases List.mem_append.1 hx with hx | hx
    · exact h.rng _ hx
    · rw [List.eq_of_mem_replicate hx]; omega,
   by have := h.len; simp; omega,
   fun i _ => by
    unfold wordBit
    by_cases h1 : i / 32 < ws.length
    · have e : (ws ++ List.replicate n 0).getD (i / 32) 0 = ws.getD (i / 32) 0 := by simp [List.getElem?_append_left h1]
      rw [e]; exact h.bit i (by omega)
    · have h2 : bits.length ≤ i := by have := h.len; omega
      rw [List.getD_eq_getElem?_getD, List.getD_eq_getElem?_getD, List.getElem?_append_right (Nat.le_of_not_lt h1), List.getElem?_eq_none h2]
      by_cases h3 : i / 32 - ws.length < n
      · rw [List.getElem?_replicate, if_pos h3]; simp
      · rw [List.getElem?_replicate, if_neg h3]; simp⟩

theorem Rep.zeros (n : Nat) : Rep (List.replicate n 0) [] :=
  ⟨fun x hx => by rw [List.eq_of_mem_replicate hx]; omega, by simp, fun i _ => by
    unfold wordBit
    by_cases h3 : i / 32 < n
    · rw [List.getD_eq_getElem?_getD, List.getElem?_replicate, if_pos h3]; simp
    · rw [List.getD_eq_getElem?_getD, List.getElem?_replicate, if_neg h3]; simp⟩

theorem shl_mod (n : Nat) (h : n < 32) : (2 ^ n : Nat) % 4294967296 = 2 ^ n := Nat.mod_eq_of_lt (Nat.pow_lt_pow_right (a := 2) (m := n) (n := 32) (by omega) h)

end Go.Proofs.YtnpkihobbcglcaaGreatDoor

/- G0: Grids of whole numbers: rows of a list. No program in sight. -/
namespace Go.Proofs.YtnpkihobbcglcaaGreatDoor

abbrev Grid := List (List Int)
def gget (g : Grid) (x y : Nat) : Int := (g.getD y []).getD x 0
def gset (g : Grid) (x y : Nat) (v : Int) : Grid := g.set y ((g.getD y []).set x v)
/-- n rows of n cells. -/
structure Sq (n : Nat) (g : Grid) : Prop where
  len : g.length = n
  wid : ∀ y, y < n → (g.getD y []).length = n

theorem Sq.set {n : Nat} {g : Grid} (h : Sq n g) (x y : Nat) (v : Int) : Sq n (gset g x y v) :=
  ⟨by simp [gset, h.len], fun k hk => by
    unfold gset
    by_cases e : y = k
    · subst e
      rw [List.getD_eq_getElem?_getD, List.getElem?_set_self (by rw [h.len]; exact hk)]
      simpa using h.wid y hk
    · rw [List.getD_eq_getElem?_getD, List.getElem?_set_ne e, ← List.getD_eq_getElem?_getD]; exact h.wid k hk⟩

theorem gset_row_same {n : Nat} {g : Grid} (h : Sq n g) (x y : Nat) (v : Int) (hy : y < n) : (gset g x y v).getD y [] = (g.getD y []).set x v := by
  unfold gset
  rw [List.getD_eq_getElem?_getD, List.getElem?_set_self (by rw [h.len]; exact hy)]; rfl
theorem gset_row_other (g : Grid) (x y k : Nat) (v : Int) (hk : k ≠ y) : (gset g x y v).getD k [] = g.getD k [] := by
  unfold gset
  rw [List.getD_eq_getElem?_getD, List.getElem?_set_ne (Ne.symm hk), ← List.getD_eq_getElem?_getD]

/-- f on 0, 1, .., n - 1, one behind the other. -/
def iterN {σ : Type} (f : Nat → σ → σ) : Nat → σ → σ
  | 0, s => s
  | k + 1, s => f k (iterN f k s)
theorem iterN_succ {σ : Type} (f : Nat → σ → σ) (k : Nat) (s : σ) : iterN f (k + 1) s = f k (iterN f k s) := rfl
theorem iterN_zero {σ : Type} (f : Nat → σ → σ) (s : σ) : iterN f 0 s = s := rfl
theorem iterN_keep {σ : Type} (P : σ → Prop) (f : Nat → σ → σ) (hf : ∀ k s, P s → P (f k s)) (n : Nat) (s : σ) (h : P s) : P (iterN f n s) := by
  induction n with
  | zero => exact h
  | succ n ih => exact hf _ _ ih
theorem iterN_congr {σ : Type} (f g : Nat → σ → σ) (n : Nat) (h : ∀ k s, k < n → f k s = g k s) (s : σ) : iterN f n s = iterN g n s := by
  induction n with
  | zero => rfl
  | succ n ih => rw [iterN_succ, iterN_succ, ih (fun k s hk => h k s (by omega)), h n _ (by omega)]
theorem gget_gset {n : Nat} {g : Grid} (h : Sq n g) (x y a b : Nat) (v : Int) (hx : x < n) (hy : y < n) : gget (gset g x y v) a b = if a = x ∧ b = y then v else gget g a b := by
  unfold gget
  by_cases e : b = y
  · subst e
    rw [gset_row_same h x b v hy]
    by_cases e2 : a = x
    · subst e2
      rw [List.getD_eq_getElem?_getD, List.getElem?_set_self (by rw [h.wid b hy]; exact hx)]
      simp
    · rw [List.getD_eq_getElem?_getD, List.getElem?_set_ne (Ne.symm e2), ← List.getD_eq_getElem?_getD]
      simp [e2]
  · rw [gset_row_other g x y b v e]
    simp [e]
theorem Sq.ext {n : Nat} {g h : Grid} (hg : Sq n g) (hh : Sq n h) (e : ∀ x y, x < n → y < n → gget g x y = gget h x y) : g = h := by
  apply List.ext_getElem
  · rw [hg.len, hh.len]
  · intro y h1 h2
    have hy : y < n := by rw [← hg.len]; exact h1
    have w1 := hg.wid y hy
    have w2 := hh.wid y hy
    rw [List.getD_eq_getElem?_getD, List.getElem?_eq_getElem h1] at w1
    rw [List.getD_eq_getElem?_getD, List.getElem?_eq_getElem h2] at w2
    simp only [Option.getD_some] at w1 w2
    apply List.ext_getElem
    · rw [w1, w2]
    · intro x h3 h4
      have := e x y (by omega) hy
      unfold gget at this
      rw [List.getD_eq_getElem?_getD (l := g), List.getElem?_eq_getElem h1, List.getD_eq_getElem?_getD (l := h), List.getElem?_eq_getElem h2] at this
      simpa [h3, h4] using this

/-- All of it set. -/
def clearRow (n y : Nat) (v : Int) (g : Grid) : Grid := iterN (fun x g => gset g x y v) n g
def clearG (n : Nat) (v : Int) (g : Grid) : Grid := iterN (fun y g => clearRow n y v g) n g
theorem clearRow_sq {n : Nat} (m y : Nat) (v : Int) (g : Grid) (h : Sq n g) : Sq n (iterN (fun x g => gset g x y v) m g) :=
  iterN_keep (Sq n) _ (fun _ _ h => h.set _ _ _) m g h
theorem clearRow_get {n : Nat} (m y : Nat) (v : Int) (g : Grid) (h : Sq n g) (hm : m ≤ n) (hy : y < n) (a b : Nat) :
    gget (iterN (fun x g => gset g x y v) m g) a b = if a < m ∧ b = y then v else gget g a b := by
  induction m with
  | zero => simp [iterN]
  | succ m ih =>
    rw [iterN_succ, gget_gset (clearRow_sq m y v g h) m y a b v (by omega) hy, ih (by omega)]
    by_cases h1 : a = m ∧ b = y
    · simp [h1]
    · rw [if_neg h1]
      by_cases h2 : a < m ∧ b = y
      · rw [if_pos h2, if_pos ⟨by omega, h2.2⟩]
      · rw [if_neg h2, if_neg (by omega)]
theorem clearG_get {n : Nat} (m : Nat) (v : Int) (g : Grid) (h : Sq n g) (hm : m ≤ n) :
    Sq n (iterN (fun y g => clearRow n y v g) m g) ∧ ∀ a b, a < n → gget (iterN (fun y g => clearRow n y v g) m g) a b = if b < m then v else gget g a b := by
  induction m with
  | zero => exact ⟨h, by simp [iterN]⟩
  | succ m ih =>
    obtain ⟨i1, i2⟩ := ih (by omega)
    refine ⟨clearRow_sq n m v _ i1, fun a b ha => ?_⟩
    rw [iterN_succ, clearRow, clearRow_get n m v _ i1 (Nat.le_refl _) (by omega), i2 a b ha]
    by_cases h1 : b = m
    · subst h1; simp [ha]
    · rw [if_neg (by omega)]
      by_cases h2 : b < m
      · rw [if_pos h2, if_pos (by omega)]
      · rw [if_neg h2, if_neg (by omega)]

def fullGrid (n : Nat) (v : Int) : Grid := List.replicate n (List.replicate n v)
theorem fullGrid_sq (n : Nat) (v : Int) : Sq n (fullGrid n v) := ⟨by simp [fullGrid], fun y hy => by simp [fullGrid, List.getD_eq_getElem?_getD, hy]⟩
theorem fullGrid_get (n : Nat) (v : Int) (x y : Nat) (hx : x < n) (hy : y < n) : gget (fullGrid n v) x y = v := by
  simp [gget, fullGrid, List.getD_eq_getElem?_getD, hx, hy]
theorem clearG_full {n : Nat} (v : Int) (g : Grid) (h : Sq n g) : clearG n v g = fullGrid n v := by
  obtain ⟨h1, h2⟩ := clearG_get n v g h (Nat.le_refl _)
  exact h1.ext (fullGrid_sq n v) (fun x y hx hy => by rw [h2 x y hx, if_pos hy, fullGrid_get n v x y hx hy])

end Go.Proofs.YtnpkihobbcglcaaGreatDoor

/- G1: The fixed patterns of a symbol as functions on grids: as the program lays them, step by step. No program in sight. -/
namespace Go.Proofs.YtnpkihobbcglcaaGreatDoor

def pdpAt (y x : Nat) : Int := (([[1, 1, 1, 1, 1, 1, 1], [1, 0, 0, 0, 0, 0, 1], [1, 0, 1, 1, 1, 0, 1], [1, 0, 1, 1, 1, 0, 1], [1, 0, 1, 1, 1, 0, 1], [1, 0, 0, 0, 0, 0, 1], [1, 1, 1, 1, 1, 1, 1]] : List (List Int)).getD y []).getD x 0
def papAt (y x : Nat) : Int := (([[1, 1, 1, 1, 1], [1, 0, 0, 0, 1], [1, 0, 1, 0, 1], [1, 0, 0, 0, 1], [1, 1, 1, 1, 1]] : List (List Int)).getD y []).getD x 0
def patRow (at_ : Nat → Nat → Int) (xs ys y : Nat) (k : Nat) (g : Grid) : Grid := iterN (fun x g => gset g (xs + x) (ys + y) (at_ y x)) k g
def patG (at_ : Nat → Nat → Int) (m xs ys : Nat) (k : Nat) (g : Grid) : Grid := iterN (fun y g => patRow at_ xs ys y m g) k g
def hsepG (xs ys k : Nat) (g : Grid) : Grid := iterN (fun x g => gset g (xs + x) ys 0) k g
def vsepG (xs ys k : Nat) (g : Grid) : Grid := iterN (fun y g => gset g xs (ys + y) 0) k g
def hsepOk (xs ys : Nat) (g : Grid) : Bool := (List.range 8).all fun x => gget (hsepG xs ys x g) (xs + x) ys == -1
def vsepOk (xs ys : Nat) (g : Grid) : Bool := (List.range 7).all fun y => gget (vsepG xs ys y g) xs (ys + y) == -1

theorem patRow_sq {n : Nat} (at_ : Nat → Nat → Int) (xs ys y k : Nat) (g : Grid) (h : Sq n g) : Sq n (patRow at_ xs ys y k g) := iterN_keep (Sq n) _ (fun _ _ h => h.set _ _ _) k g h
/-- Finders and separators of a symbol of n modules a side, step by step. -/
def f1G (_n : Nat) (g : Grid) : Grid := patG pdpAt 7 0 0 7 g
def f2G (n : Nat) (g : Grid) : Grid := patG pdpAt 7 (n - 7) 0 7 (f1G n g)
def f3G (n : Nat) (g : Grid) : Grid := patG pdpAt 7 0 (n - 7) 7 (f2G n g)
def h1G (n : Nat) (g : Grid) : Grid := hsepG 0 7 8 (f3G n g)
def h2G (n : Nat) (g : Grid) : Grid := hsepG (n - 8) 7 8 (h1G n g)
def h3G (n : Nat) (g : Grid) : Grid := hsepG 0 (n - 8) 8 (h2G n g)
def v1G (n : Nat) (g : Grid) : Grid := vsepG 7 0 7 (h3G n g)
def v2G (n : Nat) (g : Grid) : Grid := vsepG (n - 8) 0 7 (v1G n g)
def v3G (n : Nat) (g : Grid) : Grid := vsepG 7 (n - 7) 7 (v2G n g)
def findersOk (n : Nat) (g : Grid) : Bool :=
  hsepOk 0 7 (f3G n g) && hsepOk (n - 8) 7 (h1G n g) && hsepOk 0 (n - 8) (h2G n g) && vsepOk 7 0 (h3G n g) && vsepOk (n - 8) 0 (v1G n g) && vsepOk 7 (n - 7) (v2G n g)

/-- The timing patterns. -/
def setIf (x y : Nat) (v : Int) (g : Grid) : Grid := if gget g x y == -1 then gset g x y v else g
theorem setIf_no {x y : Nat} {v : Int} {g : Grid} (h : (gget g x y == -1) = false) : setIf x y v g = g := by simp [setIf, h]
theorem setIf_yes {x y : Nat} {v : Int} {g : Grid} (h : (gget g x y == -1) = true) : setIf x y v g = gset g x y v := by simp [setIf, h]
def timStep (i : Nat) (g : Grid) : Grid := setIf 6 i ((i + 1) % 2 : Nat) (setIf i 6 ((i + 1) % 2 : Nat) g)
def timG (k : Nat) (g : Grid) : Grid := iterN (fun j g => timStep (8 + j) g) k g

/-- The middles of alignment patterns of versions 1 to 7. -/
def centers (v : Nat) : List Int := (([[], [-1, -1, -1, -1, -1, -1, -1], [6, 18, -1, -1, -1, -1, -1], [6, 22, -1, -1, -1, -1, -1], [6, 26, -1, -1, -1, -1, -1], [6, 30, -1, -1, -1, -1, -1], [6, 34, -1, -1, -1, -1, -1], [6, 22, 38, -1, -1, -1, -1]] : List (List Int)).getD v [])
def algCell (x y : Int) (g : Grid) : Grid := if 0 ≤ x ∧ gget g x.toNat y.toNat = -1 then patG papAt 5 (x - 2).toNat (y - 2).toNat 5 g else g
def algRow (v : Nat) (y : Int) (k : Nat) (g : Grid) : Grid := iterN (fun b g => algCell ((centers v).getD b 0) y g) k g
def algG (v k : Nat) (g : Grid) : Grid := iterN (fun a g => if 0 ≤ (centers v).getD a 0 then algRow v ((centers v).getD a 0) 7 g else g) k g

def dim (v : Nat) : Nat := 17 + 4 * v
/-- The basic patterns of a version. -/
def dotG (v : Nat) (g : Grid) : Grid := gset (v3G (dim v) g) 8 (dim v - 8) 1
def basicG (v : Nat) (g : Grid) : Grid := timG (dim v - 16) (algG v 7 (dotG v g))

end Go.Proofs.YtnpkihobbcglcaaGreatDoor

/- F1: GF(256), plain: the tables of powers and logarithms, the product, its laws. -/
namespace Go.Proofs.YtnpkihobbcglcaaGreatDoor

def packE : Nat := 196399186132762991095636190500253616596015235491845904390934131204566729811279907533350396911849308369980407930211792886676177716114413596927226281320667849074153250292142078322078523454783769371330644527748332569775799736597138689209414361655909189797704348576571341618578513091914276733823536811983159184670241101389106770742111972544046611613419071373128839461947995247144387545601792401549928493166230602197002776588410010719461928803626766131916564469880306225642490070614532302365327386183711788405988368587450126860104521812733624228754006314931070421678855833139036212041460909518558972187919380887764206081
def packL : Nat := 22135253156888987530748098150270024343632497605293634117281264061560962248099620766229961468867162294233796152347975563017024165690400661622462404646302566225833645086064538892198543335321514950294300187779610338557442029018619797274438901674641748676613670242915365385819254959901651105240253464034662486586186382979728982817772067067513442677601938078891989292316012868233806586592927239821351197800766822366321181463280924672822998103315976779850880337712374790938628529953751181886374687897611504386983350015558142994211516619836411558782076806704747441947939324473761869443721989389604670425385080942269787340800
/-- The power of two in the field, the logarithm (of 0: 0), the product. -/
def ge (k : Nat) : Nat := (packE >>> (8 * k)) % 256
def gl (x : Nat) : Nat := (packL >>> (8 * x)) % 256
def gm (a b : Nat) : Nat := if a = 0 ∨ b = 0 then 0 else ge ((gl a + gl b) % 255)

def gstep (x : Nat) : Nat := if 256 ≤ 2 * x then ((2 * x) ^^^ 285) &&& 255 else 2 * x
def gx : Nat → Nat
  | 0 => 1
  | k + 1 => gstep (gx k)

theorem ge_lt (k : Nat) : ge k < 256 := Nat.mod_lt _ (by omega)
theorem gl_lt (k : Nat) : gl k < 256 := Nat.mod_lt _ (by omega)
theorem ge_step : ge 0 = 1 ∧ ∀ k, k < 255 → ge (k + 1) = gstep (ge k) := by decide +kernel
theorem gx_ge (k : Nat) (h : k < 256) : gx k = ge k := by
  induction k with
  | zero => exact ge_step.1.symm
  | succ k ih => rw [gx, ih (by omega), ge_step.2 k (by omega)]
theorem ge_ne (k : Nat) (h : k < 255) : ge k ≠ 0 := by
  have : ∀ k, k < 255 → ge k ≠ 0 := by decide +kernel
  exact this k h
theorem gl_ge : ∀ k, k < 255 → gl (ge k) = k := by decide +kernel
theorem ge_gl : ∀ x, x < 256 → x ≠ 0 → ge (gl x) = x ∧ gl x < 255 := by decide +kernel
theorem gl_zero : gl 0 = 0 := by decide +kernel

theorem gm_lt (a b : Nat) : gm a b < 256 := by
  unfold gm; split
  · omega
  · exact ge_lt _
theorem gm_zero (a : Nat) : gm a 0 = 0 := by simp [gm]
theorem zero_gm (a : Nat) : gm 0 a = 0 := by simp [gm]
theorem gm_comm (a b : Nat) : gm a b = gm b a := by
  unfold gm
  simp only [Or.comm, Nat.add_comm]
theorem gm_one (a : Nat) (h : a < 256) : gm a 1 = a := by
  have : ∀ a, a < 256 → gm a 1 = a := by decide +kernel
  exact this a h
theorem gm_ne (a b : Nat) (ha : a ≠ 0) (hb : b ≠ 0) : gm a b = ge ((gl a + gl b) % 255) := by
  unfold gm; rw [if_neg (by omega)]
theorem gm_ne0 (a b : Nat) (ha : a ≠ 0) (hb : b ≠ 0) : gm a b ≠ 0 := by
  rw [gm_ne a b ha hb]; exact ge_ne _ (Nat.mod_lt _ (by omega))
theorem gm_assoc (a b c : Nat) : gm a (gm b c) = gm (gm a b) c := by
  by_cases ha : a = 0
  · subst ha; simp [zero_gm]
  by_cases hb : b = 0
  · subst hb; simp [zero_gm, gm_zero]
  by_cases hc : c = 0
  · subst hc; simp [gm_zero]
  rw [gm_ne a _ ha (gm_ne0 b c hb hc), gm_ne _ c (gm_ne0 a b ha hb) hc, gm_ne b c hb hc, gm_ne a b ha hb, gl_ge _ (Nat.mod_lt _ (by omega)), gl_ge _ (Nat.mod_lt _ (by omega))]
  congr 1
  omega
theorem gm_swap (a b c : Nat) : gm a (gm b c) = gm b (gm a c) := by rw [gm_assoc, gm_comm a b, ← gm_assoc]

theorem gm_two : ∀ x, x < 256 → gm 2 x = (x <<< 1) ^^^ (if x.testBit 7 then 285 else 0) := by decide +kernel
theorem gm_two_xor (x y : Nat) (hx : x < 256) (hy : y < 256) : gm 2 (x ^^^ y) = gm 2 x ^^^ gm 2 y := by
  rw [gm_two _ (Nat.xor_lt_two_pow (n := 8) hx hy), gm_two x hx, gm_two y hy, Nat.testBit_xor, Nat.shiftLeft_xor_distrib]
  generalize x <<< 1 = a
  generalize y <<< 1 = b
  generalize (285 : Nat) = c
  have key : ∀ p q : Bool, a ^^^ b ^^^ (if (p ^^ q) = true then c else 0) = a ^^^ (if p = true then c else 0) ^^^ (b ^^^ if q = true then c else 0) := by
    intro p q
    apply Nat.eq_of_testBit_eq
    intro i
    cases p <;> cases q <;> simp only [Nat.testBit_xor, Bool.xor_false, Bool.false_xor, Bool.xor_true, Bool.not_true, Bool.not_false, if_true, if_false, Bool.false_eq_true, Nat.zero_testBit] <;> cases a.testBit i <;> cases b.testBit i <;> cases c.testBit i <;> rfl
  exact key _ _
theorem ge_two : ∀ k, k < 254 → gm 2 (ge k) = ge (k + 1) := by decide +kernel
theorem gm_pow_xor (k : Nat) (hk : k < 255) (x y : Nat) (hx : x < 256) (hy : y < 256) : gm (ge k) (x ^^^ y) = gm (ge k) x ^^^ gm (ge k) y := by
  induction k with
  | zero =>
    have h1 : ge 0 = 1 := ge_step.1
    rw [h1, gm_comm 1, gm_comm 1, gm_comm 1, gm_one _ hx, gm_one _ hy, gm_one _ (Nat.xor_lt_two_pow (n := 8) hx hy)]
  | succ k ih =>
    rw [← ge_two k (by omega), ← gm_assoc, ← gm_assoc, ← gm_assoc, ih (by omega), gm_two_xor _ _ (gm_lt _ _) (gm_lt _ _)]
/-- The product spreads over the sum. -/
theorem gm_xor (a x y : Nat) (ha : a < 256) (hx : x < 256) (hy : y < 256) : gm a (x ^^^ y) = gm a x ^^^ gm a y := by
  by_cases h : a = 0
  · subst h; simp [zero_gm]
  · obtain ⟨h1, h2⟩ := ge_gl a ha h
    rw [← h1]
    exact gm_pow_xor _ h2 x y hx hy
end Go.Proofs.YtnpkihobbcglcaaGreatDoor

/- F2: Polynomials over GF(256), plain: values, sums, multiples, remainders. Coefficients from the highest down. -/
namespace Go.Proofs.YtnpkihobbcglcaaGreatDoor

/-- All below 256. -/
def Bytes (cs : List Nat) : Prop := ∀ c ∈ cs, c < 256
def hx (a : Nat) (cs : List Nat) (acc : Nat) : Nat := cs.foldl (fun acc c => gm a acc ^^^ c) acc
/-- The value at a. -/
def ev (cs : List Nat) (a : Nat) : Nat := hx a cs 0

theorem hx_nil (a acc : Nat) : hx a [] acc = acc := rfl
theorem hx_cons (a c acc : Nat) (cs : List Nat) : hx a (c :: cs) acc = hx a cs (gm a acc ^^^ c) := rfl
theorem hx_append (a acc : Nat) (xs ys : List Nat) : hx a (xs ++ ys) acc = hx a ys (hx a xs acc) := List.foldl_append
theorem xor_lt (a b : Nat) (ha : a < 256) (hb : b < 256) : a ^^^ b < 256 := Nat.xor_lt_two_pow (n := 8) ha hb
theorem hx_lt (a : Nat) (cs : List Nat) (h : Bytes cs) : ∀ acc, acc < 256 → hx a cs acc < 256 := by
  induction cs with
  | nil => intro acc h; exact h
  | cons c cs ih => intro acc hacc; exact ih (fun x hx => h x (by simp [hx])) _ (xor_lt _ _ (gm_lt _ _) (h c (by simp)))
theorem ev_lt (a : Nat) (cs : List Nat) (h : Bytes cs) : ev cs a < 256 := hx_lt a cs h 0 (by omega)

theorem xor4 (a b c d : Nat) : (a ^^^ b) ^^^ (c ^^^ d) = (a ^^^ c) ^^^ (b ^^^ d) := by
  apply Nat.eq_of_testBit_eq
  intro i
  simp only [Nat.testBit_xor]
  cases a.testBit i <;> cases b.testBit i <;> cases c.testBit i <;> cases d.testBit i <;> rfl

theorem hx_xor (a : Nat) (ha : a < 256) (xs : List Nat) : ∀ (ys : List Nat) (p q : Nat), xs.length = ys.length → Bytes xs → Bytes ys → p < 256 → q < 256 →
    hx a (List.zipWith (fun x y => x ^^^ y) xs ys) (p ^^^ q) = hx a xs p ^^^ hx a ys q := by
  induction xs with
  | nil => intro ys p q hl _ _ _ _; cases ys with
    | nil => rfl
    | cons y ys => simp at hl
  | cons x xs ih => intro ys p q hl hxs hys hp hq; cases ys with
    | nil => simp at hl
    | cons y ys =>
      simp only [List.zipWith_cons_cons, hx_cons]
      rw [gm_xor a p q ha hp hq, xor4]
      exact ih ys _ _ (by simpa using hl) (fun c hc => hxs c (by simp [hc])) (fun c hc => hys c (by simp [hc])) (xor_lt _ _ (gm_lt _ _) (hxs x (by simp))) (xor_lt _ _ (gm_lt _ _) (hys y (by simp)))
theorem ev_xor (a : Nat) (ha : a < 256) (xs ys : List Nat) (hl : xs.length = ys.length) (hx' : Bytes xs) (hy : Bytes ys) : ev (List.zipWith (fun x y => x ^^^ y) xs ys) a = ev xs a ^^^ ev ys a := by
  have := hx_xor a ha xs ys 0 0 hl hx' hy (by omega) (by omega)
  exact this
theorem hx_scale (a c : Nat) (ha : a < 256) (hc : c < 256) (xs : List Nat) : ∀ p, p < 256 → Bytes xs → hx a (xs.map (gm c)) (gm c p) = gm c (hx a xs p) := by
  induction xs with
  | nil => intro p _ _; rfl
  | cons x xs ih => intro p hp hb; simp only [List.map_cons, hx_cons]; rw [gm_swap a c p, ← gm_xor c _ _ hc (gm_lt _ _) (hb x (by simp))]; exact ih _ (xor_lt _ _ (gm_lt _ _) (hb x (by simp))) (fun y hy => hb y (by simp [hy]))
theorem ev_scale (a c : Nat) (ha : a < 256) (hc : c < 256) (xs : List Nat) (hb : Bytes xs) : ev (xs.map (gm c)) a = gm c (ev xs a) := by
  have := hx_scale a c ha hc xs 0 (by omega) hb
  rw [gm_zero] at this
  exact this
theorem hx_zeros (a n acc : Nat) (h : acc = 0) : hx a (List.replicate n 0) acc = 0 := by
  induction n generalizing acc with
  | zero => exact h
  | succ n ih => rw [List.replicate_succ, hx_cons]; exact ih _ (by rw [h, gm_zero]; rfl)
theorem ev_zeros_left (a n : Nat) (cs : List Nat) : ev (List.replicate n 0 ++ cs) a = ev cs a := by
  unfold ev; rw [hx_append, hx_zeros a n 0 rfl]
/-- Zeros behind a polynomial that is zero at a. -/
theorem ev_zeros_right (a n : Nat) (cs : List Nat) (h : ev cs a = 0) : ev (cs ++ List.replicate n 0) a = 0 := by
  unfold ev at h ⊢; rw [hx_append]; exact hx_zeros a n _ h

/-- What NewGenericGFPoly keeps: leading zeros off, but one coefficient at least. -/
def strip : List Nat → List Nat
  | [] => []
  | [x] => [x]
  | x :: y :: r => if x = 0 then strip (y :: r) else x :: y :: r
theorem strip_ev (cs : List Nat) (a : Nat) : ev (strip cs) a = ev cs a := by
  match cs with
  | [] => rfl
  | [x] => rfl
  | x :: y :: r =>
    rw [strip]
    split
    · rename_i h; rw [strip_ev (y :: r) a]; subst h; exact (ev_zeros_left a 1 (y :: r)).symm
    · rfl
theorem strip_ne (cs : List Nat) (h : cs ≠ []) : strip cs ≠ [] := by
  match cs with
  | [] => exact absurd rfl h
  | [x] => simp [strip]
  | x :: y :: r => rw [strip]; split
                   · exact strip_ne (y :: r) (by simp)
                   · simp
theorem strip_len (cs : List Nat) : (strip cs).length ≤ cs.length := by
  match cs with
  | [] => simp [strip]
  | [x] => simp [strip]
  | x :: y :: r => rw [strip]; split
                   · have := strip_len (y :: r); simp at this ⊢; omega
                   · simp
theorem strip_bytes (cs : List Nat) (h : Bytes cs) : Bytes (strip cs) := by
  match cs with
  | [] => exact h
  | [x] => exact h
  | x :: y :: r => rw [strip]; split
                   · exact strip_bytes (y :: r) (fun c hc => h c (by simp at hc ⊢; rcases hc with h | h <;> simp [h]))
                   · exact h
/-- Normal: no leading zero, unless it is zero itself. -/
def Norm (cs : List Nat) : Prop := cs = [0] ∨ ∃ x r, cs = x :: r ∧ x ≠ 0
theorem strip_norm (cs : List Nat) (h : cs ≠ []) : Norm (strip cs) := by
  match cs with
  | [] => exact absurd rfl h
  | [x] =>
    by_cases hx : x = 0
    · subst hx; exact .inl rfl
    · exact .inr ⟨x, [], rfl, hx⟩
  | x :: y :: r => rw [strip]; split
                   · exact strip_norm (y :: r) (by simp)
                   · rename_i h; exact .inr ⟨x, y :: r, rfl, h⟩
/-- The place of the first coefficient that stays, as the loop finds it. -/
theorem strip_drop (cs : List Nat) (i : Nat) (hi : i < cs.length) (hz : ∀ j, j < i → cs.getD j 0 = 0) (hx : cs.getD i 0 ≠ 0) : strip cs = cs.drop i := by
  induction i generalizing cs with
  | zero =>
    match cs with
    | [] => simp at hi
    | [x] => rfl
    | x :: y :: r => rw [strip, if_neg (by simpa using hx)]; rfl
  | succ i ih =>
    match cs with
    | [] => simp at hi
    | [x] => simp at hi
    | x :: y :: r =>
      have h0 : x = 0 := by have := hz 0 (by omega); simpa using this
      rw [strip, if_pos h0, ih (y :: r) (by simpa using hi) (fun j hj => by have := hz (j + 1) (by omega); simpa using this) (by simpa using hx)]
      rfl
theorem strip_all (cs : List Nat) (hc : cs ≠ []) (hz : ∀ j, j < cs.length → cs.getD j 0 = 0) : strip cs = [0] := by
  match cs with
  | [] => exact absurd rfl hc
  | [x] => have := hz 0 (by simp); simp at this; subst this; rfl
  | x :: y :: r =>
    have h0 : x = 0 := by have := hz 0 (by simp); simpa using this
    rw [strip, if_pos h0]
    exact strip_all (y :: r) (by simp) (fun j hj => by have := hz (j + 1) (by simpa using hj); simpa using this)

/-- The sum, the shorter one set in from the left. -/
def padXor (xs ys : List Nat) : List Nat :=
  if xs.length ≤ ys.length then ys.take (ys.length - xs.length) ++ List.zipWith (fun x y => x ^^^ y) xs (ys.drop (ys.length - xs.length))
  else xs.take (xs.length - ys.length) ++ List.zipWith (fun x y => x ^^^ y) ys (xs.drop (xs.length - ys.length))
def addP (xs ys : List Nat) : List Nat := if xs.getD 0 0 = 0 then ys else if ys.getD 0 0 = 0 then xs else strip (padXor xs ys)
end Go.Proofs.YtnpkihobbcglcaaGreatDoor

/- F6: Polynomials over GF(256), plain, 2: the sum's value, the remainder's step. -/
namespace Go.Proofs.YtnpkihobbcglcaaGreatDoor

theorem Bytes.take {cs : List Nat} (h : Bytes cs) (n : Nat) : Bytes (cs.take n) := fun c hc => h c (List.mem_of_mem_take hc)
theorem Bytes.drop {cs : List Nat} (h : Bytes cs) (n : Nat) : Bytes (cs.drop n) := fun c hc => h c (List.mem_of_mem_drop hc)
theorem Bytes.append {xs ys : List Nat} (h : Bytes xs) (k : Bytes ys) : Bytes (xs ++ ys) := by
  intro c hc; rcases List.mem_append.1 hc with h' | h'
  · exact h c h'
  · exact k c h'
theorem Bytes.zeros (n : Nat) : Bytes (List.replicate n 0) := by intro c hc; have := (List.mem_replicate.1 hc).2; omega
theorem Bytes.map_gm (c : Nat) (xs : List Nat) : Bytes (xs.map (gm c)) := by intro x hx; obtain ⟨y, _, rfl⟩ := List.mem_map.1 hx; exact gm_lt _ _
theorem Bytes.zip {xs ys : List Nat} (h : Bytes xs) (k : Bytes ys) : Bytes (List.zipWith (fun x y => x ^^^ y) xs ys) := by
  induction xs generalizing ys with
  | nil => intro c hc; simp at hc
  | cons x xs ih => cases ys with
    | nil => intro c hc; simp at hc
    | cons y ys =>
      intro c hc
      simp only [List.zipWith_cons_cons, List.mem_cons] at hc
      rcases hc with rfl | hc
      · exact xor_lt _ _ (h x (by simp)) (k y (by simp))
      · exact ih (fun c hc => h c (by simp [hc])) (fun c hc => k c (by simp [hc])) c hc

/-- The shorter one set in from the left: its value with the longer one's. -/
theorem ev_pad (a : Nat) (ha : a < 256) (xs ys : List Nat) (hl : xs.length ≤ ys.length) (hxs : Bytes xs) (hys : Bytes ys) :
    ev (ys.take (ys.length - xs.length) ++ List.zipWith (fun x y => x ^^^ y) xs (ys.drop (ys.length - xs.length))) a = ev xs a ^^^ ev ys a := by
  have h1 : ev ys a = hx a (ys.drop (ys.length - xs.length)) (hx a (ys.take (ys.length - xs.length)) 0) := by
    rw [← hx_append, List.take_append_drop]; rfl
  have h2 := hx_xor a ha xs (ys.drop (ys.length - xs.length)) 0 (hx a (ys.take (ys.length - xs.length)) 0) (by simp; omega) hxs (hys.drop _) (by omega) (hx_lt a _ (hys.take _) 0 (by omega))
  rw [Nat.zero_xor] at h2
  unfold ev at h1 ⊢
  rw [hx_append, h2, h1]
theorem ev_padXor (a : Nat) (ha : a < 256) (xs ys : List Nat) (hxs : Bytes xs) (hys : Bytes ys) : ev (padXor xs ys) a = ev xs a ^^^ ev ys a := by
  unfold padXor
  split
  · exact ev_pad a ha xs ys (by assumption) hxs hys
  · rw [ev_pad a ha ys xs (by omega) hys hxs, Nat.xor_comm]
theorem padXor_bytes (xs ys : List Nat) (hxs : Bytes xs) (hys : Bytes ys) : Bytes (padXor xs ys) := by
  unfold padXor; split
  · exact (hys.take _).append (hxs.zip (hys.drop _))
  · exact (hxs.take _).append (hys.zip (hxs.drop _))
theorem padXor_len (xs ys : List Nat) : (padXor xs ys).length = max xs.length ys.length := by
  unfold padXor; split <;> simp <;> omega
theorem norm_zero {xs : List Nat} (h : Norm xs) (h0 : xs.getD 0 0 = 0) : xs = [0] := by
  rcases h with h | ⟨x, r, rfl, hx⟩
  · exact h
  · exact absurd (by simpa using h0) hx
theorem norm_ne {xs : List Nat} (h : Norm xs) : xs ≠ [] := by
  rcases h with rfl | ⟨x, r, rfl, _⟩ <;> simp
theorem ev_zero (a : Nat) : ev [0] a = 0 := by simp [ev, hx, gm_zero]
/-- The sum: normal, of bytes, its value the values' sum. -/
theorem addP_ev (a : Nat) (ha : a < 256) (xs ys : List Nat) (nx : Norm xs) (ny : Norm ys) (hxs : Bytes xs) (hys : Bytes ys) : ev (addP xs ys) a = ev xs a ^^^ ev ys a := by
  unfold addP
  split
  · rename_i h; rw [norm_zero nx h, ev_zero, Nat.zero_xor]
  · split
    · rename_i h; rw [norm_zero ny h, ev_zero, Nat.xor_zero]
    · rw [strip_ev, ev_padXor a ha xs ys hxs hys]
theorem padXor_ne (xs ys : List Nat) (h : xs ≠ []) : padXor xs ys ≠ [] := by
  intro e
  have := padXor_len xs ys
  rw [e] at this
  have := List.length_pos_iff.2 h
  simp at *
  omega
theorem addP_norm (xs ys : List Nat) (nx : Norm xs) (ny : Norm ys) : Norm (addP xs ys) := by
  unfold addP
  split
  · exact ny
  · split
    · exact nx
    · exact strip_norm _ (padXor_ne _ _ (norm_ne nx))
theorem addP_bytes (xs ys : List Nat) (hxs : Bytes xs) (hys : Bytes ys) : Bytes (addP xs ys) := by
  unfold addP
  split
  · exact hys
  · split
    · exact hxs
    · exact strip_bytes _ (padXor_bytes xs ys hxs hys)
theorem addP_len (xs ys : List Nat) : (addP xs ys).length ≤ max xs.length ys.length := by
  unfold addP
  split
  · omega
  · split
    · omega
    · have := strip_len (padXor xs ys); rw [padXor_len] at this; exact this

/-- A multiple by a monomial. -/
def monP (cs : List Nat) (d c : Nat) : List Nat := strip (cs.map (gm c) ++ List.replicate d 0)
theorem monP_ev (a : Nat) (ha : a < 256) (cs : List Nat) (d c : Nat) (hc : c < 256) (hb : Bytes cs) (h : ev cs a = 0) : ev (monP cs d c) a = 0 := by
  unfold monP
  rw [strip_ev]
  apply ev_zeros_right
  rw [ev_scale a c ha hc cs hb, h, gm_zero]
theorem monP_shift (a : Nat) (cs : List Nat) (d : Nat) (hb : Bytes cs) : ev (monP cs d 1) a = ev (cs ++ List.replicate d 0) a := by
  unfold monP
  rw [strip_ev]
  have : cs.map (gm 1) = cs := by
    conv => rhs; rw [← List.map_id cs]
    exact List.map_congr_left (fun x hx => by rw [gm_comm, gm_one x (hb x hx)]; rfl)
  rw [this]
theorem strip_head (x : Nat) (r : List Nat) (hx : x ≠ 0) : strip (x :: r) = x :: r := by
  cases r with
  | nil => rfl
  | cons y r => rw [strip, if_neg hx]
theorem strip_zero (r : List Nat) : strip (0 :: r) = [0] ∨ (strip (0 :: r)).length ≤ r.length := by
  cases r with
  | nil => exact .inl rfl
  | cons y r => rw [strip, if_pos rfl]; exact .inr (strip_len _)
/-- One step of the division by a polynomial with leading coefficient one. -/
theorem rem_len (x : Nat) (r gt : List Nat) (hx : x ≠ 0) (hx2 : x < 256) (hl : gt.length ≤ r.length) :
    addP (x :: r) (monP (1 :: gt) (r.length - gt.length) x) = [0] ∨ (addP (x :: r) (monP (1 :: gt) (r.length - gt.length) x)).length < (x :: r).length := by
  have h1 : monP (1 :: gt) (r.length - gt.length) x = x :: (gt.map (gm x) ++ List.replicate (r.length - gt.length) 0) := by
    unfold monP
    rw [List.map_cons, gm_one x hx2, List.cons_append]
    exact strip_head _ _ hx
  rw [h1]
  unfold addP
  rw [if_neg (by simpa using hx), if_neg (by simpa using hx)]
  have h2 : (gt.map (gm x) ++ List.replicate (r.length - gt.length) 0).length = r.length := by simp; omega
  generalize gt.map (gm x) ++ List.replicate (r.length - gt.length) 0 = t at h2
  unfold padXor
  rw [if_pos (by simp [h2])]
  simp only [List.length_cons, h2, Nat.sub_self, List.take_zero, List.nil_append, List.drop_zero, List.zipWith_cons_cons, Nat.xor_self]
  rcases strip_zero (List.zipWith (fun x y => x ^^^ y) r t) with h | h
  · exact .inl h
  · refine .inr ?_
    simp [h2] at h
    omega
end Go.Proofs.YtnpkihobbcglcaaGreatDoor

/- F9: The product of two polynomials, plain, as the loops fill it; the generators by evaluation. -/
namespace Go.Proofs.YtnpkihobbcglcaaGreatDoor

def mulCell (xs ys : List Nat) (i j : Nat) (p : List Nat) : List Nat := p.set (i + j) (p.getD (i + j) 0 ^^^ gm (xs.getD i 0) (ys.getD j 0))
def mulRow (xs ys : List Nat) (i k : Nat) (p : List Nat) : List Nat := iterN (fun j p => mulCell xs ys i j p) k p
def mulAll (xs ys : List Nat) (k : Nat) (p : List Nat) : List Nat := iterN (fun i p => mulRow xs ys i ys.length p) k p
def mulP (xs ys : List Nat) : List Nat := strip (mulAll xs ys xs.length (List.replicate (xs.length + ys.length - 1) 0))
/-- The generators: (x + 1)(x + 2)(x + 4) .. -/
def genP : Nat → List Nat
  | 0 => [1]
  | d + 1 => mulP (genP d) [1, ge d]
def genOk (d : Nat) : Bool := decide ((genP d).length = d + 1) && decide ((genP d).getD 0 0 = 1) && (genP d).all (fun c => decide (c < 256)) && (List.range d).all (fun i => ev (genP d) (ge i) == 0)
theorem gen_ok : ∀ d, d < 31 → genOk d = true := by decide +kernel
end Go.Proofs.YtnpkihobbcglcaaGreatDoor
