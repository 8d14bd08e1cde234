import PyProof.Rows.All
import Wide.All
import OpenK.AllK
import Wide.FinOn
import Lean
import PySem.Challenge.RW_zn0012_01
set_option Elab.async false

section
namespace Mine

/-- the game's value: the lead of the one whose turn it is -/
def play : List Int → Int
  | [] => 0
  | a :: l => max (a - play l) ((a :: l).getLast (by simp) - play (a :: l).dropLast)
termination_by l => l.length
decreasing_by all_goals simp

theorem play_nil : play [] = 0 := by rw [play]
theorem play_one (a : Int) : play [a] = a := by
  rw [play]; simp [play_nil]
theorem play_two (a b : Int) : play [a, b] = max (a - b) (b - a) := by
  rw [play]; simp [play_one]
theorem getLast_snoc (f : Int) (Z : List Int) (y : Int) (h : f :: (Z ++ [y]) ≠ []) : (f :: (Z ++ [y])).getLast h = y := by
  have := List.getLast_concat (l := f :: Z) (a := y)
  exact this
theorem play_snoc (f : Int) (Z : List Int) (y : Int) : play (f :: (Z ++ [y])) = max (f - play (Z ++ [y])) (y - play (f :: Z)) := by
  rw [play]
  have h2 : (f :: (Z ++ [y])).dropLast = f :: Z := by
    rw [← List.cons_append, List.dropLast_concat]
  rw [getLast_snoc, h2]

theorem nil_or_snoc {α : Type} (l : List α) : l = [] ∨ ∃ Z y, l = Z ++ [y] := by
  rcases List.eq_nil_or_concat l with h | ⟨Z, y, h⟩
  · exact .inl h
  · exact .inr ⟨Z, y, by simpa using h⟩

theorem play_ge_left (f : Int) (Y : List Int) : f - play Y ≤ play (f :: Y) := by
  rcases nil_or_snoc Y with rfl | ⟨Z, y, rfl⟩
  · rw [play_one, play_nil]; omega
  · rw [play_snoc]; omega
theorem play_ge_right (R : List Int) (y : Int) : y - play R ≤ play (R ++ [y]) := by
  cases R with
  | nil => rw [List.nil_append, play_one, play_nil]; omega
  | cons f Z => rw [List.cons_append, play_snoc]; omega

theorem play_reverse : ∀ (n : Nat) (l : List Int), l.length ≤ n → play l.reverse = play l := by
  intro n
  induction n with
  | zero => intro l h; have : l = [] := List.length_eq_zero_iff.mp (by omega); subst this; rfl
  | succ n ih =>
    intro l h
    cases l with
    | nil => rfl
    | cons f Y =>
      rcases nil_or_snoc Y with rfl | ⟨Z, y, rfl⟩
      · rfl
      · simp only [List.length_cons, List.length_append, List.length_nil] at h
        have e : (f :: (Z ++ [y])).reverse = y :: (Z.reverse ++ [f]) := by simp
        rw [e, play_snoc, play_snoc]
        have h1 := ih (Z ++ [y]) (by simp; omega)
        have h2 := ih (f :: Z) (by simp; omega)
        rw [List.reverse_append] at h1
        rw [List.reverse_cons] at h2
        simp only [List.reverse_cons, List.reverse_nil, List.nil_append, List.singleton_append] at h1
        rw [h1, h2]
        omega
theorem play_rev (l : List Int) : play l.reverse = play l := play_reverse l.length l (Nat.le_refl _)

/-- one end heap more or less -/
theorem play_lip (x x' : Int) (h : x' ≤ x) : ∀ (n : Nat) (Y : List Int), Y.length ≤ n → play (x :: Y) - play (x' :: Y) ≤ x - x' ∧ play (x' :: Y) - play (x :: Y) ≤ x - x' := by
  intro n
  induction n with
  | zero => intro l hl; have : l = [] := List.length_eq_zero_iff.mp (by omega); subst this; rw [play_one, play_one]; omega
  | succ n ih =>
    intro Y hl
    rcases nil_or_snoc Y with rfl | ⟨Z, y, rfl⟩
    · rw [play_one, play_one]; omega
    · simp only [List.length_append, List.length_cons, List.length_nil] at hl
      have := ih Z (by omega)
      rw [play_snoc, play_snoc]
      omega

/-- nobody gains more than the bound says -/
theorem play_G (B : Int) : ∀ (n : Nat) (f : Int) (Z : List Int), Z.length ≤ n → f ≤ B → (∀ z ∈ Z, z ≤ B) → play (f :: Z) + play Z ≤ 2 * B - f := by
  intro n
  induction n using Nat.strongRecOn with
  | _ n ih =>
    intro f Z hl hf hZ
    rcases nil_or_snoc Z with rfl | ⟨Z1, z, rfl⟩
    · rw [play_one, play_nil]; omega
    · have hz : z ≤ B := hZ z (by simp)
      rw [play_snoc]
      have key : z - play (f :: Z1) + play (Z1 ++ [z]) ≤ 2 * B - f := by
        cases Z1 with
        | nil =>
          rw [List.nil_append, play_one, play_one]; omega
        | cons z1 mid =>
          have hz1 : z1 ≤ B := hZ z1 (by simp)
          rw [List.cons_append, play_snoc]
          have g1 := play_ge_left f (z1 :: mid)
          have g2 := play_ge_right mid z
          have hmid : ∀ m ∈ mid, m ≤ B := fun m hm => hZ m (by simp [hm])
          simp only [List.length_append, List.length_cons, List.length_nil] at hl
          have g3 := ih (n - 1) (by omega) z1 mid (by omega) hz1 hmid
          omega
      have : f - play (Z1 ++ [z]) + play (Z1 ++ [z]) ≤ 2 * B - f := by omega
      omega

/-- the greatest heap at the right end is to be taken -/
theorem play_M (R : List Int) (q : Int) (h : ∀ r ∈ R, r ≤ q) : play (R ++ [q]) = q - play R := by
  cases R with
  | nil => rw [List.nil_append, play_one, play_nil]; omega
  | cons f Z =>
    rw [List.cons_append, play_snoc]
    have g1 := play_G q Z.length f Z (Nat.le_refl _) (h f (by simp)) (fun z hz => h z (by simp [hz]))
    have g2 := play_ge_right Z q
    omega
theorem play_M' (R : List Int) (q : Int) (h : ∀ r ∈ R, r ≤ q) : play (q :: R) = q - play R := by
  have e := play_M R.reverse q (fun r hr => h r (by simpa using hr))
  rw [play_rev] at e
  rw [← e, ← play_rev]
  simp

theorem play_B (b c : Int) (Y : List Int) (hbc : c ≤ b) (h : ∀ y ∈ Y, y ≤ c) : play (b :: c :: Y) = b - c + play Y := by
  rw [play_M' (c :: Y) b, play_M' Y c h]
  · omega
  · intro r hr
    rcases List.mem_cons.mp hr with rfl | hr
    · exact hbc
    · exact Int.le_trans (h r hr) hbc
theorem play_B' (b c : Int) (Y : List Int) (hbc : c ≤ b) (h : ∀ y ∈ Y, y ≤ c) : play (Y ++ [c, b]) = b - c + play Y := by
  have e := play_B b c Y.reverse hbc (fun r hr => h r (by simpa using hr))
  rw [play_rev] at e
  rw [← e, ← play_rev]
  simp

theorem play_ii (a b c : Int) (Y : List Int) (h1 : a ≤ b) (h2 : c ≤ b) : a - play (b :: c :: Y) ≤ play ((a - b + c) :: Y) := by
  have g1 := play_ge_left b (c :: Y)
  have g2 := play_lip c (a - b + c) (by omega) Y.length Y (Nat.le_refl _)
  omega

/-- a list that is not below c holds its greatest number, behind some list and ahead of another -/
theorem split_max (c : Int) : ∀ (Y : List Int), (∀ y ∈ Y, y ≤ c) ∨ ∃ Y1 m Y2, Y = Y1 ++ m :: Y2 ∧ c < m ∧ (∀ y ∈ Y, y ≤ m)
  | [] => .inl (fun _ h => nomatch h)
  | y :: r => by
    rcases split_max c r with h | ⟨Y1, m, Y2, rfl, hc, hm⟩
    · by_cases hy : y ≤ c
      · refine .inl (List.forall_mem_cons.mpr ⟨hy, h⟩)
      · refine .inr ⟨[], y, r, rfl, by omega, List.forall_mem_cons.mpr ⟨Int.le_refl _, fun z hz => ?_⟩⟩
        have := h z hz
        omega
    · by_cases hy : y ≤ m
      · exact .inr ⟨y :: Y1, m, Y2, rfl, hc, List.forall_mem_cons.mpr ⟨hy, hm⟩⟩
      · refine .inr ⟨[], y, Y1 ++ m :: Y2, rfl, by omega, List.forall_mem_cons.mpr ⟨Int.le_refl _, fun z hz => ?_⟩⟩
        have := hm z hz
        omega

def FusesTo (n : Nat) : Prop := ∀ (X Y : List Int) (a b c : Int), X.length + Y.length + 3 ≤ n → a ≤ b → c ≤ b → play (X ++ a :: b :: c :: Y) = play (X ++ (a - b + c) :: Y)

/-- a peak with heaps on both its sides: whoever moves leaves it standing -/
theorem fuse_inner {n : Nat} (ih : ∀ k, k < n → FusesTo k) (x : Int) (X Y : List Int) (y : Int) (a b c : Int) (hn : X.length + Y.length + 5 ≤ n) (h1 : a ≤ b) (h2 : c ≤ b) :
    play ((x :: X) ++ a :: b :: c :: (Y ++ [y])) = play ((x :: X) ++ (a - b + c) :: (Y ++ [y])) := by
  have e1 : (x :: X) ++ a :: b :: c :: (Y ++ [y]) = x :: ((X ++ a :: b :: c :: Y) ++ [y]) := by simp
  have e2 : (x :: X) ++ (a - b + c) :: (Y ++ [y]) = x :: ((X ++ (a - b + c) :: Y) ++ [y]) := by simp
  rw [e1, e2, play_snoc, play_snoc]
  have g1 := ih (n - 1) (by omega) X (Y ++ [y]) a b c (by simp; omega) h1 h2
  have g2 := ih (n - 1) (by omega) (x :: X) Y a b c (by simp; omega) h1 h2
  have e3 : X ++ a :: b :: c :: Y ++ [y] = X ++ a :: b :: c :: (Y ++ [y]) := by simp
  have e4 : X ++ (a - b + c) :: Y ++ [y] = X ++ (a - b + c) :: (Y ++ [y]) := by simp
  rw [e3, e4, g1]
  rw [List.cons_append, List.cons_append] at g2
  rw [g2]

/-- an inner peak of the rest: fused first, on both sides of the equation -/
theorem fuse_P {n : Nat} (ih : ∀ k, k < n → FusesTo k) (a b c : Int) (Y1 : List Int) (m r : Int) (Y3 : List Int) (y : Int) (hn : Y1.length + Y3.length + 6 ≤ n)
    (h1 : a ≤ b) (h2 : c ≤ b) (hm : ∀ z ∈ Y1, z ≤ m) (hc : c ≤ m) (hr : r ≤ m) :
    play (a :: b :: c :: (Y1 ++ m :: r :: (Y3 ++ [y]))) = play ((a - b + c) :: (Y1 ++ m :: r :: (Y3 ++ [y]))) := by
  rcases nil_or_snoc Y1 with rfl | ⟨Y0, p, rfl⟩
  · -- the left neighbour is c
    have g1 := fuse_inner ih a [b] Y3 y c m r (by simp at hn ⊢; omega) hc hr
    have g2 := ih (n - 1) (by omega) [] (Y3 ++ [y]) a b (c - m + r) (by simp at hn ⊢; omega) h1 (by omega)
    have g3 := ih (n - 1) (by omega) [] (Y3 ++ [y]) (a - b + c) m r (by simp at hn ⊢; omega) (by omega) hr
    simp only [List.cons_append, List.nil_append] at g1 g2 g3 ⊢
    rw [g1, g2, g3]
    congr 2
    omega
  · have hp : p ≤ m := hm p (by simp)
    have g1 := fuse_inner ih a (b :: c :: Y0) Y3 y p m r (by simp at hn ⊢; omega) hp hr
    have g2 := ih (n - 1) (by omega) [] (Y0 ++ (p - m + r) :: (Y3 ++ [y])) a b c (by simp at hn ⊢; omega) h1 h2
    have g3 := ih (n - 1) (by omega) ((a - b + c) :: Y0) (Y3 ++ [y]) p m r (by simp at hn ⊢; omega) hp hr
    simp only [List.cons_append, List.nil_append, List.append_assoc] at g1 g2 g3 ⊢
    rw [g1, g2, g3]

theorem fuse_left {n : Nat} (ih : ∀ k, k < n → FusesTo k) (a b c : Int) (Z : List Int) (y : Int) (hn : Z.length + 4 ≤ n) (h1 : a ≤ b) (h2 : c ≤ b) :
    play (a :: b :: c :: (Z ++ [y])) = play ((a - b + c) :: (Z ++ [y])) := by
  generalize hf : a - b + c = f
  have hfc : f ≤ c := by omega
  -- what both sides share
  have sh : play (a :: b :: c :: Z) = play (f :: Z) := by
    have := ih (n - 1) (by omega) [] Z a b c (by simp; omega) h1 h2
    rw [hf] at this
    simpa using this
  have L1 : play (a :: b :: c :: (Z ++ [y])) = max (a - play (b :: c :: (Z ++ [y]))) (y - play (f :: Z)) := by
    have e : a :: b :: c :: (Z ++ [y]) = a :: ((b :: c :: Z) ++ [y]) := by simp
    rw [e, play_snoc, sh]; simp
  have L2 := play_snoc f Z y
  have ii := play_ii a b c (Z ++ [y]) h1 h2
  rw [hf] at ii
  rcases split_max c (Z ++ [y]) with hall | ⟨Y1, m, Y2, eY, hcm, hmax⟩
  · -- c is the greatest
    have := play_B b c (Z ++ [y]) h2 hall
    omega
  · rcases nil_or_snoc Y2 with rfl | ⟨Y3, y', rfl⟩
    · -- the last is the greatest
      have e : Z = Y1 ∧ y = m := by
        have := List.append_inj' eY rfl
        exact ⟨this.1, by simpa using this.2⟩
      obtain ⟨rfl, rfl⟩ := e
      have := play_M (f :: Z) y (by
        intro r hr
        rcases List.mem_cons.mp hr with rfl | hr
        · omega
        · exact hmax r (by simp [hr]))
      rw [List.cons_append] at this
      omega
    · have e0 : Y1 ++ m :: (Y3 ++ [y']) = (Y1 ++ m :: Y3) ++ [y'] := by simp
      rw [e0] at eY
      have e : Z = Y1 ++ m :: Y3 ∧ y = y' := by
        have := List.append_inj' eY rfl
        exact ⟨this.1, by simpa using this.2⟩
      obtain ⟨rfl, rfl⟩ := e
      cases Y3 with
      | cons r Y3 =>
        have := fuse_P ih a b c Y1 m r Y3 y (by simp at hn; omega) h1 h2 (fun z hz => hmax z (by simp [hz])) (by omega) (hmax r (by simp))
        rw [hf] at this
        simpa using this
      | nil =>
        have hym : y ≤ m := hmax y (by simp)
        rcases nil_or_snoc Y1 with rfl | ⟨Y0, p, rfl⟩
        · -- a b c m y
          have g1 := ih (n - 1) (by omega) [b] [] c m y (by simp at hn ⊢; omega) (by omega) hym
          have g2 := ih (n - 1) (by omega) [] [] f m y (by simp at hn ⊢; omega) (by omega) hym
          simp only [List.cons_append, List.nil_append] at g1 g2 L1 L2 ⊢
          rw [play_two] at g1
          rw [play_one] at g2
          rw [g1, play_two] at L1
          rw [g2, L1]
          omega
        · -- a peak at either edge
          have hpm : p ≤ m := hmax p (by simp)
          generalize hg : p - m + y = g
          have e1 : play (b :: c :: (Y0 ++ [p] ++ [m] ++ [y])) = play (b :: c :: (Y0 ++ [g])) := by
            have := ih (n - 1) (by omega) (b :: c :: Y0) [] p m y (by simp at hn ⊢; omega) hpm hym
            rw [hg] at this
            simpa using this
          have e2 : play (f :: (Y0 ++ [p] ++ [m] ++ [y])) = play (f :: (Y0 ++ [g])) := by
            have := ih (n - 1) (by omega) (f :: Y0) [] p m y (by simp at hn ⊢; omega) hpm hym
            rw [hg] at this
            simpa using this
          have e3 : play (Y0 ++ [p] ++ [m] ++ [y]) = play (Y0 ++ [g]) := by
            have := ih (n - 1) (by omega) Y0 [] p m y (by simp at hn ⊢; omega) hpm hym
            rw [hg] at this
            simpa using this
          have e4 : play (a :: b :: c :: (Y0 ++ [g])) = play (f :: (Y0 ++ [g])) := by
            have := ih (n - 1) (by omega) [] (Y0 ++ [g]) a b c (by simp at hn ⊢; omega) h1 h2
            rw [hf] at this
            simpa using this
          have e5 : play (a :: b :: c :: Y0) = play (f :: Y0) := by
            have := ih (n - 1) (by omega) [] Y0 a b c (by simp at hn ⊢; omega) h1 h2
            rw [hf] at this
            simpa using this
          have L3 : play (a :: b :: c :: (Y0 ++ [g])) = max (a - play (b :: c :: (Y0 ++ [g]))) (g - play (f :: Y0)) := by
            have e : a :: b :: c :: (Y0 ++ [g]) = a :: ((b :: c :: Y0) ++ [g]) := by simp
            rw [e, play_snoc]
            simp only [List.cons_append]
            rw [e5]
          have L4 := play_snoc f Y0 g
          have ef : Y0 ++ [p] ++ [m] = Y0 ++ [p, m] := by simp
          rw [e1] at L1
          rw [e2, e3] at L2
          rw [e2]
          rcases split_max c (Y0 ++ [g]) with hall | ⟨Y1, m', Y2, eY', hcm', hmax'⟩
          · have := play_B b c (Y0 ++ [g]) h2 hall
            omega
          · by_cases hp : ∀ z ∈ f :: Y0, z ≤ p
            · have := play_B' m p (f :: Y0) hpm hp
              rw [List.cons_append, ← ef] at this
              omega
            · -- an inner peak between them
              have hin : ∃ Y1 m' Y2, Y0 = Y1 ++ m' :: Y2 ∧ c < m' ∧ p < m' ∧ (∀ z ∈ Y0, z ≤ m') := by
                rcases split_max (max c p) Y0 with hall | ⟨Y1, m', Y2, e, hlt, hmax⟩
                · exfalso
                  by_cases hcp : c ≤ p
                  · refine hp fun z hz => ?_
                    rcases List.mem_cons.mp hz with rfl | hz
                    · omega
                    · have := hall z hz; omega
                  · have hm : m' ∈ Y0 ++ [g] := by rw [eY']; simp
                    rcases List.mem_append.mp hm with hm | hm
                    · have := hall m' hm; omega
                    · have : m' = g := by simpa using hm
                      omega
                · exact ⟨Y1, m', Y2, e, by omega, by omega, hmax⟩
              obtain ⟨Y1, m', Y2, rfl, hc', hp', hmax''⟩ := hin
              rw [← e2]
              cases Y2 with
              | nil =>
                have := fuse_P ih a b c Y1 m' p [m] y (by simp at hn ⊢; omega) h1 h2 (fun z hz => hmax'' z (by simp [hz])) (by omega) (by omega)
                rw [hf] at this
                simpa using this
              | cons r Y2 =>
                have := fuse_P ih a b c Y1 m' r (Y2 ++ [p, m]) y (by simp at hn ⊢; omega) h1 h2 (fun z hz => hmax'' z (by simp [hz])) (by omega) (hmax'' r (by simp))
                rw [hf] at this
                simpa using this

theorem fuses : ∀ n, FusesTo n := by
  intro n
  induction n using Nat.strongRecOn with
  | _ n ih =>
    intro X Y a b c hn h1 h2
    cases X with
    | nil =>
      rcases nil_or_snoc Y with rfl | ⟨Z, y, rfl⟩
      · simp only [List.nil_append]
        have e : [a, b, c] = a :: ([b] ++ [c]) := rfl
        rw [e, play_snoc, play_one]
        simp only [List.cons_append, List.nil_append]
        rw [play_two, play_two]
        omega
      · exact fuse_left ih a b c Z y (by simp at hn; omega) h1 h2
    | cons x X =>
      rcases nil_or_snoc Y with rfl | ⟨Z, y, rfl⟩
      · have g := fuse_left ih c b a X.reverse x (by simp at hn ⊢; omega) h2 h1
        rw [← play_rev] at g
        rw [← play_rev ((c - b + a) :: _)] at g
        simp only [List.reverse_cons, List.reverse_append, List.reverse_nil, List.nil_append, List.reverse_reverse, List.append_assoc, List.cons_append] at g
        simp only [List.cons_append]
        rw [g]
        congr 3
        simp
        omega
      · exact fuse_inner ih x X Z y a b c (by simp at hn; omega) h1 h2

theorem play_fuse (X Y : List Int) (a b c : Int) (h1 : a ≤ b) (h2 : c ≤ b) : play (X ++ a :: b :: c :: Y) = play (X ++ (a - b + c) :: Y) :=
  fuses _ X Y a b c (Nat.le_refl _) h1 h2
end Mine
end

section
namespace Mine

/-- the stack of the told heaps, its top first: as long as the one below the top is no less than both its neighbours, the three become one -/
def settle : List Int → List Int
  | b :: p :: a :: r => if max a b ≤ p then settle ((a - p + b) :: r) else b :: p :: a :: r
  | l => l
termination_by l => l.length
decreasing_by simp

def stackOf (heaps : List Int) : List Int := heaps.foldl (fun st c => settle (c :: st)) []
def alt (l : List Int) : Int := l.foldl (fun lead c => c - lead) 0

def Valley (l : List Int) : Prop := ∀ X a b c Y, l = X ++ a :: b :: c :: Y → ¬ (a ≤ b ∧ c ≤ b)

theorem Valley.tail {x : Int} {l : List Int} (h : Valley (x :: l)) : Valley l := fun X a b c Y e => h (x :: X) a b c Y (by rw [e]; rfl)
theorem Valley.init {x : Int} {l : List Int} (h : Valley (l ++ [x])) : Valley l := fun X a b c Y e => h X a b c (Y ++ [x]) (by rw [e]; simp)
theorem Valley.nil : Valley [] := fun X a b c Y e => by simp at e
theorem Valley.reverse {l : List Int} (h : Valley l) : Valley l.reverse := fun X a b c Y e hp => by
  have := congrArg List.reverse e
  rw [List.reverse_reverse] at this
  exact h Y.reverse c b a X.reverse (by rw [this]; simp) ⟨hp.2, hp.1⟩

theorem settle_three (b p a : Int) (r : List Int) : settle (b :: p :: a :: r) = if max a b ≤ p then settle ((a - p + b) :: r) else b :: p :: a :: r := by
  rw [settle]
theorem settle_nil : settle [] = [] := by rw [settle]; simp
theorem settle_one (a : Int) : settle [a] = [a] := by rw [settle]; simp
theorem settle_two (a b : Int) : settle [a, b] = [a, b] := by rw [settle]; simp

theorem valley_short {l : List Int} (h : l.length < 3) : Valley l := fun X a b c Y e => by
  rw [e] at h; simp at h; omega

theorem settle_valley : ∀ (n : Nat) (c : Int) (st : List Int), st.length ≤ n → Valley st → Valley (settle (c :: st)) := by
  intro n
  induction n using Nat.strongRecOn with
  | _ n ih =>
    intro c st hl hv
    match st, hl, hv with
    | [], _, _ => rw [settle_one]; exact valley_short (by simp)
    | [p], _, _ => rw [settle_two]; exact valley_short (by simp)
    | p :: a :: r, hl, hv =>
      rw [settle_three]
      split
      · simp at hl
        exact ih (n - 1) (by omega) _ r (by omega) hv.tail.tail
      · rename_i hn
        intro X a' b' c' Y e
        cases X with
        | nil =>
          simp at e
          obtain ⟨rfl, rfl, rfl, rfl⟩ := e
          omega
        | cons x X =>
          simp at e
          exact hv X a' b' c' Y e.2

theorem settle_play : ∀ (n : Nat) (l R : List Int), l.length ≤ n → play ((settle l).reverse ++ R) = play (l.reverse ++ R) := by
  intro n
  induction n using Nat.strongRecOn with
  | _ n ih =>
    intro l R hl
    match l, hl with
    | [], _ => rw [settle_nil]
    | [a], _ => rw [settle_one]
    | [a, b], _ => rw [settle_two]
    | b :: p :: a :: r, hl =>
      rw [settle_three]
      split
      · simp at hl
        rw [ih (n - 1) (by omega) _ R (by simp; omega)]
        have := play_fuse r.reverse R a p b (by omega) (by omega)
        simp only [List.reverse_cons, List.append_assoc, List.singleton_append, List.cons_append, List.nil_append]
        exact this.symm
      · rfl

theorem stack_all : ∀ (heaps st : List Int), Valley st → Valley (heaps.foldl (fun st c => settle (c :: st)) st) ∧
    play (heaps.foldl (fun st c => settle (c :: st)) st).reverse = play (st.reverse ++ heaps)
  | [], st, h => by simp [h]
  | c :: r, st, h => by
    have hv := settle_valley st.length c st (Nat.le_refl _) h
    obtain ⟨h1, h2⟩ := stack_all r (settle (c :: st)) hv
    refine ⟨h1, ?_⟩
    rw [List.foldl_cons, h2, settle_play (c :: st).length (c :: st) r (Nat.le_refl _)]
    simp

theorem stack_valley (heaps : List Int) : Valley (stackOf heaps) := (stack_all heaps [] Valley.nil).1
theorem stack_play (heaps : List Int) : play (stackOf heaps).reverse = play heaps := by
  have := (stack_all heaps [] Valley.nil).2
  simpa [stackOf] using this

theorem alt_snoc (l : List Int) (z : Int) : alt (l ++ [z]) = z - alt l := by simp [alt]

theorem valley_alt : ∀ (n : Nat) (l s : List Int), l.length ≤ n → Valley l → s.Perm l → s.Pairwise (· ≤ ·) → alt s = play l := by
  intro n
  induction n with
  | zero =>
    intro l s hl _ hp _
    have : l = [] := List.length_eq_zero_iff.mp (by omega)
    subst this
    rw [List.Perm.eq_nil hp, play_nil]; rfl
  | succ n ih =>
    intro l s hl hv hp hs
    rcases nil_or_snoc s with rfl | ⟨s0, z, rfl⟩
    · have : l = [] := (List.Perm.nil_eq hp).symm
      subst this
      rw [play_nil]; rfl
    · have hz : ∀ x ∈ s0, x ≤ z := fun x hx => (List.pairwise_append.mp hs).2.2 x hx z (by simp)
      have hall : ∀ x ∈ l, x ≤ z := fun x hx => by
        rcases List.mem_append.mp (hp.mem_iff.mpr hx) with h | h
        · exact hz x h
        · rw [List.mem_singleton.mp h]; exact Int.le_refl _
      have hzl : z ∈ l := hp.mem_iff.mp (by simp)
      have hs0 : s0.Pairwise (· ≤ ·) := (List.pairwise_append.mp hs).1
      have hp1 : (z :: s0).Perm l := (List.perm_append_comm (l₁ := [z]) (l₂ := s0)).trans hp
      rw [alt_snoc]
      obtain ⟨Y1, Y2, e⟩ := List.append_of_mem hzl
      -- z at an end
      by_cases h1 : Y1 = []
      · subst h1
        rw [List.nil_append] at e
        subst e
        have hr : ∀ r ∈ Y2, r ≤ z := fun r hr => hall r (by simp [hr])
        rw [play_M' Y2 z hr, ih Y2 s0 (by simp at hl; omega) hv.tail (List.Perm.cons_inv hp1) hs0]
      · by_cases h2 : Y2 = []
        · subst h2
          subst e
          have hr : ∀ r ∈ Y1, r ≤ z := fun r hr => hall r (by simp [hr])
          have hp2 : (z :: s0).Perm (z :: Y1) := hp1.trans (List.perm_append_comm (l₁ := Y1) (l₂ := [z]))
          rw [play_M Y1 z hr, ih Y1 s0 (by simp at hl; omega) hv.init (List.Perm.cons_inv hp2) hs0]
        · exfalso
          rcases nil_or_snoc Y1 with h | ⟨X, a, rfl⟩
          · exact h1 h
          · cases Y2 with
            | nil => exact h2 rfl
            | cons c Y =>
              refine hv X a z c Y (by rw [e]; simp) ⟨hall a (by rw [e]; simp), hall c (by rw [e]; simp)⟩

/-- THE PLAIN LAW: what is told of the heaps is the game's value -/
theorem told_play (heaps st s : List Int) (hst : st = (stackOf heaps).reverse) (hp : s.Perm st) (hs : s.Pairwise (· ≤ ·)) : alt s = play heaps := by
  rw [← stack_play heaps, ← hst]
  refine valley_alt st.length st s (Nat.le_refl _) ?_ hp hs
  rw [hst]
  exact (stack_valley heaps).reverse
end Mine
end

section
open PySem
namespace Mine.Re
open PySem.Sre

def C : Array Nat := #[14, 8, 1, 2, 4294967295, 1, 1, 46, 0, 16, 46, 24, 9, 1, 4294967295, 13, 4, 8, 0, 0, 1, 6, 5, 1]

def at_ (T : Array Nat) (s : Nat) (first : Bool) (seen : Seen) : M :=
  { code := C, text := T, lim := T.size, start := s, lastStart := T.size, wholeText := false, mustAdvance := false, pc := 9, pos := s, handed := s, outermost := first,
    marks := #[], lastmark := -1, lastindex := -1, loops := #[], inner := none, frames := [{ wait := .nextStart, pc := 9, pos := s, outermost := first }], weight := 1, answer := none, seen := seen, outcome := none }

theorem w_9 : C.getD 9 0 = 16 := rfl
theorem step_lit {T : Array Nat} {s : Nat} {first : Bool} {seen : Seen} (h : T.size ≤ s ∨ T.getD s 0 ≠ 46) :
    ∃ seen', M.step (at_ T s first seen) = { at_ T s first seen' with answer := some false } := by
  refine ⟨seen.add 16, ?_⟩
  have e : M.step (at_ T s first seen) = (if (at_ T s first (seen.add 16)).pos ≥ (at_ T s first (seen.add 16)).lim then (at_ T s first (seen.add 16)).say false else
    match accepts C 9 (T.getD s 0) (seen.add 16) with
    | .error why => (at_ T s first (seen.add 16)).stick why
    | .ok (false, seen) => (at_ T s first seen).say false
    | .ok (true, seen) => { at_ T s first seen with pc := 11, pos := s + 1 }) := rfl
  rw [e]
  split
  · rfl
  · rename_i hn
    have hs : ¬ T.size ≤ s := hn
    have hne : (T.getD s 0 == 46) = false := by simpa using h.resolve_left hs
    have ea : accepts C 9 (T.getD s 0) (seen.add 16) = .ok (T.getD s 0 == 46, seen.add 16) := rfl
    rw [ea, hne]
    rfl

theorem step_dot {T : Array Nat} {s : Nat} {first : Bool} {seen : Seen} (h1 : s < T.size) (h2 : T.getD s 0 = 46) :
    ∃ seen', M.step (at_ T s first seen) = { at_ T s first seen' with pc := 11, pos := s + 1 } := by
  refine ⟨seen.add 16, ?_⟩
  have e : M.step (at_ T s first seen) = (if (at_ T s first (seen.add 16)).pos ≥ (at_ T s first (seen.add 16)).lim then (at_ T s first (seen.add 16)).say false else
    match accepts C 9 (T.getD s 0) (seen.add 16) with
    | .error why => (at_ T s first (seen.add 16)).stick why
    | .ok (false, seen) => (at_ T s first seen).say false
    | .ok (true, seen) => { at_ T s first seen with pc := 11, pos := s + 1 }) := rfl
  rw [e]
  have hp : ¬ ((at_ T s first (seen.add 16)).pos ≥ (at_ T s first (seen.add 16)).lim) := fun hn => absurd (show T.size ≤ s from hn) (by omega)
  have hne : (T.getD s 0 == 46) = true := by simpa using h2
  have ea : accepts C 9 (T.getD s 0) (seen.add 16) = .ok (T.getD s 0 == 46, seen.add 16) := rfl
  rw [if_neg hp, ea, hne]

theorem acc_digit (c : Nat) (seen : Seen) (h : isDigit c = false) : ∃ seen', accepts C 15 c seen = .ok (false, seen') := by
  have e : accepts C 15 c seen = inSet C c C.size 17 true seen := rfl
  rw [e]
  have e2 : inSet C c C.size 17 true seen = (do
      if ← category 0 c then pure (true, (seen.add 8).add 55) else inSet C c 23 19 true ((seen.add 8).add 55)) := by
    show inSet C c (23 + 1) 17 true seen = _
    unfold inSet
    rfl
  rw [e2]
  have e3 : category 0 c = .ok (isDigit c != false) := rfl
  have e4 : inSet C c 23 19 true ((seen.add 8).add 55) = .ok (false, ((seen.add 8).add 55).add 0) := rfl
  rw [e3, h]
  exact ⟨_, e4⟩

theorem step_rep {T : Array Nat} {s : Nat} {first : Bool} {seen : Seen} (h : ∀ c, T[s + 1]? = some c → isDigit c = false) :
    ∃ seen', M.step { at_ T s first seen with pc := 11, pos := s + 1 } = { at_ T s first seen' with pc := 11, pos := s + 1, answer := some false } := by
  have e : M.step { at_ T s first seen with pc := 11, pos := s + 1 } =
    (if ((1 : Nat) : Int) > (T.size : Int) - ((s + 1 : Nat) : Int) then ({ at_ T s first (seen.add 24) with pc := 11, pos := s + 1 } : M).say false else
      match Sre.run C T 15 (min 4294967295 ((T.size : Int) - ((s + 1 : Nat) : Int)).toNat) (s + 1) 0 ((seen.add 24).add 13) with
      | .error why => ({ at_ T s first (seen.add 24) with pc := 11, pos := s + 1 } : M).stick why
      | .ok (n, seen) =>
        if n < 1 then ({ at_ T s first seen with pc := 11, pos := s + 1 } : M).say false else
        ({ at_ T s first seen with pc := 11, pos := s + 1 + n } : M).afterRun .giveBack n (({ at_ T s first seen with pc := 11, pos := s + 1 + n } : M).keep false)) := rfl
  rw [e]
  split
  · exact ⟨_, rfl⟩
  · rename_i hn
    have hlt : s + 1 < T.size := by omega
    have hk : min 4294967295 ((T.size : Int) - ((s + 1 : Nat) : Int)).toNat = (min 4294967295 ((T.size : Int) - ((s + 1 : Nat) : Int)).toNat - 1) + 1 := by omega
    rw [hk]
    have hd := h (T.getD (s + 1) 0) (by simp [hlt])
    obtain ⟨seen', ha⟩ := acc_digit (T.getD (s + 1) 0) ((seen.add 24).add 13) hd
    have er : Sre.run C T 15 ((min 4294967295 ((T.size : Int) - ((s + 1 : Nat) : Int)).toNat - 1) + 1) (s + 1) 0 ((seen.add 24).add 13) = .ok (0, seen') := by
      unfold Sre.run
      rw [ha]
      rfl
    rw [er]
    exact ⟨_, rfl⟩

theorem step_back {T : Array Nat} {s pc pos : Nat} {first : Bool} {seen : Seen} (h : s < T.size) :
    M.step { at_ T s first seen with pc := pc, pos := pos, answer := some false } = at_ T (s + 1) false seen := by
  have e : M.step { at_ T s first seen with pc := pc, pos := pos, answer := some false } =
    (if s < T.size then at_ T (s + 1) false seen else ({ at_ T s first seen with frames := [], weight := 0 } : M).say false) := rfl
  rw [e, if_pos h]

/-- after so many steps the machine says no -/
def isFailed : Option Sre.Outcome → Bool
  | some .failed => true
  | _ => false
def Fails (n : Nat) (m : M) : Prop := isFailed (M.runFor n m).outcome = true
theorem isFailed_some : ∀ {o : Option Sre.Outcome}, isFailed o = true → o.isSome = true
  | some _, _ => rfl
theorem runFor_succ (n : Nat) (m : M) : M.runFor (n + 1) m = if m.outcome.isSome then m else M.runFor n m.step := rfl
theorem fails_step {n : Nat} {m : M} (h0 : m.outcome.isSome = false) (h : Fails n m.step) : Fails (n + 1) m := by
  unfold Fails
  rw [runFor_succ, h0]
  exact h
theorem runFor_done : ∀ (n : Nat) (m : M), m.outcome.isSome = true → M.runFor n m = m
  | 0, _, _ => rfl
  | n + 1, m, h => by rw [runFor_succ, h]; rfl
theorem runFor_add : ∀ (a b : Nat) (m : M), M.runFor (a + b) m = M.runFor b (M.runFor a m)
  | 0, b, m => by rw [Nat.zero_add]; rfl
  | a + 1, b, m => by
    rw [show a + 1 + b = (a + b) + 1 by omega, runFor_succ, runFor_succ]
    split
    · rename_i h; rw [runFor_done b m h]
    · exact runFor_add a b m.step
theorem fails_more {n k : Nat} {m : M} (h : Fails n m) : Fails (n + k) m := by
  unfold Fails at *
  rw [runFor_add]
  generalize M.runFor n m = m' at h
  rw [runFor_done k m' (isFailed_some h)]
  exact h

theorem fails_at (T : Array Nat) (h : ∀ i c, T[i]? = some 46 → T[i + 1]? = some c → isDigit c = false) :
    ∀ (k s : Nat) (first : Bool) (seen : Seen), s + k = T.size → Fails (3 * k + 4) (at_ T s first seen)
  | 0, s, first, seen, e => by
    obtain ⟨seen', h1⟩ := step_lit (T := T) (s := s) (first := first) (seen := seen) (.inl (by omega))
    refine fails_step rfl ?_
    rw [h1]
    refine fails_step rfl ?_
    have e2 : M.step { at_ T s first seen' with answer := some false } =
      (if s < T.size then at_ T (s + 1) false seen' else ({ at_ T s first seen' with frames := [], weight := 0 } : M).say false) := rfl
    rw [e2, if_neg (by omega)]
    refine fails_step rfl ?_
    exact fails_more (n := 0) (k := 1) rfl
  | k + 1, s, first, seen, e => by
    have hs : s < T.size := by omega
    by_cases hd : T.getD s 0 = 46
    · obtain ⟨seen1, h1⟩ := step_dot (first := first) (seen := seen) hs hd
      rw [show 3 * (k + 1) + 4 = (3 * k + 4) + 1 + 1 + 1 by omega]
      refine fails_step rfl ?_
      rw [h1]
      obtain ⟨seen2, h2⟩ := step_rep (T := T) (s := s) (first := first) (seen := seen1) (fun c hc => h s c (by
        have : T.getD s 0 = T[s] := by simp [hs]
        rw [Array.getElem?_eq_getElem hs, ← this, hd]) hc)
      refine fails_step rfl ?_
      rw [h2]
      refine fails_step rfl ?_
      rw [step_back hs]
      exact fails_at T h k (s + 1) false seen2 (by omega)
    · obtain ⟨seen1, h1⟩ := step_lit (T := T) (s := s) (first := first) (seen := seen) (.inr hd)
      rw [show 3 * (k + 1) + 4 = ((3 * k + 4) + 1) + 1 + 1 by omega]
      refine fails_step rfl ?_
      rw [h1]
      refine fails_step rfl ?_
      have := step_back (T := T) (s := s) (pc := 9) (pos := s) (first := first) (seen := seen1) hs
      have e3 : ({ at_ T s first seen1 with answer := some false } : M) = { at_ T s first seen1 with pc := 9, pos := s, answer := some false } := rfl
      rw [e3, this]
      exact fails_more (k := 1) (fails_at T h k (s + 1) false seen1 (by omega))

theorem search_fails (T : Array Nat) (h : ∀ i c, T[i]? = some 46 → T[i + 1]? = some c → isDigit c = false) : Fails (3 * T.size + 4) (Sre.forSearch C T 0 0 T.size false) := by
  by_cases hs : T.size < 2
  · have e : (Sre.forSearch C T 0 0 T.size false).answer = some false ∧ (Sre.forSearch C T 0 0 T.size false).frames = [] ∧ (Sre.forSearch C T 0 0 T.size false).outcome = none := by
      have hc : (decide (0 > T.size) || decide (T.size - 0 < 2)) = true := by simp; omega
      have e0 : Sre.forSearch C T 0 0 T.size false = if (decide (0 > T.size) || decide (T.size - 0 < 2)) = true then ({ at_ T 0 true (({} : Seen).add 14) with lastStart := 0, outermost := true, frames := [], weight := 0 } : M).say false else at_ T 0 true (({} : Seen).add 14) := rfl
      rw [e0, if_pos hc]
      exact ⟨rfl, rfl, rfl⟩
    obtain ⟨e1, e2, e3⟩ := e
    refine fails_step (by rw [e3]; rfl) ?_
    refine fails_more (n := 0) (k := _) ?_ |> fun x => by rw [Nat.zero_add] at x; exact x
    unfold Fails
    show isFailed (M.step _).outcome = true
    unfold M.step
    rw [e1, e2, e3]
    rfl
  · have hc : ¬ (decide (0 > T.size) || decide (T.size - 0 < 2)) = true := by simp; omega
    have e0 : Sre.forSearch C T 0 0 T.size false = if (decide (0 > T.size) || decide (T.size - 0 < 2)) = true then ({ at_ T 0 true (({} : Seen).add 14) with lastStart := 0, outermost := true, frames := [], weight := 0 } : M).say false else at_ T 0 true (({} : Seen).add 14) := rfl
    rw [e0, if_neg hc]
    exact fails_at T h T.size 0 true _ (by omega)

section
open PySem.Builtin.Re PySem.Calls
variable {Md : Model} {A : Around} {E : Value → Shared → Prop} {s : Shared}

theorem drive_fails {Q : M → Shared → Prop} (h : ∀ m', isFailed m'.outcome = true → Q m' s) : ∀ (turns n : Nat) (m : M), n ≤ 4 * turns → 0 < turns → Fails n m → wpAny Md A (reDrive turns m) Q E s
  | 0, _, _, _, h0, _ => absurd h0 (Nat.lt_irrefl 0)
  | turns + 1, n, m, hn, _, hf => by
    unfold reDrive
    show wpAny Md A (if (M.runFor 4 m).outcome.isSome = true then pure (M.runFor 4 m) else (do rule "sre.turn"; reDrive turns (M.runFor 4 m))) Q E s
    split
    · rename_i ho
      refine wpAny_pure (h _ ?_)
      -- it has ended: as it ends
      have h1 : Fails (4 + n) m := by rw [Nat.add_comm]; exact fails_more hf
      unfold Fails at h1
      rw [runFor_add, runFor_done n _ ho] at h1
      exact h1
    · rename_i ho
      have h4 : 4 < n := by
        rcases Nat.lt_or_ge 4 n with hh | hh
        · exact hh
        · exfalso
          obtain ⟨k, hk⟩ := Nat.le.dest hh
          have := fails_more (k := k) hf
          rw [hk] at this
          exact ho (isFailed_some this)
      refine wpAny_bind (wpAny_rule ?_)
      refine drive_fails h turns (n - 4) (M.runFor 4 m) (by omega) (by omega) ?_
      unfold Fails at hf ⊢
      rw [show n = 4 + (n - 4) by omega, runFor_add] at hf
      exact hf

theorem rules_loop {c : Nat → Bool} {nm : Nat → String} {Q : PUnit → Shared → Prop} (h : Q ⟨⟩ s) : ∀ l : List Nat,
    wpAny Md A (forIn l PUnit.unit fun i _ => (if c i = true then (rule (nm i) >>= fun _ => pure (ForInStep.yield PUnit.unit)) else pure (ForInStep.yield PUnit.unit) : Sem (ForInStep PUnit))) Q E s
  | [] => wpAny_pure h
  | i :: r => by
    rw [List.forIn_cons]
    refine wpAny_bind ?_
    have go : wpAny Md A (forIn r PUnit.unit fun i _ => (if c i = true then (rule (nm i) >>= fun _ => pure (ForInStep.yield PUnit.unit)) else pure (ForInStep.yield PUnit.unit) : Sem (ForInStep PUnit))) Q E s := rules_loop h r
    by_cases hc : c i = true
    · simp only [hc, if_true]
      exact wpAny_bind (wpAny_rule (wpAny_pure go))
    · simp only [hc]
      exact wpAny_pure go

theorem runToEnd_fails {m : M} {n : Nat} {Q : Option M → Shared → Prop} (hn : n ≤ 2 ^ 60) (hf : Fails n m) (h : Q none s) : wpAny Md A (reRunToEnd m) Q E s := by
  unfold reRunToEnd
  refine wpAny_bind (drive_fails (fun m' ho => ?_) (2 ^ 64) n m (by omega) (by omega) hf)
  refine wpAny_bind (rules_loop ?_ _)
  unfold isFailed at ho
  split at ho
  · rename_i e
    rw [e]
    exact wpAny_pure h
  · cases ho

section
variable {prog : Program} {w : World} {A : Around} {E : Value → Shared → Prop} {s : Shared} {K : PySem.W.Frag} {P cs : Addr} {v0 v1 : Value} {tg : Tok}
open PySem.W

theorem target (X : K.In s.heap) (hP : K.lookup P = some { cls := .type "re.Pattern", data := .fields #[v0, v1, .int 0 0, .none, .none, .ref cs, .int 0 0] })
    (hc : K.lookup cs = some { cls := .type "tuple", data := .seq #[.int 14 0, .int 8 0, .int 1 0, .int 2 0, .int 4294967295 0, .int 1 0, .int 1 0, .int 46 0, .int 0 0, .int 16 0, .int 46 0, .int 24 0, .int 9 0, .int 1 0, .int 4294967295 0, .int 13 0, .int 4 0, .int 8 0, .int 0 0, .int 0 0, .int 1 0, .int 6 0, .int 5 0, .int 1 0] })
    (x : Str) (t : Tok) {Q : ReTarget → Shared → Prop}
    (h : ∀ T : ReTarget, T.code = C → T.text = x.cps → T.groups = 0 → T.pos = 0 → T.lim = min (2 ^ 63 - 1) x.cps.size → Q T s) : wpAny (model prog w) A (reTarget "re.Pattern.search" "search" ⟨[.ref P, .str x t], []⟩) Q E s := by
  have e1 : reNamed "re.Pattern.search" "search" ["string", "pos", "endpos"] 1 [.str x t] [] = pure [some (.str x t), none, none] := rfl
  unfold reTarget
  dsimp only
  rw [e1]
  refine wpAny_bind (wpAny_pure ?_)
  dsimp only
  refine wpAny_bind (wpAny_pure ?_)
  refine wpAny_bind (wpAny_pure ?_)
  refine wpAny_bind (m := fieldsOf (.ref P)) ?_
  unfold fieldsOf
  refine wpAny_bind (wpAny_load (X _ _ hP) (wpAny_pure ?_))
  have e2 : reTextOf (.str x t) = pure (x.cps, 0) := rfl
  rw [e2]
  refine wpAny_bind (wpAny_pure ?_)
  have e3 : reNoCollectionInside (.str x t) 0 = pure PUnit.unit := rfl
  simp only [e3]
  have g6 : (#[v0, v1, Value.int 0 0, Value.none, Value.none, Value.ref cs, Value.int 0 0] : Array Value).getD 6 Value.none = .int 0 0 := rfl
  have g5 : (#[v0, v1, Value.int 0 0, Value.none, Value.none, Value.ref cs, Value.int 0 0] : Array Value).getD 5 Value.none = .ref cs := rfl
  have g2 : (#[v0, v1, Value.int 0 0, Value.none, Value.none, Value.ref cs, Value.int 0 0] : Array Value).getD 2 Value.none = .int 0 0 := rfl
  simp only [g6, g5, g2]
  rw [if_neg (by decide), if_neg (by decide)]
  refine wpAny_bind (wpAny_pure ?_)
  refine wpAny_bind ?_
  unfold reRawItems seqItems?
  dsimp only
  refine wpAny_bind (wpAny_bind (wpAny_load (X _ _ hc) (wpAny_pure (wpAny_pure (wpAny_pure ?_)))))
  exact h _ (by dsimp only; decide +kernel) rfl rfl (by simp) rfl

theorem slot_search : Slot "re.Pattern" "search" "re.Pattern.search" :=
  .of (owner := "re.Pattern") (n := "search") (by rw [typeLookup_type, builtinLookup_eq_fast]; kernel_rfl) (by decide +kernel) (by decide +kernel) (by decide +kernel)
    (by first | exact .inl (by decide +kernel) | exact .inr (by decide +kernel)) (by rw [isSubtype_type]; kernel_rfl)
theorem type_search : typeOf (.builtin "re.Pattern.search") = pure (.type "method_descriptor") := by show builtinType _ = _; rw [builtinType_eq_fast]; kernel_rfl
theorem entry_search : entryFor table "re.Pattern.search" = some Builtin.«re.Pattern.search» := entryFor_of_tree (by kernel_rfl)
theorem plainAttrs_pattern : PlainAttrs "re.Pattern" :=
  ⟨⟨"object.__getattribute__", by rw [typeLookup_type, builtinLookup_eq_fast]; kernel_rfl, by decide +kernel⟩, by rw [typeLookup_type, builtinLookup_eq_fast]; kernel_rfl⟩
theorem owner_pattern : Manifest.owners.lookup (String.ofList ['n', 'r', 'e', 't', 't', 'a', 'P', '.', 'e', 'r'].reverse) = some Manifest.sig_re_Pattern := by kernel_rfl
theorem args_search (a b : Value) : argsOk "re.Pattern.search" ⟨[a, b], []⟩ := by
  unfold argsOk
  rw [signature?_of (id := "re.Pattern.search") (n := ['h', 'c', 'r', 'a', 'e', 's']) (o := ['n', 'r', 'e', 't', 't', 'a', 'P', '.', 'e', 'r']) (by kernel_rfl) owner_pattern]
  kernel_rfl

theorem method_search (X : K.In s.heap) (hP : K.lookup P = some { cls := .type "re.Pattern", data := .fields #[v0, v1, .int 0 0, .none, .none, .ref cs, .int 0 0] }) {pl : Sem Bool} {Q : Value × List Value → Shared → Prop}
    (h : Q (.builtin "re.Pattern.search", [.ref P]) s) : wpAny (model prog w) A (getMethod (.ref P) "search" pl) Q E s :=
  getMethod_builtin ⟨_, X _ _ hP, rfl⟩ plainAttrs_pattern slot_search type_search (fun a e => by cases e; exact ⟨_, X _ _ hP, rfl⟩) h

theorem call_search (X : K.In s.heap) (hP : K.lookup P = some { cls := .type "re.Pattern", data := .fields #[v0, v1, .int 0 0, .none, .none, .ref cs, .int 0 0] })
    (hc : K.lookup cs = some { cls := .type "tuple", data := .seq #[.int 14 0, .int 8 0, .int 1 0, .int 2 0, .int 4294967295 0, .int 1 0, .int 1 0, .int 46 0, .int 0 0, .int 16 0, .int 46 0, .int 24 0, .int 9 0, .int 1 0, .int 4294967295 0, .int 13 0, .int 4 0, .int 8 0, .int 0 0, .int 0 0, .int 1 0, .int 6 0, .int 5 0, .int 1 0] })
    {x : Str} {t : Tok} {Q : Value → Shared → Prop} (hx : x.cps.size ≤ 1000) (hd : ∀ i c, x.cps[i]? = some 46 → x.cps[i + 1]? = some c → isDigit c = false)
    (h : Q .none s) : wpAny (model prog w) A (call (.builtin "re.Pattern.search") [.ref P, .str x t]) Q E s := by
  refine wpAny_call (codeAny_call_builtin slot_search.plain entry_search (slot_search.check _ _ _ _ _ _ _ _ ⟨_, X _ _ hP, rfl⟩ (args_search _ _) ?_))
  unfold Builtin.«re.Pattern.search»
  refine wpAny_bind (target X hP hc x t fun T e1 e2 e3 e4 e5 => ?_)
  unfold reAnswer
  have e6 : T.lim = x.cps.size := by rw [e5]; omega
  rw [e1, e2, e3, e4, e6]
  refine wpAny_bind (runToEnd_fails (n := 3 * x.cps.size + 4) (by omega) (search_fails x.cps hd) ?_)
  exact wpAny_pure h
end
end
end Mine.Re
end

section
open PySem PyProof.Rows
namespace Mine
open PySem.Builtin PySem.Builtin.Str

abbrev S (l : List Nat) : Str := ⟨l.toArray⟩
theorem S_len (l : List Nat) : (S l).length = l.length := by simp [Str.length]
theorem S_size (l : List Nat) : (S l).cps.size = l.length := by simp
theorem S_list (l : List Nat) : (S l).cps.toList = l := by simp
theorem S_get (l : List Nat) (i : Nat) : (S l).cps[i]? = l[i]? := by simp
theorem S_app (a b : List Nat) : S a ++ S b = S (a ++ b) := Str.ext' (by rw [Str.cps_append]; simp)
theorem S_inj {a b : List Nat} (h : S a = S b) : a = b := by
  have := congrArg (fun x : Str => x.cps.toList) h
  simpa using this
theorem S_of (x : Str) : x = S x.cps.toList := by simp

theorem at_one (l : List Nat) (c i : Nat) : StrLaws.At (S l) (S [c]) (S l).length i ↔ l[i]? = some c := by
  have := StrLaws.subAt_one (S l) c i
  rw [S_list] at this
  exact this

theorem find_none (l : List Nat) (c : Nat) (h : c ∉ l) : Txt.find (S l) (S [c]) = -1 := by
  rcases PyProof.Rows.find_whole (S l) (S [c]) with ⟨e, _⟩ | ⟨i, _, hi, _⟩
  · exact e
  · exact absurd (List.mem_of_getElem? ((at_one l c i).mp hi)) h
theorem find_first (a b : List Nat) (c : Nat) (h : c ∉ a) : Txt.find (S (a ++ c :: b)) (S [c]) = a.length := by
  have ha : (a ++ c :: b)[a.length]? = some c := by simp
  rcases PyProof.Rows.find_whole (S (a ++ c :: b)) (S [c]) with ⟨_, hn⟩ | ⟨i, e, hi, hk⟩
  · exact absurd ((at_one _ c _).mpr ha) (hn a.length)
  · rw [e]
    have h1 := (at_one _ c _).mp hi
    have h2 : ¬ a.length < i := fun hlt => hk _ hlt ((at_one _ c _).mpr ha)
    have h3 : ¬ i < a.length := fun hlt => by
      rw [List.getElem?_append_left hlt] at h1
      exact h (List.mem_of_getElem? h1)
    omega
theorem find_in (l : List Nat) (c : Nat) (h : c ∈ l) : 0 ≤ Txt.find (S l) (S [c]) := by
  rcases PyProof.Rows.find_whole (S l) (S [c]) with ⟨_, hn⟩ | ⟨i, e, _, _⟩
  · obtain ⟨i, hi, e⟩ := List.getElem_of_mem h
    exact absurd ((at_one l c i).mpr (by rw [List.getElem?_eq_getElem hi, e])) (hn i)
  · rw [e]; omega
theorem rfind_none (l : List Nat) (c : Nat) (h : c ∉ l) : Txt.rfind (S l) (S [c]) = -1 := by
  unfold Txt.rfind
  rcases StrLaws.last_spec (S l) (S [c]) with ⟨e, _⟩ | ⟨i, _, hi, _⟩
  · rw [e]
  · exact absurd (List.mem_of_getElem? ((at_one l c i).mp hi)) h
theorem rfind_last (a b : List Nat) (c : Nat) (h : c ∉ b) : Txt.rfind (S (a ++ c :: b)) (S [c]) = a.length := by
  have ha : (a ++ c :: b)[a.length]? = some c := by simp
  unfold Txt.rfind
  rcases StrLaws.last_spec (S (a ++ c :: b)) (S [c]) with ⟨_, hn⟩ | ⟨i, e, hi, hk⟩
  · exact absurd ((at_one _ c _).mpr ha) (hn a.length)
  · rw [e]
    have h1 := (at_one _ c _).mp hi
    have h2 : ¬ i < a.length := fun hlt => hk _ hlt ((at_one _ c _).mpr ha)
    have h3 : ¬ a.length < i := fun hlt => by
      rw [List.getElem?_append_right (by omega)] at h1
      have : (c :: b)[i - a.length]? = b[i - a.length - 1]? := by
        rw [show i - a.length = (i - a.length - 1) + 1 by omega]
        simp
      rw [this] at h1
      exact h (List.mem_of_getElem? h1)
    show (i : Int) = _
    omega

theorem slice_from (l : List Nat) (i : Int) (h0 : 0 ≤ i) (h1 : i ≤ l.length) : Txt.slice (S l) (some i) none = S (l.drop i.toNat) := by
  have e := StrLaws.sliceText_from (x := S l) (i := i) ⟨h0, by rw [S_list]; exact h1⟩
  rw [S_list] at e
  refine Eq.trans e ?_
  congr 2
  refine List.take_of_length_le ?_
  simp
  omega
theorem slice_ss (l : List Nat) (i j : Int) (h0 : 0 ≤ i) (h1 : i ≤ j) (h2 : j ≤ l.length) : Txt.slice (S l) (some i) (some j) = S ((l.drop i.toNat).take (j - i).toNat) := by
  have e := StrLaws.sliceText_plain (x := S l) (i := i) (j := j) ⟨h0, h1, by rw [S_list]; exact h2⟩
  rw [S_list] at e
  exact e
theorem slice_s_neg (l : List Nat) (i j : Int) (h0 : 0 ≤ i) (hj : j < 0) (h1 : i ≤ j + l.length) : Txt.slice (S l) (some i) (some j) = S ((l.drop i.toNat).take (j + l.length - i).toNat) := by
  have e := StrLaws.sliceText_neg_hi (S l) (some i) (j := j) hj (by rw [S_len]; omega)
  refine Eq.trans e ?_
  rw [S_len]
  exact slice_ss l i (j + l.length) h0 h1 (by omega)

theorem gives_find4 (x y : Str) (t u v v' : Tok) : Gives («str.find» ⟨[.str x t, .str y u, .int 0 v, .int x.length v'], []⟩) (.int (Txt.find x y)) := by
  unfold Txt.find
  show Gives (match occurrences x y (max 0 (if (0:Int) < 0 then 0 + (x.length : Int) else 0)).toNat (min (max 0 (if (x.length : Int) < 0 then (x.length : Int) + (x.length : Int) else (x.length : Int))).toNat x.length) 1 with | i :: _ => retInt i | [] => (do rule "str.find.not-found"; retInt (-1))) _
  have e1 : (max 0 (if (0:Int) < 0 then 0 + (x.length : Int) else 0)).toNat = 0 := by simp
  have e2 : (min (max 0 (if (x.length : Int) < 0 then (x.length : Int) + (x.length : Int) else (x.length : Int))).toNat x.length) = x.length := by
    rw [if_neg (by omega)]; omega
  rw [e1, e2]
  cases occurrences x y 0 x.length 1 with
  | nil => exact .rule (.of_eq rfl)
  | cons i _ => exact .of_eq rfl
theorem gives_rfind4 (x y : Str) (t u v v' : Tok) : Gives («str.rfind» ⟨[.str x t, .str y u, .int 0 v, .int x.length v'], []⟩) (.int (Txt.rfind x y)) := by
  unfold Txt.rfind
  show Gives (match lastOccurrence x y (max 0 (if (0:Int) < 0 then 0 + (x.length : Int) else 0)).toNat (min (max 0 (if (x.length : Int) < 0 then (x.length : Int) + (x.length : Int) else (x.length : Int))).toNat x.length) with | some i => retInt i | none => (do rule "str.rfind.not-found"; retInt (-1))) _
  have e1 : (max 0 (if (0:Int) < 0 then 0 + (x.length : Int) else 0)).toNat = 0 := by simp
  have e2 : (min (max 0 (if (x.length : Int) < 0 then (x.length : Int) + (x.length : Int) else (x.length : Int))).toNat x.length) = x.length := by
    rw [if_neg (by omega)]; omega
  rw [e1, e2]
  cases lastOccurrence x y 0 x.length with
  | none => exact .rule (.of_eq rfl)
  | some i => exact .of_eq rfl

section
variable {prog : Program} {w : World} {A : Around} {E : Value → Shared → Prop} {s : Shared} {x y : Str} {t u v v' : Tok} {i : Int} {Q : Value → Shared → Prop}
theorem call_find4 (hi : i = x.length) (hq : Q (.int (Txt.find x y) s.toks) { s with toks := s.toks + 1 }) : wpAny (model prog w) A (call (.builtin "str.find") [.str x t, .str y u, .int 0 v, .int i v']) Q E s := by
  subst hi
  exact call_gives F.slot_str_find (typeIs_str _ _ _) F.entry_str_find (F.args_str_find_4 _ _ _ _) (gives_find4 x y t u v v') hq
theorem call_rfind4 (hi : i = x.length) (hq : Q (.int (Txt.rfind x y) s.toks) { s with toks := s.toks + 1 }) : wpAny (model prog w) A (call (.builtin "str.rfind") [.str x t, .str y u, .int 0 v, .int i v']) Q E s := by
  subst hi
  exact call_gives F.slot_str_rfind (typeIs_str _ _ _) F.entry_str_rfind (F.args_str_rfind_4 _ _ _ _) (gives_rfind4 x y t u v v') hq
end
end Mine
end

section
open PySem PyProof.Rows
set_option maxRecDepth 100000
namespace Mine.Enc
open PySem.Builtin PySem.Builtin._codecs

theorem sem_pure_bind {α β : Type} (a : α) (f : α → Sem β) : (pure a >>= f) = f a := rfl

theorem size_line : sizeLine = 16777216 := sizeLine_eq

theorem run_ascii (id : String) (b : Array UInt8) (hb : ∀ c ∈ b.toList, c.toNat < 128) (hs : b.size ≤ 1000) : runDecoder id asciiDecoder none true b 0 [] = pure (b.map (·.toNat), b.size) := by
  unfold runDecoder
  dsimp only
  rw [Std.Legacy.Range.forIn_eq_forIn_range']
  simp only [Std.Legacy.Range.size]
  generalize hf : (fun (x : Nat) (__s : Nat × Array Nat × Faults) => _) = f
  have key : ∀ x k out st, k < b.size → out.size ≤ 1000 → f x (k, out, st) = pure (ForInStep.yield (k + 1, out.push (b.getD k 0).toNat, st)) := by
    intro x k out st hk ho
    rw [← hf]
    dsimp only
    have hlt : (b.getD k 0).toNat < 128 := hb _ (by
      have : b.getD k 0 = b[k] := by simp [hk]
      rw [this]; simp)
    have e : asciiDecoder.find true b k = Found.text [(b.getD k 0).toNat] (k + 1) := by
      show (if (b.getD k 0).toNat < 128 then Found.char (b.getD k 0).toNat (k + 1) else _) = _
      rw [if_pos hlt]; rfl
    rw [if_neg (by rw [size_line]; omega), if_neg (by omega), e]
    simp
  have all : ∀ n k (out : Array Nat) (st : Faults), k + n = b.size → out = (b.map (·.toNat)).extract 0 k → forIn (List.range' k n) (k, out, st) f = pure (b.size, b.map (·.toNat), st) := by
    intro n
    induction n with
    | zero =>
      intro k out st hk ho
      have : k = b.size := by omega
      subst this
      have e : (b.map (·.toNat)).extract 0 b.size = b.map (·.toNat) := by
        apply Array.toList_inj.mp
        simp
        exact List.take_of_length_le (by simp)
      rw [ho, e]
      rfl
    | succ n ih =>
      intro k out st hk ho
      rw [List.range'_succ, List.forIn_cons, key k k out st (by omega) (by rw [ho]; simp; omega), sem_pure_bind]
      dsimp only
      refine ih (k + 1) _ st (by omega) ?_
      rw [ho]
      have hk' : k < b.size := by omega
      have : b.getD k 0 = b[k] := by simp [hk']
      rw [this]
      apply Array.toList_inj.mp
      simp
      rw [List.take_add_one]
      simp [hk']
  have := all b.size 0 #[] { } (by omega) (by simp)
  rw [show (b.size - 0 + 1 - 1) / 1 = b.size by omega]
  rw [this]
  rfl

theorem foldl_bytes (l : List Nat) : ∀ acc : Array UInt8, l.foldl (fun acc y => acc ++ (asciiCodec.bytesOf y).toArray) acc = acc ++ (l.map (·.toUInt8)).toArray := by
  induction l with
  | nil => intro acc; simp
  | cons a r ih =>
    intro acc
    rw [List.foldl_cons, ih]
    show acc ++ #[a.toUInt8] ++ _ = _
    simp

theorem narrow_ascii (id : String) (v : Value) (x : Str) (hx : ∀ c ∈ x.cps.toList, c < 128) (hs : x.length ≤ 1000) : encodeNarrow id asciiCodec none v x = pure (x.cps.map (·.toUInt8)) := by
  unfold encodeNarrow
  dsimp only
  rw [Std.Legacy.Range.forIn_eq_forIn_range']
  simp only [Std.Legacy.Range.size]
  generalize hf : (fun (y : Nat) (__s : Nat × Array UInt8 × Faults) => _) = f
  have k1 : ∀ y st, 0 < x.length → f y (0, #[], st) = pure (ForInStep.yield (x.length, x.cps.map (·.toUInt8), st)) := by
    intro y st h0
    rw [← hf]
    have h0' : 0 < x.cps.size := h0
    have hb : ∀ c ∈ x.cps.toList, asciiCodec.bad c = false := fun c hc => by
      have := hx c hc
      show decide (c ≥ 128) = false
      exact decide_eq_false (by omega)
    have e0 : x.cps[0]? = some x.cps[0] := Array.getElem?_eq_getElem h0'
    have e1 : asciiCodec.bad x.cps[0] = false := hb _ (by simp)
    have e2 : x.cps.extract 0 = x.cps := by
      apply Array.toList_inj.mp
      simp
    have e3 : Array.findIdx? asciiCodec.bad x.cps = none := by
      rw [Array.findIdx?_eq_none_iff]
      intro c hc
      exact hb c (by simpa using hc)
    dsimp only
    rw [if_neg (by rw [size_line]; simp), e0]
    dsimp only
    rw [e1, e2, e3]
    have e4 : Array.foldl (fun acc y => acc ++ (asciiCodec.bytesOf y).toArray) #[] (x.cps.extract 0 (none.getD x.cps.size)) = x.cps.map (·.toUInt8) := by
      have : x.cps.extract 0 (none.getD x.cps.size) = x.cps := by
        apply Array.toList_inj.mp
        simp
      rw [this, ← Array.foldl_toList, foldl_bytes]
      apply Array.toList_inj.mp
      simp
    rw [e4]
    simp [Str.length]
  have k2 : ∀ y out st, out.size ≤ 1000 → f y (x.length, out, st) = pure (ForInStep.done (x.length, out, st)) := by
    intro y out st ho
    rw [← hf]
    have e0 : x.cps[x.length]? = none := by simp [Str.length]
    dsimp only
    rw [if_neg (by rw [size_line]; omega), e0]
  rw [show (x.length - 0 + 1 - 1) / 1 = x.length by omega]
  have hsz : (x.cps.map (·.toUInt8)).size ≤ 1000 := by simp; exact hs
  rcases Nat.lt_or_ge 0 x.length with h0 | h0
  · obtain ⟨n, hn⟩ : ∃ n, x.length = n + 1 := ⟨x.length - 1, by omega⟩
    have hr : List.range' 0 x.length = 0 :: List.range' 1 n := by rw [hn, List.range'_succ]
    rw [hr, List.forIn_cons, k1 0 _ h0, sem_pure_bind]
    dsimp only
    cases n with
    | zero => rfl
    | succ n =>
      rw [List.range'_succ, List.forIn_cons, k2 _ _ _ hsz]
      rfl
  · have hn : x.length = 0 := by omega
    have hr : List.range' 0 x.length = [] := by rw [hn]; rfl
    have he : x.cps = #[] := Array.eq_empty_of_size_eq_zero hn
    rw [hr, he, List.forIn_nil, sem_pure_bind, Array.map_empty]

open PySem.Calls PySem.W
theorem road_eq {id : String} {b : Array UInt8} : decodeRoad id b (Str.ofString "ascii") none [] = (runDecoder id asciiDecoder none true b 0 [] >>= fun r => mkStr ⟨r.1⟩) := by kernel_rfl
theorem entry_eq {c : UInt8} {cs : List UInt8} {t u : Tok} : «bytes.decode» ⟨[.bytes (c :: cs).toArray t, .str (Str.ofString "ascii") u], []⟩ = (mkStr (Str.ofString "utf-8") >>= fun _ => mkStr (Str.ofString "ascii") >>= fun e => mkStr (Str.ofString "bytes.decode") >>= fun d =>
    call (.builtin "_codecs.decode.text") [.bytes (c :: cs).toArray t, e, .none, d] >>= fun v => ret v) := by kernel_rfl
theorem meets_text {b : Array UInt8} {t t1 t2 : Tok} {d : Str} (hb : ∀ c ∈ b.toList, c.toNat < 128) (hs : b.size ≤ 1000) :
    Meets («_codecs.decode.text» ⟨[.bytes b t, .str (Str.ofString "ascii") t1, .none, .str d t2], []⟩) (fun _ R s => R (.ok (.ret (.str ⟨b.map (·.toNat)⟩ s.toks))) { s with toks := s.toks + 1 }) := by
  refine .of_wp fun prog w A R s h => ?_
  show wpAny _ _ (Bytes.bytesLike _ (.bytes b t) >>= fun r => _) _ _ s
  refine wpAny_bind (wpAny_of_eq KBd.like_eq ?_)
  refine wpAny_bind (wpAny_of_eq KBd.held_eq ?_)
  show wpAny _ _ (decodeRoad _ b (Str.ofString "ascii") none [] >>= fun v => _) _ _ s
  rw [road_eq, run_ascii _ b hb hs]
  refine wpAny_bind (wpAny_bind (wpAny_pure ?_))
  exact wpAny_mkStr (wpAny_pure ⟨_, rfl, h⟩) (by rw [size_line]; simp [Str.length]; omega)
theorem meets_decode {c : UInt8} {cs : List UInt8} {t u : Tok} (hb : ∀ x ∈ c :: cs, x.toNat < 128) (hs : (c :: cs).length ≤ 1000) :
    Meets («bytes.decode» ⟨[.bytes (c :: cs).toArray t, .str (Str.ofString "ascii") u], []⟩) (fun _ R s => ∀ t' k, R (.ok (.ret (.str ⟨(c :: cs).toArray.map (·.toNat)⟩ t'))) { s with toks := k }) := by
  refine .of_wp fun prog w A R s h => ?_
  rw [entry_eq]
  refine wpAny_bind (wpAny_mkStr ?_ (by decide))
  refine wpAny_bind (wpAny_mkStr ?_ (by decide))
  refine wpAny_bind (wpAny_mkStr ?_ (by decide))
  exact wpAny_bind (call_function_meets KBd.kind_text KBd.plain_text KBd.entry_text (KBd.args_text _ _ _ _) (meets_text (by simpa using hb) (by simpa using hs)) (wpAny_pure ⟨_, rfl, h _ _⟩))
theorem args_decode_2 (a b : Value) : argsOk "bytes.decode" ⟨[a, b], []⟩ := by
  unfold argsOk; rw [signature?_of (id := "bytes.decode") (n := ['e', 'd', 'o', 'c', 'e', 'd']) (o := ['s', 'e', 't', 'y', 'b']) (by kernel_rfl) FB.owner_bytes]; kernel_rfl
section
variable {prog : Program} {w : World} {A : Around} {E : Value → Shared → Prop} {s : Shared} {t u : Tok} {Q : Value → Shared → Prop}
theorem decode {b : Array UInt8} (hne : 0 < b.size) (hb : ∀ x ∈ b.toList, x.toNat < 128) (hs : b.size ≤ 1000) (h : ∀ t' k, Q (.str ⟨b.map (·.toNat)⟩ t') { s with toks := k }) :
    wpAny (model prog w) A (call (.builtin "bytes.decode") [.bytes b t, .str (Str.ofString "ascii") u]) Q E s := by
  obtain ⟨l⟩ := b
  cases l with
  | nil => simp at hne
  | cons c cs => exact call_meets FB.slot_bytes_decode (typeIs_bytes _ _ _) FB.entry_bytes_decode (args_decode_2 _ _) (meets_decode (by simpa using hb) (by simpa using hs)) h

theorem encode_eq {x : Str} : «str.encode» ⟨[.str x t, .str (Str.ofString "ascii") u], []⟩ = ((encodeNarrow "str.encode" asciiCodec none (.str x t) x >>= fun b => mkBytes b) >>= fun v => ret v) := by kernel_rfl
theorem encode {x : Str} (hx : ∀ c ∈ x.cps.toList, c < 128) (hs : x.length ≤ 1000) (h : ∀ t' k, Q (.bytes (x.cps.map (·.toUInt8)) t') { s with toks := k }) :
    wpAny (model prog w) A (call (.builtin "str.encode") [.str x t, .str (Str.ofString "ascii") u]) Q E s := by
  refine call_meets (S := fun _ R s => ∀ t' k, R (.ok (.ret (.bytes (x.cps.map (·.toUInt8)) t'))) { s with toks := k }) F.slot_str_encode (typeIs_str _ _ _) F.entry_str_encode (F.args_str_encode_2 _ _) ?_ h
  refine .of_wp fun prog w A R s h => ?_
  rw [encode_eq, narrow_ascii _ _ x hx hs]
  have hs' : x.cps.size ≤ 1000 := hs
  refine wpAny_bind (wpAny_bind (wpAny_pure ?_))
  unfold mkBytes
  rw [if_neg (by rw [size_line]; simp; omega)]
  exact wpAny_bind (wpAny_fresh (wpAny_pure (wpAny_pure ⟨_, rfl, h _ _⟩)))
end
end Mine.Enc
end

section
open PySem PySem.W PyProof.Rows
namespace Mine
open Sem (wp)

/-- the codes that a bytearray fears to find below it -/
def shy : List String := Builtin.Bytes.decodersThatHold ++ ["bytearray.__contains__", "bytearray.__mod__", "bytearray.__rmod__", "_struct.pack_into.held", "bytearray.find.held"]
def nice : Code → Bool
  | .builtin id _ => !shy.contains id
  | _ => true
def Calm (Γ : Ctx) : Prop := nice Γ.code = true ∧ ∀ x ∈ Γ.below, nice x.1 = true

/-- wpAny, over the contexts alone that have no such code on their stack -/
def wpS {α : Type} (M : Model) (A : Around) (t : Sem α) (Q : α → Shared → Prop) (E : Value → Shared → Prop) (s : Shared) : Prop :=
  ∀ Γ p, Γ.In A → Calm Γ → wp M Γ t (fun a _ s' => Q a s') (fun e _ s' => E e s') p s
def codeS (M : Model) (A : Around) (c : Code) (R : Result → Shared → Prop) (s : Shared) : Prop :=
  ∀ Γ p, Γ.code = c → Γ.Below A → Calm Γ → wpCode M Γ R p s

section
variable {α β : Type} {M : Model} {A : Around} {E : Value → Shared → Prop} {s : Shared}

theorem wpS_of_any {t : Sem α} {Q : α → Shared → Prop} (h : wpAny M A t Q E s) : wpS M A t Q E s := fun Γ p hΓ _ => h Γ p hΓ
theorem codeS_of_any {c : Code} {R : Result → Shared → Prop} (h : codeAny M A c R s) : codeS M A c R s := fun Γ p hc hΓ _ => h Γ p hc hΓ
theorem wpS_mono {t : Sem α} {Q Q' : α → Shared → Prop} {E' : Value → Shared → Prop} (h : wpS M A t Q E s)
    (hQ : ∀ a s, Q a s → Q' a s) (hE : ∀ e s, E e s → E' e s) : wpS M A t Q' E' s :=
  fun Γ p hΓ c => Sem.wp_mono M Γ t (fun a _ s => hQ a s) (fun e _ s => hE e s) p s (h Γ p hΓ c)
theorem wpS_bind {m : Sem α} {f : α → Sem β} {Q : β → Shared → Prop} (h : wpS M A m (fun a s' => wpS M A (f a) Q E s') E s) :
    wpS M A (m >>= f) Q E s := fun Γ p hΓ c => by
  rw [Sem.wp_bind']
  exact Sem.wp_mono M Γ m (fun a p' s' h' => h' Γ p' hΓ c) (fun _ _ _ h' => h') p s (h Γ p hΓ c)
theorem wpS_pure {a : α} {Q : α → Shared → Prop} (h : Q a s) : wpS M A (pure a) Q E s := fun _ _ _ _ => h
theorem wpS_holding {vs : List Value} {m : Sem α} {Q : α → Shared → Prop} (h : wpS M A m Q E s) : wpS M A (holding vs m) Q E s :=
  fun Γ p hΓ c => by rw [Sem.wp_holding]; exact h Γ p hΓ c
theorem wpS_keep {vs : List Value} {m : Sem α} {Q : α → Shared → Prop} (h : wpS M A m Q E s) : wpS M A (m.keep vs) Q E s :=
  fun Γ p hΓ c => by rw [Sem.wp_keep]; exact h Γ p hΓ c
theorem wpS_onRaise {m : Sem α} {k : Value → Sem Unit} {Q : α → Shared → Prop}
    (h : wpS M A m Q (fun e s' => wpS M A (k e) (fun _ s'' => E e s'') E s') s) : wpS M A (m.onRaise k) Q E s := fun Γ p hΓ c => by
  rw [Sem.wp_onRaise]
  exact Sem.wp_mono M Γ m (fun _ _ _ h' => h') (fun e p' s' h' => h' Γ p' hΓ c) p s (h Γ p hΓ c)
theorem wpS_standAt {pos : Pos} {Q : Unit → Shared → Prop} (h : Q () s) : wpS M A (standAt pos) Q E s := fun _ _ _ _ => h
theorem wpS_rule {tag : String} {Q : Unit → Shared → Prop} (h : Q () s) : wpS M A (rule tag) Q E s := fun _ _ _ _ => h
theorem wpS_point {Q : Unit → Shared → Prop} (h : Q () s) : wpS M A point Q E s := fun _ _ _ _ => h

theorem Calm.enter {Γ : Ctx} {c : Code} {h : Option Value} {p : Pos} (k : Calm Γ) (hc : nice c = true) : Calm (Γ.enter c h p) :=
  ⟨hc, fun x hx => by
    rcases List.mem_cons.mp hx with rfl | hx
    · exact k.1
    · exact k.2 x hx⟩

theorem wpS_runValue {c : Code} {Q : Value → Shared → Prop} (hn : nice c = true)
    (hc : codeS M A c (fun r s' => match r with | .ok (.ret v) => Q v s' | .ok _ => False | .error e => E e s') s) :
    wpS M A (runValue c) Q E s := fun Γ p hΓ k => by rw [Sem.wp_runValue]; exact hc _ p rfl (hΓ.enter c none p (by intro x; cases x)) (k.enter hn)
theorem wpS_call {f : Value} {pos : List Value} {kw : List (Str × Value)} {Q : Value → Shared → Prop}
    (hc : codeS M A (.call f ⟨pos, kw⟩) (fun r s' => match r with | .ok (.ret v) => Q v s' | .ok _ => False | .error e => E e s') s) :
    wpS M A (call f pos kw) Q E s := wpS_runValue rfl hc
theorem codeS_mono {c : Code} {R R' : Result → Shared → Prop} (h : codeS M A c R s) (hR : ∀ r s, R r s → R' r s) : codeS M A c R' s :=
  fun Γ p hc hΓ k => wpCode_mono hR (h Γ p hc hΓ k)
theorem codeS_of_tree {c : Code} {R : Result → Shared → Prop}
    (h : wpS M (A.under c) (M.den c) (fun fin s' => match fin with | .done f => R (.ok f) s' | .again c' => c'.quiet = true ∧ nice c' = true ∧ codeS M A c' R s')
      (fun e s' => R (.error e) s') s) : codeS M A c R s := fun Γ p hc hΓ k => by
  rw [wpCode_iff_wp, hc]
  refine Sem.wp_mono M Γ _ (fun fin p' s' h' => ?_) (fun _ _ _ h' => h') p s (h Γ p (hc ▸ hΓ.in) k)
  cases fin with
  | done f => exact h'
  | again c' => exact ⟨h'.1, h'.2.2 (Γ.goto c') p' rfl (hΓ.goto c') ⟨h'.2.1, k.2⟩⟩
end

section
variable {prog : Program} {w : World} {A : Around} {s : Shared} {R : Result → Shared → Prop}
theorem codeS_func {body : List Stmt} {env : Env}
    (h : wpS (model prog w) (A.deeper env) (execs body env) (fun f s' => R (.ok (.ret (match f with | .ret v => v | _ => .none))) s') (fun _ _ => False) s) :
    codeS (model prog w) A (.func body env) R s := by
  refine codeS_of_tree ?_
  show wpS _ (A.deeper env) (do point; match ← (execs body env).onRaise (leaving env) with | .ret v => ret v | _ => ret .none) _ _ s
  refine wpS_bind (wpS_point (wpS_bind (wpS_onRaise (wpS_mono h (fun f s' h' => ?_) fun _ _ x => x.elim))))
  cases f <;> exact wpS_pure h'
theorem codeS_builtin {id : String} {args : Args} {b : Builtin} (hb : entryFor table id = some b)
    (h : wpS (model prog w) (A.under (.builtin id args)) (b args)
      (fun fin s' => match fin with | .done f => R (.ok f) s' | .again c' => c'.quiet = true ∧ nice c' = true ∧ codeS (model prog w) A c' R s') (fun e s' => R (.error e) s') s) :
    codeS (model prog w) A (.builtin id args) R s := by
  refine codeS_of_tree ?_
  show wpS _ _ (match entryFor table id with | some b => b args | none => unsupported ((withoutEnding? id "#data").getD id)) _ _ s
  rw [hb]; exact h
theorem codeS_call_def {a : Addr} {o : Obj} {fd : FuncData} {body : List Stmt} {args : Args} {binds : List (Str × Value)}
    (hroom : A.depth < recursionLimit) (ho : s.heap.get? a = some o) (hdata : o.data = .func fd) (hlim : s.heap.NoLimit) (hcd : s.heap.CodeRec fd.code fd.qualname)
    (hbody : fd.body = .stmts body) (hbind : BindsTo s fd args binds)
    (hcell : ∀ x ∈ fd.scope.names, x.2 ≠ .cell) (hloc : ∀ x ∈ binds, fd.scope.names.lookup x.1 = some .local)
    (h : ∀ h₀, h₀.Ns s.heap.objs.size (fun x => binds.reverse.lookup x) → (∀ b o, s.heap.get? b = some o → h₀.get? b = some o) →
      wpS (model prog w) (A.deeper (callEnv fd s.heap.objs.size a)) (execs body (callEnv fd s.heap.objs.size a)) (fun f s' => R (.ok (.ret (match f with | .ret v => v | _ => .none))) s')
        (fun _ _ => False) { s with heap := h₀, toks := s.toks + binds.length })
    (hco : fd.scope.isCoroutine = false := by rfl) (hgen : fd.scope.isGenerator = false := by rfl) (hk : fd.scope.kind = .function := by rfl) :
    codeS (model prog w) A (.call (.ref a) args) R s := by
  refine codeS_of_tree ?_
  show wpS _ A.in1 (callAny (.ref a) args) _ _ s
  simp only [callAny]
  refine wpS_bind (wpS_of_any (wpAny_load ho ?_))
  obtain ⟨c, oc, vs, tq, hc, hoc, hdc, hq⟩ := hcd
  simp only [hdata, callFunction, hco, hgen, hbody, hc]
  refine wpS_bind (m := field (.ref c) 1) (wpS_of_any (wpAny_field hoc hdc hq ?_))
  refine wpS_bind (wpS_pure ?_)
  refine wpS_bind (wpS_of_any (hbind _ _ _ _ ?_))
  refine wpS_bind (wpS_of_any (wpAny_newFunctionEnv hcell hloc (fun h₀ hns₀ hsb₀ => ?_) hk))
  refine wpS_bind (wpS_of_any (wpAny_enterFrame (hlim.fresh _ hsb₀) hroom ?_))
  refine wpS_pure ⟨rfl, rfl, codeS_func ?_⟩
  have := h h₀ hns₀ fun b o e => hsb₀.extBut b o (Nat.ne_of_lt (Heap.lt_size e)) (Heap.get?_push_of_some _ e)
  rw [← hc]
  exact this
end
end Mine
end

section
open PySem PySem.W PySem.Calls PyProof.Rows
set_option maxRecDepth 100000
namespace Mine
open Sem (wp)

section
variable {M : Model} {A : Around} {E : Value → Shared → Prop} {s : Shared} {env : Env}

theorem wpS_execs_nil {Q : Flow → Shared → Prop} (h : Q .next s) : wpS M A (execs [] env) Q E s := fun _ _ _ _ => h
theorem wpS_execs_cons {st : Stmt} {rest : List Stmt} {Q : Flow → Shared → Prop}
    (h : wpS M A (exec st env) (fun f s' => match f with | .next => wpS M A (execs rest env) Q E s' | f => Q f s') E s) :
    wpS M A (execs (st :: rest) env) Q E s := fun Γ p hΓ k => by
  rw [execs_cons, Sem.wp_bind']
  refine Sem.wp_mono M Γ _ (fun f p' s' h' => ?_) (fun _ _ _ h' => h') _ _ (h Γ p hΓ k)
  cases f <;> first | exact h' Γ p' hΓ k | exact h'
theorem wpS_If {test : Expr} {body orelse : List Stmt} {pos : Pos} {Q : Flow → Shared → Prop}
    (h : wpAny M A (isTrue test env (eval test env))
      (fun b s₂ => if b then wpS M A (execs body env) Q E s₂ else wpS M A (execs orelse env) Q E s₂) E s) :
    wpS M A (exec (.If test body orelse pos) env) Q E s := fun Γ p hΓ k => by
  simp only [exec_If, Sem.wp_bind', Sem.wp_cmd_standAt]
  refine Sem.wp_mono M Γ _ (fun b p₂ s₂ h₂ => ?_) (fun _ _ _ h' => h') _ _ (h Γ _ hΓ)
  cases b <;> exact h₂ Γ p₂ hΓ k
theorem wpS_Assign_Name {x : Str} {pos' : Pos} {value : Expr} {pos : Pos} {Q : Flow → Shared → Prop}
    (h : wpS M A (eval value env) (fun v s₁ => wpAny M A (storeName env x v) (fun _ => Q .next) E s₁) E s)
    (hs : swapsWith value (some (.Name x pos')) pos.line env = pure false := by rfl) :
    wpS M A (exec (.Assign [.Name x pos'] value pos) env) Q E s := fun Γ p hΓ k => by
  simp only [exec_Assign_Name env x pos' value pos hs, Sem.wp_bind', Sem.wp_cmd_standAt, Sem.wp_bindName, Sem.wp_pure']
  exact Sem.wp_mono M Γ _ (fun v _ s₁ h₁ => h₁ Γ _ hΓ) (fun _ _ _ h' => h') _ _ (h Γ _ hΓ k)
theorem wpS_Return_some {e : Expr} {pos : Pos} {Q : Flow → Shared → Prop} (h : wpS M A (eval e env) (fun v => Q (.ret v)) E s) :
    wpS M A (exec (.Return (some e) pos) env) Q E s := fun Γ p hΓ k => by
  simp only [exec_Return_some, Sem.wp_bind', Sem.wp_cmd_standAt, Sem.wp_pure']; exact h Γ _ hΓ k
theorem wpS_Expr {e : Expr} {pos : Pos} {Q : Flow → Shared → Prop} (h : wpS M A (eval e env) (fun v s' => match v with | .ref _ => False | _ => Q .next s') E s)
    (hi : interactive env = false := by rfl) (hs : swapsWith e none pos.line env = pure false := by rfl) :
    wpS M A (exec (.Expr e pos) env) Q E s := by
  rw [exec_Expr env e pos hi hs]
  refine wpS_bind (wpS_standAt (wpS_bind (wpS_mono h (fun v s' h' => ?_) fun _ _ x => x)))
  have hv : ∀ a, v ≠ .ref a := fun a hva => by subst hva; exact h'
  rw [dropValue_plain hv]
  refine wpS_pure ?_
  cases v <;> first | exact h' | exact (hv _ rfl).elim
theorem wpS_IfExp {test body orelse : Expr} {pos : Pos} {Q : Value → Shared → Prop}
    (h : wpAny M A (isTrue test env (eval test env)) (fun b s₁ => if b then wpS M A (eval body env) Q E s₁ else wpS M A (eval orelse env) Q E s₁) E s) :
    wpS M A (eval (.IfExp test body orelse pos) env) Q E s := by
  rw [arm_eval_IfExp]
  refine wpS_bind (wpS_of_any (wpAny_mono h (fun b s₁ h₁ => ?_) fun _ _ x => x))
  cases b <;> exact h₁
theorem wpS_Call {func : Expr} {args : List Expr} {pos : Pos} {Q : Value → Shared → Prop}
    (h : wpAny M A (eval func env) (fun f s₁ => wpS M A (callWith pos f [] (backTo pos (starEach args env)) []) Q E s₁) E s)
    (he : eval (.Call func args [] pos) env = (do callWith pos (← eval func env) [] (backTo pos (starEach args env)) (backToKw pos (keywordEach [] env))) := by rfl) :
    wpS M A (eval (.Call func args [] pos) env) Q E s := by
  rw [he]; exact wpS_bind (wpS_of_any h)
theorem wpS_methodCall {o : Expr} {name : Str} {apos pos : Pos} {args : List Expr} {pl : Sem Bool} {Q : Value → Shared → Prop}
    (h : wpS M A (eval o env) (fun ov s₁ => wpAny M A (getMethod ov name pl) (fun fx s₂ => wpAny M A (callWith pos fx.1 fx.2 (backTo pos (starEach args env)) []) Q E s₂) E s₁) E s)
    (he : eval (.Call (.Attribute o name apos) args [] pos) env = (do
      let ov ← eval o env
      standAt apos.atName
      let (f, first) ← holding [ov] (getMethod ov name pl)
      callWith pos f first (backTo pos (starEach args env)) (backToKw pos (keywordEach [] env))) := by rfl) :
    wpS M A (eval (.Call (.Attribute o name apos) args [] pos) env) Q E s := by
  rw [he]
  refine wpS_bind (wpS_mono h (fun ov s₁ h₁ => wpS_of_any (wpAny_bind (wpAny_standAt (wpAny_bind (wpAny_holding (wpAny_mono h₁ (fun fx s₂ h₂ => ?_) fun _ _ x => x)))))) fun _ _ x => x)
  exact h₂
theorem wpS_spliced_nil {Q : List Value → Shared → Prop} (h : Q [] s) : wpS M A (spliced []) Q E s := wpS_pure h
theorem wpS_spliced_cons {x : Sem Value} {rest : List (Bool × Sem Value)} {Q : List Value → Shared → Prop}
    (h : wpS M A x (fun v s₁ => wpS M A (spliced rest) (fun vs s₂ => Q (v :: vs) s₂) E s₁) E s) : wpS M A (spliced ((false, x) :: rest)) Q E s := by
  rw [spliced]
  refine wpS_bind (wpS_mono h (fun v s₁ h₁ => ?_) fun _ _ x => x)
  simp only [Bool.false_eq_true, if_false]
  exact wpS_bind (wpS_pure (wpS_bind (wpS_holding (wpS_mono h₁ (fun vs s₂ h₂ => wpS_pure h₂) fun _ _ x => x))))
theorem wpS_args_nil {pos : Pos} {Q : List Value → Shared → Prop} (h : Q [] s) : wpS M A (spliced (backTo pos (starEach [] env))) Q E s := wpS_spliced_nil h
theorem wpS_args_cons {e : Expr} {rest : List Expr} {pos : Pos} {Q : List Value → Shared → Prop}
    (h : wpS M A (eval e env) (fun v s₁ => wpS M A (spliced (backTo pos (starEach rest env))) (fun vs s₂ => Q (v :: vs) s₂) E s₁) E s)
    (he : starEach (e :: rest) env = (false, eval e env) :: starEach rest env := by rfl) : wpS M A (spliced (backTo pos (starEach (e :: rest) env))) Q E s := by
  rw [he]; exact wpS_spliced_cons h
theorem wpS_evalArgs_plain {f : Value} {x : Sem Value} {rest : List (Bool × Sem Value)} {Q : Args → Shared → Prop}
    (h : wpS M A (spliced ((false, x) :: rest)) (fun vs s' => Q ⟨vs, []⟩ s') E s) : wpS M A (evalArgs f true ((false, x) :: rest) []) Q E s := by
  unfold evalArgs
  show wpS M A (spliced ((false, x) :: rest) >>= _) Q E s
  refine wpS_bind (wpS_mono h (fun vs s' h' => ?_) fun _ _ x => x)
  refine wpS_holding ?_
  exact wpS_bind (wpS_pure (wpS_bind (wpS_pure (wpS_pure h'))))
/-- a def of the written part, called by its name -/
theorem wpS_callWith_K {K : Frag} {pos : Pos} {f : Value} {e : Expr} {rest : List Expr} {Q : Value → Shared → Prop} (hk : keepIn K f = true)
    (h : wpS M A (spliced (backTo pos (starEach (e :: rest) env))) (fun vs s₁ => K.In s₁.heap ∧ wpS M A (call f vs) Q E s₁) E s)
    (he : starEach (e :: rest) env = (false, eval e env) :: starEach rest env := by rfl) (hplain : (backTo pos (starEach rest env)).any (·.1) = false := by rfl) :
    wpS M A (callWith pos f [] (backTo pos (starEach (e :: rest) env)) []) Q E s := by
  have hb : backTo pos ((false, eval e env) :: starEach rest env) = (false, eval e env) :: backTo pos (starEach rest env) := rfl
  rw [he, hb] at h ⊢
  unfold callWith
  refine wpS_bind (wpS_holding (wpS_mono (wpS_evalArgs_plain (Q := fun a s₁ => a.kw = [] ∧ K.In s₁.heap ∧ wpS M A (call f a.pos) Q E s₁) (wpS_mono h (fun vs s₁ h₁ => ⟨rfl, h₁⟩) fun _ _ x => x)) (fun a s₁ h₁ => wpS_bind (wpS_standAt ?_)) fun _ _ x => x))
  obtain ⟨hkw, h₁⟩ := h₁
  obtain ⟨k, hk', L⟩ := keeps_K (M := M) hk _ h₁.1
  have hpl : ((((false, eval e env) :: backTo pos (starEach rest env)).any (·.1)) || ([] : List (Option Str × Sem Value)).any (·.1.isNone)) = false := by
    show ((false || (backTo pos (starEach rest env)).any (·.1)) || false) = false
    rw [hplain]; rfl
  simp only [hpl]
  refine wpS_bind (wpS_of_any (L.here ?_))
  rw [hkw]
  have tail : ∀ {t : Sem Value}, wpS M A t Q E s₁ → wpS M A (t >>= fun r => holding [r] point >>= fun _ => pure r) Q E s₁ :=
    fun ht => wpS_bind (wpS_mono ht (fun r s₂ hr => wpS_bind (wpS_holding (wpS_point (wpS_pure hr)))) fun _ _ x => x)
  have marked (mk : Value) : wpS M A (callMarked mk f ([] ++ a.pos) []) Q E s₁ := by unfold callMarked; exact wpS_keep h₁.2
  rcases hk' with rfl | rfl | rfl <;> dsimp only <;> first | exact tail h₁.2 | (split <;> first | exact tail h₁.2 | exact tail (marked _))
end

section
variable {prog : Program} {w : World} {A A₀ : Around} {s : Shared} {K : Frag} {L : Addr} {h₀ base : Heap} {m mg mb : Str → Option Value} {news : List (Addr × Obj)} {p : Program} {loose : List Str} {mean : ExcName → Option Value}
theorem codeS_def {env : Env} {outer : List Env} {R : Result → Shared → Prop} {name qual : Str} {params : Arguments} {body : List Stmt} {scope : Scope} {dV kV doc pm cdv ct oc : Value} {an od : Option Addr} {osl : Array (Option Value)} {f : Addr} {args : Args} {binds : List (Str × Value)}
    (B : Below A₀ base outer h₀) (F : Fr h₀ L s.heap m) (X₀ : K.In h₀) (N : News h₀ L s.heap news) (T : Top p loose mean mg mb h₀) (hA : A.frames = some (env :: outer)) (hf : env.frame = some L) (hke : env.scope.kind = .function)
    (ho : K.lookup f = some ⟨oc, od, .func (fnOf name qual params body scope dV kV doc pm an cdv ct), osl⟩) (hcd : codeIn K cdv qual = true) (hroom : A.depth < recursionLimit)
    (hbind : BindsTo s (fnOf name qual params body scope dV kV doc pm an cdv ct) args binds) (hloc : ∀ y ∈ binds, scope.names.lookup y.1 = some .local)
    (h : ∀ g L' h₁, Fr h₀ L g m → Fr g L' h₁ (fun y => binds.reverse.lookup y) → News g L' h₁ news → Below A base (env :: outer) g → K.In g → Top p loose mean mg mb g → (∀ p ∈ news, p.1 < L') →
      wpS (model prog w) (A.deeper (envOf qual scope L' f cdv)) (execs body (envOf qual scope L' f cdv))
        (fun fl s' => LeaveK h₀ L m g R (match fl with | .ret v => v | _ => .none) s') (fun _ _ => False)
        { s with heap := h₁, toks := s.toks + binds.length })
    (hco : scope.isCoroutine = false) (hgen : scope.isGenerator = false) (hk : scope.kind = .function)
    (hcell : ∀ x ∈ scope.names, x.2 ≠ .cell) : codeS (model prog w) A (.call (.ref f) args) R s := by
  obtain ⟨FG, BG, st, lv⟩ := groundX (R := R) B F N hA hf hke
  refine codeS_call_def (fd := fnX name qual params body scope [] dV kV doc pm an cdv ct) (body := body) (binds := binds) hroom ((X₀.keeps F.keep) _ _ ho) rfl (T.nolimit.keeps F.keep) (codeRec_of (X₀.keeps F.keep) hcd) rfl hbind hcell hloc (fun h₁ hns hk₁ => ?_) hco hgen hk
  exact wpS_mono (h _ s.heap.objs.size h₁ FG ⟨hns, fun b o e => hk₁ b o (of_hideAll _ e), Nat.le_of_eq (hideAll_size _ _)⟩
    (fun p hp => ⟨hk₁ _ _ (N p hp).1, Nat.ne_of_lt (Heap.lt_size (N p hp).1), hideAll_none _ (List.mem_map_of_mem hp)⟩) BG (X₀.keeps st) (T.keeps st) (fun p hp => Heap.lt_size (N p hp).1)) (fun fl s' hl => lv _ _ hl) fun _ _ y => y.elim
end
end Mine
end

section
open PySem PySem.W PySem.Calls PyProof.Rows
set_option maxRecDepth 100000
namespace Mine
open Sem (wp)

theorem wp_of_wpS_done {M : Model} {t : Sem Fin} {R : Result → Shared → Prop} {s : Shared}
    (h : wpS M callerA t (fun fin s' => ∃ f, fin = .done f ∧ R (.ok f) s') (fun e s' => R (.error e) s') s) (p : Pos) :
    wp M ⟨.builtin "claim.caller" {}, none, none, [], none⟩ t (Sem.finPost M ⟨.builtin "claim.caller" {}, none, none, [], none⟩ R) (fun e _ s' => R (.error e) s') p s := by
  refine Sem.wp_mono M _ t (fun fin p' s' h' => ?_) (fun _ _ _ h' => h') p s (h _ p caller_in ⟨by decide +kernel, fun x hx => nomatch hx⟩)
  obtain ⟨f, rfl, hf⟩ := h'
  exact hf

theorem thread_endsS {prog : Program} {w : World} {t : Sem Fin} {s : Shared} {R : Result → Shared → Prop} (hreg : s.asleep)
    (h : wpS (model prog w) callerA t (fun fin s' => ∃ f, fin = .done f ∧ (R (.ok f) s' ∧ leftWithCleanup s'.gens = false)) (fun e s' => R (.error e) s' ∧ leftWithCleanup s'.gens = false) s) :
    ∃ n r s' s'', runN (denote table) prog w n s ⟨t, .builtin "claim.caller" {}, default, []⟩ = .halted (outcomeOf r) s' ∧
      schedN (denote table) prog w n (.single s ⟨t, .builtin "claim.caller" {}, default, []⟩) = .halted (outcomeOf r) s' ∧ s'.forget = s''.forget ∧ R r s'' := by
  obtain ⟨n, r, s₁, s₂, hs, hn, hfo, hR⟩ := wp_halts_full (M := model prog w) (R := R) hreg (wp_of_wpS_done (R := fun r s' => R r s' ∧ leftWithCleanup s'.gens = false) h default)
  exact ⟨n, r, s₂, s₁, hn, hs, hfo, hR⟩

theorem callFromS {c : ClaimW} {tree : List Value → Sem Fin} {w : World} {s : Shared} {free : Addr → Prop} {gens : Prop} {kept : Heap → Prop} (hz : s.asleep) (hgens : s.gens = #[])
    (hspec : ∀ args, c.pre args = true → WData.layableAll args = true →
      ∀ ord : List DictEntry → List DictEntry, (∀ l, (ord l).Perm l) →
      ∃ vs s₁, layAllW c.records (classAt s.heap) w.params ord args s = some (vs, s₁) ∧
        wpS (model c.prog w) callerA (tree vs) (fun fin s' => ∃ f, fin = .done f ∧ (c.Ends s args vs s₁ (.ok f) s' ∧ s'.os = s.os ∧ AllBare s'.gens ∧ kept s'.heap))
          (fun e s' => c.Ends s args vs s₁ (.error e) s' ∧ s'.os = s.os ∧ AllBare s'.gens ∧ kept s'.heap) s₁) :
    c.CallFrom (fun vs => ⟨tree vs, .builtin "claim.caller" {}, default, []⟩) w free gens kept s := by
  intro args hpre hlay ord hord
  obtain ⟨vs, s₁, hlaid, hcode⟩ := hspec args hpre hlay ord hord
  have hal := layAllW_rest _ _ _ hlaid
  obtain ⟨k, r, s', s'', hrun, hsched, hfo, hcase, hos, hkp⟩ := thread_endsS (prog := c.prog) (w := w) (t := tree vs) (s := s₁)
    (R := fun r s' => c.Ends s args vs s₁ r s' ∧ s'.os = s.os ∧ kept s'.heap)
    (Shared.asleep_of_life hal.2.2.2 hz)
    (wpS_mono hcode (by
      rintro fin s' ⟨f, e, h1, h2, h3, h4⟩
      exact ⟨f, e, ⟨h1, h2, h4⟩, leftWithCleanup_false_of_bare h3⟩) (by
      rintro e s' ⟨h1, h2, h3, h4⟩
      exact ⟨⟨h1, h2, h4⟩, leftWithCleanup_false_of_bare h3⟩))
  obtain ⟨eh, _, _, eo, _⟩ := Shared.forget_eq hfo
  have hcase := hcase.congr eh
  have hkp : kept s'.heap := by first | exact eh ▸ hkp | (rw [eh] at hkp; exact hkp) | (rw [← eh] at hkp; exact hkp)
  rw [← eo] at hos
  have hlife : s'.heap.life = s.heap.life := (runN_life _ _ _ hrun).trans hal.2.2.2
  refine ⟨vs, s₁, hlaid, k, _, s', hsched, ?_, (fun _ i x hx => by rw [hgens] at hx; simp at hx), hkp, by rw [hlife], Shared.rest_eq hos⟩
  rcases hcase with ⟨v, rfl, d1, d2, d3, d4, d5⟩ | ⟨e, ob, cls, rfl, d1, d2, d3, d4, d5⟩
  · exact .inl ⟨v, rfl, d1, d2, d3, fun b o y _ => d4 b o y, d5⟩
  · exact .inr ⟨e, ob, cls, rfl, d1, d2, d3, d4, fun b o y _ => d5 b o y⟩

/-- what is to be walked: the call, from the claim's own caller alone -/
abbrev WalkS (q : Program) (loose : List Str) (XP : (Str → Option Value) → Heap → Prop) (YP : World → Heap → Prop) (r : RowW) (d : DefRec) (kwd : List (Str × Expr)) (run : Value → List Value → Sem Value) : Prop :=
  ∀ (w : World) (s₀ s₁ : Shared) (mg mb : Str → Option Value), Ground q loose r.records XP w s₀ mg mb s₁.heap → YP w s₁.heap → ∀ (a : Addr) (o : Obj) (pm cd doc dV kV : Value), s₁.heap.get? a = some o →
    o.data = .func { docDef d.name d.params d.body d.scope pm cd doc with defaults := dV, kwdefaults := kV } → s₁.heap.CodeRec cd d.name → Dflts mg s₁.heap d.params kwd dV kV → mg d.name = some (.ref a) → s₁.gens = #[] →
    ∀ (args : List WData) (vals : List Value) (as : List Addr), r.claim.pre args = true → WData.layableAll args = true → ReadsAllW r.records (classAt s₀.heap) s₁.heap vals args as → WellAll w.params s₁.heap vals args → (∀ a ∈ as, (a == sysModules) = false) →
      wpS (model r.prog w) callerA (run (.ref a) vals) (fun v s' => GoodWG r.claim (classAt s₀.heap) (ExcName.means s₀.heap) args s₁ (.ok (.ret v)) s')
        (fun e s' => GoodWG r.claim (classAt s₀.heap) (ExcName.means s₀.heap) args s₁ (.error e) s') s₁

theorem PySem.W.holds_open {r : OpenRow} {q : Program} {loose : List Str} {Xt : Shared → Bool} {XP : (Str → Option Value) → Heap → Prop} {α : Type} {Yf : Shared → α} {Ya : World → α} {YP : World → Heap → Prop} {d : DefRec} {kwd : List (Str × Expr)} {N : Nat}
    (left : LeftO r.prog q loose Xt Yf Ya N) (hY : ∀ w s, Yf s = Ya w → YP w s.heap) (hYk : ∀ w h h', YP w h → (∀ b o, h.get? b = some o → h'.get? b = some o) → YP w h')
    (hX : ∀ s, Xt s = true → XP (s.heap.nsMap mainGlobals) s.heap) (hXk : ∀ mg h h', XP mg h → (∀ b o, h.get? b = some o → h'.get? b = some o) → XP mg h')
    (hdef : defOf q r.name = some (d, kwd)) (hp : r.prog.theDef r.name = some (d.params, d.body, d.scope)) (hk : kwWritten? d.params.kwonlyargs d.params.kw_defaults = some kwd) (hRf : ∀ s, Xt s = true → RecFacts r.records s.heap) (hwr : (!r.writes || r.records.isEmpty) = true)
    (k1 : r.wellSaid = true) (ok : (chainsOk q && opensWell r.prog && (frees r.toRowW && r.within.isEmpty)) = true) (hb : r.prog.bare) (hw : r.toRowW.promised)
    (call : WalkS q loose XP YP r.toRowW d kwd fun f vs => PySem.call f vs) : r.Holds := by
  refine ⟨k1, hw, ?_⟩
  obtain ⟨ok, k5⟩ := Bool.and_eq_true_iff.mp ok
  obtain ⟨hch, o1⟩ := Bool.and_eq_true_iff.mp ok
  obtain ⟨k5, k6⟩ := Bool.and_eq_true_iff.mp k5
  obtain ⟨hsame, hu, ha, hap, hm⟩ := frees_parts k5
  refine ⟨⟨hb, o1, by show r.toRowW.makers.map _ = []; rw [hm]; rfl⟩, hw.witness, fun w => ⟨(left.behind hX hch w).1, fun s' hs' => ?_⟩⟩
  obtain ⟨s₀, hf, hg0, s, hT, hz, hgens, hg, G00, y⟩ := (left.behind (XP := fun mg h => XP mg h ∧ RecFacts r.records h) (fun s hs => ⟨hX s hs, hRf s hs⟩) hch w).2 s' hs'
  have G0 : Ground q loose [] XP w s (s.heap.nsMap mainGlobals) (s.heap.nsMap builtinsNs) s.heap := ⟨G00.T, G00.B, G00.D, G00.TE, G00.TD, G00.W, G00.X.1, G00.cls, G00.has, G00.apart, G00.once, G00.K⟩
  have RF := G00.X.2
  have hT' := hT
  refine ⟨s₀, hf, hg0, s, hT, fun n hn => ?_, RF.1, RF.2.1, ?_⟩
  · obtain rfl : n = r.name := by split at hn <;> simp_all
    exact pinned_of_view hg G0 hdef hp hk
  have hgens : s.gens = #[] := Array.eq_empty_of_size_eq_zero (beq_iff_eq.mp hgens)
  have G : Ground q loose r.records XP w s _ _ s.heap := RF.ground G0
  refine callFromS (c := r.toRowW.claim) hz hgens fun args hpre hlay ord hord => ?_
  obtain ⟨⟨vs, s₁⟩, hlaid⟩ := Option.isSome_iff_exists.mp (layAllW_isSome (P := w.params) (ord := ord) G.has args r.toRowW.args s (pre_splitW hpre).1)
  have keeps := layAllW_keeps _ _ _ hlaid
  have hal := layAllW_rest _ _ _ hlaid
  obtain ⟨as, hrd, hin, hold⟩ := reads_layAllW hord _ _ _ hlaid hlay s₁.heap (fun _ _ e => e)
  have L : Laid r.records w s s₁ args vs as := ⟨⟨ord, hord, hlaid⟩, hrd, hin, hold, keeps, hal.1.trans hgens, hal.2.2.1⟩
  have G₁ := G.keeps hXk keeps
  obtain ⟨a, o, pm, cd, doc, dV, kV, h1, h2, h3, h4, h5⟩ := G₁.fn hdef
  have h := call w s s₁ _ _ G₁ (hYk _ _ _ (hY w s y) keeps) a o pm cd doc dV kV h2 h3 h4 h5 (defOf_name hdef ▸ h1) L.gens args vs as hpre hlay L.reads L.well (L.low G.low)
  have hi := ident_freeW hu ha hap
  have hwi : r.toRowW.claim.within = [] := List.isEmpty_iff.mp k6
  refine ⟨vs, s₁, hlaid, wpS_bind (wpS_of_any (wpAny_nsGet G₁.T.g ?_))⟩
  rw [h1]
  refine wpS_bind (wpS_mono h (fun v s' g => wpS_pure ⟨_, rfl, have z := g.laid (c := r.toRowW.claim) hsame hwi hi L; ⟨z.1, z.2.1, z.2.2, fun q => ⟨namesKept_of hT' hg _ keeps g.2.1.old, noTable hwr q⟩⟩⟩) fun e s' g => have z := g.laid (c := r.toRowW.claim) hsame hwi hi L; ⟨z.1, z.2.1, z.2.2, fun q => ⟨namesKept_of hT' hg _ keeps g.2.1.old, noTable hwr q⟩⟩)

set_option maxHeartbeats 8000000 in
open_top hd for PySem.Challenge.rw_zn0012_01
end Mine
end

section
open PySem PySem.W PySem.Calls PyProof.Rows
set_option maxRecDepth 100000
namespace Mine
namespace BA
theorem mro_ba : mroOf (.type "bytearray") = pure [.type "bytearray", .type "object"] := by rw [mroOf_type]; kernel_rfl
theorem lookup_new : typeLookup (.type "bytearray") "__new__" = pure (some (.builtin "bytearray.__new__")) := by rw [typeLookup_type, builtinLookup_eq_fast]; kernel_rfl
theorem slot_init : Slot "bytearray" "__init__" "bytearray.__init__" :=
  .of (owner := "bytearray") (n := "__init__") (by rw [typeLookup_type, builtinLookup_eq_fast]; kernel_rfl) (by decide +kernel) (by decide +kernel) (by decide +kernel)
    (by first | exact .inl (by decide +kernel) | exact .inr (by decide +kernel)) (by rw [isSubtype_type]; kernel_rfl)
theorem sub_self : isSubtype (.type "bytearray") (.type "bytearray") = pure true := by rw [isSubtype_type]; kernel_rfl
theorem made : Bind.madeBy (.type "bytearray") = pure (some "bytearray.__new__") := madeBy_type mro_ba lookup_new (by decide +kernel)
theorem called : TypeCalled "bytearray" "bytearray.__new__" "bytearray.__init__" :=
  ⟨by decide +kernel, by decide +kernel, ⟨_, _, mro_ba⟩, made, by decide +kernel, sub_self, slot_init⟩
theorem typeCall (a : Value) : checkTypeCall "bytearray" ⟨[a], []⟩ = pure () := by kernel_rfl
theorem newCall (a : Value) : checkBuiltinCall "bytearray.__new__" ⟨[.type "bytearray", a], []⟩ = pure () := by kernel_rfl
theorem entry_new : entryFor table "bytearray.__new__" = some Builtin.«list.__new__» :=
  entryFor_alias (id' := "list.__new__") (by kernel_rfl) (by first | rfl | decide +kernel) (by decide +kernel) (by kernel_rfl)
theorem plain_new : plainId "bytearray.__new__" = true := by decide +kernel
theorem entry_init : entryFor table "bytearray.__init__" = some Builtin.«bytearray.__init__» := by first | exact entryFor_of_fast (by kernel_rfl) | exact entryFor_of_tree (by kernel_rfl)
set_option maxRecDepth 1000000 in
set_option maxHeartbeats 4000000 in
theorem owner_new : ("bytearray.__new__".splitOn ".__new__").headD "" = "bytearray" := by simp +decide [String.splitOn, String.splitOnAux]
section
variable {prog : Program} {w : World} {A : Around} {E : Value → Shared → Prop} {s : Shared}
theorem code_new (a : Value) {Q₁ : Value → Shared → Prop}
    (h : Q₁ (.ref s.heap.objs.size) { s with heap := s.heap.push { cls := .type "bytearray", data := .bytearray #[] } }) :
    codeAny (model prog w) A (.call (.builtin "bytearray.__new__") ⟨[.type "bytearray", a], []⟩) (wants Q₁ E) s := by
  refine codeAny_of_tree ?_
  show wpAny _ A.in1 (do checkBuiltinCall "bytearray.__new__" ⟨[.type "bytearray", a], []⟩; again (.builtin "bytearray.__new__" ⟨[.type "bytearray", a], []⟩)) _ _ s
  refine wpAny_bind (wpAny_of_eq (newCall a) (wpAny_pure ⟨plainId_quiet plain_new _, codeAny_builtin_stack entry_new rfl fun p st => ?_⟩))
  rw [Around.under_plainId plain_new _]
  have hsub := sub_self
  have hown := owner_new
  obtain ⟨hp, g, d, tk, os⟩ := s
  simp only [hown]
  wp_walk
  exact h


def baObj (b : Array UInt8) : Obj := { cls := .type "bytearray", data := .bytearray b }
theorem look_release : typeLookup (.type "bytearray") "__release_buffer__" = pure (some (.builtin "bytearray.__release_buffer__")) := by rw [typeLookup_type, builtinLookup_eq_fast]; kernel_rfl
theorem look_buffer : typeLookup (.type "bytearray") "__buffer__" = pure (some (.builtin "bytearray.__buffer__")) := by rw [typeLookup_type, builtinLookup_eq_fast]; kernel_rfl
theorem ba_type {a : Addr} {b : Array UInt8} (h : s.heap.get? a = some (baObj b)) : s.TypeIs (.ref a) "bytearray" := ⟨_, h, rfl⟩
theorem own_slot {a : Addr} {b : Array UInt8} {name : String} {id : String} {Q : Bool → Shared → Prop} (hg : s.heap.get? a = some (baObj b)) (hl : typeLookup (.type "bytearray") (name : Str) = pure (some (.builtin id)))
    (he : (!id.endsWith ("." ++ name)) = false) (hd : id.dropRight (name.length + 1) = "bytearray") (h : Q true s) : wpAny (model prog w) A (Builtin.Bytes.slotIsOwn (.ref a) name) Q E s := by
  unfold Builtin.Bytes.slotIsOwn
  refine wpAny_bind (wpAny_specialOf (ba_type hg) hl ?_)
  dsimp only
  rw [he, hd]
  exact wpAny_isInstance (ba_type hg) sub_self h
theorem own_release {a : Addr} {b : Array UInt8} {Q : Bool → Shared → Prop} (hg : s.heap.get? a = some (baObj b)) (h : Q false s) : wpAny (model prog w) A (Builtin.Bytes.ownRelease (.ref a)) Q E s := by
  unfold Builtin.Bytes.ownRelease
  exact wpAny_bind (own_slot hg look_release (by decide +kernel) (by decide +kernel) (wpAny_pure h))
theorem bind_opt (v : Value) : Builtin.Bytes.bindOptional "bytearray.__init__" "bytearray" ["source", "encoding", "errors"] [v] [] = pure [some v, none, none] := by kernel_rfl
theorem exported_no {a : Addr} {Q : Bool → Shared → Prop} (h : Q false s) : wpS (model prog w) A (Builtin.Bytes.exported (.ref a)) Q E s := fun Γ p hΓ k => by
  unfold Builtin.Bytes.exported
  show Q (((Γ.code, p) :: Γ.below).any _) s
  rw [List.any_eq_false.mpr ?hh]
  · exact h
  case hh =>
    intro x hx hm
    have hn : nice x.1 = true := by
      rcases List.mem_cons.mp hx with rfl | hx
      · exact k.1
      · exact k.2 x hx
    have no : ∀ id args, x.1 = .builtin id args → shy.contains id = false := fun id args e => by
      rw [e] at hn
      simpa [nice] using hn
    split at hm
    · exact absurd (no _ _ rfl) (by decide +kernel)
    · exact absurd (no _ _ rfl) (by decide +kernel)
    · exact absurd (no _ _ rfl) (by decide +kernel)
    · exact absurd (no _ _ rfl) (by decide +kernel)
    · exact absurd (no _ _ rfl) (by decide +kernel)
    · have h1 := no _ _ rfl
      have h2 := (Bool.and_eq_true_iff.mp hm).2
      unfold shy at h1
      rw [List.contains_iff_mem] at h2
      have h3 : Builtin.Bytes.decodersThatHold ++ ["bytearray.__contains__", "bytearray.__mod__", "bytearray.__rmod__", "_struct.pack_into.held", "bytearray.find.held"] |>.contains _ := List.contains_iff_mem.mpr (List.mem_append_left _ h2)
      rw [h1] at h3
      cases h3
    · cases hm
theorem write_ba {a : Addr} {b : Array UInt8} {f : Array UInt8 → Array UInt8} {Q : Unit → Shared → Prop} (hg : s.heap.get? a = some (baObj b)) (hs : (f b).size ≤ 1000)
    (h : Q () { s with heap := s.heap.update a (Obj.mapBytearray f) }) : wpAny (model prog w) A (Builtin.Bytes.write (.ref a) f) Q E s := by
  show wpAny _ _ (updateBytearray a f) _ _ _
  unfold updateBytearray
  refine wpAny_bind (wpAny_load hg ?_)
  show wpAny _ _ (update a (Obj.mapBytearray f) >>= fun _ => lookBehind a) _ _ _
  refine wpAny_bind (wpAny_update hg ?_)
  refine wpAny_lookBehind (o := baObj (f b)) (Heap.get?_update_self (Obj.mapBytearray f) hg rfl) ?_ h
  show (if (f b).size > sizeLine then some "bytearray:memory" else none) = none
  rw [if_neg]
  rw [sizeLine_eq]; omega

theorem if_f {α : Type} {M : Model} {c : Bool} {x y : Sem α} {Q : α → Shared → Prop} (hc : c = false) (h : wpS M A y Q E s) : wpS M A (if c = true then x else y) Q E s := by
  subst hc
  exact h
theorem if_t {α : Type} {M : Model} {c : Bool} {x y : Sem α} {Q : α → Shared → Prop} (hc : c = true) (h : wpS M A x Q E s) : wpS M A (if c = true then x else y) Q E s := by
  subst hc
  exact h
theorem init_ba {a : Addr} {n : Int} {t : Tok} {Q : Fin → Shared → Prop} (hg : s.heap.get? a = some (baObj #[])) (h0 : 0 < n) (h1 : n ≤ 1000)
    (h : ∀ h', h'.get? a = some (baObj (Array.replicate n.toNat 0)) → (∀ b o, b ≠ a → s.heap.get? b = some o → h'.get? b = some o) → Q (.done (.ret .none)) { s with heap := h' }) :
    wpS (model prog w) A (Builtin.«bytearray.__init__» ⟨[.ref a, .int n t], []⟩) Q E s := by
  unfold Builtin.«bytearray.__init__»
  dsimp only
  refine wpS_bind (wpS_of_any (own_release hg ?_))
  refine if_f rfl ?_
  refine wpS_bind (wpS_of_any (wpAny_of_eq (bind_opt _) ?_))
  dsimp only
  refine wpS_bind (wpS_of_any (wpAny_of_eq (a := ()) rfl ?_))
  refine wpS_bind (wpS_of_any (wpAny_of_eq (a := ()) rfl ?_))
  refine wpS_bind ?_
  unfold orM
  refine wpS_bind (exported_no ?_)
  show wpS _ _ (Builtin.Bytes.exportsOf (.ref a) >>= fun n => pure (decide (n > 0))) _ _ _
  unfold Builtin.Bytes.exportsOf
  refine wpS_bind (wpS_of_any (wpAny_bind (wpAny_load hg (wpAny_pure ?_))))
  refine wpS_pure ?_
  refine if_f rfl ?_
  refine wpS_bind (wpS_of_any (write_ba hg (by simp) ?_))
  have hg' : (s.heap.update a (Obj.mapBytearray fun _ => #[])).get? a = some (baObj #[]) := Heap.get?_update_self (Obj.mapBytearray fun _ => #[]) hg rfl
  refine wpS_bind (wpS_of_any (wpAny_of_eq (a := none) rfl ?_))
  refine if_f rfl ?_
  refine wpS_bind ?_
  refine if_f rfl (if_f rfl (wpS_pure ?_))
  refine wpS_bind (wpS_of_any (wpAny_specialOf (typeIs_int _ _ _) F.slot_int_index.lookup ?_))
  refine if_t rfl ?_
  refine wpS_bind (wpS_of_any (wpAny_of_eq (a := Except.ok n) rfl ?_))
  dsimp only
  refine if_f ?_ ?_
  · unfold Builtin.Bytes.fitsIndex
    simp
    omega
  rw [if_neg (by omega)]
  refine if_f (by simp; omega) ?_
  refine if_f ?_ ?_
  · unfold Builtin.Bytes.tooLong
    rw [sizeLine_eq]
    simp
    omega
  refine wpS_bind (wpS_rule ?_)
  rw [if_pos (by omega)]
  refine wpS_bind (wpS_of_any (write_ba (s := { s with heap := s.heap.update a (Obj.mapBytearray fun _ => #[]) }) hg' (by simp; omega) ?_))
  refine wpS_pure (h _ ?_ ?_)
  · exact Heap.get?_update_self (Obj.mapBytearray fun _ => Array.replicate n.toNat 0) hg' rfl
  · intro b o hb e
    exact (Heap.get?_update_ne _ _ _ _ hb).trans ((Heap.get?_update_ne _ _ _ _ hb).trans e)

theorem codeS_call_builtin {id : String} {args : Args} {b : Builtin} {R : Result → Shared → Prop} (hq : (Code.builtin id args).quiet = true) (hn : nice (.builtin id args) = true) (hb : entryFor table id = some b)
    (h : wpAny (model prog w) A.in1 (checkBuiltinCall id args) (fun _ s' => wpS (model prog w) (A.under (.builtin id args)) (b args)
      (fun fin s' => match fin with | .done f => R (.ok f) s' | .again c' => c'.quiet = true ∧ nice c' = true ∧ codeS (model prog w) A c' R s') (fun e s' => R (.error e) s') s') (fun e s' => R (.error e) s') s) :
    codeS (model prog w) A (.call (.builtin id) args) R s := by
  refine codeS_of_tree ?_
  show wpS _ A.in1 (do checkBuiltinCall id args; again (.builtin id args)) _ _ s
  refine wpS_bind (wpS_of_any (wpAny_mono h (fun _ s' h' => ?_) fun _ _ x => x))
  exact wpS_pure ⟨hq, hn, codeS_builtin hb h'⟩
theorem args_init (a b : Value) : argsOk "bytearray.__init__" ⟨[a, b], []⟩ := by
  unfold argsOk
  rw [signature?_of (id := "bytearray.__init__") (n := ['_', '_', 't', 'i', 'n', 'i', '_', '_']) (o := ['y', 'a', 'r', 'r', 'a', 'e', 't', 'y', 'b']) (by kernel_rfl) (show Manifest.owners.lookup (String.ofList ['y', 'a', 'r', 'r', 'a', 'e', 't', 'y', 'b'].reverse) = some Manifest.sig_bytearray by kernel_rfl)]
  kernel_rfl

theorem call_ba {n : Int} {t : Tok} {Q : Value → Shared → Prop} (h0 : 0 < n) (h1 : n ≤ 1000)
    (h : ∀ h', h'.get? s.heap.objs.size = some (baObj (Array.replicate n.toNat 0)) → (∀ b o, s.heap.get? b = some o → h'.get? b = some o) → Q (.ref s.heap.objs.size) { s with heap := h' }) :
    wpS (model prog w) A (call (.type "bytearray") [.int n t]) Q E s := by
  refine wpS_call (codeS_of_tree ?_)
  show wpS _ _ (callAny (.type "bytearray") _) _ _ _
  refine wpS_pure ⟨Code.quiet_builtin _ (by decide +kernel), (by show (!shy.contains "type.__call__") = true; decide +kernel), codeS_builtin F.entry_type_call ?_⟩
  rw [Around.under_plain (weight_type_call_type "bytearray" _ []) rfl]
  unfold Builtin.«type.__call__»
  dsimp only
  refine if_f called.notType ?_
  refine if_f called.canCreate ?_
  refine wpS_bind (wpS_of_any (wpAny_of_eq (typeCall _) ?_))
  refine wpS_bind (wpS_of_any (wpAny_of_eq mro_ba ?_))
  refine if_f rfl ?_
  refine wpS_bind (wpS_of_any (wpAny_of_eq made ?_))
  dsimp only
  refine wpS_bind (wpS_pure ?_)
  refine wpS_bind (wpS_holding (wpS_of_any (wpAny_call (code_new _ ?_))))
  have hg : (s.heap.push (baObj #[])).get? s.heap.objs.size = some (baObj #[]) := Heap.get?_push_size _ rfl
  have hT : ({ s with heap := s.heap.push (baObj #[]) } : Shared).TypeIs (.ref s.heap.objs.size) "bytearray" := ⟨_, hg, rfl⟩
  refine wpS_bind (wpS_of_any (wpAny_isInstance (s := { s with heap := s.heap.push (baObj #[]) }) hT sub_self ?_))
  refine if_f rfl ?_
  refine wpS_bind (wpS_holding ?_)
  unfold callSpecial?
  refine wpS_bind (wpS_of_any (wpAny_specialOf (s := { s with heap := s.heap.push (baObj #[]) }) hT slot_init.lookup ?_))
  dsimp only
  refine wpS_holding ?_
  refine wpS_bind (wpS_of_any (wpAny_of_eq (slot_init.bind _) ?_))
  dsimp only
  refine wpS_bind (wpS_call (codeS_call_builtin (plainId_quiet slot_init.plain _) (by show (!shy.contains "bytearray.__init__") = true; decide +kernel) entry_init ?_))
  refine slot_init.check _ _ _ _ _ _ _ _ hT (args_init _ _) ?_
  refine init_ba (s := { s with heap := s.heap.push (baObj #[]) }) hg h0 h1 fun h' hh hk => ?_
  dsimp only
  refine wpS_pure ?_
  dsimp only
  refine if_f (by decide) ?_
  refine wpS_pure ?_
  refine h h' hh fun b o e => hk b o ?_ (Heap.get?_push_of_some _ e)
  exact Nat.ne_of_lt (Heap.lt_size e)
end
end BA
end Mine
end

section
open PySem PySem.W PySem.Calls PyProof.Rows
set_option maxRecDepth 100000
namespace Mine
namespace BA
theorem slot_setitem : Slot "bytearray" "__setitem__" "bytearray.__setitem__" :=
  .of (owner := "bytearray") (n := "__setitem__") (by rw [typeLookup_type, builtinLookup_eq_fast]; kernel_rfl) (by decide +kernel) (by decide +kernel) (by decide +kernel)
    (by first | exact .inl (by decide +kernel) | exact .inr (by decide +kernel)) (by rw [isSubtype_type]; kernel_rfl)
theorem entry_setitem : entryFor table "bytearray.__setitem__" = some Builtin.«bytearray.__setitem__» := by first | exact entryFor_of_fast (by kernel_rfl) | exact entryFor_of_tree (by kernel_rfl)
theorem owner_ba : Manifest.owners.lookup (String.ofList ['y', 'a', 'r', 'r', 'a', 'e', 't', 'y', 'b'].reverse) = some Manifest.sig_bytearray := by kernel_rfl
theorem args_setitem (a b c : Value) : argsOk "bytearray.__setitem__" ⟨[a, b, c], []⟩ := by
  unfold argsOk
  rw [signature?_of (id := "bytearray.__setitem__") (n := ['_', '_', 'm', 'e', 't', 'i', 't', 'e', 's', '_', '_']) (o := ['y', 'a', 'r', 'r', 'a', 'e', 't', 'y', 'b']) (by kernel_rfl) owner_ba]
  kernel_rfl
theorem fits {k : Int} (h0 : 0 ≤ k) (h1 : k < 2 ^ 63) : (!Builtin.Bytes.fitsIndex k) = false := by
  unfold Builtin.Bytes.fitsIndex
  simp
  omega

section
variable {prog : Program} {w : World} {A : Around} {E : Value → Shared → Prop} {s : Shared}
theorem subscript_int {k : Int} {t : Tok} {Q : Option Int → Shared → Prop} (h0 : 0 ≤ k) (h1 : k < 2 ^ 63) (h : Q (some k) s) : wpAny (model prog w) A (Builtin.Bytes.subscript? (.int k t)) Q E s := by
  unfold Builtin.Bytes.subscript?
  refine wpAny_bind (wpAny_specialOf (typeIs_int _ _ _) F.slot_int_index.lookup ?_)
  refine bm_if_false rfl ?_
  refine wpAny_bind (wpAny_of_eq (a := k) rfl ?_)
  exact bm_if_false (fits h0 h1) (wpAny_pure h)

theorem setItem_ba {a : Addr} {b : Array UInt8} {k v : Int} {t u : Tok} {Q : Unit → Shared → Prop} (hg : s.heap.get? a = some (baObj b)) (hb : b.size ≤ 1000) (h0 : 0 ≤ k) (h1 : k < b.size) (hv0 : 0 ≤ v) (hv1 : v < 256)
    (h : Q () { s with heap := s.heap.update a (Obj.mapBytearray (·.setIfInBounds k.toNat v.toNat.toUInt8)) }) :
    wpAny (model prog w) A (setItem (.ref a) (.int k t) (.int v u)) Q E s := by
  have hT := ba_type hg
  unfold setItem
  refine wpAny_holding ?_
  refine wpAny_bind (wpAny_sequenceKey hT (by decide) ?_)
  refine wpAny_bind (wpAny_callSpecial?_slot (name := Str.ofString "__setitem__") hT slot_setitem
    (wpAny_call_entry slot_setitem hT entry_setitem ?_ (args_setitem _ _ _)))
  unfold Builtin.«bytearray.__setitem__»
  dsimp only
  refine bm_if_false rfl ?_
  refine wpAny_bind (subscript_int h0 (by omega) ?_)
  dsimp only
  refine wpAny_bind ?_
  unfold Builtin.Bytes.byteValue
  refine wpAny_bind (wpAny_of_eq (a := v) rfl ?_)
  refine bm_if_false (by simp; omega) ?_
  refine wpAny_pure ?_
  refine wpAny_bind ?_
  unfold Builtin.Bytes.payload Builtin.Bytes.payload?
  refine wpAny_bind (wpAny_bind (wpAny_load hg ?_))
  refine wpAny_pure (wpAny_pure ?_)
  rw [StrLaws.seqIndex_nonneg h0 h1]
  dsimp only
  refine wpAny_bind (write_ba hg (by simp; exact hb) ?_)
  exact wpAny_pure ⟨.none, rfl, wpAny_pure h⟩

theorem nolook_bytes : typeLookup (.type "bytearray") "__bytes__" = pure none := by rw [typeLookup_type, builtinLookup_eq_fast]; kernel_rfl
theorem nolook_index : typeLookup (.type "bytearray") "__index__" = pure none := by rw [typeLookup_type, builtinLookup_eq_fast]; kernel_rfl
theorem bytes_new {a : Addr} {b : Array UInt8} {Q : Value → Shared → Prop} (hg : s.heap.get? a = some (baObj b)) (hb : b.size ≤ 1000) (hQ : ∀ t k, Q (.bytes b t) { s with toks := k }) :
    codeAny (model prog w) A (.call (.builtin "bytes.__new__") ⟨[.type "bytes", .ref a], []⟩) (wants Q E) s := by
  refine codeAny_of_tree ?_
  show wpAny _ A.in1 (do checkBuiltinCall "bytes.__new__" ⟨[.type "bytes", .ref a], []⟩; again (.builtin "bytes.__new__" ⟨[.type "bytes", .ref a], []⟩)) _ _ s
  refine wpAny_bind (wpAny_of_eq (F.bm_newCall _) (wpAny_pure ⟨plainId_quiet F.bm_plain _, codeAny_builtin F.bm_entry ?_⟩))
  rw [Around.under_plainId F.bm_plain _]
  have hT := ba_type hg
  unfold Builtin.«bytes.__new__»
  refine wpAny_bind (wpAny_of_eq (a := true) rfl ?_)
  refine bm_if_false rfl ?_
  refine wpAny_bind (wpAny_of_eq F.bm_sub ?_)
  refine bm_if_false rfl ?_
  refine wpAny_bind (wpAny_of_eq (F.bm_bind _) ?_)
  refine wpAny_bind (wpAny_of_eq (a := ()) rfl ?_)
  refine wpAny_bind (wpAny_of_eq (a := ()) rfl ?_)
  refine bm_if_false rfl ?_
  refine wpAny_bind (wpAny_specialOf hT nolook_bytes ?_)
  refine wpAny_bind (wpAny_bind ?_)
  show wpAny _ _ (load a >>= _) _ _ _
  refine wpAny_bind (wpAny_load hg ?_)
  refine wpAny_pure (wpAny_pure ?_)
  refine bm_if_false rfl ?_
  refine wpAny_bind (wpAny_specialOf hT nolook_index ?_)
  refine bm_if_true rfl ?_
  first
    | show wpAny _ _ (Builtin.Bytes.buffer? "bytes.__new__" (.ref a) true >>= _) _ _ _
    | (refine wpAny_bind ?_; show wpAny _ _ (Builtin.Bytes.buffer? "bytes.__new__" (.ref a) true >>= _) _ _ _)
  refine wpAny_bind ?_
  unfold Builtin.Bytes.buffer?
  refine wpAny_bind (wpAny_specialOf hT look_buffer ?_)
  (try dsimp only)
  refine wpAny_bind (own_slot hg look_buffer (by decide +kernel) (by decide +kernel) ?_)
  refine bm_if_false rfl ?_
  refine wpAny_bind (wpAny_specialOf hT look_buffer ?_)
  (try dsimp only)
  refine wpAny_bind (own_release hg ?_)
  refine bm_if_false rfl ?_
  refine wpAny_bind ?_
  unfold Builtin.Bytes.payload Builtin.Bytes.payload?
  refine wpAny_bind (wpAny_bind (wpAny_load hg ?_))
  refine wpAny_pure (wpAny_pure ?_)
  refine wpAny_pure ?_
  (try dsimp only)
  refine wpAny_bind (wpAny_rule ?_)
  refine wpAny_bind (wpAny_mkBytes ?_ (by rw [sizeLine_eq]; omega))
  show wpAny _ _ (if (Value.type "bytes" == Value.type "bytes") = true then _ else _) _ _ _
  refine bm_if_true (by decide) ?_
  first
    | exact wpAny_pure (hQ _ _)
    | exact wpAny_bind (wpAny_pure (wpAny_pure (hQ _ _)))

theorem call_bytes {a : Addr} {b : Array UInt8} {Q : Value → Shared → Prop} (hg : s.heap.get? a = some (baObj b)) (hb : b.size ≤ 1000) (hQ : ∀ t k, Q (.bytes b t) { s with toks := k }) :
    wpAny (model prog w) A (call (.type "bytes") [.ref a]) Q E s := by
  refine callType_codes (Q₁ := fun obj s₁ => s₁.TypeIs obj "bytes" ∧ Q obj s₁) F.bm_called (F.bm_typeCall _) F.entry_object_init
    (bytes_new hg hb fun t k => ⟨PySem.W.typeIs_bytes _ _ _, hQ t k⟩) fun obj s₁ h₁ => ?_
  exact ⟨h₁.1, F.args_object_init_2 obj _, object_init_meets F.bm_called.init.lookup F.bm_called.made (by decide) prog w A.in1 _ s₁ ⟨h₁.1, rfl, h₁.2⟩⟩
end
end BA
end Mine
end

section
open PySem PySem.W PyProof.Rows
namespace Mine
set_option maxRecDepth 100000

theorem is36 (w : World) : (hd.heap_39 w.params).lookup 36 = some { cls := .type "re.Pattern", data := .fields #[.str (Str.ofString "\\.\\d+$") 285, .int 256 312, .int 0 0, .none, .none, .ref 35, .int 0 0] } := rfl
theorem is35 (w : World) : (hd.heap_39 w.params).lookup 35 = some { cls := .type "tuple", data := .seq #[.int 14 0, .int 8 0, .int 1 0, .int 2 0, .int 4294967295 0, .int 1 0, .int 1 0, .int 46 0, .int 0 0, .int 16 0, .int 46 0, .int 24 0, .int 9 0, .int 1 0, .int 4294967295 0, .int 13 0, .int 4 0, .int 8 0, .int 0 0, .int 0 0, .int 1 0, .int 6 0, .int 5 0, .int 1 0] } := rfl

abbrev LTop (mean : ExcName → Option Value) (mg mb : Str → Option Value) (h₀ : Heap) : Prop := Top hd.view_39 (looseW hd.view_39 [Str.ofString "IPV4_RE"]) mean mg mb h₀
abbrev LM (w : World) : Model := model Challenge.rw_zn0012_01.row.toRowW.prog w

/-- the contract of a def that leaves the ledger as it was told -/
abbrev Ct (k : Nat) (w : World) (mean : ExcName → Option Value) (mg mb : Str → Option Value) (f : Addr) (news news' : List (Addr × Obj)) (vs : List Value) (R : Tok → Value) : Prop :=
  ∀ (dp un : Nat) (gd : Option (List Code)) (cn : Str) (cs : Scope) (a : Addr) (ccd : Value) (cl : List (Str × Addr)) (outer : List Env) (A₀ : Around) (base h₀ : Heap) (L : Addr) (m : Str → Option Value) (s : Shared) (Q E : Value → Shared → Prop),
    Below A₀ base outer h₀ → Fr h₀ L s.heap m → (hd.heap_39 w.params).In h₀ → News h₀ L s.heap news → LTop mean mg mb h₀ → cs.kind = .function → dp + k < recursionLimit → un + 10 * k < cLine →
    (∀ (t : Tok) (h' : Heap) (tk' : Nat), Fr h₀ L h' m → News h₀ L h' news' → Q (R t) { s with heap := h', toks := tk' }) →
    wpAny (LM w) (ktrTop dp un gd cn cs L a ccd cl outer) (call (.ref f) vs) Q E s

theorem dummy : (fun (_ : OpenLaw) (_ : Params → Frag) => True) Challenge.rw_zn0012_01 hd.heap_39 := by
  k_fill
  w_top off
  trivial
end Mine
end

section
open PySem PySem.W PyProof.Rows
namespace Mine
set_option maxRecDepth 100000

section
local macro_rules | `(tactic| walk_at "getMethod ref") => `(tactic| (k_here; (with_reducible show wpAny _ _ (getMethod (Value.ref 36) (PySem.Str.ofString "search") _) _ _ _); k_dflt (refine Re.method_search (by k_in) (is36 _) ?_)))
local macro_rules | `(tactic| walk_at "call builtin:re.Pattern.search") => `(tactic| (k_here; k_dflt (refine Re.call_search (by k_in) (is36 _) (is35 _) (by assumption) (by assumption) ?_)))

def HdnOk (x : Str) : Prop := x.cps.size ≤ 1000 ∧ (∀ i c, x.cps[i]? = some 46 → x.cps[i + 1]? = some c → Sre.isDigit c = false) ∧ 0 < x.cps.size ∧ x.cps[0]? ≠ some 46 ∧ x.cps[x.cps.size - 1]? ≠ some 46

theorem dot_is : Str.ofString "." = ⟨#[46]⟩ := by decide +kernel
theorem empty_is : Str.ofString "" = ⟨#[]⟩ := by decide +kernel
theorem item_ne {x : Str} {i : Int} {j : Nat} (hj : seqIndex? i x.length = some j) (hlt : j < x.cps.size) (h : x.cps[j]? ≠ some 46) : (Txt.item x i == Str.ofString ".") = false := by
  rw [dot_is]
  unfold Txt.item Txt.charAt
  rw [hj, Option.bind_some]
  have e : x.cps[j]? = some x.cps[j] := Array.getElem?_eq_getElem hlt
  rw [e] at h ⊢
  refine beq_false_of_ne fun q => h ?_
  have : #[x.cps[j]] = #[46] := congrArg Str.cps q
  simpa using this

set_option maxHeartbeats 8000000 in
theorem c_hdn (w : World) (mean mg mb) (news : List (Addr × Obj)) (x : Str) (t : Tok) (hpre : HdnOk x) : Ct 1 w mean mg mb 43 news news [.str x t] (fun _ => .bool true) := by
  dsimp only [Ct]
  intros
  rename_i hret
  obtain ⟨hx1, hx2, hx3, hx4, hx5⟩ := hpre
  have q0 : (x == Str.ofString "") = false := by
    rw [empty_is]
    refine beq_false_of_ne fun q => ?_
    rw [q] at hx3
    exact absurd hx3 (by simp)
  have q1 : (Txt.item x 0 == Str.ofString ".") = false := item_ne (j := 0) (StrLaws.seqIndex_nonneg (by omega) (by show (0:Int) < (x.cps.size : Int); omega)) hx3 hx4
  have q2 : (Txt.item x (-1) == Str.ofString ".") = false := item_ne (j := x.cps.size - 1) (by
    rw [StrLaws.seqIndex_neg (by omega) (by show -(x.cps.size : Int) ≤ -1; omega)]
    congr 1
    show (-1 + (x.cps.size : Int)).toNat = _
    omega) (by omega) hx5
  have hl1 : 1 ≤ x.length := hx3
  have hl2 : x.length ≤ 1000 := hx1
  have cbI : CbIn 43 := CbIn.mk
  refine wpAny_call ?_
  (first | k_dflt cell_enter | ktn_no "k_call_by: the def is not entered")
  k_steps
  all_goals first
    | exact hret 0 _ _ (by assumption) (by assumption)
    | (exfalso; simp_all; done)
end
end Mine
end

section
open PySem PySem.W PyProof.Rows
namespace Mine
set_option maxRecDepth 100000

theorem nl_is : Str.ofString "\n" = S [10] := by decide +kernel
theorem colon_is : Str.ofString ":" = S [58] := by decide +kernel

theorem slice_eq {x : Str} {i i' j j' : Int} (hi : i = i') (hj : j = j') : Txt.slice x (some i) (some j) = Txt.slice x (some i') (some j') := by rw [hi, hj]
section
local macro_rules | `(tactic| walk_at "mine pad 0") => `(tactic| fail "pad")
local macro_rules | `(tactic| walk_at "call builtin:str.find") => `(tactic| (k_here; (with_reducible show wpAny _ _ (call (Value.builtin "str.find") [_, _, _, _]) _ _ _); refine call_find4 (by first | assumption | omega) ?_))
local macro_rules | `(tactic| walk_at "call builtin:str.rfind") => `(tactic| (k_here; (with_reducible show wpAny _ _ (call (Value.builtin "str.rfind") [_, _, _, _]) _ _ _); refine call_rfind4 (by first | assumption | omega) ?_))

set_option maxHeartbeats 8000000 in
theorem c_strip (w : World) (mean mg mb) (news : List (Addr × Obj)) (x : Str) (t : Tok) (h0 : x.length ≤ 1000) (h1 : Txt.find x (Str.ofString "\n") = -1) (h2 : Txt.find x (Str.ofString ":") = -1) (r : Int)
    (h3 : Txt.rfind x (Str.ofString ".") = r) (h4 : -1 ≤ r) (h5 : r < x.length) :
    Ct 1 w mean mg mb 57 news news [.str x t] (fun t => .str (Txt.slice x (some (r + 1)) (some x.length)) t) := by
  dsimp only [Ct]
  intros
  rename_i hret
  have cbI : CbIn 57 := CbIn.mk
  refine wpAny_call ?_
  (first | k_dflt cell_enter | ktn_no "k_call_by: the def is not entered")
  k_steps
  all_goals (refine' cb_retS hret ?e1 ?e2 ?e3; (case e1 => exact slice_eq (by omega) (by omega)); (case e2 => assumption); (case e3 => first | assumption | (refine' cb_drop ?cbN ?cbS; (case cbN => assumption); (case cbS => kcj_all))))
end
end Mine
end

section
open PySem PySem.W PyProof.Rows
namespace Mine
set_option maxRecDepth 100000

section
local macro_rules | `(tactic| walk_at "mine pad 0") => `(tactic| fail "pad")
local macro_rules | `(tactic| walk_at "mine pad 1") => `(tactic| fail "pad")
local macro_rules | `(tactic| walk_at "mine pad 2") => `(tactic| fail "pad")
local macro_rules | `(tactic| walk_at "call ref") => `(tactic| (k_here; (with_reducible show wpAny _ _ (call (Value.ref 43) _) _ _ _); k_dflt (refine' c_hdn _ _ _ _ _ _ _ ?kp _ _ _ _ _ _ _ _ _ _ _ _ _ _ _ _ _ ?k1 ?k2 ?k3 ?k4 ?k5 ?kK ?kd ?ku ?kR; (case k1 => k_asm); (case k2 => k_asm); (case k3 => k_asm); (case k4 => k_asm); (case k5 => k_asm); (case kK => first | exact rfl | assumption); (case kp => assumption); (case kd => ktr_room); (case ku => ktr_units); intro t9 h9 tk9 F9 N9; (try dsimp only); (try k_fold))))

set_option maxHeartbeats 8000000 in
theorem c_reach (w : World) (mean mg mb) (news : List (Addr × Obj)) (x : Str) (t : Tok) (h0 : x.length ≤ 900) (hH : HdnOk x) (h1 : 0 ≤ Txt.find x (Str.ofString ".")) (h1' : Txt.find x (Str.ofString ".") < x.length)
    (h2 : 0 ≤ Txt.find (Txt.slice x (some (Txt.find x (Str.ofString ".") + 1)) none) (Str.ofString ".") ∨ (Txt.slice x (some (Txt.find x (Str.ofString ".") + 1)) none == Str.ofString "local") = true) :
    Ct 2 w mean mg mb 50 news news [.str x t] (fun t => .str (Str.ofString "." ++ Txt.slice x (some (Txt.find x (Str.ofString ".") + 1)) none) t) := by
  dsimp only [Ct]
  intros
  rename_i hret
  have cbI : CbIn 50 := CbIn.mk
  refine wpAny_call ?_
  (first | k_dflt cell_enter | ktn_no "k_call_by: the def is not entered")
  k_steps
  all_goals first | (exfalso; rcases h2 with h2 | h2 <;> first | omega | simp_all; done) | (refine' cb_retS hret ?e1 ?e2 ?e3; (case e1 => rfl); (case e2 => assumption); (case e3 => first | assumption | (refine' cb_drop ?cbN ?cbS; (case cbN => assumption); (case cbS => kcj_all))))
end
end Mine
end

section
open PySem PySem.W PyProof.Rows
namespace Mine
set_option maxRecDepth 100000

section
local macro_rules | `(tactic| walk_at "mine pad 0") => `(tactic| fail "pad")
local macro_rules | `(tactic| walk_at "mine pad 1") => `(tactic| fail "pad")
local macro_rules | `(tactic| walk_at "mine pad 2") => `(tactic| fail "pad")
local macro_rules | `(tactic| walk_at "mine pad 3") => `(tactic| fail "pad")
local macro_rules | `(tactic| walk_at "call ref") => `(tactic| (k_here; (with_reducible show wpAny _ _ (call (Value.ref 50) _) _ _ _); k_dflt (refine' c_reach _ _ _ _ _ _ _ ?kp1 ?kp2 ?kp3 ?kp4 ?kp5 _ _ _ _ _ _ _ _ _ _ _ _ _ _ _ _ _ ?k1 ?k2 ?k3 ?k4 ?k5 ?kK ?kd ?ku ?kR; (case k1 => k_asm); (case k2 => k_asm); (case k3 => k_asm); (case k4 => k_asm); (case k5 => k_asm); (case kK => first | exact rfl | assumption); (case kp1 => assumption); (case kp2 => assumption); (case kp3 => assumption); (case kp4 => assumption); (case kp5 => assumption); (case kd => ktr_room); (case ku => ktr_units); intro t9 h9 tk9 F9 N9; (try dsimp only); (try k_fold))))

set_option maxHeartbeats 8000000 in
theorem c_rest (w : World) (mean mg mb) (news : List (Addr × Obj)) (x : Str) (t : Tok) (hx : x.length ≤ 800) (h0 : (x ++ Str.ofString ".local").length ≤ 900) (hH : HdnOk (x ++ Str.ofString ".local")) (h1 : 0 ≤ Txt.find (x ++ Str.ofString ".local") (Str.ofString ".")) (h1' : Txt.find (x ++ Str.ofString ".local") (Str.ofString ".") < (x ++ Str.ofString ".local").length)
    (h2 : 0 ≤ Txt.find (Txt.slice (x ++ Str.ofString ".local") (some (Txt.find (x ++ Str.ofString ".local") (Str.ofString ".") + 1)) none) (Str.ofString ".") ∨ (Txt.slice (x ++ Str.ofString ".local") (some (Txt.find (x ++ Str.ofString ".local") (Str.ofString ".") + 1)) none == Str.ofString "local") = true)
    (y : Str) (hy : Txt.slice (Str.ofString "." ++ Txt.slice (x ++ Str.ofString ".local") (some (Txt.find (x ++ Str.ofString ".local") (Str.ofString ".") + 1)) none) (some 1) (some (-6)) = y)
    (hz : (Str.ofString "." ++ Txt.slice (x ++ Str.ofString ".local") (some (Txt.find (x ++ Str.ofString ".local") (Str.ofString ".") + 1)) none).length ≤ 1000) :
    Ct 3 w mean mg mb 97 news news [.str x t] (fun t => .str y t) := by
  dsimp only [Ct]
  intros
  rename_i hret
  have cbI : CbIn 97 := CbIn.mk
  refine wpAny_call ?_
  (first | k_dflt cell_enter | ktn_no "k_call_by: the def is not entered")
  k_steps
  all_goals (refine' cb_retS hret ?e1 ?e2 ?e3; (case e1 => exact hy); (case e2 => assumption); (case e3 => first | assumption | (refine' cb_drop ?cbN ?cbS; (case cbN => assumption); (case cbS => kcj_all))))
end
end Mine
end

section
open PySem PySem.W PyProof.Rows
namespace Mine
set_option maxRecDepth 100000

/-- the contract of a def that must know its stack -/
abbrev CtS (k : Nat) (w : World) (mean : ExcName → Option Value) (mg mb : Str → Option Value) (f : Addr) (news news' : List (Addr × Obj)) (vs : List Value) (R : Tok → Value) : Prop :=
  ∀ (dp un : Nat) (gd : Option (List Code)) (cn : Str) (cs : Scope) (a : Addr) (ccd : Value) (cl : List (Str × Addr)) (outer : List Env) (A₀ : Around) (base h₀ : Heap) (L : Addr) (m : Str → Option Value) (s : Shared) (Q E : Value → Shared → Prop),
    Below A₀ base outer h₀ → Fr h₀ L s.heap m → (hd.heap_39 w.params).In h₀ → News h₀ L s.heap news → LTop mean mg mb h₀ → cs.kind = .function → dp + k < recursionLimit → un + 10 * k < cLine →
    (∀ (t : Tok) (h' : Heap) (tk' : Nat), Fr h₀ L h' m → News h₀ L h' news' → Q (R t) { s with heap := h', toks := tk' }) →
    wpS (LM w) (ktrTop dp un gd cn cs L a ccd cl outer) (call (.ref f) vs) Q E s

section
variable {M : Model} {A : Around} {E : Value → Shared → Prop} {s : Shared} {env : Env}
theorem wpS_evalArgs_any {f : Value} {x : Sem Value} {rest : List (Bool × Sem Value)} {Q : Args → Shared → Prop}
    (h : wpAny M A (spliced ((false, x) :: rest)) (fun vs s' => Q ⟨vs, []⟩ s') E s) : wpS M A (evalArgs f true ((false, x) :: rest) []) Q E s := wpS_evalArgs_plain (wpS_of_any h)
theorem wpS_callWith_type {pos : Pos} {T : String} {e : Expr} {rest : List Expr} {Q : Value → Shared → Prop}
    (h : wpAny M A (spliced (backTo pos (starEach (e :: rest) env))) (fun vs s₁ => wpS M A (call (.type T) vs) Q E s₁) E s)
    (he : starEach (e :: rest) env = (false, eval e env) :: starEach rest env := by rfl) (hplain : (backTo pos (starEach rest env)).any (·.1) = false := by rfl) :
    wpS M A (callWith pos (.type T) [] (backTo pos (starEach (e :: rest) env)) []) Q E s := by
  have hb : backTo pos ((false, eval e env) :: starEach rest env) = (false, eval e env) :: backTo pos (starEach rest env) := rfl
  rw [he, hb] at h ⊢
  unfold callWith
  refine wpS_bind (wpS_holding (wpS_mono (wpS_evalArgs_any (Q := fun a s₁ => a.kw = [] ∧ wpS M A (call (.type T) a.pos) Q E s₁) (wpAny_mono h (fun vs s₁ h₁ => ⟨rfl, h₁⟩) fun _ _ x => x)) (fun a s₁ h₁ => wpS_bind (wpS_standAt ?_)) fun _ _ x => x))
  obtain ⟨hkw, h₁⟩ := h₁
  have hpl : ((((false, eval e env) :: backTo pos (starEach rest env)).any (·.1)) || ([] : List (Option Str × Sem Value)).any (·.1.isNone)) = false := by
    show ((false || (backTo pos (starEach rest env)).any (·.1)) || false) = false
    rw [hplain]; rfl
  simp only [hpl]
  refine wpS_bind (wpS_pure ?_)
  rw [hkw]
  exact wpS_bind (wpS_mono h₁ (fun r s₂ hr => wpS_bind (wpS_holding (wpS_point (wpS_pure hr)))) fun _ _ x => x)
end
section
variable {prog : Program} {w : World} {A : Around} {E : Value → Shared → Prop} {s : Shared} {h₀ : Heap} {L : Addr} {m : Str → Option Value} {news : List (Addr × Obj)}
theorem call_baK {n : Int} {t : Tok} {Q : Value → Shared → Prop} (F : Fr h₀ L s.heap m) (N : News h₀ L s.heap news) (h0 : 0 < n) (h1 : n ≤ 1000)
    (h : ∀ a h', Fr h₀ L h' m → News h₀ L h' ((a, BA.baObj (Array.replicate n.toNat 0)) :: news) → (∀ p ∈ news, p.1 ≠ a) → Q (.ref a) { s with heap := h' }) :
    wpS (model prog w) A (call (.type "bytearray") [.int n t]) Q E s := by
  refine BA.call_ba h0 h1 fun h' hh hk => ?_
  refine h _ _ ?_ ?_ fun p hp => Nat.ne_of_lt (Heap.lt_size (N p hp).1)
  · exact F.kept hk
  · exact News.kept_cons F N hk (Nat.le_refl _) hh
end


section
variable {prog : Program} {w : World} {A : Around} {E : Value → Shared → Prop} {s : Shared} {h₀ : Heap} {L : Addr} {m : Str → Option Value}
theorem setItem_baK {pre post : List (Addr × Obj)} {d : Addr} {b : Array UInt8} {k v : Int} {t u : Tok} {Q : Unit → Shared → Prop} (F : Fr h₀ L s.heap m) (N : News h₀ L s.heap (pre ++ (d, BA.baObj b) :: post)) (h1 : ∀ p ∈ pre, p.1 ≠ d) (h2 : ∀ p ∈ post, p.1 ≠ d)
    (hb : b.size ≤ 1000) (k0 : 0 ≤ k) (k1 : k < b.size) (v0 : 0 ≤ v) (v1 : v < 256)
    (h : ∀ h', Fr h₀ L h' m → News h₀ L h' (pre ++ (d, BA.baObj (b.setIfInBounds k.toNat v.toNat.toUInt8)) :: post) → Q () { s with heap := h' }) :
    wpAny (model prog w) A (setItem (.ref d) (.int k t) (.int v u)) Q E s := by
  have N1 := N (d, BA.baObj b) (by simp)
  obtain ⟨F', N'⟩ := news_upd (f := Obj.mapBytearray (·.setIfInBounds k.toNat v.toNat.toUInt8)) F N h1 h2 (o' := BA.baObj (b.setIfInBounds k.toNat v.toNat.toUInt8)) rfl rfl
  exact BA.setItem_ba N1.1 hb k0 k1 v0 v1 (h _ F' N')
end
section
variable {prog : Program} {w : World} {A : Around} {E : Value → Shared → Prop} {s : Shared} {env : Env} {h₀ : Heap} {x : Str} {body : List Stmt} {Q : Flow → Shared → Prop}
theorem range_accP {σ : Type} {r : Addr} {a₀ b₀ : Int} {t₀ u₀ v₀ : Tok} {n : Nat} {m₀ : Str → Option Value} {pre post : List (Addr × Obj)} {d : Addr} (P : σ → Prop) (D : σ → Obj) (g : σ → Int → σ) (c₀ : σ)
    (hh : A.handled = none) (hr : IsRange s.heap r a₀ b₀ 1 t₀ u₀ v₀) (hsmall : Builtin.Range.small a₀ b₀ 1 = true) (hn : Builtin.Range.rangeSize a₀ b₀ 1 = (n : Int)) (F : Fr h₀ env.locals s.heap m₀) (N : News h₀ env.locals s.heap (pre ++ (d, D c₀) :: post)) (h0 : P c₀)
    (turn : ∀ k t a h tk own, a₀ ≤ k → k < a₀ + (n : Int) → P a → OwnOff own (pre.map (·.1) ++ d :: post.map (·.1)) → Fr h₀ env.locals h (fun z => if z = x then some (.int k t) else m₀ z) → News h₀ env.locals h (pre ++ (d, D a) :: (post ++ own)) →
      wpAny (model prog w) A (execs body env) (InvPostN h₀ env.locals (fun m' nx => P (g a k) ∧ nx = pre ++ (d, D (g a k)) :: post ∧ ∀ z, z ≠ x → m' z = m₀ z) own (pre.map (·.1) ++ d :: post.map (·.1)) { s with heap := h, toks := tk } Q) E { s with heap := h, toks := tk })
    (done : ∀ (u : Str → Option Value) h tk, Fr h₀ env.locals h (fun z => if z = x then u z else m₀ z) → News h₀ env.locals h (pre ++ (d, D ((rangeKs a₀ n).foldl g c₀)) :: post) → P ((rangeKs a₀ n).foldl g c₀) → Q .next { s with heap := h, toks := tk }) :
    wpAny (model prog w) A (pyIter (.ref r)) (fun it s₂ => LoopAtV prog w A h₀ env x body Q E it s₂) E s := by
  refine iter_rangeS (fun a m nx => P a ∧ nx = pre ++ (d, D a) :: post ∧ ∀ z, z ≠ x → m z = m₀ z) g c₀ hh hr hsmall hn F N ⟨h0, rfl, fun _ _ => rfl⟩ ?_ ?_
  · rintro k t a m₁ nx h tk own hk hoff ⟨hP, rfl, hm⟩ F₁ N₁
    rw [map_none hm] at F₁
    simp only [List.map_append, List.map_cons, List.append_assoc, List.cons_append] at hoff N₁ ⊢
    exact turn k t a h tk own (mem_rangeKs hk).1 (mem_rangeKs hk).2 hP hoff F₁ N₁
  · rintro m₁ nx h tk ⟨hP, rfl, hm⟩ F₁ N₁
    refine done m₁ h tk ?_ N₁ hP
    rw [done_none hm]; exact F₁
end

def swapStep (l : List UInt8) (a : Array UInt8) (k : Int) : Array UInt8 := a.setIfInBounds ((0 : Int) + l.length - 1 - k).toNat (((l.getD ((0 : Int) + k).toNat 0).toNat : Int).toNat.toUInt8)

theorem swap_step {l : List UInt8} {k : Nat} (hk : k < l.length) :
    swapStep l (List.replicate (l.length - k) 0 ++ (l.take k).reverse).toArray (k : Int) = (List.replicate (l.length - (k + 1)) 0 ++ (l.take (k + 1)).reverse).toArray := by
  unfold swapStep
  obtain ⟨d, hd⟩ : ∃ d, l.length - k = d + 1 := ⟨l.length - k - 1, by omega⟩
  have e1 : ((0 : Int) + l.length - 1 - (k : Int)).toNat = d := by omega
  have e2 : ((0 : Int) + (k : Int)).toNat = k := by omega
  have e3 : l.length - (k + 1) = d := by omega
  have e4 : (((l.getD k 0).toNat : Int)).toNat.toUInt8 = l[k] := by
    rw [Int.toNat_natCast, List.getD_eq_getElem?_getD, List.getElem?_eq_getElem hk]
    simp
  rw [e1, e2, e3, e4, hd, List.replicate_succ', List.setIfInBounds_toArray]
  refine congrArg List.toArray ?_
  rw [List.append_assoc, List.set_append_right _ _ (Nat.le_of_eq (List.length_replicate ..)), List.length_replicate, Nat.sub_self, List.take_add_one, List.getElem?_eq_getElem hk, List.reverse_append]
  rfl
theorem swap_fold (l : List UInt8) : ∀ k, k ≤ l.length → (rangeKs 0 k).foldl (swapStep l) (Array.replicate l.length 0) = (List.replicate (l.length - k) 0 ++ (l.take k).reverse).toArray := by
  intro k
  induction k with
  | zero =>
    intro _
    simp [rangeKs]
  | succ k ih =>
    intro hk
    have : rangeKs 0 (k + 1) = rangeKs 0 k ++ [(k : Int)] := by
      simp [rangeKs, List.range_succ]
    rw [this, List.foldl_append, ih (by omega)]
    exact swap_step (by omega)
theorem swap_eq (l : List UInt8) : (rangeKs 0 l.length).foldl (swapStep l) (Array.replicate (↑l.toArray.size : Int).toNat 0) = l.reverse.toArray := by
  have := swap_fold l l.length (Nat.le_refl _)
  simpa using this
theorem size_one {n : Nat} (h : 0 < n) : Builtin.Range.rangeSize 0 n n = ((1 : Nat) : Int) := by
  unfold Builtin.Range.rangeSize
  rw [if_pos (by omega), if_pos (by omega), Int.ediv_eq_zero_of_lt (by omega) (by omega)]
  rfl
theorem small_one {n : Nat} (h : 0 < n) (h' : n ≤ 1000) : Builtin.Range.small 0 n n = true := by
  unfold Builtin.Range.small
  rw [size_one h]
  simp [Builtin.Range.rangeFitsLong]
  rw [if_pos h]
  omega
theorem size_up {n : Nat} : Builtin.Range.rangeSize 0 n 1 = (n : Int) := by
  rw [rangeSize_one]
  split <;> omega
theorem small_up {n : Nat} (h' : n ≤ 1000) : Builtin.Range.small 0 n 1 = true := by
  unfold Builtin.Range.small
  rw [size_up]
  simp [Builtin.Range.rangeFitsLong]
  try omega
section
local macro_rules | `(tactic| walk_at "mine pad 0") => `(tactic| fail "pad")
local macro_rules | `(tactic| walk_at "mine pad 1") => `(tactic| fail "pad")
local macro_rules | `(tactic| walk_at "mine pad 2") => `(tactic| fail "pad")
local macro_rules | `(tactic| walk_at "mine pad 3") => `(tactic| fail "pad")
local macro_rules | `(tactic| walk_at "mine pad 4") => `(tactic| fail "pad")
local macro_rules | `(tactic| walk_at "subscriptTail") => `(tactic| ((with_reducible show wpAny _ _ (subscriptTail _ _ (Value.bytes _ _) (Value.int _ _)) _ _ _); refine subscriptTail_builtin (typeIs_bytes _ _ _) FB.slot_bytes_getitem.lookup (getItem_bytes (by omega) (by omega) (by omega) ?_)))
set_option maxHeartbeats 8000000 in
theorem c_swap (w : World) (mean mg mb) (news : List (Addr × Obj)) (l : List UInt8) (t u : Tok) (h0 : 0 < l.length) (h1 : l.length ≤ 1000) :
    CtS 1 w mean mg mb 71 news news [.bytes l.toArray t, .int l.length u] (fun t => .bytes l.reverse.toArray t) := by
  dsimp only [CtS]
  intros
  rename_i hret
  have cbI : CbIn 71 := CbIn.mk
  refine wpS_call ?_
  k_dflt (refine' codeS_def ?k1 ?k2 ?k3 ?k4 ?k5 ?kA ?kF ?kK ?k6 ?k7 ?k8 ?k9 ?kB ?_ ?c2 ?c3 ?c4 ?c5; (case kA => exact rfl); (case kF => exact rfl); (case kK => assumption); (case k1 => k_asm); (case k2 => k_asm); (case k3 => k_asm); (case k4 => k_asm); (case k5 => k_asm); (case k6 => k_is); (case k7 => k_is); (case k8 => ktr_room); (case k9 => exact BindsTo.of_eq rfl); (case c5 => decide); (case kB => exact locs rfl); (case c2 => exact rfl); (case c3 => exact rfl); (case c4 => exact rfl); k_whole; intro g' L' h' FG' F' N' B' X' T' l1'; (try dsimp only); (try k_lift B'); (try k_fold))
  refine wpS_execs_cons ?_
  refine wpS_Assign_Name ?_
  refine wpS_Call ?_
  k_steps
  refine wpS_callWith_type ?_
  k_steps
  k_dflt (refine' call_baK (by assumption) (by assumption) ?_ ?_ fun a9 h9 F9 N9 ne9 => ?_)
  · simp; omega
  · simp; omega
  k_steps
  refine wpS_of_any ?_
  k_steps
  rename_i hRg hF hN _
  refine krs_iter (n := 1) (by rfl) hRg ?g1 ?g2 hF hN fun I hI => ?_
  case g1 => simpa using small_one h0 h1
  case g2 => simpa using size_one h0
  refine KrsRest.succ (v := 0) (by simp) fun t8 h8 tk8 F8 N8 => ?_
  clear hF hN
  iterate 9 (first | walk1 | (dsimp only; walk1))
  dsimp only
  (with_reducible show wpAny _ _ (pyIter (Value.ref _)) (fun it s₂ => LoopAtV _ _ _ _ _ _ _ _ _ it s₂) _ _)
  (rename IsRange _ _ _ _ _ _ _ _ => hR2)
  (rename Fr _ _ _ _ => hF2)
  (rename News _ _ _ _ => hN2)
  (refine' range_accP (n := l.length) (pre := [_]) (fun a => Array.size a = List.length l) BA.baObj (swapStep l) _ (by rfl) hR2 ?g3 ?g4 hF2 hN2 ?g5 (fun k t a h tk own hk0 hk1 hP hoff F₁ N₁ => ?_) (fun u h tk F₁ N₁ hP => ?_))
  (all_goals (try clear hF2 hN2))
  case g3 => exact small_up h1
  case g4 => exact size_up
  case g5 => simp
  · k_steps
    dsimp only
    refine setItem_baK (pre := [_]) F₁ N₁ ?h1 ?h2 (by omega) (by omega) (by omega) (by omega) (by have := (l.getD (0 + k).toNat 0).toNat_lt; omega) fun h7 F7 N7 => ?_
    case h1 =>
      intro p hp
      rw [List.mem_singleton.mp hp]
      exact Nat.ne_of_gt (hI _ (List.mem_cons_self ..))
    case h2 =>
      intro p hp
      rcases List.mem_append.mp hp with hp | hp
      · exact ne9 p hp
      · exact hoff p hp _ (by simp)
    k_steps
    refine InvEndN.intro (nx := [(I, krsIt (0 + ↑(0 + 1) * (l.length : Int)) (↑1 - ↑(0 + 1)) l.length)] ++ (a9, BA.baObj (swapStep l a k)) :: news) F7 N7 ⟨?j1, rfl, ?j2⟩ rfl ?j3 ?j4
    case j1 => simp only [swapStep, Array.size_setIfInBounds]; exact hP
    case j2 =>
      intro z hz
      simp only [if_neg hz]
    case j3 =>
      intro p hp
      simp only [List.mem_append, List.mem_cons] at hp ⊢
      rcases hp with hp | hp | hp
      · exact .inl hp
      · exact .inr (.inl hp)
      · exact .inr (.inr (.inl hp))
    case j4 =>
      intro p hp
      simp only [List.mem_append, List.mem_cons]
      exact .inr (.inr (.inr hp))
  · k_steps
    refine ⟨_, _, _, _, rfl, F₁, N₁, ?off, ?_⟩
    case off =>
      intro p hp
      refine Nat.ne_of_lt ?_
      rcases List.mem_cons.mp hp with rfl | hp
      · exact hI (a9, BA.baObj (Array.replicate (↑l.toArray.size : Int).toNat 0)) (List.mem_cons_self ..)
      · exact hI p (List.mem_cons_of_mem _ hp)
    clear F₁ N₁
    refine KrsRest.zero fun h8 tk8 F8 N8 => ?_
    rw [swap_eq] at N8
    k_steps
    refine BA.call_bytes (N8 _ (List.mem_cons_self ..)).1 (by simp; omega) fun t6 k6 => ?_
    k_steps
    refine hret _ _ _ (by assumption) (fun p hp => ?_)
    rename News _ _ _ _ => kN
    exact kN p (List.mem_cons_of_mem _ hp)
end
end Mine
end

section
open PySem PySem.W PyProof.Rows
namespace Mine
set_option maxRecDepth 100000

section
variable {prog : Program} {w : World} {A : Around} {E : Value → Shared → Prop} {s : Shared} {t u : Tok} {Q : Value → Shared → Prop}
theorem encodeS {l : List Nat} (hx : ∀ c ∈ l, c < 128) (hs : l.length ≤ 1000) (h : ∀ t' k, Q (.bytes (l.map (·.toUInt8)).toArray t') { s with toks := k }) :
    wpAny (model prog w) A (call (.builtin "str.encode") [.str (S l) t, .str (Str.ofString "ascii") u]) Q E s := by
  refine Enc.encode (x := S l) (by simpa [S] using hx) (by simpa [S, Str.length] using hs) fun t' k => ?_
  have e : (S l).cps.map (·.toUInt8) = (l.map (·.toUInt8)).toArray := by simp [S]
  rw [e]
  exact h t' k
theorem back {l : List Nat} (hx : ∀ c ∈ l, c < 128) : (l.map (·.toUInt8)).map (·.toNat) = l := by
  rw [List.map_map]
  refine (List.map_congr_left (g := id) fun c hc => ?_).trans (List.map_id _)
  have := hx c hc
  show c.toUInt8.toNat = c
  rw [Nat.toUInt8, UInt8.toNat_ofNat']
  omega
theorem decodeS {l : List Nat} {b : List UInt8} (hl : b = l.map (·.toUInt8)) (hx : ∀ c ∈ l, c < 128) (h0 : 0 < l.length) (hs : l.length ≤ 1000) (h : ∀ t' k, Q (.str (S l) t') { s with toks := k }) :
    wpAny (model prog w) A (call (.builtin "bytes.decode") [.bytes b.toArray t, .str (Str.ofString "ascii") u]) Q E s := by
  subst hl
  refine Enc.decode (by simpa using h0) ?_ (by simpa using hs) fun t' k => ?_
  · intro x hm
    simp only [List.mem_map] at hm
    obtain ⟨c, hc, rfl⟩ := hm
    have := hx c hc
    rw [Nat.toUInt8, UInt8.toNat_ofNat']
    omega
  · have e : ((l.map (·.toUInt8)).toArray).map (·.toNat) = l.toArray := by
      rw [List.map_toArray, back hx]
    rw [e]
    exact h t' k
theorem method_encode {M : Model} {x : Str} {pl : Sem Bool} {Q : Value × List Value → Shared → Prop} (h : Q (.builtin "str.encode", [.str x t]) s) : wpAny M A (getMethod (.str x t) "encode" pl) Q E s := by
  with_reducible exact GM.of (.str x t) (typeIs_str _ _ _) F.slot_str_encode F.type_str_encode GM.noRef h
end
section
local macro_rules | `(tactic| walk_at "mine pad 0") => `(tactic| fail "pad")
local macro_rules | `(tactic| walk_at "mine pad 1") => `(tactic| fail "pad")
local macro_rules | `(tactic| walk_at "mine pad 2") => `(tactic| fail "pad")
local macro_rules | `(tactic| walk_at "mine pad 3") => `(tactic| fail "pad")
local macro_rules | `(tactic| walk_at "getMethod str") => `(tactic| with_reducible refine method_encode ?_)
local macro_rules | `(tactic| walk_at "call builtin:str.encode") => `(tactic| (k_here; (with_reducible show wpAny _ _ (call (Value.builtin "str.encode") [Value.str (S _) _, _]) _ _ _); refine encodeS (by assumption) (by first | assumption | omega) (fun t' k => ?_)))
local macro_rules | `(tactic| walk_at "call builtin:bytes.decode") => `(tactic| (k_here; (with_reducible show wpAny _ _ (call (Value.builtin "bytes.decode") [Value.bytes (List.toArray _) _, _]) _ _ _); refine decodeS rfl (by assumption) (by first | assumption | omega) (by first | assumption | omega) (fun t' k => ?_)))

set_option maxHeartbeats 8000000 in
theorem c_turned (w : World) (mean mg mb) (news : List (Addr × Obj)) (l : List Nat) (t : Tok) (hl : ∀ c ∈ l, c < 128) (h0 : 0 < l.length) (h1 : l.length ≤ 1000) :
    CtS 2 w mean mg mb 83 news news [.str (S l) t] (fun t => .str (S l.reverse) t) := by
  dsimp only [CtS]
  intros
  rename_i hret
  have cbI : CbIn 83 := CbIn.mk
  refine wpS_call ?_
  k_dflt (refine' codeS_def ?k1 ?k2 ?k3 ?k4 ?k5 ?kA ?kF ?kK ?k6 ?k7 ?k8 ?k9 ?kB ?_ ?c2 ?c3 ?c4 ?c5; (case kA => exact rfl); (case kF => exact rfl); (case kK => assumption); (case k1 => k_asm); (case k2 => k_asm); (case k3 => k_asm); (case k4 => k_asm); (case k5 => k_asm); (case k6 => k_is); (case k7 => k_is); (case k8 => ktr_room); (case k9 => exact BindsTo.of_eq rfl); (case c5 => decide); (case kB => exact locs rfl); (case c2 => exact rfl); (case c3 => exact rfl); (case c4 => exact rfl); k_whole; intro g' L' h' FG' F' N' B' X' T' l1'; (try dsimp only); (try k_lift B'); (try k_fold))
  refine wpS_execs_cons (wpS_of_any ?_)
  k_steps
  refine wpS_execs_cons ?_
  refine wpS_Return_some ?_
  refine wpS_methodCall ?_
  refine wpS_Call ?_
  k_steps
  refine wpS_callWith_K (K := hd.heap_39 w.params) rfl (wpS_of_any ?_)
  k_steps
  k_dflt (refine' c_swap _ _ _ _ _ _ _ _ ?kp1 ?kp2 _ _ _ _ _ _ _ _ _ _ _ _ _ _ _ _ _ ?k1 ?k2 ?k3 ?k4 ?k5 ?kK ?kd ?ku ?kR; (case k1 => k_asm); (case k2 => k_asm); (case k3 => k_asm); (case k4 => k_asm); (case k5 => k_asm); (case kK => first | exact rfl | assumption); (case kp1 => simpa using h0); (case kp2 => simpa using h1); (case kd => ktr_room); (case ku => ktr_units); intro t9 h9 tk9 F9 N9; (try dsimp only); (try k_fold))
  rw [← List.map_reverse]
  have hl' : ∀ c ∈ l.reverse, c < 128 := fun c hc => hl c (List.mem_reverse.mp hc)
  have h0' : 0 < l.reverse.length := by rw [List.length_reverse]; exact h0
  have h1' : l.reverse.length ≤ 1000 := by rw [List.length_reverse]; exact h1
  k_steps
  all_goals exact hret _ _ _ (by assumption) (by assumption)
end
end Mine
end

section
open PySem PySem.W PyProof.Rows
namespace Mine
set_option maxRecDepth 100000

def coinsI (l : List Int) : Int := l.foldl (fun a c => 16 * a + c - 65) 0
def coinsOf (l : List Nat) : Int := coinsI (l.map fun (c : Nat) => (c : Int))
theorem codes_S (l : List Nat) : KStt.codes (S l) = l.map fun (c : Nat) => (c : Int) := by
  unfold KStt.codes S
  rfl
theorem coins_step {l : List Nat} (hl : ∀ c ∈ l, 65 ≤ c ∧ c ≤ 80) (h2 : l.length ≤ 2) {pre post : List Int} {n : Nat} (h : KStt.codes (S l) = pre ++ (n : Int) :: post) :
    65 ≤ n ∧ n ≤ 80 ∧ 0 ≤ coinsI pre ∧ coinsI pre ≤ 15 := by
  rw [codes_S] at h
  match l, pre, h with
  | [a], [], h => 
    have := hl a (by simp)
    simp at h
    simp [coinsI]
    omega
  | [a, b], [], h => 
    have := hl a (by simp)
    simp at h
    simp [coinsI]
    omega
  | [a, b], [x], h => 
    have := hl a (by simp)
    have := hl b (by simp)
    simp at h
    simp [coinsI]
    omega
  | [], pre, h => simp at h
  | [a], [x], h => simp at h
  | [a], x :: y :: r, h => simp at h
  | [a, b], x :: y :: r, h => simp at h
  | a :: b :: c :: r, _, h => simp at h2
theorem coins_snoc (pre : List Int) (n : Int) : coinsI (pre ++ [n]) = 16 * coinsI pre + n - 65 := by
  simp [coinsI]

set_option maxHeartbeats 8000000 in
theorem c_coins (w : World) (mean mg mb) (news : List (Addr × Obj)) (l : List Nat) (t : Tok) (hl : ∀ c ∈ l, 65 ≤ c ∧ c ≤ 80) (h2 : l.length ≤ 2) :
    Ct 1 w mean mg mb 90 news news [.str (S l) t] (fun t => .int (coinsOf l) t) := by
  dsimp only [Ct]
  intros
  rename_i hret
  have cbI : CbIn 90 := CbIn.mk
  have key := @coins_step l hl h2
  refine wpAny_call ?_
  k_with "pyIter str" => k_state (fun pre coins => coins = coinsI pre ∧ 0 ≤ coins ∧ coins ≤ 300) "coins"
  k_with "state" => first | (refine ⟨rfl, ?_, ?_⟩ <;> (first | decide | omega)) | (rw [coins_snoc]; (obtain ⟨_, _, _, _⟩ := key (by assumption)); (obtain ⟨_, _, _⟩ := (by assumption : (_ : Int) = coinsI _ ∧ _ ∧ _)); omega) | (rw [coins_snoc]; (obtain ⟨_, _, _, _⟩ := key (by assumption)); omega)
  k_dflt cell_enter
  k_steps
  all_goals (refine' cb_retI hret ?e1 ?e2 ?e3; (case e1 => (rw [coinsOf, ← codes_S]; assumption)); (case e2 => assumption); (case e3 => first | assumption | (refine' cb_drop ?cbN ?cbS; (case cbN => assumption); (case cbS => kcj_all))))
  k_with_none
end Mine
end

section
open PySem PySem.W PyProof.Rows
namespace Mine
set_option maxRecDepth 100000

/-- the letters of a number of coins -/
def apOf (n : Nat) : List Nat := if n < 16 then [65 + n] else [65 + n / 16, 65 + n % 16]
def apB (n : Nat) : List UInt8 := (apOf n).map (·.toUInt8)


def apAll : Array UInt8 := #[65, 66, 67, 68, 69, 70, 71, 72, 73, 74, 75, 76, 77, 78, 79, 80]
theorem picked_ap {k : Int} (h0 : 0 ≤ k) (h1 : k < 16) : KBy.picked #[65, 66, 67, 68, 69, 70, 71, 72, 73, 74, 75, 76, 77, 78, 79, 80] (some k) (some (k + 1)) = #[(65 + k.toNat).toUInt8] := by
  obtain ⟨n, rfl⟩ : ∃ n : Nat, k = n := ⟨k.toNat, by omega⟩
  have hn : n < 16 := by omega
  have all : ∀ n : Nat, n < 16 → KBy.picked #[65, 66, 67, 68, 69, 70, 71, 72, 73, 74, 75, 76, 77, 78, 79, 80] (some (n : Int)) (some ((n : Int) + 1)) = #[(65 + (n : Int).toNat).toUInt8] := by
    decide +kernel
  exact all n hn
def apInv (n : Nat) (num : Int) (val : Array UInt8) : Prop :=
  (num = (n : Int) ∧ val = #[]) ∨ (num = ((n / 16 : Nat) : Int) ∧ val = #[(65 + n % 16).toUInt8]) ∨ (num = 0 ∧ val = (apB n).toArray)
theorem fdiv_nat (n : Nat) : (n : Int).fdiv 16 = ((n / 16 : Nat) : Int) := by
  rw [Int.fdiv_eq_ediv_of_nonneg _ (by decide)]; rfl
theorem fmod_nat (n : Nat) : ((n : Int).fmod 16).toNat = n % 16 := by
  rw [Int.fmod_eq_emod_of_nonneg _ (by decide)]; omega
theorem apInv_step {n : Nat} {num : Int} {val : Array UInt8} (h : apInv n num val ∧ 0 ≤ num ∧ num ≤ 255 ∧ val.size ≤ 2) (h0 : num ≠ 0) (h2 : n ≤ 255) :
    (apInv n (num.fdiv 16) (#[(65 + (num.fmod 16).toNat).toUInt8] ++ val)) ∧ 0 ≤ num.fdiv 16 ∧ num.fdiv 16 ≤ 255 ∧ (#[(65 + (num.fmod 16).toNat).toUInt8] ++ val).size ≤ 2 := by
  obtain ⟨h, h3, h4, h5⟩ := h
  have e1 : num.fdiv 16 = num / 16 := Int.fdiv_eq_ediv_of_nonneg _ (by decide)
  have a1 : 0 ≤ num.fdiv 16 := by rw [e1]; omega
  have a2 : num.fdiv 16 ≤ 255 := by rw [e1]; omega
  unfold apInv at h ⊢
  rcases h with ⟨rfl, rfl⟩ | ⟨rfl, rfl⟩ | ⟨rfl, rfl⟩
  · refine ⟨?_, a1, a2, by simp⟩
    rw [fdiv_nat, fmod_nat]
    by_cases hn : n < 16
    · refine .inr (.inr ⟨by omega, ?_⟩)
      have : n % 16 = n := by omega
      unfold apB apOf
      rw [if_pos hn, this]
      rfl
    · exact .inr (.inl ⟨rfl, rfl⟩)
  · refine ⟨?_, a1, a2, by simp⟩
    rw [fdiv_nat, fmod_nat]
    refine .inr (.inr ⟨by omega, ?_⟩)
    have hn : ¬ n < 16 := by omega
    have : n / 16 % 16 = n / 16 := by omega
    unfold apB apOf
    rw [if_neg hn, this]
    rfl
  · exact absurd rfl h0
theorem apInv_zero {n : Nat} (h2 : n ≤ 255) : apInv n (if (n : Int) < 0 then -(n : Int) else n) #[] ∧ 0 ≤ (if (n : Int) < 0 then -(n : Int) else n) ∧ (if (n : Int) < 0 then -(n : Int) else n) ≤ 255 ∧ (#[] : Array UInt8).size ≤ 2 := by
  rw [if_neg (by omega)]
  refine ⟨Or.inl ⟨rfl, rfl⟩, by omega, by omega, by simp⟩
theorem ap_less {num : Int} (h : 0 ≤ num) (h0 : num ≠ 0) : (num.fdiv 16).toNat < num.toNat := by
  have e1 : num.fdiv 16 = num / 16 := Int.fdiv_eq_ediv_of_nonneg _ (by decide)
  rw [e1]; omega
theorem ap_end {n : Nat} {num : Int} {val : Array UInt8} (h : apInv n num val) (h0 : num = 0) (h1 : 1 ≤ n) (hs : 0 < val.size ∨ True) : val = (apB n).toArray := by
  unfold apInv at h
  rcases h with ⟨rfl, rfl⟩ | ⟨rfl, rfl⟩ | ⟨rfl, rfl⟩
  · omega
  · have hn : n < 16 := by omega
    have : n % 16 = n := by omega
    unfold apB apOf
    rw [if_pos hn, this]
    rfl
  · rfl
section
local macro_rules | `(tactic| walk_at "mine pad 0") => `(tactic| fail "pad")
local macro_rules | `(tactic| walk_at "mine pad 1") => `(tactic| fail "pad")
local macro_rules | `(tactic| walk_at "mine pad 2") => `(tactic| fail "pad")
local macro_rules | `(tactic| walk_at "mine pad 3") => `(tactic| fail "pad")
local macro_rules | `(tactic| walk_at "mine pad 4") => `(tactic| fail "pad")
local macro_rules | `(tactic| walk_at "exec") => `(tactic| (k_while (fun _ num val => apInv $(Lean.mkIdent `n) num val ∧ 0 ≤ num ∧ num ≤ 255 ∧ val.size ≤ 2) (fun _ num _ => Int.toNat num) "num" "val"))
local macro_rules | `(tactic| walk_at "subscriptTail") => `(tactic| (k_here; (with_reducible show wpAny _ _ (subscriptTail _ (Expr.Slice _ _ none _) (Value.bytes _ _) (Value.ref _)) _ _ _); (with_reducible rename Fr _ _ _ _ => F'); (with_reducible rename News _ _ _ _ => N'); (refine KBc.slice_K (s := ⟨_, _, _, _, _⟩) F' N' rfl (by constructor) (by constructor) (by decide) ?_); intro _ _ _ _ _ kbcK; clear kbcK; (try rw [picked_ap (Int.fmod_nonneg_of_pos _ (by decide)) (Int.fmod_lt_of_pos _ (by decide))])))
local macro_rules | `(tactic| walk_at "binaryOp Add bytes bytes") => `(tactic| (k_here; (with_reducible show wpAny _ _ (binaryOp Operator.Add (Value.bytes _ _) (Value.bytes _ _)) _ _ _); refine KBy.add_bytes (by simp; omega) ?_; intro _ _))
set_option maxHeartbeats 8000000 in
theorem c_ap (w : World) (mean mg mb) (news : List (Addr × Obj)) (n : Nat) (t : Tok) (h1 : 1 ≤ n) (h2 : n ≤ 255) :
    Ct 1 w mean mg mb 64 news news [.int (n : Int) t] (fun t => .bytes (apB n).toArray t) := by
  dsimp only [Ct]
  intros
  rename_i hret
  have cbI : CbIn 64 := CbIn.mk
  refine wpAny_call ?_
  k_with_none
  k_with "state" => first | exact apInv_zero (by assumption) | exact apInv_step ⟨by assumption, by assumption, by assumption, by assumption⟩ (by assumption) (by assumption)
  k_with "measure" => first | omega | exact ap_less (by assumption) (by assumption)
  k_dflt cell_enter
  k_steps
  rename apInv _ _ _ => ha
  rw [ap_end ha (by assumption) h1 (.inr trivial)]
  exact hret _ _ _ (by assumption) (by assumption)
end
end Mine
end

section
open PySem PySem.W PyProof.Rows
namespace Mine
set_option maxRecDepth 100000

abbrev CtH (k : Nat) (w : World) (mean : ExcName → Option Value) (mg mb : Str → Option Value) (f : Addr) (vs0 : List Value) (ns : List Int) : Prop :=
  ∀ (dp un : Nat) (gd : Option (List Code)) (cn : Str) (cs : Scope) (a : Addr) (ccd : Value) (cl : List (Str × Addr)) (outer : List Env) (A₀ : Around) (base h₀ : Heap) (L : Addr) (m : Str → Option Value) (s : Shared) (l : Addr) (Q E : Value → Shared → Prop),
    Below A₀ base outer h₀ → Fr h₀ L s.heap m → (hd.heap_39 w.params).In h₀ → News h₀ L s.heap [] → LTop mean mg mb h₀ → cs.kind = .function → dp + k < recursionLimit → un + 10 * k < cLine → base.IsList l vs0.toArray → IntsAre vs0 ns →
    (∀ (a : Addr) (us : List Value) (hs : List Int) (h' : Heap) (tk' : Nat), Fr h₀ L h' m → News h₀ L h' [(a, listOf us.toArray us.length)] → IntsAre us hs → hs.length = 6 → (∀ x ∈ hs, 1 ≤ x ∧ x ≤ 255) → Q (.ref a) { s with heap := h', toks := tk' }) →
    wpAny (LM w) (ktrTop dp un gd cn cs L a ccd cl outer) (call (.ref f) [.ref l]) Q E s

set_option maxHeartbeats 8000000 in
theorem c_heaps (w : World) (mean mg mb) (vs0 : List Value) (ns : List Int) (hns : ns.length ≤ 63) : CtH 2 w mean mg mb 76 vs0 ns := by
  dsimp only [CtH]
  intros
  rename_i hret
  have cbI : CbIn 76 := CbIn.mk
  refine wpAny_call ?_
  k_with_none
  k_with "pyIter ref" => k_state (fun pre drawn => drawn.length = 6) "drawn"
  k_dflt cell_enter
  k_steps
  (rename Fr _ _ _ _ => kF)
  (rename News _ _ _ _ => kN)
  (rename IntsAre _ _ => hI8)
  refine' hret _ _ _ _ _ kF ?kn hI8 ?r2 ?r3
  case kn =>
    intro p hp
    rw [List.mem_singleton.mp hp]
    exact kN _ (List.Mem.head _)
  case r2 => rw [List.length_map]; assumption
  case r3 =>
    intro x hx
    obtain ⟨k, _, rfl⟩ := List.mem_map.mp hx
    have := Int.fmod_nonneg_of_pos k (show (0 : Int) < 255 by decide)
    have := Int.fmod_lt_of_pos k (show (0 : Int) < 255 by decide)
    omega
  k_with_none
end Mine
end

section
open PySem PySem.W PyProof.Rows
namespace Mine
set_option maxRecDepth 100000

theorem split3 {l : List Int} (h : 2 < l.length) : ∃ r a p b, l = r ++ [a, p, b] := by
  obtain ⟨b, r1, h1⟩ : ∃ b r1, l.reverse = b :: r1 := by
    cases hl : l.reverse with
    | nil => have := congrArg List.length hl; simp only [List.length_reverse, List.length_nil] at this; omega
    | cons b r => exact ⟨b, r, rfl⟩
  have n1 := congrArg List.length h1
  simp at n1
  obtain ⟨p, r2, h2⟩ : ∃ p r2, r1 = p :: r2 := by
    cases r1 with
    | nil => simp at n1; omega
    | cons p r => exact ⟨p, r, rfl⟩
  subst h2
  obtain ⟨a, r3, h3⟩ : ∃ a r3, r2 = a :: r3 := by
    cases r2 with
    | nil => simp at n1; omega
    | cons p r => exact ⟨p, r, rfl⟩
  subst h3
  refine ⟨r3.reverse, a, p, b, ?_⟩
  have := congrArg List.reverse h1
  simpa using this
theorem at3 (r : List Int) (a p b : Int) : (r ++ [a, p, b]).getD (-1 + ((r ++ [a, p, b]).length : Int)).toNat 0 = b ∧ (r ++ [a, p, b]).getD (-2 + ((r ++ [a, p, b]).length : Int)).toNat 0 = p ∧ (r ++ [a, p, b]).getD (-3 + ((r ++ [a, p, b]).length : Int)).toNat 0 = a := by
  have e1 : (-1 + ((r ++ [a, p, b]).length : Int)).toNat = r.length + 2 := by simp; omega
  have e2 : (-2 + ((r ++ [a, p, b]).length : Int)).toNat = r.length + 1 := by simp; omega
  have e3 : (-3 + ((r ++ [a, p, b]).length : Int)).toNat = r.length := by simp; omega
  rw [e1, e2, e3]
  simp [List.getD_eq_getElem?_getD, List.getElem?_append_right]
theorem drop3 (r : List Int) (a p b : Int) : (r ++ [a, p, b]).dropLast = r ++ [a, p] ∧ (r ++ [a, p]).dropLast = r ++ [a] ∧ (r ++ [a]).dropLast = r ∧ (r ++ [a, p, b]).getLastD 0 = b ∧ (r ++ [a, p]).getLastD 0 = p ∧ (r ++ [a]).getLastD 0 = a := by
  refine ⟨?_, ?_, ?_, ?_, ?_, ?_⟩
  · rw [show r ++ [a, p, b] = (r ++ [a, p]) ++ [b] by simp, List.dropLast_concat]
  · rw [show r ++ [a, p] = (r ++ [a]) ++ [p] by simp, List.dropLast_concat]
  · rw [List.dropLast_concat]
  · simp [List.getLastD_eq_getLast?]
  · simp [List.getLastD_eq_getLast?]
  · simp [List.getLastD_eq_getLast?]
theorem told_turn {l X : List Int} (h : settle l.reverse = X) (h2 : (2 : Int) < l.length)
    (hc : (if l.getD (-1 + (l.length : Int)).toNat 0 > l.getD (-3 + (l.length : Int)).toNat 0 then l.getD (-1 + (l.length : Int)).toNat 0 else l.getD (-3 + (l.length : Int)).toNat 0) ≤ l.getD (-2 + (l.length : Int)).toNat 0) :
    settle (l.dropLast.dropLast.dropLast ++ [l.dropLast.dropLast.getLastD 0 - l.dropLast.getLastD 0 + l.getLastD 0]).reverse = X := by
  obtain ⟨r, a, p, b, rfl⟩ := split3 (l := l) (by omega)
  obtain ⟨g1, g2, g3⟩ := at3 r a p b
  obtain ⟨d1, d2, d3, d4, d5, d6⟩ := drop3 r a p b
  rw [g1, g2, g3] at hc
  rw [d1, d2, d3, d4, d5, d6]
  rw [List.reverse_append] at h
  have h' : settle (b :: p :: a :: r.reverse) = X := h
  rw [settle_three, if_pos (by split at hc <;> omega)] at h'
  rw [List.reverse_append]
  exact h'
theorem told_stop {l X : List Int} (h : settle l.reverse = X) (hc : (2 : Int) < l.length → ¬ (if l.getD (-1 + (l.length : Int)).toNat 0 > l.getD (-3 + (l.length : Int)).toNat 0 then l.getD (-1 + (l.length : Int)).toNat 0 else l.getD (-3 + (l.length : Int)).toNat 0) ≤ l.getD (-2 + (l.length : Int)).toNat 0) :
    l = X.reverse := by
  by_cases h2 : 2 < l.length
  · have hc := hc (by omega)
    obtain ⟨r, a, p, b, rfl⟩ := split3 h2
    obtain ⟨g1, g2, g3⟩ := at3 r a p b
    rw [g1, g2, g3] at hc
    rw [List.reverse_append] at h
    have h' : settle (b :: p :: a :: r.reverse) = X := h
    rw [settle_three, if_neg (by split at hc <;> omega)] at h'
    rw [← h']
    simp
  · match l, h2 with
    | [], _ => rw [← h]; simp [settle_nil]
    | [a], _ => rw [← h]; simp [settle_one]
    | [a, b], _ => rw [← h]; simp [settle_two]
    | a :: b :: c :: r, h2 => simp at h2
theorem told_push {l pre : List Int} {n : Int} (h : l = (stackOf pre).reverse) (hl : l.length ≤ pre.length) : settle (l ++ [n]).reverse = stackOf (pre ++ [n]) ∧ (l ++ [n]).length ≤ pre.length + 1 := by
  subst h
  refine ⟨?_, ?_⟩
  · simp [stackOf, List.foldl_append]
  · rw [List.length_append]; exact Nat.succ_le_succ hl
theorem told_len {l : List Int} {x : Int} {k : Nat} (h : l.length ≤ k) (h2 : (2 : Int) < l.length) : (l.dropLast.dropLast.dropLast ++ [x]).length ≤ k ∧ (l.dropLast.dropLast.dropLast ++ [x]).length < l.length := by
  simp only [List.length_append, List.length_dropLast, List.length_cons, List.length_nil]
  omega
theorem told_end {h₀ : Heap} {L : Addr} {m' m₀ : Str → Option Value} {news : List (Addr × Obj)} {s₁ : Shared} {h' : Heap} {tk : Nat} {d : Addr} {cst own : List (Addr × Obj)} {adr : List Addr} {vs : List Value} {ks : List Int} {n : Nat} {x : Str} {stored : List Str} {pre : List Int}
    (F : Fr h₀ L h' m') (N : News h₀ L h' ((d, listOf vs.toArray n) :: news)) (hi : IntsAre vs ks) (hn : ∀ p ∈ cst, p ∈ news) (ho : ∀ p ∈ own, p ∈ news) (hadr : d :: cst.map (·.1) = adr) (hsame : ∀ z, z ≠ x → stored.contains z = false → m' z = m₀ z)
    (hP : ks = (stackOf pre).reverse ∧ ks.length ≤ pre.length) :
    InvEndN h₀ L (KstS (fun c : List Value × List Int × Nat => (d, listOf c.fst.toArray c.snd.snd) :: cst) (fun _ => []) (fun c => IntsAre c.fst c.snd.fst) x stored m₀ (fun pre c => c.snd.fst = (stackOf pre).reverse ∧ c.snd.fst.length ≤ pre.length) pre) own adr s₁ { s₁ with heap := h', toks := tk } := by
  subst hadr
  refine InvEndN.intro (nx := (d, listOf vs.toArray n) :: cst) F N ⟨(vs, ks, n), rfl, hi, (fun _ h => nomatch h), fun z h1 _ h3 => hsame z h1 h3, hP⟩ rfl ?_ fun p hp => List.mem_cons_of_mem _ (ho p hp)
  intro p hp
  rcases List.mem_cons.mp hp with rfl | hp
  · exact List.mem_cons_self ..
  · exact List.mem_cons_of_mem _ (hn p hp)
section
local macro_rules | `(tactic| walk_at "mine pad 0") => `(tactic| fail "pad")
local macro_rules | `(tactic| walk_at "mine pad 1") => `(tactic| fail "pad")
local macro_rules | `(tactic| walk_at "mine pad 2") => `(tactic| fail "pad")
local macro_rules | `(tactic| walk_at "mine pad 3") => `(tactic| fail "pad")
local macro_rules | `(tactic| walk_at "mine pad 4") => `(tactic| fail "pad")
local macro_rules | `(tactic| walk_at "call builtin:list.pop") => `(tactic| (k_here; (with_reducible show wpAny _ _ (call (Value.builtin _) [Value.ref _]) _ _ _); k_dflt (refine' kpa_pop ?F ?N ?U ?i ?l ?z ?_; (case F => k_asm); (case N => k_asm); (case U => k_upd); (case i => with_reducible assumption); (case l => (simp only [List.length_dropLast]; omega)); (case z => (simp only [List.length_dropLast]; rw [sizeLine_eq]; omega))); (intro h' t' F' N' hI'; (try dsimp only [List.nil_append, List.cons_append] at N'))))
local macro_rules | `(tactic| walk_at "call builtin:list.append") => `(tactic| (k_here; (with_reducible show wpAny _ _ (call (Value.builtin _) [Value.ref _, _]) _ _ _); k_dflt (refine' append_K ?k1 ?k2 ?k3 ?_ ?z; (case k1 => k_asm); (case k2 => k_asm); (case k3 => k_upd); (case z => ((simp only [List.size_toArray, List.length_dropLast, List.length_nil]); rw [sizeLine_eq]; omega)); k_whole); intro h' F' N'; (try k_sweep)))
local macro_rules | `(tactic| walk_at "exec While BoolOp") => `(tactic| (
  (rename News _ _ _ _ => nW')
  (simp only [List.push_toArray] at nW')
  (rename IntsAre _ _ => iW')
  (have iW2 := IntsAre.append iW' (IntsAre.cons $(Lean.mkIdent `kN) $(Lean.mkIdent `kT) IntsAre.nil))
  (k_while (fun _ left => settle left.reverse = stackOf ($(Lean.mkIdent `kPre) ++ [$(Lean.mkIdent `kN)]) ∧ left.length ≤ $(Lean.mkIdent `kPre).length + 1) (fun _ left => List.length left) "left")
  clear iW2))
local macro_rules | `(tactic| walk_at "InvEndN") => `(tactic| (
  (rename News _ _ _ _ => nE')
  (rename Fr _ _ _ _ => fE')
  (rename IntsAre _ _ => iE')
  refine told_end fE' nE' iE' ?inn ?own rfl ?same ?word
  (case inn =>
    intro p hp
    exact (List.mem_cons.mp hp).elim (fun h9 => List.mem_cons.mpr (Or.inl h9)) (fun h9 => List.mem_cons.mpr (Or.inr (List.mem_append_left _ h9))))
  (case own =>
    intro p hp
    exact List.mem_cons_of_mem _ (List.mem_append_right _ hp))
  (case same =>
    intro z h1 h3
    simp only [h3, if_neg h1, Bool.false_eq_true, if_false])
  (case word =>
    refine ⟨told_stop (by assumption) ?_, ?_⟩
    (intro _; first | assumption | (exfalso; omega))
    ((simp only [List.length_append, List.length_cons, List.length_nil]); omega))))
set_option maxHeartbeats 8000000 in
theorem c_told (w : World) (mean mg mb) (l : Addr) (us : List Value) (hs : List Int) (nn : Nat) (rest : List (Addr × Obj)) (hI : IntsAre us hs) (hlen : hs.length ≤ 6) :
    Ct 1 w mean mg mb 111 ((l, listOf us.toArray nn) :: rest) ((l, listOf us.toArray nn) :: rest) [.ref l] (fun t => .int (play hs) t) := by
  dsimp only [Ct]
  intros
  rename_i hret
  have cbI : CbIn 111 := CbIn.mk
  refine wpAny_call ?_
  k_with_none
  k_with "pyIter ref" => k_state (fun pre left => left = (stackOf pre).reverse ∧ left.length ≤ pre.length) "left"
  k_with "pyIter ref" => k_state (fun pre lead => lead = alt pre) "lead"
  k_with "state" => first
    | exact ⟨rfl, Nat.le_refl _⟩
    | exact rfl
    | exact told_push (by assumption) (by assumption)
    | exact ⟨told_turn (by assumption) (by assumption) (by assumption), (told_len (by assumption) (by assumption)).1⟩
    | (rw [alt_snoc]; omega)
  k_with "measure" => exact (told_len (Nat.le_refl _) (by assumption)).2
  k_dflt cell_enter
  k_steps
  all_goals (refine' cb_retI hret ?e1 ?e2 ?e3; (case e1 => (rename _ = alt _ => hA; exact hA.trans (told_play hs _ _ (by assumption) (by assumption) (by assumption)))); (case e2 => assumption); (case e3 => (intro p hp; (rename News _ _ _ _ => kN9); exact kN9 p (List.mem_cons_of_mem _ (List.mem_cons_of_mem _ hp)))))
  k_with_none
end
end Mine
end

section
open PySem PySem.W PyProof.Rows
namespace Mine

def Lab (l : List Nat) : Prop := 0 < l.length ∧ l.length ≤ 2 ∧ ∀ c ∈ l, 65 ≤ c ∧ c ≤ 80
def joinL : List (List Nat) → List Nat
  | [] => []
  | l :: r => match r with
    | [] => l
    | _ :: _ => l ++ 46 :: joinL r
theorem joinL_one (l : List Nat) : joinL [l] = l := rfl
theorem joinL_cons (l : List Nat) {r : List (List Nat)} (h : r ≠ []) : joinL (l :: r) = l ++ 46 :: joinL r := by
  cases r with
  | nil => exact absurd rfl h
  | cons => rfl
theorem joinL_snoc (l : List Nat) : ∀ {r : List (List Nat)}, r ≠ [] → joinL (r ++ [l]) = joinL r ++ 46 :: l
  | [], h => absurd rfl h
  | [a], _ => rfl
  | a :: b :: r, _ => by
    rw [List.cons_append, joinL_cons _ (by simp), joinL_cons a (by simp), joinL_snoc l (r := b :: r) (by simp)]
    simp
theorem joinL_rev : ∀ ls : List (List Nat), (joinL ls).reverse = joinL (ls.map List.reverse).reverse
  | [] => rfl
  | [a] => rfl
  | a :: b :: r => by
    rw [joinL_cons a (by simp), List.map_cons, List.reverse_cons, joinL_snoc _ (by simp), List.reverse_append, List.reverse_cons, joinL_rev (b :: r)]
    simp
theorem joinL_mem {ls : List (List Nat)} (h : ∀ l ∈ ls, Lab l) : ∀ c ∈ joinL ls, c = 46 ∨ (65 ≤ c ∧ c ≤ 80) := by
  induction ls with
  | nil => intro c hc; cases hc
  | cons l r ih =>
    intro c hc
    have hl := h l (List.mem_cons_self ..)
    cases r with
    | nil => exact .inr (hl.2.2 c hc)
    | cons b r =>
      rw [joinL_cons l (by simp)] at hc
      rcases List.mem_append.mp hc with hc | hc
      · exact .inr (hl.2.2 c hc)
      · rcases List.mem_cons.mp hc with rfl | hc
        · exact .inl rfl
        · exact ih (fun l hl => h l (List.mem_cons_of_mem _ hl)) c hc
theorem joinL_len {ls : List (List Nat)} (h : ∀ l ∈ ls, Lab l) : (joinL ls).length ≤ 3 * ls.length := by
  induction ls with
  | nil => simp [joinL]
  | cons l r ih =>
    have hl := h l (List.mem_cons_self ..)
    cases r with
    | nil => simp only [joinL, List.length_cons, List.length_nil]; have := hl.2.1; omega
    | cons b r =>
      rw [joinL_cons l (by simp)]
      have := ih (fun l hl => h l (List.mem_cons_of_mem _ hl))
      have := hl.2.1
      simp only [List.length_append, List.length_cons] at *
      omega
theorem joinL_pos {ls : List (List Nat)} (h : ∀ l ∈ ls, Lab l) (hn : ls ≠ []) : 0 < (joinL ls).length := by
  cases ls with
  | nil => exact absurd rfl hn
  | cons l r =>
    have hl := (h l (List.mem_cons_self ..)).1
    cases r with
    | nil => exact hl
    | cons b r =>
      rw [joinL_cons l (by simp), List.length_append]
      omega
theorem lab_dot {l : List Nat} (h : Lab l) : 46 ∉ l := fun hm => by have := (h.2.2 46 hm).1; omega
theorem lab_rev {l : List Nat} (h : Lab l) : Lab l.reverse := ⟨by rw [List.length_reverse]; exact h.1, by rw [List.length_reverse]; exact h.2.1, fun c hc => h.2.2 c (List.mem_reverse.mp hc)⟩
theorem split_dot {a a' b b' : List Nat} (h : 46 ∉ a) (h' : 46 ∉ a') (e : a ++ 46 :: b = a' ++ 46 :: b') : a = a' ∧ b = b' := by
  induction a generalizing a' with
  | nil =>
    cases a' with
    | nil => simpa using e
    | cons x r =>
      simp only [List.nil_append, List.cons_append, List.cons.injEq] at e
      exact absurd (List.mem_cons.mpr (.inl e.1)) h'
  | cons x r ih =>
    cases a' with
    | nil =>
      simp only [List.nil_append, List.cons_append, List.cons.injEq] at e
      exact absurd (List.mem_cons.mpr (.inl e.1.symm)) h
    | cons y r' =>
      simp only [List.cons_append, List.cons.injEq] at e
      obtain ⟨rfl, e⟩ := e
      obtain ⟨rfl, e'⟩ := ih (fun hm => h (List.mem_cons_of_mem _ hm)) (fun hm => h' (List.mem_cons_of_mem _ hm)) e
      exact ⟨rfl, e'⟩
theorem joinL_inj : ∀ {ls ls' : List (List Nat)}, (∀ l ∈ ls, Lab l) → (∀ l ∈ ls', Lab l) → joinL ls = joinL ls' → ls = ls' := by
  intro ls
  induction ls with
  | nil =>
    intro ls' _ h' e
    cases ls' with
    | nil => rfl
    | cons l r =>
      have := joinL_pos h' (by simp)
      rw [← e] at this
      exact absurd this (Nat.lt_irrefl 0)
  | cons l r ih =>
    intro ls' h h' e
    cases ls' with
    | nil =>
      have := joinL_pos h (by simp)
      rw [e] at this
      exact absurd this (Nat.lt_irrefl 0)
    | cons l' r' =>
      have hl := h l (List.mem_cons_self ..)
      have hl' := h' l' (List.mem_cons_self ..)
      cases r with
      | nil =>
        cases r' with
        | nil => rw [joinL_one, joinL_one] at e; rw [e]
        | cons b r' =>
          rw [joinL_one, joinL_cons l' (by simp)] at e
          exact absurd (e ▸ List.mem_append_right _ (List.mem_cons_self ..)) (lab_dot hl)
      | cons b r =>
        cases r' with
        | nil =>
          rw [joinL_one, joinL_cons l (by simp)] at e
          exact absurd (e ▸ List.mem_append_right _ (List.mem_cons_self ..)) (lab_dot hl')
        | cons b' r' =>
          rw [joinL_cons l (by simp), joinL_cons l' (by simp)] at e
          obtain ⟨rfl, e2⟩ := split_dot (lab_dot hl) (lab_dot hl') e
          rw [ih (fun l hl => h l (List.mem_cons_of_mem _ hl)) (fun l hl => h' l (List.mem_cons_of_mem _ hl)) e2]

/-- the last label -/
theorem c_stripL (w : World) (mean mg mb) (news : List (Addr × Obj)) (ls : List (List Nat)) (l : List Nat) (t : Tok) (h : ∀ x ∈ ls ++ [l], Lab x) (hn : ls.length ≤ 6) :
    Ct 1 w mean mg mb 57 news news [.str (S (joinL (ls ++ [l]))) t] (fun t => .str (S l) t) := by
  have hm := joinL_mem h
  have hlen := joinL_len h
  rw [List.length_append, List.length_cons, List.length_nil] at hlen
  have hl := h l (by simp)
  have n10 : 10 ∉ joinL (ls ++ [l]) := fun m => by rcases hm _ m with h | h <;> omega
  have n58 : 58 ∉ joinL (ls ++ [l]) := fun m => by rcases hm _ m with h | h <;> omega
  have base := fun r h3 h4 h5 => c_strip w mean mg mb news (S (joinL (ls ++ [l]))) t (by rw [S_len]; omega) (by rw [nl_is]; exact find_none _ _ n10) (by rw [colon_is]; exact find_none _ _ n58) r h3 h4 h5
  rw [show Str.ofString "." = S [46] from dot_is] at base
  by_cases hls : ls = []
  · subst hls
    have b := base (-1) (by rw [List.nil_append, joinL_one]; exact rfind_none _ _ (lab_dot hl)) (by omega) (by omega)
    have e : Txt.slice (S (joinL ([] ++ [l]))) (some (-1 + 1)) (some (S (joinL ([] ++ [l]))).length) = S l := by
      rw [List.nil_append, joinL_one, S_len, slice_ss l (-1 + 1) l.length (by omega) (by omega) (by omega)]
      simp
    rw [e] at b
    exact b
  · have ej := joinL_snoc l hls
    have b := base ((joinL ls).length) (by rw [ej]; exact rfind_last _ _ _ (lab_dot hl)) (by omega) (by rw [S_len, ej]; simp; omega)
    have e : Txt.slice (S (joinL (ls ++ [l]))) (some ((joinL ls).length + 1)) (some (S (joinL (ls ++ [l]))).length) = S l := by
      rw [S_len, ej]
      have hL : (joinL ls ++ 46 :: l).length = (joinL ls).length + 1 + l.length := by simp; omega
      rw [slice_ss _ _ _ (by omega) (by rw [hL]; omega) (by omega), hL]
      have d1 : ((joinL ls).length + 1 : Int).toNat = (joinL ls ++ [46]).length := by simp
      have d2 : (((joinL ls).length + 1 + l.length : Nat) - ((joinL ls).length + 1 : Int) : Int).toNat = l.length := by omega
      rw [d1, d2, show joinL ls ++ 46 :: l = (joinL ls ++ [46]) ++ l by simp, List.drop_left, List.take_length]
    rw [e] at b
    exact b

theorem local_is : Str.ofString ".local" = S [46, 108, 111, 99, 97, 108] := by decide +kernel
theorem loc_is : Str.ofString "local" = S [108, 111, 99, 97, 108] := by decide +kernel
/-- what stands behind the first label and its dot, ".local" put behind the text -/
def restL (tail : List (List Nat)) : List Nat := match tail with
  | [] => [108, 111, 99, 97, 108]
  | _ :: _ => joinL tail ++ [46, 108, 111, 99, 97, 108]
theorem with_local (l : List Nat) (tail : List (List Nat)) : joinL (l :: tail) ++ [46, 108, 111, 99, 97, 108] = l ++ 46 :: restL tail := by
  cases tail with
  | nil => rfl
  | cons b r =>
    rw [joinL_cons l (by simp)]
    show _ = l ++ 46 :: (joinL (b :: r) ++ [46, 108, 111, 99, 97, 108])
    simp
theorem digit_no {c : Nat} (h : c = 46 ∨ 65 ≤ c) (h2 : c < 128) : Sre.isDigit c = false := by
  have all : ∀ c : Nat, c < 128 → (c = 46 ∨ 65 ≤ c) → Sre.isDigit c = false := by decide +kernel
  exact all c h2 h
theorem with_mem {l : List Nat} {tail : List (List Nat)} (h : ∀ x ∈ l :: tail, Lab x) : ∀ c ∈ joinL (l :: tail) ++ [46, 108, 111, 99, 97, 108], (c = 46 ∨ 65 ≤ c) ∧ c < 128 := by
  intro c hc
  rcases List.mem_append.mp hc with hc | hc
  · rcases joinL_mem h c hc with h | h <;> omega
  · simp at hc
    omega
theorem hdn_ok {l : List Nat} {tail : List (List Nat)} (h : ∀ x ∈ l :: tail, Lab x) (hn : tail.length ≤ 6) : HdnOk (S (joinL (l :: tail) ++ [46, 108, 111, 99, 97, 108])) := by
  have hlen := joinL_len h
  rw [List.length_cons] at hlen
  have hl := h l (List.mem_cons_self ..)
  refine ⟨?_, ?_, ?_, ?_, ?_⟩
  · rw [S_size, List.length_append]; simp only [List.length_cons, List.length_nil]; omega
  · intro i c _ hc
    rw [S_get] at hc
    have := with_mem h c (List.mem_of_getElem? hc)
    exact digit_no this.1 this.2
  · rw [S_size, List.length_append]; simp only [List.length_cons, List.length_nil]; omega
  · rw [S_get, with_local]
    have h0 := hl.1
    rw [List.getElem?_append_left h0]
    intro e
    exact lab_dot hl (List.mem_of_getElem? e)
  · rw [S_get, S_size, List.length_append]
    have : (joinL (l :: tail)).length + [46, 108, 111, 99, 97, 108].length - 1 = (joinL (l :: tail)).length + 5 := by simp
    rw [this, List.getElem?_append_right (by omega), Nat.add_sub_cancel_left]
    decide
theorem c_restL (w : World) (mean mg mb) (news : List (Addr × Obj)) (l : List Nat) (tail : List (List Nat)) (t : Tok) (h : ∀ x ∈ l :: tail, Lab x) (hn : tail.length ≤ 6) :
    Ct 3 w mean mg mb 97 news news [.str (S (joinL (l :: tail))) t] (fun t => .str (S (joinL tail)) t) := by
  have hlen := joinL_len h
  rw [List.length_cons] at hlen
  have hl := h l (List.mem_cons_self ..)
  have hX : S (joinL (l :: tail)) ++ Str.ofString ".local" = S (joinL (l :: tail) ++ [46, 108, 111, 99, 97, 108]) := by rw [local_is, S_app]
  have hX' : S (joinL (l :: tail) ++ [46, 108, 111, 99, 97, 108]) = S (l ++ 46 :: restL tail) := by rw [with_local]
  have hd : Str.ofString "." = S [46] := dot_is
  have hf : Txt.find (S (l ++ 46 :: restL tail)) (S [46]) = l.length := find_first _ _ _ (lab_dot hl)
  have hLn : (joinL (l :: tail) ++ [46, 108, 111, 99, 97, 108]).length = l.length + 1 + (restL tail).length := by rw [with_local]; simp; omega
  have hLn2 : (joinL (l :: tail) ++ [46, 108, 111, 99, 97, 108]).length = (joinL (l :: tail)).length + 6 := by simp
  have hs : Txt.slice (S (l ++ 46 :: restL tail)) (some ((l.length : Int) + 1)) none = S (restL tail) := by
    rw [slice_from _ _ (by omega) (by simp; omega)]
    congr 1
    have d1 : ((l.length : Int) + 1).toNat = (l ++ [46]).length := by simp
    rw [d1, show l ++ 46 :: restL tail = (l ++ [46]) ++ restL tail by simp, List.drop_left]
  refine c_rest w mean mg mb news (S (joinL (l :: tail))) t (by rw [S_len]; omega) (by rw [hX, S_len]; omega) (by rw [hX]; exact hdn_ok h hn) ?_ ?_ ?_ (S (joinL tail)) ?_ ?_
  · rw [hX, hX', hd, hf]; omega
  · rw [hX, hX', hd, hf, S_len]; simp; omega
  · rw [hX, hX', hd, hf, hs]
    cases tail with
    | nil => exact .inr (by rw [loc_is]; exact beq_self_eq_true _)
    | cons b r => exact .inl (find_in _ _ (List.mem_append_right _ (List.mem_cons_self ..)))
  · rw [hX, hX', hd, hf, hs, S_app]
    cases tail with
    | nil => decide +kernel
    | cons b r =>
      show Txt.slice (S ([46] ++ (joinL (b :: r) ++ [46, 108, 111, 99, 97, 108]))) (some 1) (some (-6)) = _
      rw [slice_s_neg _ _ _ (by omega) (by omega) (by simp; omega)]
      have d : ((-6 : Int) + (([46] ++ (joinL (b :: r) ++ [46, 108, 111, 99, 97, 108])).length : Int) - 1).toNat = (joinL (b :: r)).length := by simp; omega
      rw [d]
      show S ((joinL (b :: r) ++ [46, 108, 111, 99, 97, 108]).take _) = _
      rw [List.take_left]
  · rw [hX, hX', hd, hf, hs, S_app, S_len]
    have : (restL tail).length ≤ 40 := by rw [hLn2] at hLn; omega
    simp
    omega
end Mine
end

section
open PySem PySem.W PyProof.Rows
namespace Mine

def OkH (l : List Nat) : Prop := ∀ n ∈ l, 1 ≤ n ∧ n ≤ 255
def labs (l : List Nat) : List (List Nat) := l.map apOf
def txt (l : List Nat) : List Nat := joinL (labs l)
def pl (l : List Nat) : Int := play (l.map fun (n : Nat) => (n : Int))
theorem ap_lab {n : Nat} (h1 : 1 ≤ n) (h2 : n ≤ 255) : Lab (apOf n) := by
  unfold Lab apOf
  by_cases h : n < 16
  · rw [if_pos h]
    refine ⟨by simp, by simp, fun c hc => ?_⟩
    rw [List.mem_singleton] at hc
    omega
  · rw [if_neg h]
    refine ⟨by simp, by simp, fun c hc => ?_⟩
    simp only [List.mem_cons, List.not_mem_nil, or_false] at hc
    omega
theorem ap_coins {n : Nat} (h2 : n ≤ 255) : coinsOf (apOf n) = (n : Int) := by
  unfold coinsOf coinsI apOf
  by_cases h : n < 16
  · rw [if_pos h]
    simp only [List.map_cons, List.map_nil, List.foldl_cons, List.foldl_nil]
    omega
  · rw [if_neg h]
    simp only [List.map_cons, List.map_nil, List.foldl_cons, List.foldl_nil]
    omega
theorem ap_inj {n n' : Nat} (h : n ≤ 255) (h' : n' ≤ 255) (e : apOf n = apOf n') : n = n' := by
  have := congrArg coinsOf e
  rw [ap_coins h, ap_coins h'] at this
  omega
theorem labs_ok {l : List Nat} (h : OkH l) : ∀ x ∈ labs l, Lab x := by
  intro x hx
  obtain ⟨n, hn, rfl⟩ := List.mem_map.mp hx
  exact ap_lab (h n hn).1 (h n hn).2
theorem labs_inj : ∀ {l l' : List Nat}, OkH l → OkH l' → labs l = labs l' → l = l'
  | [], [], _, _, _ => rfl
  | [], b :: r, _, _, e => by cases e
  | a :: r, [], _, _, e => by cases e
  | a :: r, b :: r', h, h', e => by
    simp only [labs, List.map_cons, List.cons.injEq] at e
    rw [ap_inj (h a (List.mem_cons_self ..)).2 (h' b (List.mem_cons_self ..)).2 e.1, labs_inj (fun n hn => h n (List.mem_cons_of_mem _ hn)) (fun n hn => h' n (List.mem_cons_of_mem _ hn)) e.2]
theorem txt_inj {l l' : List Nat} (h : OkH l) (h' : OkH l') (e : S (txt l) = S (txt l')) : l = l' :=
  labs_inj h h' (joinL_inj (labs_ok h) (labs_ok h') (S_inj e))

/-! the table -/
abbrev Tab := List (Str × Int)
def Has (c : Tab) (l : List Nat) : Prop := kdpHas c (S (txt l)) = true
structure Inv (top : List Nat) (c : Tab) : Prop where
  good : ∀ k v, (k, v) ∈ c → ∃ l, l ≠ [] ∧ l <:+: top ∧ k = S (txt l) ∧ v = pl l
  nodup : (c.map (·.1)).Nodup
  closed : ∀ l, l ≠ [] → l <:+: top → Has c l → (l.tail ≠ [] → Has c l.tail) ∧ (l.dropLast ≠ [] → Has c l.dropLast)
theorem has_iff {c : Tab} {k : Str} : kdpHas c k = true ↔ ∃ v, (k, v) ∈ c := by
  unfold kdpHas
  rw [List.any_eq_true]
  constructor
  · rintro ⟨⟨k', v⟩, hm, e⟩
    have e' : k' = k := of_decide_eq_true e
    subst e'
    exact ⟨v, hm⟩
  · rintro ⟨v, hm⟩
    exact ⟨(k, v), hm, decide_eq_true rfl⟩
theorem infix_ok {top l : List Nat} (h : OkH top) (hi : l <:+: top) : OkH l := fun n hn => h n (hi.subset hn)
theorem tail_infix {top l : List Nat} (hi : l <:+: top) : l.tail <:+: top := (List.tail_suffix l).isInfix.trans hi
theorem init_infix {top l : List Nat} (hi : l <:+: top) : l.dropLast <:+: top := (List.dropLast_prefix l).isInfix.trans hi
theorem look_of {c : Tab} {k : Str} {v : Int} (hn : (c.map (·.1)).Nodup) (h : (k, v) ∈ c) : kdpLook c k 0 = v := by
  unfold kdpLook
  induction c with
  | nil => cases h
  | cons p r ih =>
    rw [List.find?_cons]
    by_cases e : p.1 = k
    · rw [decide_eq_true e]
      rcases List.mem_cons.mp h with rfl | h
      · rfl
      · rw [List.map_cons, List.nodup_cons] at hn
        exact absurd (List.mem_map.mpr ⟨_, h, e.symm⟩) hn.1
    · rw [decide_eq_false e]
      rcases List.mem_cons.mp h with rfl | h
      · exact absurd rfl e
      · exact ih (List.nodup_cons.mp hn).2 h
theorem Inv.look {top l : List Nat} {c : Tab} (I : Inv top c) (ht : OkH top) (hi : l <:+: top) (h : Has c l) : kdpLook c (S (txt l)) 0 = pl l := by
  obtain ⟨v, hm⟩ := has_iff.mp h
  obtain ⟨l', _, hi', e, rfl⟩ := I.good _ _ hm
  rw [look_of I.nodup hm, txt_inj (infix_ok ht hi') (infix_ok ht hi) e.symm]
theorem put_new {c : Tab} {k : Str} {v : Int} (h : kdpHas c k = false) : kdpPut c k v = c ++ [(k, v)] := by
  unfold kdpPut
  unfold kdpHas at h
  rw [h]
  exact if_neg Bool.false_ne_true
theorem Inv.empty (top : List Nat) : Inv top [] := ⟨fun _ _ h => (nomatch h), .nil, fun _ _ _ h => (nomatch h)⟩
theorem has_put {c : Tab} {k k' : Str} {v : Int} (h : kdpHas c k = true) : kdpHas (c ++ [(k', v)]) k = true := by
  obtain ⟨x, hx⟩ := has_iff.mp h
  exact has_iff.mpr ⟨x, List.mem_append_left _ hx⟩
theorem Inv.put {top l : List Nat} {c : Tab} (I : Inv top c) (ht : OkH top) (hn : l ≠ []) (hi : l <:+: top) (h : kdpHas c (S (txt l)) = false) (h1 : l.tail ≠ [] → Has c l.tail) (h2 : l.dropLast ≠ [] → Has c l.dropLast) :
    Inv top (c ++ [(S (txt l), pl l)]) ∧ Has (c ++ [(S (txt l), pl l)]) l := by
  have hself : Has (c ++ [(S (txt l), pl l)]) l := has_iff.mpr ⟨_, List.mem_append_right _ (List.mem_cons_self ..)⟩
  refine ⟨⟨?_, ?_, ?_⟩, hself⟩
  · intro k v hm
    rcases List.mem_append.mp hm with hm | hm
    · exact I.good k v hm
    · obtain ⟨rfl, rfl⟩ := Prod.mk.inj (List.mem_singleton.mp hm)
      exact ⟨l, hn, hi, rfl, rfl⟩
  · rw [List.map_append, List.nodup_append]
    refine ⟨I.nodup, by simp, ?_⟩
    intro a ha b hb e
    obtain ⟨⟨k, v⟩, hm, rfl⟩ := List.mem_map.mp ha
    rw [List.map_cons, List.map_nil, List.mem_singleton] at hb
    subst hb
    have e' : k = S (txt l) := e
    have : kdpHas c (S (txt l)) = true := has_iff.mpr ⟨v, e' ▸ hm⟩
    rw [h] at this
    cases this
  · intro l' hn' hi' hh
    obtain ⟨v, hm⟩ := has_iff.mp hh
    rcases List.mem_append.mp hm with hm | hm
    · have := I.closed l' hn' hi' (has_iff.mpr ⟨v, hm⟩)
      exact ⟨fun z => has_put (this.1 z), fun z => has_put (this.2 z)⟩
    · have e := (Prod.mk.inj (List.mem_singleton.mp hm)).1
      have e' := txt_inj (infix_ok ht hi') (infix_ok ht hi) e
      subst e'
      exact ⟨fun z => has_put (h1 z), fun z => has_put (h2 z)⟩
theorem nodup_len {α : Type} [DecidableEq α] : ∀ {l m : List α}, l.Nodup → (∀ x ∈ l, x ∈ m) → l.length ≤ m.length
  | [], _, _, _ => Nat.zero_le _
  | a :: l, m, hn, hs => by
    have ha := hs a (List.mem_cons_self ..)
    have hn' := List.nodup_cons.mp hn
    have := nodup_len (l := l) (m := m.erase a) hn'.2 fun x hx => by
      have hne : x ≠ a := fun e => hn'.1 (e ▸ hx)
      exact (List.mem_erase_of_ne hne).mpr (hs x (List.mem_cons_of_mem _ hx))
    rw [List.length_erase_of_mem ha] at this
    have := List.length_pos_of_mem ha
    rw [List.length_cons]
    omega
def cuts (top : List Nat) : List (List Nat) := (List.range 7).flatMap fun i => (List.range 7).map fun j => (top.drop i).take j
theorem cuts_len (top : List Nat) : (cuts top).length = 49 := by
  unfold cuts
  simp [List.length_flatMap]
  decide
theorem infix_cut {top l : List Nat} (hl : top.length ≤ 6) (h : l <:+: top) : l ∈ cuts top := by
  obtain ⟨a, b, rfl⟩ := h
  simp only [List.length_append] at hl
  refine List.mem_flatMap.mpr ⟨a.length, List.mem_range.mpr (by omega), List.mem_map.mpr ⟨l.length, List.mem_range.mpr (by omega), ?_⟩⟩
  rw [List.append_assoc, List.drop_left, List.take_left]
theorem Inv.len {top : List Nat} {c : Tab} (I : Inv top c) (hl : top.length ≤ 6) : c.length ≤ 49 := by
  have := nodup_len (m := (cuts top).map fun l => S (txt l)) I.nodup fun k hk => by
    obtain ⟨⟨k, v⟩, hm, rfl⟩ := List.mem_map.mp hk
    obtain ⟨l, _, hi, e, _⟩ := I.good k v hm
    exact List.mem_map.mpr ⟨l, infix_cut hl hi, e.symm⟩
  simpa [cuts_len] using this
end Mine
end

section
open PySem PySem.W PyProof.Rows
namespace Mine

theorem txt_cons (n : Nat) (l : List Nat) : txt (n :: l) = joinL (apOf n :: labs l) := rfl
theorem txt_snoc (l : List Nat) (n : Nat) : txt (l ++ [n]) = joinL (labs l ++ [apOf n]) := by simp [txt, labs]
theorem txt_rev_cons (n : Nat) (l : List Nat) : (txt (n :: l)).reverse = joinL (((labs l).map List.reverse).reverse ++ [(apOf n).reverse]) := by
  rw [txt_cons, joinL_rev, List.map_cons, List.reverse_cons]
theorem txt_rev_snoc (l : List Nat) (n : Nat) : (txt (l ++ [n])).reverse = joinL ((apOf n).reverse :: ((labs l).map List.reverse).reverse) := by
  rw [txt_snoc, joinL_rev, List.map_append, List.reverse_append]
  rfl
theorem txt_rev (l : List Nat) : (txt l).reverse = joinL ((labs l).map List.reverse).reverse := joinL_rev _
theorem labs_len (l : List Nat) : (labs l).length = l.length := List.length_map ..
theorem rev_ok {l : List Nat} (h : OkH l) : ∀ x ∈ ((labs l).map List.reverse).reverse, Lab x := by
  intro x hx
  obtain ⟨y, hy, rfl⟩ := List.mem_map.mp (List.mem_reverse.mp hx)
  exact lab_rev (labs_ok h y hy)
theorem ok_cons {n : Nat} {l : List Nat} (h : OkH (n :: l)) : (1 ≤ n ∧ n ≤ 255) ∧ OkH l := ⟨h n (List.mem_cons_self ..), fun x hx => h x (List.mem_cons_of_mem _ hx)⟩
theorem ok_snoc {n : Nat} {l : List Nat} (h : OkH (l ++ [n])) : (1 ≤ n ∧ n ≤ 255) ∧ OkH l := ⟨h n (by simp), fun x hx => h x (List.mem_append_left _ hx)⟩
theorem txt_len {l : List Nat} (h : OkH l) : (txt l).length ≤ 3 * l.length := by
  have := joinL_len (labs_ok h)
  rw [labs_len] at this
  exact this
theorem txt_pos {l : List Nat} (h : OkH l) (hn : l ≠ []) : 0 < (txt l).length := joinL_pos (labs_ok h) (by intro e; exact hn (List.map_eq_nil_iff.mp e))
theorem txt_ascii {l : List Nat} (h : OkH l) : ∀ c ∈ txt l, c < 128 := fun c hc => by rcases joinL_mem (labs_ok h) c hc with h | h <;> omega
theorem ap_letters {n : Nat} (h : 1 ≤ n ∧ n ≤ 255) : ∀ c ∈ apOf n, 65 ≤ c ∧ c ≤ 80 := (ap_lab h.1 h.2).2.2
theorem ap_two {n : Nat} (h : 1 ≤ n ∧ n ≤ 255) : (apOf n).length ≤ 2 := (ap_lab h.1 h.2).2.1
theorem ap_pos {n : Nat} (h : 1 ≤ n ∧ n ≤ 255) : 0 < (apOf n).length := (ap_lab h.1 h.2).1

section
variable (w : World) (mean : ExcName → Option Value) (mg mb : Str → Option Value) (news : List (Addr × Obj)) (t : Tok) {n : Nat} {l : List Nat}
theorem strip_txt (h : OkH (l ++ [n])) (hl : l.length ≤ 6) : Ct 1 w mean mg mb 57 news news [.str (S (txt (l ++ [n]))) t] (fun t => .str (S (apOf n)) t) := by
  have hx : ∀ x ∈ labs l ++ [apOf n], Lab x := by
    intro x hx
    rcases List.mem_append.mp hx with hx | hx
    · exact labs_ok (ok_snoc h).2 x hx
    · rw [List.mem_singleton.mp hx]; exact ap_lab (ok_snoc h).1.1 (ok_snoc h).1.2
  have := c_stripL w mean mg mb news (labs l) (apOf n) t hx (by rw [labs_len]; exact hl)
  rw [← txt_snoc] at this
  exact this
theorem strip_mirror (h : OkH (n :: l)) (hl : l.length ≤ 6) : Ct 1 w mean mg mb 57 news news [.str (S (txt (n :: l)).reverse) t] (fun t => .str (S (apOf n).reverse) t) := by
  have hx : ∀ x ∈ ((labs l).map List.reverse).reverse ++ [(apOf n).reverse], Lab x := by
    intro x hx
    rcases List.mem_append.mp hx with hx | hx
    · exact rev_ok (ok_cons h).2 x hx
    · rw [List.mem_singleton.mp hx]; exact lab_rev (ap_lab (ok_cons h).1.1 (ok_cons h).1.2)
  have := c_stripL w mean mg mb news _ _ t hx (by rw [List.length_reverse, List.length_map, labs_len]; exact hl)
  rw [← txt_rev_cons] at this
  exact this
theorem rest_txt (h : OkH (n :: l)) (hl : l.length ≤ 6) : Ct 3 w mean mg mb 97 news news [.str (S (txt (n :: l))) t] (fun t => .str (S (txt l)) t) := by
  have hx : ∀ x ∈ apOf n :: labs l, Lab x := labs_ok h
  have := c_restL w mean mg mb news (apOf n) (labs l) t hx (by rw [labs_len]; exact hl)
  exact this
theorem rest_mirror (h : OkH (l ++ [n])) (hl : l.length ≤ 6) : Ct 3 w mean mg mb 97 news news [.str (S (txt (l ++ [n])).reverse) t] (fun t => .str (S (txt l).reverse) t) := by
  have hx : ∀ x ∈ (apOf n).reverse :: ((labs l).map List.reverse).reverse, Lab x := by
    intro x hx
    rcases List.mem_cons.mp hx with rfl | hx
    · exact lab_rev (ap_lab (ok_snoc h).1.1 (ok_snoc h).1.2)
    · exact rev_ok (ok_snoc h).2 x hx
  have := c_restL w mean mg mb news _ _ t hx (by rw [List.length_reverse, List.length_map, labs_len]; exact hl)
  rw [← txt_rev_snoc, ← txt_rev] at this
  exact this
theorem strip_txt2 {x : List Nat} (e : x = l ++ [n]) (h : OkH (l ++ [n])) (hl : l.length ≤ 6) : Ct 1 w mean mg mb 57 news news [.str (S (txt x)) t] (fun t => .str (S (apOf n)) t) := by
  subst e
  exact strip_txt w mean mg mb news t h hl
theorem rest_mirror2 {x : List Nat} (e : x = l ++ [n]) (h : OkH (l ++ [n])) (hl : l.length ≤ 6) : Ct 3 w mean mg mb 97 news news [.str (S (txt x).reverse) t] (fun t => .str (S (txt l).reverse) t) := by
  subst e
  exact rest_mirror w mean mg mb news t h hl
theorem coins_ap (h : 1 ≤ n ∧ n ≤ 255) : Ct 1 w mean mg mb 90 news news [.str (S (apOf n)) t] (fun t => .int (n : Int) t) := by
  have := c_coins w mean mg mb news (apOf n) t (ap_letters h) (ap_two h)
  rw [ap_coins h.2] at this
  exact this
end

/-! what the put does -/
theorem put_same {c : Tab} {k : Str} {v : Int} (h : ∀ x, (k, x) ∈ c → x = v) (hh : kdpHas c k = true) : kdpPut c k v = c := by
  unfold kdpPut
  unfold kdpHas at hh
  rw [if_pos hh]
  refine (List.map_congr_left (g := id) fun p hp => ?_).trans (List.map_id _)
  by_cases e : p.1 = k
  · rw [if_pos (decide_eq_true e)]
    obtain ⟨a, b⟩ := p
    have e' : a = k := e
    subst e'
    rw [h b hp]
    rfl
  · rw [if_neg (by simp [e])]
    rfl
theorem Inv.kdpPut {top l : List Nat} {c : Tab} (I : Inv top c) (ht : OkH top) (hn : l ≠ []) (hi : l <:+: top) (h1 : l.tail ≠ [] → Has c l.tail) (h2 : l.dropLast ≠ [] → Has c l.dropLast) :
    Inv top (kdpPut c (S (txt l)) (pl l)) ∧ Has (W.kdpPut c (S (txt l)) (pl l)) l ∧ (∀ k, kdpHas c k = true → kdpHas (W.kdpPut c (S (txt l)) (pl l)) k = true) := by
  cases hh : kdpHas c (S (txt l)) with
  | true =>
    have e := put_same (c := c) (k := S (txt l)) (v := pl l) (fun x hx => by
      obtain ⟨l', _, hi', e, rfl⟩ := I.good _ _ hx
      rw [txt_inj (infix_ok ht hi) (infix_ok ht hi') e]) hh
    rw [e]
    exact ⟨I, hh, fun _ h => h⟩
  | false =>
    have e := put_new (c := c) (k := S (txt l)) (v := pl l) hh
    rw [e]
    have := I.put ht hn hi hh h1 h2
    exact ⟨this.1, this.2, fun k h => has_put h⟩
theorem pl_split {n m : Nat} {l l' : List Nat} (e : n :: l = l' ++ [m]) : pl (n :: l) = max ((n : Int) - pl l) ((m : Int) - pl l') := by
  cases l' with
  | nil =>
    simp only [List.nil_append, List.cons.injEq] at e
    obtain ⟨rfl, rfl⟩ := e
    show play [(n : Int)] = max ((n : Int) - play []) ((n : Int) - play [])
    rw [play_one, play_nil]
    omega
  | cons x Z =>
    simp only [List.cons_append, List.cons.injEq] at e
    obtain ⟨rfl, rfl⟩ := e
    show play (((n : Int)) :: List.map (fun (n : Nat) => (n : Int)) (Z ++ [m])) = max ((n : Int) - play (List.map (fun (n : Nat) => (n : Int)) (Z ++ [m]))) ((m : Int) - play (((n : Int)) :: List.map (fun (n : Nat) => (n : Int)) Z))
    rw [List.map_append]
    exact play_snoc _ _ _
theorem snoc_of (n : Nat) (l : List Nat) : ∃ l' m, n :: l = l' ++ [m] := by
  refine ⟨(n :: l).dropLast, (n :: l).getLast (by simp), ?_⟩
  rw [List.dropLast_concat_getLast]
end Mine
end

section
open PySem PySem.W PyProof.Rows
namespace Mine
set_option maxRecDepth 100000

abbrev Dct (w : World) (o : Obj) (c : Tab) : Prop := ∃ kvs, o.IsDictOf (PySem.strKind Challenge.rw_zn0012_01.row.toRowW.prog w) kvs ∧ PyProof.V.FlatPairs PyData.str kvs (kdpD c)

/-- the contract of the game, the rows of heaps shorter than k -/
abbrev CtP (k : Nat) (w : World) (mean : ExcName → Option Value) (mg mb : Str → Option Value) (top l : List Nat) : Prop :=
  ∀ (dp un : Nat) (gd : Option (List Code)) (cn : Str) (cs : Scope) (a : Addr) (ccd : Value) (cl : List (Str × Addr)) (outer : List Env) (A₀ : Around) (base h₀ : Heap) (L : Addr) (m : Str → Option Value) (s : Shared) (d : Addr) (o : Obj) (rest : List (Addr × Obj)) (c : Tab) (t : Tok) (Q E : Value → Shared → Prop),
    Below A₀ base outer h₀ → Fr h₀ L s.heap m → (hd.heap_39 w.params).In h₀ → News h₀ L s.heap ((d, o) :: rest) → LTop mean mg mb h₀ → cs.kind = .function → dp + k < recursionLimit → un + 10 * k < cLine →
    Dct w o c → Inv top c → (∀ p ∈ rest, p.1 ≠ d) → (d == sysModules) = false →
    (∀ (t : Tok) (h' : Heap) (tk' : Nat) (o' : Obj) (c' : Tab), Fr h₀ L h' m → News h₀ L h' ((d, o') :: rest) → Dct w o' c' → Inv top c' → (l ≠ [] → Has c' l) → (∀ k, kdpHas c k = true → kdpHas c' k = true) → Q (.int (pl l) t) { s with heap := h', toks := tk' }) →
    wpS (LM w) (ktrTop dp un gd cn cs L a ccd cl outer) (call (.ref 104) [.str (S (txt l)) t, .ref d]) Q E s

set_option maxHeartbeats 8000000 in
theorem c_played_nil (w : World) (mean mg mb) (top : List Nat) : CtP 3 w mean mg mb top [] := by
  dsimp only [CtP]
  intros
  rename_i hret
  have e0 : pl [] = 0 := play_nil
  rw [e0] at hret
  have cbI : CbIn 104 := CbIn.mk
  refine wpS_call ?_
  k_dflt (refine' codeS_def ?k1 ?k2 ?k3 ?k4 ?k5 ?kA ?kF ?kK ?k6 ?k7 ?k8 ?k9 ?kB ?_ ?c2 ?c3 ?c4 ?c5; (case kA => exact rfl); (case kF => exact rfl); (case kK => assumption); (case k1 => k_asm); (case k2 => k_asm); (case k3 => k_asm); (case k4 => k_asm); (case k5 => k_asm); (case k6 => k_is); (case k7 => k_is); (case k8 => ktr_room); (case k9 => exact BindsTo.of_eq rfl); (case c5 => decide); (case kB => exact locs rfl); (case c2 => exact rfl); (case c3 => exact rfl); (case c4 => exact rfl); k_whole; intro g' L' h' FG' F' N' B' X' T' l1'; (try dsimp only); (try k_lift B'); (try k_fold))
  refine wpS_execs_cons ?_
  refine wpS_If ?_
  k_steps
  refine wpS_execs_cons ?_
  refine wpS_Return_some ?_
  refine wpS_of_any ?_
  k_steps
  all_goals exact hret _ _ _ _ _ (by assumption) (by assumption) (by assumption) (by assumption) (fun h => absurd rfl h) (fun _ h => h)
section
variable {prog : Program} {w : World} {A : Around} {E : Value → Shared → Prop} {s : Shared} {h₀ : Heap} {L : Addr} {m : Str → Option Value}
theorem setK {rest : List (Addr × Obj)} {d : Addr} {o : Obj} {kvs : List (Str × Value)} {c : Tab} {k : Str} {e : Int} {tk te : Tok} {Q : Unit → Shared → Prop} (F : Fr h₀ L s.heap m) (N : News h₀ L s.heap ((d, o) :: rest)) (hap : ∀ p ∈ rest, p.1 ≠ d) (hd : o.IsDictOf (PySem.strKind prog w) kvs) (hf : PyProof.V.FlatPairs PyData.str kvs (kdpD c)) (hc : c.length ≤ 16777216)
    (h : ∀ h' o' kvs', Fr h₀ L h' m → News h₀ L h' ((d, o') :: rest) → o'.IsDictOf (PySem.strKind prog w) kvs' → PyProof.V.FlatPairs PyData.str kvs' (kdpD (kdpPut c k e)) → Q () { s with heap := h', toks := s.toks + 1 }) :
    wpAny (model prog w) A (setItem (.ref d) (.str k tk) (.int e te)) Q E s :=
  setItem_made PyProof.V.same_str (strKind_is _ _ _ _) (PyProof.V.Flat.int e te) F N hap hd hf (fun h' o' F' N' a b => h h' o' _ F' N' a (by rw [← kdpD_put]; exact b)) (by rw [kdpD_length, sizeLine_eq]; exact hc)
end
section
local macro_rules | `(tactic| walk_at "mine pad 0") => `(tactic| fail "pad")
local macro_rules | `(tactic| walk_at "mine pad 1") => `(tactic| fail "pad")
local macro_rules | `(tactic| walk_at "mine pad 2") => `(tactic| fail "pad")
local macro_rules | `(tactic| walk_at "mine pad 3") => `(tactic| fail "pad")
local macro_rules | `(tactic| walk_at "setItem ref str") => `(tactic| (k_here; (with_reducible show wpAny _ _ (setItem (Value.ref _) (Value.str _ _) (Value.int _ _)) _ _ _); k_dflt (refine' setK ?sF ?sN ?sU ?sd ?sf ?sz ?_; (case sF => k_asm); (case sN => k_asm); (case sU => assumption); (case sd => k_asm); (case sf => k_asm); (case sz => omega)); intro h' o' kvs' F' N' hd' hf'; (try dsimp only at N')))
local macro_rules | `(tactic| walk_at "call ref") => `(tactic| (k_here; (with_reducible show wpAny _ _ (call (Value.ref 57) _) _ _ _); k_dflt (refine' strip_txt2 _ _ _ _ _ _ ?kp0L1 ?kp1L1 ?kp2L1 _ _ _ _ _ _ _ _ _ _ _ _ _ _ _ _ _ ?k1L1 ?k2L1 ?k3L1 ?k4L1 ?k5L1 ?kKL1 ?kdL1 ?kuL1 ?kRL1; (case kp0L1 => assumption); (case kp1L1 => assumption); (case kp2L1 => assumption); (case k1L1 => k_asm); (case k2L1 => k_asm); (case k3L1 => k_asm); (case k4L1 => k_asm); (case k5L1 => k_asm); (case kKL1 => first | exact rfl | assumption); (case kdL1 => ktr_room); (case kuL1 => ktr_units); intro t9 h9 tk9 F9 N9; (try dsimp only); (try k_fold))))
local macro_rules | `(tactic| walk_at "call ref") => `(tactic| (k_here; (with_reducible show wpAny _ _ (call (Value.ref 57) _) _ _ _); k_dflt (refine' strip_mirror _ _ _ _ _ _ ?kp1L2 ?kp2L2 _ _ _ _ _ _ _ _ _ _ _ _ _ _ _ _ _ ?k1L2 ?k2L2 ?k3L2 ?k4L2 ?k5L2 ?kKL2 ?kdL2 ?kuL2 ?kRL2; (case kp1L2 => assumption); (case kp2L2 => assumption); (case k1L2 => k_asm); (case k2L2 => k_asm); (case k3L2 => k_asm); (case k4L2 => k_asm); (case k5L2 => k_asm); (case kKL2 => first | exact rfl | assumption); (case kdL2 => ktr_room); (case kuL2 => ktr_units); intro t9 h9 tk9 F9 N9; (try dsimp only); (try k_fold))))
local macro_rules | `(tactic| walk_at "call ref") => `(tactic| (k_here; (with_reducible show wpAny _ _ (call (Value.ref 97) _) _ _ _); k_dflt (refine' rest_txt _ _ _ _ _ _ ?kp1L3 ?kp2L3 _ _ _ _ _ _ _ _ _ _ _ _ _ _ _ _ _ ?k1L3 ?k2L3 ?k3L3 ?k4L3 ?k5L3 ?kKL3 ?kdL3 ?kuL3 ?kRL3; (case kp1L3 => assumption); (case kp2L3 => assumption); (case k1L3 => k_asm); (case k2L3 => k_asm); (case k3L3 => k_asm); (case k4L3 => k_asm); (case k5L3 => k_asm); (case kKL3 => first | exact rfl | assumption); (case kdL3 => ktr_room); (case kuL3 => ktr_units); intro t9 h9 tk9 F9 N9; (try dsimp only); (try k_fold))))
local macro_rules | `(tactic| walk_at "call ref") => `(tactic| (k_here; (with_reducible show wpAny _ _ (call (Value.ref 97) _) _ _ _); k_dflt (refine' rest_mirror2 _ _ _ _ _ _ ?kp0L4 ?kp1L4 ?kp2L4 _ _ _ _ _ _ _ _ _ _ _ _ _ _ _ _ _ ?k1L4 ?k2L4 ?k3L4 ?k4L4 ?k5L4 ?kKL4 ?kdL4 ?kuL4 ?kRL4; (case kp0L4 => assumption); (case kp1L4 => assumption); (case kp2L4 => assumption); (case k1L4 => k_asm); (case k2L4 => k_asm); (case k3L4 => k_asm); (case k4L4 => k_asm); (case k5L4 => k_asm); (case kKL4 => first | exact rfl | assumption); (case kdL4 => ktr_room); (case kuL4 => ktr_units); intro t9 h9 tk9 F9 N9; (try dsimp only); (try k_fold))))
local macro_rules | `(tactic| walk_at "call ref") => `(tactic| (k_here; (with_reducible show wpAny _ _ (call (Value.ref 90) _) _ _ _); k_dflt (refine' coins_ap _ _ _ _ _ _ ?kp1L5 _ _ _ _ _ _ _ _ _ _ _ _ _ _ _ _ _ ?k1L5 ?k2L5 ?k3L5 ?k4L5 ?k5L5 ?kKL5 ?kdL5 ?kuL5 ?kRL5; (case kp1L5 => assumption); (case k1L5 => k_asm); (case k2L5 => k_asm); (case k3L5 => k_asm); (case k4L5 => k_asm); (case k5L5 => k_asm); (case kKL5 => first | exact rfl | assumption); (case kdL5 => ktr_room); (case kuL5 => ktr_units); intro t9 h9 tk9 F9 N9; (try dsimp only); (try k_fold))))
set_option maxHeartbeats 8000000 in
theorem c_played_cons (w : World) (mean mg mb) (top l l' : List Nat) (n n' : Nat) (hT : OkH top) (htl : top.length ≤ 6) (hi : n :: l <:+: top) (hs : n :: l = l' ++ [n']) : CtP (3 + l.length) w mean mg mb top l → CtP (3 + l.length) w mean mg mb top l' → CtP (3 + (l.length + 1)) w mean mg mb top (n :: l) := by
  intro IH1 IH2
  dsimp only [CtP]
  intros
  rename_i hD hInv hne hsys hret
  have cbI : CbIn 104 := CbIn.mk
  have hO : OkH (n :: l) := infix_ok hT hi
  have hO' : OkH (l' ++ [n']) := hs ▸ hO
  have hlen : l.length + 1 ≤ 6 := Nat.le_trans hi.length_le htl
  have hll : l'.length = l.length := by
    have := congrArg List.length hs
    simp at this
    omega
  have hl6 : l.length ≤ 6 := by omega
  have hl6' : l'.length ≤ 6 := by omega
  have hOn := (ok_cons hO).1
  have hOn' := (ok_snoc hO').1
  have tA := txt_ascii hO
  have tP := txt_pos hO (by simp)
  have tL : (txt (n :: l)).length ≤ 1000 := Nat.le_trans (txt_len hO) (by simp; omega)
  have q0 : (S (txt (n :: l)) == Str.ofString "") = false := by
    rw [empty_is]
    refine beq_false_of_ne fun q => ?_
    have := congrArg (fun x : Str => x.cps.size) q
    simp at this
    rw [this] at tP
    exact absurd tP (Nat.lt_irrefl 0)
  obtain ⟨kvs, hd1, hf1⟩ := hD
  refine wpS_call ?_
  k_dflt (refine' codeS_def ?k1 ?k2 ?k3 ?k4 ?k5 ?kA ?kF ?kK ?k6 ?k7 ?k8 ?k9 ?kB ?_ ?c2 ?c3 ?c4 ?c5; (case kA => exact rfl); (case kF => exact rfl); (case kK => assumption); (case k1 => k_asm); (case k2 => k_asm); (case k3 => k_asm); (case k4 => k_asm); (case k5 => k_asm); (case k6 => k_is); (case k7 => k_is); (case k8 => ktr_room); (case k9 => exact BindsTo.of_eq rfl); (case c5 => decide); (case kB => exact locs rfl); (case c2 => exact rfl); (case c3 => exact rfl); (case c4 => exact rfl); k_whole; intro g' L' h' FG' F' N' B' X' T' l1'; (try dsimp only); (try k_lift B'); (try k_fold))
  refine wpS_execs_cons ?_
  refine wpS_If ?_
  k_steps
  refine wpS_execs_nil ?_
  dsimp only
  refine wpS_execs_cons ?_
  refine wpS_If ?_
  k_steps
  · refine wpS_execs_nil ?_
    dsimp only
    refine wpS_execs_cons ?_
    refine wpS_Return_some ?_
    refine wpS_of_any ?_
    k_steps
    (rename kdpHas _ _ = true => hh)
    rw [hInv.look hT hi hh]
    exact hret _ _ _ _ _ (by assumption) (by assumption) ⟨_, hd1, hf1⟩ hInv (fun _ => hh) (fun _ h => h)
  · refine wpS_execs_cons ?_
    refine wpS_Assign_Name ?_
    refine wpS_Call ?_
    k_steps
    refine wpS_callWith_K (K := hd.heap_39 w.params) rfl (wpS_of_any ?_)
    k_steps
    k_dflt (refine' c_turned _ _ _ _ _ _ _ ?kp1_1 ?kp2_1 ?kp3_1 _ _ _ _ _ _ _ _ _ _ _ _ _ _ _ _ _ ?k1_1 ?k2_1 ?k3_1 ?k4_1 ?k5_1 ?kK_1 ?kd_1 ?ku_1 ?kR_1; (case k1_1 => k_asm); (case k2_1 => k_asm); (case k3_1 => k_asm); (case k4_1 => k_asm); (case k5_1 => k_asm); (case kK_1 => first | exact rfl | assumption); (case kd_1 => ktr_room); (case ku_1 => ktr_units); (case kp1_1 => assumption); (case kp2_1 => assumption); (case kp3_1 => assumption); intro t9 h9 tk9 F9 N9; (try dsimp only); (try k_fold))
    k_steps
    refine wpS_execs_cons ?_
    refine wpS_Assign_Name ?_
    refine wpS_Call ?_
    k_steps
    refine wpS_callWith_K (K := hd.heap_39 w.params) rfl ?_
    refine wpS_args_cons ?_
    refine wpS_Call ?_
    k_steps
    refine wpS_callWith_K (K := hd.heap_39 w.params) rfl (wpS_of_any ?_)
    k_steps
    have aA : ∀ c ∈ (apOf n).reverse, c < 128 := fun c hc => by have := ap_letters hOn c (List.mem_reverse.mp hc); omega
    have aP : 0 < (apOf n).reverse.length := by rw [List.length_reverse]; exact ap_pos hOn
    have aL : (apOf n).reverse.length ≤ 1000 := by rw [List.length_reverse]; exact Nat.le_trans (ap_two hOn) (by omega)
    k_dflt (refine' c_turned _ _ _ _ _ _ _ ?kp1_2 ?kp2_2 ?kp3_2 _ _ _ _ _ _ _ _ _ _ _ _ _ _ _ _ _ ?k1_2 ?k2_2 ?k3_2 ?k4_2 ?k5_2 ?kK_2 ?kd_2 ?ku_2 ?kR_2; (case k1_2 => k_asm); (case k2_2 => k_asm); (case k3_2 => k_asm); (case k4_2 => k_asm); (case k5_2 => k_asm); (case kK_2 => first | exact rfl | assumption); (case kd_2 => ktr_room); (case ku_2 => ktr_units); (case kp1_2 => assumption); (case kp2_2 => assumption); (case kp3_2 => assumption); intro t9 h9 tk9 F9 N9; (try dsimp only); (try k_fold))
    rw [List.reverse_reverse]
    refine wpS_args_nil ⟨?_, wpS_of_any ?_⟩
    · (rename Fr _ _ _ _ => fK)
      (rename (hd.heap_39 w.params).In _ => xK)
      exact xK.keeps fK.keep
    k_dflt (refine' coins_ap _ _ _ _ _ _ ?mp1 _ _ _ _ _ _ _ _ _ _ _ _ _ _ _ _ _ ?m1 ?m2 ?m3 ?m4 ?m5 ?mK ?md ?mu ?mR; (case mp1 => exact hOn); (case m1 => k_asm); (case m2 => k_asm); (case m3 => k_asm); (case m4 => k_asm); (case m5 => k_asm); (case mK => first | exact rfl | assumption); (case md => ktr_room); (case mu => ktr_units); intro t9 h9 tk9 F9 N9; (try dsimp only); (try k_fold))
    k_steps
    refine wpS_execs_cons (wpS_of_any ?_)
    k_steps
    refine wpS_execs_cons ?_
    refine wpS_Assign_Name ?_
    refine wpS_Call ?_
    k_steps
    refine wpS_callWith_K (K := hd.heap_39 w.params) rfl (wpS_of_any ?_)
    k_steps
    k_dflt (refine' IH1 _ _ _ _ _ _ _ _ _ _ _ _ _ _ _ _ _ _ _ _ _ _ ?k1_3 ?k2_3 ?k3_3 ?k4_3 ?k5_3 ?kK_3 ?kd_3 ?ku_3 ?kD_3 ?kI_3 ?kn_3 ?ks_3 ?kR_3; (case k1_3 => k_asm); (case k2_3 => k_asm); (case k3_3 => k_asm); (case k4_3 => k_asm); (case k5_3 => k_asm); (case kK_3 => first | exact rfl | assumption); (case kd_3 => ktr_room); (case ku_3 => ktr_units); (case kI_3 => exact hInv); (case kD_3 => exact ⟨_, hd1, hf1⟩); (case kn_3 => exact hne); (case ks_3 => exact hsys); intro t9 h9 tk9 o1 c1 F9 N9 Dc1 Ic1 hasc1 monoc1; (try dsimp only); (try k_fold))
    obtain ⟨kvs1, hd2, hf2⟩ := Dc1
    clear hd1 hf1
    k_steps
    refine wpS_execs_cons (wpS_of_any ?_)
    k_steps
    refine wpS_execs_cons ?_
    refine wpS_Assign_Name ?_
    refine wpS_IfExp ?_
    k_steps
    · refine wpS_Call ?_
      k_steps
      refine wpS_callWith_K (K := hd.heap_39 w.params) rfl ?_
      refine wpS_args_cons ?_
      refine wpS_Call ?_
      k_steps
      refine wpS_callWith_K (K := hd.heap_39 w.params) rfl (wpS_of_any ?_)
      k_steps
      have bA : ∀ c ∈ (txt l').reverse, c < 128 := fun c hc => txt_ascii (ok_snoc hO').2 c (List.mem_reverse.mp hc)
      have bL : (txt l').reverse.length ≤ 1000 := by rw [List.length_reverse]; exact Nat.le_trans (txt_len (ok_snoc hO').2) (by omega)
      (rename (_ != _) = true => hne9)
      have bN : l' ≠ [] := fun e => by rw [e] at hne9; exact absurd hne9 (by decide +kernel)
      have bP : 0 < (txt l').reverse.length := by rw [List.length_reverse]; exact txt_pos (ok_snoc hO').2 bN
      k_dflt (refine' c_turned _ _ _ _ _ _ _ ?kp1_7 ?kp2_7 ?kp3_7 _ _ _ _ _ _ _ _ _ _ _ _ _ _ _ _ _ ?k1_7 ?k2_7 ?k3_7 ?k4_7 ?k5_7 ?kK_7 ?kd_7 ?ku_7 ?kR_7; (case k1_7 => k_asm); (case k2_7 => k_asm); (case k3_7 => k_asm); (case k4_7 => k_asm); (case k5_7 => k_asm); (case kK_7 => first | exact rfl | assumption); (case kd_7 => ktr_room); (case ku_7 => ktr_units); (case kp1_7 => assumption); (case kp2_7 => assumption); (case kp3_7 => assumption); intro t9 h9 tk9 F9 N9; (try dsimp only); (try k_fold))
      rw [List.reverse_reverse]
      refine wpS_of_any ?_
      k_steps
      k_dflt (refine' IH2 _ _ _ _ _ _ _ _ _ _ _ _ _ _ _ _ _ _ _ _ _ _ ?k1_8 ?k2_8 ?k3_8 ?k4_8 ?k5_8 ?kK_8 ?kd_8 ?ku_8 ?kD_8 ?kI_8 ?kn_8 ?ks_8 ?kR_8; (case k1_8 => k_asm); (case k2_8 => k_asm); (case k3_8 => k_asm); (case k4_8 => k_asm); (case k5_8 => k_asm); (case kK_8 => first | exact rfl | assumption); (case kd_8 => ktr_room); (case ku_8 => ktr_units); (case kI_8 => exact Ic1); (case kD_8 => exact ⟨_, hd2, hf2⟩); (case kn_8 => exact hne); (case ks_8 => exact hsys); intro t9 h9 tk9 o2 c2 F9 N9 Dc2 Ic2 hasc2 monoc2; (try dsimp only); (try k_fold))
      obtain ⟨kvs2, hd3, hf3⟩ := Dc2
      have len2 : c2.length ≤ 49 := Ic2.len htl
      clear hd2 hf2
      k_steps
      refine wpS_execs_cons (wpS_of_any ?_)
      k_steps
      refine wpS_execs_nil ?_
      dsimp only
      refine wpS_execs_cons ?_
      refine wpS_Return_some ?_
      refine wpS_of_any ?_
      k_steps
      have ev : (if (n' : Int) - pl l' > (n : Int) - pl l then (n' : Int) - pl l' else (n : Int) - pl l) = pl (n :: l) := by
        rw [pl_split hs]
        split <;> omega
      (rename Fr _ _ _ _ => kF9)
      (rename News _ _ _ _ => kN9)
      (rename PyProof.V.FlatPairs _ _ _ => kf9)
      rw [ev] at kf9 ⊢
      have dl : (n :: l).dropLast = l' := by rw [hs, List.dropLast_concat]
      obtain ⟨i3, h3, m3⟩ := Inv.kdpPut Ic2 hT (List.cons_ne_nil n l) hi (fun z => monoc2 _ (hasc1 z)) (fun z => by rw [dl]; exact hasc2 bN)
      rw [i3.look hT hi h3]
      exact hret _ _ _ _ _ kF9 kN9 ⟨_, by assumption, kf9⟩ i3 (fun _ => h3) (fun k h => m3 k (monoc2 k (monoc1 k h)))
    · refine wpS_of_any ?_
      (rename (_ != _) = false => hne9)
      have bE : l' = [] := by
        cases l' with
        | nil => rfl
        | cons x r =>
          have p9 := txt_pos (ok_snoc hO').2 (by simp)
          rw [empty_is, bne_eq_false_iff_eq] at hne9
          have := congrArg (fun x : Str => x.cps.size) hne9
          simp at this
          rw [this] at p9
          exact absurd p9 (Nat.lt_irrefl 0)
      have len2 : c1.length ≤ 49 := Ic1.len htl
      k_steps
      refine wpS_execs_cons (wpS_of_any ?_)
      k_steps
      refine wpS_execs_nil ?_
      dsimp only
      refine wpS_execs_cons ?_
      refine wpS_Return_some ?_
      refine wpS_of_any ?_
      k_steps
      have ev : (if (n' : Int) - 0 > (n : Int) - pl l then (n' : Int) - 0 else (n : Int) - pl l) = pl (n :: l) := by
        rw [pl_split hs]
        rw [bE, show pl [] = 0 from play_nil]
        split <;> omega
      (rename Fr _ _ _ _ => kF9)
      (rename News _ _ _ _ => kN9)
      (rename PyProof.V.FlatPairs _ _ _ => kf9)
      rw [ev] at kf9 ⊢
      have dl : (n :: l).dropLast = l' := by rw [hs, List.dropLast_concat]
      obtain ⟨i3, h3, m3⟩ := Inv.kdpPut Ic1 hT (List.cons_ne_nil n l) hi (fun z => hasc1 z) (fun z => absurd (dl.trans bE) z)
      rw [i3.look hT hi h3]
      exact hret _ _ _ _ _ kF9 kN9 ⟨_, by assumption, kf9⟩ i3 (fun _ => h3) (fun k h => m3 k (monoc1 k h))
end
theorem c_played (w : World) (mean mg mb) (top : List Nat) (hT : OkH top) (htl : top.length ≤ 6) : ∀ (k : Nat) (l : List Nat), l.length = k → l <:+: top → CtP (3 + k) w mean mg mb top l := by
  intro k
  induction k using Nat.strongRecOn with
  | _ k ih =>
    intro l hk hi
    cases l with
    | nil =>
      subst hk
      exact c_played_nil w mean mg mb top
    | cons n l =>
      obtain ⟨l', n', hs⟩ := snoc_of n l
      have hl' : l'.length = l.length := by
        have := congrArg List.length hs
        simp at this
        omega
      rw [List.length_cons] at hk
      subst hk
      refine c_played_cons w mean mg mb top l l' n n' hT htl hi hs (ih l.length (Nat.lt_succ_self _) l rfl ?_) (ih l.length (Nat.lt_succ_self _) l' hl' ?_)
      · exact tail_infix (l := n :: l) hi
      · have := init_infix (l := n :: l) hi
        rw [hs, List.dropLast_concat] at this
        exact this
end Mine
end

section
open PySem PySem.W PyProof.Rows
namespace Mine

structure Good (top : List Nat) (c : Tab) : Prop where
  good : ∀ k v, (k, v) ∈ c → ∃ l, l ≠ [] ∧ l <:+: top ∧ k = S (txt l) ∧ v = pl l
  nodup : (c.map (·.1)).Nodup
theorem Inv.toGood {top : List Nat} {c : Tab} (I : Inv top c) : Good top c := ⟨I.good, I.nodup⟩
theorem Good.len {top : List Nat} {c : Tab} (I : Good top c) (hl : top.length ≤ 6) : c.length ≤ 49 := by
  have := nodup_len (m := (cuts top).map fun l => S (txt l)) I.nodup fun k hk => by
    obtain ⟨⟨k, v⟩, hm, rfl⟩ := List.mem_map.mp hk
    obtain ⟨l, _, hi, e, _⟩ := I.good k v hm
    exact List.mem_map.mpr ⟨l, infix_cut hl hi, e.symm⟩
  simpa [cuts_len] using this
def putc (c : Tab) (l : List Nat) : Tab := kdpPut c (S (txt l)) (pl l)
theorem Good.put {top l : List Nat} {c : Tab} (I : Good top c) (ht : OkH top) (hn : l ≠ []) (hi : l <:+: top) :
    Good top (putc c l) ∧ Has (putc c l) l ∧ (∀ k, kdpHas c k = true → kdpHas (putc c l) k = true) := by
  unfold putc
  cases hh : kdpHas c (S (txt l)) with
  | true =>
    have e := put_same (c := c) (k := S (txt l)) (v := pl l) (fun x hx => by
      obtain ⟨l', _, hi', e, rfl⟩ := I.good _ _ hx
      rw [txt_inj (infix_ok ht hi) (infix_ok ht hi') e]) hh
    rw [e]
    exact ⟨I, hh, fun _ h => h⟩
  | false =>
    have e := put_new (c := c) (k := S (txt l)) (v := pl l) hh
    rw [e]
    refine ⟨⟨?_, ?_⟩, has_iff.mpr ⟨_, List.mem_append_right _ (List.mem_cons_self ..)⟩, fun k h => has_put h⟩
    · intro k v hm
      rcases List.mem_append.mp hm with hm | hm
      · exact I.good k v hm
      · obtain ⟨rfl, rfl⟩ := Prod.mk.inj (List.mem_singleton.mp hm)
        exact ⟨l, hn, hi, rfl, rfl⟩
    · rw [List.map_append, List.nodup_append]
      refine ⟨I.nodup, by simp, ?_⟩
      intro a ha b hb e
      obtain ⟨⟨k, v⟩, hm, rfl⟩ := List.mem_map.mp ha
      rw [List.map_cons, List.map_nil, List.mem_singleton] at hb
      subst hb
      have e' : k = S (txt l) := e
      have : kdpHas c (S (txt l)) = true := has_iff.mpr ⟨v, e' ▸ hm⟩
      rw [hh] at this
      cases this
def cut (ns : List Nat) (i j : Int) : List Nat := (ns.drop i.toNat).take (j - i).toNat
def gj (ns : List Nat) (i : Int) (c : Tab) (j : Int) : Tab := putc c (cut ns i j)
def gi (ns : List Nat) (c : Tab) (i : Int) : Tab := (rangeKs (i + 1) (ns.length - i.toNat)).foldl (gj ns i) c
theorem cut_infix (ns : List Nat) (i j : Int) : cut ns i j <:+: ns := (List.take_prefix _ _).isInfix.trans (List.drop_suffix _ _).isInfix
theorem cut_ne {ns : List Nat} {i j : Int} (h0 : 0 ≤ i) (h1 : i < j) (h2 : j ≤ ns.length) : cut ns i j ≠ [] := by
  intro e
  have := congrArg List.length e
  simp only [cut, List.length_take, List.length_drop, List.length_nil] at this
  omega
theorem infix_is_cut {ns l : List Nat} (h : l <:+: ns) (hn : l ≠ []) : ∃ i j : Nat, i < j ∧ j ≤ ns.length ∧ l = cut ns i j := by
  obtain ⟨a, b, rfl⟩ := h
  have hp : 0 < l.length := List.length_pos_iff.mpr hn
  refine ⟨a.length, a.length + l.length, by omega, by simp, ?_⟩
  unfold cut
  have e1 : ((a.length : Nat) : Int).toNat = a.length := by omega
  have e2 : (((a.length + l.length : Nat) : Int) - ((a.length : Nat) : Int)).toNat = l.length := by omega
  rw [e1, e2, List.append_assoc, List.drop_left, List.take_left]
/-- what a fold of puts brings -/
theorem fold_put {top : List Nat} (ht : OkH top) (f : Int → List Nat) : ∀ (ks : List Int) (c : Tab), Good top c → (∀ k ∈ ks, f k ≠ [] ∧ f k <:+: top) →
    Good top (ks.foldl (fun c k => putc c (f k)) c) ∧ (∀ k ∈ ks, Has (ks.foldl (fun c k => putc c (f k)) c) (f k)) ∧ (∀ k, kdpHas c k = true → kdpHas (ks.foldl (fun c k => putc c (f k)) c) k = true)
  | [], c, I, _ => ⟨I, fun _ h => (nomatch h), fun _ h => h⟩
  | k :: ks, c, I, h => by
    obtain ⟨h1, h2⟩ := h k (List.mem_cons_self ..)
    obtain ⟨i1, g1, m1⟩ := I.put ht h1 h2
    obtain ⟨i2, g2, m2⟩ := fold_put ht f ks (putc c (f k)) i1 (fun x hx => h x (List.mem_cons_of_mem _ hx))
    refine ⟨i2, ?_, fun x hx => m2 x (m1 x hx)⟩
    intro x hx
    rcases List.mem_cons.mp hx with rfl | hx
    · exact m2 _ g1
    · exact g2 x hx
theorem gi_good {ns : List Nat} (ht : OkH ns) {i : Int} (h0 : 0 ≤ i) (h1 : i < ns.length) {c : Tab} (I : Good ns c) :
    Good ns (gi ns c i) ∧ (∀ j, i < j → j ≤ ns.length → Has (gi ns c i) (cut ns i j)) ∧ (∀ k, kdpHas c k = true → kdpHas (gi ns c i) k = true) := by
  obtain ⟨a, b, d⟩ := fold_put ht (cut ns i) (rangeKs (i + 1) (ns.length - i.toNat)) c I (fun k hk => by
    obtain ⟨k1, k2⟩ := mem_rangeKs hk
    exact ⟨cut_ne h0 (by omega) (by omega), cut_infix _ _ _⟩)
  refine ⟨a, fun j j1 j2 => b j ?_, d⟩
  unfold rangeKs
  exact List.mem_map.mpr ⟨(j - (i + 1)).toNat, List.mem_range.mpr (by omega), by omega⟩
theorem fold_gi {ns : List Nat} (ht : OkH ns) : ∀ (ks : List Int) (c : Tab), Good ns c → (∀ k ∈ ks, 0 ≤ k ∧ k < ns.length) →
    Good ns (ks.foldl (gi ns) c) ∧ (∀ k ∈ ks, ∀ j, k < j → j ≤ ns.length → Has (ks.foldl (gi ns) c) (cut ns k j)) ∧ (∀ k, kdpHas c k = true → kdpHas (ks.foldl (gi ns) c) k = true)
  | [], c, I, _ => ⟨I, fun _ h => (nomatch h), fun _ h => h⟩
  | k :: ks, c, I, h => by
    obtain ⟨h1, h2⟩ := h k (List.mem_cons_self ..)
    obtain ⟨i1, g1, m1⟩ := gi_good ht h1 h2 I
    obtain ⟨i2, g2, m2⟩ := fold_gi ht ks (gi ns c k) i1 (fun x hx => h x (List.mem_cons_of_mem _ hx))
    refine ⟨i2, ?_, fun x hx => m2 x (m1 x hx)⟩
    intro x hx j j1 j2
    rcases List.mem_cons.mp hx with rfl | hx
    · exact m2 _ (g1 j j1 j2)
    · exact g2 x hx j j1 j2
structure Full (top : List Nat) (c : Tab) : Prop extends Good top c where
  full : ∀ l, l ≠ [] → l <:+: top → Has c l
theorem due_full {ns : List Nat} (ht : OkH ns) : Full ns ((rangeKs 0 ns.length).foldl (gi ns) []) := by
  obtain ⟨a, b, _⟩ := fold_gi ht (rangeKs 0 ns.length) [] ⟨fun _ _ h => (nomatch h), .nil⟩ (fun k hk => by obtain ⟨k1, k2⟩ := mem_rangeKs hk; omega)
  refine ⟨a, fun l hn hi => ?_⟩
  obtain ⟨i, j, h1, h2, rfl⟩ := infix_is_cut hi hn
  refine b i ?_ j (by omega) (by omega)
  unfold rangeKs
  exact List.mem_map.mpr ⟨i, List.mem_range.mpr (by omega), by omega⟩
/-- what the game's table holds -/
theorem Inv.full {top : List Nat} {c : Tab} (I : Inv top c) (h : top ≠ [] → Has c top) : Full top c := by
  refine ⟨I.toGood, ?_⟩
  have left : ∀ (k : Nat) (l : List Nat), l.length = k → ∀ x, x ≠ [] → x <:+: l → l <:+: top → Has c l → Has c x := by
    intro k
    induction k with
    | zero =>
      intro l hl x hx hi _ _
      have := hi.length_le
      exact absurd (List.length_eq_zero_iff.mp (by omega)) hx
    | succ k ih =>
      intro l hl x hx hi hit hh
      by_cases e : x = l
      · rw [e]; exact hh
      · have hln : l ≠ [] := by intro e0; subst e0; simp at hl
        obtain ⟨c1, c2⟩ := I.closed l hln hit hh
        obtain ⟨a, b, rfl⟩ := hi
        cases a with
        | cons y a =>
          have ht : (y :: a ++ x ++ b).tail = a ++ x ++ b := rfl
          rw [ht] at c1
          have hne : a ++ x ++ b ≠ [] := by intro e0; simp at e0; exact hx e0.2.1
          exact ih (a ++ x ++ b) (by simp at hl ⊢; omega) x hx ⟨a, b, rfl⟩ (by have := tail_infix hit; rw [ht] at this; exact this) (c1 hne)
        | nil =>
          rcases List.eq_nil_or_concat b with rfl | ⟨b', z, hz⟩
          · simp at e
          · rw [List.concat_eq_append] at hz
            subst hz
            have hd : ([] ++ x ++ (b' ++ [z])).dropLast = x ++ b' := by
              rw [List.nil_append, ← List.append_assoc, List.dropLast_concat]
            rw [hd] at c2
            have hne : x ++ b' ≠ [] := by intro e0; simp at e0; exact hx e0.1
            exact ih (x ++ b') (by simp at hl ⊢; omega) x hx ⟨[], b', rfl⟩ (by have := init_infix hit; rw [hd] at this; exact this) (c2 hne)
  intro l hn hi
  have ht : top ≠ [] := by
    intro e
    subst e
    exact hn (List.eq_nil_of_infix_nil hi)
  exact left top.length top rfl l hn hi (List.infix_refl _) (h ht)
end Mine
end

section
open PySem PySem.W PyProof.Rows
namespace Mine
theorem strs_run {vs : List Value} {ss : List Str} {x y : Int} (hi' : StrsAre vs ss) (h : 0 ≤ x) (h1 : x ≤ y) (h2 : y ≤ ss.length) : StrsAre (slicePick vs.toArray (some x) (some y) none).toList ((ss.drop x.toNat).take (y - x).toNat) := by
  have hl := hi'.len_eq
  have e : sliceBounds (some x) (some y) none vs.toArray.size = (((x.toNat : Nat) : Int), ((y.toNat : Nat) : Int), 1) := by
    simp only [sliceBounds, Option.getD_none, show (1 : Int) > 0 by decide, if_true, if_neg (show ¬ (x < 0) by omega), if_neg (show ¬ (y < 0) by omega), List.size_toArray]
    congr 1
    · omega
    · congr 1
      omega
  rw [kmk_pick_nat _ e, show (y - x).toNat = y.toNat - x.toNat by omega]
  exact (hi'.drop' _).take' _
theorem join_S : ∀ ls : List (List Nat), Txt.join (S [46]) (ls.map S) = S (joinL ls) := by
  intro ls
  unfold Txt.join
  rw [StrLaws.glued_eq_join]
  induction ls with
  | nil => rfl
  | cons l r ih =>
    cases r with
    | nil => rfl
    | cons b r =>
      rw [joinL_cons l (by simp)]
      show S l ++ S [46] ++ Str.join (S [46]) ((b :: r).map S) = _
      rw [ih, S_app, S_app]
      simp
theorem cut_map {α : Type} (f : Nat → α) (ns : List Nat) (i j : Int) : ((ns.map f).drop i.toNat).take (j - i).toNat = (cut ns i j).map f := by
  unfold cut
  rw [List.map_take, List.map_drop]
theorem ints_cut {ns : List Nat} {i j : Int} (h0 : 0 ≤ i) (h2 : j ≤ ns.length) : ((ns.map fun (n : Nat) => (n : Int)).drop i.toNat).take (min j.toNat (ns.map fun (n : Nat) => (n : Int)).length - i.toNat) = (cut ns i j).map fun (n : Nat) => (n : Int) := by
  rw [List.length_map, show min j.toNat ns.length - i.toNat = (j - i).toNat by omega]
  exact cut_map _ _ _ _
theorem join_cut (ns : List Nat) (i j : Int) : Txt.join (Str.ofString ".") (((ns.map fun n => S (apOf n)).drop i.toNat).take (j - i).toNat) = S (txt (cut ns i j)) := by
  have e : (cut ns i j).map (fun n => S (apOf n)) = ((cut ns i j).map apOf).map S := by rw [List.map_map]; rfl
  rw [cut_map, show Str.ofString "." = S [46] from dot_is, e]
  exact join_S _
theorem weigh_cut {ns : List Nat} (hT : OkH ns) (hl : ns.length ≤ 6) (i j : Int) : ((((ns.map fun n => S (apOf n)).drop i.toNat).take (j - i).toNat).map (·.length)).sum + (((ns.map fun n => S (apOf n)).drop i.toNat).take (j - i).toNat).length ≤ 1048576 := by
  have b : ∀ (xs : List Str), (∀ x ∈ xs, x.length ≤ 2) → (xs.map (·.length)).sum ≤ 2 * xs.length := by
    intro xs
    induction xs with
    | nil => intro _; exact Nat.le_refl _
    | cons x xs ih =>
      intro h
      have h1 := h x (List.mem_cons_self ..)
      have h2 := ih fun y hy => h y (List.mem_cons_of_mem _ hy)
      simp only [List.map_cons, List.sum_cons, List.length_cons]
      omega
  have h2 := b (((ns.map fun n => S (apOf n)).drop i.toNat).take (j - i).toNat) (fun x hx => by
    have hx' := List.mem_of_mem_drop (List.mem_of_mem_take hx)
    obtain ⟨n, hn, rfl⟩ := List.mem_map.mp hx'
    rw [S_len]
    exact ap_two (hT n hn))
  have h3 : (((ns.map fun n => S (apOf n)).drop i.toNat).take (j - i).toNat).length ≤ 6 := by
    rw [List.length_take, List.length_drop, List.length_map]
    omega
  omega
end Mine
end

section
open PySem PySem.W PyProof.Rows
namespace Mine
set_option maxRecDepth 100000

section
variable {prog : Program} {w : World} {A : Around} {E : Value → Shared → Prop} {s : Shared} {env : Env} {h₀ : Heap} {x : Str} {body : List Stmt} {Q : Flow → Shared → Prop}
theorem range_accR {σ : Type} {r : Addr} {a₀ b₀ : Int} {t₀ u₀ v₀ : Tok} {n : Nat} {m₀ : Str → Option Value} {pre post : List (Addr × Obj)} {d : Addr} {o₀ : Obj} (y : Str) (P : σ → Prop) (Rel : σ → Obj → Prop) (g : σ → Int → σ) (c₀ : σ)
    (hh : A.handled = none) (hr : IsRange s.heap r a₀ b₀ 1 t₀ u₀ v₀) (hsmall : Builtin.Range.small a₀ b₀ 1 = true) (hn : Builtin.Range.rangeSize a₀ b₀ 1 = (n : Int)) (F : Fr h₀ env.locals s.heap m₀) (N : News h₀ env.locals s.heap (pre ++ (d, o₀) :: post)) (h0 : P c₀) (hr0 : Rel c₀ o₀)
    (turn : ∀ k t a o (u : Str → Option Value) h tk own, a₀ ≤ k → k < a₀ + (n : Int) → P a → Rel a o → OwnOff own (pre.map (·.1) ++ d :: post.map (·.1)) → Fr h₀ env.locals h (fun z => if z = x then some (.int k t) else if z = y then u z else m₀ z) → News h₀ env.locals h (pre ++ (d, o) :: (post ++ own)) →
      wpAny (model prog w) A (execs body env) (InvPostN h₀ env.locals (fun m' nx => P (g a k) ∧ (∃ o', Rel (g a k) o' ∧ nx = pre ++ (d, o') :: post) ∧ ∀ z, z ≠ x → z ≠ y → m' z = m₀ z) own (pre.map (·.1) ++ d :: post.map (·.1)) { s with heap := h, toks := tk } Q) E { s with heap := h, toks := tk })
    (done : ∀ (u : Str → Option Value) o h tk, Fr h₀ env.locals h (fun z => if z = x then u z else if z = y then u z else m₀ z) → News h₀ env.locals h (pre ++ (d, o) :: post) → P ((rangeKs a₀ n).foldl g c₀) → Rel ((rangeKs a₀ n).foldl g c₀) o → Q .next { s with heap := h, toks := tk }) :
    wpAny (model prog w) A (pyIter (.ref r)) (fun it s₂ => LoopAtV prog w A h₀ env x body Q E it s₂) E s := by
  have adr : ∀ o : Obj, (pre ++ (d, o) :: post).map (·.1) = pre.map (·.1) ++ d :: post.map (·.1) := fun o => by rw [List.map_append, List.map_cons]
  refine iter_rangeS (fun a m nx => P a ∧ (∃ o, Rel a o ∧ nx = pre ++ (d, o) :: post) ∧ ∀ z, z ≠ x → z ≠ y → m z = m₀ z) g c₀ hh hr hsmall hn F N ⟨h0, ⟨o₀, hr0, rfl⟩, fun _ _ _ => rfl⟩ ?_ ?_
  · rintro k t a m₁ nx h tk own hk hoff ⟨hP, ⟨o, hRo, rfl⟩, hm⟩ F₁ N₁
    have e : (fun z => if z = x then some (Value.int k t) else m₁ z) = fun z => if z = x then some (Value.int k t) else if z = y then m₁ z else m₀ z := by
      funext z
      by_cases h1 : z = x
      · simp [h1]
      · simp only [if_neg h1]
        by_cases h2 : z = y
        · simp [h2]
        · simp only [if_neg h2]; exact hm z h1 h2
    rw [e] at F₁
    rw [adr] at hoff ⊢
    rw [List.append_assoc, List.cons_append] at N₁
    exact turn k t a o m₁ h tk own (mem_rangeKs hk).1 (mem_rangeKs hk).2 hP hRo hoff F₁ N₁
  · rintro m₁ nx h tk ⟨hP, ⟨o, hRo, rfl⟩, hm⟩ F₁ N₁
    refine done m₁ o h tk ?_ N₁ hP hRo
    have e : (fun z => if z = x then m₁ z else if z = y then m₁ z else m₀ z) = m₁ := by
      funext z
      by_cases h1 : z = x
      · simp [h1]
      · simp only [if_neg h1]
        by_cases h2 : z = y
        · simp [h2]
        · simp only [if_neg h2]; exact (hm z h1 h2).symm
    rw [e]; exact F₁
end

abbrev CtD (k : Nat) (w : World) (mean : ExcName → Option Value) (mg mb : Str → Option Value) (ns : List Nat) (news : List (Addr × Obj)) (ln lh : Addr) : Prop :=
  ∀ (dp un : Nat) (gd : Option (List Code)) (cn : Str) (cs : Scope) (a : Addr) (ccd : Value) (cl : List (Str × Addr)) (outer : List Env) (A₀ : Around) (base h₀ : Heap) (L : Addr) (m : Str → Option Value) (s : Shared) (Q E : Value → Shared → Prop),
    Below A₀ base outer h₀ → Fr h₀ L s.heap m → (hd.heap_39 w.params).In h₀ → News h₀ L s.heap news → LTop mean mg mb h₀ → cs.kind = .function → dp + k < recursionLimit → un + 10 * k < cLine →
    (∀ (d : Addr) (o : Obj) (c : Tab) (h' : Heap) (tk' : Nat), Fr h₀ L h' m → News h₀ L h' ((d, o) :: news) → (d == sysModules) = false → Dct w o c → Full ns c → Q (.ref d) { s with heap := h', toks := tk' }) →
    wpAny (LM w) (ktrTop dp un gd cn cs L a ccd cl outer) (call (.ref 118) [.ref ln, .ref lh]) Q E s

theorem small_gen {a b : Int} (ha : 0 ≤ a) (ha' : a ≤ 1000) (hb : 0 ≤ b) (hb' : b ≤ 1000) : Builtin.Range.small a b 1 = true := by
  unfold Builtin.Range.small
  rw [rangeSize_nat]
  simp [Builtin.Range.rangeFitsLong]
  omega
section
local macro_rules | `(tactic| walk_at "mine pad 0") => `(tactic| fail "pad")
local macro_rules | `(tactic| walk_at "mine pad 1") => `(tactic| fail "pad")
local macro_rules | `(tactic| walk_at "mine pad 2") => `(tactic| fail "pad")
local macro_rules | `(tactic| walk_at "mine pad 3") => `(tactic| fail "pad")
local macro_rules | `(tactic| walk_at "mine pad 4") => `(tactic| fail "pad")
local macro_rules | `(tactic| walk_at "mine pad 5") => `(tactic| fail "pad")
local macro_rules | `(tactic| walk_at "mine pad 6") => `(tactic| fail "pad")
local macro_rules | `(tactic| walk_at "mine pad 7") => `(tactic| fail "pad")
local macro_rules | `(tactic| walk_at "mine pad 8") => `(tactic| fail "pad")
local macro_rules | `(tactic| walk_at "call ref") => `(tactic| (k_here; (with_reducible show wpAny _ _ (call (Value.ref 111) _) _ _ _); k_dflt (refine' c_told _ _ _ _ _ _ _ _ _ ?kIL9 ?kNL9 _ _ _ _ _ _ _ _ _ _ _ _ _ _ _ _ _ ?k1L9 ?k2L9 ?k3L9 ?k4L9 ?k5L9 ?kKL9 ?kdL9 ?kuL9 ?kRL9; (case k1L9 => k_asm); (case k2L9 => k_asm); (case k3L9 => k_asm); (case k4L9 => k_asm); (case k5L9 => k_asm); (case kKL9 => first | exact rfl | assumption); (case kdL9 => ktr_room); (case kuL9 => ktr_units); (case kIL9 => assumption); (case kNL9 => (refine Nat.le_trans (by assumption) ?_; rw [List.length_map]; assumption)); intro t9 h9 tk9 F9 N9; (try dsimp only); (try k_fold))))
local macro_rules | `(tactic| walk_at "call builtin:str.join") => `(tactic| (k_here; (with_reducible show wpAny _ _ (call (Value.builtin "str.join") [Value.str _ _, Value.ref _]) _ _ _); (rename News _ _ _ _ => nJ9); (rename StrsAre _ _ => sJ9); k_dflt (refine' join_listW (News.isList nJ9 (List.Mem.head _)) (strs_run sJ9 ?j1 ?j2 ?j3) ?j4 ?j5 ?_); (case j1 => omega); (case j2 => omega); (case j3 => (rw [List.length_map]; omega)); (case j4 => decide); (case j5 => exact weigh_cut (by assumption) (by assumption) _ _); intro _ _; rw [join_cut]))
set_option maxHeartbeats 8000000 in
theorem c_due (w : World) (mean mg mb) (ns : List Nat) (hT : OkH ns) (hlen : ns.length ≤ 6) (dk ln lh : Addr) (ok : Obj) (nvs hvs : List Value) (nn hn : Nat)
    (hI : IntsAre hvs (ns.map fun (n : Nat) => (n : Int))) (hS : StrsAre nvs (ns.map fun n => S (apOf n))) :
    CtD 2 w mean mg mb ns [(dk, ok), (ln, listOf nvs.toArray nn), (lh, listOf hvs.toArray hn)] ln lh := by
  dsimp only [CtD]
  intros
  rename_i hret
  have cbI : CbIn 118 := CbIn.mk
  refine wpAny_call ?_
  k_with_none
  k_dflt cell_enter
  iterate 20 (first | (k_unfold; (try dsimp only)) | walk1 | (dsimp only; walk1))
  dsimp only
  (with_reducible show wpAny _ _ (pyIter (Value.ref _)) (fun it s₂ => LoopAtV _ _ _ _ _ _ _ _ _ it s₂) _ _)
  (rename (_ : Nat) < _ ∧ (_ : Nat) < _ ∧ (_ : Nat) < _ => lD)
  (rename IsRange _ _ _ _ _ _ _ _ => hR1)
  (rename Fr _ _ _ _ => hF1)
  (rename News _ _ _ _ => hN1)
  refine' range_accR (n := ns.length) (pre := []) (Str.ofString "j") (fun c => Good ns c) (fun c o => Dct w o c) (gi ns) [] (by rfl) hR1 ?a1 ?a2 hF1 hN1 ?a3 ?a4 (fun k t c o u h tk own hk0 hk1 hP hRel hoff F₁ N₁ => ?_) (fun u o h tk F₁ N₁ hP hRel => ?_)
  case a1 => rw [List.length_map]; exact small_up (by omega)
  case a2 => rw [List.length_map]; exact size_up
  case a3 => exact ⟨fun _ _ h => (nomatch h), .nil⟩
  case a4 => exact ⟨_, by assumption, by assumption⟩
  all_goals clear hF1 hN1
  · obtain ⟨kvs, hd1, hf1⟩ := hRel
    simp only [List.nil_append, List.map_nil, List.cons_append] at N₁ hoff
    iterate 23 (first | (k_unfold; (try dsimp only)) | walk1 | (dsimp only; walk1))
    dsimp only
    (with_reducible show wpAny _ _ (pyIter (Value.ref _)) (fun it s₂ => LoopAtV _ _ _ _ _ _ _ _ _ it s₂) _ _)
    (rename IsRange _ _ _ _ _ _ _ _ => hR2)
    (rename Fr _ _ _ _ => hF2)
    (rename News _ _ _ _ => hN2)
    refine' range_accR (n := ns.length - k.toNat) (pre := []) (Str.ofString "j") (fun c => Good ns c) (fun c o => Dct w o c) (gj ns k) c (by rfl) hR2 ?b1 ?b2 hF2 hN2 ?b3 ?b4 (fun k2 t2 c2 o2 u2 h2 tk2 own2 hk20 hk21 hP2 hRel2 hoff2 F₂ N₂ => ?_) (fun u2 o2 h2 tk2 F₂ N₂ hP2 hRel2 => ?_)
    case b1 => rw [List.length_map]; exact small_gen (by omega) (by omega) (by omega) (by omega)
    case b2 => rw [List.length_map, rangeSize_nat]; omega
    case b3 => exact hP
    case b4 => exact ⟨_, by assumption, by assumption⟩
    all_goals clear hF2 hN2
    · obtain ⟨kvs2, hd2, hf2⟩ := hRel2
      simp only [List.nil_append, List.map_nil, List.cons_append] at N₂ hoff2
      k_steps
      have e9 : k2 ≤ ns.length := by omega
      rw [ints_cut (by omega) e9]
      (rename News _ _ _ _ => nJ9)
      (rename Fr _ _ _ _ => fJ9)
      have nP : News _ _ _ ((_, o2) :: ((dk, ok) :: (ln, listOf nvs.toArray nn) :: (lh, listOf hvs.toArray hn) :: (own ++ own2))) := fun p hp => nJ9 p (List.mem_cons_of_mem _ (List.mem_cons_of_mem _ hp))
      have len2 : c2.length ≤ 49 := hP2.len hlen
      refine setK fJ9 nP ?c1 hd2 hf2 (by omega) fun h3 o3 kvs3 F3 N3 hd3 hf3 => ?_
      case c1 =>
        intro p hp
        rcases List.mem_cons.mp hp with rfl | hp
        · exact Nat.ne_of_lt lD.1
        rcases List.mem_cons.mp hp with rfl | hp
        · exact Nat.ne_of_lt lD.2.1
        rcases List.mem_cons.mp hp with rfl | hp
        · exact Nat.ne_of_lt lD.2.2
        rcases List.mem_append.mp hp with hp | hp
        · exact hoff p hp _ (List.mem_cons_self ..)
        · exact hoff2 p hp _ (List.mem_cons_self ..)
      k_steps
      refine InvEndN.intro (nx := (_, o3) :: ((dk, ok) :: (ln, listOf nvs.toArray nn) :: (lh, listOf hvs.toArray hn) :: own)) F3 N3 ⟨?d1, ⟨o3, ⟨_, hd3, hf3⟩, rfl⟩, ?d2⟩ rfl ?d3 ?d4
      case d1 => exact (hP2.put hT (cut_ne (by omega) (by omega) e9) (cut_infix _ _ _)).1
      case d2 =>
        intro z z1 z2
        simp only [if_neg z1]
      case d3 =>
        intro p hp
        simp only [List.mem_cons, List.mem_append] at hp ⊢
        rcases hp with hp | hp | hp | hp | hp
        · exact .inl hp
        · exact .inr (.inl hp)
        · exact .inr (.inr (.inl hp))
        · exact .inr (.inr (.inr (.inl hp)))
        · exact .inr (.inr (.inr (.inr (.inl hp))))
      case d4 =>
        intro p hp
        simp only [List.mem_cons, List.mem_append]
        exact .inr (.inr (.inr (.inr (.inr hp))))
    · k_steps
      simp only [List.nil_append] at N₂
      refine InvEndN.intro (nx := (_, o2) :: ((dk, ok) :: (ln, listOf nvs.toArray nn) :: (lh, listOf hvs.toArray hn) :: [])) F₂ N₂ ⟨hP2, ⟨o2, hRel2, rfl⟩, ?f2⟩ rfl ?f3 ?f4
      case f2 =>
        intro z z1 z2
        simp only [if_neg z1, if_neg z2]
      case f3 =>
        intro p hp
        simp only [List.mem_cons, List.not_mem_nil, or_false] at hp ⊢
        rcases hp with hp | hp | hp | hp
        · exact .inl hp
        · exact .inr (.inl hp)
        · exact .inr (.inr (.inl hp))
        · exact .inr (.inr (.inr (.inl hp)))
      case f4 =>
        intro p hp
        simp only [List.mem_cons]
        exact .inr (.inr (.inr (.inr hp)))
  · simp only [List.nil_append] at N₁
    k_steps
    all_goals exact hret _ _ _ _ _ (by assumption) (by assumption) (by assumption) hRel (due_full hT)
end
end Mine
end

section
open PySem PySem.W PyProof.Rows PyProof.V
namespace Mine
theorem full_mem {top : List Nat} {c c2 : Tab} (h : Full top c) (h2 : Full top c2) (hT : OkH top) {k : Str} {x : Int} (hm : (k, x) ∈ c) : (k, x) ∈ c2 := by
  obtain ⟨l, hn, hi, rfl, rfl⟩ := h.good k x hm
  obtain ⟨v, hv⟩ := has_iff.mp (h2.full l hn hi)
  obtain ⟨l', _, hi', e, rfl⟩ := h2.good _ _ hv
  rw [txt_inj (infix_ok hT hi) (infix_ok hT hi') e]
  rw [txt_inj (infix_ok hT hi) (infix_ok hT hi') e] at hv
  exact hv
theorem full_len {top : List Nat} {c c2 : Tab} (h : Full top c) (h2 : Full top c2) (hT : OkH top) : c.length = c2.length := by
  have a : ∀ {c c2 : Tab}, Full top c → Full top c2 → c.length ≤ c2.length := fun {c c2} h h2 => by
    have := nodup_len (m := c2.map (·.1)) h.nodup fun k hk => by
      obtain ⟨⟨k, v⟩, hm, rfl⟩ := List.mem_map.mp hk
      exact List.mem_map.mpr ⟨_, full_mem h h2 hT hm, rfl⟩
    simpa using this
  exact Nat.le_antisymm (a h h2) (a h2 h)
theorem hits_of {A : Around} {s : Shared} {c2 : Tab} {kvs2 : List (Str × Value)} (n2 : (c2.map (·.1)).Nodup) (f2 : FlatPairs PyData.str kvs2 (kdpD c2)) :
    ∀ {kvs : List (Str × Value)} {c : Tab}, FlatPairs PyData.str kvs (kdpD c) → (∀ k x, (k, x) ∈ c → (k, x) ∈ c2) → KeqHits A s kvs2 kvs true := by
  intro kvs
  induction kvs with
  | nil => intro c _ _; exact .nil
  | cons p r ih =>
    intro c f hs
    cases c with
    | nil => cases f
    | cons q c =>
      obtain ⟨k, x⟩ := q
      obtain ⟨k', v⟩ := p
      cases f with
      | cons hf fr =>
        have hm := hs k x (List.mem_cons_self ..)
        have hlook : Spec.lookup (PyData.str k) (kdpD c2) = some (PyData.int x) := by
          rw [kdpD_item (has_iff.mpr ⟨x, hm⟩), look_of n2 hm]
        obtain ⟨y, hy, hfy⟩ := f2.of_lookup same_str hlook
        have e := keq_flat (A := A) (s := s) hf hfy
        have et : PyData.eqv (PyData.int x) (PyData.int x) = true := by simp [PyData.eqv]
        rw [et] at e
        have := KeqHits.hit hy e (ih fr fun k x h => hs k x (List.mem_cons_of_mem _ h))
        simpa using this
end Mine
end

section
open PySem PySem.W PySem.Calls PyProof.Rows
namespace Mine
set_option maxRecDepth 100000

section
variable {prog : Program} {w : World} {A : Around} {s : Shared} {R : Result → Shared → Prop}
theorem call_fullS {name : Str} {params : Arguments} {body : List Stmt} {scope : Scope} {dV kV pm cd doc : Value} {a : Addr} {o : Obj} {args : Args} {binds : List (Str × Value)}
    (hroom : A.depth < recursionLimit) (ho : s.heap.get? a = some o) (hdata : o.data = .func { docDef name params body scope pm cd doc with defaults := dV, kwdefaults := kV }) (hlim : s.heap.NoLimit) (hcd : s.heap.CodeRec cd name)
    (hbind : BindsTo s { docDef name params body scope pm cd doc with defaults := dV, kwdefaults := kV } args binds)
    (hloc : ∀ x ∈ binds, scope.names.lookup x.1 = some .local)
    (h : ∀ h₁, Fr s.heap s.heap.objs.size h₁ (fun x => binds.reverse.lookup x) →
      wpS (model prog w) (A.deeper (envOf name scope s.heap.objs.size a cd)) (execs body (envOf name scope s.heap.objs.size a cd))
        (fun f s' => R (.ok (.ret (match f with | .ret v => v | _ => .none))) s') (fun _ _ => False) { s with heap := h₁, toks := s.toks + binds.length })
    (hco : scope.isCoroutine = false := by rfl) (hgen : scope.isGenerator = false := by rfl) (hk : scope.kind = .function := by rfl)
    (hcell : ∀ x ∈ scope.names, x.2 ≠ .cell := by decide) :
    codeS (model prog w) A (.call (.ref a) args) R s :=
  codeS_call_def hroom ho hdata hlim hcd rfl hbind hcell hloc (fun h₁ hns hkeep => h h₁ ⟨hns, hkeep, Nat.le_refl _⟩) hco hgen hk
theorem enter_callS {M : Model} {f : Value} {pos : List Value} {kw : List (Str × Value)} {c : ClaimW} {cl : Str → Option Addr} {mean : ExcName → Option Value} {args : List WData} {s₁ : Shared}
    (h : codeS M A (.call f ⟨pos, kw⟩) (GoodWG c cl mean args s₁) s) : wpS M A (PySem.call f pos kw) (fun v s' => GoodWG c cl mean args s₁ (.ok (.ret v)) s') (fun e s' => GoodWG c cl mean args s₁ (.error e) s') s :=
  wpS_call (codeS_mono h fun res s' g => by rcases g.1 with ⟨v, _, _, rfl, _⟩ | ⟨e, _, _, rfl, _⟩ <;> exact g)
end

theorem to_nat {hs : List Int} (h : hs.length = 6) (b : ∀ x ∈ hs, 1 ≤ x ∧ x ≤ 255) : ∃ ns : List Nat, hs = ns.map (fun (n : Nat) => (n : Int)) ∧ OkH ns ∧ ns.length = 6 := by
  refine ⟨hs.map Int.toNat, ?_, ?_, by rw [List.length_map]; exact h⟩
  · rw [List.map_map]
    refine ((List.map_congr_left (g := id) fun x hx => ?_).trans (List.map_id _)).symm
    have := b x hx
    show ((x.toNat : Nat) : Int) = x
    omega
  · intro n hn
    obtain ⟨x, hx, rfl⟩ := List.mem_map.mp hn
    have := b x hx
    omega
theorem c_apI (w : World) (mean mg mb) (news : List (Addr × Obj)) (k : Int) (t : Tok) (ns : List Nat) (hT : OkH ns) (hk : k ∈ ns.map fun (n : Nat) => (n : Int)) :
    Ct 1 w mean mg mb 64 news news [.int k t] (fun t => .bytes ((apOf k.toNat).map (·.toUInt8)).toArray t) := by
  obtain ⟨n, hn, rfl⟩ := List.mem_map.mp hk
  have := hT n hn
  exact c_ap w mean mg mb news n t this.1 this.2
theorem apI_facts {k : Int} {ns : List Nat} (hT : OkH ns) (hk : k ∈ ns.map fun (n : Nat) => (n : Int)) : (∀ c ∈ apOf k.toNat, c < 128) ∧ 0 < (apOf k.toNat).length ∧ (apOf k.toNat).length ≤ 1000 := by
  obtain ⟨n, hn, rfl⟩ := List.mem_map.mp hk
  have := hT n hn
  refine ⟨fun c hc => ?_, ap_pos this, Nat.le_trans (ap_two this) (by omega)⟩
  have := ap_letters this c hc
  omega
theorem two_ne {a b d : Addr} {oa ob : Obj} (h : a < d ∧ b < d) : ∀ p ∈ [(a, oa), (b, ob)], p.1 ≠ d := by
  intro p hp
  rcases List.mem_cons.mp hp with rfl | hp
  · exact Nat.ne_of_lt h.1
  rcases List.mem_cons.mp hp with rfl | hp
  · exact Nat.ne_of_lt h.2
  · cases hp
theorem names_are {ns : List Nat} {ys : List Value} (h : CarriedAll ys ((ns.map fun (n : Nat) => (n : Int)).map fun k => PyData.str (S (apOf (Int.toNat k))))) : StrsAre ys (ns.map fun n => S (apOf n)) := by
  refine StrsAre.ofCarried ?_
  rw [List.map_map] at h ⊢
  exact h
theorem join_all (ns : List Nat) : Txt.join (Str.ofString ".") (ns.map fun n => S (apOf n)) = S (txt ns) := by
  have e : ns.map (fun n => S (apOf n)) = (ns.map apOf).map S := by rw [List.map_map]; rfl
  rw [show Str.ofString "." = S [46] from dot_is, e]
  exact join_S _
theorem weigh_all {ns : List Nat} (hT : OkH ns) (hl : ns.length ≤ 6) : ((ns.map fun n => S (apOf n)).map (·.length)).sum + (ns.map fun n => S (apOf n)).length ≤ 1048576 := by
  have := weigh_cut hT hl 0 (ns.length : Int)
  have e : ((ns.map fun n => S (apOf n)).drop (0 : Int).toNat).take ((ns.length : Int) - 0).toNat = ns.map fun n => S (apOf n) := by
    rw [show (0 : Int).toNat = 0 from rfl, List.drop_zero, List.take_of_length_le (by rw [List.length_map]; omega)]
  rw [e] at this
  exact this
section
local macro_rules | `(tactic| walk_at "mine pad 0") => `(tactic| fail "pad")
local macro_rules | `(tactic| walk_at "mine pad 1") => `(tactic| fail "pad")
local macro_rules | `(tactic| walk_at "mine pad 2") => `(tactic| fail "pad")
local macro_rules | `(tactic| walk_at "mine pad 3") => `(tactic| fail "pad")
local macro_rules | `(tactic| walk_at "mine pad 4") => `(tactic| fail "pad")
local macro_rules | `(tactic| walk_at "mine pad 5") => `(tactic| fail "pad")
local macro_rules | `(tactic| walk_at "call ref") => `(tactic| (k_here; (with_reducible show wpAny _ _ (call (Value.ref 76) _) _ _ _); k_dflt (refine' c_heaps _ _ _ _ _ _ ?knA _ _ _ _ _ _ _ _ _ _ _ _ _ _ _ _ _ _ ?k1A ?k2A ?k3A ?k4A ?k5A ?kKA ?kdA ?kuA ?klA ?kIA ?kRA; (case k1A => k_asm); (case k2A => k_asm); (case k3A => k_asm); (case k4A => k_asm); (case k5A => k_asm); (case kKA => first | exact rfl | assumption); (case kdA => ktr_room); (case kuA => ktr_units); (case klA => assumption); (case kIA => assumption); (case knA => omega); intro a9 us9 hs9 h9 tk9 F9 N9 I9 len9 bd9; (try dsimp only); (try k_fold))))
local macro_rules | `(tactic| walk_at "call ref") => `(tactic| (k_here; (with_reducible show wpAny _ _ (call (Value.ref 64) _) _ _ _); k_dflt (refine' c_apI _ _ _ _ _ _ _ _ ?kp1B ?kp2B _ _ _ _ _ _ _ _ _ _ _ _ _ _ _ _ _ ?k1B ?k2B ?k3B ?k4B ?k5B ?kKB ?kdB ?kuB ?kRB; (case kp1B => assumption); (case kp2B => assumption); (case k1B => k_asm); (case k2B => k_asm); (case k3B => k_asm); (case k4B => k_asm); (case k5B => k_asm); (case kKB => first | exact rfl | assumption); (case kdB => ktr_room); (case kuB => ktr_units); intro t9 h9 tk9 F9 N9; (try dsimp only); (try k_fold))))
local macro_rules | `(tactic| walk_at "call builtin:bytes.decode") => `(tactic| (k_here; (with_reducible show wpAny _ _ (call (Value.builtin "bytes.decode") [Value.bytes (List.toArray _) _, _]) _ _ _); (rename _ ∈ List.map _ _ => mem9); (have fac9 := apI_facts (by assumption) mem9); refine decodeS rfl fac9.1 fac9.2.1 fac9.2.2 (fun t' k => ?_)))
local macro_rules | `(tactic| walk_at "CompSrc") => `(tactic| (k_here; k_dflt (refine LCg.CompSrc.ledger (by rfl) (by k_asm) (by k_asm) (by k_mem) (by first | size_fits | (simp; rw [sizeLine_eq]; omega)) ?_; intro g'; (refine' kct_list (fun k => S (apOf (Int.toNat k))) (by assumption) (fun k' t' I' oI' C' oC' D' m' ys' h' tk' E' hk' hC' hx' F' N' off' ne' => ?_) ?_); (all_goals (try (simp only [LCg.Off3, and_true] at off'))); (all_goals (try ((show KPfMark → _); intro hMark'))))))
local macro_rules | `(tactic| walk_at "call builtin:str.join") => `(tactic| (k_here; (with_reducible show wpAny _ _ (call (Value.builtin "str.join") [Value.str _ _, Value.ref _]) _ _ _); (rename News _ _ _ _ => nJ9); (rename StrsAre _ _ => sJ9); k_dflt (refine' join_listW (News.isList nJ9 (by k_mem)) sJ9 ?j4 ?j5 ?_); (case j4 => decide); (case j5 => exact weigh_all (by assumption) (by omega)); intro _ _; rw [join_all]))
local macro_rules | `(tactic| walk_at "call ref") => `(tactic| (k_here; (with_reducible show wpAny _ _ (call (Value.ref 118) _) _ _ _); k_dflt (refine' c_due _ _ _ _ _ ?kTD ?klD _ _ _ _ _ _ _ _ ?kID ?kSD _ _ _ _ _ _ _ _ _ _ _ _ _ _ _ _ _ ?k1D ?k2D ?k3D ?k4D ?k5D ?kKD ?kdD ?kuD ?kRD; (case k1D => k_asm); (case k2D => k_asm); (case k3D => k_asm); (case k4D => first | k_asm | assumption); (case k5D => k_asm); (case kKD => first | exact rfl | assumption); (case kdD => ktr_room); (case kuD => ktr_units); (case kTD => assumption); (case klD => omega); (case kID => assumption); (case kSD => assumption); intro dd9 od9 cd9 h9 tk9 F9 N9 sys9 Dd9 Fd9; (try dsimp only); (try k_fold))))
set_option maxHeartbeats 8000000 in
theorem top_holds : Challenge.rw_zn0012_01.Holds := hd (by
  k_fill
  intro w s₀ s₁ mg mb G Y fa o pm cd doc dV kV ho hd' hcd hD hmg hg args vals as hpre hlay hrd hwl hlo
  have KX := kIn_of Y
  have X := (Ground.X G).1
  have V := (Ground.X G).2
  refine Ground.open G ?_
  intro T B D TE TW
  try (refine guard_noD D (by decide +kernel) ?_; clear D)
  obtain ⟨_, _, M⟩ := bmod_of_top T
  have TA := at_of_top T
  try (obtain ⟨_, _, he, B0⟩ := based_of_top T rfl hmg ho hd'; have he' : cd = _ := he; subst he'; clear he)
  clear hmg
  wrow_args hpre hlay hrd hwl hlo
  refine enter_callS (codeS_mono ?_ (fun _ _ g => GoodW.toG g))
  have K0 := below_caller (Top.heap T)
  have he := Dflts.none hD rfl
  subst he
  refine call_fullS (by decide) ho hd' (Top.nolimit T) hcd (BindsTo.of_eq rfl) (locs rfl) fun h₁ F => ?_
  w_binds F
  have N0 := (News.nil : News _ _ _ []).at F
  clear hd' TA
  k_drop
  refine wpS_execs_cons (wpS_of_any ?_)
  k_steps
  (rename IntsAre _ _ => I9)
  (rename ∀ x ∈ _, 1 ≤ x ∧ x ≤ 255 => bd9)
  (rename List.length _ = 6 => len9)
  obtain ⟨ns, hns, hT, hl6⟩ := to_nat len9 bd9
  subst hns
  clear len9 bd9
  refine wpS_execs_cons (wpS_of_any ?_)
  k_steps
  (rename CarriedAll _ _ => hC9)
  have sN := names_are hC9
  clear hC9
  refine wpS_execs_cons (wpS_of_any ?_)
  k_steps
  refine wpS_execs_cons ?_
  refine wpS_Expr ?_
  refine wpS_Call ?_
  k_steps
  refine wpS_callWith_K (K := hd.heap_39 w.params) rfl (wpS_of_any ?_)
  k_steps
  (rename (_ : Nat) < _ ∧ (_ : Nat) < _ => lD)
  k_dflt (refine' c_played _ _ _ _ ns hT (Nat.le_of_eq hl6) 6 ns hl6 (List.infix_refl _) _ _ _ _ _ _ _ _ _ _ _ _ _ _ _ _ _ _ _ _ _ _ ?k1E ?k2E ?k3E ?k4E ?k5E ?kKE ?kdE ?kuE ?kDE ?kIE ?knE ?ksE ?kRE; (case k1E => k_asm); (case k2E => k_asm); (case k3E => k_asm); (case k4E => k_asm); (case k5E => k_asm); (case kKE => first | exact rfl | assumption); (case kdE => ktr_room); (case kuE => ktr_units); (case kIE => exact Inv.empty _); (case kDE => exact ⟨_, by assumption, by assumption⟩); (case knE => exact two_ne lD); (case ksE => assumption); intro t9 h9 tk9 o9 c9 F9 N9 D9 I9 has9 mono9; (try dsimp only); (try k_fold))
  refine wpS_execs_cons ?_
  refine wpS_Return_some ?_
  refine wpS_of_any ?_
  k_steps
  (rename News _ _ _ _ => N8)
  (rename Full ns _ => Fd8)
  (rename Dct w _ _ => Dd8)
  obtain ⟨kv2, hd2, hf2⟩ := Dd8
  obtain ⟨kv1, hd1, hf1⟩ := D9
  have fA : Full ns c9 := I9.full has9
  refine keq_eq (knd := PySem.strKind _ _) (r := true) ?s1 ?s2 (Heap.dictOf_iff.mpr ⟨_, N8.get (List.Mem.tail _ (List.Mem.head _)), hd1⟩) (Heap.dictOf_iff.mpr ⟨_, N8.get (List.Mem.head _), hd2⟩) ?hu (fun _ => hits_of Fd8.nodup hf2 hf1 (fun k x h => full_mem fA Fd8 hT h)) ?_
  case s1 => assumption
  case s2 => assumption
  case hu => first | ktr_units | k_units | decide
  have eL : kv1.length = kv2.length := by
    have e1 := hf1.length
    have e2 := hf2.length
    rw [kdpD_length] at e1 e2
    have e3 := full_len fA Fd8 hT
    omega
  have eB : ((kv1.length == kv2.length) && true) = true := by rw [eL]; simp
  rw [eB]
  k_steps
  all_goals (show GoodW _ _ _ _ _ (.ok (.ret (.bool _))) _)
  all_goals wrow_close)
end
end Mine
end

set_option maxRecDepth 100000 in
set_option maxHeartbeats 8000000 in
theorem PySem.Challenge.cw_zn0012_01_holds : PySem.Challenge.rw_zn0012_01.Holds :=
  Mine.top_holds
