/-
  Plain laws on the order and the difference of two doubles (words of 'Ieee.double'). No Go in sight.
-/
import Ieee.Arith
import Derived.Laws.FloatBits
namespace Go.Proofs.Qxb6619695a.Fl
open Ieee

theorem signed_add (s : Bool) (m a c : Nat) : signed s m (a + c) = signed s m a * ((2 ^ c : Nat) : Int) := by
  unfold signed
  simp only [Nat.shiftLeft_eq, Nat.pow_add]
  cases s
  · simp only [Bool.false_eq_true, if_false]
    rw [← Nat.mul_assoc]; exact Int.natCast_mul _ _
  · simp only [if_true]
    rw [← Nat.mul_assoc, Int.natCast_mul, Int.neg_mul]

theorem compare_int (a b : Int) : compare a b = if a < b then .lt else if a = b then .eq else .gt := by
  rfl

theorem compare_scale (a b : Int) (c : Nat) : compare (a * ((2 ^ c : Nat) : Int)) (b * ((2 ^ c : Nat) : Int)) = compare a b := by
  have hp : (0 : Int) < ((2 ^ c : Nat) : Int) := by
    have := Nat.two_pow_pos c; omega
  have hlt : a * ((2 ^ c : Nat) : Int) < b * ((2 ^ c : Nat) : Int) ↔ a < b :=
    ⟨fun h => Int.lt_of_mul_lt_mul_right h (Int.le_of_lt hp), fun h => Int.mul_lt_mul_of_pos_right h hp⟩
  have heq : a * ((2 ^ c : Nat) : Int) = b * ((2 ^ c : Nat) : Int) ↔ a = b :=
    ⟨fun h => Int.eq_of_mul_eq_mul_right (Int.ne_of_gt hp) h, fun h => by rw [h]⟩
  rw [compare_int, compare_int]
  simp only [hlt, heq]

/-- The order of two numbers, at whatever place at or below both. -/
theorem order_base (s t : Bool) (m n : Nat) (i j k : Int) (hi : k ≤ i) (hj : k ≤ j) :
    (Datum.number s m i).order (Datum.number t n j) = some (compare (signed s m (i - k).toNat) (signed t n (j - k).toNat)) := by
  show some (compare (signed s m (i - min i j).toNat) (signed t n (j - min i j).toNat)) = _
  have e1 : (i - k).toNat = (i - min i j).toNat + (min i j - k).toNat := by omega
  have e2 : (j - k).toNat = (j - min i j).toNat + (min i j - k).toNat := by omega
  rw [e1, e2, signed_add, signed_add, compare_scale]

theorem cmp_swap (a b : Int) : compare b a = (compare a b).swap := by
  rw [compare_int, compare_int]
  by_cases h1 : a < b
  · rw [if_neg (by omega), if_neg (by omega), if_pos h1]; rfl
  · by_cases h2 : a = b
    · subst h2; simp
    · rw [if_pos (by omega), if_neg h1, if_neg h2]; rfl

theorem dorder_swap (x y : Datum) : y.order x = (x.order y).map Ordering.swap := by
  cases x with
  | nan => cases y <;> rfl
  | infinity s =>
    cases y with
    | nan => rfl
    | infinity t => cases s <;> cases t <;> rfl
    | number t n j => cases s <;> rfl
  | number s m i =>
    cases y with
    | nan => rfl
    | infinity t => cases t <;> rfl
    | number t n j =>
      have hk : min i j ≤ i := Int.min_le_left ..
      have hl : min i j ≤ j := Int.min_le_right ..
      rw [order_base s t m n i j _ hk hl, order_base t s n m j i _ hl hk, cmp_swap]; rfl

theorem dorder_self (x : Datum) : x.order x = none ∨ x.order x = some .eq := by
  cases x with
  | nan => exact Or.inl rfl
  | infinity s => cases s <;> exact Or.inr rfl
  | number s m i =>
    refine Or.inr ?_
    rw [order_base s s m m i i i (Int.le_refl _) (Int.le_refl _), compare_int]
    simp

theorem dorder_none (x y : Datum) : x.order y = none ↔ (x.order x = none ∨ y.order y = none) := by
  cases x with
  | nan => cases y <;> simp [Datum.order]
  | infinity s => cases y <;> simp [Datum.order]
  | number s m i => cases y <;> simp [Datum.order]

/-- 'x ≥ y' and 'y ≥ z': then 'x ≥ z', and strictly so where the second is strict. -/
theorem dorder_trans (x y z : Datum) (h1 : x.order y = some .gt ∨ x.order y = some .eq) (h2 : y.order z = some .gt ∨ y.order z = some .eq) :
    (x.order z = some .gt ∨ x.order z = some .eq) ∧ (y.order z = some .gt → x.order z = some .gt) := by
  cases x with
  | nan => cases y <;> simp [Datum.order] at h1
  | infinity s =>
    cases y with
    | nan => simp [Datum.order] at h1
    | infinity t =>
      cases z with
      | nan => simp [Datum.order] at h2
      | infinity u => revert h1 h2; cases s <;> cases t <;> cases u <;> decide
      | number u o k => revert h1 h2; cases s <;> cases t <;> simp [Datum.order]; all_goals decide
    | number t n j =>
      cases z with
      | nan => simp [Datum.order] at h2
      | infinity u => revert h1 h2; cases s <;> cases u <;> simp [Datum.order]; all_goals decide
      | number u o k => revert h1 h2; cases s <;> simp [Datum.order]
  | number s m i =>
    cases y with
    | nan => simp [Datum.order] at h1
    | infinity t =>
      cases z with
      | nan => simp [Datum.order] at h2
      | infinity u => revert h1 h2; cases t <;> cases u <;> simp [Datum.order]; all_goals decide
      | number u o k => revert h1 h2; cases t <;> simp [Datum.order]
    | number t n j =>
      cases z with
      | nan => simp [Datum.order] at h2
      | infinity u => revert h1 h2; cases u <;> simp [Datum.order]
      | number u o k =>
        have b1 : min i (min j k) ≤ i := by omega
        have b2 : min i (min j k) ≤ j := by omega
        have b3 : min i (min j k) ≤ k := by omega
        rw [order_base s t m n i j _ b1 b2] at h1
        rw [order_base t u n o j k _ b2 b3] at h2 ⊢
        rw [order_base s u m o i k _ b1 b3]
        revert h1 h2
        generalize signed s m (i - min i (min j k)).toNat = A
        generalize signed t n (j - min i (min j k)).toNat = B
        generalize signed u o (k - min i (min j k)).toNat = C
        rw [compare_int, compare_int, compare_int]
        intro h1 h2
        have g1 : B ≤ A := by
          by_cases c : A < B
          · simp [c] at h1
          · omega
        have g2 : C ≤ B := by
          by_cases c : B < C
          · simp [c] at h2
          · omega
        refine ⟨?_, ?_⟩
        · by_cases e : A = C
          · right; simp [e]
          · left; rw [if_neg (by omega), if_neg e]
        · intro h3
          have g3 : B ≠ C := by
            intro e; simp [e] at h3
          rw [if_neg (by omega), if_neg (by omega)]


theorem read_place (f : Format) (x : Nat) {s : Bool} {m : Nat} {p : Int} (h : f.read x = .number s m p) : f.leastPlace ≤ p := by
  unfold Format.read at h
  dsimp only at h
  split at h
  · cases h; exact Int.le_refl _
  · split at h
    · cases h; omega
    · split at h <;> cases h

theorem binade_pos (f : Format) : 0 < f.binade := Nat.two_pow_pos _

theorem read_word (f : Format) (s : Bool) (r : Nat) (h : r ≤ f.infRung) :
    f.read (f.word s r) = if r < f.binade then .number s r f.leastPlace else if r < f.infRung then .number s (f.binade + r % f.binade) (f.leastPlace + (r / f.binade - 1 : Nat)) else .infinity s := by
  have hl := f.infRung_lt
  have hr : r < f.signWeight := by omega
  have e1 : (f.word s r / f.signWeight % 2 == 1) = s := by
    unfold Format.word
    cases s
    · simp [Nat.div_eq_of_lt hr]
    · simp [Nat.add_div_left _ (by omega : 0 < f.signWeight), Nat.div_eq_of_lt hr]
  have e2 : f.word s r % f.signWeight = r := by
    unfold Format.word
    cases s
    · simp [Nat.mod_eq_of_lt hr]
    · simp [Nat.mod_eq_of_lt hr]
  unfold Format.read
  rw [e1, e2]
  dsimp only
  by_cases h1 : r < f.binade
  · rw [if_pos h1, if_pos h1]
  · rw [if_neg h1, if_neg h1]
    by_cases h2 : r < f.infRung
    · rw [if_pos h2, if_pos h2]
    · rw [if_neg h2, if_neg h2, if_pos (by omega)]

theorem order_zero (s : Bool) (m : Nat) (i j : Int) : (Datum.number s m i).order (.number false 0 j) = some (if m = 0 then .eq else if s then .lt else .gt) := by
  have hk : min i j ≤ i := Int.min_le_left ..
  have hl : min i j ≤ j := Int.min_le_right ..
  rw [order_base s false m 0 i j _ hk hl]
  generalize (i - min i j).toNat = a
  generalize (j - min i j).toNat = b
  rw [compare_int]
  unfold signed
  simp only [Nat.shiftLeft_eq]
  by_cases hm : m = 0
  · subst hm; cases s <;> simp
  · have : 0 < m * 2 ^ a := Nat.mul_pos (by omega) (Nat.two_pow_pos _)
    cases s
    · simp only [Bool.false_eq_true, if_false, hm, Nat.zero_mul]
      rw [if_neg (by omega), if_neg (by omega)]
    · simp only [Bool.false_eq_true, if_false, if_true, hm, Nat.zero_mul]
      rw [if_pos (by omega)]

/-- What is written of a number at or above the least place stands to zero as the number does. -/
theorem write_order (f : Format) (s : Bool) (m : Nat) (p j : Int) (hp : f.leastPlace ≤ p) (hinf : f.binade ≤ f.infRung) :
    (f.read (f.write (.number s m p))).order (.number false 0 j) = some (if m = 0 then .eq else if s then .lt else .gt) := by
  have hb := binade_pos f
  show (f.read (f.nearest s m p)).order _ = _
  unfold Format.nearest
  by_cases hm : m = 0
  · rw [if_pos hm, read_word f s 0 (Nat.zero_le _), if_pos hb, order_zero]; simp [hm]
  · rw [if_neg hm, if_neg hm]
    dsimp only
    generalize hL : max (p + (m.log2 : Int) - (f.fractionBits : Int)) f.leastPlace = last
    have hrung : 1 ≤ (last - f.leastPlace).toNat * f.binade + Toward.even.cut s (m <<< (p - last).toNat) (last - p).toNat := by
      by_cases hc : last = f.leastPlace
      · have e0 : (last - p).toNat = 0 := by omega
        rw [e0]
        unfold Toward.cut
        have e1 : (1 <<< min 0 ((m <<< (p - last).toNat).log2 + 2)) = 1 := by simp
        rw [e1]
        have : 0 < m <<< (p - last).toNat := by
          rw [Nat.shiftLeft_eq]; exact Nat.mul_pos (by omega) (Nat.two_pow_pos _)
        simp only [Nat.div_one]
        omega
      · have h1 : 1 ≤ (last - f.leastPlace).toNat := by omega
        have := Nat.mul_le_mul h1 hb
        omega
    generalize (last - f.leastPlace).toNat * f.binade + Toward.even.cut s (m <<< (p - last).toNat) (last - p).toNat = R at hrung
    have hq : min R f.infRung ≤ f.infRung := Nat.min_le_right ..
    rw [read_word f s _ hq]
    by_cases h1 : min R f.infRung < f.binade
    · rw [if_pos h1, order_zero, if_neg (by omega)]
    · rw [if_neg h1]
      by_cases h2 : min R f.infRung < f.infRung
      · rw [if_pos h2, order_zero, if_neg (by omega)]
      · rw [if_neg h2]; rfl

/-! At 'double'. -/
def ord (a b : Nat) : Option Ordering := double.order a b

theorem ord_swap (a b : Nat) : ord b a = (ord a b).map Ordering.swap := dorder_swap _ _
theorem ord_self (a : Nat) : ord a a = none ∨ ord a a = some .eq := dorder_self _
theorem ord_none (a b : Nat) : ord a b = none ↔ (ord a a = none ∨ ord b b = none) := dorder_none _ _
theorem ord_trans (a b c : Nat) (h1 : ord a b = some .gt ∨ ord a b = some .eq) (h2 : ord b c = some .gt ∨ ord b c = some .eq) :
    (ord a c = some .gt ∨ ord a c = some .eq) ∧ (ord b c = some .gt → ord a c = some .gt) := dorder_trans _ _ _ h1 h2

theorem double_inf : double.binade ≤ double.infRung := by
  show 2 ^ 52 ≤ (2 ^ 11 - 1) * 2 ^ 52
  omega

theorem read_zero : double.read 0 = .number false 0 double.leastPlace := by
  have h := read_word double false 0 (Nat.zero_le _)
  rw [if_pos (binade_pos _)] at h
  exact h

theorem read_inf (s : Bool) : double.read (double.word s double.infRung) = .infinity s := by
  have h := read_word double s double.infRung (Nat.le_refl _)
  rw [if_neg (by have := double_inf; omega), if_neg (by omega)] at h
  exact h

/-- The difference: where the two are ordered, either it is a number (or an infinity) that stands to zero as the two stand, or it is none and the two are equal. -/
theorem sub_law (a b : Nat) (o : Ordering) (h : ord a b = some o) :
    (∃ r, double.sub a b = some r ∧ ord r 0 = some o ∧ ord r r = some .eq) ∨ (double.sub a b = none ∧ o = .eq) := by
  have fin : ∀ r, ord r 0 = some o → ord r r = some .eq := by
    intro r hr
    rcases ord_self r with e | e
    · have := (ord_none r 0).2 (Or.inl e); rw [hr] at this; cases this
    · exact e
  suffices hs : (∃ r, double.sub a b = some r ∧ ord r 0 = some o) ∨ (double.sub a b = none ∧ o = .eq) by
    rcases hs with ⟨r, h1, h2⟩ | h1
    · exact Or.inl ⟨r, h1, h2, fin r h2⟩
    · exact Or.inr h1
  unfold ord Format.order at h ⊢
  rw [read_zero]
  unfold Format.sub
  cases ha : double.read a with
  | nan => rw [ha] at h; cases hb : double.read b <;> rw [hb] at h <;> simp [Datum.order] at h
  | infinity s =>
    rw [ha] at h
    cases hb : double.read b with
    | nan => rw [hb] at h; simp [Datum.order] at h
    | infinity t =>
      rw [hb] at h
      simp only [Datum.order, Option.some.injEq] at h
      subst h
      cases s <;> cases t
      · exact Or.inr ⟨rfl, rfl⟩
      · refine Or.inl ⟨double.word false double.infRung, rfl, ?_⟩
        rw [read_inf]; rfl
      · refine Or.inl ⟨double.word true double.infRung, rfl, ?_⟩
        rw [read_inf]; rfl
      · exact Or.inr ⟨rfl, rfl⟩
    | number t n j =>
      rw [hb] at h
      simp only [Datum.order, Option.some.injEq] at h
      subst h
      refine Or.inl ⟨double.word s double.infRung, rfl, ?_⟩
      rw [read_inf]; rfl
  | number s m i =>
    rw [ha] at h
    cases hb : double.read b with
    | nan => rw [hb] at h; simp [Datum.order] at h
    | infinity t =>
      rw [hb] at h
      simp only [Datum.order, Option.some.injEq] at h
      subst h
      refine Or.inl ⟨double.word (!t) double.infRung, rfl, ?_⟩
      rw [read_inf]; cases t <;> rfl
    | number t n j =>
      rw [hb] at h
      have pa := read_place double a ha
      have pb := read_place double b hb
      have hk : min i j ≤ i := Int.min_le_left ..
      have hl : min i j ≤ j := Int.min_le_right ..
      rw [order_base s t m n i j _ hk hl] at h
      simp only [Option.some.injEq] at h
      have en : signed (!t) n (j - min i j).toNat = - signed t n (j - min i j).toNat := by
        unfold signed; cases t <;> simp
      refine Or.inl ⟨_, rfl, ?_⟩
      rw [write_order double _ _ _ _ (by omega) double_inf, ← h]
      rw [en]
      generalize signed s m (i - min i j).toNat = A
      generalize signed t n (j - min i j).toNat = B
      rw [compare_int]
      by_cases c1 : A < B
      · rw [if_neg (by omega), if_neg (by omega : ¬ A + -B = 0), if_pos c1, if_pos (by simp; omega)]
      · by_cases c2 : A = B
        · rw [if_pos (by omega), if_neg c1, if_pos c2]
        · rw [if_neg (by omega), if_neg (by omega : ¬ A + -B = 0), if_neg c1, if_neg c2, if_neg (by simp; omega)]

end Go.Proofs.Qxb6619695a.Fl
