import PyProof.Rows.All
import Wide.All
import OpenK.AllK
import Wide.FinOn
import PySem.Challenge.RW_af0002_06
set_option Elab.async false

section
set_option linter.unusedVariables false
namespace Mine

noncomputable def sumF (F : Nat → Int) : Nat → Int
  | 0 => 0
  | n + 1 => sumF F n + F n
noncomputable def upd (b : Nat → Nat) (k x : Nat) : Nat → Nat := fun i => if i = k then x else b i
theorem sumF_congr {F G : Nat → Int} : ∀ {n : Nat}, (∀ i, i < n → F i = G i) → sumF F n = sumF G n
  | 0, _ => rfl
  | n + 1, h => by
    show sumF F n + F n = sumF G n + G n
    rw [sumF_congr fun i hi => h i (Nat.lt_succ_of_lt hi), h n (Nat.lt_succ_self n)]
theorem sumF_upd {f : Nat → Nat → Int} {b : Nat → Nat} {k x : Nat} : ∀ {n : Nat}, k < n → sumF (fun i => f i (upd b k x i)) n = sumF (fun i => f i (b i)) n - f k (b k) + f k x
  | n + 1, h => by
    show sumF (fun i => f i (upd b k x i)) n + f n (upd b k x n) = sumF (fun i => f i (b i)) n + f n (b n) - f k (b k) + f k x
    by_cases e : k = n
    · subst e
      rw [sumF_congr (G := fun i => f i (b i)) fun i hi => by show f i (upd b k x i) = f i (b i); unfold upd; rw [if_neg (Nat.ne_of_lt hi)]]
      have : upd b k x k = x := if_pos rfl
      rw [this]; (first | (simp; done) | lia | omega)
    · rw [sumF_upd (by (first | lia | omega))]
      have : upd b k x n = b n := if_neg (fun z => e z.symm)
      rw [this]; (first | lia | omega)
theorem sumF_le {F G : Nat → Int} : ∀ {n : Nat}, (∀ i, i < n → F i ≤ G i) → sumF F n ≤ sumF G n
  | 0, _ => Int.le_refl _
  | n + 1, h => Int.add_le_add (sumF_le fun i hi => h i (Nat.lt_succ_of_lt hi)) (h n (Nat.lt_succ_self n))
theorem sumF_pos {F : Nat → Int} : ∀ {n k : Nat}, (∀ i, i < n → 0 ≤ F i) → k < n → F k ≤ sumF F n
  | n + 1, k, h, hk => by
    show F k ≤ sumF F n + F n
    have h0 : 0 ≤ sumF F n := by
      have := sumF_le (F := fun _ => 0) (G := F) (n := n) fun i hi => h i (Nat.lt_succ_of_lt hi)
      have z : ∀ n, sumF (fun _ => (0 : Int)) n = 0 := by
        intro n; induction n with
        | zero => rfl
        | succ n ih => show sumF _ n + 0 = 0; rw [ih]; rfl
      rw [z] at this; exact this
    by_cases e : k = n
    · subst e; (first | lia | omega)
    · have := sumF_pos (F := F) (n := n) (k := k) (fun i hi => h i (Nat.lt_succ_of_lt hi)) (by (first | lia | omega))
      have := h n (Nat.lt_succ_self n)
      (first | lia | omega)
theorem sumF_sub {F G : Nat → Int} : ∀ {n : Nat}, sumF (fun i => F i - G i) n = sumF F n - sumF G n
  | 0 => rfl
  | n + 1 => by
    show sumF (fun i => F i - G i) n + (F n - G n) = sumF F n + F n - (sumF G n + G n)
    rw [sumF_sub]; (first | lia | omega)
noncomputable abbrev tot (b : Nat → Nat) (n : Nat) : Int := sumF (fun i => (b i : Int)) n
noncomputable abbrev cst (f : Nat → Nat → Int) (b : Nat → Nat) (n : Nat) : Int := sumF (fun i => f i (b i)) n
theorem sub_one {x y : Nat} (h : y < x) : ((x - y : Nat) : Int) = ((x - 1 - y : Nat) : Int) + 1 := by
  obtain ⟨k, rfl⟩ := Nat.exists_eq_add_of_lt h
  rw [Nat.add_sub_cancel, Nat.add_sub_cancel_left, Nat.add_assoc, Nat.add_sub_cancel_left]; rfl
theorem sub_two {x y : Nat} (h : y < x) : ((x - y : Nat) : Int) = ((x - (y + 1) : Nat) : Int) + 1 := by
  obtain ⟨k, rfl⟩ := Nat.exists_eq_add_of_lt h
  rw [Nat.add_sub_add_right, Nat.add_sub_cancel_left, Nat.add_assoc, Nat.add_sub_cancel_left]; rfl
theorem fin_one {m : Nat} {X : Int} : ((m + 1 : Nat) : Int) - (X + 1) + X - ((0 : Nat) : Int) + ((0 : Nat) : Int) = (m : Int) := by (first | (simp only [Int.natCast_add, Int.natCast_one] at *; lia) | lia | omega)
theorem fin_two {m : Nat} {X : Int} : ((m + 1 : Nat) : Int) - ((0 : Nat) : Int) + ((0 : Nat) : Int) - (X + 1) + X = (m : Int) := by (first | (simp only [Int.natCast_add, Int.natCast_one] at *; lia) | lia | omega)
theorem tot_less {a b : Nat → Nat} {n k : Nat} (h : tot b n = tot a n) (hk : k < n) (hb : a k < b k) : ∃ j, j < n ∧ b j < a j := by
  refine Classical.byContradiction fun q => ?_
  have hall : ∀ i, i < n → 0 ≤ (b i : Int) - (a i : Int) := fun i hi => by
    have : ¬ b i < a i := fun z => q ⟨i, hi, z⟩
    (first | lia | omega)
  have h1 := sumF_pos (F := fun i => (b i : Int) - (a i : Int)) hall hk
  have h2 : sumF (fun i => (b i : Int) - (a i : Int)) n = tot b n - tot a n := sumF_sub
  rw [h2, h] at h1
  have : (b k : Int) - (a k : Int) ≤ tot a n - tot a n := h1
  (first | lia | omega)

structure Mkt (n S lo : Nat) (f g : Nat → Nat → Int) : Prop where
  step : ∀ i, i < n → ∀ x, lo ≤ x → x < S → f i (x + 1) = f i x + g i (x + 1)
  inc : ∀ i, i < n → ∀ x y, lo < x → x ≤ y → y ≤ S → g i x ≤ g i y
  zero : ∀ i j, i < n → j < n → i ≠ j → ∀ x y, x < lo → lo < y → y ≤ S → f i (x + 1) + f j (y - 1) < f i x + f j y
  fits : n * lo ≤ S
structure Deal (n S lo : Nat) (a : Nat → Nat) : Prop where
  tot : tot a n = (S : Int)
  lo : ∀ i, i < n → lo ≤ a i
noncomputable def Stab (n lo : Nat) (g : Nat → Nat → Int) (a : Nat → Nat) : Prop := ∀ i j, i < n → j < n → i ≠ j → lo < a i → g i (a i) ≤ g j (a j + 1)
theorem le_tot {b : Nat → Nat} {n i : Nat} {S : Nat} (h : tot b n = (S : Int)) (hi : i < n) : b i ≤ S := by
  have := sumF_pos (F := fun i => (b i : Int)) (fun i _ => Int.natCast_nonneg _) hi
  have h1 : ((b i : Nat) : Int) ≤ tot b n := this
  (first | lia | omega)
noncomputable def mv (b : Nat → Nat) (k j : Nat) : Nat → Nat := upd (upd b k (b k - 1)) j (b j + 1)
theorem mv_at {b : Nat → Nat} {k j : Nat} (h : k ≠ j) : mv b k j k = b k - 1 ∧ mv b k j j = b j + 1 ∧ ∀ i, i ≠ k → i ≠ j → mv b k j i = b i := by
  unfold mv upd
  refine ⟨by rw [if_neg h, if_pos rfl], by rw [if_pos rfl], fun i h1 h2 => by rw [if_neg h2, if_neg h1]⟩
theorem mv_cost {f : Nat → Nat → Int} {b : Nat → Nat} {k j n : Nat} (h : k ≠ j) (hk : k < n) (hj : j < n) : cst f (mv b k j) n = cst f b n - f k (b k) + f k (b k - 1) - f j (b j) + f j (b j + 1) := by
  have h1 := sumF_upd (f := f) (b := upd b k (b k - 1)) (k := j) (x := b j + 1) hj
  have h2 := sumF_upd (f := f) (b := b) (k := k) (x := b k - 1) hk
  have e : upd b k (b k - 1) j = b j := if_neg (Ne.symm h)
  rw [e] at h1
  show sumF (fun i => f i (mv b k j i)) n = _
  unfold mv
  rw [h1, h2]
theorem mv_tot {b : Nat → Nat} {k j n : Nat} (h : k ≠ j) (hk : k < n) (hj : j < n) (hb : 0 < b k) : tot (mv b k j) n = tot b n := by
  have := mv_cost (f := fun _ x => (x : Int)) (b := b) h hk hj
  have this : tot (mv b k j) n = tot b n - ((b k : Nat) : Int) + ((b k - 1 : Nat) : Int) - ((b j : Nat) : Int) + ((b j + 1 : Nat) : Int) := this
  (first | (simp only [Int.natCast_add, Int.natCast_one] at *; lia) | lia | omega)
theorem mv_step {n S lo : Nat} {f g : Nat → Nat → Int} (M : Mkt n S lo f g) {b : Nat → Nat} {k j : Nat} (h : k ≠ j) (hk : k < n) (hj : j < n) (hS : tot b n = (S : Int)) (hlk : lo < b k) (hlj : lo ≤ b j) : cst f (mv b k j) n = cst f b n - g k (b k) + g j (b j + 1) := by
  have hbk := le_tot hS hk
  have hbj : b j < S := by
    have h1 := mv_tot h hk hj (by (first | lia | omega) : 0 < b k)
    have := le_tot (h1.trans hS) hj
    rw [(mv_at h).2.1] at this
    (first | assumption | lia | omega)
  have s1 := M.step k hk (b k - 1) (by (first | lia | omega)) (by (first | lia | omega))
  rw [show b k - 1 + 1 = b k by (first | lia | omega)] at s1
  have s2 := M.step j hj (b j) hlj hbj
  rw [mv_cost h hk hj]
  (first | lia | omega)

theorem opt_core {n S lo : Nat} {f g : Nat → Nat → Int} (M : Mkt n S lo f g) {a : Nat → Nat} (A : Deal n S lo a) (T : Stab n lo g a) : ∀ (m : Nat) (b : Nat → Nat), Deal n S lo b → sumF (fun i => ((b i - a i : Nat) : Int)) n = (m : Int) →
    cst f a n ≤ cst f b n ∧ ((∀ i j, i < n → j < n → i ≠ j → lo < a i → g i (a i) < g j (a j + 1)) → 0 < m → cst f a n < cst f b n)
  | 0, b, B, hm => by
    have hle : ∀ i, i < n → b i ≤ a i := fun i hi => by
      have := sumF_pos (F := fun i => ((b i - a i : Nat) : Int)) (fun i _ => Int.natCast_nonneg _) hi
      rw [hm] at this
      have this : ((b i - a i : Nat) : Int) ≤ ((0 : Nat) : Int) := this
      (first | lia | omega)
    have heq : ∀ i, i < n → b i = a i := fun i hi => by
      refine Classical.byContradiction fun q => ?_
      obtain ⟨j, hj, h⟩ := tot_less (a := b) (b := a) (A.tot.trans B.tot.symm) hi (by have := hle i hi; (first | lia | omega))
      have := hle j hj
      (first | lia | omega)
    have : cst f b n = cst f a n := sumF_congr fun i hi => by show f i (b i) = f i (a i); rw [heq i hi]
    exact ⟨by rw [this]; exact Int.le_refl _, fun _ h => absurd h (Nat.lt_irrefl 0)⟩
  | m + 1, b, B, hm => by
    obtain ⟨k, hk, hkb⟩ : ∃ k, k < n ∧ a k < b k := by
      refine Classical.byContradiction fun q => ?_
      have : sumF (fun i => ((b i - a i : Nat) : Int)) n = sumF (fun _ => 0) n := sumF_congr fun i hi => by
        have : ¬ a i < b i := fun z => q ⟨i, hi, z⟩
        show ((b i - a i : Nat) : Int) = 0
        (first | lia | omega)
      have z : ∀ n, sumF (fun _ => (0 : Int)) n = 0 := by
        intro n; induction n with
        | zero => rfl
        | succ n ih => show sumF _ n + 0 = 0; rw [ih]; rfl
      rw [z, hm] at this
      (first | (simp only [Int.natCast_add, Int.natCast_one] at *; lia) | lia | omega)
    obtain ⟨j, hj, hjb⟩ := tot_less (B.tot.trans A.tot.symm) hk hkb
    have hkj : k ≠ j := fun z => by subst z; (first | lia | omega)
    have hak := A.lo k hk
    have hbj := B.lo j hj
    have hbS := le_tot B.tot hk
    have haS := le_tot A.tot hj
    have hms := mv_step M hkj hk hj B.tot (by (first | lia | omega)) hbj
    have hmt := mv_tot hkj hk hj (show 0 < b k by (first | lia | omega))
    obtain ⟨m1, m2, m3⟩ := mv_at (b := b) hkj
    have D : Deal n S lo (mv b k j) := ⟨hmt.trans B.tot, fun i hi => by
      by_cases e1 : i = k
      · subst e1; rw [m1]; (first | lia | omega)
      · by_cases e2 : i = j
        · subst e2; rw [m2]; (first | lia | omega)
        · rw [m3 i e1 e2]; exact B.lo i hi⟩
    have hd : sumF (fun i => ((mv b k j i - a i : Nat) : Int)) n = (m : Int) := by
      have := mv_cost (f := fun i x => ((x - a i : Nat) : Int)) (b := b) hkj hk hj
      have this : sumF (fun i => ((mv b k j i - a i : Nat) : Int)) n = sumF (fun i => ((b i - a i : Nat) : Int)) n - ((b k - a k : Nat) : Int) + ((b k - 1 - a k : Nat) : Int) - ((b j - a j : Nat) : Int) + ((b j + 1 - a j : Nat) : Int) := this
      rw [this, hm, sub_one hkb, Nat.sub_eq_zero_of_le (Nat.le_of_lt hjb), Nat.sub_eq_zero_of_le hjb]
      exact fin_one
    obtain ⟨r1, _⟩ := opt_core M A T m (mv b k j) D hd
    have g1 := M.inc k hk (a k + 1) (b k) (by (first | exact Nat.lt_succ_of_le (by assumption) | lia | omega)) (by (first | assumption | lia | omega)) hbS
    have g2 := M.inc j hj (b j + 1) (a j) (by (first | exact Nat.lt_succ_of_le (by assumption) | lia | omega)) (by (first | assumption | lia | omega)) haS
    have g3 := T j k hj hk (Ne.symm hkj) (by (first | exact Nat.lt_of_le_of_lt (by assumption) (by assumption) | lia | omega))
    refine ⟨by (first | lia | omega), fun hs _ => ?_⟩
    have g4 := hs j k hj hk (Ne.symm hkj) (by (first | exact Nat.lt_of_le_of_lt (by assumption) (by assumption) | lia | omega))
    (first | lia | omega)

theorem opt_zero {n S lo : Nat} {f g : Nat → Nat → Int} (M : Mkt n S lo f g) {a : Nat → Nat} (A : Deal n S lo a) (T : Stab n lo g a) : ∀ (m : Nat) (b : Nat → Nat), tot b n = (S : Int) → sumF (fun i => ((lo - b i : Nat) : Int)) n = (m : Int) → 0 < m → cst f a n < cst f b n
  | 0, _, _, _, h => absurd h (Nat.lt_irrefl 0)
  | m + 1, b, hb, hm, _ => by
    have z : ∀ n, sumF (fun _ => (0 : Int)) n = 0 := by
      intro n; induction n with
      | zero => rfl
      | succ n ih => show sumF _ n + 0 = 0; rw [ih]; rfl
    obtain ⟨i, hi, hil⟩ : ∃ i, i < n ∧ b i < lo := by
      refine Classical.byContradiction fun q => ?_
      have : sumF (fun i => ((lo - b i : Nat) : Int)) n = sumF (fun _ => 0) n := sumF_congr fun i hi => by
        have : ¬ b i < lo := fun z => q ⟨i, hi, z⟩
        show ((lo - b i : Nat) : Int) = 0
        (first | lia | omega)
      rw [z, hm] at this
      (first | (simp only [Int.natCast_add, Int.natCast_one] at *; lia) | lia | omega)
    obtain ⟨j, hj, hjl⟩ : ∃ j, j < n ∧ lo < b j := by
      refine Classical.byContradiction fun q => ?_
      have h1 : sumF (fun i => (lo : Int) - (b i : Int)) n = sumF (fun _ => (lo : Int)) n - tot b n := sumF_sub
      have h2 : ∀ n, sumF (fun _ => (lo : Int)) n = ((n * lo : Nat) : Int) := by
        intro n; induction n with
        | zero => show (0 : Int) = ((0 * lo : Nat) : Int); rw [Nat.zero_mul]; rfl
        | succ n ih => show sumF _ n + (lo : Int) = _; rw [ih, Nat.succ_mul]; (first | (simp; done) | lia | omega)
      have h3 := sumF_pos (F := fun i => (lo : Int) - (b i : Int)) (n := n) (k := i) (fun i hi => by
        have : ¬ lo < b i := fun z => q ⟨i, hi, z⟩
        show 0 ≤ (lo : Int) - (b i : Int)
        (first | lia | omega)) hi
      rw [h1, h2, hb] at h3
      have := M.fits
      have h3 : (lo : Int) - (b i : Int) ≤ ((n * lo : Nat) : Int) - (S : Int) := h3
      (first | lia | omega)
    have hij : j ≠ i := fun z => by subst z; (first | lia | omega)
    have hbS := le_tot hb hj
    have hz := M.zero i j hi hj (Ne.symm hij) (b i) (b j) hil hjl hbS
    have hc := mv_cost (f := f) (b := b) hij hj hi
    have ht := mv_tot hij hj hi (show 0 < b j by (first | lia | omega))
    obtain ⟨m1, m2, m3⟩ := mv_at (b := b) hij
    have hd : sumF (fun x => ((lo - mv b j i x : Nat) : Int)) n = (m : Int) := by
      have := mv_cost (f := fun _ x => ((lo - x : Nat) : Int)) (b := b) hij hj hi
      have this : sumF (fun x => ((lo - mv b j i x : Nat) : Int)) n = sumF (fun i => ((lo - b i : Nat) : Int)) n - ((lo - b j : Nat) : Int) + ((lo - (b j - 1) : Nat) : Int) - ((lo - b i : Nat) : Int) + ((lo - (b i + 1) : Nat) : Int) := this
      rw [this, hm, sub_two hil, Nat.sub_eq_zero_of_le (Nat.le_of_lt hjl), Nat.sub_eq_zero_of_le (Nat.le_sub_one_of_lt hjl)]
      exact fin_two
    have hlt : cst f (mv b j i) n < cst f b n := by (first | lia | omega)
    rcases Nat.eq_zero_or_pos m with e | e
    · subst e
      have D : Deal n S lo (mv b j i) := ⟨ht.trans hb, fun x hx => by
        have := sumF_pos (F := fun x => ((lo - mv b j i x : Nat) : Int)) (fun i _ => Int.natCast_nonneg _) hx
        rw [hd] at this
        have this : ((lo - mv b j i x : Nat) : Int) ≤ ((0 : Nat) : Int) := this
        (first | lia | omega)⟩
      obtain ⟨k, hk⟩ : ∃ k : Nat, sumF (fun x => ((mv b j i x - a x : Nat) : Int)) n = (k : Int) := by
        have h0 : 0 ≤ sumF (fun x => ((mv b j i x - a x : Nat) : Int)) n := by
          have := sumF_le (F := fun _ => 0) (G := fun x => ((mv b j i x - a x : Nat) : Int)) (n := n) fun i _ => Int.natCast_nonneg _
          rw [z] at this; exact this
        exact ⟨_, (Int.toNat_of_nonneg h0).symm⟩
      have := (opt_core M A T k _ D hk).1
      (first | exact Int.lt_of_le_of_lt (by assumption) (by assumption) | lia | omega)
    · have := opt_zero M A T m (mv b j i) (ht.trans hb) hd e
      (first | lia | omega)

theorem sumF_nat {F : Nat → Nat} : ∀ n, ∃ k : Nat, sumF (fun i => (F i : Int)) n = (k : Int)
  | 0 => ⟨0, rfl⟩
  | n + 1 => by
    obtain ⟨k, hk⟩ := sumF_nat (F := F) n
    exact ⟨k + F n, by show sumF _ n + (F n : Int) = _; rw [hk]; (first | (simp; done) | lia | omega)⟩
theorem opt {n S lo : Nat} {f g : Nat → Nat → Int} (M : Mkt n S lo f g) {a : Nat → Nat} (A : Deal n S lo a) (T : Stab n lo g a) {b : Nat → Nat} (hb : tot b n = (S : Int)) :
    cst f a n ≤ cst f b n ∧ ((∀ i j, i < n → j < n → i ≠ j → lo < a i → g i (a i) < g j (a j + 1)) → cst f b n = cst f a n → ∀ i, i < n → b i = a i) ∧ (cst f b n = cst f a n → ∀ i, i < n → lo ≤ b i) := by
  obtain ⟨z, hz⟩ := sumF_nat (F := fun i => lo - b i) n
  obtain ⟨m, hm⟩ := sumF_nat (F := fun i => b i - a i) n
  rcases Nat.eq_zero_or_pos z with e | e
  · subst e
    have B : Deal n S lo b := ⟨hb, fun i hi => by
      have := sumF_pos (F := fun i => ((lo - b i : Nat) : Int)) (fun i _ => Int.natCast_nonneg _) hi
      rw [hz] at this
      have this : ((lo - b i : Nat) : Int) ≤ ((0 : Nat) : Int) := this
      (first | lia | omega)⟩
    obtain ⟨h1, h2⟩ := opt_core M A T m b B hm
    refine ⟨h1, fun hs he i hi => ?_, fun _ => B.lo⟩
    have hm0 : m = 0 := by
      refine Classical.byContradiction fun q => ?_
      have := h2 hs (by (first | lia | omega))
      (first | lia | omega)
    subst hm0
    have hle : ∀ i, i < n → b i ≤ a i := fun i hi => by
      have := sumF_pos (F := fun i => ((b i - a i : Nat) : Int)) (fun i _ => Int.natCast_nonneg _) hi
      rw [hm] at this
      have this : ((b i - a i : Nat) : Int) ≤ ((0 : Nat) : Int) := this
      (first | lia | omega)
    refine Classical.byContradiction fun q => ?_
    obtain ⟨j, hj, h⟩ := tot_less (a := b) (b := a) (A.tot.trans hb.symm) hi (by have := hle i hi; (first | lia | omega))
    have := hle j hj
    (first | lia | omega)
  · have := opt_zero M A T z b hb hz e
    exact ⟨Int.le_of_lt this, fun _ he => by (first | lia | omega), fun he => by (first | lia | omega)⟩
theorem opt_tie {n S lo : Nat} {f g : Nat → Nat → Int} (M : Mkt n S lo f g) {a : Nat → Nat} (A : Deal n S lo a) {i j : Nat} (hi : i < n) (hj : j < n) (hij : i ≠ j) (hl : lo < a i) (e : g i (a i) = g j (a j + 1)) :
    tot (mv a i j) n = (S : Int) ∧ cst f (mv a i j) n = cst f a n ∧ mv a i j i ≠ a i := by
  have h1 := mv_tot hij hi hj (show 0 < a i by (first | lia | omega))
  have h2 := mv_step M hij hi hj A.tot hl (A.lo j hj)
  refine ⟨h1.trans A.tot, by (first | lia | omega), ?_⟩
  rw [(mv_at hij).1]; (first | lia | omega)
theorem opt_lex {n S lo : Nat} {f g : Nat → Nat → Int} (M : Mkt n S lo f g) {a : Nat → Nat} (A : Deal n S lo a) (T : Stab n lo g a) (L : ∀ i j, i < n → j < n → i ≠ j → lo < a i → g i (a i) = g j (a j + 1) → i < j)
    {b : Nat → Nat} (hb : tot b n = (S : Int)) (he : cst f b n = cst f a n) {k : Nat} (hk : k < n) (hlt : a k < b k) (hpre : ∀ i, i < k → b i = a i) : False := by
  have hlo := (opt M A T hb).2.2 he
  obtain ⟨j, hj, hjb⟩ := tot_less (hb.trans A.tot.symm) hk hlt
  have hkj : k < j := by
    refine Nat.lt_of_le_of_ne (Nat.not_lt.mp fun z => ?_) (fun z => by subst z; (first | lia | omega))
    have := hpre j z
    (first | lia | omega)
  have hne : k ≠ j := Nat.ne_of_lt hkj
  have hak := A.lo k hk
  have hbj := hlo j hj
  have hms := mv_step M hne hk hj hb (by (first | lia | omega)) hbj
  have hmt := mv_tot hne hk hj (show 0 < b k by (first | lia | omega))
  have h1 := (opt M A T (hmt.trans hb)).1
  have g1 := M.inc k hk (a k + 1) (b k) (by (first | exact Nat.lt_succ_of_le (by assumption) | lia | omega)) (by (first | assumption | lia | omega)) (le_tot hb hk)
  have g2 := M.inc j hj (b j + 1) (a j) (by (first | exact Nat.lt_succ_of_le (by assumption) | lia | omega)) (by (first | assumption | lia | omega)) (le_tot A.tot hj)
  have g3 := T j k hj hk (Ne.symm hne) (by (first | exact Nat.lt_of_le_of_lt (by assumption) (by assumption) | lia | omega))
  have g4 : g j (a j) ≠ g k (a k + 1) := fun z => by
    have := L j k hj hk (Ne.symm hne) (by (first | exact Nat.lt_of_le_of_lt (by assumption) (by assumption) | lia | omega)) z
    (first | lia | omega)
  (first | lia | omega)
end Mine
end

section
open PySem PySem.W PyProof.Rows PySem.Calls
set_option maxRecDepth 100000
namespace Mine

noncomputable abbrev PMap := Addr → Option Obj

noncomputable abbrev lobj (vs : Array Value) (n : Nat) : Obj := { cls := .type "list", dict := none, data := .seq vs n, slots := #[] }
noncomputable abbrev tobj (vs : Array Value) (n : Nat) : Obj := { cls := .type "tuple", dict := none, data := .seq vs n, slots := #[] }

set_option genInjectivity false in
set_option genSizeOfSpec false in
inductive PV where
  | none
  | bool (b : Bool)
  | int (i : Int)
  | str (s : Str)
  | tup (l : List PV)
  | list (l : List PV)
  | rng (a b : Int)
  | loc (a : Addr)
  | val (v : Value)

mutual
inductive Is (g : PMap) : PV → Value → Prop where
  | none : Is g .none .none
  | bool {b} : Is g (.bool b) (.bool b)
  | int {i t} : Is g (.int i) (.int i t)
  | str {s t} : Is g (.str s) (.str s t)
  | tup {l a vs n} : g a = some (tobj vs n) → Iss g l vs.toList → Is g (.tup l) (.ref a)
  | list {l a vs n} : g a = some (lobj vs n) → Iss g l vs.toList → Is g (.list l) (.ref a)
  | rng {a b r t u v} : g r = some { cls := .type "range", dict := Option.none, data := .fields #[.int a t, .int b u, .int 1 v], slots := #[] } → Is g (.rng a b) (.ref r)
  | loc {a} : Is g (.loc a) (.ref a)
  | val {v} : Is g (.val v) v
inductive Iss (g : PMap) : List PV → List Value → Prop where
  | nil : Iss g [] []
  | cons {d v ds vs} : Is g d v → Iss g ds vs → Iss g (d :: ds) (v :: vs)
end

noncomputable def Le (g g' : PMap) : Prop := ∀ a o, g a = some o → g' a = some o
theorem Le.refl (g : PMap) : Le g g := fun _ _ h => h
theorem Le.trans {g g' g'' : PMap} (h : Le g g') (k : Le g' g'') : Le g g'' := fun a o e => k a o (h a o e)

mutual
theorem Is.mono {g g' : PMap} (k : Le g g') : ∀ {d v}, Is g d v → Is g' d v
  | _, _, .none => .none
  | _, _, .bool => .bool
  | _, _, .int => .int
  | _, _, .str => .str
  | _, _, .tup h r => .tup (k _ _ h) (Iss.mono k r)
  | _, _, .list h r => .list (k _ _ h) (Iss.mono k r)
  | _, _, .rng h => .rng (k _ _ h)
  | _, _, .loc => .loc
  | _, _, .val => .val
theorem Iss.mono {g g' : PMap} (k : Le g g') : ∀ {ds vs}, Iss g ds vs → Iss g' ds vs
  | _, _, .nil => .nil
  | _, _, .cons h r => .cons (Is.mono k h) (Iss.mono k r)
end

theorem Iss.length {g : PMap} : ∀ {ds vs}, Iss g ds vs → vs.length = ds.length
  | _, _, .nil => rfl
  | _, _, .cons _ r => by rw [List.length_cons, List.length_cons, r.length]
theorem Iss.get {g : PMap} : ∀ {ds vs}, Iss g ds vs → ∀ (i : Nat) d, ds[i]? = some d → ∃ v, vs[i]? = some v ∧ Is g d v
  | _, _, .nil, i, d, h => by simp at h
  | _, _, .cons h r, 0, d, e => by simp at e; subst e; exact ⟨_, rfl, h⟩
  | _, _, .cons _ r, i + 1, d, e => by simp at e; simpa using r.get i d e
theorem Iss.append {g : PMap} : ∀ {ds vs es ws}, Iss g ds vs → Iss g es ws → Iss g (ds ++ es) (vs ++ ws)
  | _, _, _, _, .nil, k => k
  | _, _, _, _, .cons h r, k => .cons h (r.append k)
theorem Iss.set {g : PMap} {d v} (k : Is g d v) : ∀ {ds vs} (i : Nat), Iss g ds vs → Iss g (ds.set i d) (vs.set i v)
  | _, _, _, .nil => .nil
  | _, _, 0, .cons _ r => .cons k r
  | _, _, i + 1, .cons h r => .cons h (Iss.set k i r)
theorem Iss.toInts {g : PMap} : ∀ {ns : List Int} {vs}, Iss g (ns.map PV.int) vs → IntsAre vs ns
  | [], _, h => by cases h; exact IntsAre.nil
  | n :: r, _, h => by
    cases h with
    | cons h k => cases h; exact IntsAre.cons _ _ (Iss.toInts k)
theorem Iss.of_ints {g : PMap} : ∀ {ns : List Int} {vs}, IntsAre vs ns → Iss g (ns.map PV.int) vs
  | _, _, .nil => .nil
  | _, _, .cons _ _ k => .cons .int (Iss.of_ints k)

noncomputable abbrev Vars := List (Str × PV)
noncomputable abbrev Mu := List (Addr × List PV)

set_option genInjectivity false in
set_option genSizeOfSpec false in
structure Wk where
  prog : Program
  w : World
  gens : Array GenState
  drawn : Drawn
  os : OsState
  base : Heap
  mg : Str → Option Value
  mb : Str → Option Value
noncomputable abbrev Wk.S (W : Wk) (h : Heap) (t : Nat) : Shared := ⟨h, W.gens, W.drawn, t, W.os⟩
noncomputable abbrev Wk.M (W : Wk) : Model := model W.prog W.w
structure Wk.Ok (W : Wk) : Prop where
  g : W.base.Ns mainGlobals W.mg
  b : W.base.Ns builtinsNs W.mb
  builtins : ∀ x : Str, x ≠ "__name__" → W.mb x = bootBuiltins x
  nolimit : W.base.NoLimit
  seer : W.base.NoSeer
  tree : W.prog.given.tree = none

noncomputable def UpTo (o : Obj) (h : Heap) (a : Addr) : Prop := ∃ sl, h.get? a = some { o with slots := sl } ∧ ((∀ es ep, o.data ≠ .dict es ep) → sl = o.slots)
theorem UpTo.keeps {o : Obj} {h h' : Heap} {a : Addr} (x : UpTo o h a) (k : ∀ b o, h.get? b = some o → h'.get? b = some o) : UpTo o h' a := let ⟨sl, e, r⟩ := x; ⟨sl, k _ _ e, r⟩
theorem UpTo.of {o : Obj} {h : Heap} {a : Addr} (e : h.get? a = some o) : UpTo o h a := ⟨o.slots, e, fun _ => rfl⟩

noncomputable def VarAt (h : Heap) (env : Env) (x : Str) (u : Value) : Prop :=
  (x == ("__debug__" : Str)) = false ∧ ((env.kindOf x = some .local ∧ ∃ m, h.Ns env.locals m ∧ m x = some u) ∨
    (∃ c, (env.kindOf x = some .cell ∨ (env.kindOf x = some .free ∧ (x == ("__classdict__" : Str)) = false)) ∧ env.cells.lookup x = some c ∧ h.IsCell c (some u)))
theorem VarAt.keeps {h h' : Heap} {env : Env} {x : Str} {u : Value} (v : VarAt h env x u) (k : ∀ b o, h.get? b = some o → h'.get? b = some o) : VarAt h' env x u := by
  obtain ⟨hd, ⟨hl, m, hn, hm⟩ | ⟨c, hk, hc, hv⟩⟩ := v
  · exact ⟨hd, .inl ⟨hl, m, hn.keeps k, hm⟩⟩
  · exact ⟨hd, .inr ⟨c, hk, hc, hv.keeps k⟩⟩

structure Rep (W : Wk) (hid g : PMap) (env : Env) (vars : Vars) (mu : Mu) (h : Heap) : Prop where
  bs : ∀ a o, W.base.get? a = some o → g a = some o
  gs : ∀ a o, g a = some o → h.get? a = some o
  hs : ∀ a o, hid a = some o → UpTo o h a
  gh : ∀ a o, g a = some o → hid a = none
  ns : ∃ m, h.Ns env.locals m
  vs : ∀ x d, vars.lookup x = some d → ∃ u, Is g d u ∧ VarAt h env x u
  gL : g env.locals = none
  hL : hid env.locals = none
  cell : ∀ x c, env.cells.lookup x = some c → (∃ v, h.IsCell c v) ∧ g c = none ∧ c ≠ env.locals
  cnd : ∀ x y c, env.cells.lookup x = some c → env.cells.lookup y = some c → x = y
  mus : ∀ a l, (a, l) ∈ mu → ∃ vs n, h.get? a = some (lobj vs n) ∧ Iss g l vs.toList ∧ g a = none ∧ hid a = none ∧ a ≠ env.locals ∧ ∀ x c, env.cells.lookup x = some c → c ≠ a
  mnd : (mu.map (·.1)).Nodup

structure RepE (W : Wk) (hid g : PMap) (h : Heap) : Prop where
  bs : ∀ a o, W.base.get? a = some o → g a = some o
  gs : ∀ a o, g a = some o → h.get? a = some o
  hs : ∀ a o, hid a = some o → UpTo o h a
  gh : ∀ a o, g a = some o → hid a = none
theorem Rep.e {W hid g env vars mu h} (R : Rep W hid g env vars mu h) : RepE W hid g h := ⟨R.bs, R.gs, R.hs, R.gh⟩

noncomputable abbrev Kept (h h' : Heap) : Prop := ∀ b o, h.get? b = some o → h'.get? b = some o

theorem Rep.keeps {W hid g env vars mu h h'} (R : Rep W hid g env vars mu h) (k : Kept h h') : Rep W hid g env vars mu h' where
  bs := R.bs
  gs := fun a o e => k _ _ (R.gs a o e)
  hs := fun a o e => (R.hs a o e).keeps k
  gh := R.gh
  ns := let ⟨m, hn⟩ := R.ns; ⟨m, hn.keeps k⟩
  vs := fun x d e => let ⟨u, i, v⟩ := R.vs x d e; ⟨u, i, v.keeps k⟩
  gL := R.gL
  hL := R.hL
  cell := fun x c e => let ⟨⟨v, hc⟩, r⟩ := R.cell x c e; ⟨⟨v, hc.keeps k⟩, r⟩
  cnd := R.cnd
  mus := fun a l e => let ⟨vs, n, x, r⟩ := R.mus a l e; ⟨vs, n, k _ _ x, r⟩
  mnd := R.mnd

noncomputable def ins (g : PMap) (a : Addr) (o : Obj) : PMap := fun b => if b = a then some o else g b
theorem ins_same (g : PMap) (a : Addr) (o : Obj) : ins g a o a = some o := if_pos rfl
theorem ins_other {g : PMap} {a b : Addr} {o : Obj} (h : b ≠ a) : ins g a o b = g b := if_neg h
theorem Rep.gnone {W hid g env vars mu h} (R : Rep W hid g env vars mu h) {a : Addr} (ha : h.get? a = none) : g a = none := by
  cases e : g a with
  | none => rfl
  | some o => rw [R.gs a o e] at ha; cases ha
theorem Rep.hnone {W hid g env vars mu h} (R : Rep W hid g env vars mu h) {a : Addr} (ha : h.get? a = none) : hid a = none := by
  cases e : hid a with
  | none => rfl
  | some o => obtain ⟨sl, x, _⟩ := R.hs a o e; rw [x] at ha; cases ha
theorem le_ins {g : PMap} {a : Addr} {o : Obj} (h : g a = none) : Le g (ins g a o) := fun b o' e => by
  by_cases q : b = a
  · subst q; rw [h] at e; cases e
  · rw [ins_other q]; exact e

theorem Rep.freeze {W hid g env vars mu h h'} (R : Rep W hid g env vars mu h) (k : Kept h h') {a : Addr} {o : Obj} (ha : h.get? a = none) (ho : h'.get? a = some o) :
    Rep W hid (ins g a o) env vars mu h' ∧ Le g (ins g a o) := by
  have l := le_ins (o := o) (R.gnone ha)
  have ne : ∀ {b o'}, h.get? b = some o' → b ≠ a := fun e q => by rw [q, ha] at e; cases e
  have R' := R.keeps k
  obtain ⟨m, hn⟩ := R.ns
  have hL : env.locals ≠ a := by obtain ⟨_, _, _, e, _⟩ := hn; exact ne e
  refine ⟨⟨fun b o' e => l _ _ (R.bs b o' e), fun b o' e => ?_, R'.hs, fun b o' e => ?_, R'.ns, fun x d e => let ⟨u, i, v⟩ := R'.vs x d e; ⟨u, i.mono l, v⟩, ?_, R.hL, fun x c e => ?_, R.cnd, fun b lb e => ?_, R.mnd⟩, l⟩
  · by_cases q : b = a
    · subst q; rw [ins_same] at e; cases e; exact ho
    · rw [ins_other q] at e; exact k _ _ (R.gs b o' e)
  · by_cases q : b = a
    · subst q; exact R.hnone ha
    · rw [ins_other q] at e; exact R.gh b o' e
  · rw [ins_other hL]; exact R.gL
  · obtain ⟨hc, hg, hx⟩ := R'.cell x c e
    obtain ⟨⟨v', hc'⟩, _⟩ := R.cell x c e
    have : c ≠ a := by obtain ⟨_, e, _⟩ := hc'; exact ne e
    exact ⟨hc, by rw [ins_other this]; exact hg, hx⟩
  · obtain ⟨vs, n, x, i, hg, r⟩ := R.mus b lb e
    exact ⟨vs, n, k _ _ x, i.mono l, by rw [ins_other (ne x)]; exact hg, r⟩

theorem Rep.fresh_size {h : Heap} : h.get? h.objs.size = none := by
  cases e : h.get? h.objs.size with
  | none => rfl
  | some o => exact absurd (Heap.lt_size e) (Nat.lt_irrefl _)
theorem kept_push (h : Heap) (o : Obj) : Kept h (h.push o) := fun _ _ e => Heap.get?_push_of_some _ e
theorem kept_trans {h h' h'' : Heap} (a : Kept h h') (b : Kept h' h'') : Kept h h'' := fun x o e => b x o (a x o e)

noncomputable def AsList (mu : Mu) (d : PV) (l : List PV) : Prop := d = .list l ∨ ∃ a, d = .loc a ∧ (a, l) ∈ mu
theorem AsList.list {mu l} : AsList mu (.list l) l := .inl rfl
theorem AsList.get {W hid g env vars mu h d l u} (x : AsList mu d l) (R : Rep W hid g env vars mu h) (i : Is g d u) : ∃ a vs, u = .ref a ∧ h.IsList a vs ∧ Iss g l vs.toList := by
  rcases x with rfl | ⟨a, rfl, hm⟩
  · cases i with
    | list e r => exact ⟨_, _, rfl, ⟨_, R.gs _ _ e, rfl, _, rfl⟩, r⟩
  · cases i
    obtain ⟨vs, n, e, r, _⟩ := R.mus a l hm
    exact ⟨a, vs, rfl, ⟨_, e, rfl, n, rfl⟩, r⟩

noncomputable def Ev (W : Wk) (A : Around) (hid : PMap) (env : Env) (vars : Vars) (mu : Mu) (e : Expr) (d : PV) : Prop :=
  ∀ g h t (Q : Value → Shared → Prop) (E : Value → Shared → Prop), Rep W hid g env vars mu h →
    (∀ u g' h' t', Le g g' → Rep W hid g' env vars mu h' → Is g' d u → Q u (W.S h' t')) → wpAny W.M A (eval e env) Q E (W.S h t)

noncomputable def Tr (W : Wk) (A : Around) (hid : PMap) (env : Env) (vars : Vars) (mu : Mu) (e : Expr) (b : Bool) : Prop :=
  ∀ g h t (Q : Bool → Shared → Prop) (E : Value → Shared → Prop), Rep W hid g env vars mu h →
    (∀ g' h' t', Le g g' → Rep W hid g' env vars mu h' → Q b (W.S h' t')) → wpAny W.M A (isTrue e env (eval e env)) Q E (W.S h t)

noncomputable def Op (W : Wk) (A : Around) (hid : PMap) (env : Env) (vars : Vars) (mu : Mu) (ds : List PV) (f : List Value → Sem Value) (d : PV) : Prop :=
  ∀ g h t us (Q : Value → Shared → Prop) (E : Value → Shared → Prop), Rep W hid g env vars mu h → Iss g ds us →
    (∀ u g' h' t', Le g g' → Rep W hid g' env vars mu h' → Is g' d u → Q u (W.S h' t')) → wpAny W.M A (f us) Q E (W.S h t)

noncomputable def EvArgs (W : Wk) (A : Around) (hid : PMap) (env : Env) (vars : Vars) (mu : Mu) (es : List Expr) (ds : List PV) : Prop :=
  ∀ pos g h t (Q : List Value → Shared → Prop) (E : Value → Shared → Prop), Rep W hid g env vars mu h →
    (∀ us g' h' t', Le g g' → Rep W hid g' env vars mu h' → Iss g' ds us → Q us (W.S h' t')) → wpAny W.M A (spliced (backTo pos (starEach es env))) Q E (W.S h t)

structure GName (W : Wk) (env : Env) (x : Str) (v : Value) : Prop where
  kind : env.scope.kind = .function
  glob : env.globals = mainGlobals
  bn : env.builtins = builtinsNs
  k : env.kindOf x = some .globalImplicit
  db : (x == ("__debug__" : Str)) = false
  v : W.mg x = some v ∨ (W.mg x = none ∧ x ≠ "__name__" ∧ bootBuiltins x = some v)

section
variable {W : Wk} {A : Around} {hid : PMap} {env : Env} {vars : Vars} {mu : Mu}

theorem ev_name {x : Str} {pos : Pos} {d : PV} (hd : vars.lookup x = some d) (hk : env.scope.kind = .function) : Ev W A hid env vars mu (.Name x pos) d := by
  intro g h t Q E R k
  obtain ⟨u, i, hdb, ⟨hl, m, hn, hm⟩ | ⟨c, hx, hc, hv⟩⟩ := R.vs x d hd
  · exact wpAny_Name (wpAny_loadName_local hk hl hn hm (k u g h t (Le.refl g) R i)) hdb
  · rcases hx with hx | ⟨hx, hcd⟩
    · exact wpAny_Name (wpAny_loadName_cell hk hx hc hv (k u g h t (Le.refl g) R i)) hdb
    · exact wpAny_Name (wpAny_loadName_free hk hx hc hv (k u g h t (Le.refl g) R i) hcd) hdb

theorem ev_int {i : Int} {k : Nat} {pos : Pos} : Ev W A hid env vars mu (.Constant (.int i) k pos) (.int i) :=
  fun g h t _ _ R kk => wpAny_Constant_int (kk _ g h _ (Le.refl g) R .int)
theorem ev_bool {b : Bool} {k : Nat} {pos : Pos} : Ev W A hid env vars mu (.Constant (.bool b) k pos) (.bool b) :=
  fun g h t _ _ R kk => wpAny_pure (kk _ g h _ (Le.refl g) R .bool)
theorem ev_none {k : Nat} {pos : Pos} : Ev W A hid env vars mu (.Constant .none k pos) .none :=
  fun g h t _ _ R kk => wpAny_pure (kk _ g h _ (Le.refl g) R .none)
theorem ev_str {x : Str} {k : Nat} {pos : Pos} : Ev W A hid env vars mu (.Constant (.str x) k pos) (.str x) :=
  fun g h t _ _ R kk => (fun Γ p _ => by
    show Sem.wp _ Γ (mkText x) _ _ p _
    rw [Sem.wp_cmd_mkText]; exact kk _ g h _ (Le.refl g) R .str)

theorem ev_binop {l r : Expr} {op : Operator} {pos : Pos} {a b d : PV} (ha : Ev W A hid env vars mu l a) (hb : Ev W A hid env vars mu r b)
    (hop : ∀ g h t u v Q E, Rep W hid g env vars mu h → Is g a u → Is g b v → (∀ x g' h' t', Le g g' → Rep W hid g' env vars mu h' → Is g' d x → Q x (W.S h' t')) → wpAny W.M A (binaryOp op u v) Q E (W.S h t)) :
    Ev W A hid env vars mu (.BinOp l op r pos) d := by
  intro g h t Q E R k
  refine wpAny_BinOp (ha g h t _ E R fun u g1 h1 t1 l1 R1 i1 => hb g1 h1 t1 _ E R1 fun v g2 h2 t2 l2 R2 i2 => ?_)
  exact hop g2 h2 t2 u v _ E R2 (i1.mono l2) i2 fun x g3 h3 t3 l3 R3 i3 => k x g3 h3 t3 ((l1.trans l2).trans l3) R3 i3

theorem ev_add {l r : Expr} {pos : Pos} {a b : Int} (ha : Ev W A hid env vars mu l (.int a)) (hb : Ev W A hid env vars mu r (.int b)) : Ev W A hid env vars mu (.BinOp l .Add r pos) (.int (a + b)) :=
  ev_binop ha hb fun g h t u v Q E R iu iv k => by
    cases iu; cases iv; exact P.add_int (k _ g h _ (Le.refl g) R .int)
theorem ev_sub {l r : Expr} {pos : Pos} {a b : Int} (ha : Ev W A hid env vars mu l (.int a)) (hb : Ev W A hid env vars mu r (.int b)) : Ev W A hid env vars mu (.BinOp l .Sub r pos) (.int (a - b)) :=
  ev_binop ha hb fun g h t u v Q E R iu iv k => by
    cases iu; cases iv; exact P.sub_int (k _ g h _ (Le.refl g) R .int)
theorem ev_mul {l r : Expr} {pos : Pos} {a b : Int} (ha : Ev W A hid env vars mu l (.int a)) (hb : Ev W A hid env vars mu r (.int b)) (hm : IntMulOk a b) : Ev W A hid env vars mu (.BinOp l .Mult r pos) (.int (a * b)) :=
  ev_binop ha hb fun g h t u v Q E R iu iv k => by
    cases iu; cases iv; exact P.mul_int (k _ g h _ (Le.refl g) R .int) hm
theorem ev_mod {l r : Expr} {pos : Pos} {a b : Int} (ha : Ev W A hid env vars mu l (.int a)) (hb : Ev W A hid env vars mu r (.int b)) (h0 : b ≠ 0) : Ev W A hid env vars mu (.BinOp l .Mod r pos) (.int (a.fmod b)) :=
  ev_binop ha hb fun g h t u v Q E R iu iv k => by
    cases iu; cases iv; exact mod_int' h0 (k _ g h _ (Le.refl g) R .int)
end
end Mine
end

section
open PySem PySem.W PyProof.Rows PySem.Calls
set_option linter.unusedVariables false
set_option maxRecDepth 100000
namespace Mine
section
variable {W : Wk} {A : Around} {hid : PMap} {env : Env} {vars : Vars} {mu : Mu}

theorem Rep.nsg {g h} (R : Rep W hid g env vars mu h) (O : W.Ok) : h.Ns mainGlobals W.mg := O.g.keeps fun b o e => R.gs _ _ (R.bs b o e)
theorem Rep.nsb {g h} (R : Rep W hid g env vars mu h) (O : W.Ok) : h.Ns builtinsNs W.mb := O.b.keeps fun b o e => R.gs _ _ (R.bs b o e)
theorem Rep.base {g h} (R : Rep W hid g env vars mu h) : Kept W.base h := fun b o e => R.gs _ _ (R.bs b o e)

theorem name_global {g h t x v pos} {Q : Value → Shared → Prop} {E} (O : W.Ok) (N : GName W env x v) (R : Rep W hid g env vars mu h) (k : Q v (W.S h t)) : wpAny W.M A (eval (.Name x pos) env) Q E (W.S h t) := by
  rcases N.v with e | ⟨e, hn, hb⟩
  · exact Name_function_global N.kind N.k (loadGlobal_global (by rw [N.glob]; exact R.nsg O) e k) N.db
  · exact Name_function_global N.kind N.k (loadGlobal_builtin (by rw [N.glob]; exact R.nsg O) e (by rw [N.bn]; exact R.nsb O) ((O.builtins x hn).trans hb) k) N.db

theorem Rep.alloc {g h} (R : Rep W hid g env vars mu h) (o : Obj) (hf : o.isFreed = false) : Rep W hid (ins g h.objs.size o) env vars mu (h.push o) ∧ Le g (ins g h.objs.size o) :=
  R.freeze (kept_push h o) Rep.fresh_size (Heap.get?_push_size _ hf)
theorem Rep.allocK {g₀ g h d} {o : Obj} {Q : Value → Shared → Prop} (R : Rep W hid g env vars mu h) (l : Le g₀ g) (k : ∀ u g' h' t', Le g₀ g' → Rep W hid g' env vars mu h' → Is g' d u → Q u (W.S h' t')) (hf : o.isFreed = false)
    {t' u} (i : Le g (ins g h.objs.size o) → Is (ins g h.objs.size o) d u) : Q u (W.S (h.push o) t') := k _ _ _ _ (l.trans (R.alloc o hf).2) (R.alloc o hf).1 (i (R.alloc o hf).2)

theorem evargs_nil : EvArgs W A hid env vars mu [] [] := fun pos g h t Q E R k => Calls.spliced_nil (k _ g h t (Le.refl g) R .nil)
theorem evargs_cons {e : Expr} {es : List Expr} {d ds} (he : Ev W A hid env vars mu e d) (hes : EvArgs W A hid env vars mu es ds)
    (hs : starEach (e :: es) env = (false, eval e env) :: starEach es env) : EvArgs W A hid env vars mu (e :: es) (d :: ds) := fun pos g h t Q E R k =>
  args_cons (he g h t _ E R fun u g1 h1 t1 l1 R1 i1 => hes pos g1 h1 t1 _ E R1 fun us g2 h2 t2 l2 R2 i2 => k _ g2 h2 t2 (l1.trans l2) R2 (.cons (i1.mono l2) i2)) hs

theorem ev_call_builtin {x : Str} {np pos : Pos} {id : String} {e : Expr} {es : List Expr} {ds : List PV} {d : PV} (O : W.Ok) (N : GName W env x (.builtin id)) (ha : EvArgs W A hid env vars mu (e :: es) ds)
    (hop : Op W A hid env vars mu ds (fun us => call (.builtin id) us) d)
    (hs : starEach (e :: es) env = (false, eval e env) :: starEach es env) (hp : (backTo pos (starEach es env)).any (·.1) = false) : Ev W A hid env vars mu (.Call (.Name x np) (e :: es) [] pos) d := fun g h t Q E R k =>
  Call_ (name_global O N R (PyProof.Rows.callWith_builtin1 (ha pos g h t _ E R fun us g1 h1 t1 l1 R1 i1 =>
    hop g1 h1 t1 us _ E R1 i1 fun u g2 h2 t2 l2 R2 i2 => k u g2 h2 t2 (l1.trans l2) R2 i2) hs hp)) rfl
theorem ev_call_type {x : Str} {np pos : Pos} {T : String} {e : Expr} {es : List Expr} {ds : List PV} {d : PV} (O : W.Ok) (N : GName W env x (.type T)) (ha : EvArgs W A hid env vars mu (e :: es) ds)
    (hop : Op W A hid env vars mu ds (fun us => call (.type T) us) d)
    (hs : starEach (e :: es) env = (false, eval e env) :: starEach es env) (hp : (backTo pos (starEach es env)).any (·.1) = false) : Ev W A hid env vars mu (.Call (.Name x np) (e :: es) [] pos) d := fun g h t Q E R k =>
  Call_ (name_global O N R (PyProof.Rows.callWith_type1 (ha pos g h t _ E R fun us g1 h1 t1 l1 R1 i1 =>
    hop g1 h1 t1 us _ E R1 i1 fun u g2 h2 t2 l2 R2 i2 => k u g2 h2 t2 (l1.trans l2) R2 i2) hs hp)) rfl

theorem op_len {d l} (hl : AsList mu d l) (hf : l.length < 2 ^ 62) : Op W A hid env vars mu [d] (fun us => call (.builtin "len") us) (.int l.length) := fun g h t us Q E R i k => by
  cases i with
  | cons i r =>
    cases r
    obtain ⟨a, vs, rfl, h1, h2⟩ := hl.get R i
    have e : vs.size = l.length := by have := h2.length; simpa using this
    refine call_len_list h1 (by rw [e]; omega) ?_
    rw [e]
    exact k _ g h _ (Le.refl g) R .int
theorem op_sum {d} {ns : List Int} (hh : A.handled = none) (hl : AsList mu d (ns.map .int)) : Op W A hid env vars mu [d] (fun us => call (.builtin "sum") us) (.int ns.sum) := fun g h t us Q E R i k => by
  cases i with
  | cons i r =>
    cases r
    obtain ⟨a, vs, rfl, h1, h2⟩ := hl.get R i
    have hi := h2.toInts
    obtain ⟨xs, hx⟩ := hi.allInts.items
    rw [Array.toArray_toList] at hx
    subst hx
    refine sum_intListG hh h1 fun h' tk t' hk => ?_
    have hn := hi.numsOf
    rw [preSum_eq, List.take_of_length_le (by simp)]
    rw [nums_intItems] at hn
    rw [hn]
    exact k _ g h' _ (Le.refl g) (R.keeps hk) .int
theorem op_abs {n : Int} : Op W A hid env vars mu [.int n] (fun us => call (.builtin "abs") us) (.int (n.natAbs : Int)) := fun g h t us Q E R i k => by
  cases i with
  | cons i r =>
    cases r; cases i
    refine call_abs_int fun u tk => ?_
    have e : (if n < 0 then -n else n) = (n.natAbs : Int) := by split <;> (first | lia | omega)
    rw [e]
    exact k _ g h _ (Le.refl g) R .int
theorem op_int {n : Int} : Op W A hid env vars mu [.int n] (fun us => call (.type "int") us) (.int n) := fun g h t us Q E R i k => by
  cases i with
  | cons i r =>
    cases r; cases i
    exact call_int_int (k _ g h _ (Le.refl g) R .int)
theorem op_range1 {n : Int} : Op W A hid env vars mu [.int n] (fun us => call (.type "range") us) (.rng 0 n) := fun g h t us Q E R i k => by
  cases i with
  | cons i r =>
    cases r; cases i
    refine call_range_1 ?_
    exact R.allocK (Le.refl g) k rfl fun _ => .rng (ins_same _ _ _)
theorem op_range2 {n m : Int} : Op W A hid env vars mu [.int n, .int m] (fun us => call (.type "range") us) (.rng n m) := fun g h t us Q E R i k => by
  cases i with
  | cons i r =>
    cases i
    cases r with
    | cons i r =>
      cases r; cases i
      refine call_range_2 ?_
      exact R.allocK (Le.refl g) k rfl fun _ => .rng (ins_same _ _ _)

theorem ev_tuple {es : List Expr} {ds n pos} (ha : EvArgs W A hid env vars mu es ds) (hl : ds.length ≤ 1000) : Ev W A hid env vars mu (.Tuple es n pos) (.tup ds) := fun g h t Q E R k =>
  Tuple_ (ha pos g h t _ E R fun us g1 h1 t1 l1 R1 i1 => by
    refine wpAny_newObj_type ?_ (by show us.toArray.size ≤ sizeLine; rw [List.size_toArray, i1.length, sizeLine_eq]; (first | lia | omega))
    exact R1.allocK l1 k rfl fun l => .tup (ins_same _ _ _) (by simpa using i1.mono l))
theorem ev_list {es : List Expr} {ds pos} (ha : EvArgs W A hid env vars mu es ds) (hl : ds.length ≤ 1000) : Ev W A hid env vars mu (.List es pos) (.list ds) := fun g h t Q E R k =>
  List_ (ha pos g h t _ E R fun us g1 h1 t1 l1 R1 i1 => by
    refine wpAny_newObj_type ?_ (by show us.toArray.size ≤ sizeLine; rw [List.size_toArray, i1.length, sizeLine_eq]; (first | lia | omega))
    exact R1.allocK l1 k rfl fun l => .list (ins_same _ _ _) (by simpa using i1.mono l))

theorem ev_item {v s : Expr} {pos d i r} (hv : Ev W A hid env vars mu v d) (hs : Ev W A hid env vars mu s i)
    (hop : ∀ g h t u w Q E, Rep W hid g env vars mu h → Is g d u → Is g i w → (∀ x g' h' t', Le g g' → Rep W hid g' env vars mu h' → Is g' r x → Q x (W.S h' t')) → wpAny W.M A (subscriptTail v s u w) Q E (W.S h t)) :
    Ev W A hid env vars mu (.Subscript v s pos) r := fun g h t Q E R k =>
  Subscript_ (hv g h t _ E R fun u g1 h1 t1 l1 R1 i1 => hs g1 h1 t1 _ E R1 fun w g2 h2 t2 l2 R2 i2 =>
    hop g2 h2 t2 u w Q E R2 (i1.mono l2) i2 fun x g3 h3 t3 l3 R3 i3 => k x g3 h3 t3 ((l1.trans l2).trans l3) R3 i3)
end
end Mine
end

section
open PySem PySem.W PyProof.Rows PySem.Calls PySem.SeqAt
set_option linter.unusedVariables false
set_option maxRecDepth 100000
namespace Mine
section
variable {W : Wk} {A : Around} {hid : PMap} {env : Env} {vars : Vars} {mu : Mu}

structure AOk (W : Wk) (A : Around) (n : Nat) : Prop where
  handled : A.handled = none
  depth : A.depth + n ≤ 500
  units : A.units + 3 * n ≤ 4000
  frames : ∃ e l, A.frames = some (e :: l) ∧ e.scope.isGenerator = false ∧ e.scope.isCoroutine = false ∧ e.builtins = builtinsNs ∧ e.globals = mainGlobals

theorem pyl {n g h t} (O : W.Ok) (a : AOk W A n) (R : Rep W hid g env vars mu h) : PylongRoom W.M A (W.S h t) := by
  obtain ⟨e, l, h1, h2, h3, h4, h5⟩ := a.frames
  refine PylongRoom.of (O.nolimit.keeps R.base) ?_ (SeerAt.of (O.seer.keeps R.base) O.tree h1 h2 h3 h4 h5)
  have := a.depth
  show A.depth + 100 < 1000
  (first | lia | omega)

theorem ev_fdiv {n} {l r : Expr} {pos : Pos} {a b : Int} (O : W.Ok) (ao : AOk W A n) (ha : Ev W A hid env vars mu l (.int a)) (hb : Ev W A hid env vars mu r (.int b)) (h0 : b ≠ 0) : Ev W A hid env vars mu (.BinOp l .FloorDiv r pos) (.int (a.fdiv b)) :=
  ev_binop ha hb fun g h t u v Q E R iu iv k => by
    cases iu; cases iv; exact floordiv_int h0 (k _ g h _ (Le.refl g) R .int) (.inr (pyl O ao R))
theorem ev_pow {l r : Expr} {pos : Pos} {a n : Int} (ha : Ev W A hid env vars mu l (.int a)) (hb : Ev W A hid env vars mu r (.int n)) (hn : 0 ≤ n) (hs : (Builtin.Int.intBits a : Int) * n ≤ 2 ^ 27) : Ev W A hid env vars mu (.BinOp l .Pow r pos) (.int (a ^ n.toNat)) :=
  ev_binop ha hb fun g h t u v Q E R iu iv k => by
    cases iu; cases iv; exact pow_int hn hs (k _ g h _ (Le.refl g) R .int)
theorem ev_neg {e : Expr} {pos : Pos} {a : Int} (ha : Ev W A hid env vars mu e (.int a)) : Ev W A hid env vars mu (.UnaryOp .USub e pos) (.int (-a)) := fun g h t Q E R k => by
  show wpAny _ _ (do let v ← eval e env; standAt pos; holding [v] (unaryOp .USub v)) _ _ _
  refine wpAny_bind (ha g h t _ E R fun u g1 h1 t1 l1 R1 i1 => wpAny_bind (wpAny_standAt (wpAny_holding ?_)))
  cases i1
  exact P.neg_int (k _ g1 h1 _ l1 R1 .int)

theorem sub_ops (s : Expr) (u w : Value) : ∃ ops, subscripted s false u w = operate ops (getItem u w) := by
  cases s <;> first | exact ⟨_, rfl⟩ | (rename_i st _; cases st <;> exact ⟨_, rfl⟩)

noncomputable def idx (k : Int) (n : Nat) : Nat := if 0 ≤ k then k.toNat else (k + n).toNat

theorem ev_idx {v s : Expr} {pos d l k r} (hv : Ev W A hid env vars mu v d) (hs : Ev W A hid env vars mu s (.int k)) (hl : AsList mu d l) (h1 : -(l.length : Int) ≤ k) (h2 : k < l.length) (hn : l.length < 2 ^ 62)
    (hr : l[idx k l.length]? = some r) : Ev W A hid env vars mu (.Subscript v s pos) r :=
  ev_item hv hs fun g h t u w Q E R i j kk => by
    obtain ⟨a, vs, rfl, q1, q2⟩ := hl.get R i
    cases j
    rename_i tk
    obtain ⟨x, hx, ix⟩ := q2.get _ _ hr
    obtain ⟨ops, ho⟩ := sub_ops s (.ref a) (.int k tk)
    have hlen : vs.size = l.length := by have := q2.length; simpa using this
    refine tail_any q1.typeIs slot_list_getitem.lookup ?_ ho
    by_cases h0 : 0 ≤ k
    · rw [idx, if_pos h0] at hx
      exact wpAny_getItem_list q1 h0 (by (first | lia | omega)) (by simpa using hx) (kk x g h t (Le.refl g) R ix)
    · rw [idx, if_neg h0] at hx
      exact wpAny_getItem_list_neg q1 (by (first | lia | omega)) (by (first | lia | omega)) (by (first | lia | omega)) (by rw [hlen]; simpa using hx) (kk x g h t (Le.refl g) R ix)
theorem ev_tidx {v s : Expr} {pos l k r} (hv : Ev W A hid env vars mu v (.tup l)) (hs : Ev W A hid env vars mu s (.int k)) (h1 : 0 ≤ k) (h2 : k < l.length) (hn : l.length < 2 ^ 62)
    (hr : l[k.toNat]? = some r) : Ev W A hid env vars mu (.Subscript v s pos) r :=
  ev_item hv hs fun g h t u w Q E R i j kk => by
    cases i with
    | tup e q2 =>
      cases j
      rename_i a vs n tk
      obtain ⟨x, hx, ix⟩ := q2.get _ _ hr
      obtain ⟨ops, ho⟩ := sub_ops s (.ref a) (.int k tk)
      have hlen : vs.size = l.length := by have := q2.length; simpa using this
      have ht : IsTup h a vs := ⟨_, R.gs _ _ e, rfl, n, rfl⟩
      refine tail_any ht.typeIs slot_tuple_getitem.lookup (getItem_tuple (s := W.S h t) ht (by (first | lia | omega)) (by (first | lia | omega)) (j := k.toNat) ?_ (by simpa using hx) (kk x g h t (Le.refl g) R ix)) ho
      unfold seqIndex?
      rw [hlen]
      simp only [decide_eq_true_eq, Bool.and_eq_true]
      (repeat' split) <;> first | rfl | (first | lia | omega)

theorem ev_cmp {l r : Expr} {op : CmpOp} {pos : Pos} {a b d : PV} (ha : Ev W A hid env vars mu l a) (hb : Ev W A hid env vars mu r b) (hm : behindInMarks op r = false)
    (hop : Op W A hid env vars mu [a, b] (fun us => compareOp op (us.getD 0 .none) (us.getD 1 .none)) d) : Ev W A hid env vars mu (.Compare l [op] [r] pos) d := fun g h t Q E R k =>
  wpAny_Compare1 (ha g h t _ E R fun u g1 h1 t1 l1 R1 i1 => hb g1 h1 t1 _ E R1 fun v g2 h2 t2 l2 R2 i2 =>
    hop g2 h2 t2 [u, v] _ E R2 (.cons (i1.mono l2) (.cons i2 .nil)) fun x g3 h3 t3 l3 R3 i3 => k x g3 h3 t3 ((l1.trans l2).trans l3) R3 i3) hm
theorem tr_cmp {l r : Expr} {op : CmpOp} {pos : Pos} {a b : PV} {c : Bool} (ha : Ev W A hid env vars mu l a) (hb : Ev W A hid env vars mu r b) (hm : behindInMarks op r = false)
    (hop : Op W A hid env vars mu [a, b] (fun us => compareOp op (us.getD 0 .none) (us.getD 1 .none)) (.bool c)) : Tr W A hid env vars mu (.Compare l [op] [r] pos) c := fun g h t Q E R k =>
  wpAny_isTrue_Compare1 (ha g h t _ E R fun u g1 h1 t1 l1 R1 i1 => hb g1 h1 t1 _ E R1 fun v g2 h2 t2 l2 R2 i2 =>
    hop g2 h2 t2 [u, v] _ E R2 (.cons (i1.mono l2) (.cons i2 .nil)) fun x g3 h3 t3 l3 R3 i3 => by cases i3; exact wpAny_truthy_bool (k g3 h3 t3 ((l1.trans l2).trans l3) R3)) hm

theorem op2 {a b d : PV} {f : Value → Value → Sem Value} (h : ∀ g h t u v Q E, Rep W hid g env vars mu h → Is g a u → Is g b v → (∀ x g' h' t', Le g g' → Rep W hid g' env vars mu h' → Is g' d x → Q x (W.S h' t')) → wpAny W.M A (f u v) Q E (W.S h t)) :
    Op W A hid env vars mu [a, b] (fun us => f (us.getD 0 .none) (us.getD 1 .none)) d := fun g h' t us Q E R i k => by
  cases i with
  | cons i r => cases r with
    | cons j r => cases r; exact h g h' t _ _ Q E R i j k

theorem c_lt {a b : Int} : Op W A hid env vars mu [.int a, .int b] (fun us => compareOp .Lt (us.getD 0 .none) (us.getD 1 .none)) (.bool (decide (a < b))) :=
  op2 fun g h t u v Q E R i j k => by cases i; cases j; exact P.lt_int (k _ g h t (Le.refl g) R .bool)
theorem c_gt {a b : Int} : Op W A hid env vars mu [.int a, .int b] (fun us => compareOp .Gt (us.getD 0 .none) (us.getD 1 .none)) (.bool (decide (a > b))) :=
  op2 fun g h t u v Q E R i j k => by cases i; cases j; exact P.gt_int (k _ g h t (Le.refl g) R .bool)
theorem c_ge {a b : Int} : Op W A hid env vars mu [.int a, .int b] (fun us => compareOp .GtE (us.getD 0 .none) (us.getD 1 .none)) (.bool (decide (a ≥ b))) :=
  op2 fun g h t u v Q E R i j k => by cases i; cases j; exact P.ge_int (k _ g h t (Le.refl g) R .bool)
theorem c_eq {a b : Int} : Op W A hid env vars mu [.int a, .int b] (fun us => compareOp .Eq (us.getD 0 .none) (us.getD 1 .none)) (.bool (a == b)) :=
  op2 fun g h t u v Q E R i j k => by cases i; cases j; exact P.eq_int (k _ g h t (Le.refl g) R .bool)
theorem c_eqs {a b : Str} : Op W A hid env vars mu [.str a, .str b] (fun us => compareOp .Eq (us.getD 0 .none) (us.getD 1 .none)) (.bool (a == b)) :=
  op2 fun g h t u v Q E R i j k => by cases i; cases j; exact PyProof.Rows.eq_str (k _ g h t (Le.refl g) R .bool)
noncomputable def PV.isNone : PV → Bool
  | .none => true
  | _ => false
theorem c_isn {a : PV} (ha : ∀ v, a ≠ .val v) : Op W A hid env vars mu [a, .none] (fun us => compareOp .Is (us.getD 0 .none) (us.getD 1 .none)) (.bool a.isNone) :=
  op2 fun g h t u v Q E R i j k => by
    cases j
    cases i <;> first | exact absurd rfl (ha _) | exact is_none_none (k _ g h t (Le.refl g) R .bool) | exact is_none_ne (by intro q; cases q) (k _ g h t (Le.refl g) R .bool)
theorem c_isnn {a : PV} (ha : ∀ v, a ≠ .val v) : Op W A hid env vars mu [a, .none] (fun us => compareOp .IsNot (us.getD 0 .none) (us.getD 1 .none)) (.bool (!a.isNone)) :=
  op2 fun g h t u v Q E R i j k => by
    cases j
    cases i <;> first | exact absurd rfl (ha _) | exact isnot_none_none (k _ g h t (Le.refl g) R .bool) | exact isnot_none_ne (by intro q; cases q) (k _ g h t (Le.refl g) R .bool)
theorem c_ini {d} {ns : List Int} {x : Int} (hl : AsList mu d (ns.map .int)) : Op W A hid env vars mu [.int x, d] (fun us => compareOp .In (us.getD 0 .none) (us.getD 1 .none)) (.bool (ns.any (· == x))) :=
  op2 fun g h t u v Q E R i j k => by
    obtain ⟨a, vs, rfl, q1, q2⟩ := hl.get R j
    cases i
    exact in_list_ints (vs := vs.toList) (by simpa using q1) q2.toInts (k _ g h t (Le.refl g) R .bool)
theorem c_ins {d} {ns : List Str} {x : Str} (hl : AsList mu d (ns.map .str)) : Op W A hid env vars mu [.str x, d] (fun us => compareOp .In (us.getD 0 .none) (us.getD 1 .none)) (.bool (ns.any (· == x))) :=
  op2 fun g h t u v Q E R i j k => by
    obtain ⟨a, vs, rfl, q1, q2⟩ := hl.get R j
    cases i
    rename_i tk
    have key : ∀ {ns : List Str} {vs : List Value}, Iss g (ns.map .str) vs → vs.any (fun v => match v with | .str y _ => y == x | _ => false) = ns.any (· == x) ∧ ∀ y ∈ vs, ∃ z tz, y = .str z tz := by
      intro ns
      induction ns with
      | nil => intro vs h; cases h; exact ⟨rfl, fun y hy => nomatch hy⟩
      | cons n r ih =>
        intro vs h
        cases h with
        | cons h1 h2 =>
          cases h1
          obtain ⟨k1, k2⟩ := ih h2
          refine ⟨by simp [k1], fun y hy => ?_⟩
          rcases List.mem_cons.mp hy with rfl | hy
          · exact ⟨_, _, rfl⟩
          · exact k2 y hy
    obtain ⟨k1, k2⟩ := key q2
    refine in_listAt (fun v => match v with | .str y _ => y == x | _ => false) q1 (fun y hy => ?_) ?_
    · obtain ⟨z, tz, rfl⟩ := k2 y (by simpa using hy)
      exact fun prog w E Q hq => eqBool_str hq
    · rw [show vs.any (fun v => match v with | .str y _ => y == x | _ => false) = ns.any (· == x) by rw [← k1]; simp]
      exact k _ g h t (Le.refl g) R .bool
end
end Mine
end

section
open PySem PySem.W PyProof.Rows PySem.Calls PySem.SeqAt
set_option linter.unusedVariables false
set_option maxRecDepth 100000
namespace Mine

theorem perm_sorted_eq {l₁ l₂ : List Int} (p : l₁.Perm l₂) (h₁ : l₁.Pairwise (· ≤ ·)) (h₂ : l₂.Pairwise (· ≤ ·)) : l₁ = l₂ := by
  induction l₁ generalizing l₂ with
  | nil => exact (List.nil_perm.mp p).symm
  | cons a r ih =>
    cases l₂ with
    | nil => exact absurd p.symm (by simp)
    | cons b s =>
      have ha := List.pairwise_cons.mp h₁
      have hb := List.pairwise_cons.mp h₂
      have e : a = b := by
        have m1 : a ∈ b :: s := p.subset List.mem_cons_self
        have m2 : b ∈ a :: r := p.symm.subset List.mem_cons_self
        rcases List.mem_cons.mp m1 with e | m1
        · exact e
        · rcases List.mem_cons.mp m2 with e | m2
          · exact e.symm
          · have := ha.1 b m2; have := hb.1 a m1; (first | lia | omega)
      subst e
      rw [ih (List.Perm.cons_inv p) ha.2 hb.2]
noncomputable def sortI (l : List Int) : List Int := l.mergeSort (fun a b => decide (a ≤ b))
theorem sortI_perm (l : List Int) : (sortI l).Perm l := List.mergeSort_perm _ _
theorem sortI_sorted (l : List Int) : (sortI l).Pairwise (· ≤ ·) := by
  have := List.pairwise_mergeSort (le := fun a b : Int => decide (a ≤ b)) (fun a b c h1 h2 => by simp at *; (first | exact Int.le_trans (by assumption) (by assumption) | lia | omega)) (fun a b => by simp; (first | lia | omega)) l
  exact this.imp (by simp)
theorem eq_sortI {l l' : List Int} (p : l'.Perm l) (h : l'.Pairwise (· ≤ ·)) : l' = sortI l := perm_sorted_eq (p.trans (sortI_perm l).symm) h (sortI_sorted l)

section
variable {W : Wk} {A : Around} {hid : PMap} {env : Env} {vars : Vars} {mu : Mu}

theorem op_sorted {d} {ns : List Int} (hl : AsList mu d (ns.map .int)) (h64 : ns.length < 64) : Op W A hid env vars mu [d] (fun us => call (.builtin "sorted") us) (.list ((sortI ns).map .int)) := fun g h t us Q E R i k => by
  cases i with
  | cons i r =>
    cases r
    obtain ⟨a, vs, rfl, q1, q2⟩ := hl.get R i
    have hi := q2.toInts
    have hlen : vs.toList.length = ns.length := by have := q2.length; simpa using this
    refine sorted_ints (vs := vs.toList) (by simpa using q1) hi (by (first | lia | omega)) fun out ns' a1 a2 a3 => ?_
    obtain ⟨e, he⟩ := sortedAll_at h vs.toList out
    obtain ⟨R', l⟩ := R.freeze (h' := sortedAll h vs.toList out) (fun _ _ => sortedAll_old) (a := h.objs.size + 1) (by
      cases q : h.get? (h.objs.size + 1) with
      | none => rfl
      | some o => exact absurd (Heap.lt_size q) (Nat.not_lt.mpr (Nat.le_succ _))) he
    rw [← eq_sortI a2 a3] at k
    exact k _ _ _ _ l R' (.list (ins_same _ _ _) ((Iss.of_ints a1).mono l))
theorem op_max2 {a b : Int} (hh : A.handled = none) : Op W A hid env vars mu [.int a, .int b] (fun us => call (.builtin "max") us) (.int (max a b)) := fun g h t us Q E R i k => by
  cases i with
  | cons i r =>
    cases i
    cases r with
    | cons i r =>
      cases r; cases i
      refine max_two_ints hh fun h' tk hk => ?_
      split <;> rename_i hc
      · rw [show max a b = b by (first | lia | omega)] at k; exact k _ g h' _ (Le.refl g) (R.keeps hk) .int
      · rw [show max a b = a by (first | lia | omega)] at k; exact k _ g h' _ (Le.refl g) (R.keeps hk) .int
noncomputable def PV.truth (mu : Mu) : PV → Bool → Prop
  | .none, b => b = false
  | .bool c, b => b = c
  | .int i, b => b = (i != 0)
  | .list l, b => b = (!l.isEmpty) ∧ l.length < 2 ^ 62
  | .loc a, b => ∃ l, (a, l) ∈ mu ∧ b = (!l.isEmpty) ∧ l.length < 2 ^ 62
  | _, _ => False
theorem truthy_list {g h t a l} {vs : Array Value} {Q : Bool → Shared → Prop} {E} (q1 : h.IsList a vs) (q2 : Iss g l vs.toList) (hs : vs.size < 2 ^ 62) (k : ∀ t', Q (!l.isEmpty) (W.S h t')) : wpAny W.M A (truthy (.ref a)) Q E (W.S h t) := by
  have e : (!l.isEmpty) = !vs.isEmpty := by
    have := q2.length
    obtain ⟨vs⟩ := vs
    cases l <;> cases vs <;> simp_all
  rw [e] at k
  exact wpAny_truthy_list q1 (by (first | lia | omega)) (k _)
theorem truthy_pv {g h t d u b} {Q : Bool → Shared → Prop} {E} (R : Rep W hid g env vars mu h) (i : Is g d u) (hb : d.truth mu b) (k : ∀ t', Q b (W.S h t')) : wpAny W.M A (truthy u) Q E (W.S h t) := by
  cases i with
  | none => cases hb; exact wpAny_pure (k t)
  | bool => cases hb; exact wpAny_truthy_bool (k t)
  | int => cases hb; exact P.truthy_int (k t)
  | str => exact hb.elim
  | tup => exact hb.elim
  | list e q =>
    obtain ⟨rfl, hb⟩ := hb
    exact truthy_list (g := g) ⟨_, R.gs _ _ e, rfl, _, rfl⟩ q (by have := q.length; simp at this; (first | lia | omega)) k
  | rng => exact hb.elim
  | loc =>
    obtain ⟨l, hm, rfl, hb⟩ := hb
    obtain ⟨vs, n, e, r, _⟩ := R.mus _ l hm
    exact truthy_list ⟨_, e, rfl, n, rfl⟩ r (by have := r.length; simp at this; (first | lia | omega)) k
  | val => exact hb.elim

theorem tr_of {e : Expr} {d b} (he : Ev W A hid env vars mu e d) (hb : d.truth mu b) (hf : ∀ v : Sem Value, isTrue e env v = (do let x ← v; standAt e.pos; holding [x] (truthy x))) : Tr W A hid env vars mu e b := fun g h t Q E R k => by
  rw [hf]
  refine wpAny_bind (he g h t _ E R fun u g1 h1 t1 l1 R1 i1 => wpAny_bind (wpAny_standAt (wpAny_holding ?_)))
  exact truthy_pv R1 i1 hb fun t' => k g1 h1 t' l1 R1
theorem tr_not {e : Expr} {pos b} (he : Tr W A hid env vars mu e b) : Tr W A hid env vars mu (.UnaryOp .Not e pos) (!b) := fun g h t Q E R k => by
  show wpAny _ _ (do return !(← isTrue e env (eval e env))) _ _ _
  exact wpAny_bind (he g h t _ E R fun g1 h1 t1 l1 R1 => wpAny_pure (k g1 h1 t1 l1 R1))
theorem all_and1 {es : List Expr} {a : Expr} (ha : Tr W A hid env vars mu a false) : ∀ g h t (Q : Bool → Shared → Prop) E, Rep W hid g env vars mu h → (∀ g' h' t', Le g g' → Rep W hid g' env vars mu h' → Q false (W.S h' t')) → wpAny W.M A (allTrue .And (a :: es) env) Q E (W.S h t) := fun g h t Q E R k => by
  show wpAny _ _ (do match BoolOp.And, ← isTrue a env (eval a env) with | .And, false => pure false | .Or, true => pure true | _, _ => allTrue .And es env) _ _ _
  exact wpAny_bind (ha g h t _ E R fun g1 h1 t1 l1 R1 => wpAny_pure (k g1 h1 t1 l1 R1))

inductive TrAll (W : Wk) (A : Around) (hid : PMap) (env : Env) (vars : Vars) (mu : Mu) (op : BoolOp) : List Expr → Bool → Prop where
  | nil : TrAll W A hid env vars mu op [] (op == .And)
  | stop {a es b} : Tr W A hid env vars mu a b → b = (op == .Or) → TrAll W A hid env vars mu op (a :: es) b
  | more {a es b c} : Tr W A hid env vars mu a b → b = (op == .And) → TrAll W A hid env vars mu op es c → TrAll W A hid env vars mu op (a :: es) c
theorem TrAll.run {op es b} (x : TrAll W A hid env vars mu op es b) : ∀ g h t (Q : Bool → Shared → Prop) E, Rep W hid g env vars mu h → (∀ g' h' t', Le g g' → Rep W hid g' env vars mu h' → Q b (W.S h' t')) → wpAny W.M A (allTrue op es env) Q E (W.S h t) := by
  induction x with
  | nil => intro g h t Q E R k; exact wpAny_pure (k g h t (Le.refl g) R)
  | @stop a es b ha hb =>
    intro g h t Q E R k
    show wpAny _ _ (do match op, ← isTrue a env (eval a env) with | .And, false => pure false | .Or, true => pure true | _, _ => allTrue op es env) _ _ _
    refine wpAny_bind (ha g h t _ E R fun g1 h1 t1 l1 R1 => ?_)
    subst hb
    cases op <;> exact wpAny_pure (k g1 h1 t1 l1 R1)
  | @more a es b c ha hb _ ih =>
    intro g h t Q E R k
    show wpAny _ _ (do match op, ← isTrue a env (eval a env) with | .And, false => pure false | .Or, true => pure true | _, _ => allTrue op es env) _ _ _
    refine wpAny_bind (ha g h t _ E R fun g1 h1 t1 l1 R1 => ?_)
    subst hb
    cases op <;> exact ih g1 h1 t1 Q E R1 fun g2 h2 t2 l2 R2 => k g2 h2 t2 (l1.trans l2) R2
theorem tr_bool {op es pos b} (x : TrAll W A hid env vars mu op es b) : Tr W A hid env vars mu (.BoolOp op es pos) b := fun g h t Q E R k => x.run g h t Q E R k

theorem ev_if {c a b : Expr} {pos d} {x : Bool} (hc : Tr W A hid env vars mu c x) (ht : x = true → Ev W A hid env vars mu a d) (he : x = false → Ev W A hid env vars mu b d) : Ev W A hid env vars mu (.IfExp c a b pos) d := fun g h t Q E R k => by
  show wpAny _ _ (do if ← isTrue c env (eval c env) then eval a env else eval b env) _ _ _
  refine wpAny_bind (hc g h t _ E R fun g1 h1 t1 l1 R1 => ?_)
  cases x
  · exact he rfl g1 h1 t1 Q E R1 fun u g2 h2 t2 l2 R2 i2 => k u g2 h2 t2 (l1.trans l2) R2 i2
  · exact ht rfl g1 h1 t1 Q E R1 fun u g2 h2 t2 l2 R2 i2 => k u g2 h2 t2 (l1.trans l2) R2 i2
theorem ev_or {a b : Expr} {pos da d} {x : Bool} (ha : Ev W A hid env vars mu a da) (hx : da.truth mu x) (h1 : x = true → da = d) (h2 : x = false → Ev W A hid env vars mu b d) : Ev W A hid env vars mu (.BoolOp .Or [a, b] pos) d := fun g h t Q E R k => by
  show wpAny _ _ (boolOp pos .Or [eval a env, eval b env]) _ _ _
  refine wpAny_bind (ha g h t _ E R fun u g1 h1' t1 l1 R1 i1 => wpAny_bind (wpAny_standAt (wpAny_bind (wpAny_holding (truthy_pv R1 i1 hx fun t' => ?_)))))
  cases x
  · exact h2 rfl g1 h1' t' Q E R1 fun u g2 h2 t2 l2 R2 i2 => k u g2 h2 t2 (l1.trans l2) R2 i2
  · cases h1 rfl; exact wpAny_pure (k u g1 h1' t' l1 R1 i1)
theorem ev_and {a b : Expr} {pos da d} {x : Bool} (ha : Ev W A hid env vars mu a da) (hx : da.truth mu x) (h1 : x = false → da = d) (h2 : x = true → Ev W A hid env vars mu b d) : Ev W A hid env vars mu (.BoolOp .And [a, b] pos) d := fun g h t Q E R k => by
  show wpAny _ _ (boolOp pos .And [eval a env, eval b env]) _ _ _
  refine wpAny_bind (ha g h t _ E R fun u g1 h1' t1 l1 R1 i1 => wpAny_bind (wpAny_standAt (wpAny_bind (wpAny_holding (truthy_pv R1 i1 hx fun t' => ?_)))))
  cases x
  · cases h1 rfl; exact wpAny_pure (k u g1 h1' t' l1 R1 i1)
  · exact h2 rfl g1 h1' t' Q E R1 fun u g2 h2 t2 l2 R2 i2 => k u g2 h2 t2 (l1.trans l2) R2 i2
end
end Mine
end

section
open PySem PySem.W PyProof.Rows PySem.Calls PySem.SeqAt
set_option linter.unusedVariables false
set_option maxRecDepth 100000
namespace Mine

set_option genInjectivity false in
set_option genSizeOfSpec false in
inductive Out where
  | next (vars : Vars) (mu : Mu)
  | brk (vars : Vars) (mu : Mu)
  | cont (vars : Vars) (mu : Mu)
  | ret (d : PV)
  | exc (x : Value) (vars : Vars) (mu : Mu)

inductive FlowAt (W : Wk) (hid : PMap) (env : Env) (K : Out → Prop) (g : PMap) (mk : Vars → Mu → Out) (s : Shared) : Prop where
  | mk (vars : Vars) (mu : Mu) (g' : PMap) (h : Heap) (t : Nat) : s = W.S h t → K (mk vars mu) → (Le g g' ∧ Rep W hid g' env vars mu h) → FlowAt W hid env K g mk s
inductive FlowRet (W : Wk) (hid : PMap) (K : Out → Prop) (g : PMap) (u : Value) (s : Shared) : Prop where
  | mk (d : PV) (g' : PMap) (h : Heap) (t : Nat) : s = W.S h t → K (.ret d) → (Le g g' ∧ RepE W hid g' h ∧ Is g' d u) → FlowRet W hid K g u s
noncomputable def FlowOk (W : Wk) (hid : PMap) (env : Env) (K : Out → Prop) (g : PMap) : Flow → Shared → Prop
  | .next, s => FlowAt W hid env K g .next s
  | .brk, s => FlowAt W hid env K g .brk s
  | .cont, s => FlowAt W hid env K g .cont s
  | .ret u, s => FlowRet W hid K g u s

inductive XForm (W : Wk) (l : List Env) (g : PMap) (h₁ : Heap) (x : Value) (a : Addr) (h' : Heap) : Prop where
  | made (args : List Value) : Heap.MadeExcOf h₁ h' a x args → XForm W l g h₁ x a h'
  | fly (B : Heap) (a0 : Value) : Heap.FlyingW B l a x a0 h' → (∀ b o, g b = some o → B.get? b = some o) → (∀ b o, h₁.get? b = some o → (∀ es ep, o.data ≠ .dict es ep) → B.get? b = some o) → h₁.UpToSlots h' → XForm W l g h₁ x a h'
  | held (B : Heap) (a0 : Value) (L : Addr) (env : Env) (r : List Env) : l = env :: r → env.frame = some L → Heap.HeldW B l a x a0 L h' → (∀ b o, g b = some o → B.get? b = some o) → (∀ b o, h₁.get? b = some o → (∀ es ep, o.data ≠ .dict es ep) → B.get? b = some o) → h₁.UpToSlots h' → XForm W l g h₁ x a h'

inductive ExcOk (W : Wk) (A : Around) (hid : PMap) (env : Env) (K : Out → Prop) (g : PMap) (e : Value) (s : Shared) : Prop where
  | mk (x : Value) (vars : Vars) (mu : Mu) (g₁ : PMap) (h₁ : Heap) (a : Addr) (l : List Env) (h : Heap) (t : Nat) : e = .ref a → s = W.S h t → K (.exc x vars mu) → (Le g g₁ ∧ Rep W hid g₁ env vars mu h₁ ∧ A.frames = some l ∧ XForm W l g₁ h₁ x a h) → ExcOk W A hid env K g e s

noncomputable def Run (W : Wk) (A : Around) (hid : PMap) (env : Env) (vars : Vars) (mu : Mu) (t : Sem Flow) (K : Out → Prop) : Prop :=
  ∀ g h tk, Rep W hid g env vars mu h → wpAny W.M A t (FlowOk W hid env K g) (ExcOk W A hid env K g) (W.S h tk)

noncomputable abbrev Exs (W : Wk) (A : Around) (hid : PMap) (env : Env) (vars : Vars) (mu : Mu) (b : List Stmt) (K : Out → Prop) : Prop := Run W A hid env vars mu (execs b env) K
noncomputable abbrev Ex1 (W : Wk) (A : Around) (hid : PMap) (env : Env) (vars : Vars) (mu : Mu) (b : Stmt) (K : Out → Prop) : Prop := Run W A hid env vars mu (exec b env) K

section
variable {W : Wk} {A : Around} {hid : PMap} {env : Env} {vars : Vars} {mu : Mu} {K K' : Out → Prop}

theorem FlowOk.le {g g' f s} (l : Le g g') (x : FlowOk W hid env K g' f s) : FlowOk W hid env K g f s := by
  cases f with
  | ret u => obtain ⟨d, g'', h, t, e, k, l', r⟩ := x; exact ⟨d, g'', h, t, e, k, l.trans l', r⟩
  | next => obtain ⟨v, m, g'', h, t, e, k, l', r⟩ := x; exact ⟨v, m, g'', h, t, e, k, l.trans l', r⟩
  | brk => obtain ⟨v, m, g'', h, t, e, k, l', r⟩ := x; exact ⟨v, m, g'', h, t, e, k, l.trans l', r⟩
  | cont => obtain ⟨v, m, g'', h, t, e, k, l', r⟩ := x; exact ⟨v, m, g'', h, t, e, k, l.trans l', r⟩
theorem ExcOk.le {g g' e s} (l : Le g g') (x : ExcOk W A hid env K g' e s) : ExcOk W A hid env K g e s := by
  obtain ⟨x, vars, mu, g₁, h₁, a, fl, h, t, e1, e2, k, l', r⟩ := x
  exact ⟨x, vars, mu, g₁, h₁, a, fl, h, t, e1, e2, k, l.trans l', r⟩
theorem Run.imp {t} (x : Run W A hid env vars mu t K) (k : ∀ o, K o → K' o) : Run W A hid env vars mu t K' := fun g h tk R =>
  wpAny_mono (x g h tk R) (fun f s y => by
    cases f with
    | ret u => obtain ⟨d, g'', h, t, e, q, r⟩ := y; exact ⟨d, g'', h, t, e, k _ q, r⟩
    | next => obtain ⟨v, m, g'', h, t, e, q, r⟩ := y; exact ⟨v, m, g'', h, t, e, k _ q, r⟩
    | brk => obtain ⟨v, m, g'', h, t, e, q, r⟩ := y; exact ⟨v, m, g'', h, t, e, k _ q, r⟩
    | cont => obtain ⟨v, m, g'', h, t, e, q, r⟩ := y; exact ⟨v, m, g'', h, t, e, k _ q, r⟩) fun e s y => by
    obtain ⟨x, vars, mu, g₁, h₁, a, fl, h, t, e1, e2, q, r⟩ := y
    exact ⟨x, vars, mu, g₁, h₁, a, fl, h, t, e1, e2, k _ q, r⟩

noncomputable def Sub (v' v : Vars) : Prop := ∀ x d, v'.lookup x = some d → v.lookup x = some d
theorem Sub.nil {v : Vars} : Sub [] v := fun x d e => by cases e
theorem Sub.cons {v' v : Vars} {x : Str} {d : PV} (h : v.lookup x = some d) (s : Sub v' v) : Sub ((x, d) :: v') v := fun y e q => by
  rw [List.lookup_cons] at q
  cases hb : y == x with
  | true => rw [hb] at q; cases q; rw [beq_iff_eq.mp hb]; exact h
  | false => rw [hb] at q; exact s y e q
theorem Rep.forget {g h v' m'} (R : Rep W hid g env vars mu h) (s : Sub v' vars) (hm : m'.Sublist mu) : Rep W hid g env v' m' h :=
  ⟨R.bs, R.gs, R.hs, R.gh, R.ns, fun x d e => R.vs x d (s x d e), R.gL, R.hL, R.cell, R.cnd, fun a l e => R.mus a l (hm.subset e), (hm.map _).nodup R.mnd⟩
theorem run_forget {t v' m'} (s : Sub v' vars) (hm : m'.Sublist mu) (x : Run W A hid env v' m' t K) : Run W A hid env vars mu t K := fun g h tk R => x g h tk (R.forget s hm)

theorem exs_nil (k : K (.next vars mu)) : Exs W A hid env vars mu [] K := fun g h tk R => wpAny_execs_nil ⟨vars, mu, g, h, tk, rfl, k, Le.refl g, R⟩
theorem exs_cons {st rest} (x : Ex1 W A hid env vars mu st K') (h1 : ∀ v m, K' (.next v m) → Exs W A hid env v m rest K) (h2 : ∀ o, K' o → (∀ v m, o ≠ .next v m) → K o) : Exs W A hid env vars mu (st :: rest) K := fun g h tk R => by
  show wpAny _ _ (do match ← exec st env with | .next => execs rest env | f => pure f) _ _ _
  refine wpAny_bind (wpAny_mono (x g h tk R) (fun f s y => ?_) fun e s y => ?_)
  · cases f with
    | next =>
      obtain ⟨v, m, g', h', t', rfl, q, l, R'⟩ := y
      exact wpAny_mono (h1 v m q g' h' t' R') (fun f s y => y.le l) fun e s y => y.le l
    | brk => obtain ⟨v, m, g'', h, t, e, q, r⟩ := y; exact wpAny_pure ⟨v, m, g'', h, t, e, h2 _ q (fun _ _ z => nomatch z), r⟩
    | cont => obtain ⟨v, m, g'', h, t, e, q, r⟩ := y; exact wpAny_pure ⟨v, m, g'', h, t, e, h2 _ q (fun _ _ z => nomatch z), r⟩
    | ret u => obtain ⟨d, g'', h, t, e, q, r⟩ := y; exact wpAny_pure ⟨d, g'', h, t, e, h2 _ q (fun _ _ z => nomatch z), r⟩
  · obtain ⟨x, vars, mu, g₁, h₁, a, fl, h, t, e1, e2, q, r⟩ := y
    exact ⟨x, vars, mu, g₁, h₁, a, fl, h, t, e1, e2, h2 _ q (fun _ _ z => nomatch z), r⟩
theorem exs_next {st rest v m} (x : Ex1 W A hid env vars mu st (· = .next v m)) (k : Exs W A hid env v m rest K) : Exs W A hid env vars mu (st :: rest) K :=
  exs_cons x (fun v' m' e => by cases e; exact k) fun o e h => by subst e; exact absurd rfl (h _ _)

inductive Sto (hid : PMap) (env : Env) (x : Str) : Prop where
  | loc : env.kindOf x = some .local → Sto hid env x
  | cell (c : Addr) : env.kindOf x = some .cell → env.cells.lookup x = some c → hid c = none → Sto hid env x

theorem lookup_cons_ne {α : Type} {x y : Str} {d : α} {v : List (Str × α)} (h : y ≠ x) : ((x, d) :: v).lookup y = v.lookup y := by
  rw [List.lookup_cons, beq_false_of_ne h]
theorem lookup_cons_eq {α : Type} {x : Str} {d : α} {v : List (Str × α)} : ((x, d) :: v).lookup x = some d := by
  rw [List.lookup_cons, beq_self_eq_true]

theorem store_K {x : Str} {d : PV} {u : Value} {g h t} {Q : Unit → Shared → Prop} {E} (hs : Sto hid env x) (hk : env.scope.kind = .function) (hd : (x == ("__debug__" : Str)) = false) (R : Rep W hid g env vars mu h) (i : Is g d u)
    (k : ∀ h' t', Rep W hid g env ((x, d) :: vars) mu h' → Q () (W.S h' t')) : wpAny W.M A (storeName env x u) Q E (W.S h t) := by
  have vsStep : ∀ {h'}, (∀ y e, vars.lookup y = some e → y ≠ x → ∃ w, Is g e w ∧ VarAt h' env y w) → VarAt h' env x u → ∀ y e, ((x, d) :: vars).lookup y = some e → ∃ w, Is g e w ∧ VarAt h' env y w := by
    intro h' h1 h2 y e q
    by_cases hy : y = x
    · subst hy; rw [lookup_cons_eq] at q; cases q; exact ⟨u, i, h2⟩
    · rw [lookup_cons_ne hy] at q; exact h1 y e q hy
  rcases hs with hl | ⟨c, hl, hc, hh⟩
  · obtain ⟨m, hn⟩ := R.ns
    refine wpAny_storeName_local hl hn (fun h' hn' hs' => ?_) (by rw [hk]; rfl)
    refine k h' _ ⟨R.bs, fun a o e => ?_, fun a o e => ?_, R.gh, ⟨_, hn'⟩, vsStep (fun y e q hy => ?_) ⟨hd, .inl ⟨hl, _, hn', if_pos rfl⟩⟩, R.gL, R.hL, fun y c e => ?_, R.cnd, fun a l e => ?_, R.mnd⟩
    · exact (hs'.2 a (fun q => by rw [q, R.gL] at e; cases e)).trans (R.gs a o e)
    · obtain ⟨sl, e1, e2⟩ := R.hs a o e
      exact ⟨sl, (hs'.2 a (fun q => by rw [q, R.hL] at e; cases e)).trans e1, e2⟩
    · obtain ⟨w, i', hd', ⟨hl', m', hn2, hm'⟩ | ⟨c, hk', hc', hv'⟩⟩ := R.vs y e q
      · have : m' y = m y := by
          obtain ⟨o1, es1, ep1, p1, p2, p3, p4⟩ := hn
          obtain ⟨o2, es2, ep2, q1, q2, q3, q4⟩ := hn2
          rw [p1] at q1; cases q1; rw [p2] at q2; cases q2
          rw [← q4, ← p4]
        exact ⟨w, i', hd', .inl ⟨hl', _, hn', by rw [if_neg hy, ← this]; exact hm'⟩⟩
      · exact ⟨w, i', hd', .inr ⟨c, hk', hc', hv'.sameBut hs' (R.cell y c hc').2.2⟩⟩
    · obtain ⟨⟨v, hv⟩, r⟩ := R.cell y c e
      exact ⟨⟨v, hv.sameBut hs' r.2⟩, r⟩
    · obtain ⟨vs, n, e1, r1, r2, r3, r4, r5⟩ := R.mus a l e
      exact ⟨vs, n, (hs'.2 a r4).trans e1, r1, r2, r3, r4, r5⟩
  · obtain ⟨⟨v₀, hv₀⟩, hgc, hcL⟩ := R.cell x c hc
    obtain ⟨m, hn⟩ := R.ns
    refine wpAny_storeName_cell hk hl hc hv₀ fun h' hv' hs' => ?_
    refine k h' _ ⟨R.bs, fun a o e => ?_, fun a o e => ?_, R.gh, ⟨m, hn.sameBut hs' (Ne.symm hcL)⟩, vsStep (fun y e q hy => ?_) ⟨hd, .inr ⟨c, .inl hl, hc, hv'⟩⟩, R.gL, R.hL, fun y c' e => ?_, R.cnd, fun a l e => ?_, R.mnd⟩
    · exact (hs'.2 a (fun q => by rw [q, hgc] at e; cases e)).trans (R.gs a o e)
    · obtain ⟨sl, e1, e2⟩ := R.hs a o e
      exact ⟨sl, (hs'.2 a (fun q => by rw [q, hh] at e; cases e)).trans e1, e2⟩
    · obtain ⟨w, i', hd', ⟨hl', m', hn2, hm'⟩ | ⟨c', hk', hc', hvv⟩⟩ := R.vs y e q
      · exact ⟨w, i', hd', .inl ⟨hl', m', hn2.sameBut hs' (Ne.symm hcL), hm'⟩⟩
      · exact ⟨w, i', hd', .inr ⟨c', hk', hc', hvv.sameBut hs' fun q => hy (R.cnd y x c (q ▸ hc') hc)⟩⟩
    · obtain ⟨⟨v, hv⟩, r⟩ := R.cell y c' e
      by_cases q : c' = c
      · subst q; exact ⟨⟨_, hv'⟩, r⟩
      · exact ⟨⟨v, hv.sameBut hs' q⟩, r⟩
    · obtain ⟨vs, n, e1, r1, r2, r3, r4, r5⟩ := R.mus a l e
      exact ⟨vs, n, (hs'.2 a (fun q => r5 x c hc q.symm)).trans e1, r1, r2, r3, r4, r5⟩

theorem ex_assign {x : Str} {p pos : Pos} {e : Expr} {d : PV} (he : Ev W A hid env vars mu e d) (hs : Sto hid env x) (hsw : swapsWith e (some (.Name x p)) pos.line env = pure false) (hk : env.scope.kind = .function) (hd : (x == ("__debug__" : Str)) = false) :
    Ex1 W A hid env vars mu (.Assign [.Name x p] e pos) (· = .next ((x, d) :: vars) mu) := fun g h t R =>
  wpAny_Assign_Name (he g h t _ _ R fun u g1 h1 t1 l1 R1 i1 => store_K hs hk hd R1 i1 fun h2 t2 R2 => ⟨_, _, g1, h2, t2, rfl, rfl, l1, R2⟩) hsw

theorem ex_aug {x : Str} {p pos : Pos} {op : Operator} {e : Expr} {old b d : PV} (hx : vars.lookup x = some old) (he : Ev W A hid env vars mu e b) (hs : Sto hid env x) (hk : env.scope.kind = .function) (hd : (x == ("__debug__" : Str)) = false)
    (hop : Op W A hid env vars mu [old, b] (fun us => inplaceOp op (us.getD 0 .none) (us.getD 1 .none)) d) :
    Ex1 W A hid env vars mu (.AugAssign (.Name x p) op e pos) (· = .next ((x, d) :: vars) mu) := fun g h t R => by
  obtain ⟨u, i, hdb, hv⟩ := R.vs x old hx
  have load : ∀ {Q : Value → Shared → Prop} {E}, Q u (W.S h t) → wpAny W.M A (loadName env x) Q E (W.S h t) := by
    intro Q E q
    rcases hv with ⟨hl, m, hn, hm⟩ | ⟨c, hx, hc, hv⟩
    · exact wpAny_loadName_local hk hl hn hm q
    · rcases hx with hx | ⟨hx, hcd⟩
      · exact wpAny_loadName_cell hk hx hc hv q
      · exact wpAny_loadName_free hk hx hc hv q hcd
  exact wpAny_AugAssign_Name (load (he g h t _ _ R fun w g1 h1 t1 l1 R1 i1 => hop g1 h1 t1 [u, w] _ _ R1 (.cons (i.mono l1) (.cons i1 .nil)) fun z g2 h2 t2 l2 R2 i2 =>
    store_K hs hk hd R2 i2 fun h3 t3 R3 => ⟨_, _, g2, h3, t3, rfl, rfl, l1.trans l2, R3⟩))
theorem a_add {a b : Int} : Op W A hid env vars mu [.int a, .int b] (fun us => inplaceOp .Add (us.getD 0 .none) (us.getD 1 .none)) (.int (a + b)) :=
  op2 fun g h t u v Q E R i j k => by cases i; cases j; exact P.iadd_int (k _ g h _ (Le.refl g) R .int)
theorem a_mul {a b : Int} (hm : IntMulOk a b) : Op W A hid env vars mu [.int a, .int b] (fun us => inplaceOp .Mult (us.getD 0 .none) (us.getD 1 .none)) (.int (a * b)) :=
  op2 fun g h t u v Q E R i j k => by cases i; cases j; exact P.imul_int (k _ g h _ (Le.refl g) R .int) hm
theorem ex_if {c : Expr} {b1 b2 : List Stmt} {pos} {x : Bool} (hc : Tr W A hid env vars mu c x) (ht : x = true → Exs W A hid env vars mu b1 K) (he : x = false → Exs W A hid env vars mu b2 K) : Ex1 W A hid env vars mu (.If c b1 b2 pos) K := fun g h t R => by
  refine wpAny_If (hc g h t _ _ R fun g1 h1 t1 l1 R1 => ?_)
  cases x
  · exact wpAny_mono (he rfl g1 h1 t1 R1) (fun f s y => y.le l1) fun e s y => y.le l1
  · exact wpAny_mono (ht rfl g1 h1 t1 R1) (fun f s y => y.le l1) fun e s y => y.le l1
theorem ex_ret {e : Expr} {pos d} (he : Ev W A hid env vars mu e d) : Ex1 W A hid env vars mu (.Return (some e) pos) (· = .ret d) := fun g h t R =>
  wpAny_Return_some (he g h t _ _ R fun u g1 h1 t1 l1 R1 i1 => ⟨_, g1, h1, t1, rfl, rfl, l1, R1.e, i1⟩)

theorem Rep.freezeLoc {g h a l} (R : Rep W hid g env vars mu h) (hm : (a, l) ∈ mu) : ∃ o, Rep W hid (ins g a o) env vars (mu.filter (·.1 != a)) h ∧ Le g (ins g a o) ∧ Is (ins g a o) (.list l) (.ref a) := by
  obtain ⟨vs, n, e, r, hg, hh, hL, hc⟩ := R.mus a l hm
  have lle := le_ins (o := lobj vs n) hg
  refine ⟨_, ⟨fun b o q => lle _ _ (R.bs b o q), fun b o q => ?_, R.hs, fun b o q => ?_, R.ns, fun x d e => let ⟨u, i, v⟩ := R.vs x d e; ⟨u, i.mono lle, v⟩, by rw [ins_other (Ne.symm hL)]; exact R.gL, R.hL,
    fun x c q => ?_, R.cnd, fun b lb q => ?_, (List.filter_sublist.map _).nodup R.mnd⟩, lle, .list (ins_same _ _ _) (r.mono lle)⟩
  · by_cases z : b = a
    · subst z; rw [ins_same] at q; cases q; exact e
    · rw [ins_other z] at q; exact R.gs b o q
  · by_cases z : b = a
    · subst z; exact hh
    · rw [ins_other z] at q; exact R.gh b o q
  · obtain ⟨k1, k2, k3⟩ := R.cell x c q
    exact ⟨k1, by rw [ins_other (hc x c q)]; exact k2, k3⟩
  · obtain ⟨q1, q2⟩ := List.mem_filter.mp q
    have z : b ≠ a := by simpa using q2
    obtain ⟨vs', n', e', r', g', rest⟩ := R.mus b lb q1
    exact ⟨vs', n', e', r'.mono lle, by rw [ins_other z]; exact g', rest⟩
theorem ex_retloc {e : Expr} {pos a l} (he : Ev W A hid env vars mu e (.loc a)) (hm : (a, l) ∈ mu) : Ex1 W A hid env vars mu (.Return (some e) pos) (· = .ret (.list l)) := fun g h t R =>
  wpAny_Return_some (he g h t _ _ R fun u g1 h1 t1 l1 R1 i1 => by
    cases i1
    obtain ⟨o, R2, l2, i2⟩ := R1.freezeLoc hm
    exact ⟨_, _, h1, t1, rfl, rfl, l1.trans l2, R2.e, i2⟩)
end
end Mine
end

section
open PySem PySem.W PyProof.Rows PySem.Calls PySem.SeqAt
set_option linter.unusedVariables false
set_option maxRecDepth 100000
namespace Mine

noncomputable def rngL (a b : Int) : List PV := (List.range (b - a).toNat).map fun (i : Nat) => PV.int (a + (i : Int))

inductive Src (mu : Mu) : PV → List PV → Prop where
  | list {d l} : AsList mu d l → Src mu d l
  | tup {l} : Src mu (.tup l) l
  | rng {a b} : -(2 ^ 62) ≤ a → a < 2 ^ 62 → -(2 ^ 62) ≤ b → b < 2 ^ 62 → Src mu (.rng a b) (rngL a b)

inductive ItAt (u : Value) : PV → Nat → Addr → Heap → Prop where
  | list {d a i I h} : u = .ref a → (∀ l, d ≠ .tup l) → (∀ x y, d ≠ .rng x y) → h.IsListIter I a i → ItAt u d i I h
  | tup {l a i I h} : u = .ref a → h.IsTupleIter I a i → ItAt u (.tup l) i I h
  | rng {x y i I h} : IsRangeIter h I (x + (i : Nat)) (((y - x).toNat : Int) - (i : Nat)) 1 → ItAt u (.rng x y) i I h
theorem ItAt.at {u d i I h h'} (x : ItAt u d i I h) (k : ∀ o, h.get? I = some o → h'.get? I = some o) : ItAt u d i I h' := by
  cases x with
  | list e h1 h2 q => obtain ⟨o, e1, r⟩ := q; exact .list e h1 h2 ⟨o, k _ e1, r⟩
  | tup e q => obtain ⟨o, e1, r⟩ := q; exact .tup e ⟨o, k _ e1, r⟩
  | rng q => exact .rng (k _ q)
theorem ItAt.fields {u d i I h} (x : ItAt u d i I h) : ∃ o vs, h.get? I = some o ∧ o.data = .fields vs := by
  cases x with
  | list _ _ _ q => obtain ⟨o, e1, _, e2⟩ := q; exact ⟨o, _, e1, e2⟩
  | tup _ q => obtain ⟨o, e1, _, e2⟩ := q; exact ⟨o, _, e1, e2⟩
  | rng q => exact ⟨_, _, q, rfl⟩

section
variable {W : Wk} {A : Around} {hid : PMap} {env : Env} {vars : Vars} {mu : Mu} {K K' : Out → Prop}

theorem AsList.notTup {d l} (x : AsList mu d l) : (∀ l, d ≠ .tup l) ∧ ∀ x y, d ≠ .rng x y := by
  rcases x with rfl | ⟨a, rfl, _⟩ <;> exact ⟨fun _ e => (nomatch e), fun _ _ e => (nomatch e)⟩

theorem iter_start {g h t d its u} {Q : Value → Shared → Prop} {E} (R : Rep W hid g env vars mu h) (s : Src mu d its) (i : Is g d u)
    (k : ∀ o, o.isFreed = false → ItAt u d 0 h.objs.size (h.push o) → Q (.ref h.objs.size) (W.S (h.push o) t)) : wpAny W.M A (pyIter u) Q E (W.S h t) := by
  cases s with
  | list hl =>
    obtain ⟨a, vs, rfl, q1, q2⟩ := hl.get R i
    exact wpAny_pyIter_list q1 (k _ rfl (.list rfl hl.notTup.1 hl.notTup.2 ⟨_, Heap.get?_push_size _ rfl, rfl, rfl⟩))
  | tup =>
    cases i with
    | tup e q2 =>
      refine wpAny_pyIter_tuple (s := W.S h t) ⟨_, R.gs _ _ e, rfl, _, rfl⟩ (k _ rfl (.tup rfl ⟨_, Heap.get?_push_size _ rfl, rfl, rfl⟩))
  | rng h1 h2 h3 h4 =>
    cases i with
    | rng e =>
      rename_i a b r t1 t2 t3
      refine wpAny_pyIter_range (s := W.S h t) (R.gs _ _ e) (small_one h1 h2 h3 h4) (k _ rfl (.rng ?_))
      have e2 : Builtin.Range.rangeSize a b 1 = ((b - a).toNat : Int) := by rw [rangeSize_one]; split <;> (first | lia | omega)
      rw [e2]
      have e3 : (a + ((0 : Nat) : Int)) = a := by (first | (simp; done) | lia | omega)
      have e4 : (((b - a).toNat : Int) - ((0 : Nat) : Int)) = ((b - a).toNat : Int) := by (first | (simp; done) | lia | omega)
      rw [e3, e4]
      exact Heap.get?_push_size _ rfl

theorem iter_next {g h t d its u I i} {Q : Option Value → Shared → Prop} {E} (hh : A.handled = none) (R : Rep W hid g env vars mu h) (s : Src mu d its) (is : Is g d u) (x : ItAt u d i I h)
    (item : ∀ a v h' t', its[i]? = some a → Is g a v → Heap.SameBut I h h' → ItAt u d (i + 1) I h' → Q (some v) (W.S h' t'))
    (done : its.length ≤ i → ∀ h' t', Heap.ExtBut I h h' → Q none (W.S h' t')) : wpAny W.M A (pyNext (.ref I)) Q E (W.S h t) := by
  cases s with
  | list hl =>
    obtain ⟨a, vs, rfl, q1, q2⟩ := hl.get R is
    cases x with
    | list e n1 n2 q =>
      cases e
      by_cases hi : i < its.length
      · obtain ⟨v, e1, iv⟩ := q2.get i its[i] (List.getElem?_eq_getElem hi)
        exact wpAny_pyNext_list_item q q1 (by simpa using e1) fun h' q' hs => item _ v h' t (List.getElem?_eq_getElem hi) iv hs (.list rfl n1 n2 q')
      · have : vs.size ≤ i := by have := q2.length; simp at this; (first | lia | omega)
        exact wpAny_pyNext_list_end hh q q1 (by simpa using this) fun h' he => done (by (first | exact Nat.le_of_not_lt (by assumption) | lia | omega)) h' t he
    | tup e q => exact absurd rfl (hl.notTup.1 _)
    | rng q => exact absurd rfl (hl.notTup.2 _ _)
  | tup =>
    cases is with
    | tup e q2 =>
      rename_i a vs n
      have ht : h.IsTuple a vs := ⟨_, R.gs _ _ e, rfl, n, rfl⟩
      cases x with
      | list e n1 n2 q => exact absurd rfl (n1 _)
      | tup e q =>
        cases e
        by_cases hi : i < its.length
        · obtain ⟨v, e1, iv⟩ := q2.get i its[i] (List.getElem?_eq_getElem hi)
          exact wpAny_pyNext_tuple_item (s := W.S h t) q ht (by simpa using e1) fun h' q' hs => item _ v h' t (List.getElem?_eq_getElem hi) iv hs (.tup rfl q')
        · have : vs.size ≤ i := by have := q2.length; simp at this; (first | lia | omega)
          exact wpAny_pyNext_tuple_end (s := W.S h t) hh q ht (by simpa using this) fun h' he => done (by (first | exact Nat.le_of_not_lt (by assumption) | lia | omega)) h' t he
  | @rng a b h1 h2 h3 h4 =>
    cases x with
    | list e n1 n2 q => exact absurd rfl (n2 _ _)
    | rng q =>
      by_cases hi : i < (b - a).toNat
      · refine wpAny_pyNext_range_item (s := W.S h t) q (by (first | lia | omega)) fun h' q' hs => item (.int (a + i)) _ h' _ ?_ .int hs (.rng ?_)
        · simp [rngL, hi]
        · have e1 : a + ((i + 1 : Nat) : Int) = a + (i : Nat) + 1 := by (first | (simp only [Int.natCast_add, Int.natCast_one] at *; lia) | lia | omega)
          have e2 : ((b - a).toNat : Int) - ((i + 1 : Nat) : Int) = ((b - a).toNat : Int) - (i : Nat) - 1 := by (first | (simp only [Int.natCast_add, Int.natCast_one] at *; lia) | lia | omega)
          rw [e1, e2]; exact q'
      · exact wpAny_pyNext_range_end (s := W.S h t) hh q (by (first | lia | omega)) fun h' he => done (by simp [rngL]; (first | lia | omega)) h' t he

theorem nocell_of {o : Obj} (hf : ∃ vs, o.data = .fields vs) : ∀ v, o.data ≠ .cell v := fun v e => by obtain ⟨vs, q⟩ := hf; rw [q] at e; cases e
theorem Rep.hide {g h h'} {I : Addr} {o : Obj} (R : Rep W hid g env vars mu h) (hI : h.get? I = none) (k : Kept h h') (e : h'.get? I = some o) : Rep W (ins hid I o) g env vars mu h' := by
  have R' := R.keeps k
  have ne : ∀ {b o'}, h.get? b = some o' → b ≠ I := fun e q => by rw [q, hI] at e; cases e
  refine ⟨R'.bs, R'.gs, fun a o' q => ?_, fun a o' q => ?_, R'.ns, R'.vs, R'.gL, ?_, R'.cell, R'.cnd, fun a l q => ?_, R'.mnd⟩
  · by_cases z : a = I
    · subst z; rw [ins_same] at q; cases q; exact .of e
    · rw [ins_other z] at q; exact R'.hs a o' q
  · rw [ins_other (ne (R.gs a o' q))]; exact R.gh a o' q
  · obtain ⟨m, _, _, _, e, _⟩ := R.ns
    rw [ins_other (ne e)]; exact R.hL
  · obtain ⟨vs, n, e1, r1, r2, r3, r4⟩ := R.mus a l q
    exact ⟨vs, n, k _ _ e1, r1, r2, by rw [ins_other (ne e1)]; exact r3, r4⟩
theorem Rep.unhide {g h} {I : Addr} {o : Obj} (hI : hid I = none) (R : Rep W (ins hid I o) g env vars mu h) : Rep W hid g env vars mu h := by
  have l : ∀ a o', hid a = some o' → ins hid I o a = some o' := fun a o' q => by
    by_cases z : a = I
    · subst z; rw [hI] at q; cases q
    · rw [ins_other z]; exact q
  have l2 : ∀ a, ins hid I o a = none → hid a = none := fun a q => by
    by_cases z : a = I
    · subst z; exact hI
    · rw [ins_other z] at q; exact q
  exact ⟨R.bs, R.gs, fun a o' q => R.hs a o' (l a o' q), fun a o' q => l2 a (R.gh a o' q), R.ns, R.vs, R.gL, l2 _ R.hL, R.cell, R.cnd, fun a l' q => by
    obtain ⟨vs, n, e1, r1, r2, r3, r4⟩ := R.mus a l' q
    exact ⟨vs, n, e1, r1, r2, l2 _ r3, r4⟩, R.mnd⟩
theorem RepE.unhide {g h} {I : Addr} {o : Obj} (hI : hid I = none) (R : RepE W (ins hid I o) g h) : RepE W hid g h := by
  have l : ∀ a o', hid a = some o' → ins hid I o a = some o' := fun a o' q => by
    by_cases z : a = I
    · subst z; rw [hI] at q; cases q
    · rw [ins_other z]; exact q
  have l2 : ∀ a, ins hid I o a = none → hid a = none := fun a q => by
    by_cases z : a = I
    · subst z; exact hI
    · rw [ins_other z] at q; exact q
  exact ⟨R.bs, R.gs, fun a o' q => R.hs a o' (l a o' q), fun a o' q => l2 a (R.gh a o' q)⟩
theorem Rep.rehide {g h h'} {I : Addr} {o o' : Obj} (R : Rep W (ins hid I o) g env vars mu h) (hI : hid I = none) (hf : ∀ v, o.data ≠ .cell v) (hs : Heap.SameBut I h h') (e : h'.get? I = some o') : Rep W (ins hid I o') g env vars mu h' := by
  have nocell : ∀ {c v}, h.IsCell c v → c ≠ I := by
    rintro c v ⟨oc, e1, e2⟩ rfl
    obtain ⟨sl, e3, _⟩ := R.hs c o (ins_same _ _ _)
    rw [e1] at e3; cases e3
    exact hf _ e2
  have gI : g I = none := by
    cases q : g I with
    | none => rfl
    | some x => have := R.gh I x q; rw [ins_same] at this; cases this
  have LI : env.locals ≠ I := fun q => by have := R.hL; rw [q, ins_same] at this; cases this
  refine ⟨R.bs, fun a x q => (hs.2 a (fun z => by rw [z, gI] at q; cases q)).trans (R.gs a x q), fun a x q => ?_, fun a x q => ?_, ?_, fun x d q => ?_, R.gL, ?_, fun x c q => ?_, R.cnd, fun a l q => ?_, R.mnd⟩
  · by_cases z : a = I
    · subst z; rw [ins_same] at q; cases q; exact .of e
    · rw [ins_other z] at q
      obtain ⟨sl, e1, e2⟩ := R.hs a x (by rw [ins_other z]; exact q)
      exact ⟨sl, (hs.2 a z).trans e1, e2⟩
  · have := R.gh a x q
    have z : a ≠ I := fun z => by rw [z, gI] at q; cases q
    rw [ins_other z] at this ⊢; exact this
  · obtain ⟨m, hn⟩ := R.ns; exact ⟨m, hn.sameBut hs LI⟩
  · obtain ⟨u, i, hd, ⟨hl, m, hn, hm⟩ | ⟨c, hk, hc, hv⟩⟩ := R.vs x d q
    · exact ⟨u, i, hd, .inl ⟨hl, m, hn.sameBut hs LI, hm⟩⟩
    · refine ⟨u, i, hd, .inr ⟨c, hk, hc, ?_⟩⟩
      exact hv.sameBut hs (nocell hv)
  · have := R.hL; rw [ins_other LI] at this ⊢; exact this
  · obtain ⟨⟨v, hv⟩, r⟩ := R.cell x c q
    exact ⟨⟨v, hv.sameBut hs (nocell hv)⟩, r⟩
  · obtain ⟨vs, n, e1, r1, r2, r3, r4⟩ := R.mus a l q
    have z : a ≠ I := fun z => by rw [z, ins_same] at r3; cases r3
    exact ⟨vs, n, (hs.2 a z).trans e1, r1, r2, by rw [ins_other z] at r3 ⊢; exact r3, r4⟩

theorem Rep.letgo {g h h'} {I : Addr} {o : Obj} (R : Rep W (ins hid I o) g env vars mu h) (hI : hid I = none) (hf : ∀ v, o.data ≠ .cell v) (hs : Heap.ExtBut I h h') : Rep W hid g env vars mu h' := by
  have nocell : ∀ {c v}, h.IsCell c v → c ≠ I := by
    rintro c v ⟨oc, e1, e2⟩ rfl
    obtain ⟨sl, e3, _⟩ := R.hs c o (ins_same _ _ _)
    rw [e1] at e3; cases e3
    exact hf _ e2
  have R0 := R.unhide hI
  have gI : g I = none := by
    cases q : g I with
    | none => rfl
    | some x => have := R.gh I x q; rw [ins_same] at this; cases this
  have LI : env.locals ≠ I := fun q => by have := R.hL; rw [q, ins_same] at this; cases this
  have keepNs : ∀ {m}, h.Ns env.locals m → h'.Ns env.locals m := fun hn => by
    obtain ⟨o1, es1, ep1, p1, p2⟩ := hn; exact ⟨o1, es1, ep1, hs _ _ LI p1, p2⟩
  have keepCell : ∀ {c v}, h.IsCell c v → h'.IsCell c v := fun hc => by
    obtain ⟨oc, e1, e2⟩ := id hc; exact ⟨oc, hs _ _ (nocell hc) e1, e2⟩
  refine ⟨R0.bs, fun a x q => hs a x (fun z => by rw [z, gI] at q; cases q) (R.gs a x q), fun a x q => ?_, R0.gh, ?_, fun x d q => ?_, R.gL, R0.hL, fun x c q => ?_, R.cnd, fun a l q => ?_, R.mnd⟩
  · obtain ⟨sl, e1, e2⟩ := R0.hs a x q
    exact ⟨sl, hs a _ (fun z => by rw [z, hI] at q; cases q) e1, e2⟩
  · obtain ⟨m, hn⟩ := R.ns; exact ⟨m, keepNs hn⟩
  · obtain ⟨u, i, hd, ⟨hl, m, hn, hm⟩ | ⟨c, hk, hc, hv⟩⟩ := R.vs x d q
    · exact ⟨u, i, hd, .inl ⟨hl, m, keepNs hn, hm⟩⟩
    · exact ⟨u, i, hd, .inr ⟨c, hk, hc, keepCell hv⟩⟩
  · obtain ⟨⟨v, hv⟩, r⟩ := R.cell x c q
    exact ⟨⟨v, keepCell hv⟩, r⟩
  · obtain ⟨vs, n, e1, r1, r2, r3, r4⟩ := R.mus a l q
    have z : a ≠ I := fun z => by rw [z, ins_same] at r3; cases r3
    exact ⟨vs, n, hs a _ z e1, r1, r2, by rw [ins_other z] at r3; exact r3, r4⟩

noncomputable def TurnK (J : Vars → Mu → Prop) (K : Out → Prop) : Out → Prop
  | .next v m => ∃ v' m', Sub v' v ∧ m'.Sublist m ∧ J v' m'
  | .cont v m => ∃ v' m', Sub v' v ∧ m'.Sublist m ∧ J v' m'
  | .brk v m => K (.next v m)
  | .ret d => K (.ret d)
  | .exc _ _ _ => False

end
end Mine
end

section
open PySem PySem.W PyProof.Rows PySem.Calls PySem.SeqAt
set_option linter.unusedVariables false
set_option maxRecDepth 100000
namespace Mine

noncomputable def clFrom (env : Env) : List (Str × NameKind) → List (Str × Addr) → List (Str × Addr)
  | [], acc => acc
  | (n, k) :: r, acc => if k == .free then clFrom env r ((n, (env.cells.lookup n).getD 0) :: acc) else clFrom env r acc
noncomputable def freeFound (env : Env) (names : List (Str × NameKind)) : Bool := names.all fun p => p.2 != .free || (env.cells.lookup p.1).isSome
theorem closure_is {scope : Scope} {env : Env} (h : freeFound env scope.names = true) : closureFor scope env = pure (clFrom env scope.names []) := by
  unfold closureFor
  have key : ∀ (names : List (Str × NameKind)) (acc : List (Str × Addr)), freeFound env names = true →
      (forIn names acc fun x cs => (if (x.2 == NameKind.free) = true then do let a ← cellOf env x.1; pure (ForInStep.yield ((x.1, a) :: cs)) else pure (ForInStep.yield cs) : Sem (ForInStep (List (Str × Addr))))) = pure (clFrom env names acc) := by
    intro names
    induction names with
    | nil => intro acc _; rfl
    | cons p r ih =>
      obtain ⟨n, k⟩ := p
      intro acc hf
      have hf' : ((k != NameKind.free || (env.cells.lookup n).isSome) && freeFound env r) = true := hf
      obtain ⟨h1, h2⟩ := Bool.and_eq_true_iff.mp hf'
      rw [List.forIn_cons]
      unfold clFrom
      by_cases hk : (k == NameKind.free) = true
      · have hs : (env.cells.lookup n).isSome = true := by
          rcases Bool.or_eq_true_iff.mp h1 with q | q
          · simp at q; simp [q] at hk
          · exact q
        obtain ⟨c, hc⟩ := Option.isSome_iff_exists.mp hs
        rw [if_pos hk, if_pos hk, hc]
        simp only [cellOf, hc, pure_bind, Option.getD_some]
        exact ih _ h2
      · rw [if_neg hk, if_neg hk]
        simp only [pure_bind]
        exact ih _ h2
  have := key scope.names [] h
  simpa using this

theorem clFrom_lookup {env : Env} : ∀ {names : List (Str × NameKind)} {acc : List (Str × Addr)} {x c}, freeFound env names = true → (clFrom env names acc).lookup x = some c → acc.lookup x = some c ∨ env.cells.lookup x = some c
  | [], _, _, _, _, h => .inl h
  | (n, k) :: r, acc, x, c, hf, h => by
    have hf' : ((k != NameKind.free || (env.cells.lookup n).isSome) && freeFound env r) = true := hf
    obtain ⟨h1, h2⟩ := Bool.and_eq_true_iff.mp hf'
    unfold clFrom at h
    split at h
    · rename_i hk
      rcases clFrom_lookup h2 h with q | q
      · by_cases hx : x = n
        · subst hx
          rw [lookup_cons_eq] at q
          rcases Bool.or_eq_true_iff.mp h1 with z | z
          · simp at z; simp [z] at hk
          · obtain ⟨c', hc⟩ := Option.isSome_iff_exists.mp z
            rw [hc] at q; simp at q; subst q; exact .inr hc
        · rw [lookup_cons_ne hx] at q; exact .inl q
      · exact .inr q
    · exact clFrom_lookup h2 h
theorem clFrom_acc {env : Env} : ∀ {names : List (Str × NameKind)} {acc : List (Str × Addr)} {x}, (∀ k, (x, k) ∈ names → k ≠ .free) → (clFrom env names acc).lookup x = acc.lookup x
  | [], _, _, _ => rfl
  | (n, k) :: r, acc, x, h => by
    unfold clFrom
    split
    · rename_i hk
      rw [clFrom_acc (fun k hk => h k (.tail _ hk)), lookup_cons_ne]
      rintro rfl
      exact h k (.head _) (by simpa using hk)
    · exact clFrom_acc (fun k hk => h k (.tail _ hk))
theorem clFrom_free {env : Env} : ∀ {names : List (Str × NameKind)} {acc : List (Str × Addr)} {x c}, (x, NameKind.free) ∈ names → env.cells.lookup x = some c → (clFrom env names acc).lookup x = some c
  | (n, k) :: r, acc, x, c, h, hc => by
    unfold clFrom
    by_cases hr : (x, NameKind.free) ∈ r
    · split <;> exact clFrom_free hr hc
    · rcases List.mem_cons.mp h with e | h
      · cases e
        rw [if_pos (by simp), clFrom_acc (fun k hk e => hr (e ▸ hk)), lookup_cons_eq, hc]; rfl
      · exact absurd h hr

theorem cellsFrom_lookup : ∀ {names : List (Str × NameKind)} {h : Heap} {acc : List (Str × Addr)} {x c}, (cellsFrom h.objs.size names acc).lookup x = some c → acc.lookup x = some c ∨ ((pushCells h names).IsCell c none ∧ h.objs.size ≤ c)
  | [], _, _, _, _, e => .inl e
  | (n, k) :: r, h, acc, x, c, e => by
    unfold cellsFrom at e
    unfold pushCells
    split at e
    · rename_i hk
      rw [if_pos hk]
      have e' : (cellsFrom (h.push { cls := .type "cell", data := .cell none }).objs.size r ((n, h.objs.size) :: acc)).lookup x = some c := by rw [Heap.size_push]; exact e
      rcases cellsFrom_lookup e' with q | ⟨q1, q2⟩
      · by_cases hx : x = n
        · subst hx; rw [lookup_cons_eq] at q; cases q
          exact .inr ⟨⟨_, pushCells_keeps _ _ _ _ (Heap.get?_push_size _ rfl), rfl⟩, Nat.le_refl _⟩
        · rw [lookup_cons_ne hx] at q; exact .inl q
      · rw [Heap.size_push] at q2; exact .inr ⟨q1, by (first | exact Nat.le_of_lt (by assumption) | lia | omega)⟩
    · rename_i hk
      rw [if_neg hk]
      exact cellsFrom_lookup e
theorem cellsFrom_inj : ∀ {names : List (Str × NameKind)} {n : Nat} {acc : List (Str × Addr)}, (∀ x y c, acc.lookup x = some c → acc.lookup y = some c → x = y) → (∀ x c, acc.lookup x = some c → c < n) →
    ∀ x y c, (cellsFrom n names acc).lookup x = some c → (cellsFrom n names acc).lookup y = some c → x = y
  | [], _, _, h1, _ => h1
  | (nm, k) :: r, n, acc, h1, h2 => by
    unfold cellsFrom
    split
    · refine cellsFrom_inj (fun x y c e1 e2 => ?_) (fun x c e => ?_)
      · by_cases hx : x = nm <;> by_cases hy : y = nm
        · rw [hx, hy]
        · subst hx; rw [lookup_cons_eq] at e1; rw [lookup_cons_ne hy] at e2; cases e1; exact absurd (h2 _ _ e2) (Nat.lt_irrefl _)
        · subst hy; rw [lookup_cons_eq] at e2; rw [lookup_cons_ne hx] at e1; cases e2; exact absurd (h2 _ _ e1) (Nat.lt_irrefl _)
        · rw [lookup_cons_ne hx] at e1; rw [lookup_cons_ne hy] at e2; exact h1 x y c e1 e2
      · by_cases hx : x = nm
        · subst hx; rw [lookup_cons_eq] at e; cases e; exact Nat.lt_succ_self _
        · rw [lookup_cons_ne hx] at e; exact Nat.lt_succ_of_lt (h2 x c e)
    · exact cellsFrom_inj h1 h2
theorem cellsFrom_not : ∀ {names : List (Str × NameKind)} {n : Nat} {acc : List (Str × Addr)} {x}, (∀ k, (x, k) ∈ names → k ≠ .cell) → (cellsFrom n names acc).lookup x = acc.lookup x
  | [], _, _, _, _ => rfl
  | (nm, k) :: r, n, acc, x, h => by
    unfold cellsFrom
    split
    · rename_i hk
      rw [cellsFrom_not (fun k hk => h k (.tail _ hk)), lookup_cons_ne]
      rintro rfl; exact h k (.head _) (by simpa using hk)
    · exact cellsFrom_not (fun k hk => h k (.tail _ hk))

noncomputable def cEnv (scope : Scope) (C : Addr) (env : Env) : Env :=
  { scope := relabel scope env, locals := C, globals := env.globals, cells := cellsFrom (C + 1) scope.names (clFrom env scope.names []), qual := env.qual, func := none, code := env.code, frame := env.frame, builtins := env.builtins }

theorem wpAny_newCompEnv {M : Model} {A : Around} {E : Value → Shared → Prop} {s : Shared} {scope : Scope} {globals : Addr} {cl : List (Str × Addr)} {qual : Str} {outer : Env} {Q : Env → Shared → Prop}
    (hQ : Q { scope, locals := s.heap.objs.size, globals, cells := cellsFrom (s.heap.objs.size + 1) scope.names cl, qual, func := none, code := outer.code, frame := outer.frame, builtins := outer.builtins }
      { s with heap := pushCells (s.heap.push { cls := .type "dict", data := .dict #[] }) scope.names }) :
    wpAny M A (newFunctionEnv scope globals cl [] qual none .none (some outer)) Q E s := by
  simp only [newFunctionEnv, Option.isSome_some, if_true]
  refine wpAny_bind (wpAny_alloc ?_)
  refine wpAny_bind (wpAny_layCells _ (fun name kind cells => by cases hkc : kind == NameKind.cell <;> simp [hkc]) _ _ _ _ ?_)
  rw [show ({ s with heap := s.heap.push { cls := .type "dict", data := .dict #[] } } : Shared).heap.objs.size = s.heap.objs.size + 1 from Heap.size_push ..]
  simp only [List.forIn_nil]
  exact wpAny_bind (wpAny_pure (wpAny_pure hQ))

noncomputable def rest (g : PMap) (mu : Mu) (h : Heap) : PMap := fun b => if (g b).isSome || (mu.map (·.1)).contains b then none else h.get? b
theorem rest_some {g : PMap} {mu : Mu} {h : Heap} {b : Addr} {o : Obj} (e : rest g mu h b = some o) : h.get? b = some o ∧ g b = none ∧ b ∉ mu.map (·.1) := by
  unfold rest at e
  split at e
  · cases e
  · rename_i hc
    simp only [Bool.or_eq_true, not_or, Bool.not_eq_true, Option.isSome_eq_false_iff, Option.isNone_iff_eq_none] at hc
    exact ⟨e, hc.1, fun hm => by have := hc.2; rw [List.contains_iff_mem.mpr hm] at this; cases this⟩
theorem rest_of {g : PMap} {mu : Mu} {h : Heap} {b : Addr} {o : Obj} (e : h.get? b = some o) (hg : g b = none) (hm : b ∉ mu.map (·.1)) : rest g mu h b = some o := by
  unfold rest
  rw [if_neg]
  · exact e
  · simp only [Bool.or_eq_true, not_or, hg, Option.isSome_none, Bool.false_eq_true, not_false_eq_true, true_and]
    intro q; exact hm (List.contains_iff_mem.mp q)
theorem rest_none {g : PMap} {mu : Mu} {h : Heap} {b : Addr} (e : h.get? b = none) : rest g mu h b = none := by
  cases q : rest g mu h b with
  | none => rfl
  | some o => rw [(rest_some q).1] at e; cases e

noncomputable def Over (scope : Scope) (env : Env) (vars' vars : Vars) : Prop := ∀ x d, vars'.lookup x = some d → vars.lookup x = some d ∧ scope.names.lookup x = some .free ∧ env.kindOf x ≠ some .local
theorem Over.nil {scope env vars} : Over scope env [] vars := fun x d e => by cases e
theorem Over.cons {scope env vars' vars x d} (h : vars.lookup x = some d) (k : scope.names.lookup x = some .free) (nl : (env.kindOf x == some .local) = false) (s : Over scope env vars' vars) : Over scope env ((x, d) :: vars') vars := fun y e q => by
  by_cases hb : y = x
  · subst hb; rw [lookup_cons_eq] at q; cases q; exact ⟨h, k, fun z => by rw [z] at nl; simp at nl⟩
  · rw [lookup_cons_ne hb] at q; exact s y e q

structure BlockOk (scope : Scope) (env : Env) : Prop where
  found : freeFound env scope.names = true
  kind : scope.kind = .function
  nodup : (scope.names.map (·.1)).Nodup

theorem lookup_mem_nodup {α : Type} : ∀ {l : List (Str × α)} {x a b}, (l.map (·.1)).Nodup → l.lookup x = some a → (x, b) ∈ l → b = a
  | (y, c) :: r, x, a, b, hn, h1, h2 => by
    obtain ⟨n1, n2⟩ := List.nodup_cons.mp hn
    by_cases hx : x = y
    · subst hx
      rw [lookup_cons_eq] at h1; cases h1
      rcases List.mem_cons.mp h2 with e | e
      · cases e; rfl
      · exact absurd (List.mem_map.mpr ⟨_, e, rfl⟩) n1
    · rw [lookup_cons_ne hx] at h1
      rcases List.mem_cons.mp h2 with e | e
      · cases e; exact absurd rfl hx
      · exact lookup_mem_nodup n2 h1 e

theorem relabel_lookup {env : Env} {x : Str} : ∀ {names : List (Str × NameKind)} {k}, names.lookup x = some k →
    (names.map fun (n, k) => if (k == NameKind.free && env.scope.kind == .function && env.kindOf n == some .cell) then (n, NameKind.cell) else (n, k)).lookup x = some (if (k == NameKind.free && env.scope.kind == .function && env.kindOf x == some .cell) then .cell else k)
  | (n, k') :: r, k, h => by
    rw [List.map_cons]
    by_cases hx : x = n
    · subst hx
      rw [lookup_cons_eq] at h; cases h
      dsimp only
      split <;> rw [lookup_cons_eq]
    · rw [lookup_cons_ne hx] at h
      have ih := relabel_lookup (env := env) (x := x) h
      dsimp only
      split <;> rw [lookup_cons_ne hx] <;> exact ih

section
variable {W : Wk} {A : Around} {hid : PMap} {env : Env} {vars : Vars} {mu : Mu} {K K' : Out → Prop}

theorem Rep.comp {scope : Scope} {vars' : Vars} {g h h2} (B : BlockOk scope env) (hk : env.scope.kind = .function) (R : Rep W hid g env vars mu h) (k2 : Kept h h2) (hv : Over scope env vars' vars) :
    Rep W (rest g mu h) g (cEnv scope h2.objs.size env) vars' mu (pushCells (h2.push { cls := .type "dict", data := .dict #[] }) scope.names) := by
  have kp : Kept h2 (pushCells (h2.push { cls := .type "dict", data := .dict #[] }) scope.names) := fun b o e => pushCells_keeps _ _ b o (Heap.get?_push_of_some _ e)
  have k := kept_trans k2 kp
  have hC2 : h2.get? h2.objs.size = none := Rep.fresh_size
  have hC : h.get? h2.objs.size = none := by
    cases q : h.get? h2.objs.size with
    | none => rfl
    | some o => rw [k2 _ _ q] at hC2; cases hC2
  have hns : (pushCells (h2.push { cls := .type "dict", data := .dict #[] }) scope.names).Ns h2.objs.size fun _ => none := (Heap.Ns.new h2 (.type "dict")).keeps (pushCells_keeps _ _)
  have hcl : ∀ x c, (clFrom env scope.names []).lookup x = some c → env.cells.lookup x = some c := fun x c e => (clFrom_lookup B.found e).elim (fun q => by cases q) id
  have hcells : ∀ x c, (cEnv scope h2.objs.size env).cells.lookup x = some c → env.cells.lookup x = some c ∨ ((pushCells (h2.push { cls := .type "dict", data := .dict #[] }) scope.names).IsCell c none ∧ h2.objs.size < c) := by
    intro x c e
    have e' : (cellsFrom (h2.push { cls := .type "dict", data := .dict #[] }).objs.size scope.names (clFrom env scope.names [])).lookup x = some c := by rw [Heap.size_push]; exact e
    rcases cellsFrom_lookup e' with q | ⟨q1, q2⟩
    · exact .inl (hcl x c q)
    · rw [Heap.size_push] at q2; exact .inr ⟨q1, q2⟩
  have old : ∀ {c}, h2.objs.size < c → h.get? c = none := fun {c} hlt => by
    cases q : h.get? c with
    | none => rfl
    | some o => exact absurd (Heap.lt_size (k2 _ _ q)) (Nat.not_lt.mpr (Nat.le_of_lt hlt))
  have Rk := R.keeps k
  refine ⟨R.bs, fun a o e => k _ _ (R.gs a o e), fun a o e => .of (k _ _ (rest_some e).1), fun a o e => ?_, ⟨_, hns⟩, fun x d e => ?_, R.gnone hC, rest_none hC, fun x c e => ?_, ?_, fun a l e => ?_, R.mnd⟩
  · cases q : rest g mu h a with
    | none => rfl
    | some o' => rw [(rest_some q).2.1] at e; cases e
  · obtain ⟨e1, e2, e3⟩ := hv x d e
    obtain ⟨u, i, hdb, hva⟩ := Rk.vs x d e1
    have hmem : (x, NameKind.free) ∈ scope.names := mem_of_lookup e2
    rcases hva with ⟨hl, _⟩ | ⟨c, hk', hc, hv'⟩
    · exact absurd hl e3
    · have hce : (cEnv scope h2.objs.size env).cells.lookup x = some c := by
        show (cellsFrom _ scope.names _).lookup x = some c
        rw [cellsFrom_not (fun k hk => by rw [lookup_mem_nodup B.nodup e2 hk]; intro q; cases q)]
        exact clFrom_free hmem hc
      have hkind : (cEnv scope h2.objs.size env).kindOf x = some (if (NameKind.free == NameKind.free && env.scope.kind == .function && env.kindOf x == some .cell) then .cell else .free) := relabel_lookup (env := env) e2
      refine ⟨u, i, hdb, .inr ⟨c, ?_, hce, hv'⟩⟩
      rw [hkind]
      split
      · exact .inl rfl
      · rename_i hn
        rcases hk' with q | ⟨q, q2⟩
        · exact absurd (by rw [hk, q]; rfl) hn
        · exact .inr ⟨rfl, q2⟩
  · rcases hcells x c e with q | ⟨q1, q2⟩
    · obtain ⟨⟨v, hv'⟩, r1, r2⟩ := Rk.cell x c q
      obtain ⟨⟨v0, oc, hv0, _⟩, _⟩ := R.cell x c q
      exact ⟨⟨v, hv'⟩, r1, fun z => by rw [show (cEnv scope h2.objs.size env).locals = h2.objs.size from rfl] at z; rw [z, hC] at hv0; cases hv0⟩
    · exact ⟨⟨_, q1⟩, R.gnone (old q2), fun z => Nat.lt_irrefl _ (by rw [show (cEnv scope h2.objs.size env).locals = h2.objs.size from rfl] at z; rw [z] at q2; exact q2)⟩
  · refine cellsFrom_inj (fun x y c e1 e2 => R.cnd x y c (hcl x c e1) (hcl y c e2)) fun x c e => ?_
    obtain ⟨⟨v, oc, e1, _⟩, _⟩ := R.cell x c (hcl x c e)
    exact Nat.lt_succ_of_lt (Heap.lt_size (k2 _ _ e1))
  · obtain ⟨vs, n, e1, r1, r2, r3, r4, r5⟩ := R.mus a l e
    have hma : a ∈ mu.map (·.1) := List.mem_map.mpr ⟨_, e, rfl⟩
    refine ⟨vs, n, k _ _ e1, r1, r2, ?_, fun z => ?_, fun x c q => ?_⟩
    · cases q : rest g mu h a with
      | none => rfl
      | some o' => exact absurd hma (rest_some q).2.2
    · rw [show (cEnv scope h2.objs.size env).locals = h2.objs.size from rfl] at z; rw [z, hC] at e1; cases e1
    · rcases hcells x c q with q | ⟨_, q2⟩
      · exact r5 x c q
      · rintro rfl; rw [old q2] at e1; cases e1

structure Lone (W : Wk) (hid g : PMap) (env : Env) (mu : Mu) (a : Addr) : Prop where
  g : g a = none
  hid : hid a = none
  loc : a ≠ env.locals
  cell : ∀ x c, env.cells.lookup x = some c → c ≠ a
  mu : a ∉ mu.map (·.1)
theorem Rep.lone {g h a} (R : Rep W hid g env vars mu h) (e : h.get? a = none) : Lone W hid g env mu a where
  g := R.gnone e
  hid := R.hnone e
  loc := fun z => by obtain ⟨m, _, _, _, q, _⟩ := R.ns; rw [z, q] at e; cases e
  cell := fun x c q z => by obtain ⟨⟨v, oc, e1, _⟩, _⟩ := R.cell x c q; rw [z, e] at e1; cases e1
  mu := fun hm => by
    obtain ⟨p, hp, rfl⟩ := List.mem_map.mp hm
    obtain ⟨vs, n, e1, _⟩ := R.mus p.1 p.2 hp
    rw [e] at e1; cases e1
theorem Rep.hideAt {g h a o} (R : Rep W hid g env vars mu h) (L : Lone W hid g env mu a) (e : h.get? a = some o) : Rep W (ins hid a o) g env vars mu h := by
  refine ⟨R.bs, R.gs, fun b o' q => ?_, fun b o' q => ?_, R.ns, R.vs, R.gL, by rw [ins_other (Ne.symm L.loc)]; exact R.hL, R.cell, R.cnd, fun b l q => ?_, R.mnd⟩
  · by_cases z : b = a
    · subst z; rw [ins_same] at q; cases q; exact .of e
    · rw [ins_other z] at q; exact R.hs b o' q
  · rw [ins_other (fun z => by rw [z, L.g] at q; cases q)]; exact R.gh b o' q
  · obtain ⟨vs, n, e1, r1, r2, r3, r4⟩ := R.mus b l q
    exact ⟨vs, n, e1, r1, r2, by rw [ins_other (fun z : b = a => L.mu (List.mem_map.mpr ⟨_, q, z⟩))]; exact r3, r4⟩
theorem Rep.freezeAt {g h a o} (R : Rep W hid g env vars mu h) (L : Lone W hid g env mu a) (e : h.get? a = some o) : Rep W hid (ins g a o) env vars mu h := by
  have lle := le_ins (o := o) L.g
  refine ⟨fun b o q => lle _ _ (R.bs b o q), fun b o' q => ?_, R.hs, fun b o' q => ?_, R.ns, fun x d e => let ⟨u, i, v⟩ := R.vs x d e; ⟨u, i.mono lle, v⟩, by rw [ins_other (Ne.symm L.loc)]; exact R.gL, R.hL, fun x c q => ?_, R.cnd, fun b l q => ?_, R.mnd⟩
  · by_cases z : b = a
    · subst z; rw [ins_same] at q; cases q; exact e
    · rw [ins_other z] at q; exact R.gs b o' q
  · by_cases z : b = a
    · subst z; exact L.hid
    · rw [ins_other z] at q; exact R.gh b o' q
  · obtain ⟨k1, k2, k3⟩ := R.cell x c q
    exact ⟨k1, by rw [ins_other (L.cell x c q)]; exact k2, k3⟩
  · obtain ⟨vs, n, e1, r1, r2, r3, r4⟩ := R.mus b l q
    exact ⟨vs, n, e1, r1.mono lle, by rw [ins_other (fun z : b = a => L.mu (List.mem_map.mpr ⟨_, q, z⟩))]; exact r2, r3, r4⟩
theorem Rep.own {g h a l vs n} (R : Rep W hid g env vars mu h) (L : Lone W hid g env mu a) (e : h.get? a = some (lobj vs n)) (i : Iss g l vs.toList) : Rep W hid g env vars ((a, l) :: mu) h :=
  ⟨R.bs, R.gs, R.hs, R.gh, R.ns, R.vs, R.gL, R.hL, R.cell, R.cnd, fun b lb q => by
    rcases List.mem_cons.mp q with q | q
    · cases q; exact ⟨vs, n, e, i, L.g, L.hid, L.loc, L.cell⟩
    · exact R.mus b lb q, List.nodup_cons.mpr ⟨L.mu, R.mnd⟩⟩

theorem Rep.back {g g' h h' mu₂} (R : Rep W hid g env vars mu h) (l : Le g g') (RE : RepE W (rest g mu₂ h) g' h') (hsub : ∀ a, a ∈ mu₂.map (·.1) → a ∈ mu.map (·.1))
    (hm : ∀ a l, (a, l) ∈ mu → a ∈ mu₂.map (·.1) → ∃ vs n, h'.get? a = some (lobj vs n) ∧ Iss g' l vs.toList ∧ g' a = none) : Rep W hid g' env vars mu h' := by
  have up : ∀ {a o}, h.get? a = some o → g a = none → a ∉ mu₂.map (·.1) → UpTo o h' a ∧ g' a = none := fun {a o} e hg hmm => by
    have e' := rest_of e hg hmm
    refine ⟨RE.hs a o e', ?_⟩
    cases q : g' a with
    | none => rfl
    | some x => have := RE.gh a x q; rw [e'] at this; cases this
  have muL : ∀ {a}, a ∈ mu₂.map (·.1) → g a = none ∧ hid a = none ∧ a ≠ env.locals ∧ ∀ x c, env.cells.lookup x = some c → c ≠ a := fun {a} hma => by
    obtain ⟨p, hp, rfl⟩ := List.mem_map.mp (hsub _ hma)
    obtain ⟨_, _, _, _, r1, r2, r3, r4⟩ := R.mus p.1 p.2 hp
    exact ⟨r1, r2, r3, r4⟩
  have ns' : ∀ {m}, h.Ns env.locals m → h'.Ns env.locals m := fun hn => by
    obtain ⟨o, es, ep, e1, e2, r⟩ := hn
    obtain ⟨⟨sl, q, _⟩, _⟩ := up e1 R.gL (fun hma => (muL hma).2.2.1 rfl)
    exact ⟨_, es, ep, q, e2, r⟩
  have cell' : ∀ {x c v}, env.cells.lookup x = some c → h.IsCell c v → h'.IsCell c v ∧ g' c = none := fun hc hv => by
    obtain ⟨o, e1, e2⟩ := hv
    obtain ⟨⟨sl, q, _⟩, q2⟩ := up e1 (R.cell _ _ hc).2.1 (fun hma => (muL hma).2.2.2 _ _ hc rfl)
    exact ⟨⟨_, q, e2⟩, q2⟩
  refine ⟨RE.bs, RE.gs, fun a o e => ?_, fun a o e => ?_, ?_, fun x d e => ?_, ?_, R.hL, fun x c e => ?_, R.cnd, fun a lb e => ?_, R.mnd⟩
  · obtain ⟨sl, e1, e2⟩ := R.hs a o e
    have hg : g a = none := by
      cases q : g a with
      | none => rfl
      | some x => have := R.gh a x q; rw [e] at this; cases this
    obtain ⟨⟨sl', q1, q2⟩, _⟩ := up e1 hg (fun hma => by have := (muL hma).2.1; rw [e] at this; cases this)
    exact ⟨sl', q1, fun hf => (q2 hf).trans (e2 hf)⟩
  · cases q : hid a with
    | none => rfl
    | some o' =>
      obtain ⟨sl, e1, _⟩ := R.hs a o' q
      have hg : g a = none := by
        cases q' : g a with
        | none => rfl
        | some x => have := R.gh a x q'; rw [q] at this; cases this
      obtain ⟨_, q2⟩ := up e1 hg (fun hma => by have := (muL hma).2.1; rw [q] at this; cases this)
      rw [q2] at e; cases e
  · obtain ⟨m, hn⟩ := R.ns; exact ⟨m, ns' hn⟩
  · obtain ⟨u, i, hd, ⟨hl, m, hn, hm'⟩ | ⟨c, hk, hc, hv⟩⟩ := R.vs x d e
    · exact ⟨u, i.mono l, hd, .inl ⟨hl, m, ns' hn, hm'⟩⟩
    · exact ⟨u, i.mono l, hd, .inr ⟨c, hk, hc, (cell' hc hv).1⟩⟩
  · obtain ⟨m, o, es, ep, e1, _⟩ := R.ns
    exact (up e1 R.gL (fun hma => (muL hma).2.2.1 rfl)).2
  · obtain ⟨⟨v, hv⟩, r1, r2⟩ := R.cell x c e
    exact ⟨⟨v, (cell' e hv).1⟩, (cell' e hv).2, r2⟩
  · obtain ⟨vs, n, e1, r1, r2, r3, r4⟩ := R.mus a lb e
    by_cases hma : a ∈ mu₂.map (·.1)
    · obtain ⟨vs', n', e1', r1', r2'⟩ := hm a lb e hma
      exact ⟨vs', n', e1', r1', r2', r3, r4⟩
    · obtain ⟨⟨sl', q, q3⟩, q2⟩ := up e1 r2 hma
      have hs : sl' = #[] := q3 (fun es ep (z : Data.seq vs n = Data.dict es ep) => nomatch z)
      subst hs
      exact ⟨vs, n, q, r1.mono l, q2, r3, r4⟩
end
end Mine
end

section
open PySem PySem.W PyProof.Rows PySem.Calls PySem.SeqAt
set_option linter.unusedVariables false
set_option maxRecDepth 100000
namespace Mine
section
variable {W : Wk} {A : Around} {hid : PMap} {env : Env} {vars : Vars} {mu : Mu} {K K' : Out → Prop}

theorem iter_self {h : Heap} {t : Nat} {d : PV} {u : Value} {I : Addr} {i : Nat} {Q : Value → Shared → Prop} {E} (x : ItAt u d i I h) (k : Q (.ref I) (W.S h t)) : wpAny W.M A (pyIter (.ref I)) Q E (W.S h t) := by
  cases x with
  | list _ _ _ q => exact wpAny_pyIter_listiter (s := W.S h t) q k
  | tup _ q => exact wpAny_pyIter_tupleiter (s := W.S h t) q k
  | rng q => exact wpAny_pyIter_rangeiter (s := W.S h t) q k

theorem append_K {h : Heap} {t : Nat} {D : Addr} {vs : Array Value} {n : Nat} {x : Value} {Q : Value → Shared → Prop} {E} (e : h.get? D = some (lobj vs n)) (hs : vs.size ≤ 100000)
    (k : ∀ h' n', h'.get? D = some (lobj (vs.push x) n') → Heap.SameBut D h h' → Q .none (W.S h' t)) : wpAny W.M A (call (.builtin "list.append") [.ref D, x]) Q E (W.S h t) := by
  have T : (W.S h t).TypeIs (.ref D) "list" := ⟨_, e, rfl⟩
  exact call_meets slot_list_append T entry_list_append (args_list_append _ _) (PySem.list_append D vs n x (by rw [sizeLine_eq]; (first | lia | omega))) ⟨e, k _ _ (IsL.update e (·.push x)) (Heap.SameBut.update ..)⟩

noncomputable def Tests (W : Wk) (A : Around) (hid : PMap) (env : Env) (vars : Vars) (mu : Mu) (ifs : List Expr) (b : Bool) : Prop :=
  ∀ g h t (Q : Bool → Shared → Prop) (E : Value → Shared → Prop), Rep W hid g env vars mu h → (∀ g' h' t', Le g g' → Rep W hid g' env vars mu h' → Q b (W.S h' t')) →
    wpAny W.M A (forIn ifs true fun c r => if r = true then do let ok ← isTrue c env (eval c env); pure (ForInStep.yield ok) else pure (ForInStep.yield r)) Q E (W.S h t)
theorem tests_nil : Tests W A hid env vars mu [] true := fun g h t Q E R k => wpAny_tests_nil (k g h t (Le.refl g) R)
theorem tests_one {c b} (hc : Tr W A hid env vars mu c b) : Tests W A hid env vars mu [c] b := fun g h t Q E R k => wpAny_tests_one (hc g h t Q E R k)

noncomputable def Tgt (W : Wk) (A : Around) (hid : PMap) (env : Env) (vars : Vars) (mu : Mu) (target : Expr) (a : PV) (vars' : Vars) : Prop :=
  ∀ g h t v (Q : Unit → Shared → Prop) (E : Value → Shared → Prop), Rep W hid g env vars mu h → Is g a v → (∀ h' t', Rep W hid g env vars' mu h' → Q () (W.S h' t')) → wpAny W.M A (assign target env v) Q E (W.S h t)
theorem tgt_name {x : Str} {p : Pos} {a} (hs : Sto hid env x) (hk : env.scope.kind = .function) (hd : (x == ("__debug__" : Str)) = false) : Tgt W A hid env vars mu (.Name x p) a ((x, a) :: vars) := fun g h t v Q E R i k =>
  wpAny_assign_Name (store_K hs hk hd R i k)

theorem store_own {scope : Scope} {C : Addr} {x : Str} (hid : PMap) (h : (scope.names.lookup x = some .local)) : Sto hid (cEnv scope C env) x := .loc (lookup_relabel_local h)

noncomputable def OwnFree (hid : PMap) (scope : Scope) (C : Addr) (env : Env) : Prop := ∀ x c, scope.names.lookup x = some .cell → (cEnv scope C env).cells.lookup x = some c → hid c = none
theorem sto_cell {scope : Scope} {C : Addr} {x : Str} (hn : (scope.names.map (·.1)).Nodup) (h : scope.names.lookup x = some .cell) (o : OwnFree hid scope C env) : Sto hid (cEnv scope C env) x := by
  have key : ∀ {names : List (Str × NameKind)} {n : Nat} {acc : List (Str × Addr)}, (x, NameKind.cell) ∈ names → ∃ c, (cellsFrom n names acc).lookup x = some c := by
    intro names
    induction names with
    | nil => intro n acc hm; cases hm
    | cons p r ih =>
      obtain ⟨nm, k⟩ := p
      intro n acc hm
      unfold cellsFrom
      by_cases hr : (x, NameKind.cell) ∈ r
      · split <;> exact ih hr
      · rcases List.mem_cons.mp hm with e | e
        · cases e
          rw [if_pos (by simp), cellsFrom_not (fun k hk e => hr (e ▸ hk)), lookup_cons_eq]
          exact ⟨_, rfl⟩
        · exact absurd e hr
  obtain ⟨c, hc⟩ := key (n := C + 1) (acc := clFrom env scope.names []) (mem_of_lookup h)
  refine .cell c ?_ hc (o x c h hc)
  have := relabel_lookup (env := env) h
  exact this

theorem ins_comm {g : PMap} {a b : Addr} {o o' : Obj} (h : a ≠ b) : ins (ins g a o) b o' = ins (ins g b o') a o := by
  funext x
  unfold ins
  by_cases h1 : x = b
  · subst h1; simp [Ne.symm h]
  · simp [h1]
theorem cellsFrom_ge : ∀ {names : List (Str × NameKind)} {n : Nat} {acc : List (Str × Addr)} {x c}, (cellsFrom n names acc).lookup x = some c → acc.lookup x = some c ∨ n ≤ c
  | [], _, _, _, _, e => .inl e
  | (nm, k) :: r, n, acc, x, c, e => by
    unfold cellsFrom at e
    split at e
    · rcases cellsFrom_ge e with q | q
      · by_cases hx : x = nm
        · subst hx; rw [lookup_cons_eq] at q; cases q; exact .inr (Nat.le_refl _)
        · rw [lookup_cons_ne hx] at q; exact .inl q
      · exact .inr (Nat.le_of_succ_le q)
    · exact cellsFrom_ge e
theorem cEnv_cells {scope : Scope} {C : Addr} {x c} (B : freeFound env scope.names = true) (e : (cEnv scope C env).cells.lookup x = some c) : env.cells.lookup x = some c ∨ C < c := by
  rcases cellsFrom_ge e with q | q
  · exact .inl ((clFrom_lookup B q).elim (fun q => by cases q) id)
  · exact .inr q
theorem cEnv_own {scope : Scope} {C : Addr} {x c} (hn : (scope.names.map (·.1)).Nodup) (h : scope.names.lookup x = some .cell) (e : (cEnv scope C env).cells.lookup x = some c) : C < c := by
  rcases cellsFrom_ge e with q | q
  · rw [clFrom_acc (fun k hk => by rw [lookup_mem_nodup hn h hk]; intro z; cases z)] at q; cases q
  · exact q

structure NewL (W : Wk) (hid g : PMap) (env : Env) (mu : Mu) (h : Heap) (D : Addr) (ds : List PV) : Prop where
  lone : Lone W hid g env mu D
  obj : ∃ vs n, h.get? D = some (lobj vs n) ∧ Iss g ds vs.toList

inductive LoOk (mu : Mu) (target : Expr) (d : PV) (its : List PV) : Prop where
  | any : (∀ v it, letOwnedTupleGo target it v = pure ()) → LoOk mu target d its
  | tup {es n p} : target = .Tuple es n p → AsList mu d its → (∀ a, a ∈ its → ∃ l, a = .tup l) → LoOk mu target d its
theorem LoOk.run {target : Expr} {d : PV} {its : List PV} {u : Value} {i : Nat} {I : Addr} {h : Heap} {t : Nat} {g : PMap} {a : PV} {v : Value} {Q : Unit → Shared → Prop} {E} (lo : LoOk mu target d its) (x : ItAt u d i I h) (ha : a ∈ its) (iv : Is g a v) (q : Q () (W.S h t)) : wpAny W.M A (letOwnedTupleGo target (.ref I) v) Q E (W.S h t) := by
  cases lo with
  | any e => rw [e]; exact wpAny_pure q
  | tup e hl ht =>
    subst e
    obtain ⟨l, rfl⟩ := ht a ha
    cases iv with
    | tup e1 _ =>
      cases x with
      | list _ _ _ y => exact wpAny_letOwnedTupleGo_listiter (s := W.S h t) y q
      | tup _ _ => exact absurd rfl (hl.notTup.1 _)
      | rng _ => exact absurd rfl (hl.notTup.2 _ _)

theorem loop_tests {prog : Program} {w : World} {R : Result → Shared → Prop} {s : Shared} {elt target iter : Expr} {ifs : List Expr} {scope : Scope} {pos : Pos} {it acc : Value} {env : Env} (I : Nat → Shared → Prop)
    (turn : ∀ n s, I n s → wpAny (model prog w) A (pyNext it) (fun r s₁ => match r with
      | none => R (.ok .next) s₁
      | some v => wpAny (model prog w) A (letOwnedTupleGo target it v) (fun _ s₀ => wpAny (model prog w) A (assign target env v) (fun _ s₂ =>
          wpAny (model prog w) A (forIn ifs true fun c r => if r = true then do let ok ← isTrue c env (eval c env); pure (ForInStep.yield ok) else pure (ForInStep.yield r)) (fun ok s₃ =>
            if ok = true then wpAny (model prog w) A (eval elt env) (fun x s₄ =>
              wpAny (model prog w) A (call (.builtin "list.append") [acc, x]) (fun _ s₅ => ∃ m, m < n ∧ I m s₅) (notedBy (model prog w) A env fun e s' => R (.error e) s') s₄) (notedBy (model prog w) A env fun e s' => R (.error e) s') s₃
            else ∃ m, m < n ∧ I m s₃) (notedBy (model prog w) A env fun e s' => R (.error e) s') s₂) (notedBy (model prog w) A env fun e s' => R (.error e) s') s₀) (notedBy (model prog w) A env fun e s' => R (.error e) s') s₁) (notedBy (model prog w) A env fun e s' => R (.error e) s') s)
    (n : Nat) (h : I n s) :
    codeAny (model prog w) A (.compLoop (.ListComp elt [⟨target, iter, ifs, 0⟩] scope pos) 0 it acc env) R s := by
  refine codeAny_loop rfl I (fun n s hI => ?_) n h
  show wpAny _ A ((compTurn (.ListComp elt [⟨target, iter, ifs, 0⟩] scope pos) 0 it acc env).onRaise (fun x => do noteFrame x env; theTreesLotGoes x)) _ _ s
  refine wpAny_noted ?_
  rw [compTurn_list]
  refine wpAny_bind (wpAny_standAt (wpAny_bind (wpAny_mono (turn n s hI) (fun r s₁ h₁ => ?_) fun _ _ h' => h')))
  cases r with
  | none => exact wpAny_pure h₁
  | some v =>
    refine wpAny_bind (wpAny_mono h₁ (fun _ s₂ h₂ => wpAny_bind (wpAny_mono h₂ (fun _ s₂ h₂ => wpAny_bind (wpAny_mono h₂ (fun ok s₃ h₃ => ?_) fun _ _ h' => h')) fun _ _ h' => h')) fun _ _ h' => h')
    cases ok with
    | false => exact wpAny_pure ⟨rfl, h₃⟩
    | true => exact wpAny_bind (wpAny_bind (wpAny_mono h₃ (fun x s₄ h₄ => wpAny_bind (wpAny_mono h₄ (fun _ s₅ h₅ => wpAny_pure (wpAny_pure ⟨rfl, h₅⟩)) fun _ _ h' => h')) fun _ _ h' => h'))

inductive ListLoop (W : Wk) (hid0 g0 : PMap) (env : Env) (vars : Vars) (mu : Mu) (I D : Addr) (d : PV) (u : Value) (len : Nat) (out : Nat → List PV) (n : Nat) (s : Shared) : Prop where
  | mk (i : Nat) (g' : PMap) (h' : Heap) (t' : Nat) (oI : Obj) (vs : Array Value) (nn : Nat) : n = len + 1 - i → i ≤ len → s = W.S h' t' → Le g0 g' → h'.get? I = some oI → (∃ vs, oI.data = .fields vs) → ItAt u d i I h' →
    h'.get? D = some (lobj vs nn) → Iss g' (out i) vs.toList → Rep W (ins (ins hid0 D (lobj vs nn)) I oI) g' env vars mu h' → ListLoop W hid0 g0 env vars mu I D d u len out n s
noncomputable def appOut (ds0 its : List PV) (p : PV → Bool) (f : PV → PV) (i : Nat) : List PV := ds0 ++ ((its.take i).filter p).map f
theorem appOut_succ {ds0 its : List PV} {p : PV → Bool} {f : PV → PV} {i : Nat} {a : PV} (ha : its[i]? = some a) : appOut ds0 its p f (i + 1) = appOut ds0 its p f i ++ (if p a then [f a] else []) := by
  unfold appOut
  rw [take_succ_filter p its i a ha, List.map_append, List.append_assoc]
  cases p a <;> rfl

theorem list_turn {elt target : Expr} {ifs : List Expr} {cenv : Env} {hid0 g0 : PMap} {vv : Vars} {D I : Addr} {d : PV} {u : Value} {its ds0 : List PV} {p : PV → Bool} {f : PV → PV} {tv : PV → Vars} {n : Nat} {s : Shared} {RR : Shared → Prop} {E E0 E1 E2 E3 E4 : Value → Shared → Prop}
    (hh : A.handled = none) (hI0 : hid0 I = none) (hD0 : hid0 D = none) (hDI : D ≠ I) (hsrc : Src mu d its) (i1 : Is g0 d u) (hlen : ds0.length + its.length ≤ 100000) (hlo : LoOk mu target d its)
    (htgt : ∀ oD oI a, a ∈ its → Tgt W A (ins (ins hid0 D oD) I oI) cenv vv mu target a (tv a)) (htest : ∀ hid' a, a ∈ its → Tests W A hid' cenv (tv a) mu ifs (p a)) (helt : ∀ hid' a, a ∈ its → p a = true → Ev W A hid' cenv (tv a) mu elt (f a)) (hsub : ∀ a, a ∈ its → Sub vv (tv a))
    (inv : ListLoop W hid0 g0 cenv vv mu I D d u its.length (appOut ds0 its p f) n s)
    (fin : ∀ g' h' t' vs' nn', Le g0 g' → Rep W (ins hid0 D (lobj vs' nn')) g' cenv vv mu h' → h'.get? D = some (lobj vs' nn') → Iss g' (ds0 ++ (its.filter p).map f) vs'.toList → RR (W.S h' t')) :
    wpAny W.M A (pyNext (.ref I)) (fun r s₁ => match r with
      | none => RR s₁
      | some v => wpAny W.M A (letOwnedTupleGo target (.ref I) v) (fun _ s₀ => wpAny W.M A (assign target cenv v) (fun _ s₂ =>
          wpAny W.M A (forIn ifs true fun c r => if r = true then do let ok ← isTrue c cenv (eval c cenv); pure (ForInStep.yield ok) else pure (ForInStep.yield r)) (fun ok s₃ =>
            if ok = true then wpAny W.M A (eval elt cenv) (fun x s₄ =>
              wpAny W.M A (call (.builtin "list.append") [.ref D, x]) (fun _ s₅ => ∃ m, m < n ∧ ListLoop W hid0 g0 cenv vv mu I D d u its.length (appOut ds0 its p f) m s₅) E4 s₄) E3 s₃
            else ∃ m, m < n ∧ ListLoop W hid0 g0 cenv vv mu I D d u its.length (appOut ds0 its p f) m s₃) E2 s₂) E1 s₀) E0 s₁) E s := by
  have hrI : ∀ oD, ins hid0 D oD I = none := fun oD => by rw [ins_other (Ne.symm hDI)]; exact hI0
  have hrD : ∀ oI, ins hid0 I oI D = none := fun oI => by rw [ins_other hDI]; exact hD0
  obtain ⟨i, g', h', t', oI, vs, nn, rfl, hile, rfl, lg, eIh, hoI, hita, eDh, iss, R'⟩ := inv
  refine iter_next hh R' hsrc (i1.mono lg) hita (fun a w h2 t2 ha iw hsb hit2 => ?_) fun hge h2 t2 hext => ?_
  · have hlt : i < its.length := by
      rcases Nat.lt_or_ge i its.length with q | q
      · exact q
      · rw [List.getElem?_eq_none q] at ha; cases ha
    have hmem : a ∈ its := List.mem_of_getElem? ha
    obtain ⟨o2, vs2, eo2, ef2⟩ := hit2.fields
    have R4 := R'.rehide (hrI _) (nocell_of hoI) hsb eo2
    refine hlo.run hit2 hmem iw (htgt _ _ a hmem g' h2 t2 w _ _ R4 iw fun h3 t3 R5 => ?_)
    refine htest _ a hmem g' h3 t3 _ _ R5 fun g4 h4 t4 l4 R6 => ?_
    have out := appOut_succ (ds0 := ds0) (p := p) (f := f) ha
    have fin2 : ∀ {gg hh tt vs' nn'}, Le g' gg → hh.get? D = some (lobj vs' nn') → Iss gg (appOut ds0 its p f (i + 1)) vs'.toList →
        Rep W (ins (ins hid0 D (lobj vs' nn')) I o2) gg cenv (tv a) mu hh → ∃ m, m < its.length + 1 - i ∧ ListLoop W hid0 g0 cenv vv mu I D d u its.length (appOut ds0 its p f) m (W.S hh tt) := by
      intro gg hh tt vs' nn' ll eD' is' RR
      obtain ⟨sl2, q1, q2⟩ := RR.hs I o2 (ins_same _ _ _)
      have q3 : hh.get? I = some o2 := by rw [q1, q2 (fun es ep z => by rw [ef2] at z; cases z)]
      exact ⟨its.length + 1 - (i + 1), by (first | lia | omega), i + 1, gg, hh, tt, o2, vs', nn', rfl, by (first | assumption | lia | omega), rfl, lg.trans ll, q3, ⟨vs2, ef2⟩, hit2.at fun o q => by rw [eo2] at q; cases q; exact q3, eD', is', RR.forget (hsub a hmem) (List.Sublist.refl _)⟩
    have getD : ∀ {gg hh vv}, Rep W (ins (ins hid0 D (lobj vs nn)) I o2) gg cenv vv mu hh → hh.get? D = some (lobj vs nn) := fun RR => by
      obtain ⟨sl', q1, q2⟩ := RR.hs D _ (by rw [ins_other hDI, ins_same])
      rw [q1, q2 (fun es ep z => nomatch (show Data.seq vs nn = Data.dict es ep from z))]
    cases hp : p a with
    | false =>
      simp only [Bool.false_eq_true, if_false]
      refine fin2 l4 (getD R6) ?_ R6
      rw [out, hp]; simpa using iss.mono l4
    | true =>
      simp only [if_true]
      refine helt _ a hmem hp g4 h4 t4 _ _ R6 fun y g5 h5 t5 l5 R7 iy => ?_
      have hvs : vs.size ≤ 100000 := by
        have := iss.length
        have h3 : (((its.take i).filter p).map f).length ≤ (its.take i).length := by rw [List.length_map]; exact List.length_filter_le _ _
        unfold appOut at this
        simp at this h3
        (first | lia | omega)
      refine append_K (getD R7) hvs fun h6 n6 e6 hs6 => ?_
      refine fin2 (l4.trans l5) e6 ?_ ?_
      · rw [out, hp]
        simpa using ((iss.mono (l4.trans l5)).append (.cons iy .nil))
      · have R8 := R7
        rw [ins_comm hDI] at R8 ⊢
        exact R8.rehide (hrD _) (fun v z => by cases z) hs6 e6
  · have e : i = its.length := by (first | lia | omega)
    subst e
    have R4 := R'.letgo (hrI _) (nocell_of hoI) hext
    unfold appOut at iss
    rw [List.take_length] at iss
    exact fin g' h2 t2 vs nn lg R4 (hext _ _ hDI eDh) iss

theorem comp_frame {elt target iter : Expr} {ifs : List Expr} {cls : List Comprehension} {scope : Scope} {pos cpos : Pos} {use : Option (Value → Sem Unit)} {d : PV} {its out : List PV} {vars' : Vars}
    {g h t} {Q : Value → Shared → Prop} {E : Value → Shared → Prop}
    (he : Ev W A hid env vars mu iter d) (hsrc : Src mu d its) (B : BlockOk scope env) (hk : env.scope.kind = .function) (hv : Over scope env vars' vars) (hf : ∀ x, foldedSetIterable iter env x = pure x)
    (R : Rep W hid g env vars mu h)
    (loop : ∀ D I C hid0 g1 h4 t u oI (RR : Result → Shared → Prop), Is g1 d u → ItAt u d 0 I h4 → (∃ vs, oI.data = .fields vs) → h4.get? I = some oI → h4.get? D = some (lobj #[] 0) → hid0 I = none → hid0 D = none → D ≠ I →
      Rep W (ins (ins hid0 D (lobj #[] 0)) I oI) g1 (cEnv scope C env) vars' mu h4 → (∀ oD oI, OwnFree (ins (ins hid0 D oD) I oI) scope C env) →
      (∀ g' h' t' vs nn, Le g1 g' → Rep W (ins hid0 D (lobj vs nn)) g' (cEnv scope C env) vars' mu h' → Iss g' out vs.toList → RR (.ok .next) (W.S h' t')) →
      codeAny W.M A (.compLoop (.ListComp elt (⟨target, iter, ifs, 0⟩ :: cls) scope pos) 0 (.ref I) (.ref D) (cEnv scope C env)) RR (W.S h4 t))
    (fin : ∀ C D g' h' t' oC, Le g g' → Rep W (ins hid C oC) g' env vars mu h' → hid C = none → (∀ v, oC.data ≠ .cell v) → (∀ h2, UpTo oC h2 C → ∃ m, h2.Ns C m) → NewL W (ins hid C oC) g' env mu h' D out → compPost W.M A E use Q (.ref D) C (.ok .next) (W.S h' t')) :
    wpAny W.M A (comprehension (.ListComp elt (⟨target, iter, ifs, 0⟩ :: cls) scope pos) scope env cpos (newList []) false (eval iter env) use) Q E (W.S h t) := by
  refine wpAny_comprehension_free rfl hf (closure_is B.found) B.kind (fun x hx hl => ?_) (he g h t _ E R fun u g1 h1 t1 l1 R1 i1 => iter_start R1 hsrc i1 fun o ho hit => wpAny_newObj_type ?_)
  · obtain ⟨k, hk'⟩ : ∃ k, scope.names.lookup x.1 = some k := by
      cases q : scope.names.lookup x.1 with
      | some k => exact ⟨k, rfl⟩
      | none => exact absurd hx (fun hm => by
          have : ∀ {l : List (Str × NameKind)}, (x.1, x.2) ∈ l → l.lookup x.1 ≠ none := by
            intro l; induction l with
            | nil => intro h; cases h
            | cons p r ih =>
              obtain ⟨n, k⟩ := p
              intro h
              by_cases e : x.1 = n
              · subst e; rw [lookup_cons_eq]; simp
              · rw [lookup_cons_ne e]
                rcases List.mem_cons.mp h with z | z
                · cases z; exact absurd rfl e
                · exact ih z
          exact this hm q)
    rw [hk', ← lookup_mem_nodup B.nodup hk' hx, hl]
  refine wpAny_newCompEnv ?_
  -- the addresses
  have I1 : h1.get? h1.objs.size = none := Rep.fresh_size
  have eI : (h1.push o).get? h1.objs.size = some o := Heap.get?_push_size _ ho
  have hsz : (h1.push o).objs.size = h1.objs.size + 1 := Heap.size_push ..
  have D1 : h1.get? (h1.push o).objs.size = none := by
    cases q : h1.get? (h1.push o).objs.size with
    | none => rfl
    | some o' => have := Heap.lt_size q; rw [hsz] at this; exact absurd this (Nat.not_lt.mpr (Nat.le_succ _))
  have eD : ((h1.push o).push { cls := .type "list", data := .seq #[] }).get? (h1.push o).objs.size = some { cls := .type "list", data := .seq #[] } := Heap.get?_push_size _ rfl
  have hDI : (h1.push o).objs.size ≠ h1.objs.size := by rw [hsz]; exact Nat.succ_ne_self _
  generalize hH : (h1.push o).push { cls := .type "list", data := .seq #[] } = H at *
  have kH : Kept h1 H := hH ▸ kept_trans (kept_push h1 o) (kept_push _ _)
  have eI' : H.get? h1.objs.size = some o := hH ▸ Heap.get?_push_of_some _ eI
  have hit' : ItAt u d 0 h1.objs.size H := hit.at fun o' q => hH ▸ Heap.get?_push_of_some _ q
  have hIH : h1.objs.size < H.objs.size := Heap.lt_size eI'
  have hDH : (h1.push o).objs.size < H.objs.size := Heap.lt_size eD
  have RC := R1.comp B hk kH hv
  have lone : ∀ {a}, h1.get? a = none → a < H.objs.size → Lone W (rest g1 mu h1) g1 (cEnv scope H.objs.size env) mu a := fun {a} ha hlt =>
    ⟨R1.gnone ha, rest_none ha, fun z => Nat.lt_irrefl _ (show H.objs.size < H.objs.size from (show a = H.objs.size from z) ▸ hlt), fun x c e z => by
      rcases cEnv_cells B.found e with q | q
      · exact (R1.lone ha).cell x c q z
      · rw [z] at q; exact Nat.lt_irrefl _ (Nat.lt_trans q hlt), (R1.lone ha).mu⟩
  have kP : Kept H (pushCells (H.push { cls := .type "dict", data := .dict #[] }) scope.names) := fun b o e => pushCells_keeps _ _ b o (Heap.get?_push_of_some _ e)
  have hC1 : h1.get? H.objs.size = none := by
    cases q : h1.get? H.objs.size with
    | none => rfl
    | some o' => exact absurd (Heap.lt_size (kH _ _ q)) (Nat.lt_irrefl _)
  show codeAny _ _ (.compStart _ 0 _ _ (cEnv scope H.objs.size env)) (compPost W.M A E use Q (.ref (h1.push o).objs.size) H.objs.size) _
  generalize hP : pushCells (H.push { cls := .type "dict", data := .dict #[] }) scope.names = H4 at *
  have R2 := RC.hideAt (lone D1 hDH) (kP _ _ eD)
  have R3 := R2.hideAt (a := h1.objs.size) (by
    have L := lone I1 hIH
    exact ⟨L.g, by rw [ins_other (Ne.symm hDI)]; exact L.hid, L.loc, L.cell, L.mu⟩) (kP _ _ eI')
  generalize (h1.push o).objs.size = D at *
  generalize h1.objs.size = I at *
  have hit4 : ItAt u d 0 I H4 := hit'.at fun o' q => kP _ _ q
  have hrI : ∀ oD, ins (rest g1 mu h1) D oD I = none := fun oD => by rw [ins_other (Ne.symm hDI)]; exact rest_none I1
  have hrD : ∀ oI, ins (rest g1 mu h1) I oI D = none := fun oI => by rw [ins_other hDI]; exact rest_none D1
  have hof : ∃ vs, o.data = .fields vs := by obtain ⟨o', vs, e1, e2⟩ := hit4.fields; rw [kP _ _ eI'] at e1; cases e1; exact ⟨vs, e2⟩
  have ownfree : ∀ oD oI, OwnFree (ins (ins (rest g1 mu h1) D oD) I oI) scope H.objs.size env := fun oD oI x c e1 e2 => by
    have hlt := cEnv_own B.nodup e1 e2
    rw [ins_other (Ne.symm (Nat.ne_of_lt (Nat.lt_trans hIH hlt))), ins_other (Ne.symm (Nat.ne_of_lt (Nat.lt_trans hDH hlt)))]
    refine rest_none ?_
    cases q : h1.get? c with
    | none => rfl
    | some o' => exact absurd (Heap.lt_size (kH _ _ q)) (Nat.not_lt.mpr (Nat.le_of_lt hlt))
  refine (fun key => codeAny_compStart_list key (iter_self hit4 key)) ?_
  refine loop D I H.objs.size (rest g1 mu h1) g1 H4 t1 u o _ i1 hit4 hof (kP _ _ eI') (kP _ _ eD) (rest_none I1) (rest_none D1) hDI R3 ownfree fun g' h2 t2 vs nn lg R4 iss => ?_
  obtain ⟨slD, qD, qD2⟩ := R4.hs D _ (ins_same _ _ _)
  have : slD = #[] := qD2 (fun es ep z => nomatch (show Data.seq vs nn = Data.dict es ep from z))
  subst this
  have gD : g' D = none := by
    cases q : g' D with
    | none => rfl
    | some x => have := R4.gh D x q; rw [ins_same] at this; cases this
  have R5 := R4.unhide (rest_none D1)
  have RO := R1.back lg R5.e (fun a h => h) (fun a l hm _ => by
    obtain ⟨vs, n, e1, r1, r2, _⟩ := R5.mus a l hm
    exact ⟨vs, n, e1, r1, r2⟩)
  obtain ⟨m, oC, es, ep, eC, eCd, hrest⟩ := R5.ns
  have eC' : h2.get? H.objs.size = some oC := eC
  have LC : Lone W hid g' env mu H.objs.size := ⟨R5.gL, R1.hnone hC1, (R1.lone hC1).loc, (R1.lone hC1).cell, (R1.lone hC1).mu⟩
  have hDC : D ≠ H.objs.size := Nat.ne_of_lt hDH
  refine fin H.objs.size D g' h2 t2 oC (l1.trans lg) (RO.hideAt LC eC') LC.hid (fun v z => by rw [eCd] at z; cases z) (fun h3 ⟨sl3, q3, _⟩ => ⟨m, _, es, ep, q3, eCd, hrest⟩) ⟨⟨gD, by rw [ins_other hDC]; exact R1.hnone D1, (R1.lone D1).loc, (R1.lone D1).cell, (R1.lone D1).mu⟩, vs, nn, qD, iss⟩

theorem comp_core {elt target iter : Expr} {ifs : List Expr} {scope : Scope} {pos cpos : Pos} {use : Option (Value → Sem Unit)} {d : PV} {its : List PV} {vars' : Vars} {p : PV → Bool} {f : PV → PV} {tv : PV → Vars}
    {g h t} {Q : Value → Shared → Prop} {E : Value → Shared → Prop}
    (hh : A.handled = none) (he : Ev W A hid env vars mu iter d) (hsrc : Src mu d its) (B : BlockOk scope env) (hk : env.scope.kind = .function) (hv : Over scope env vars' vars) (hf : ∀ x, foldedSetIterable iter env x = pure x)
    (hlo : LoOk mu target d its) (hlen : its.length ≤ 100000)
    (htgt : ∀ hid' C a, a ∈ its → OwnFree hid' scope C env → Tgt W A hid' (cEnv scope C env) vars' mu target a (tv a))
    (htest : ∀ hid' C a, a ∈ its → Tests W A hid' (cEnv scope C env) (tv a) mu ifs (p a))
    (helt : ∀ hid' C a, a ∈ its → p a = true → Ev W A hid' (cEnv scope C env) (tv a) mu elt (f a))
    (hsub : ∀ a, a ∈ its → Sub vars' (tv a))
    (R : Rep W hid g env vars mu h)
    (fin : ∀ C D g' h' t' oC, Le g g' → Rep W (ins hid C oC) g' env vars mu h' → hid C = none → (∀ v, oC.data ≠ .cell v) → (∀ h2, UpTo oC h2 C → ∃ m, h2.Ns C m) → NewL W (ins hid C oC) g' env mu h' D ((its.filter p).map f) → compPost W.M A E use Q (.ref D) C (.ok .next) (W.S h' t')) :
    wpAny W.M A (comprehension (.ListComp elt [⟨target, iter, ifs, 0⟩] scope pos) scope env cpos (newList []) false (eval iter env) use) Q E (W.S h t) :=
  comp_frame he hsrc B hk hv hf R (fun D I C hid0 g1 h4 t4 u oI RR i1 hit hof eI eD hI0 hD0 hDI R3 ow k => by
    refine loop_tests (ListLoop W hid0 g1 (cEnv scope C env) vars' mu I D d u its.length (appOut [] its p f)) (fun n s inv => ?_) (its.length + 1) ⟨0, g1, h4, t4, oI, #[], 0, rfl, Nat.zero_le _, rfl, Le.refl g1, eI, hof, hit, eD, Iss.nil, R3⟩
    exact list_turn hh hI0 hD0 hDI hsrc i1 (by simpa using hlen) hlo (fun oD oI a ha => htgt _ C a ha (ow _ _)) (fun hid' a ha => htest hid' C a ha) (fun hid' a ha hp => helt hid' C a ha hp) hsub inv fun g' h' t' vs nn lg R4 _ iss => k g' h' t' vs nn lg R4 iss) fin
end
end Mine
end

section
open PySem PySem.W PyProof.Rows PySem.Calls PySem.SeqAt
set_option linter.unusedVariables false
set_option maxRecDepth 100000
namespace Mine
section
variable {W : Wk} {A : Around} {hid : PMap} {env : Env} {vars : Vars} {mu : Mu} {K K' : Out → Prop}

noncomputable def EvNew (W : Wk) (A : Around) (hid : PMap) (env : Env) (vars : Vars) (mu : Mu) (e : Expr) (ds : List PV) : Prop :=
  ∀ g h t (Q : Value → Shared → Prop) (E : Value → Shared → Prop), Rep W hid g env vars mu h →
    (∀ D g' h' t', Le g g' → Rep W hid g' env vars mu h' → NewL W hid g' env mu h' D ds → Q (.ref D) (W.S h' t')) → wpAny W.M A (eval e env) Q E (W.S h t)
theorem EvNew.ev {e ds} (x : EvNew W A hid env vars mu e ds) : Ev W A hid env vars mu e (.list ds) := fun g h t Q E R k =>
  x g h t Q E R fun D g' h' t' l R' N => by
    obtain ⟨L, vs, n, e, i⟩ := N
    have lle := le_ins (o := lobj vs n) L.g
    exact k _ _ h' t' (l.trans lle) (R'.freezeAt L e) (.list (ins_same _ _ _) (i.mono lle))

theorem new_obj {g h D vs n ds} (R : Rep W hid g env vars mu h) (h0 : h.get? D = none) {h'} (k : Kept h h') (e : h'.get? D = some (lobj vs n)) (i : Iss g ds vs.toList) : NewL W hid g env mu h' D ds :=
  ⟨R.lone h0, vs, n, e, i⟩

theorem evnew_list {es : List Expr} {ds pos} (ha : EvArgs W A hid env vars mu es ds) (hl : ds.length ≤ 1000) : EvNew W A hid env vars mu (.List es pos) ds := fun g h t Q E R k =>
  List_ (ha pos g h t _ E R fun us g1 h1 t1 l1 R1 i1 => by
    refine wpAny_newObj_type ?_ (by show us.toArray.size ≤ sizeLine; rw [List.size_toArray, i1.length, sizeLine_eq]; (first | lia | omega))
    exact k _ g1 _ t1 l1 (R1.keeps (kept_push h1 _)) (new_obj R1 Rep.fresh_size (kept_push h1 _) (Heap.get?_push_size _ rfl) (by simpa using i1)))

theorem times_new {h : Heap} {t : Nat} {l : Addr} {items : Array Value} {k : Nat} {x : Int} {u : Tok} {Q : Value → Shared → Prop} {E} (hl : h.get? l = some { cls := .type "list", dict := none, data := .seq items k, slots := #[] }) (h0 : 0 ≤ x) (h1 : x ≤ 100000) (h2 : items.size ≤ 100)
    (q : Q (.ref h.objs.size) (W.S (h.push { cls := .type "list", data := .seq (List.foldl (fun x1 x2 => x1 ++ x2) #[] (List.replicate (if items.isEmpty = true then 0 else x.toNat) items)) }) t)) :
    wpAny W.M A (binaryOp .Mult (.ref l) (.int x u)) Q E (W.S h t) := by
  have b : items.size * x.toNat ≤ 100 * 100000 := Nat.mul_le_mul h2 (by (first | lia | omega))
  have T : (W.S h t).TypeIs (.ref l) "list" := ⟨_, hl, rfl⟩
  refine wpAny_binaryOp_repeat_ref (T := "list") (U := "int") (by decide) T (fun s' => typeIs_int s' x u) noFill_list_mul F.fills_int_mul F.slot_int_rmul repeat_list F.slot_int_index.lookup ?_
  refine call_meets F.slot_int_rmul (typeIs_int (W.S h t) x u) F.entry_int_rmul (F.args_int_rmul_2 _ _) (int___rmul___int_list x u l items k) ⟨hl, rfl, T, ?_⟩
  refine call_meets F.slot_list_mul T F.entry_list_mul (F.args_list_mul_2 _ _) (AutoListH.list___mul___list_int_3 l items k x u ?_ ?_ ?_) ⟨hl, q⟩
  · simp [Builtin.List.listFitsIndex]; (first | lia | omega)
  · (first | lia | omega)
  · simp [Builtin.List.listTooLong, sizeLine]; (first | lia | omega)

theorem evnew_rep {c e : Expr} {p pos : Pos} {a : PV} {n : Int} (hc : EvArgs W A hid env vars mu [c] [a]) (he : Ev W A hid env vars mu e (.int n)) (h0 : 0 ≤ n) (hn : n ≤ 100000) : EvNew W A hid env vars mu (.BinOp (.List [c] p) .Mult e pos) (List.replicate n.toNat a) := fun g h t Q E R k => by
  refine wpAny_BinOp (List_ (hc p g h t _ E R fun us g1 h1 t1 l1 R1 i1 => ?_))
  cases i1 with
  | cons i1 r =>
    cases r
    rename_i v
    refine wpAny_newObj_type ?_ (by show (1 : Nat) ≤ sizeLine; rw [sizeLine_eq]; (first | (simp; done) | lia | omega))
    obtain ⟨R2, l2⟩ := R1.alloc { cls := .type "list", data := .seq [v].toArray } rfl
    refine he _ _ t1 _ E R2 fun w g3 h3 t3 l3 R3 i3 => ?_
    cases i3
    have e0 : h3.get? h1.objs.size = some { cls := .type "list", data := .seq [v].toArray } := R3.gs _ _ (l3 _ _ (ins_same _ _ _))
    refine times_new e0 h0 hn (by simp) ?_
    have hrep : (List.foldl (fun x1 x2 => x1 ++ x2) #[] (List.replicate (if ([v].toArray).isEmpty = true then 0 else n.toNat) [v].toArray) : Array Value).toList = List.replicate n.toNat v := by
      have key : ∀ (m : Nat) (acc : Array Value), (List.foldl (fun x1 x2 => x1 ++ x2) acc (List.replicate m [v].toArray) : Array Value).toList = acc.toList ++ List.replicate m v := by
        intro m
        induction m with
        | zero => intro acc; simp
        | succ m ih => intro acc; rw [List.replicate_succ, List.foldl_cons, ih, List.replicate_succ]; simp
      simpa using key n.toNat #[]
    refine k _ g3 _ t3 ((l1.trans l2).trans l3) (R3.keeps (kept_push h3 _)) (new_obj R3 Rep.fresh_size (kept_push h3 _) (Heap.get?_push_size _ rfl) ?_)
    rw [hrep]
    have iv : Is g3 a v := i1.mono (l2.trans l3)
    clear hrep
    induction n.toNat with
    | zero => exact .nil
    | succ m ih => exact .cons iv ih

theorem compPost_ok {M : Model} {A : Around} {E} {Q : Value → Shared → Prop} {acc : Value} {C : Addr} {s : Shared} (h : ∃ m, s.heap.Ns C m) (k : ∀ h', Heap.SameBut C s.heap h' → Q acc { s with heap := h' }) : compPost M A E none Q acc C (.ok .next) s := by
  obtain ⟨m, hm⟩ := h
  exact ⟨m, hm, k⟩

structure CompOk (W : Wk) (A : Around) (hid : PMap) (env : Env) (vars : Vars) (mu : Mu) (elt target iter : Expr) (ifs : List Expr) (scope : Scope) (its : List PV) (p : PV → Bool) (f : PV → PV) : Prop where
  run : ∃ (d : PV) (vars' : Vars) (tv : PV → Vars), Ev W A hid env vars mu iter d ∧ Src mu d its ∧ BlockOk scope env ∧ Over scope env vars' vars ∧ (∀ x, foldedSetIterable iter env x = pure x) ∧ LoOk mu target d its ∧ its.length ≤ 100000 ∧
    (∀ hid' C a, a ∈ its → OwnFree hid' scope C env → Tgt W A hid' (cEnv scope C env) vars' mu target a (tv a)) ∧
    (∀ hid' C a, a ∈ its → Tests W A hid' (cEnv scope C env) (tv a) mu ifs (p a)) ∧
    (∀ hid' C a, a ∈ its → p a = true → Ev W A hid' (cEnv scope C env) (tv a) mu elt (f a)) ∧ (∀ a, a ∈ its → Sub vars' (tv a))
  hh : A.handled = none
  hk : env.scope.kind = .function

theorem evnew_comp {elt target iter : Expr} {ifs : List Expr} {scope : Scope} {pos : Pos} {its p f} (c : CompOk W A hid env vars mu elt target iter ifs scope its p f) :
    EvNew W A hid env vars mu (.ListComp elt [⟨target, iter, ifs, 0⟩] scope pos) ((its.filter p).map f) := fun g h t Q E R k => by
  obtain ⟨⟨d, vars', tv, he, hsrc, B, hv, hf, hlo, hlen, htgt, htest, helt, hsub⟩, hh, hk⟩ := c
  rw [eval_ListComp]
  refine comp_core hh he hsrc B hk hv hf hlo hlen htgt htest helt hsub R fun C D g' h' t' oC l R' hC hnc hns N => ?_
  refine compPost_ok (hns _ (R'.hs C oC (ins_same _ _ _))) fun h2 hs2 => ?_
  have R2 := R'.letgo hC hnc hs2.extBut
  obtain ⟨L, vs, n, e, i⟩ := N
  have hDC : D ≠ C := fun z => by have := L.hid; rw [z, ins_same] at this; cases this
  refine k D g' h2 t' l R2 ⟨⟨L.g, by have := L.hid; rw [ins_other hDC] at this; exact this, L.loc, L.cell, L.mu⟩, vs, n, (hs2.2 D hDC).trans e, i⟩

theorem ex_own {x : Str} {p pos : Pos} {e : Expr} {ds : List PV} (he : EvNew W A hid env vars mu e ds) (hs : Sto hid env x) (hsw : swapsWith e (some (.Name x p)) pos.line env = pure false) (hk : env.scope.kind = .function) (hd : (x == ("__debug__" : Str)) = false) :
    Ex1 W A hid env vars mu (.Assign [.Name x p] e pos) (fun o => ∃ D, o = .next ((x, .loc D) :: vars) ((D, ds) :: mu)) := fun g h t R =>
  wpAny_Assign_Name (he g h t _ _ R fun D g1 h1 t1 l1 R1 N => by
    obtain ⟨L, vs, n, e, i⟩ := N
    exact store_K hs hk hd (R1.own L e i) .loc fun h2 t2 R2 => ⟨_, _, g1, h2, t2, rfl, ⟨D, rfl⟩, l1, R2⟩) hsw

theorem ex_comp {x : Str} {px spos : Pos} {elt target iter : Expr} {ifs : List Expr} {scope : Scope} {pos : Pos} {its p f} (c : CompOk W A hid env vars mu elt target iter ifs scope its p f)
    (hsw : swapsWith (.ListComp elt [⟨target, iter, ifs, 0⟩] scope pos) (some (.Name x px)) spos.line env = pure true) (hl : env.kindOf x = some .local) (hd : (x == ("__debug__" : Str)) = false) :
    Ex1 W A hid env vars mu (.Assign [.Name x px] (.ListComp elt [⟨target, iter, ifs, 0⟩] scope pos) spos) (· = .next ((x, .list ((its.filter p).map f)) :: vars) mu) := fun g h t R => by
  obtain ⟨⟨d, vars', tv, he, hsrc, B, hv, hf, hlo, hlen, htgt, htest, helt, hsub⟩, hh, hk⟩ := c
  rw [exec_Assign_Name_used x px _ spos hsw]
  refine wpAny_bind (wpAny_standAt (wpAny_bind ?_))
  show wpAny _ _ (do let _ ← comprehension (.ListComp elt [⟨target, iter, ifs, 0⟩] scope pos) scope env _ (newList []) false (eval iter env) (some (assign (.Name x px) env))) _ _ _
  refine wpAny_bind ?_
  refine comp_core hh he hsrc B hk hv hf hlo hlen htgt htest helt hsub R fun C D g' h' t' oC l R' hC hnc hns N => ?_
  obtain ⟨L, vs, n, e, i⟩ := N
  have lle := le_ins (o := lobj vs n) L.g
  show wpAny _ _ (assign (.Name x px) env (.ref D)) _ _ _
  refine wpAny_assign_Name (store_K (.loc hl) hk hd (R'.freezeAt L e) (.list (ins_same _ _ _) (i.mono lle)) fun h2 t2 R2 => ?_)
  obtain ⟨m, hm⟩ := hns _ (R2.hs C oC (ins_same _ _ _))
  refine ⟨m, hm, fun h3 hs3 => ?_⟩
  exact wpAny_pure (wpAny_pure ⟨_, _, _, h3, t2, rfl, rfl, l.trans lle, R2.letgo hC hnc hs3.extBut⟩)
end
end Mine
end

section
open PySem PySem.W PyProof.Rows PySem.Calls PySem.SeqAt
set_option linter.unusedVariables false
set_option maxRecDepth 100000
namespace Mine

noncomputable def FrIn (h : Heap) (l : List Env) : Prop := ∀ e ∈ l, e.scope.kind = .function ∧ ∃ L o es ep, e.frame = some L ∧ h.get? L = some o ∧ o.data = .dict es ep
noncomputable def FrHid (hid : PMap) (l : List Env) : Prop := ∀ e ∈ l, e.scope.kind = .function ∧ ∃ L o es ep, e.frame = some L ∧ hid L = some o ∧ o.data = .dict es ep
theorem funFrames_in {h : Heap} {as : List Addr} : ∀ {l : List Env}, FrIn h l → (∀ e ∈ l, ∀ a, e.frame = some a → a ∈ as) → h.FunFrames (hideAll h as) l
  | [], _, _ => trivial
  | env :: r, f, hin => by
    obtain ⟨hk, L, o, es, ep, hf, ho, hd⟩ := f env (.head _)
    exact ⟨by rw [hk]; decide, ⟨L, o, hf, hideAll_none _ (hin env (.head _) L hf), ho, fun vs q => by rw [hd] at q; cases q⟩, funFrames_in (fun e he => f e (.tail _ he)) fun e he => hin e (.tail _ he)⟩

noncomputable def Fly (l : List Env) (g : PMap) (h₁ : Heap) (x : Value) (a : Addr) (h' : Heap) : Prop :=
  ∃ B a0, Heap.FlyingW B l a x a0 h' ∧ (∀ b o, g b = some o → B.get? b = some o) ∧ (∀ b o, h₁.get? b = some o → (∀ es ep, o.data ≠ .dict es ep) → B.get? b = some o) ∧ h₁.UpToSlots h'

section
variable {W : Wk} {A : Around} {hid g : PMap} {env : Env} {outer : List Env} {L a : Addr} {h₁ : Heap} {x : Value} {s : Shared}

structure FrOk (g : PMap) (h₁ : Heap) (l : List Env) : Prop where
  here : FrIn h₁ l
  free : ∀ e ∈ l, ∀ L, e.frame = some L → g L = none
  old : ∀ b o, g b = some o → h₁.get? b = some o

theorem FrOk.base (f : FrOk g h₁ outer) : (∀ b o, (hideAll h₁ (outer.filterMap (·.frame))).get? b = some o → h₁.get? b = some o) ∧ h₁.FunFrames (hideAll h₁ (outer.filterMap (·.frame))) outer ∧
    (∀ b o, g b = some o → (hideAll h₁ (outer.filterMap (·.frame))).get? b = some o) ∧ (∀ b o, h₁.get? b = some o → (∀ es ep, o.data ≠ .dict es ep) → (hideAll h₁ (outer.filterMap (·.frame))).get? b = some o) := by
  refine ⟨fun b o q => of_hideAll _ q, funFrames_in f.here fun e he b hb => List.mem_filterMap.mpr ⟨e, he, hb⟩, fun b o q => hideAll_get _ (f.old b o q) fun hm => ?_, fun b o q hn => hideAll_get _ q fun hm => ?_⟩
  · obtain ⟨e, he, hf⟩ := List.mem_filterMap.mp hm
    rw [f.free e he b hf] at q; cases q
  · obtain ⟨e, he, hf⟩ := List.mem_filterMap.mp hm
    obtain ⟨_, L, o', es, ep, hf', ho, hd⟩ := f.here e he
    rw [hf] at hf'; cases hf'
    rw [q] at ho; cases ho
    exact hn es ep hd

theorem leaves_held {M : Model} {base : Heap} {e : Addr} {cls a0 : Value} {E} {Q : Unit → Shared → Prop} (hf : env.frame = some L) (hh : Heap.HeldW base (env :: outer) e cls a0 L s.heap)
    (hQ : ∀ h', Heap.FlyingW base outer e cls a0 h' → s.heap.UpToSlots h' → Q () { s with heap := h' }) : wpAny M A (leaving env (.ref e)) Q E s := by
  unfold leaving
  refine wpAny_bind (wpAny_noteFrame_againW hf hh.2.2.2 ?_)
  refine wpAny_landsW hh fun h' hfl hs => ?_
  obtain ⟨k1, k2, ⟨_, _, k3⟩, k4⟩ := hfl
  exact hQ h' ⟨k1, k2, k3, k4⟩ hs

theorem leave_x {E} {Q : Unit → Shared → Prop} (hfr : A.frames = some (env :: outer)) (f : FrOk g h₁ (env :: outer)) (X : XForm W (env :: outer) g h₁ x a s.heap)
    (hQ : ∀ h', Fly outer g h₁ x a h' → Q () { s with heap := h' }) : wpAny W.M A (leaving env (.ref a)) Q E s := by
  obtain ⟨_, L, _, _, _, hf, _, _⟩ := f.here env (.head _)
  cases X with
  | made args hx =>
    obtain ⟨b1, b2, b3, b4⟩ := f.base
    exact wpAny_leaves_madeW hfr hf b1 b2 hx fun h' t x1 x2 x3 x4 => hQ h' ⟨_, _, x1, b3, b4, (Heap.UpToSlots.of_keeps hx.keeps).trans x4⟩
  | fly B a0 q1 q2 q3 q4 => exact wpAny_leaves_onW hfr hf q1 fun h' x1 x2 => hQ h' ⟨B, a0, x1, q2, q3, q4.trans x2⟩
  | held B a0 L' env' r e hf' q1 q2 q3 q4 =>
    cases e
    rw [hf] at hf'; cases hf'
    exact leaves_held hf q1 fun h' x1 x2 => hQ h' ⟨B, a0, x1, q2, q3, q4.trans x2⟩

theorem note_x {E} {Q : Unit → Shared → Prop} (hfr : A.frames = some (env :: outer)) (f : FrOk g h₁ (env :: outer)) (hf : env.frame = some L) (X : XForm W (env :: outer) g h₁ x a s.heap)
    (hQ : ∀ h' B a0, Heap.HeldW B (env :: outer) a x a0 L h' → (∀ b o, g b = some o → B.get? b = some o) → (∀ b o, h₁.get? b = some o → (∀ es ep, o.data ≠ .dict es ep) → B.get? b = some o) → h₁.UpToSlots h' → Q () { s with heap := h' }) :
    wpAny W.M A (noteFrame (.ref a) env) Q E s := by
  cases X with
  | made args hx =>
    obtain ⟨b1, b2, b3, b4⟩ := f.base
    obtain ⟨t, he, htn, ht⟩ := hx.there
    have fresh : ∀ b, h₁.get? b = none → (hideAll h₁ ((env :: outer).filterMap (·.frame))).get? b = none := fun b hb => by
      cases hq : (hideAll h₁ ((env :: outer).filterMap (·.frame))).get? b with
      | none => rfl
      | some o' => have := b1 b o' hq; rw [hb] at this; cases this
    unfold noteFrame
    simp only [hf]
    refine wpAny_bind (wpAny_field he rfl rfl ?_)
    rw [if_neg (by simp)]
    refine wpAny_entryW (a0 := .ref t) hfr (b2.of_keeps fun b o hb _ => ⟨o, hx.keeps b o hb, rfl⟩) hf he (fun b o hb => hx.keeps b o (b1 b o hb)) (fresh a hx.new) rfl (by show 1 < 6; decide) rfl fun h' N => ?_
    obtain ⟨k1, k2, k3, k4⟩ := N
    exact hQ h' _ _ ⟨k1, fresh a hx.new, k2, k3⟩ b3 b4 ((Heap.UpToSlots.of_keeps hx.keeps).trans k4)
  | fly B a0 q1 q2 q3 q4 => exact wpAny_looks_onW hfr hf q1 fun h' x1 x2 => hQ h' B a0 x1 q2 q3 (q4.trans x2)
  | held B a0 L' env' r e hf' q1 q2 q3 q4 =>
    cases e
    rw [hf] at hf'; cases hf'
    exact wpAny_noteFrame_againW hf q1.2.2.2 (hQ s.heap B a0 q1 q2 q3 q4)

theorem setFlight_held {M : Model} {base : Heap} {l : List Env} {e : Addr} {cls a0 : Value} {E} {Q : Unit → Shared → Prop} (R : Heap.HeldW base l e cls a0 L s.heap)
    (h : ∀ h', Heap.HeldW base l e cls a0 L h' → s.heap.UpToSlots h' → Q () { s with heap := h' }) : wpAny M A (setFlight (.ref e) (some L)) Q E s := by
  obtain ⟨hkb, hen, hl, oe, vs, T, oT, ts, he, hcls, hd, h1, hnT, hTe, hT, hdT, h3⟩ := R
  have hsz3 : 3 < ts.size := (Array.getElem?_eq_some_iff.mp h3).1
  have other : ∀ b, b ≠ T → (s.heap.update T (Obj.mapFields (·.setIfInBounds 3 ((some L).elim Value.none fun f => rawInt f)))).get? b = s.heap.get? b :=
    fun b hb => Heap.get?_update_other _ _ (Ne.symm hb)
  have noRecord : ∀ b o, s.heap.get? b = some o → (∀ vs, o.data ≠ .fields vs) → b ≠ T := fun b o hb hnf q => by
    rw [q, hT] at hb; injection hb with hb; subst hb; exact hnf ts hdT
  unfold setFlight
  refine wpAny_bind (wpAny_field he hd h1 ?_)
  rw [if_pos (show (Value.ref T != Value.none) = true from by simp)]
  refine wpAny_setField hT hdT hsz3 (h _ ⟨fun b o hbo => (other b fun q => by rw [q, hnT] at hbo; cases hbo).trans (hkb b o hbo), hen,
    hl.of_keeps fun b o hb hnf => ⟨o, (other b (noRecord b o hb hnf)).trans hb, rfl⟩, ?_⟩ fun b o hb hnf => ⟨o.slots, (other b (noRecord b o hb hnf)).trans hb⟩)
  exact ⟨oe, vs, T, _, _, (other e (Ne.symm hTe)).trans he, hcls, hd, h1, hnT, hTe, Heap.get?_update_self _ hT (Obj.isFreed_of_fields (Obj.data_mapFields hdT _)), Obj.data_mapFields hdT _, by simp [hsz3]⟩

theorem back_x {E : Value → Shared → Prop} {B : Heap} {a0 : Value} (hf : env.frame = some L) (q1 : Heap.HeldW B (env :: outer) a x a0 L s.heap) (q2 : ∀ b o, g b = some o → B.get? b = some o) (q3 : ∀ b o, h₁.get? b = some o → (∀ es ep, o.data ≠ .dict es ep) → B.get? b = some o)
    (q4 : h₁.UpToSlots s.heap) (hE : ∀ h', XForm W (env :: outer) g h₁ x a h' → E (.ref a) { s with heap := h' }) : cameBackBy W.M A env E (.ref a) s := by
  show wpAny _ _ (do
    if (← field (.ref a) 1) == .none then unsupported "frame.own-activation:exception-without-traceback"
    setFlight (.ref a) env.frame) _ _ _
  have q := q1
  obtain ⟨_, _, _, oe, vs, T, oT, ts, he, hcls, hd, h1, _⟩ := q
  refine wpAny_bind (wpAny_field he hd h1 ?_)
  rw [if_neg (by simp)]
  rw [hf]
  exact setFlight_held q1 fun h' k1 k2 => hE h' (.held B a0 L env outer rfl hf k1 q2 q3 (q4.trans k2))
end
end Mine
end

section
open PySem PySem.W PyProof.Rows PySem.Calls PySem.SeqAt
set_option linter.unusedVariables false
set_option maxRecDepth 100000
namespace Mine

structure FrX (A : Around) (hid : PMap) (env : Env) (outer : List Env) : Prop where
  frames : A.frames = some (env :: outer)
  kind : env.scope.kind = .function
  loc : env.frame = some env.locals
  hid : FrHid hid outer
theorem FrHid.mono {hid hid' : PMap} {l : List Env} (k : ∀ a o, hid a = some o → hid' a = some o) (f : FrHid hid l) : FrHid hid' l := fun e he => by
  obtain ⟨h1, L, o, es, ep, h2, h3, h4⟩ := f e he
  exact ⟨h1, L, o, es, ep, h2, k _ _ h3, h4⟩
theorem FrX.ins {A : Around} {hid : PMap} {env : Env} {outer : List Env} {I : Addr} {o : Obj} (f : FrX A hid env outer) (hI : hid I = none) : FrX A (ins hid I o) env outer :=
  ⟨f.frames, f.kind, f.loc, f.hid.mono fun a o' q => by rw [ins_other (fun z => by rw [z, hI] at q; cases q)]; exact q⟩

section
variable {W : Wk} {A : Around} {hid : PMap} {env : Env} {vars : Vars} {mu : Mu} {K K' : Out → Prop}

theorem Rep.frOk {g h outer} (R : Rep W hid g env vars mu h) (F : FrX A hid env outer) : FrOk g h (env :: outer) := by
  refine ⟨fun e he => ?_, fun e he L hL => ?_, R.gs⟩
  · rcases List.mem_cons.mp he with rfl | he
    · obtain ⟨m, o, es, ep, ho, hd, _⟩ := R.ns
      exact ⟨F.kind, _, o, es, ep, F.loc, ho, hd⟩
    · obtain ⟨h1, L, o, es, ep, h2, h3, h4⟩ := F.hid e he
      obtain ⟨sl, e1, _⟩ := R.hs L o h3
      exact ⟨h1, L, _, es, ep, h2, e1, h4⟩
  · rcases List.mem_cons.mp he with rfl | he
    · rw [F.loc] at hL; cases hL; exact R.gL
    · obtain ⟨_, L', o, _, _, h2, h3, _⟩ := F.hid e he
      rw [h2] at hL; cases hL
      cases q : g L with
      | none => rfl
      | some o' => rw [R.gh L o' q] at h3; cases h3

noncomputable def TurnX (J : Vars → Mu → Prop) (K : Out → Prop) : Out → Prop
  | .next v m => ∃ v' m', Sub v' v ∧ m'.Sublist m ∧ J v' m'
  | .cont v m => ∃ v' m', Sub v' v ∧ m'.Sublist m ∧ J v' m'
  | .brk v m => K (.next v m)
  | .ret d => K (.ret d)
  | .exc x v m => K (.exc x v m)

inductive ForLoop (W : Wk) (hid g1 : PMap) (env : Env) (J : Nat → Vars → Mu → Prop) (I : Addr) (d : PV) (u : Value) (len : Nat) (n : Nat) (s : Shared) : Prop where
  | mk (i : Nat) (v : Vars) (m : Mu) (g' : PMap) (h' : Heap) (t' : Nat) (o' : Obj) : n = len + 1 - i → i ≤ len → s = W.S h' t' → Le g1 g' → J i v m → h'.get? I = some o' → (∃ vs, o'.data = .fields vs) → ItAt u d i I h' → Rep W (ins hid I o') g' env v m h' → ForLoop W hid g1 env J I d u len n s
theorem ex_forG {x : Str} {p pos : Pos} {e : Expr} {body : List Stmt} {d : PV} {its : List PV} (J : Nat → Vars → Mu → Prop) (hx : (∃ outer, FrX A hid env outer) ∨ ∀ x v m, ¬ K (.exc x v m)) (hh : A.handled = none) (he : Ev W A hid env vars mu e d) (hsrc : ∀ i v m, J i v m → Src m d its) (h0 : J 0 vars mu)
    (hs : Sto hid env x) (hk : env.scope.kind = .function) (hd : (x == ("__debug__" : Str)) = false) (hf : ∀ x, foldedSetIterable e env x = pure x)
    (turn : ∀ hid' i v m a, (∀ y, Sto hid env y → Sto hid' env y) → (∀ outer, FrX A hid env outer → FrX A hid' env outer) → its[i]? = some a → J i v m → Exs W A hid' env ((x, a) :: v) m body (TurnX (J (i + 1)) K))
    (done : ∀ v m, J its.length v m → K (.next v m)) : Ex1 W A hid env vars mu (.For (.Name x p) e body [] pos) K := fun g h t R => by
  refine wpAny_For (he g h t _ _ R fun u g1 h1 t1 l1 R1 i1 => iter_start R1 (hsrc 0 _ _ h0) i1 fun o ho hit => ?_) hf
  have hI : h1.get? h1.objs.size = none := Rep.fresh_size
  have hIh : hid h1.objs.size = none := R1.hnone hI
  have e0 : (h1.push o).get? h1.objs.size = some o := Heap.get?_push_size _ ho
  have R2 := R1.hide hI (kept_push h1 o) e0
  generalize h1.objs.size = I at *
  have hof : ∃ vs, o.data = .fields vs := by obtain ⟨o', vs, e1, e2⟩ := hit.fields; rw [e0] at e1; cases e1; exact ⟨vs, e2⟩
  have hsto : ∀ o' y, Sto hid env y → Sto (ins hid I o') env y := fun o' y s => by
    rcases s with s | ⟨c, s1, s2, s3⟩
    · exact .loc s
    · refine .cell c s1 s2 ?_
      obtain ⟨⟨v, oc, e1, e2⟩, _⟩ := R1.cell y c s2
      rw [ins_other (fun z => by rw [z, hI] at e1; cases e1)]; exact s3
  refine codeAny_forLoop (ForLoop W hid g1 env J I d u its.length) ?_ (its.length + 1)
    ⟨0, vars, mu, g1, _, t1, o, rfl, Nat.zero_le _, rfl, Le.refl g1, h0, e0, hof, hit, R2⟩
  rintro n s ⟨i, v, m, g', h', t', o', rfl, hile, rfl, lg, hJ, eo, hof', hita, R'⟩
  refine iter_next hh R' (hsrc i v m hJ) (i1.mono lg) hita (fun a w h2 t2 ha iw hsb hit2 => ?_) fun hge h2 t2 hext => ?_
  · have hlt : i < its.length := by
      rcases Nat.lt_or_ge i its.length with q | q
      · exact q
      · rw [List.getElem?_eq_none q] at ha; cases ha
    obtain ⟨o2, vs2, eo2, ef2⟩ := hit2.fields
    have R3 := R'.rehide hIh (nocell_of hof') hsb eo2
    refine wpAny_assign_Name (store_K (hsto o2 x hs) hk hd R3 iw fun h3 t3 R4 => ?_)
    refine wpAny_mono (turn (ins hid I o2) i v m a (hsto o2) (fun _ FX => FX.ins hIh) ha hJ g' h3 t3 R4) (fun f s3 y => ?_) fun e3 s3 y => ?_
    · have fin : ∀ {v m gg h4 t4}, (∃ v' m', Sub v' v ∧ m'.Sublist m ∧ J (i + 1) v' m') → Le g' gg → Rep W (ins hid I o2) gg env v m h4 → ∃ k, k < its.length + 1 - i ∧ ForLoop W hid g1 env J I d u its.length k (W.S h4 t4) := by
        rintro v m gg h4 t4 ⟨v', m', s1, s2, hJ'⟩ l4 R5
        obtain ⟨sl, q1, q2⟩ := R5.hs I o2 (ins_same _ _ _)
        have q3 : h4.get? I = some o2 := by rw [q1, q2 (fun es ep z => by rw [ef2] at z; cases z)]
        refine ⟨its.length + 1 - (i + 1), by omega, i + 1, v', m', gg, h4, t4, o2, rfl, by (first | assumption | lia | omega), rfl, lg.trans l4, hJ', q3, ⟨vs2, ef2⟩, hit2.at fun o q => ?_, R5.forget s1 s2⟩
        rw [eo2] at q; cases q; exact q3
      cases f with
      | next => obtain ⟨v, m, gg, h4, t4, rfl, k, l4, R5⟩ := y; exact fin k l4 R5
      | cont => obtain ⟨v, m, gg, h4, t4, rfl, k, l4, R5⟩ := y; exact fin k l4 R5
      | brk => obtain ⟨v, m, gg, h4, t4, rfl, k, l4, R5⟩ := y; exact ⟨v, m, gg, h4, t4, rfl, k, (l1.trans lg).trans l4, R5.unhide hIh⟩
      | ret w => obtain ⟨d, gg, h4, t4, rfl, k, l4, R5, i5⟩ := y; exact ⟨d, gg, h4, t4, rfl, k, (l1.trans lg).trans l4, R5.unhide hIh, i5⟩
    · obtain ⟨x, v, m, g₁, h₁, a, l, hh', tt, rfl, rfl, k, l4, R5, efr, XF⟩ := y
      rcases hx with ⟨outer, FX⟩ | hx
      case inr => exact absurd k (hx x v m)
      rw [FX.frames] at efr
      cases efr
      have FO := (R5.unhide hIh).frOk FX
      refine note_x FX.frames FO FX.loc XF fun h2 B a0 q1 q2 q3 q4 => ?_
      exact back_x (s := W.S h2 tt) FX.loc q1 q2 q3 q4 fun h3 X3 => ⟨x, v, m, g₁, h₁, a, _, h3, tt, rfl, rfl, k, (l1.trans lg).trans l4, R5.unhide hIh, FX.frames, X3⟩
  · have e : i = its.length := by (first | lia | omega)
    subst e
    exact wpAny_execs_nil ⟨v, m, g', h2, t2, rfl, done v m hJ, l1.trans lg, R'.letgo hIh (nocell_of hof') hext⟩

theorem turn_free {J : Vars → Mu → Prop} {o : Out} (h : TurnK J K o) : TurnX J (fun o => K o ∧ ∀ x v m, o ≠ .exc x v m) o := by
  cases o with
  | next v m => exact h
  | cont v m => exact h
  | brk v m => exact ⟨h, fun _ _ _ z => nomatch z⟩
  | ret d => exact ⟨h, fun _ _ _ z => nomatch z⟩
  | exc x v m => exact h.elim
theorem ex_for {x : Str} {p pos : Pos} {e : Expr} {body : List Stmt} {d : PV} {its : List PV} (J : Nat → Vars → Mu → Prop) (hh : A.handled = none) (he : Ev W A hid env vars mu e d) (hsrc : ∀ i v m, J i v m → Src m d its) (h0 : J 0 vars mu)
    (hs : Sto hid env x) (hk : env.scope.kind = .function) (hd : (x == ("__debug__" : Str)) = false) (hf : ∀ x, foldedSetIterable e env x = pure x)
    (turn : ∀ hid' i v m a, (∀ y, Sto hid env y → Sto hid' env y) → its[i]? = some a → J i v m → Exs W A hid' env ((x, a) :: v) m body (TurnK (J (i + 1)) K))
    (done : ∀ v m, J its.length v m → K (.next v m)) : Ex1 W A hid env vars mu (.For (.Name x p) e body [] pos) K :=
  (ex_forG (K := fun o => K o ∧ ∀ x v m, o ≠ .exc x v m) J (.inr fun x v m h => h.2 x v m rfl) hh he hsrc h0 hs hk hd hf (fun hid' i v m a h1 h2 h3 h4 => (turn hid' i v m a h1 h3 h4).imp fun o => turn_free) (fun v m h => ⟨done v m h, fun _ _ _ z => nomatch z⟩)).imp fun o h => h.1
end
end Mine
end

section
open PySem PySem.W PyProof.Rows PySem.Calls PySem.SeqAt
set_option linter.unusedVariables false
set_option maxRecDepth 100000
namespace Mine

structure FnAt (W : Wk) (a : Addr) (fd : FuncData) (body : List Stmt) : Prop where
  obj : ∃ o, W.base.get? a = some o ∧ o.data = .func fd
  code : W.base.CodeRec fd.code fd.qualname
  body : fd.body = .stmts body
  closure : fd.closure = []
  glob : fd.globals = mainGlobals
  bn : fd.builtins = builtinsNs
  co : fd.scope.isCoroutine = false
  gen : fd.scope.isGenerator = false
  kind : fd.scope.kind = .function

structure AOk0 (A : Around) (n : Nat) : Prop where
  handled : A.handled = none
  depth : A.depth + n ≤ 500
  units : A.units + 3 * n ≤ 4000
  frames : ∃ l, A.frames = some l
theorem AOk.zero {W : Wk} {A : Around} {n : Nat} (a : AOk W A n) : AOk0 A n := ⟨a.handled, a.depth, a.units, let ⟨e, l, h, _⟩ := a.frames; ⟨e :: l, h⟩⟩
noncomputable abbrev fEnv (fd : FuncData) (a L : Addr) : Env := callEnvC fd L a

theorem bindL_not {kindOf : Str → Option NameKind} : ∀ {bs : List (Str × Value)} {m : Str → Option Value} {x : Str}, x ∉ bs.map (·.1) → bindL kindOf bs m x = m x
  | [], _, _, _ => rfl
  | (n, v) :: r, m, x, h => by
    rw [List.map_cons, List.mem_cons, not_or] at h
    unfold bindL
    rw [bindL_not h.2]
    split
    · show (if x = n then some v else m x) = m x
      rw [if_neg h.1]
    · rfl
theorem bindC_not {kindOf : Str → Option NameKind} : ∀ {bs : List (Str × Value)} {m : Str → Option Value} {x : Str}, x ∉ bs.map (·.1) → bindC kindOf bs m x = m x
  | [], _, _, _ => rfl
  | (n, v) :: r, m, x, h => by
    rw [List.map_cons, List.mem_cons, not_or] at h
    unfold bindC
    rw [bindC_not h.2]
    split
    · rfl
    · show (if x = n then some v else m x) = m x
      rw [if_neg h.1]
theorem bindL_get {kindOf : Str → Option NameKind} : ∀ {bs : List (Str × Value)} {m : Str → Option Value} {x : Str} {v}, (bs.map (·.1)).Nodup → (x, v) ∈ bs → kindOf x = some .local → bindL kindOf bs m x = some v
  | (n, w) :: r, m, x, v, hn, hm, hk => by
    obtain ⟨n1, n2⟩ := List.nodup_cons.mp hn
    unfold bindL
    rcases List.mem_cons.mp hm with e | e
    · cases e
      rw [bindL_not n1, if_pos hk]
      exact if_pos rfl
    · exact bindL_get n2 e hk
theorem bindC_get {kindOf : Str → Option NameKind} : ∀ {bs : List (Str × Value)} {m : Str → Option Value} {x : Str} {v}, (bs.map (·.1)).Nodup → (x, v) ∈ bs → kindOf x ≠ some .local → bindC kindOf bs m x = some v
  | (n, w) :: r, m, x, v, hn, hm, hk => by
    obtain ⟨n1, n2⟩ := List.nodup_cons.mp hn
    unfold bindC
    rcases List.mem_cons.mp hm with e | e
    · cases e
      rw [bindC_not n1, if_neg hk]
      exact if_pos rfl
    · exact bindC_get n2 e hk

inductive Binds (g : PMap) : Vars → List (Str × Value) → Prop where
  | nil : Binds g [] []
  | cons {x d u vs bs} : Is g d u → Binds g vs bs → Binds g ((x, d) :: vs) ((x, u) :: bs)
theorem Binds.names {g : PMap} : ∀ {vs bs}, Binds g vs bs → bs.map (·.1) = vs.map (·.1)
  | _, _, .nil => rfl
  | _, _, .cons _ r => by rw [List.map_cons, List.map_cons, r.names]
theorem Binds.get {g : PMap} : ∀ {vs bs}, Binds g vs bs → ∀ x d, vs.lookup x = some d → ∃ u, (x, u) ∈ bs ∧ Is g d u
  | _, _, .nil, x, d, h => by cases h
  | _, _, @Binds.cons _ y e u vs bs i r, x, d, h => by
    by_cases hx : x = y
    · subst hx; rw [lookup_cons_eq] at h; cases h; exact ⟨_, .head _, i⟩
    · rw [lookup_cons_ne hx] at h
      obtain ⟨u, hm, iu⟩ := r.get x d h
      exact ⟨u, .tail _ hm, iu⟩

noncomputable def paramsOk (scope : Scope) (names : List Str) : Bool :=
  names.all fun p => (scope.names.lookup p == some .local || scope.names.lookup p == some .cell) && !(p == ("__debug__" : Str))

section
variable {W : Wk} {A : Around} {hid : PMap} {env : Env} {vars : Vars} {mu : Mu} {K K' : Out → Prop}

theorem cellsFrom_has {x : Str} : ∀ {names : List (Str × NameKind)} {n : Nat} {acc : List (Str × Addr)}, (x, NameKind.cell) ∈ names → ((cellsFrom n names acc).lookup x).isSome = true
  | (nm, k) :: r, n, acc, hm => by
    unfold cellsFrom
    by_cases hr : (x, NameKind.cell) ∈ r
    · split <;> exact cellsFrom_has hr
    · rcases List.mem_cons.mp hm with e | e
      · cases e
        rw [if_pos (by simp), cellsFrom_not (fun k hk e => hr (e ▸ hk)), lookup_cons_eq]; rfl
      · exact absurd e hr

theorem sto_fn {fd : FuncData} {a L : Addr} {x : Str} {hid : PMap} (h : fd.scope.names.lookup x = some .local ∨ fd.scope.names.lookup x = some .cell) (hf : ∀ c, L < c → hid c = none) : Sto hid (fEnv fd a L) x := by
  rcases h with h | h
  · exact .loc h
  · obtain ⟨c, hc⟩ := Option.isSome_iff_exists.mp (cellsFrom_has (n := L + 1) (acc := []) (mem_of_lookup h))
    refine .cell c h hc (hf c ?_)
    rcases cellsFrom_ge hc with q | q
    · cases q
    · exact q

end
end Mine
end

section
open PySem PySem.W PyProof.Rows PySem.Calls PySem.SeqAt
set_option linter.unusedVariables false
set_option maxRecDepth 100000
namespace Mine

noncomputable def FnP (W : Wk) (P : Prop) (f : Value) (n : Nat) (args : List PV) (K : PV → Prop) (X : Value → Prop) : Prop :=
  ∀ A hid g h t us (Q : Value → Shared → Prop) (E : Value → Shared → Prop) outer, AOk0 A n → (P → A.frames = some outer ∧ FrHid hid outer) → RepE W hid g h → Iss g args us →
    (∀ d u g' h' t', K d → Le g g' → RepE W hid g' h' → Is g' d u → Q u (W.S h' t')) →
    (∀ x a g' h₁ h' t', X x → Le g g' → RepE W hid g' h₁ → Fly outer g' h₁ x a h' → E (.ref a) (W.S h' t')) → wpAny W.M A (call f us) Q E (W.S h t)
noncomputable abbrev FnG (W : Wk) (f : Value) (n : Nat) (args : List PV) (K : PV → Prop) (X : Value → Prop) : Prop := FnP W True f n args K X
noncomputable abbrev Fn (W : Wk) (f : Value) (n : Nat) (args : List PV) (d : PV) : Prop := FnP W False f n args (· = d) (fun _ => False)

section
variable {W : Wk} {A : Around} {hid : PMap} {env : Env} {vars : Vars} {mu : Mu} {K K' : Out → Prop}

theorem fn_core {P : Prop} {fd : FuncData} {a : Addr} {body : List Stmt} {n : Nat} {args : List PV} {K : PV → Prop} {X : Value → Prop} (hXP : ∀ x, X x → P) (O : W.Ok) (F : FnAt W a fd body) (vars : Vars) (names : List Str) (hv : vars.map (·.1) = names) (hp : paramsOk fd.scope names = true) (hnd : names.Nodup)
    (hb : ∀ g h t us, (∀ a o, W.base.get? a = some o → h.get? a = some o) → (∀ a o, W.base.get? a = some o → g a = some o) → Iss g args us → ∃ binds, BindsTo (W.S h t) fd ⟨us, []⟩ binds ∧ Binds g vars binds)
    (hbody : ∀ A hid L outer, AOk W A n → (P → FrX A hid (fEnv fd a L) outer) → (∀ x, fd.scope.names.lookup x = some .local ∨ fd.scope.names.lookup x = some .cell → Sto hid (fEnv fd a L) x) → Exs W A hid (fEnv fd a L) vars [] body (fun o => (∃ d, K d ∧ o = .ret d) ∨ (∃ x v m, X x ∧ o = .exc x v m) ∨ (K .none ∧ ∃ v m, o = .next v m))) :
    FnP W P (.ref a) (n + 1) args K X := fun A hid g h t us Q E outer ao hfx RE iss k kx => by
  have hn : (vars.map (·.1)).Nodup := by rw [hv]; exact hnd
  obtain ⟨o, ho, hd⟩ := F.obj
  have kb : ∀ a o, W.base.get? a = some o → h.get? a = some o := fun a o e => RE.gs a o (RE.bs a o e)
  obtain ⟨binds, hbt, hB⟩ := hb g h t us kb RE.bs iss
  refine wpAny_call (codeAny_call_function (by have := ao.depth; show A.depth < 1000; (first | lia | omega)) (kb _ _ ho) hd F.co F.gen F.body (F.code.keeps kb) (hbt _ _ _ _ ?_))
  rw [F.closure]
  have hnn : (binds.map (·.1)).Nodup := by rw [hB.names]; exact hn
  have hkinds : ∀ y ∈ binds, fd.scope.names.lookup y.1 = some .local ∨ fd.scope.names.lookup y.1 = some .cell := fun y hy => by
    have : y.1 ∈ names := by rw [← hv, ← hB.names]; exact List.mem_map.mpr ⟨y, hy, rfl⟩
    have := List.all_eq_true.mp hp _ this
    simp only [Bool.and_eq_true, Bool.or_eq_true, beq_iff_eq] at this
    exact this.1
  refine wpAny_newFunctionEnv_cells F.kind (fun y hy => (hkinds y hy).imp id fun q => ⟨q, cellsFrom_has (mem_of_lookup q)⟩) fun env he s' x => ?_
  subst he
  obtain ⟨h₁, tk, rfl, hkk⟩ := x.toInCall.done
  have hfresh : ∀ {c}, h.objs.size ≤ c → h.get? c = none := fun {c} hc => by
    cases q : h.get? c with
    | none => rfl
    | some o' => exact absurd (Heap.lt_size q) (Nat.not_lt.mpr hc)
  have gnone : ∀ {c}, h.get? c = none → g c = none := fun {c} hc => by
    cases q : g c with
    | none => rfl
    | some o' => rw [RE.gs _ _ q] at hc; cases hc
  have hnone : ∀ {c}, h.get? c = none → hid c = none := fun {c} hc => by
    cases q : hid c with
    | none => rfl
    | some o' => obtain ⟨sl, z, _⟩ := RE.hs _ _ q; rw [z] at hc; cases hc
  have R : Rep W hid g (fEnv fd a h.objs.size) vars [] h₁ := by
    refine ⟨RE.bs, fun b o e => hkk _ _ (RE.gs b o e), fun b o e => (RE.hs b o e).keeps hkk, RE.gh, ⟨_, x.toInCall.ns⟩, fun y e q => ?_, gnone (hfresh (Nat.le_refl _)), hnone (hfresh (Nat.le_refl _)), fun y c q => ?_, fun y z c e1 e2 => ?_, fun a l q => (by cases q), List.nodup_nil⟩
    · obtain ⟨u, hm, iu⟩ := hB.get y e q
      have hdb : (y == ("__debug__" : Str)) = false := by
        have := List.all_eq_true.mp hp y (by rw [← hv]; exact List.mem_map.mpr ⟨_, mem_of_lookup q, rfl⟩)
        simp only [Bool.and_eq_true, Bool.not_eq_true'] at this
        exact this.2
      refine ⟨u, iu, hdb, ?_⟩
      rcases hkinds _ hm with q1 | q1
      · exact .inl ⟨q1, _, x.toInCall.ns, bindL_get hnn hm q1⟩
      · obtain ⟨c, hc⟩ := Option.isSome_iff_exists.mp (cellsFrom_has (n := h.objs.size + 1) (acc := []) (mem_of_lookup q1))
        refine .inr ⟨c, .inl q1, hc, ?_⟩
        have := x.cell y c hc
        rw [bindC_get hnn hm (by show fd.scope.names.lookup y ≠ _; rw [q1]; intro z; cases z)] at this
        exact this
    · have hlt := x.above y c (mem_of_lookup q)
      exact ⟨⟨_, x.cell y c q⟩, gnone (hfresh (Nat.le_of_lt hlt)), Ne.symm (Nat.ne_of_lt hlt)⟩
    · exact name_of_addr x.apart (mem_of_lookup e1) (mem_of_lookup e2)
  refine ⟨(O.nolimit.keeps kb).keeps hkk, codeAny_func ?_⟩

  have FX : P → FrX (A.deeper (fEnv fd a h.objs.size)) hid (fEnv fd a h.objs.size) outer := fun hx => ⟨Around.frames_deeper (hfx hx).1, F.kind, rfl, (hfx hx).2⟩
  have hstep := hbody (A.deeper (fEnv fd a h.objs.size)) hid h.objs.size outer ⟨ao.handled, by have := ao.depth; show A.depth + 1 + n ≤ 500; (first | lia | omega), by have := ao.units; show A.units + 3 + 3 * n ≤ 4000; (first | lia | omega), by
    obtain ⟨l, h1⟩ := ao.frames
    exact ⟨fEnv fd a h.objs.size, l, Around.frames_deeper h1, F.gen, F.co, F.bn, F.glob⟩⟩ FX (fun y hy => sto_fn hy fun c hc => hnone (hfresh (Nat.le_of_lt hc))) g h₁ tk R
  show wpAny _ (A.deeper (fEnv fd a h.objs.size)) (execs body (fEnv fd a h.objs.size)) _ _ _
  refine wpAny_mono hstep (fun f s y => ?_) fun e s y => ?_
  · cases f with
    | ret u =>
      obtain ⟨d', g', h', t', rfl, q, l, RE', i⟩ := y
      rcases q with ⟨d, kd, q⟩ | ⟨_, v, m, _, q⟩ | ⟨_, v, m, q⟩
      · cases q; exact k _ u g' h' t' kd l RE' i
      · cases q
      · cases q
    | next =>
      obtain ⟨v, m, g', h', t', rfl, q, l, R'⟩ := y
      rcases q with ⟨_, _, q⟩ | ⟨_, v, m, _, q⟩ | ⟨kd, _⟩
      · cases q
      · cases q
      · exact k .none .none g' h' t' kd l R'.e .none
    | brk => obtain ⟨v, m, g', h', t', rfl, q, l, R'⟩ := y; rcases q with ⟨_, _, q⟩ | ⟨_, v, m, _, q⟩ | ⟨_, v, m, q⟩ <;> cases q
    | cont => obtain ⟨v, m, g', h', t', rfl, q, l, R'⟩ := y; rcases q with ⟨_, _, q⟩ | ⟨_, v, m, _, q⟩ | ⟨_, v, m, q⟩ <;> cases q
  · obtain ⟨x, v, m, g₁, h₂, ae, l, h', t', rfl, rfl, q, lg, R', efr, XF⟩ := y
    rcases q with ⟨_, _, q⟩ | ⟨x', v', m', hX, q⟩ | ⟨_, v, m, q⟩
    · cases q
    · cases q
      have FX := FX (hXP _ hX)
      rw [FX.frames] at efr
      cases efr
      exact leave_x FX.frames (R'.frOk FX) XF fun h'' hf => kx _ ae g₁ h₂ h'' t' hX lg R'.e hf
    · cases q
theorem fn_introP {P : Prop} {fd : FuncData} {a : Addr} {body : List Stmt} {n : Nat} {args : List PV} {K : PV → Prop} {X : Value → Prop} (hXP : ∀ x, X x → P) (O : W.Ok) (F : FnAt W a fd body) (vars : Vars) (names : List Str) (hv : vars.map (·.1) = names) (hp : paramsOk fd.scope names = true) (hnd : names.Nodup)
    (hb : ∀ g h t us, (∀ a o, W.base.get? a = some o → h.get? a = some o) → (∀ a o, W.base.get? a = some o → g a = some o) → Iss g args us → ∃ binds, BindsTo (W.S h t) fd ⟨us, []⟩ binds ∧ Binds g vars binds)
    (hbody : ∀ A hid L outer, AOk W A n → (P → FrX A hid (fEnv fd a L) outer) → (∀ x, fd.scope.names.lookup x = some .local ∨ fd.scope.names.lookup x = some .cell → Sto hid (fEnv fd a L) x) → Exs W A hid (fEnv fd a L) vars [] body (fun o => (∃ d, K d ∧ o = .ret d) ∨ (∃ x v m, X x ∧ o = .exc x v m))) :
    FnP W P (.ref a) (n + 1) args K X :=
  fn_core hXP O F vars names hv hp hnd hb fun A hid L outer h1 h2 h3 => (hbody A hid L outer h1 h2 h3).imp fun o h => h.imp id .inl
theorem fn_introX {fd : FuncData} {a : Addr} {body : List Stmt} {n : Nat} {args : List PV} {K : PV → Prop} {X : Value → Prop} (O : W.Ok) (F : FnAt W a fd body) (vars : Vars) (names : List Str) (hv : vars.map (·.1) = names) (hp : paramsOk fd.scope names = true) (hnd : names.Nodup)
    (hb : ∀ g h t us, (∀ a o, W.base.get? a = some o → h.get? a = some o) → (∀ a o, W.base.get? a = some o → g a = some o) → Iss g args us → ∃ binds, BindsTo (W.S h t) fd ⟨us, []⟩ binds ∧ Binds g vars binds)
    (hbody : ∀ A hid L outer, AOk W A n → FrX A hid (fEnv fd a L) outer → (∀ x, fd.scope.names.lookup x = some .local ∨ fd.scope.names.lookup x = some .cell → Sto hid (fEnv fd a L) x) → Exs W A hid (fEnv fd a L) vars [] body (fun o => (∃ d, K d ∧ o = .ret d) ∨ (∃ x v m, X x ∧ o = .exc x v m))) :
    FnG W (.ref a) (n + 1) args K X :=
  fn_introP (fun _ _ => trivial) O F vars names hv hp hnd hb fun A hid L outer h1 h2 h3 => hbody A hid L outer h1 (h2 trivial) h3
theorem FnP.imp {P P' : Prop} {f : Value} {n : Nat} {args : List PV} {K K' : PV → Prop} {X X' : Value → Prop} (h : FnP W P f n args K X) (hP : P → P') (hK : ∀ d, K d → K' d) (hX : ∀ x, X x → X' x) : FnP W P' f n args K' X' :=
  fun A hid g hp t us Q E outer ao hfr RE iss k kx => h A hid g hp t us Q E outer ao (fun p => hfr (hP p)) RE iss (fun d u g' h' t' hd => k d u g' h' t' (hK d hd)) fun x a g' h1 h' t' hx => kx x a g' h1 h' t' (hX x hx)
theorem fn_intro {fd : FuncData} {a : Addr} {body : List Stmt} {n : Nat} {args : List PV} {d : PV} (O : W.Ok) (F : FnAt W a fd body) (vars : Vars) (names : List Str) (hv : vars.map (·.1) = names) (hp : paramsOk fd.scope names = true) (hnd : names.Nodup)
    (hb : ∀ g h t us, (∀ a o, W.base.get? a = some o → h.get? a = some o) → (∀ a o, W.base.get? a = some o → g a = some o) → Iss g args us → ∃ binds, BindsTo (W.S h t) fd ⟨us, []⟩ binds ∧ Binds g vars binds)
    (hbody : ∀ A hid L, AOk W A n → (∀ x, fd.scope.names.lookup x = some .local ∨ fd.scope.names.lookup x = some .cell → Sto hid (fEnv fd a L) x) → Exs W A hid (fEnv fd a L) vars [] body (fun o => o = .ret d ∨ (d = .none ∧ ∃ v m, o = .next v m))) :
    Fn W (.ref a) (n + 1) args d :=
  fn_core (fun _ h => h) O F vars names hv hp hnd hb fun A hid L outer h1 h2 h3 => (hbody A hid L h1 h3).imp fun o h => h.elim (fun e => .inl ⟨_, rfl, e⟩) fun e => .inr (.inr ⟨e.1.symm, e.2⟩)


noncomputable def EvG (W : Wk) (A : Around) (hid : PMap) (env : Env) (vars : Vars) (mu : Mu) (e : Expr) (K : PV → Prop) (X : Value → Prop) : Prop :=
  ∀ g h t (Q : Value → Shared → Prop) (E : Value → Shared → Prop), Rep W hid g env vars mu h →
    (∀ d u g' h' t', K d → Le g g' → Rep W hid g' env vars mu h' → Is g' d u → Q u (W.S h' t')) →
    (∀ e s, ExcOk W A hid env (fun o => ∃ x, X x ∧ o = .exc x vars mu) g e s → E e s) → wpAny W.M A (eval e env) Q E (W.S h t)

theorem frHid_rest {g h outer} (R : Rep W hid g env vars mu h) (F : FrX A hid env outer) : FrHid (rest g [] h) (env :: outer) := fun e he => by
  rcases List.mem_cons.mp he with rfl | he
  · obtain ⟨m, o, es, ep, ho, hd, _⟩ := R.ns
    exact ⟨F.kind, _, o, es, ep, F.loc, rest_of ho R.gL (by simp), hd⟩
  · obtain ⟨h1, L, o, es, ep, h2, h3, h4⟩ := F.hid e he
    obtain ⟨sl, e1, _⟩ := R.hs L o h3
    refine ⟨h1, L, _, es, ep, h2, rest_of e1 ?_ (by simp), h4⟩
    cases q : g L with
    | none => rfl
    | some o' => rw [R.gh L o' q] at h3; cases h3

theorem ev_call_core {P : Prop} {x : Str} {np pos : Pos} {a : Addr} {fd : FuncData} {o : Obj} {n : Nat} {e : Expr} {es : List Expr} {ds : List PV} {K : PV → Prop} {X : Value → Prop} {outer} (O : W.Ok) (ao : AOk W A n) (F : P → FrX A hid env outer) (hXP : ∀ x, X x → P) (N : GName W env x (.ref a)) (ho : W.base.get? a = some o) (hd : o.data = .func fd)
    (ha : EvArgs W A hid env vars mu (e :: es) ds) (hf : FnP W P (.ref a) n ds K X) (hs : starEach (e :: es) env = (false, eval e env) :: starEach es env) : EvG W A hid env vars mu (.Call (.Name x np) (e :: es) [] pos) K X := fun g h t Q E R k kx =>
  Call_ (name_global O N R (callWith_def hd (ha pos g h t _ E R fun us g1 h1 t1 l1 R1 i1 => ⟨R1.base _ _ ho, by
    have back : ∀ {g2 h2}, Le g1 g2 → RepE W (rest g1 [] h1) g2 h2 → Rep W hid g2 env vars mu h2 := fun l2 RE2 => R1.back l2 RE2 (fun a h => by cases h) (fun a l _ h => by cases h)
    refine hf A (rest g1 [] h1) g1 h1 t1 us _ E (env :: outer) ao.zero (fun hx => ⟨(F hx).frames, frHid_rest R1 (F hx)⟩) ⟨R1.bs, R1.gs, fun b o e => .of (rest_some e).1, fun b o e => ?_⟩ i1 (fun d u g2 h2 t2 hK l2 RE2 i2 => ?_) fun x ae g2 h2 h3 t3 hX l2 RE2 FL => ?_
    · cases q : rest g1 [] h1 b with
      | none => rfl
      | some o' => rw [(rest_some q).2.1] at e; cases e
    · exact k d u g2 h2 t2 hK (l1.trans l2) (back l2 RE2) i2
    · obtain ⟨B, a0, q1, q2, q3, q4⟩ := FL
      exact kx _ _ ⟨x, vars, mu, g2, h2, ae, _, h3, t3, rfl, rfl, ⟨x, hX, rfl⟩, l1.trans l2, back l2 RE2, (F (hXP x hX)).frames, .fly B a0 q1 q2 q3 q4⟩⟩) hs)) rfl
theorem ev_call_fn {x : Str} {np pos : Pos} {a : Addr} {fd : FuncData} {o : Obj} {n : Nat} {e : Expr} {es : List Expr} {ds : List PV} {d : PV} (O : W.Ok) (ao : AOk W A n) (N : GName W env x (.ref a)) (ho : W.base.get? a = some o) (hd : o.data = .func fd)
    (ha : EvArgs W A hid env vars mu (e :: es) ds) (hf : Fn W (.ref a) n ds d) (hs : starEach (e :: es) env = (false, eval e env) :: starEach es env) : Ev W A hid env vars mu (.Call (.Name x np) (e :: es) [] pos) d := fun g h t Q E R k =>
  ev_call_core (outer := []) O ao (fun h => h.elim) (fun _ h => h) N ho hd ha hf hs g h t Q E R (fun d' u g' h' t' e => by subst e; exact k u g' h' t') fun e s y => by
    obtain ⟨_, _, _, _, _, _, _, _, _, _, _, ⟨_, h, _⟩, _⟩ := y; exact h.elim

theorem ex_retG {e : Expr} {pos} {Kd : PV → Prop} {X : Value → Prop} (he : EvG W A hid env vars mu e Kd X) : Ex1 W A hid env vars mu (.Return (some e) pos) (fun o => (∃ d, Kd d ∧ o = .ret d) ∨ (∃ x, X x ∧ o = .exc x vars mu)) := fun g h t R =>
  wpAny_Return_some (he g h t _ _ R (fun d u g1 h1 t1 hK l1 R1 i1 => ⟨d, g1, h1, t1, rfl, .inl ⟨d, hK, rfl⟩, l1, R1.e, i1⟩) fun e s y => by
    obtain ⟨x, v, m, g₁, h₁, a, l, hh, tt, e1, e2, q, r⟩ := y
    exact ⟨x, v, m, g₁, h₁, a, l, hh, tt, e1, e2, .inr q, r⟩)
theorem ex_assignG {x : Str} {p pos : Pos} {e : Expr} {Kd : PV → Prop} {X : Value → Prop} (he : EvG W A hid env vars mu e Kd X) (hs : Sto hid env x) (hsw : swapsWith e (some (.Name x p)) pos.line env = pure false) (hk : env.scope.kind = .function) (hd : (x == ("__debug__" : Str)) = false) :
    Ex1 W A hid env vars mu (.Assign [.Name x p] e pos) (fun o => (∃ d, Kd d ∧ o = .next ((x, d) :: vars) mu) ∨ (∃ x, X x ∧ o = .exc x vars mu)) := fun g h t R =>
  wpAny_Assign_Name (he g h t _ _ R (fun d u g1 h1 t1 hK l1 R1 i1 => store_K hs hk hd R1 i1 fun h2 t2 R2 => ⟨_, _, g1, h2, t2, rfl, .inl ⟨d, hK, rfl⟩, l1, R2⟩) fun e s y => by
    obtain ⟨x, v, m, g₁, h₁, a, l, hh, tt, e1, e2, q, r⟩ := y
    exact ⟨x, v, m, g₁, h₁, a, l, hh, tt, e1, e2, .inr q, r⟩) hsw
end
end Mine
end

section
open PySem PySem.W PyProof.Rows PySem.Calls PySem.SeqAt
set_option linter.unusedVariables false
set_option maxRecDepth 100000
namespace Mine
section
variable {W : Wk} {A : Around} {hid : PMap} {env : Env} {vars : Vars} {mu : Mu} {K K' : Out → Prop}

theorem AsList.obj {g h d l u} (x : AsList mu d l) (R : Rep W hid g env vars mu h) (i : Is g d u) : ∃ a vs n, u = .ref a ∧ h.get? a = some (lobj vs n) ∧ Iss g l vs.toList := by
  rcases x with rfl | ⟨a, rfl, hm⟩
  · cases i with
    | list e r => exact ⟨_, _, _, rfl, R.gs _ _ e, r⟩
  · cases i
    obtain ⟨vs, n, e, r, _⟩ := R.mus a l hm
    exact ⟨a, vs, n, rfl, e, r⟩

theorem evnew_add {a b : Expr} {pos : Pos} {d e la lb} (ha : Ev W A hid env vars mu a d) (hb : Ev W A hid env vars mu b e) (hla : AsList mu d la) (hlb : AsList mu e lb) (hs : la.length + lb.length ≤ 100000) :
    EvNew W A hid env vars mu (.BinOp a .Add b pos) (la ++ lb) := fun g h t Q E R k =>
  wpAny_BinOp (ha g h t _ E R fun u g1 h1 t1 l1 R1 i1 => hb g1 h1 t1 _ E R1 fun v g2 h2 t2 l2 R2 i2 => by
    obtain ⟨x, vs, n, rfl, e1, q1⟩ := hla.obj R2 (i1.mono l2)
    obtain ⟨y, ws, m, rfl, e2, q2⟩ := hlb.obj R2 i2
    have s1 := q1.length
    have s2 := q2.length
    simp at s1 s2
    refine P.add_list (s := W.S h2 t2) e1 e2 ?_ (by rw [sizeLine_eq]; (first | lia | omega))
    exact k _ g2 _ t2 (l1.trans l2) (R2.keeps (kept_push h2 _)) (new_obj R2 Rep.fresh_size (kept_push h2 _) (Heap.get?_push_size _ rfl) (by simpa using q1.append q2)))

inductive Part (W : Wk) (A : Around) (hid : PMap) (env : Env) (vars : Vars) (mu : Mu) : Option Expr → Option Int → Prop where
  | none : Part W A hid env vars mu none none
  | some {e k} : Ev W A hid env vars mu e (.int k) → Part W A hid env vars mu (some e) (some k)
theorem Part.run {o k} (x : Part W A hid env vars mu o k) : ∀ g h t (Q : Value → Shared → Prop) (E : Value → Shared → Prop), Rep W hid g env vars mu h →
    (∀ u g' h' t', Le g g' → Rep W hid g' env vars mu h' → IsPart u k → Q u (W.S h' t')) → wpAny W.M A (evalPart o env) Q E (W.S h t) := by
  cases x with
  | none => intro g h t Q E R k; exact wpAny_pure (k _ g h t (Le.refl g) R .none)
  | some he => intro g h t Q E R k; exact he g h t Q E R fun u g1 h1 t1 l1 R1 i1 => by cases i1; exact k _ g1 h1 t1 l1 R1 (.int _ _)
noncomputable def sliceP {α : Type} (l : List α) (lo hi : Option Int) : List α := (l.drop (lo.elim 0 (clipAt l.length))).take (hi.elim l.length (clipAt l.length) - lo.elim 0 (clipAt l.length))
theorem Iss.drop {g : PMap} : ∀ {ds vs}, Iss g ds vs → ∀ k, Iss g (ds.drop k) (vs.drop k)
  | _, _, h, 0 => h
  | _, _, .nil, _ + 1 => by simpa using Iss.nil
  | _, _, .cons _ r, k + 1 => r.drop k
theorem Iss.take {g : PMap} : ∀ {ds vs}, Iss g ds vs → ∀ k, Iss g (ds.take k) (vs.take k)
  | _, _, _, 0 => by simpa using Iss.nil
  | _, _, .nil, _ + 1 => by simpa using Iss.nil
  | _, _, .cons h r, k + 1 => .cons h (r.take k)
theorem evnew_slice {v : Expr} {lo hi : Option Expr} {p pos : Pos} {d l klo khi} (hv : Ev W A hid env vars mu v d) (hl : AsList mu d l) (hn : l.length ≤ 100000) (plo : Part W A hid env vars mu lo klo) (phi : Part W A hid env vars mu hi khi) :
    EvNew W A hid env vars mu (.Subscript v (.Slice lo hi none p) pos) (sliceP l klo khi) := fun g h t Q E R k =>
  Subscript_ (hv g h t _ E R fun u g1 h1 t1 l1 R1 i1 => wpAny_Slice (plo.run g1 h1 t1 _ E R1 fun x g2 h2 t2 l2 R2 p2 => phi.run g2 h2 t2 _ E R2 fun y g3 h3 t3 l3 R3 p3 => wpAny_pure (by
    obtain ⟨a, vs, rfl, q1, q2⟩ := hl.get R3 (i1.mono (l2.trans l3))
    have hlen : vs.size = l.length := by have := q2.length; simpa using this
    obtain ⟨ops, ho⟩ := sub_ops (.Slice lo hi none p) (.ref a) (.ref h3.objs.size)
    have hl2 : (h3.push { cls := .type "slice", data := .fields #[x, y, .none] }).IsList a vs := q1.push _
    refine tail_any (s := W.S (h3.push { cls := .type "slice", data := .fields #[x, y, .none] }) t3) hl2.typeIs slot_list_getitem.lookup (wpAny_getItem_list_slice (s := W.S (h3.push { cls := .type "slice", data := .fields #[x, y, .none] }) t3) hl2 (Heap.IsSliceOf.new ..) p2 p3 .none (by simp) ?_ (by rw [sizeLine_eq]; (first | lia | omega))) ho
    have R4 := R3.keeps (kept_push h3 { cls := .type "slice", data := .fields #[x, y, .none] })
    refine k _ g3 _ t3 ((l1.trans l2).trans l3) (R4.keeps (kept_push _ _)) (new_obj R4 Rep.fresh_size (kept_push _ _) (Heap.get?_push_size _ rfl) ?_)
    rw [slicePick_plain]
    unfold sliceP
    rw [hlen]
    exact (q2.drop _).take _)))
theorem Rep.mutate {g h h' a l l' m1 m2 vs' n'} (R : Rep W hid g env vars (m1 ++ (a, l) :: m2) h) (hs : Heap.SameBut a h h') (e : h'.get? a = some (lobj vs' n')) (i : Iss g l' vs'.toList) : Rep W hid g env vars (m1 ++ (a, l') :: m2) h' := by
  obtain ⟨vs, n, e0, i0, r2, r3, r4, r5⟩ := R.mus a l (by simp)
  have nodup := R.mnd
  rw [List.map_append, List.map_cons] at nodup
  have hne : ∀ b lb, (b, lb) ∈ m1 ∨ (b, lb) ∈ m2 → b ≠ a := by
    rintro b lb hm rfl
    have hh := List.nodup_append.mp nodup
    rcases hm with hm | hm
    · exact hh.2.2 b (List.mem_map.mpr ⟨_, hm, rfl⟩) b (List.mem_cons_self) rfl
    · exact (List.nodup_cons.mp hh.2.1).1 (List.mem_map.mpr ⟨_, hm, rfl⟩)
  refine ⟨R.bs, fun b o q => (hs.2 b (fun z => by rw [z, r2] at q; cases q)).trans (R.gs b o q), fun b o q => ?_, R.gh, ?_, fun x d q => ?_, R.gL, R.hL, fun x c q => ?_, R.cnd, fun b lb q => ?_, ?_⟩
  · obtain ⟨sl, e1, e2⟩ := R.hs b o q
    exact ⟨sl, (hs.2 b (fun z => by rw [z, r3] at q; cases q)).trans e1, e2⟩
  · obtain ⟨m, hn⟩ := R.ns; exact ⟨m, hn.sameBut hs (Ne.symm r4)⟩
  · obtain ⟨u, iu, hd, ⟨hl, m, hn, hm⟩ | ⟨c, hk, hc, hv⟩⟩ := R.vs x d q
    · exact ⟨u, iu, hd, .inl ⟨hl, m, hn.sameBut hs (Ne.symm r4), hm⟩⟩
    · exact ⟨u, iu, hd, .inr ⟨c, hk, hc, hv.sameBut hs (r5 x c hc)⟩⟩
  · obtain ⟨⟨v, hv⟩, k1, k2⟩ := R.cell x c q
    exact ⟨⟨v, hv.sameBut hs (r5 x c q)⟩, k1, k2⟩
  · by_cases z : b = a
    · subst z
      have : lb = l' := by
        rcases List.mem_append.mp q with q | q
        · exact absurd rfl (hne _ _ (.inl q))
        · rcases List.mem_cons.mp q with q | q
          · cases q; rfl
          · exact absurd rfl (hne _ _ (.inr q))
      subst this
      exact ⟨vs', n', e, i, r2, r3, r4, r5⟩
    · have q' : (b, lb) ∈ m1 ++ (a, l) :: m2 := by
        rcases List.mem_append.mp q with q | q
        · exact List.mem_append_left _ q
        · rcases List.mem_cons.mp q with q | q
          · cases q; exact absurd rfl z
          · exact List.mem_append_right _ (.tail _ q)
      obtain ⟨ws, m, k1, k2, k3⟩ := R.mus b lb q'
      exact ⟨ws, m, (hs.2 b z).trans k1, k2, k3⟩
  · rw [List.map_append, List.map_cons]; exact nodup

theorem setitem_K {h : Heap} {t : Nat} {a : Addr} {vs : Array Value} {n : Nat} {k : Int} {tk : Tok} {x : Value} {Q : Unit → Shared → Prop} {E} (e : h.get? a = some (lobj vs n)) (h0 : 0 ≤ k) (h1 : k < vs.size) (h2 : vs.size ≤ 100000)
    (kk : ∀ h' n', h'.get? a = some (lobj (vs.setIfInBounds k.toNat x) n') → Heap.SameBut a h h' → Q () (W.S h' t)) : wpAny W.M A (setItem (.ref a) (.int k tk) x) Q E (W.S h t) := by
  have T : (W.S h t).TypeIs (.ref a) "list" := ⟨_, e, rfl⟩
  unfold setItem
  first
    | refine wpAny_holding (wpAny_bind (wpAny_sequenceKey T (by decide) ?_))
    | refine wpAny_bind (wpAny_sequenceKey T (by decide) ?_)
  refine wpAny_bind (wpAny_callSpecial?_slot (name := Str.ofString "__setitem__") T slot_list_setitem (wpAny_call_entry slot_list_setitem T entry_list_setitem ?_ (args_list_setitem _ _ _)))
  have hfit : Builtin.List.listFitsIndex k = true := fitsIndex_of h0 (by (first | lia | omega))
  show wpAny _ _ (Builtin.List.listSubscript? (.int k tk) >>= _) _ _ _
  refine wpAny_bind (wpAny_listSubscript_int hfit ?_)
  clear hfit
  obtain ⟨j, rfl⟩ := Int.eq_ofNat_of_zero_le h0
  rw [Int.toNat_natCast] at kk
  have hx : vs[j]? = some (vs[j]'(by (first | lia | omega))) := Array.getElem?_eq_getElem _
  have up := IsL.update e (·.setIfInBounds j x)
  show wpAny _ _ ((seqItemAt a j >>= fun r => pure (r.map (j, ·))) >>= _) _ _ _
  refine wpAny_bind (wpAny_bind (wpAny_seqItemAt (s := W.S h t) e rfl (wpAny_pure ?_)))
  rw [hx]
  show wpAny _ _ (setSeqItemAt a j x >>= _) _ _ _
  refine wpAny_bind (wpAny_setSeqItemAt (s := W.S h t) e rfl ?_)
  first
    | exact wpAny_bind (wpAny_pure (wpAny_pure ⟨.none, rfl, wpAny_pure (kk _ _ up (Heap.SameBut.update ..))⟩))
    | exact wpAny_pure ⟨.none, rfl, wpAny_pure (kk _ _ up (Heap.SameBut.update ..))⟩

theorem ex_augitem {o i e : Expr} {p pos : Pos} {op : Operator} {a l k b c d m1 m2} (ho : Ev W A hid env vars (m1 ++ (a, l) :: m2) o (.loc a)) (hi : Ev W A hid env vars (m1 ++ (a, l) :: m2) i (.int k)) (he : Ev W A hid env vars (m1 ++ (a, l) :: m2) e b)
    (h0 : 0 ≤ k) (h1 : k < l.length) (h2 : l.length ≤ 100000) (hc : l[k.toNat]? = some c) (hop : Op W A hid env vars (m1 ++ (a, l) :: m2) [c, b] (fun us => inplaceOp op (us.getD 0 .none) (us.getD 1 .none)) d)
    (ha : ∀ ov iv new, augStore i ov iv new = (do holding [new, ov, iv] (setItem ov iv new); release [new, ov, iv] []; pure .next)) :
    Ex1 W A hid env vars (m1 ++ (a, l) :: m2) (.AugAssign (.Subscript o i p) op e pos) (· = .next vars (m1 ++ (a, l.set k.toNat d) :: m2)) := fun g h t R =>
  wpAny_AugAssign_SubscriptAny (ho g h t _ _ R fun v g1 h1' t1 l1 R1 i1 => hi g1 h1' t1 _ _ R1 fun w g2 h2' t2 l2 R2 i2 => by
    cases i1; cases i2
    obtain ⟨vs, n, e0, i0, _⟩ := R2.mus a l (by simp)
    have hlen : vs.size = l.length := by have := i0.length; simpa using this
    obtain ⟨x, hx, ix⟩ := i0.get _ _ hc
    refine wpAny_getItem_list (s := W.S h2' t2) (items := vs) ⟨_, e0, rfl, _, rfl⟩ h0 (by (first | lia | omega)) (by simpa using hx) (he g2 h2' t2 _ _ R2 fun y g3 h3 t3 l3 R3 i3 => ?_)
    refine hop g3 h3 t3 [x, y] _ _ R3 (.cons (ix.mono l3) (.cons i3 .nil)) fun z g4 h4 t4 l4 R4 i4 => ?_
    obtain ⟨vs', n', e1, i1', _⟩ := R4.mus a l (by simp)
    have hlen' : vs'.size = l.length := by have := i1'.length; simpa using this
    refine setitem_K e1 h0 (by (first | lia | omega)) (by (first | lia | omega)) fun h5 n5 e5 hs5 => ⟨_, _, g4, h5, t4, rfl, rfl, ((l1.trans l2).trans l3).trans l4, R4.mutate hs5 e5 ?_⟩
    rw [Array.toList_setIfInBounds]
    exact Iss.set i4 _ i1') ha

theorem ex_append {o e : Expr} {ap cp pos : Pos} {a l d m1 m2} (ho : Ev W A hid env vars (m1 ++ (a, l) :: m2) o (.loc a)) (he : Ev W A hid env vars (m1 ++ (a, l) :: m2) e d) (h2 : l.length ≤ 99999)
    (hbase : attributeBase o "append" env (eval o env) = eval o env) (hs : starEach [e] env = [(false, eval e env)]) (hline : (ap.endLine == cp.line) = true) (hi : interactive env = false)
    (hsw : swapsWith (.Call (.Attribute o "append" ap) [e] [] cp) none pos.line env = pure false) :
    Ex1 W A hid env vars (m1 ++ (a, l) :: m2) (.Expr (.Call (.Attribute o "append" ap) [e] [] cp) pos) (· = .next vars (m1 ++ (a, l ++ [d]) :: m2)) := fun g h t R =>
  wpAny_Expr (wpAny_Call_append hbase (by rw [hs]; rfl) hline (by rw [hs]; rfl) (ho g h t _ _ R fun v g1 h1 t1 l1 R1 i1 => by
    cases i1
    obtain ⟨vs, n, e0, i0, _⟩ := R1.mus a l (by simp)
    refine ⟨a, vs, rfl, ⟨_, n, e0, rfl, rfl, rfl⟩, he g1 h1 t1 _ _ R1 fun y g2 h2' t2 l2 R2 i2 => ?_⟩
    obtain ⟨vs', n', e1, i1', _⟩ := R2.mus a l (by simp)
    have hlen' : vs'.size = l.length := by have := i1'.length; simpa using this
    refine append_K e1 (by (first | lia | omega)) fun h3 n3 e3 hs3 => ⟨_, _, g2, h3, t2, rfl, rfl, l1.trans l2, R2.mutate hs3 e3 ?_⟩
    simpa using i1'.append (.cons i2 .nil))) hi hsw

inductive TgtAll (hid : PMap) (env : Env) : List Expr → List PV → Vars → Vars → Prop where
  | nil {v} : TgtAll hid env [] [] v v
  | cons {x p es d ds v v'} : Sto hid env x → (x == ("__debug__" : Str)) = false → TgtAll hid env es ds ((x, d) :: v) v' → TgtAll hid env (.Name x p :: es) (d :: ds) v v'
theorem TgtAll.len {es ds v v'} (x : TgtAll hid env es ds v v') : (assignEach es env).length = ds.length ∧ (assignEach es env).findIdx? (·.1) = none := by
  induction x with
  | nil => exact ⟨rfl, rfl⟩
  | @cons x p es d ds v v' h1 h2 _ ih =>
    refine ⟨by show (assignEach es env).length + 1 = _; rw [ih.1]; rfl, ?_⟩
    show (((false, assign (.Name x p) env) :: assignEach es env).findIdx? (·.1)) = none
    rw [List.findIdx?_cons]
    simp [ih.2]
theorem TgtAll.run {es ds v v'} (x : TgtAll hid env es ds v v') (hk : env.scope.kind = .function) : ∀ g h t us (Q : Unit → Shared → Prop) (E : Value → Shared → Prop), Rep W hid g env v mu h → Iss g ds us →
    (∀ h' t', Rep W hid g env v' mu h' → Q () (W.S h' t')) → wpAny W.M A (assignInOrder ((assignEach es env).map (·.2)) us) Q E (W.S h t) := by
  induction x with
  | nil => intro g h t us Q E R i k; exact assignInOrder_nil (k h t R)
  | @cons x p es d ds v v' h1 h2 _ ih =>
    intro g h t us Q E R i k
    cases i with
    | cons i is =>
      exact assignInOrder_cons (wpAny_assign_Name (store_K h1 hk h2 R i fun h' t' R' => ih g h' t' _ Q E R' is k))
theorem tgt_tuple {es : List Expr} {n pos ds v'} (hh : A.handled = none) (hk : env.scope.kind = .function) (x : TgtAll hid env es ds vars v') : Tgt W A hid env vars mu (.Tuple es n pos) (.tup ds) v' := fun g h t v Q E R i k => by
  cases i with
  | tup e q =>
    rename_i a vs m
    have hlen : vs.size = ds.length := by have := q.length; simpa using this
    refine assign_Tuple_tuple (s := W.S h t) hh ⟨_, R.gs _ _ e, rfl, m, rfl⟩ (by rw [x.len.1, hlen]) x.len.2 fun h' he => ?_
    have hk' : Kept h h' := fun b o q => he b o (fun z => by rw [z, Rep.fresh_size] at q; cases q) q
    exact x.run hk g h' t _ Q E (R.keeps hk') q k
theorem ex_unpack {es : List Expr} {n : Nat} {tp pos : Pos} {e : Expr} {ds v'} (hh : A.handled = none) (hk : env.scope.kind = .function) (he : Ev W A hid env vars mu e (.tup ds)) (x : TgtAll hid env es ds vars v')
    (hs : swapsWithSole [.Tuple es n tp] e pos.line env = pure false) (hw : swappedStores [.Tuple es n tp] e env = pure none) :
    Ex1 W A hid env vars mu (.Assign [.Tuple es n tp] e pos) (· = .next v' mu) := fun g h t R =>
  PyProof.Rows.Assign_Tuple (he g h t _ _ R fun u g1 h1 t1 l1 R1 i1 => tgt_tuple hh hk x g1 h1 t1 u _ _ R1 i1 fun h2 t2 R2 => ⟨_, _, g1, h2, t2, rfl, rfl, l1, R2⟩) hs hw
end
end Mine
end

section
open PySem PySem.W PyProof.Rows PySem.Calls PySem.SeqAt
set_option linter.unusedVariables false
set_option maxRecDepth 100000
namespace Mine
section
variable {W : Wk} {A : Around} {hid : PMap} {env : Env} {vars : Vars} {mu : Mu} {K K' : Out → Prop}

theorem turn_inner (elt : Expr) (g0 : Comprehension) (target iter : Expr) (ifs : List Expr) (scope : Scope) (pos : Pos) (it acc : Value) (env : Env) :
    compTurn (.ListComp elt [g0, ⟨target, iter, ifs, 0⟩] scope pos) 1 it acc env = (do
      standAt iter.pos
      match ← pyNext it with
      | none => pure (.done .next)
      | some v =>
        letOwnedTupleGo target it v
        assign target env v
        let mut ok := true
        for c in ifs do
          if ok then ok ← isTrue c env (eval c env)
        if ok then
          (do let _ ← call (.builtin "list.append") [acc, ← eval elt env])
        again (.compLoop (.ListComp elt [g0, ⟨target, iter, ifs, 0⟩] scope pos) 1 it acc env)) := by rfl
theorem turn_outer (elt : Expr) (target iter : Expr) (ifs : List Expr) (t1 i1 : Expr) (ifs1 : List Expr) (scope : Scope) (pos : Pos) (it acc : Value) (env : Env) :
    compTurn (.ListComp elt [⟨target, iter, ifs, 0⟩, ⟨t1, i1, ifs1, 0⟩] scope pos) 0 it acc env = (do
      standAt iter.pos
      match ← pyNext it with
      | none => pure (.done .next)
      | some v =>
        letOwnedTupleGo target it v
        assign target env v
        let mut ok := true
        for c in ifs do
          if ok then ok ← isTrue c env (eval c env)
        if ok then
          let x ← eval i1 env
          standAt i1.pos
          let x ← foldedSetIterable i1 env x
          let _ ← runOwn (.compStart (.ListComp elt [⟨target, iter, ifs, 0⟩, ⟨t1, i1, ifs1, 0⟩] scope pos) 1 (← holding [x] (pyIter x)) acc env) env
        again (.compLoop (.ListComp elt [⟨target, iter, ifs, 0⟩, ⟨t1, i1, ifs1, 0⟩] scope pos) 0 it acc env)) := by rfl

theorem loop_inner {elt target iter : Expr} {g0 : Comprehension} {ifs : List Expr} {scope : Scope} {pos : Pos} {it acc : Value} {env : Env} {R : Result → Shared → Prop} {s : Shared} (I : Nat → Shared → Prop)
    (turn : ∀ n s, I n s → wpAny W.M A (pyNext it) (fun r s₁ => match r with
      | none => R (.ok .next) s₁
      | some v => wpAny W.M A (letOwnedTupleGo target it v) (fun _ s₀ => wpAny W.M A (assign target env v) (fun _ s₂ =>
          wpAny W.M A (forIn ifs true fun c r => if r = true then do let ok ← isTrue c env (eval c env); pure (ForInStep.yield ok) else pure (ForInStep.yield r)) (fun ok s₃ =>
            if ok = true then wpAny W.M A (eval elt env) (fun x s₄ =>
              wpAny W.M A (call (.builtin "list.append") [acc, x]) (fun _ s₅ => ∃ m, m < n ∧ I m s₅) (notedBy W.M A env fun e s' => R (.error e) s') s₄) (notedBy W.M A env fun e s' => R (.error e) s') s₃
            else ∃ m, m < n ∧ I m s₃) (notedBy W.M A env fun e s' => R (.error e) s') s₂) (notedBy W.M A env fun e s' => R (.error e) s') s₀) (notedBy W.M A env fun e s' => R (.error e) s') s₁) (notedBy W.M A env fun e s' => R (.error e) s') s)
    (n : Nat) (h : I n s) :
    codeAny W.M A (.compLoop (.ListComp elt [g0, ⟨target, iter, ifs, 0⟩] scope pos) 1 it acc env) R s := by
  refine codeAny_loop rfl I (fun n s hI => ?_) n h
  show wpAny _ A ((compTurn (.ListComp elt [g0, ⟨target, iter, ifs, 0⟩] scope pos) 1 it acc env).onRaise (fun x => do noteFrame x env; theTreesLotGoes x)) _ _ s
  refine wpAny_noted ?_
  rw [turn_inner]
  refine wpAny_bind (wpAny_standAt (wpAny_bind (wpAny_mono (turn n s hI) (fun r s₁ h₁ => ?_) fun _ _ h' => h')))
  cases r with
  | none => exact wpAny_pure h₁
  | some v =>
    refine wpAny_bind (wpAny_mono h₁ (fun _ s₂ h₂ => wpAny_bind (wpAny_mono h₂ (fun _ s₂ h₂ => wpAny_bind (wpAny_mono h₂ (fun ok s₃ h₃ => ?_) fun _ _ h' => h')) fun _ _ h' => h')) fun _ _ h' => h')
    cases ok with
    | false => exact wpAny_pure ⟨rfl, h₃⟩
    | true => exact wpAny_bind (wpAny_bind (wpAny_mono h₃ (fun x s₄ h₄ => wpAny_bind (wpAny_mono h₄ (fun _ s₅ h₅ => wpAny_pure (wpAny_pure ⟨rfl, h₅⟩)) fun _ _ h' => h')) fun _ _ h' => h'))

theorem loop_outer {elt target iter t1 i1 : Expr} {ifs ifs1 : List Expr} {scope : Scope} {pos : Pos} {it acc : Value} {env : Env} {R : Result → Shared → Prop} {s : Shared} (I : Nat → Shared → Prop)
    (turn : ∀ n s, I n s → wpAny W.M A (pyNext it) (fun r s₁ => match r with
      | none => R (.ok .next) s₁
      | some v => wpAny W.M A (assign target env v) (fun _ s₂ =>
          wpAny W.M A (forIn ifs true fun c r => if r = true then do let ok ← isTrue c env (eval c env); pure (ForInStep.yield ok) else pure (ForInStep.yield r)) (fun ok s₃ =>
            if ok = true then wpAny W.M A (eval i1 env) (fun x s₄ => wpAny W.M A (pyIter x) (fun it2 s₅ =>
              codeAny W.M A (.compStart (.ListComp elt [⟨target, iter, ifs, 0⟩, ⟨t1, i1, ifs1, 0⟩] scope pos) 1 it2 acc env) (fun r s' => match r with | .ok f => ∃ m, m < n ∧ I m s' | .error e => cameBackBy W.M A env (notedBy W.M A env fun e s' => R (.error e) s') e s') s₅) (notedBy W.M A env fun e s' => R (.error e) s') s₄) (notedBy W.M A env fun e s' => R (.error e) s') s₃
            else ∃ m, m < n ∧ I m s₃) (notedBy W.M A env fun e s' => R (.error e) s') s₂) (notedBy W.M A env fun e s' => R (.error e) s') s₁) (notedBy W.M A env fun e s' => R (.error e) s') s)
    (n : Nat) (h : I n s) (ht : ∀ v, letOwnedTupleGo target it v = pure ()) (hf : ∀ x, foldedSetIterable i1 env x = pure x) :
    codeAny W.M A (.compLoop (.ListComp elt [⟨target, iter, ifs, 0⟩, ⟨t1, i1, ifs1, 0⟩] scope pos) 0 it acc env) R s := by
  refine codeAny_loop rfl I (fun n s hI => ?_) n h
  show wpAny _ A ((compTurn (.ListComp elt [⟨target, iter, ifs, 0⟩, ⟨t1, i1, ifs1, 0⟩] scope pos) 0 it acc env).onRaise (fun x => do noteFrame x env; theTreesLotGoes x)) _ _ s
  refine wpAny_noted ?_
  rw [turn_outer]
  refine wpAny_bind (wpAny_standAt (wpAny_bind (wpAny_mono (turn n s hI) (fun r s₁ h₁ => ?_) fun _ _ h' => h')))
  cases r with
  | none => exact wpAny_pure h₁
  | some v =>
    refine wpAny_bind (wpAny_of_eq (ht v) ?_)
    refine wpAny_bind (wpAny_mono h₁ (fun _ s₂ h₂ => wpAny_bind (wpAny_mono h₂ (fun ok s₃ h₃ => ?_) fun _ _ h' => h')) fun _ _ h' => h')
    cases ok with
    | false => exact wpAny_pure ⟨rfl, h₃⟩
    | true =>
      refine wpAny_bind (wpAny_mono h₃ (fun x s₄ h₄ => wpAny_bind (wpAny_standAt (wpAny_bind (wpAny_of_eq (hf x) ?_)))) fun _ _ h' => h')
      refine wpAny_bind (wpAny_holding (wpAny_mono h₄ (fun it2 s₅ h₅ => wpAny_bind (wpAny_runOwn (codeAny_mono h₅ fun r s' hr => ?_))) fun _ _ h' => h'))
      cases r with
      | ok f => exact wpAny_pure ⟨rfl, hr⟩
      | error e => exact hr

theorem start_inner {elt target iter g0 ifs rest scope pos it acc env} {R : Result → Shared → Prop} {s : Shared}
    (h0 : codeAny W.M A (.compLoop (.ListComp elt (g0 :: ⟨target, iter, ifs, 0⟩ :: rest) scope pos) 1 it acc env) R s)
    (h : wpAny W.M A (pyIter it) (fun it' s' => codeAny W.M A (.compLoop (.ListComp elt (g0 :: ⟨target, iter, ifs, 0⟩ :: rest) scope pos) 1 it' acc env) R s')
      (notedBy W.M A env fun x s' => R (.error x) s') s) :
    codeAny W.M A (.compStart (.ListComp elt (g0 :: ⟨target, iter, ifs, 0⟩ :: rest) scope pos) 1 it acc env) R s := by
  refine codeAny_of_tree ?_
  show wpAny _ _ ((compStart (.ListComp elt (g0 :: ⟨target, iter, ifs, 0⟩ :: rest) scope pos) 1 it acc env).onRaise (fun x => do noteFrame x env; standAt theWindowsPlace)) _ _ s
  refine wpAny_notedAt ?_
  unfold compStart
  show wpAny _ _ (ask >>= _) _ _ s
  refine wpAny_bind (wpAny_askSetting (wpAny_ite ?_))
  split
  · first
      | exact wpAny_bind (wpAny_pure (wpAny_pure (And.intro rfl h0)))
      | exact wpAny_pure (And.intro rfl h0)
  · first
      | exact wpAny_bind (wpAny_rule (wpAny_bind (wpAny_standAt (wpAny_bind (wpAny_mono h (fun it' s' h' => wpAny_pure (And.intro rfl h')) fun _ _ x => x)))))
      | (refine wpAny_bind (wpAny_rule ?_); show wpAny _ _ (standAt iter.pos >>= _) _ _ s; exact wpAny_bind (wpAny_standAt (wpAny_bind (wpAny_mono h (fun it' s' h' => wpAny_pure (And.intro rfl h')) fun _ _ x => x))))

theorem inner_loop {elt target iter : Expr} {g0 : Comprehension} {ifs : List Expr} {scope : Scope} {pos : Pos} {cenv : Env} {hid0 g : PMap} {vv : Vars} {h : Heap} {t : Nat} {D I : Addr} {oI : Obj} {vs : Array Value} {nn : Nat} {d : PV} {u : Value} {its ds0 : List PV} {p : PV → Bool} {f : PV → PV} {tv : PV → Vars} {RR : Result → Shared → Prop}
    (hh : A.handled = none) (R : Rep W (ins (ins hid0 D (lobj vs nn)) I oI) g cenv vv mu h) (hI0 : hid0 I = none) (hD0 : hid0 D = none) (hDI : D ≠ I) (eI : h.get? I = some oI) (hof : ∃ vs, oI.data = .fields vs) (hsrc : Src mu d its) (i1 : Is g d u) (hit : ItAt u d 0 I h) (eD : h.get? D = some (lobj vs nn))
    (iss0 : Iss g ds0 vs.toList) (hlen : ds0.length + its.length ≤ 100000) (hlo : ∀ v it, letOwnedTupleGo target it v = pure ())
    (htgt : ∀ hid' a, a ∈ its → Tgt W A hid' cenv vv mu target a (tv a)) (htest : ∀ hid' a, a ∈ its → Tests W A hid' cenv (tv a) mu ifs (p a)) (helt : ∀ hid' a, a ∈ its → p a = true → Ev W A hid' cenv (tv a) mu elt (f a)) (hsub : ∀ a, a ∈ its → Sub vv (tv a))
    (fin : ∀ g' h' t' vs' nn', Le g g' → Rep W (ins hid0 D (lobj vs' nn')) g' cenv vv mu h' → h'.get? D = some (lobj vs' nn') → Iss g' (ds0 ++ (its.filter p).map f) vs'.toList → RR (.ok .next) (W.S h' t')) :
    codeAny W.M A (.compLoop (.ListComp elt [g0, ⟨target, iter, ifs, 0⟩] scope pos) 1 (.ref I) (.ref D) cenv) RR (W.S h t) := by
  refine loop_inner (ListLoop W hid0 g cenv vv mu I D d u its.length (appOut ds0 its p f)) (fun n s inv => ?_) (its.length + 1) ⟨0, g, h, t, oI, vs, nn, rfl, Nat.zero_le _, rfl, Le.refl g, eI, hof, hit, eD, by unfold appOut; simpa using iss0, R⟩
  exact list_turn hh hI0 hD0 hDI hsrc i1 hlen (.any hlo) (fun oD oI a ha => htgt _ a ha) htest helt hsub inv fun g' h' t' vs' nn' lg R4 e iss => fin g' h' t' vs' nn' lg R4 e iss
end
end Mine
end

section
open PySem PySem.W PyProof.Rows PySem.Calls PySem.SeqAt
set_option linter.unusedVariables false
set_option maxRecDepth 100000
namespace Mine
section
variable {W : Wk} {A : Around} {hid : PMap} {env : Env} {vars : Vars} {mu : Mu} {K K' : Out → Prop}
noncomputable def flatOut (its : List PV) (p : PV → Bool) (its1 : PV → List PV) (p1 : PV → PV → Bool) (f : PV → PV → PV) (i : Nat) : List PV := ((its.take i).filter p).flatMap fun a => ((its1 a).filter (p1 a)).map (f a)
theorem flatOut_succ {its : List PV} {p : PV → Bool} {its1 : PV → List PV} {p1 : PV → PV → Bool} {f : PV → PV → PV} {i : Nat} {a : PV} (ha : its[i]? = some a) : flatOut its p its1 p1 f (i + 1) = flatOut its p its1 p1 f i ++ (if p a then ((its1 a).filter (p1 a)).map (f a) else []) := by
  unfold flatOut
  rw [take_succ_filter p its i a ha, List.flatMap_append]
  cases p a <;> simp
theorem flatOut_len {its : List PV} {p : PV → Bool} {its1 : PV → List PV} {p1 : PV → PV → Bool} {f : PV → PV → PV} {N : Nat} (h : ∀ a, a ∈ its → (its1 a).length ≤ N) : ∀ {i : Nat}, i ≤ its.length → (flatOut its p its1 p1 f i).length ≤ i * N
  | 0, _ => by simp [flatOut]
  | i + 1, hi => by
    have ih := flatOut_len (p := p) (p1 := p1) (f := f) h (Nat.le_of_succ_le hi)
    have hlt : i < its.length := hi
    rw [flatOut_succ (List.getElem?_eq_getElem hlt), List.length_append, Nat.succ_mul]
    have h1 := h its[i] (List.getElem_mem hlt)
    have h2 := List.length_filter_le (p1 its[i]) (its1 its[i])
    split
    · rw [List.length_map]; (first | lia | omega)
    · simp; (first | lia | omega)

theorem comp2_core {elt target iter t1 i1 : Expr} {ifs ifs1 : List Expr} {scope : Scope} {pos cpos : Pos} {use : Option (Value → Sem Unit)} {d : PV} {its : List PV} {vars' : Vars} {p : PV → Bool} {d1 : PV → PV} {its1 : PV → List PV} {p1 : PV → PV → Bool} {f : PV → PV → PV} {tv : PV → Vars} {tv1 : PV → PV → Vars} {N : Nat}
    {g h t} {Q : Value → Shared → Prop} {E : Value → Shared → Prop}
    (hh : A.handled = none) (he : Ev W A hid env vars mu iter d) (hsrc : Src mu d its) (B : BlockOk scope env) (hk : env.scope.kind = .function) (hv : Over scope env vars' vars) (hf : ∀ x, foldedSetIterable iter env x = pure x)
    (hlo : ∀ v it, letOwnedTupleGo target it v = pure ()) (hlen : its.length * N ≤ 100000)
    (hnc : ∀ x, scope.names.lookup x ≠ some .cell) (hlo1 : ∀ v it, letOwnedTupleGo t1 it v = pure ()) (hlen1 : ∀ a, a ∈ its → (its1 a).length ≤ N) (hf1 : ∀ C x, foldedSetIterable i1 (cEnv scope C env) x = pure x) (hsrc1 : ∀ a, a ∈ its → Src mu (d1 a) (its1 a))
    (htgt : ∀ hid' C a, a ∈ its → Tgt W A hid' (cEnv scope C env) vars' mu target a (tv a))
    (htest : ∀ hid' C a, a ∈ its → Tests W A hid' (cEnv scope C env) (tv a) mu ifs (p a))
    (hit1 : ∀ hid' C a, a ∈ its → p a = true → Ev W A hid' (cEnv scope C env) (tv a) mu i1 (d1 a))
    (htgt1 : ∀ hid' C a b, a ∈ its → b ∈ its1 a → Tgt W A hid' (cEnv scope C env) (tv a) mu t1 b (tv1 a b))
    (htest1 : ∀ hid' C a b, a ∈ its → b ∈ its1 a → Tests W A hid' (cEnv scope C env) (tv1 a b) mu ifs1 (p1 a b))
    (helt : ∀ hid' C a b, a ∈ its → b ∈ its1 a → p1 a b = true → Ev W A hid' (cEnv scope C env) (tv1 a b) mu elt (f a b))
    (hsub1 : ∀ a b, a ∈ its → b ∈ its1 a → Sub (tv a) (tv1 a b))
    (hsub : ∀ a, a ∈ its → Sub vars' (tv a))
    (R : Rep W hid g env vars mu h)
    (fin : ∀ C D g' h' t' oC, Le g g' → Rep W (ins hid C oC) g' env vars mu h' → hid C = none → (∀ v, oC.data ≠ .cell v) → (∀ h2, UpTo oC h2 C → ∃ m, h2.Ns C m) → NewL W (ins hid C oC) g' env mu h' D ((its.filter p).flatMap fun a => ((its1 a).filter (p1 a)).map (f a)) → compPost W.M A E use Q (.ref D) C (.ok .next) (W.S h' t')) :
    wpAny W.M A (comprehension (.ListComp elt [⟨target, iter, ifs, 0⟩, ⟨t1, i1, ifs1, 0⟩] scope pos) scope env cpos (newList []) false (eval iter env) use) Q E (W.S h t) := by
  refine comp_frame he hsrc B hk hv hf R (fun D I C hid0 g1 h4 t4 u oI0 RR i1 hit hof eI eD hI0 hD0 hDI R3 ow k => ?_) fin
  have hrI : ∀ oD, ins hid0 D oD I = none := fun oD => by rw [ins_other (Ne.symm hDI)]; exact hI0
  have hrD : ∀ oI, ins hid0 I oI D = none := fun oI => by rw [ins_other hDI]; exact hD0
  refine loop_outer (ListLoop W hid0 g1 (cEnv scope C env) vars' mu I D d u its.length (flatOut its p its1 p1 f)) ?_ (its.length + 1) ⟨0, g1, h4, t4, oI0, #[], 0, rfl, Nat.zero_le _, rfl, Le.refl g1, eI, hof, hit, eD, Iss.nil, R3⟩ (fun v => hlo v _) (hf1 _)
  clear hit hof eI eD R3 ow
  rintro n s ⟨i, g', h', t', oI, vs, nn, rfl, hile, rfl, lg, eIh, hoI, hita, eDh, iss, R'⟩
  refine iter_next hh R' hsrc (i1.mono lg) hita (fun a w h2 t2 ha iw hsb hit2 => ?_) fun hge h2 t2 hext => ?_
  · have hlt : i < its.length := by
      rcases Nat.lt_or_ge i its.length with q | q
      · exact q
      · rw [List.getElem?_eq_none q] at ha; cases ha
    have hmem : a ∈ its := List.mem_of_getElem? ha
    obtain ⟨o2, vs2, eo2, ef2⟩ := hit2.fields
    have R4 := R'.rehide (hrI _) (nocell_of hoI) hsb eo2
    refine htgt _ _ a hmem g' h2 t2 w _ _ R4 iw fun h3 t3 R5 => ?_
    refine htest _ _ a hmem g' h3 t3 _ _ R5 fun g4 h4 t4 l4 R6 => ?_
    have out := flatOut_succ (p := p) (its1 := its1) (p1 := p1) (f := f) ha
    have fin2 : ∀ {gg hh tt vs' nn'}, Le g' gg → hh.get? D = some (lobj vs' nn') → Iss gg (flatOut its p its1 p1 f (i + 1)) vs'.toList →
        Rep W (ins (ins hid0 D (lobj vs' nn')) I o2) gg (cEnv scope C env) (tv a) mu hh → ∃ m, m < its.length + 1 - i ∧ ListLoop W hid0 g1 (cEnv scope C env) vars' mu I D d u its.length (flatOut its p its1 p1 f) m (W.S hh tt) := by
      intro gg hh tt vs' nn' ll eD' is' RR
      obtain ⟨sl2, q1, q2⟩ := RR.hs I o2 (ins_same _ _ _)
      have q3 : hh.get? I = some o2 := by rw [q1, q2 (fun es ep z => by rw [ef2] at z; cases z)]
      exact ⟨its.length + 1 - (i + 1), by (first | lia | omega), i + 1, gg, hh, tt, o2, vs', nn', rfl, by (first | assumption | lia | omega), rfl, lg.trans ll, q3, ⟨vs2, ef2⟩, hit2.at fun o q => by rw [eo2] at q; cases q; exact q3, eD', is', RR.forget (hsub a hmem) (List.Sublist.refl _)⟩
    have getD : ∀ {gg hh vv}, Rep W (ins (ins hid0 D (lobj vs nn)) I o2) gg (cEnv scope C env) vv mu hh → hh.get? D = some (lobj vs nn) := fun RR => by
      obtain ⟨sl', q1, q2⟩ := RR.hs D _ (by rw [ins_other hDI, ins_same])
      rw [q1, q2 (fun es ep z => nomatch (show Data.seq vs nn = Data.dict es ep from z))]
    cases hp : p a with
    | false =>
      simp only [Bool.false_eq_true, if_false]
      refine fin2 l4 (getD R6) ?_ R6
      rw [out, hp]; simpa using iss.mono l4
    | true =>
      simp only [if_true]
      refine hit1 _ _ a hmem hp g4 h4 t4 _ _ R6 fun y g5 h5 t5 l5 R7 iy => iter_start R7 (hsrc1 a hmem) iy fun oJ hoJ hitJ => ?_
      have q := getD R7
      have hJ5 : h5.get? h5.objs.size = none := Rep.fresh_size
      have eJ : (h5.push oJ).get? h5.objs.size = some oJ := Heap.get?_push_size _ hoJ
      have hsmall : ∀ {b o'}, h5.get? b = some o' → b ≠ h5.objs.size := fun e z => by rw [z, hJ5] at e; cases e
      have eI5 : h5.get? I = some o2 := by
        obtain ⟨sl2, q1, q2⟩ := R7.hs I o2 (ins_same _ _ _)
        rw [q1, q2 (fun es ep z => by rw [ef2] at z; cases z)]
      have hrestJ : ∀ oI', ins hid0 I oI' h5.objs.size = none := fun oI' => by
        rw [ins_other (Ne.symm (hsmall eI5))]
        have := R7.hnone hJ5
        rw [ins_other (Ne.symm (hsmall eI5)), ins_other (Ne.symm (hsmall q))] at this
        exact this
      have hofJ : ∃ vs, oJ.data = .fields vs := by obtain ⟨o', vs', e1, e2⟩ := hitJ.fields; rw [eJ] at e1; cases e1; exact ⟨vs', e2⟩
      have R9 : Rep W (ins (ins (ins hid0 I o2) D (lobj vs nn)) h5.objs.size oJ) g5 (cEnv scope C env) (tv a) mu (h5.push oJ) := by
        rw [ins_comm (Ne.symm hDI)]; exact (R7.keeps (kept_push h5 oJ)).hideAt (R7.lone hJ5) eJ
      have hl1 : (flatOut its p its1 p1 f i).length + (its1 a).length ≤ 100000 := by
        have h2 := flatOut_len (p := p) (p1 := p1) (f := f) hlen1 hile
        have h3 := hlen1 a hmem
        have h4 : (i + 1) * N ≤ its.length * N := Nat.mul_le_mul_right _ hlt
        rw [Nat.succ_mul] at h4
        (first | lia | omega)
      refine (fun key => start_inner key (iter_self hitJ key)) ?_
      refine inner_loop hh R9 (hrestJ _) (hrD _) (hsmall q) eJ hofJ (hsrc1 a hmem) iy hitJ (Heap.get?_push_of_some _ q) (iss.mono (l4.trans l5)) hl1 hlo1 (fun hid' b hb => htgt1 hid' _ a b hmem hb) (fun hid' b hb => htest1 hid' _ a b hmem hb) (fun hid' b hb hpb => helt hid' _ a b hmem hb hpb) (fun b hb => hsub1 a b hmem hb) fun g6 h6 t6 vs' nn' l6 R10 e10 iss6 => ?_
      refine fin2 ((l4.trans l5).trans l6) e10 ?_ ?_
      · rw [out, hp]
        simpa using iss6
      · rw [ins_comm hDI]; exact R10
  · have e : i = its.length := by (first | lia | omega)
    subst e
    have R4 := R'.letgo (hrI _) (nocell_of hoI) hext
    unfold flatOut at iss
    rw [List.take_length] at iss
    exact k g' h2 t2 vs nn lg R4 iss

theorem evnew_comp2 {elt target iter t1 i1 : Expr} {ifs ifs1 : List Expr} {scope : Scope} {pos : Pos} {its : List PV} {p : PV → Bool} {its1 : PV → List PV} {p1 : PV → PV → Bool} {f : PV → PV → PV} {d : PV} {vars' : Vars} {tv : PV → Vars} {d1 : PV → PV} {tv1 : PV → PV → Vars} {N : Nat} (hh : A.handled = none) (hk : env.scope.kind = .function)
    (he : Ev W A hid env vars mu iter d) (hsrc : Src mu d its) (B : BlockOk scope env) (hv : Over scope env vars' vars) (hf : ∀ x, foldedSetIterable iter env x = pure x) (hlo : ∀ v it, letOwnedTupleGo target it v = pure ()) (hlen : its.length * N ≤ 100000)
    (hnc : ∀ x, scope.names.lookup x ≠ some .cell) (hlo1 : ∀ v it, letOwnedTupleGo t1 it v = pure ()) (hlen1 : ∀ a, a ∈ its → (its1 a).length ≤ N) (hf1 : ∀ C x, foldedSetIterable i1 (cEnv scope C env) x = pure x) (hsrc1 : ∀ a, a ∈ its → Src mu (d1 a) (its1 a))
    (htgt : ∀ hid' C a, a ∈ its → Tgt W A hid' (cEnv scope C env) vars' mu target a (tv a))
    (htest : ∀ hid' C a, a ∈ its → Tests W A hid' (cEnv scope C env) (tv a) mu ifs (p a))
    (hit1 : ∀ hid' C a, a ∈ its → p a = true → Ev W A hid' (cEnv scope C env) (tv a) mu i1 (d1 a))
    (htgt1 : ∀ hid' C a b, a ∈ its → b ∈ its1 a → Tgt W A hid' (cEnv scope C env) (tv a) mu t1 b (tv1 a b))
    (htest1 : ∀ hid' C a b, a ∈ its → b ∈ its1 a → Tests W A hid' (cEnv scope C env) (tv1 a b) mu ifs1 (p1 a b))
    (helt : ∀ hid' C a b, a ∈ its → b ∈ its1 a → p1 a b = true → Ev W A hid' (cEnv scope C env) (tv1 a b) mu elt (f a b))
    (hsub1 : ∀ a b, a ∈ its → b ∈ its1 a → Sub (tv a) (tv1 a b)) (hsub : ∀ a, a ∈ its → Sub vars' (tv a)) :
    EvNew W A hid env vars mu (.ListComp elt [⟨target, iter, ifs, 0⟩, ⟨t1, i1, ifs1, 0⟩] scope pos) ((its.filter p).flatMap fun a => ((its1 a).filter (p1 a)).map (f a)) := fun g h t Q E R k => by
  rw [eval_ListComp]
  refine comp2_core hh he hsrc B hk hv hf hlo hlen hnc hlo1 hlen1 hf1 hsrc1 htgt htest hit1 htgt1 htest1 helt hsub1 hsub R fun C D g' h' t' oC l R' hC hnc hns N => ?_
  refine compPost_ok (hns _ (R'.hs C oC (ins_same _ _ _))) fun h2 hs2 => ?_
  have R2 := R'.letgo hC hnc hs2.extBut
  obtain ⟨L, vs, n, e, i⟩ := N
  have hDC : D ≠ C := fun z => by have := L.hid; rw [z, ins_same] at this; cases this
  refine k D g' h2 t' l R2 ⟨⟨L.g, by have := L.hid; rw [ins_other hDC] at this; exact this, L.loc, L.cell, L.mu⟩, vs, n, (hs2.2 D hDC).trans e, i⟩
end
end Mine
end

section
open PySem PySem.W PyProof.Rows PySem.Calls PySem.SeqAt
set_option linter.unusedVariables false
set_option maxRecDepth 100000
namespace Mine

structure Names (W : Wk) : Prop where
  ok : W.Ok
  len : W.mg "len" = none
  sum : W.mg "sum" = none
  range : W.mg "range" = none
  sorted : W.mg "sorted" = none
  abs : W.mg "abs" = none
  int : W.mg "int" = none
  min : W.mg "min" = none
  max : W.mg "max" = none
  isinstance : W.mg "isinstance" = none
  list : W.mg "list" = none

theorem boot_len : bootBuiltins "len" = some (.builtin "len") := by decide +kernel
theorem boot_sum : bootBuiltins "sum" = some (.builtin "sum") := by decide +kernel
theorem boot_range : bootBuiltins "range" = some (.type "range") := by decide +kernel
theorem boot_sorted : bootBuiltins "sorted" = some (.builtin "sorted") := by decide +kernel
theorem boot_abs : bootBuiltins "abs" = some (.builtin "abs") := by decide +kernel
theorem boot_int : bootBuiltins "int" = some (.type "int") := by decide +kernel
theorem boot_max : bootBuiltins "max" = some (.builtin "max") := by decide +kernel

structure EnvOk (env : Env) : Prop where
  kind : env.scope.kind = .function
  glob : env.globals = mainGlobals
  bn : env.builtins = builtinsNs

section
variable {W : Wk} {A : Around} {hid : PMap} {env : Env} {vars : Vars} {mu : Mu} {K K' : Out → Prop}

theorem gname_b {x : Str} {v : Value} (E : EnvOk env) (hm : W.mg x = none) (hn : x ≠ "__name__") (hb : bootBuiltins x = some v) (hx : env.kindOf x = some .globalImplicit) (hd : (x == ("__debug__" : Str)) = false) : GName W env x v :=
  ⟨E.kind, E.glob, E.bn, hx, hd, .inr ⟨hm, hn, hb⟩⟩
theorem gname_g {x : Str} {v : Value} (E : EnvOk env) (hm : W.mg x = some v) (hx : env.kindOf x = some .globalImplicit) (hd : (x == ("__debug__" : Str)) = false) : GName W env x v :=
  ⟨E.kind, E.glob, E.bn, hx, hd, .inl hm⟩

theorem args1 {e : Expr} {d} (he : Ev W A hid env vars mu e d) (hs : starEach [e] env = [(false, eval e env)]) : EvArgs W A hid env vars mu [e] [d] := evargs_cons he evargs_nil hs

theorem ev_len {e : Expr} {np pos : Pos} {d l} (N : Names W) (E : EnvOk env) (he : Ev W A hid env vars mu e d) (hl : AsList mu d l) (hf : l.length < 2 ^ 62) (hx : env.kindOf "len" = some .globalImplicit) (hs : starEach [e] env = [(false, eval e env)]) :
    Ev W A hid env vars mu (.Call (.Name "len" np) [e] [] pos) (.int l.length) := ev_call_builtin N.ok (gname_b E N.len (by decide) boot_len hx (by decide)) (args1 he hs) (op_len hl hf) hs rfl
theorem ev_sum {e : Expr} {np pos : Pos} {d} {ns : List Int} (N : Names W) (E : EnvOk env) (hh : A.handled = none) (he : Ev W A hid env vars mu e d) (hl : AsList mu d (ns.map .int)) (hx : env.kindOf "sum" = some .globalImplicit) (hs : starEach [e] env = [(false, eval e env)]) :
    Ev W A hid env vars mu (.Call (.Name "sum" np) [e] [] pos) (.int ns.sum) := ev_call_builtin N.ok (gname_b E N.sum (by decide) boot_sum hx (by decide)) (args1 he hs) (op_sum hh hl) hs rfl
theorem ev_sorted {e : Expr} {np pos : Pos} {d} {ns : List Int} (N : Names W) (E : EnvOk env) (he : Ev W A hid env vars mu e d) (hl : AsList mu d (ns.map .int)) (h64 : ns.length < 64) (hx : env.kindOf "sorted" = some .globalImplicit) (hs : starEach [e] env = [(false, eval e env)]) :
    Ev W A hid env vars mu (.Call (.Name "sorted" np) [e] [] pos) (.list ((sortI ns).map .int)) := ev_call_builtin N.ok (gname_b E N.sorted (by decide) boot_sorted hx (by decide)) (args1 he hs) (op_sorted hl h64) hs rfl
theorem ev_abs {e : Expr} {np pos : Pos} {n : Int} (N : Names W) (E : EnvOk env) (he : Ev W A hid env vars mu e (.int n)) (hx : env.kindOf "abs" = some .globalImplicit) (hs : starEach [e] env = [(false, eval e env)]) :
    Ev W A hid env vars mu (.Call (.Name "abs" np) [e] [] pos) (.int (n.natAbs : Int)) := ev_call_builtin N.ok (gname_b E N.abs (by decide) boot_abs hx (by decide)) (args1 he hs) op_abs hs rfl
theorem ev_toint {e : Expr} {np pos : Pos} {n : Int} (N : Names W) (E : EnvOk env) (he : Ev W A hid env vars mu e (.int n)) (hx : env.kindOf "int" = some .globalImplicit) (hs : starEach [e] env = [(false, eval e env)]) :
    Ev W A hid env vars mu (.Call (.Name "int" np) [e] [] pos) (.int n) := ev_call_type N.ok (gname_b E N.int (by decide) boot_int hx (by decide)) (args1 he hs) op_int hs rfl
theorem ev_range1 {e : Expr} {np pos : Pos} {n : Int} (N : Names W) (E : EnvOk env) (he : Ev W A hid env vars mu e (.int n)) (hx : env.kindOf "range" = some .globalImplicit) (hs : starEach [e] env = [(false, eval e env)]) :
    Ev W A hid env vars mu (.Call (.Name "range" np) [e] [] pos) (.rng 0 n) := ev_call_type N.ok (gname_b E N.range (by decide) boot_range hx (by decide)) (args1 he hs) op_range1 hs rfl
theorem ev_range2 {e f : Expr} {np pos : Pos} {n m : Int} (N : Names W) (E : EnvOk env) (he : Ev W A hid env vars mu e (.int n)) (hf : Ev W A hid env vars mu f (.int m)) (hx : env.kindOf "range" = some .globalImplicit) (hs : starEach [e, f] env = [(false, eval e env), (false, eval f env)]) (hs2 : starEach [f] env = [(false, eval f env)]) :
    Ev W A hid env vars mu (.Call (.Name "range" np) [e, f] [] pos) (.rng n m) := ev_call_type N.ok (gname_b E N.range (by decide) boot_range hx (by decide)) (evargs_cons he (args1 hf hs2) (by rw [hs, hs2])) op_range2 (by rw [hs, hs2]) (by rw [hs2]; rfl)
theorem ev_max2 {e f : Expr} {np pos : Pos} {n m : Int} (N : Names W) (E : EnvOk env) (hh : A.handled = none) (he : Ev W A hid env vars mu e (.int n)) (hf : Ev W A hid env vars mu f (.int m)) (hx : env.kindOf "max" = some .globalImplicit) (hs : starEach [e, f] env = [(false, eval e env), (false, eval f env)]) (hs2 : starEach [f] env = [(false, eval f env)]) :
    Ev W A hid env vars mu (.Call (.Name "max" np) [e, f] [] pos) (.int (max n m)) := ev_call_builtin N.ok (gname_b E N.max (by decide) boot_max hx (by decide)) (evargs_cons he (args1 hf hs2) (by rw [hs, hs2])) (op_max2 hh) (by rw [hs, hs2]) (by rw [hs2]; rfl)
end

theorem bits_of_lt {a : Int} {k : Nat} (h : a.natAbs < 2 ^ k) : Builtin.Int.intBits a ≤ k := by
  unfold Builtin.Int.intBits
  split
  · exact Nat.zero_le _
  · rename_i h0
    have hn : a.natAbs ≠ 0 := by
      intro z; apply h0; simp; (first | lia | omega)
    exact (Nat.log2_lt hn).mpr h
theorem mulOk {a b : Int} {j k : Nat} (ha : a.natAbs < 2 ^ j) (hb : b.natAbs < 2 ^ k) (h : j + k ≤ 134217728) : IntMulOk a b := by
  have h1 := bits_of_lt ha
  have h2 := bits_of_lt hb
  unfold IntMulOk
  have : Builtin.Int.intTooBig ((Builtin.Int.intBits a : Int) + (Builtin.Int.intBits b : Int)) = false := by
    unfold Builtin.Int.intTooBig
    rw [bitsLine_eq]
    simp only [gt_iff_lt, decide_eq_false_iff_not, Int.not_lt]
    (first | lia | omega)
  rw [this]; simp
end Mine
end

section
open PySem PySem.W PyProof.Rows PySem.Calls PySem.SeqAt
set_option linter.unusedVariables false
set_option maxRecDepth 100000
namespace Mine

noncomputable abbrev excBm : List Value := [.type "Exception", .type "BaseException", .type "object"]
structure OwnX (W : Wk) (x : Str) (C : Addr) : Prop where
  own : OwnClsQ x C excBm "Exception.__new__" W.mg W.base

section
variable {W : Wk} {A : Around} {hid : PMap} {env : Env} {vars : Vars} {mu : Mu} {K K' : Out → Prop}

theorem ex_raise {x : Str} {C : Addr} {np cpos pos : Pos} {e : Expr} {d : PV} {outer} (O : W.Ok) (X : OwnX W x C) (F : FrX A hid env outer) (hh : A.handled = none) (N : GName W env x (.ref C)) (he : Ev W A hid env vars mu e d) (hs : starEach [e] env = [(false, eval e env)]) :
    Ex1 W A hid env vars mu (.Raise (some (.Call (.Name x np) [e] [] cpos)) none pos) (fun o => o = .exc (.ref C) vars mu) := fun g h t R => by
  obtain ⟨bm, Nn, nm, q, bs, hdct, sn, sub, ab, col, dd, k0, k1, k2, k3, k5, mN, hC, hN, hni, T⟩ := X.own.own.obj
  refine wpAny_Raise_call_subT (C := C) (nm := nm) (q := q) (N := Nn) (bs := bs) (bm := bm) (hdct := hdct) (sn := sn) (sub := sub) (ab := ab) (col := col) (dd := dd) (k0 := k0) (k1 := k1) (k2 := k2) (k3 := k3) (k5 := k5)
    PySem.F.excBase_Exception (mN := mN) (T.hasType PySem.F.excBase_Exception.hasBase) hh (by rw [hs]; rfl) hni (name_global O N R ⟨rfl, ?_⟩)
  have ha := args1 he hs
  have := ha cpos g h t (fun vs s₂ => vs.length ≤ sizeLine ∧ (∀ b o, W.base.get? b = some o → s₂.heap.get? b = some o) ∧ ∀ h' e, Heap.MadeExcOf s₂.heap h' e (.ref C) vs → ExcOk W A hid env (fun o => o = .exc (.ref C) vars mu) g (.ref e) { s₂ with heap := h' }) (ExcOk W A hid env (fun o => o = .exc (.ref C) vars mu) g) R fun us g1 h1 t1 l1 R1 i1 => by
    refine ⟨by rw [i1.length, sizeLine_eq]; exact Nat.le_trans (by decide : 1 ≤ 2) (by decide), R1.base, fun h' ea hx => ⟨.ref C, vars, mu, g1, h1, ea, _, h', t1, rfl, rfl, rfl, l1, R1, F.frames, .made us hx⟩⟩
  rw [hs] at this ⊢
  exact Calls.evalArgs_plain (wpAny_mono this (fun vs s₂ h₂ => ⟨rfl, h₂.1, h₂.2.1 _ _ hC, hN.keeps h₂.2.1, T.keeps h₂.2.1, h₂.2.2⟩) fun _ _ y => y)

theorem Rep.after {g h h' : _} {B : Heap} (R : Rep W hid g env vars mu h) (hB : ∀ b o, B.get? b = some o → h'.get? b = some o) (q2 : ∀ b o, g b = some o → B.get? b = some o) (q3 : ∀ b o, h.get? b = some o → (∀ es ep, o.data ≠ .dict es ep) → B.get? b = some o) (q4 : h.UpToSlots h') : Rep W hid g env vars mu h' := by
  have keep : ∀ {b o}, h.get? b = some o → (∀ es ep, o.data ≠ .dict es ep) → h'.get? b = some o := fun e n => hB _ _ (q3 _ _ e n)
  have kcell : ∀ {c v}, h.IsCell c v → h'.IsCell c v := fun hc => by
    obtain ⟨o, e1, e2⟩ := id hc
    exact ⟨o, keep e1 (fun es ep z => by rw [e2] at z; cases z), e2⟩
  refine ⟨R.bs, fun a o e => hB _ _ (q2 a o e), fun a o e => ?_, R.gh, ?_, fun x d e => ?_, R.gL, R.hL, fun x c e => ?_, R.cnd, fun a l e => ?_, R.mnd⟩
  · obtain ⟨sl, e1, e2⟩ := R.hs a o e
    by_cases hd : ∃ es ep, o.data = .dict es ep
    · obtain ⟨es, ep, hd⟩ := hd
      obtain ⟨sl', e3⟩ := q4 a _ e1 (fun vs z => by rw [show ({ o with slots := sl } : Obj).data = o.data from rfl, hd] at z; cases z)
      exact ⟨sl', e3, fun n => absurd hd (n es ep)⟩
    · exact ⟨sl, keep e1 (fun es ep z => hd ⟨es, ep, z⟩), e2⟩
  · obtain ⟨m, hn⟩ := R.ns; exact ⟨m, q4.ns hn⟩
  · obtain ⟨u, i, hd, ⟨hl, m, hn, hm⟩ | ⟨c, hk, hc, hv⟩⟩ := R.vs x d e
    · exact ⟨u, i, hd, .inl ⟨hl, m, q4.ns hn, hm⟩⟩
    · exact ⟨u, i, hd, .inr ⟨c, hk, hc, kcell hv⟩⟩
  · obtain ⟨⟨v, hv⟩, r⟩ := R.cell x c e; exact ⟨⟨v, kcell hv⟩, r⟩
  · obtain ⟨vs, n, e1, r⟩ := R.mus a l e
    exact ⟨vs, n, keep e1 (fun es ep z => nomatch (show Data.seq vs n = Data.dict es ep from z)), r⟩

end
end Mine
end

section
open PySem PySem.W PyProof.Rows PySem.Calls PySem.SeqAt
set_option linter.unusedVariables false
set_option maxRecDepth 100000
namespace Mine

inductive Dat (mu : Mu) : PV → PyData → Prop where
  | none : Dat mu .none .none
  | bool {b} : Dat mu (.bool b) (.bool b)
  | int {i} : Dat mu (.int i) (.int i)
  | str {x} : PyData.strOk x = true → Dat mu (.str x) (.str x)
  | nums {d : PV} {ns : List Int} : AsList mu d (ns.map .int) → Dat mu d (.list (ns.map .int))
theorem Dat.shaped {mu d x} (h : Dat mu d x) : shaped x = true := by
  cases h with
  | none => decide
  | bool => rfl
  | int => rfl
  | @str x h =>
    show ((PyData.canLay0 (.str x)) && _) = true
    have : PyData.canLay0 (.str x) = PyData.strOk x := by simp only [PyData.canLay0]
    rw [this, h]; rfl
  | nums h => exact shaped_ints _

section
variable {W : Wk} {A : Around} {hid : PMap} {env : Env} {vars : Vars} {mu : Mu} {K K' : Out → Prop}

theorem Dat.reads {g h d x u} (D : Dat mu d x) (R : Rep W hid g env vars mu h) (i : Is g d u) : ∃ as, Reads h u x as := by
  cases D with
  | none => cases i; exact ⟨_, .none⟩
  | bool => cases i; exact ⟨_, .bool _⟩
  | int => cases i; exact ⟨_, .int _ _⟩
  | str _ => cases i; exact ⟨_, .str _ _⟩
  | nums hl =>
    obtain ⟨a, vs, rfl, q1, q2⟩ := hl.get R i
    exact ⟨_, reads_of_ints (vs := vs.toList) (by simpa using q1) q2.toInts⟩
theorem eqv_ints (ns ms : List Int) : PyData.eqv (.list (ns.map .int)) (.list (ms.map .int)) = decide (ns = ms) := by
  rw [← same_eq_eqv _ _ (by simp only [noMix]; exact noMix_ints ns ms)]
  simp only [PySem.Spec.same]; rw [same_ints]

theorem c_eqd {n a b da db} (ao : AOk W A n) (ha : Dat mu a da) (hb : Dat mu b db) : Op W A hid env vars mu [a, b] (fun us => compareOp .Eq (us.getD 0 .none) (us.getD 1 .none)) (.bool (PyData.eqv da db)) :=
  op2 fun g h t u v Q E R i j k => by
    obtain ⟨as, ra⟩ := ha.reads R i
    obtain ⟨bs, rb⟩ := hb.reads R j
    exact eq_dataH (s := W.S h t) ra rb ha.shaped hb.shaped (by have := ao.units; show A.units + 64 < 9900; (first | lia | omega)) (k _ g h t (Le.refl g) R .bool)
theorem c_eql' {n d e} {ns ms : List Int} (ao : AOk W A n) (hl : AsList mu d (ns.map .int)) (hm : AsList mu e (ms.map .int)) : Op W A hid env vars mu [d, e] (fun us => compareOp .Eq (us.getD 0 .none) (us.getD 1 .none)) (.bool (decide (ns = ms))) := by
  have := c_eqd (A := A) (W := W) (hid := hid) (env := env) (vars := vars) ao (.nums hl) (.nums hm)
  rw [eqv_ints] at this
  exact this

end
end Mine
end

section
open PySem PySem.W PyProof.Rows PySem.Calls PySem.SeqAt
set_option linter.unusedVariables false
set_option maxRecDepth 100000
namespace Mine
section
variable {W : Wk} {A : Around} {hid : PMap} {env : Env} {vars : Vars} {mu : Mu} {K K' : Out → Prop}

theorem tr_eq {e : Expr} {b c : Bool} (h : c = b) (x : Tr W A hid env vars mu e c) : Tr W A hid env vars mu e b := by rw [← h]; exact x
theorem ev_eq {e : Expr} {b c : PV} (h : c = b) (x : Ev W A hid env vars mu e c) : Ev W A hid env vars mu e b := by rw [← h]; exact x
theorem run_seal {t : Sem Flow} {x : Str} {a : Addr} {l : List PV} {v' : Vars} {m' : Mu} (hm : (a, l) ∈ mu) (hx : vars.lookup x = some (.loc a)) (hs : Sub v' vars) (hmu : m'.Sublist (mu.filter (·.1 != a))) (h : Run W A hid env ((x, .list l) :: v') m' t K) : Run W A hid env vars mu t K := fun g hp tk R => by
  obtain ⟨o, R2, l2, i2⟩ := R.freezeLoc hm
  obtain ⟨u, iu, hd, hv⟩ := R.vs x _ hx
  cases iu
  have R3 : Rep W hid (ins g a o) env ((x, .list l) :: v') m' hp := by
    have R4 := R2.forget hs hmu
    refine ⟨R4.bs, R4.gs, R4.hs, R4.gh, R4.ns, fun y e q => ?_, R4.gL, R4.hL, R4.cell, R4.cnd, R4.mus, R4.mnd⟩
    by_cases hy : y = x
    · subst hy
      rw [lookup_cons_eq] at q
      cases q
      exact ⟨_, i2, hd, hv⟩
    · rw [lookup_cons_ne hy] at q
      exact R4.vs y e q
  exact wpAny_mono (h _ hp tk R3) (fun f s y => y.le l2) fun e s y => y.le l2

end
end Mine
end

section
open PySem PySem.W PyProof.Rows PySem.Calls PySem.SeqAt
set_option linter.unusedVariables false
set_option maxRecDepth 100000
namespace Mine
section
variable {W : Wk} {A : Around} {hid : PMap} {env : Env} {vars : Vars} {mu : Mu} {K K' : Out → Prop}

noncomputable def Takes (W : Wk) (A : Around) (env : Env) (h : ExceptHandler) (b0 : Stmt) (suite : List Stmt) (c : Value) : Prop :=
  ∀ (a : Addr) hid g vars mu hp t (Q : Flow → Shared → Prop) (E : Value → Shared → Prop), Rep W hid g env vars mu hp → (∃ oe, hp.get? a = some oe ∧ oe.cls = c) →
    wpAny W.M (A.mark (some (.ref a))) (setFlight (.ref a) none) (fun _ s₂ => wpAny W.M (A.mark (some (.ref a))) (execs (b0 :: suite) env) Q (notedBy W.M (A.mark (some (.ref a))) env (cameBackBy W.M A env E)) s₂) (notedBy W.M (A.mark (some (.ref a))) env (cameBackBy W.M A env E)) (W.S hp t) →
    wpAny W.M A (handleBy (.ref a) env [h]) Q E (W.S hp t)
theorem takesX {x : Str} {C : Addr} {np hpos : Pos} {b0 : Stmt} {suite : List Stmt} (O : W.Ok) (X : OwnX W x C) (N : GName W env x (.ref C)) : Takes W A env (.ExceptHandler (some (.Name x np)) none (b0 :: suite) hpos) b0 suite (.ref C) := fun a hid g vars mu hp t Q E R hc k =>
  handleBy_own (C := C) (x := x) (bmB := excBm) (newId := "Exception.__new__") (mg := W.mg) (by decide) (name_global (A := A.mark (some (.ref a))) O N R ⟨rfl, X.own.keeps R.base, hc, k⟩)
theorem ex_tryG {c : Value} {h : ExceptHandler} {pos : Pos} {body suite : List Stmt} {b0 : Stmt} {K' K2 : Out → Prop} {outer} (F : FrX A hid env outer) (T : Takes W A env h b0 suite c)
    (hb : Exs W A hid env vars mu body K') (h1 : ∀ o, K' o → (∀ y v m, o ≠ .exc y v m) → K o) (h2 : ∀ y v m, K' (.exc y v m) → y = c ∧ ∀ a, Exs W (A.mark (some (.ref a))) hid env v m (b0 :: suite) K2)
    (h3 : ∀ o, K2 o → K o) (h4 : ∀ y v m, ¬ K2 (.exc y v m)) :
    Ex1 W A hid env vars mu (.Try body [h] [] [] pos) K := fun g hp t R => by
  refine wpAny_Try_except (wpAny_mono (hb g hp t R) (fun f s y => ?_) fun e s y => ?_)
  · cases f with
    | next => obtain ⟨v, m, g', h', t', rfl, q, l, R'⟩ := y; exact wpAny_execs_nil ⟨v, m, g', h', t', rfl, h1 _ q (fun _ _ _ z => nomatch z), l, R'⟩
    | brk => obtain ⟨v, m, g', h', t', rfl, q, l, R'⟩ := y; exact ⟨v, m, g', h', t', rfl, h1 _ q (fun _ _ _ z => nomatch z), l, R'⟩
    | cont => obtain ⟨v, m, g', h', t', rfl, q, l, R'⟩ := y; exact ⟨v, m, g', h', t', rfl, h1 _ q (fun _ _ _ z => nomatch z), l, R'⟩
    | ret u => obtain ⟨d, g', h', t', rfl, q, l, R'⟩ := y; exact ⟨d, g', h', t', rfl, h1 _ q (fun _ _ _ z => nomatch z), l, R'⟩
  · obtain ⟨y, v, m, g₁, h₁, a, l, h', t', rfl, rfl, q, lg, R1, efr, XF⟩ := y
    rw [F.frames] at efr
    cases efr
    obtain ⟨rfl, hsuite⟩ := h2 y v m q
    have FO := R1.frOk F
    refine note_x F.frames FO F.loc XF fun h2' B a0 p1 p2 p3 p4 => ?_
    refine wpAny_landsW (s := W.S h2' t') p1 fun h3' f1 s1 => ?_
    have R3 := R1.after (h' := h3') f1.1 p2 p3 (p4.trans s1)
    refine T a hid g₁ v m h3' t' _ _ R3 f1.there ?_
    obtain ⟨k1, k2, k3, k4⟩ := f1
    refine wpAny_setFlight_noneW (s := W.S h3' t') k1 k3 k4.at fun h4' j1 j2 j3 j4 => ?_
    have R4 := R1.after (h' := h4') j1 p2 p3 ((p4.trans s1).trans fun b o hb hn => ⟨o.slots, j4 b o hb hn⟩)
    refine wpAny_mono (hsuite a g₁ h4' t' R4) (fun f s z => ?_) fun e s z => ?_
    · cases f with
      | next => obtain ⟨v, m, g', h', t', rfl, q, l, R'⟩ := z; exact ⟨v, m, g', h', t', rfl, h3 _ q, lg.trans l, R'⟩
      | brk => obtain ⟨v, m, g', h', t', rfl, q, l, R'⟩ := z; exact ⟨v, m, g', h', t', rfl, h3 _ q, lg.trans l, R'⟩
      | cont => obtain ⟨v, m, g', h', t', rfl, q, l, R'⟩ := z; exact ⟨v, m, g', h', t', rfl, h3 _ q, lg.trans l, R'⟩
      | ret u => obtain ⟨d, g', h', t', rfl, q, l, R'⟩ := z; exact ⟨d, g', h', t', rfl, h3 _ q, lg.trans l, R'⟩
    · obtain ⟨y, v, m, _, _, _, _, _, _, _, _, q, _⟩ := z
      exact absurd q (h4 y v m)
end
end Mine
end

section
open PySem PySem.W PyProof.Rows PySem.Calls PySem.SeqAt
set_option linter.unusedVariables false
set_option maxRecDepth 100000
namespace Mine
section
variable {W : Wk} {A : Around} {hid : PMap} {env : Env} {vars : Vars} {mu : Mu} {K K' : Out → Prop}

theorem ex_pair_own {x y : Str} {px py : Pos} {e1 e2 : Expr} {n n2 : Nat} {tp vp pos : Pos} {d : PV} {ds : List PV} (hh : A.handled = none) (hk : env.scope.kind = .function) (h1 : Ev W A hid env vars mu e1 d) (h2 : EvNew W A hid env vars mu e2 ds)
    (hs1 : starEach [e1, e2] env = [(false, eval e1 env), (false, eval e2 env)]) (hs2 : starEach [e2] env = [(false, eval e2 env)]) (sx : Sto hid env x) (sy : Sto hid env y) (dx : (x == ("__debug__" : Str)) = false) (dy : (y == ("__debug__" : Str)) = false)
    (hs : swapsWithSole [.Tuple [.Name x px, .Name y py] n tp] (.Tuple [e1, e2] n2 vp) pos.line env = pure false) (hw : swappedStores [.Tuple [.Name x px, .Name y py] n tp] (.Tuple [e1, e2] n2 vp) env = pure (some [x, y])) :
    Ex1 W A hid env vars mu (.Assign [.Tuple [.Name x px, .Name y py] n tp] (.Tuple [e1, e2] n2 vp) pos) (fun o => ∃ D, o = .next ((x, d) :: (y, .loc D) :: vars) ((D, ds) :: mu)) := fun g h t R => by
  refine Assign_Tuple_swapped ?_ hs hw
  refine Tuple_ ?_
  refine args_cons (h1 g h t _ _ R fun u g1 h1' t1 l1 R1 i1 => ?_) (by rw [hs1, hs2])
  refine args_cons (h2 g1 h1' t1 _ _ R1 fun D g2 h2' t2 l2 R2 N => ?_) (by rw [hs2]; rfl)
  refine Calls.spliced_nil ?_
  obtain ⟨L, vs, m, eo, io⟩ := N
  have R3 := R2.own L eo io
  refine wpAny_newObj_type ?_ (by show 2 ≤ sizeLine; rw [sizeLine_eq]; decide)
  obtain ⟨R4, l4⟩ := R3.alloc { cls := .type "tuple", data := .seq #[u, .ref D] } rfl
  have iu := (i1.mono l2).mono l4
  refine unpackItems_tuple (s := W.S (h2'.push { cls := .type "tuple", data := .seq #[u, .ref D] }) t2) (items := #[u, .ref D]) hh ⟨_, Heap.get?_push_size _ rfl, rfl, _, rfl⟩ fun h' he => ?_
  have hk' : Kept (h2'.push { cls := .type "tuple", data := .seq #[u, .ref D] }) h' := fun b o q => he b o (fun z => by rw [z, Rep.fresh_size] at q; cases q) q
  have R5 := R4.keeps hk'
  refine assignInOrder_cons (wpAny_bindName (store_K sy hk dy R5 (d := .loc D) .loc fun h6 t6 R6 => ?_))
  refine assignInOrder_cons (wpAny_bindName (store_K sx hk dx R6 iu fun h7 t7 R7 => ?_))
  exact assignInOrder_nil ⟨_, _, _, h7, t7, rfl, ⟨D, rfl⟩, (l1.trans l2).trans l4, R7⟩
end
end Mine
end

section
open PySem PySem.W PyProof.Rows PySem.Calls PySem.SeqAt
set_option linter.unusedVariables false
set_option maxRecDepth 100000
namespace Mine
section
variable {W : Wk} {A : Around} {hid : PMap} {env : Env} {vars : Vars} {mu : Mu} {K K' : Out → Prop}

open Classical in
noncomputable def unmk {α β : Type} (mk : α → PV) (f : α → β) (z : β) (v : PV) : β := if h : ∃ a, mk a = v then f h.choose else z
theorem unmk_eq {α β : Type} {mk : α → PV} (inj : ∀ a b, mk a = mk b → a = b) {f : α → β} {z : β} (a : α) : unmk mk f z (mk a) = f a := by
  unfold unmk
  have h : ∃ b, mk b = mk a := ⟨a, rfl⟩
  rw [dif_pos h]
  exact congrArg f (inj _ _ h.choose_spec)

structure CompM (W : Wk) (A : Around) (hid : PMap) (env : Env) (vars : Vars) (mu : Mu) (elt target iter : Expr) (ifs : List Expr) (scope : Scope) {α : Type} (mk : α → PV) (xs : List α) (p : α → Bool) (f : α → PV) (d : PV) (vars' : Vars) (tv : α → Vars) : Prop where
  inj : ∀ a b, mk a = mk b → a = b
  hh : A.handled = none
  hk : env.scope.kind = .function
  it : Ev W A hid env vars mu iter d
  src : Src mu d (xs.map mk)
  blk : BlockOk scope env
  over : Over scope env vars' vars
  fold : ∀ x, foldedSetIterable iter env x = pure x
  lo : LoOk mu target d (xs.map mk)
  len : xs.length ≤ 100000
  tgt : ∀ hid' C a, a ∈ xs → OwnFree hid' scope C env → Tgt W A hid' (cEnv scope C env) vars' mu target (mk a) (tv a)
  test : ∀ hid' C a, a ∈ xs → Tests W A hid' (cEnv scope C env) (tv a) mu ifs (p a)
  elt : ∀ hid' C a, a ∈ xs → p a = true → Ev W A hid' (cEnv scope C env) (tv a) mu elt (f a)
  sub : ∀ a, a ∈ xs → Sub vars' (tv a)

theorem CompM.ok {elt target iter : Expr} {ifs : List Expr} {scope : Scope} {α : Type} {mk : α → PV} {xs : List α} {p : α → Bool} {f : α → PV} {d vars' tv} (c : CompM W A hid env vars mu elt target iter ifs scope mk xs p f d vars' tv) :
    CompOk W A hid env vars mu elt target iter ifs scope (xs.map mk) (unmk mk p false) (unmk mk f .none) ∧ (((xs.map mk).filter (unmk mk p false)).map (unmk mk f .none)) = (xs.filter p).map f := by
  have e : ∀ {β : Type} {g : α → β} {z : β} (a : α), unmk mk g z (mk a) = g a := fun a => unmk_eq c.inj a
  refine ⟨⟨⟨d, vars', unmk mk tv [], c.it, c.src, c.blk, c.over, c.fold, c.lo, by rw [List.length_map]; exact c.len, fun hid' C v hv o => ?_, fun hid' C v hv => ?_, fun hid' C v hv hp => ?_, fun v hv => ?_⟩, c.hh, c.hk⟩, ?_⟩
  · obtain ⟨a, ha, rfl⟩ := List.mem_map.mp hv; rw [e]; exact c.tgt hid' C a ha o
  · obtain ⟨a, ha, rfl⟩ := List.mem_map.mp hv; rw [e, e]; exact c.test hid' C a ha
  · obtain ⟨a, ha, rfl⟩ := List.mem_map.mp hv; rw [e] at hp; rw [e, e]; exact c.elt hid' C a ha hp
  · obtain ⟨a, ha, rfl⟩ := List.mem_map.mp hv; rw [e]; exact c.sub a ha
  · rw [List.filter_map, List.map_map]
    have h1 : (unmk mk p false ∘ mk) = p := funext fun a => e a
    have h2 : (unmk mk f PV.none ∘ mk) = f := funext fun a => e a
    rw [h1, h2]
theorem evnew_compM {elt target iter : Expr} {ifs : List Expr} {scope : Scope} {pos : Pos} {α : Type} {mk : α → PV} {xs : List α} {p : α → Bool} {f : α → PV} {d vars' tv} (c : CompM W A hid env vars mu elt target iter ifs scope mk xs p f d vars' tv) :
    EvNew W A hid env vars mu (.ListComp elt [⟨target, iter, ifs, 0⟩] scope pos) ((xs.filter p).map f) := by
  have := evnew_comp (pos := pos) c.ok.1
  rw [c.ok.2] at this; exact this
theorem ex_compM {x : Str} {px spos : Pos} {elt target iter : Expr} {ifs : List Expr} {scope : Scope} {pos : Pos} {α : Type} {mk : α → PV} {xs : List α} {p : α → Bool} {f : α → PV} {d vars' tv} (c : CompM W A hid env vars mu elt target iter ifs scope mk xs p f d vars' tv)
    (hsw : swapsWith (.ListComp elt [⟨target, iter, ifs, 0⟩] scope pos) (some (.Name x px)) spos.line env = pure true) (hl : env.kindOf x = some .local) (hd : (x == ("__debug__" : Str)) = false) :
    Ex1 W A hid env vars mu (.Assign [.Name x px] (.ListComp elt [⟨target, iter, ifs, 0⟩] scope pos) spos) (· = .next ((x, .list ((xs.filter p).map f)) :: vars) mu) := by
  have := ex_comp c.ok.1 hsw hl hd
  rw [c.ok.2] at this; exact this

theorem src_rng {n : Nat} (h : n < 2 ^ 61) : Src mu (.rng 0 n) ((List.range n).map fun (i : Nat) => PV.int (i : Int)) := by
  have e : rngL 0 (n : Int) = (List.range n).map fun (i : Nat) => PV.int (i : Int) := by
    unfold rngL
    have : ((n : Int) - 0).toNat = n := by (first | (simp; done) | lia | omega)
    rw [this]
    simp
  rw [← e]
  exact .rng (by (first | exact Int.natCast_nonneg _ | lia | omega)) (by (first | exact Int.natCast_nonneg _ | lia | omega)) (by (first | exact Int.natCast_nonneg _ | lia | omega)) (by (first | lia | omega))
theorem inj_nat : ∀ a b : Nat, PV.int (a : Int) = PV.int (b : Int) → a = b := fun a b h => by injection h with h; (first | lia | omega)
theorem inj_int : ∀ a b : Int, PV.int a = PV.int b → a = b := fun a b h => by injection h

theorem evnew_comp2M {elt target iter t1 i1 : Expr} {scope : Scope} {pos : Pos} {α β : Type} {mk : α → PV} {mk1 : β → PV} {xs : List α} {ys : α → List β} {f : α → β → PV} {d : PV} {d1 : α → PV} {vars' : Vars} {tv : α → Vars} {tv1 : α → β → Vars} {N : Nat}
    (inj : ∀ a b, mk a = mk b → a = b) (inj1 : ∀ a b, mk1 a = mk1 b → a = b) (hh : A.handled = none) (hk : env.scope.kind = .function) (it : Ev W A hid env vars mu iter d) (src : Src mu d (xs.map mk)) (blk : BlockOk scope env) (over : Over scope env vars' vars)
    (fold : ∀ x, foldedSetIterable iter env x = pure x) (lo : ∀ v it, letOwnedTupleGo target it v = pure ()) (hlen : xs.length * N ≤ 100000) (hnc : ∀ x, scope.names.lookup x ≠ some .cell) (lo1 : ∀ v it, letOwnedTupleGo t1 it v = pure ())
    (hlen1 : ∀ a, a ∈ xs → (ys a).length ≤ N) (fold1 : ∀ C x, foldedSetIterable i1 (cEnv scope C env) x = pure x) (src1 : ∀ a, a ∈ xs → Src mu (d1 a) ((ys a).map mk1))
    (tgt : ∀ hid' C a, a ∈ xs → Tgt W A hid' (cEnv scope C env) vars' mu target (mk a) (tv a)) (it1 : ∀ hid' C a, a ∈ xs → Ev W A hid' (cEnv scope C env) (tv a) mu i1 (d1 a))
    (tgt1 : ∀ hid' C a b, a ∈ xs → b ∈ ys a → Tgt W A hid' (cEnv scope C env) (tv a) mu t1 (mk1 b) (tv1 a b)) (helt : ∀ hid' C a b, a ∈ xs → b ∈ ys a → Ev W A hid' (cEnv scope C env) (tv1 a b) mu elt (f a b))
    (sub1 : ∀ a b, a ∈ xs → b ∈ ys a → Sub (tv a) (tv1 a b)) (sub : ∀ a, a ∈ xs → Sub vars' (tv a)) :
    EvNew W A hid env vars mu (.ListComp elt [⟨target, iter, [], 0⟩, ⟨t1, i1, [], 0⟩] scope pos) (xs.flatMap fun a => (ys a).map (f a)) := by
  have e : ∀ {γ : Type} {g : α → γ} {z : γ} (a : α), unmk mk g z (mk a) = g a := fun a => unmk_eq inj a
  have e1 : ∀ {γ : Type} {g : β → γ} {z : γ} (a : β), unmk mk1 g z (mk1 a) = g a := fun a => unmk_eq inj1 a
  have := evnew_comp2 (W := W) (A := A) (hid := hid) (env := env) (vars := vars) (mu := mu) (elt := elt) (target := target) (iter := iter) (ifs := []) (t1 := t1) (i1 := i1) (ifs1 := []) (scope := scope) (pos := pos) (its := xs.map mk) (p := fun _ => true)
    (its1 := unmk mk (fun a => (ys a).map mk1) []) (p1 := fun _ _ => true) (f := unmk mk (fun a => unmk mk1 (f a) .none) (fun _ => .none)) (vars' := vars') (tv := unmk mk tv []) (d1 := unmk mk d1 .none) (tv1 := unmk mk (fun a => unmk mk1 (tv1 a) []) (fun _ => [])) (N := N) hh hk it src blk over fold lo (by rw [List.length_map]; exact hlen) hnc lo1 (fun v hv => ?_) fold1 (fun v hv => ?_) (fun hid' C v hv => ?_) (fun hid' C v hv => tests_nil) (fun hid' C v hv _ => ?_) (fun hid' C v w hv hw => ?_) (fun hid' C v w hv hw => tests_nil) (fun hid' C v w hv hw _ => ?_) (fun v w hv hw => ?_) (fun v hv => ?_)
  · have key : (((xs.map mk).filter fun _ => true).flatMap fun a => ((unmk mk (fun a => (ys a).map mk1) [] a).filter fun _ => true).map (unmk mk (fun a => unmk mk1 (f a) PV.none) (fun _ => PV.none) a)) = xs.flatMap fun a => (ys a).map (f a) := by
      simp only [PySem.W.filter_tt, List.flatMap_map]
      congr 1
      funext a
      rw [e, e, List.map_map]
      congr 1
      funext b
      exact e1 b
    rw [key] at this; exact this
  · obtain ⟨a, ha, rfl⟩ := List.mem_map.mp hv; rw [e, List.length_map]; exact hlen1 a ha
  · obtain ⟨a, ha, rfl⟩ := List.mem_map.mp hv; rw [e, e]; exact src1 a ha
  · obtain ⟨a, ha, rfl⟩ := List.mem_map.mp hv; rw [e]; exact tgt hid' C a ha
  · obtain ⟨a, ha, rfl⟩ := List.mem_map.mp hv; rw [e, e]; exact it1 hid' C a ha
  · obtain ⟨a, ha, rfl⟩ := List.mem_map.mp hv; rw [e] at hw; obtain ⟨b, hb, rfl⟩ := List.mem_map.mp hw; rw [e, e, e1]; exact tgt1 hid' C a b ha hb
  · obtain ⟨a, ha, rfl⟩ := List.mem_map.mp hv; rw [e] at hw; obtain ⟨b, hb, rfl⟩ := List.mem_map.mp hw; rw [e, e1, e, e1]; exact helt hid' C a b ha hb
  · obtain ⟨a, ha, rfl⟩ := List.mem_map.mp hv; rw [e] at hw; obtain ⟨b, hb, rfl⟩ := List.mem_map.mp hw; rw [e, e, e1]; exact sub1 a b ha hb
  · obtain ⟨a, ha, rfl⟩ := List.mem_map.mp hv; rw [e]; exact sub a ha
end
end Mine
end

local macro_rules | `(tactic| walk_at "ev") => `(tactic| first
  | exact Mine.ev_int | exact Mine.ev_bool | exact Mine.ev_none | exact Mine.ev_str
  | exact Mine.ev_name rfl rfl
  | (refine Mine.ev_add ?_ ?_ <;> walk_at "ev")
  | (refine Mine.ev_sub ?_ ?_ <;> walk_at "ev")
  | (refine Mine.ev_neg ?_ <;> walk_at "ev"))
local macro_rules | `(tactic| walk_at "args") => `(tactic| first
  | exact Mine.evargs_nil
  | (refine Mine.evargs_cons ?_ ?_ rfl; (walk_at "ev"); (walk_at "args")))
local macro_rules | `(tactic| walk_at "sub") => `(tactic| repeat (first | exact Mine.Sub.nil | refine Mine.Sub.cons rfl ?_))
local macro_rules | `(tactic| walk_at "over") => `(tactic| repeat (first | exact Mine.Over.nil | refine Mine.Over.cons rfl rfl rfl ?_))

section
open PySem PySem.W PyProof.Rows PySem.Calls PySem.SeqAt
set_option linter.unusedVariables false
set_option maxRecDepth 100000
namespace Mine

noncomputable def fnOf? : List Stmt → Str → Option (Arguments × List Stmt × Scope)
  | [], _ => none
  | .FunctionDef name args body _ _ _ scope _ _ _ :: r, n => if name == n then some (args, body, scope) else fnOf? r n
  | _ :: r, n => fnOf? r n
noncomputable def argsOf (p : Program) (n : Str) : Arguments := ((fnOf? p.main.body n).map (·.1)).getD { posonlyargs := [], args := [], vararg := none, kwonlyargs := [], kw_defaults := [], kwarg := none, defaults := [] }
noncomputable def bodyOf (p : Program) (n : Str) : List Stmt := ((fnOf? p.main.body n).map (·.2.1)).getD []
noncomputable def scopeOf (p : Program) (n : Str) : Scope := ((fnOf? p.main.body n).map (·.2.2)).getD { kind := .function, names := [], isGenerator := false, isCoroutine := false, more := [] }

noncomputable def DefAt (W : Wk) (p : Program) (n : Str) (a : Addr) (dV : Value) : Prop :=
  W.mg n = some (.ref a) ∧ ∃ kV doc pm an cdv ct, FnAt W a (fnOf n n (argsOf p n) (bodyOf p n) (scopeOf p n) dV kV doc pm an cdv ct) (bodyOf p n)

noncomputable abbrev p1 : Program := PySem.Challenge.pw_af0002_06

set_option genSizeOfSpec false in
inductive Rule where
  | jeff | web | modi | hill | adams | dean
  deriving DecidableEq

noncomputable def ruleNames : Rule → List Str
  | .jeff => ["dhondt", "jefferson", "greatestdivisors"]
  | .web => ["saintelague", "webster", "majorfractions"]
  | .modi => ["modified_saintelague"]
  | .hill => ["huntington", "hill", "equalproportions"]
  | .adams => ["adams", "smallestdivisor"]
  | .dean => ["dean", "harmonicmean"]
noncomputable def RuleName (r : Rule) (x : Str) : Prop := ∀ q : Rule, (ruleNames q).any (· == x) = decide (q = r)

noncomputable def divs : Rule → Nat → List (Int × Int)
  | .jeff, S => (List.range S).map fun (i : Nat) => ((i : Int) + 1, 1)
  | .web, S => (List.range S).map fun (i : Nat) => (2 * (i : Int) + 1, 1)
  | .modi, S => (7, 5) :: (List.range (S - 1)).map fun (i : Nat) => (2 * (1 + (i : Int)) + 1, 1)
  | .hill, S => (List.range S).map fun (i : Nat) => (((i : Int) + 1) * ((i : Int) + 2), 1)
  | .adams, S => (List.range S).map fun (i : Nat) => ((i : Int) + 1, 1)
  | .dean, S => (List.range S).map fun (i : Nat) => (2 * ((i : Int) + 1) * ((i : Int) + 2), 2 * ((i : Int) + 1) + 1)
noncomputable def base : Rule → List Int → List Int
  | .jeff, v => v.map fun _ => 0
  | .web, v => v.map fun _ => 0
  | .modi, v => v.map fun _ => 0
  | _, v => v.map fun p => if p > 0 then 1 else 0
noncomputable def common (ds : List (Int × Int)) : Int := ds.foldl (fun c d => c * d.1) 1
noncomputable def isHill : Rule → Bool
  | .hill => true
  | _ => false
noncomputable def wt (r : Rule) (c : Int) (p : Int) (d : Int × Int) : Int := if isHill r then (p * p * d.2 * c).fdiv d.1 else (p * d.2 * c).fdiv d.1
noncomputable def pairV (d : Int × Int) : PV := .tup [.int d.1, .int d.2]

section
variable {W : Wk} {A : Around} {hid : PMap} {env : Env} {vars : Vars} {mu : Mu} {K : Out → Prop}


theorem ev_in {l r : Expr} {pos : Pos} {x : Str} {ns : List Str} {d} (hl : Ev W A hid env vars mu l (.str x)) (hr : Ev W A hid env vars mu r d) (hd : AsList mu d (ns.map .str)) (hm : behindInMarks .In r = false) : Tr W A hid env vars mu (.Compare l [.In] [r] pos) (ns.any (· == x)) :=
  tr_cmp hl hr hm (c_ins hd)

noncomputable abbrev dEnv (p : Program) (a L : Addr) (dV kV doc pm : Value) (an : Option Addr) (cdv ct : Value) : Env := fEnv (fnOf "divisor" "divisor" (argsOf p "divisor") (bodyOf p "divisor") (scopeOf p "divisor") dV kV doc pm an cdv ct) a L
noncomputable abbrev dV2 (votes : List Int) (S : Nat) (nm : Str) (ta : Bool) (D : Addr) (ds : List (Int × Int)) : Vars := [("representatives", .loc D), ("divisors", .list (ds.map pairV)), ("votes", .list (votes.map .int)), ("seats", .int S), ("method", .str nm), ("tiesallowed", .bool ta)]


theorem filter_tt' {α : Type} (l : List α) : l.filter (fun _ => true) = l := by simp
structure CompA (W : Wk) (A : Around) (hid : PMap) (env : Env) (vars : Vars) (mu : Mu) (elt target iter : Expr) (scope : Scope) {α : Type} (mk : α → PV) (xs : List α) (f : α → PV) (d : PV) (vars' : Vars) (tv : α → Vars) : Prop where
  inj : ∀ a b, mk a = mk b → a = b
  hh : A.handled = none
  hk : env.scope.kind = .function
  it : Ev W A hid env vars mu iter d
  src : Src mu d (xs.map mk)
  blk : BlockOk scope env
  over : Over scope env vars' vars
  fold : ∀ x, foldedSetIterable iter env x = pure x
  lo : LoOk mu target d (xs.map mk)
  len : xs.length ≤ 100000
  tgt : ∀ hid' C a, a ∈ xs → OwnFree hid' scope C env → Tgt W A hid' (cEnv scope C env) vars' mu target (mk a) (tv a)
  elt : ∀ hid' C a, a ∈ xs → Ev W A hid' (cEnv scope C env) (tv a) mu elt (f a)
  sub : ∀ a, a ∈ xs → Sub vars' (tv a)
theorem CompA.m {elt target iter : Expr} {scope : Scope} {α : Type} {mk : α → PV} {xs : List α} {f : α → PV} {d vars' tv} (c : CompA W A hid env vars mu elt target iter scope mk xs f d vars' tv) :
    CompM W A hid env vars mu elt target iter [] scope mk xs (fun _ => true) f d vars' tv :=
  ⟨c.inj, c.hh, c.hk, c.it, c.src, c.blk, c.over, c.fold, c.lo, c.len, c.tgt, fun _ _ _ _ => tests_nil, fun hid' C a h _ => c.elt hid' C a h, c.sub⟩
theorem evnew_compA {elt target iter : Expr} {scope : Scope} {pos : Pos} {α : Type} {mk : α → PV} {xs : List α} {f : α → PV} {d vars' tv} (c : CompA W A hid env vars mu elt target iter scope mk xs f d vars' tv) :
    EvNew W A hid env vars mu (.ListComp elt [⟨target, iter, [], 0⟩] scope pos) (xs.map f) := by
  have := evnew_compM (pos := pos) c.m
  rw [filter_tt'] at this; exact this
theorem ex_compA {x : Str} {px spos : Pos} {elt target iter : Expr} {scope : Scope} {pos : Pos} {α : Type} {mk : α → PV} {xs : List α} {f : α → PV} {d vars' tv} (c : CompA W A hid env vars mu elt target iter scope mk xs f d vars' tv)
    (hsw : swapsWith (.ListComp elt [⟨target, iter, [], 0⟩] scope pos) (some (.Name x px)) spos.line env = pure true) (hl : env.kindOf x = some .local) (hd : (x == ("__debug__" : Str)) = false) :
    Ex1 W A hid env vars mu (.Assign [.Name x px] (.ListComp elt [⟨target, iter, [], 0⟩] scope pos) spos) (· = .next ((x, .list (xs.map f)) :: vars) mu) := by
  have := ex_compM c.m hsw hl hd
  rw [filter_tt'] at this; exact this
theorem exs_own {st : Stmt} {rest : List Stmt} {x : Str} {ds : List PV} (h : Ex1 W A hid env vars mu st (fun o => ∃ D, o = .next ((x, .loc D) :: vars) ((D, ds) :: mu))) (k : ∀ D, Exs W A hid env ((x, .loc D) :: vars) ((D, ds) :: mu) rest K) : Exs W A hid env vars mu (st :: rest) K :=
  exs_cons h (fun v m e => by obtain ⟨D, e⟩ := e; cases e; exact k D) fun o e hn => by obtain ⟨D, e⟩ := e; subst e; exact absurd rfl (hn _ _)

theorem mulOk20 {a b : Int} (ha : a.natAbs < 2 ^ 20) (hb : b.natAbs < 2 ^ 20) : IntMulOk a b := mulOk ha hb (by decide)

theorem ev_tup2 {e1 e2 : Expr} {n pos} {d1 d2} (h1 : Ev W A hid env vars mu e1 d1) (h2 : Ev W A hid env vars mu e2 d2) (hs : starEach [e1, e2] env = [(false, eval e1 env), (false, eval e2 env)]) (hs2 : starEach [e2] env = [(false, eval e2 env)]) : Ev W A hid env vars mu (.Tuple [e1, e2] n pos) (.tup [d1, d2]) :=
  ev_tuple (evargs_cons h1 (args1 h2 hs2) (by rw [hs, hs2])) (Nat.le_of_ble_eq_true rfl)
theorem src_rng1 {n : Nat} (h : n < 2 ^ 61) : Src mu (.rng 1 n) ((List.range (n - 1)).map fun (i : Nat) => PV.int (1 + (i : Int))) := by
  have e : rngL 1 (n : Int) = (List.range (n - 1)).map fun (i : Nat) => PV.int (1 + (i : Int)) := by
    unfold rngL
    have : ((n : Int) - 1).toNat = n - 1 := by (first | (simp; done) | lia | omega)
    rw [this]
  rw [← e]
  exact .rng (by (first | exact Int.natCast_nonneg _ | lia | omega)) (by (first | exact Int.natCast_nonneg _ | lia | omega)) (by (first | exact Int.natCast_nonneg _ | lia | omega)) (by (first | lia | omega))
theorem natlt20 {i S : Nat} (h : i ∈ List.range S) (hS : S ≤ 60) : i < 60 := Nat.lt_of_lt_of_le (List.mem_range.mp h) hS


set_option maxHeartbeats 2000000 in
theorem div_part1 {a L : Addr} {dV kV doc pm an cdv ct} {votes : List Int} {S : Nat} {nm : Str} {ta : Bool} {r : Rule} {D : Addr} (N : Names W) (ao : AOk W A 0) (hS : S ≤ 60) (hn : 1 ≤ votes.length) (hv : votes.length ≤ 100) (hp : ∀ q : Rule, q = .hill ∨ q = .adams ∨ q = .dean → r = q → votes.length ≤ S) (hr : RuleName r nm)
    (hs : ∀ x, (scopeOf p1 "divisor").names.lookup x = some .local ∨ (scopeOf p1 "divisor").names.lookup x = some .cell → Sto hid (dEnv p1 a L dV kV doc pm an cdv ct) x) :
    Ex1 W A hid (dEnv p1 a L dV kV doc pm an cdv ct) [("representatives", .loc D), ("votes", .list (votes.map .int)), ("seats", .int S), ("method", .str nm), ("tiesallowed", .bool ta)] [(D, (votes.map fun _ => (0 : Int)).map .int)] ((bodyOf p1 "divisor").getD 1 (.Pass default))
      (fun o => ∃ D' v m, o = .next v m ∧ Sub (dV2 votes S nm ta D' (divs r S)) v ∧ [(D', (base r votes).map .int)].Sublist m) := by
  have E : EnvOk (dEnv p1 a L dV kV doc pm an cdv ct) := ⟨rfl, rfl, rfl⟩
  have tgti : ∀ {mu : Mu} {scope : Scope} {vars' : Vars} {x : Str} {p : Pos} {d : PV} (hid' : PMap) (C : Addr), scope.names.lookup x = some .local → (x == ("__debug__" : Str)) = false → scope.kind = .function → Tgt W A hid' (cEnv scope C (dEnv p1 a L dV kV doc pm an cdv ct)) vars' mu (.Name x p) d ((x, d) :: vars') :=
    fun hid' C h1 h2 h3 => tgt_name (store_own hid' h1) h3 h2
  refine ex_if (x := decide (Rule.jeff = r)) ?_ (fun e => ?_) (fun e => ?_)
  · rw [← hr .jeff]
    exact ev_in (ns := ruleNames .jeff) (ev_name rfl rfl) (ev_list (by walk_at "args") (by decide)) AsList.list rfl
  · have e : Rule.jeff = r := of_decide_eq_true e
    subst e
    refine exs_next (ex_assign (EvNew.ev (evnew_compA (α := Nat) (mk := fun i => .int (i : Int)) (xs := List.range S) (f := fun i => pairV ((i : Int) + 1, 1)) ⟨inj_nat, ao.handled, rfl, ev_range1 N E (ev_name rfl rfl) rfl rfl, src_rng (by (first | lia | omega)), ⟨rfl, rfl, by decide⟩, .nil, fun _ => rfl, .any fun _ _ => rfl, by rw [List.length_range]; (first | lia | omega), fun hid' C a _ o => tgti hid' C rfl rfl rfl, fun hid' C a h => ev_tup2 (by walk_at "ev") (by walk_at "ev") rfl rfl, fun a _ => .nil⟩)) (hs _ (.inr rfl)) rfl rfl rfl) (exs_nil ⟨D, _, _, rfl, ?_, ?_⟩)
    · simp only [dV2, divs, List.map_map]; exact .cons rfl (.cons rfl (.cons rfl (.cons rfl (.cons rfl (.cons rfl .nil)))))
    · exact List.Sublist.refl _
  refine exs_cons (K' := fun o => ∃ D' v m, o = .next v m ∧ Sub (dV2 votes S nm ta D' (divs r S)) v ∧ [(D', (base r votes).map .int)].Sublist m) (ex_if (x := decide (Rule.web = r)) ?_ (fun e => ?_) (fun e => ?_)) (fun v m e => exs_nil e) (fun o e _ => e)
  · rw [← hr .web]
    exact ev_in (ns := ruleNames .web) (ev_name rfl rfl) (ev_list (by walk_at "args") (by decide)) AsList.list rfl
  · have e : Rule.web = r := of_decide_eq_true e
    subst e
    refine exs_next (ex_assign (EvNew.ev (evnew_compA (α := Nat) (mk := fun i => .int (i : Int)) (xs := List.range S) (f := fun i => pairV (2 * (i : Int) + 1, 1)) ⟨inj_nat, ao.handled, rfl, ev_range1 N E (ev_name rfl rfl) rfl rfl, src_rng (by (first | lia | omega)), ⟨rfl, rfl, by decide⟩, .nil, fun _ => rfl, .any fun _ _ => rfl, by rw [List.length_range]; (first | lia | omega), fun hid' C a _ o => tgti hid' C rfl rfl rfl, fun hid' C a h => ev_tup2 (ev_add (ev_mul ev_int (ev_name rfl rfl) (mulOk20 (by decide) (by have := natlt20 h hS; (first | lia | omega)))) ev_int) ev_int rfl rfl, fun a _ => .nil⟩)) (hs _ (.inr rfl)) rfl rfl rfl) (exs_nil ⟨D, _, _, rfl, ?_, ?_⟩)
    · simp only [dV2, divs, List.map_map]; exact .cons rfl (.cons rfl (.cons rfl (.cons rfl (.cons rfl (.cons rfl .nil)))))
    · exact List.Sublist.refl _
  refine exs_cons (K' := fun o => ∃ D' v m, o = .next v m ∧ Sub (dV2 votes S nm ta D' (divs r S)) v ∧ [(D', (base r votes).map .int)].Sublist m) (ex_if (x := decide (Rule.modi = r)) ?_ (fun e => ?_) (fun e => ?_)) (fun v m e => exs_nil e) (fun o e _ => e)
  · rw [← hr .modi]
    exact ev_in (ns := ruleNames .modi) (ev_name rfl rfl) (ev_list (by walk_at "args") (by decide)) AsList.list rfl
  · have e : Rule.modi = r := of_decide_eq_true e
    subst e
    refine exs_next (ex_assign (EvNew.ev (evnew_add (la := [pairV (7, 5)]) (ev_list (evargs_cons (ev_tup2 ev_int ev_int rfl rfl) evargs_nil rfl) (Nat.le_of_ble_eq_true rfl)) (EvNew.ev (evnew_compA (α := Nat) (mk := fun i => .int (1 + (i : Int))) (xs := List.range (S - 1)) (f := fun i => pairV (2 * (1 + (i : Int)) + 1, 1)) ⟨fun a b h => by injection h with h; (first | lia | omega), ao.handled, rfl, ev_range2 N E ev_int (ev_name rfl rfl) rfl rfl rfl, src_rng1 (by (first | lia | omega)), ⟨rfl, rfl, by decide⟩, .nil, fun _ => rfl, .any fun _ _ => rfl, by rw [List.length_range]; (first | lia | omega), fun hid' C a _ o => tgti hid' C rfl rfl rfl, fun hid' C a h => ev_tup2 (ev_add (ev_mul ev_int (ev_name rfl rfl) (mulOk20 (by decide) (by have := natlt20 h (by (first | lia | omega)); omega))) ev_int) ev_int rfl rfl, fun a _ => .nil⟩)) AsList.list AsList.list (by simp; (first | lia | omega)))) (hs _ (.inr rfl)) rfl rfl rfl) (exs_nil ⟨D, _, _, rfl, ?_, ?_⟩)
    · simp only [dV2, divs, List.map_cons, List.map_map]; exact .cons rfl (.cons rfl (.cons rfl (.cons rfl (.cons rfl (.cons rfl .nil)))))
    · exact List.Sublist.refl _
  refine exs_cons (K' := fun o => ∃ D' v m, o = .next v m ∧ Sub (dV2 votes S nm ta D' (divs r S)) v ∧ [(D', (base r votes).map .int)].Sublist m) (ex_if (x := decide (Rule.hill = r)) ?_ (fun e => ?_) (fun e => ?_)) (fun v m e => exs_nil e) (fun o e _ => e)
  · rw [← hr .hill]
    exact ev_in (ns := ruleNames .hill) (ev_name rfl rfl) (ev_list (by walk_at "args") (by decide)) AsList.list rfl
  · have e : Rule.hill = r := of_decide_eq_true e
    have hle : votes.length ≤ S := hp .hill (by simp) e.symm
    subst e
    refine exs_cons (K' := fun o => ∃ D' v m, o = .next v m ∧ Sub (dV2 votes S nm ta D' (divs .hill S)) v ∧ [(D', (base .hill votes).map .int)].Sublist m) (ex_if (x := false) ?_ (fun e => nomatch e) (fun _ => ?_)) (fun v m e => exs_nil e) (fun o e _ => e)
    · rw [show false = decide ((S : Int) < ((votes.map PV.int).length : Nat)) by rw [List.length_map]; simp; omega]
      exact tr_cmp (ev_name rfl rfl) (ev_len N E (ev_name rfl rfl) AsList.list (by rw [List.length_map]; (first | lia | omega)) rfl rfl) rfl c_lt
    · refine exs_own (ds := votes.map fun p => .int (if p > 0 then 1 else 0)) (ex_own (evnew_compA (α := Int) (mk := .int) (xs := votes) (f := fun p => .int (if p > 0 then 1 else 0)) ⟨inj_int, ao.handled, rfl, ev_name rfl rfl, .list AsList.list, ⟨rfl, rfl, by decide⟩, .nil, fun _ => rfl, .any fun _ _ => rfl, by (first | lia | omega), fun hid' C a _ o => tgti hid' C rfl rfl rfl, fun hid' C b h => ?_, fun a _ => .nil⟩) (hs _ (.inr rfl)) rfl rfl rfl) (fun D' => ?_)
      · refine ev_if (x := decide (b > 0)) (tr_cmp (ev_name rfl rfl) ev_int rfl c_gt) (fun e => ?_) (fun e => ?_)
        · rw [if_pos (of_decide_eq_true e)]; exact ev_int
        · rw [if_neg (of_decide_eq_false e)]; exact ev_int
      refine exs_next (ex_assign (EvNew.ev (evnew_compA (α := Nat) (mk := fun i => .int (i : Int)) (xs := List.range S) (f := fun i => pairV (((i : Int) + 1) * ((i : Int) + 2), 1)) ⟨inj_nat, ao.handled, rfl, ev_range1 N E (ev_name rfl rfl) rfl rfl, src_rng (by (first | lia | omega)), ⟨rfl, rfl, by decide⟩, .nil, fun _ => rfl, .any fun _ _ => rfl, by rw [List.length_range]; (first | lia | omega), fun hid' C a _ o => tgti hid' C rfl rfl rfl, fun hid' C a h => ev_tup2 (ev_mul (ev_add (ev_name rfl rfl) ev_int) (ev_add (ev_name rfl rfl) ev_int) (mulOk20 (by have := natlt20 h hS; omega) (by have := natlt20 h hS; omega))) ev_int rfl rfl, fun a _ => .nil⟩)) (hs _ (.inr rfl)) rfl rfl rfl) (exs_nil ⟨D', _, _, rfl, ?_, ?_⟩)
      · simp only [dV2, divs, List.map_map]
        refine .cons rfl (.cons rfl (.cons rfl (.cons rfl (.cons rfl (.cons rfl .nil)))))
      · simp only [base, List.map_map]
        exact List.Sublist.cons_cons _ (List.nil_sublist _)
  refine exs_cons (K' := fun o => ∃ D' v m, o = .next v m ∧ Sub (dV2 votes S nm ta D' (divs r S)) v ∧ [(D', (base r votes).map .int)].Sublist m) (ex_if (x := decide (Rule.adams = r)) ?_ (fun e => ?_) (fun e => ?_)) (fun v m e => exs_nil e) (fun o e _ => e)
  · rw [← hr .adams]
    exact ev_in (ns := ruleNames .adams) (ev_name rfl rfl) (ev_list (by walk_at "args") (by decide)) AsList.list rfl
  · have e : Rule.adams = r := of_decide_eq_true e
    have hle : votes.length ≤ S := hp .adams (by simp) e.symm
    subst e
    refine exs_cons (K' := fun o => ∃ D' v m, o = .next v m ∧ Sub (dV2 votes S nm ta D' (divs .adams S)) v ∧ [(D', (base .adams votes).map .int)].Sublist m) (ex_if (x := false) ?_ (fun e => nomatch e) (fun _ => ?_)) (fun v m e => exs_nil e) (fun o e _ => e)
    · rw [show false = decide ((S : Int) < ((votes.map PV.int).length : Nat)) by rw [List.length_map]; simp; omega]
      exact tr_cmp (ev_name rfl rfl) (ev_len N E (ev_name rfl rfl) AsList.list (by rw [List.length_map]; (first | lia | omega)) rfl rfl) rfl c_lt
    · refine exs_own (ds := votes.map fun p => .int (if p > 0 then 1 else 0)) (ex_own (evnew_compA (α := Int) (mk := .int) (xs := votes) (f := fun p => .int (if p > 0 then 1 else 0)) ⟨inj_int, ao.handled, rfl, ev_name rfl rfl, .list AsList.list, ⟨rfl, rfl, by decide⟩, .nil, fun _ => rfl, .any fun _ _ => rfl, by (first | lia | omega), fun hid' C a _ o => tgti hid' C rfl rfl rfl, fun hid' C b h => ?_, fun a _ => .nil⟩) (hs _ (.inr rfl)) rfl rfl rfl) (fun D' => ?_)
      · refine ev_if (x := decide (b > 0)) (tr_cmp (ev_name rfl rfl) ev_int rfl c_gt) (fun e => ?_) (fun e => ?_)
        · rw [if_pos (of_decide_eq_true e)]; exact ev_int
        · rw [if_neg (of_decide_eq_false e)]; exact ev_int
      refine exs_next (ex_assign (EvNew.ev (evnew_compA (α := Nat) (mk := fun i => .int (i : Int)) (xs := List.range S) (f := fun i => pairV ((i : Int) + 1, 1)) ⟨inj_nat, ao.handled, rfl, ev_range1 N E (ev_name rfl rfl) rfl rfl, src_rng (by (first | lia | omega)), ⟨rfl, rfl, by decide⟩, .nil, fun _ => rfl, .any fun _ _ => rfl, by rw [List.length_range]; (first | lia | omega), fun hid' C a _ o => tgti hid' C rfl rfl rfl, fun hid' C a h => ev_tup2 (by walk_at "ev") ev_int rfl rfl, fun a _ => .nil⟩)) (hs _ (.inr rfl)) rfl rfl rfl) (exs_nil ⟨D', _, _, rfl, ?_, ?_⟩)
      · simp only [dV2, divs, List.map_map]
        refine .cons rfl (.cons rfl (.cons rfl (.cons rfl (.cons rfl (.cons rfl .nil)))))
      · simp only [base, List.map_map]
        exact List.Sublist.cons_cons _ (List.nil_sublist _)
  refine exs_cons (K' := fun o => ∃ D' v m, o = .next v m ∧ Sub (dV2 votes S nm ta D' (divs r S)) v ∧ [(D', (base r votes).map .int)].Sublist m) (ex_if (x := decide (Rule.dean = r)) ?_ (fun e => ?_) (fun e => ?_)) (fun v m e => exs_nil e) (fun o e _ => e)
  · rw [← hr .dean]
    exact ev_in (ns := ruleNames .dean) (ev_name rfl rfl) (ev_list (by walk_at "args") (by decide)) AsList.list rfl
  · have e : Rule.dean = r := of_decide_eq_true e
    have hle : votes.length ≤ S := hp .dean (by simp) e.symm
    subst e
    refine exs_cons (K' := fun o => ∃ D' v m, o = .next v m ∧ Sub (dV2 votes S nm ta D' (divs .dean S)) v ∧ [(D', (base .dean votes).map .int)].Sublist m) (ex_if (x := false) ?_ (fun e => nomatch e) (fun _ => ?_)) (fun v m e => exs_nil e) (fun o e _ => e)
    · rw [show false = decide ((S : Int) < ((votes.map PV.int).length : Nat)) by rw [List.length_map]; simp; omega]
      exact tr_cmp (ev_name rfl rfl) (ev_len N E (ev_name rfl rfl) AsList.list (by rw [List.length_map]; (first | lia | omega)) rfl rfl) rfl c_lt
    · refine exs_own (ds := votes.map fun p => .int (if p > 0 then 1 else 0)) (ex_own (evnew_compA (α := Int) (mk := .int) (xs := votes) (f := fun p => .int (if p > 0 then 1 else 0)) ⟨inj_int, ao.handled, rfl, ev_name rfl rfl, .list AsList.list, ⟨rfl, rfl, by decide⟩, .nil, fun _ => rfl, .any fun _ _ => rfl, by (first | lia | omega), fun hid' C a _ o => tgti hid' C rfl rfl rfl, fun hid' C b h => ?_, fun a _ => .nil⟩) (hs _ (.inr rfl)) rfl rfl rfl) (fun D' => ?_)
      · refine ev_if (x := decide (b > 0)) (tr_cmp (ev_name rfl rfl) ev_int rfl c_gt) (fun e => ?_) (fun e => ?_)
        · rw [if_pos (of_decide_eq_true e)]; exact ev_int
        · rw [if_neg (of_decide_eq_false e)]; exact ev_int
      refine exs_next (ex_assign (EvNew.ev (evnew_compA (α := Nat) (mk := fun i => .int (i : Int)) (xs := List.range S) (f := fun i => pairV (2 * ((i : Int) + 1) * ((i : Int) + 2), 2 * ((i : Int) + 1) + 1)) ⟨inj_nat, ao.handled, rfl, ev_range1 N E (ev_name rfl rfl) rfl rfl, src_rng (by (first | lia | omega)), ⟨rfl, rfl, by decide⟩, .nil, fun _ => rfl, .any fun _ _ => rfl, by rw [List.length_range]; (first | lia | omega), fun hid' C a _ o => tgti hid' C rfl rfl rfl, fun hid' C a h => ev_tup2 (ev_mul (ev_mul ev_int (ev_add (ev_name rfl rfl) ev_int) (mulOk20 (by decide) (by have := natlt20 h hS; omega))) (ev_add (ev_name rfl rfl) ev_int) (mulOk20 (by have := natlt20 h hS; omega) (by have := natlt20 h hS; omega))) (ev_add (ev_mul ev_int (ev_add (ev_name rfl rfl) ev_int) (mulOk20 (by decide) (by have := natlt20 h hS; omega))) ev_int) rfl rfl, fun a _ => .nil⟩)) (hs _ (.inr rfl)) rfl rfl rfl) (exs_nil ⟨D', _, _, rfl, ?_, ?_⟩)
      · simp only [dV2, divs, List.map_map]
        refine .cons rfl (.cons rfl (.cons rfl (.cons rfl (.cons rfl (.cons rfl .nil)))))
      · simp only [base, List.map_map]
        exact List.Sublist.cons_cons _ (List.nil_sublist _)
  · rename_i e1 e2 e3 e4 e5
    exact absurd e (by clear e; revert e1 e2 e3 e4 e5; cases r <;> decide)
end
end Mine
end

section
open PySem PySem.W PyProof.Rows PySem.Calls PySem.SeqAt
set_option linter.unusedVariables false
set_option maxRecDepth 100000
namespace Mine

noncomputable def DivsOk (ds : List (Int × Int)) : Prop := ∀ d ∈ ds, 0 < d.1 ∧ d.1.natAbs < 2 ^ 13 ∧ 0 < d.2 ∧ d.2.natAbs < 2 ^ 13
theorem natAbs_mul_lt {a b : Int} {j k : Nat} (ha : a.natAbs < 2 ^ j) (hb : b.natAbs < 2 ^ k) : (a * b).natAbs < 2 ^ (j + k) := by
  rw [Int.natAbs_mul, Nat.pow_add]
  exact Nat.mul_lt_mul'' ha hb
theorem common_foldl (ds : List (Int × Int)) (h : DivsOk ds) : ∀ c : Int, 0 < c → ∀ k, c.natAbs < 2 ^ k → 0 < ds.foldl (fun c d => c * d.1) c ∧ (ds.foldl (fun c d => c * d.1) c).natAbs < 2 ^ (k + 13 * ds.length) := by
  induction ds with
  | nil => intro c hc k hk; exact ⟨hc, by simpa using hk⟩
  | cons d r ih =>
    intro c hc k hk
    have hd := h d List.mem_cons_self
    have := ih (fun e he => h e (List.mem_cons_of_mem _ he)) (c * d.1) (Int.mul_pos hc hd.1) (k + 13) (natAbs_mul_lt hk hd.2.1)
    rw [List.foldl_cons, List.length_cons]
    refine ⟨this.1, ?_⟩
    have e : k + 13 * (r.length + 1) = k + 13 + 13 * r.length := by (first | lia | omega)
    rw [e]; exact this.2
theorem common_ok {ds : List (Int × Int)} (h : DivsOk ds) : 0 < common ds ∧ (common ds).natAbs < 2 ^ (1 + 13 * ds.length) := common_foldl ds h 1 (by decide) 1 (by decide)
theorem common_take {ds : List (Int × Int)} (i : Nat) (d) (h : ds[i]? = some d) : common (ds.take (i + 1)) = common (ds.take i) * d.1 := by
  unfold common
  have hlt : i < ds.length := by
    rcases Nat.lt_or_ge i ds.length with q | q
    · exact q
    · rw [List.getElem?_eq_none q] at h; cases h
  rw [List.take_add_one, h]
  simp
theorem lt_of_get {α : Type} {l : List α} {i : Nat} {a : α} (h : l[i]? = some a) : i < l.length := by
  rcases Nat.lt_or_ge i l.length with q | q
  · exact q
  · rw [List.getElem?_eq_none q] at h; cases h
noncomputable def dv : Rule → Nat → Int × Int
  | .jeff, i => ((i : Int) + 1, 1)
  | .web, i => (2 * (i : Int) + 1, 1)
  | .modi, 0 => (7, 5)
  | .modi, i + 1 => (2 * (1 + (i : Int)) + 1, 1)
  | .hill, i => (((i : Int) + 1) * ((i : Int) + 2), 1)
  | .adams, i => ((i : Int) + 1, 1)
  | .dean, i => (2 * ((i : Int) + 1) * ((i : Int) + 2), 2 * ((i : Int) + 1) + 1)
theorem divs_eq (r : Rule) {S : Nat} (h : 1 ≤ S) : divs r S = (List.range S).map (dv r) := by
  cases r <;> try rfl
  obtain ⟨k, rfl⟩ : ∃ k, S = k + 1 := ⟨S - 1, by (first | lia | omega)⟩
  rw [List.range_succ_eq_map, List.map_cons, List.map_map]
  rfl
theorem dv_small : ∀ r : Rule, ∀ i, i < 60 → 0 < (dv r i).1 ∧ (dv r i).1.natAbs < 2 ^ 13 ∧ 0 < (dv r i).2 ∧ (dv r i).2.natAbs < 2 ^ 13 := by
  intro r; cases r <;> decide +kernel
theorem divsOk (r : Rule) (S : Nat) (hS : S ≤ 60) : DivsOk (divs r S) := by
  rcases Nat.eq_zero_or_pos S with h | h
  · subst h; unfold DivsOk; cases r <;> decide
  · rw [divs_eq r h]
    intro d hd
    obtain ⟨i, hi, rfl⟩ := List.mem_map.mp hd
    exact dv_small r i (Nat.lt_of_lt_of_le (List.mem_range.mp hi) hS)
theorem divs_len (r : Rule) (S : Nat) (h : 1 ≤ S) : (divs r S).length = S := by
  cases r <;> simp [divs]
  (first | lia | omega)

section
variable {W : Wk} {A : Around} {hid : PMap} {env : Env} {vars : Vars} {mu : Mu} {K : Out → Prop}
theorem ev_pair0 {v s : Expr} {pos x y} (hv : Ev W A hid env vars mu v (.tup [x, y])) (hs : Ev W A hid env vars mu s (.int 0)) : Ev W A hid env vars mu (.Subscript v s pos) x :=
  ev_tidx hv hs (by decide) (by show (0 : Int) < ((2 : Nat) : Int); decide) (by show 2 < 2 ^ 62; decide) rfl
theorem ev_pair1 {v s : Expr} {pos x y} (hv : Ev W A hid env vars mu v (.tup [x, y])) (hs : Ev W A hid env vars mu s (.int 1)) : Ev W A hid env vars mu (.Subscript v s pos) y :=
  ev_tidx hv hs (by decide) (by show (1 : Int) < ((2 : Nat) : Int); decide) (by show 2 < 2 ^ 62; decide) rfl

noncomputable abbrev cm0 (p : Program) : List Stmt := match (bodyOf p "divisor").getD 2 (.Pass default) with | .If _ b _ _ => b | _ => []

theorem div_common {a L : Addr} {dV kV doc pm an cdv ct} {votes : List Int} {S : Nat} {nm : Str} {ta : Bool} {ds : List (Int × Int)} {D : Addr} {r0 : List PV} (N : Names W) (ao : AOk W A 0) (hd : DivsOk ds) (hl : ds.length ≤ 60)
    (hs : ∀ x, (scopeOf p1 "divisor").names.lookup x = some .local ∨ (scopeOf p1 "divisor").names.lookup x = some .cell → Sto hid (dEnv p1 a L dV kV doc pm an cdv ct) x) :
    Ex1 W A hid (dEnv p1 a L dV kV doc pm an cdv ct) ((("common" : Str), PV.int 1) :: dV2 votes S nm ta D ds) [(D, r0)] ((cm0 p1).getD 1 (.Pass default)) (· = .next ((("common" : Str), PV.int (common ds)) :: dV2 votes S nm ta D ds) [(D, r0)]) := by
  refine ex_for (d := .list (ds.map pairV)) (its := ds.map pairV) (fun i v m => v = (("common" : Str), PV.int (common (ds.take i))) :: dV2 votes S nm ta D ds ∧ m = [(D, r0)]) ao.handled (ev_name rfl rfl) (fun _ _ _ _ => .list AsList.list) ⟨rfl, rfl⟩ (hs _ (.inl rfl)) rfl rfl (fun _ => rfl) ?_ ?_
  · rintro hid' i v m x hsto hx ⟨rfl, rfl⟩
    rw [List.getElem?_map] at hx
    obtain ⟨d, hd1, rfl⟩ := Option.map_eq_some_iff.mp hx
    have hdo := hd d (List.mem_of_getElem? hd1)
    have hc := common_ok (ds := ds.take i) (fun e he => hd e (List.mem_of_mem_take he))
    have hlt := lt_of_get hd1
    refine exs_next (ex_assign (ev_mul (ev_name rfl rfl) (ev_pair0 (ev_name rfl rfl) ev_int) (mulOk hc.2 hdo.2.1 ?_)) (hsto _ (hs _ (.inr rfl))) rfl rfl rfl) (exs_nil ⟨_, _, ?_, List.Sublist.refl _, rfl, rfl⟩)
    · rw [List.length_take]; (first | lia | omega)
    · rw [common_take i d hd1]
      exact .cons rfl (.cons rfl (.cons rfl (.cons rfl (.cons rfl (.cons rfl (.cons rfl .nil))))))
  · rintro v m ⟨rfl, rfl⟩
    rw [List.length_map, List.take_length]
end
end Mine
end

section
open PySem PySem.W PyProof.Rows PySem.Calls PySem.SeqAt
set_option linter.unusedVariables false
set_option maxRecDepth 100000
namespace Mine

section
variable {W : Wk} {A : Around} {hid : PMap} {env : Env} {vars : Vars} {mu : Mu} {K : Out → Prop}

noncomputable abbrev listI (l : List Int) : PV := .list (l.map .int)
theorem inj_listI : ∀ a b : List Int, listI a = listI b → a = b := fun a b h => by
  injection h with h
  exact (List.map_inj_right (fun a b h => by injection h)).mp h
noncomputable def wsOf (r : Rule) (c : Int) (ds : List (Int × Int)) (votes : List Int) : List (List Int) := votes.map fun p => ds.map (wt r c p)

theorem div_weights {a L : Addr} {dV kV doc pm an cdv ct} {votes : List Int} {S : Nat} {nm : Str} {ta : Bool} {r : Rule} {c : Int} {ds : List (Int × Int)} {D : Addr} {r0 : List PV} {B : Nat} (N : Names W) (ao : AOk W A 0) (hd : DivsOk ds) (hl : ds.length ≤ 60) (hr : RuleName r nm)
    (hv : votes.length ≤ 100) (hB : ∀ p ∈ votes, p.natAbs < 2 ^ B) (hB2 : B ≤ 10 ^ 7) (hc : c.natAbs < 2 ^ 800)
    (hs : ∀ x, (scopeOf p1 "divisor").names.lookup x = some .local ∨ (scopeOf p1 "divisor").names.lookup x = some .cell → Sto hid (dEnv p1 a L dV kV doc pm an cdv ct) x) :
    Ex1 W A hid (dEnv p1 a L dV kV doc pm an cdv ct) ((("common" : Str), PV.int c) :: dV2 votes S nm ta D ds) [(D, r0)] ((cm0 p1).getD 2 (.Pass default)) (· = .next (("weights", .list ((wsOf r c ds votes).map listI)) :: ("common", PV.int c) :: dV2 votes S nm ta D ds) [(D, r0)]) := by
  have hinj : ∀ a b : Int × Int, pairV a = pairV b → a = b := fun a b h => by
    injection h with h; injection h with h1 h2; injection h2 with h2; injection h1 with h1; injection h2 with h2; exact Prod.ext h1 h2
  have e : (PV.list ((wsOf r c ds votes).map listI)) = .list (votes.map fun p => listI (ds.map (wt r c p))) := by
    unfold wsOf; rw [List.map_map]; rfl
  rw [e]
  refine ex_if (x := decide (Rule.hill = r)) ?_ (fun e => ?_) (fun e => ?_)
  · rw [← hr .hill]
    exact ev_in (ns := ruleNames .hill) (ev_name rfl rfl) (ev_list (by walk_at "args") (by decide)) AsList.list rfl
  · have e : Rule.hill = r := of_decide_eq_true e
    subst e
    refine exs_next (ex_assign (EvNew.ev (evnew_compA (α := Int) (mk := .int) (xs := votes) (f := fun p => listI (ds.map (wt .hill c p))) (vars' := [("divisors", .list (ds.map pairV)), ("common", .int c)]) (tv := fun p => [("p", .int p), ("divisors", .list (ds.map pairV)), ("common", .int c)])
      ⟨inj_int, ao.handled, rfl, ev_name rfl rfl, .list AsList.list, ⟨rfl, rfl, by decide⟩, by walk_at "over", fun _ => rfl, .any fun _ _ => rfl, by (first | lia | omega), fun hid' C p hp o => tgt_name (sto_cell (by decide) rfl o) rfl rfl, fun hid' C p hp => ?_, fun p _ => by walk_at "sub"⟩)) (hs _ (.inr rfl)) rfl rfl rfl) (exs_nil rfl)
    show Ev _ _ _ _ _ _ _ (.list ((ds.map (wt .hill c p)).map .int))
    rw [List.map_map]
    refine EvNew.ev (evnew_compA (α := Int × Int) (mk := pairV) (xs := ds) (f := PV.int ∘ wt .hill c p) (vars' := [("p", .int p), ("common", .int c)]) (tv := fun d => [("d", pairV d), ("p", .int p), ("common", .int c)])
      ⟨hinj, ao.handled, rfl, ev_name rfl rfl, .list AsList.list, ⟨rfl, rfl, by decide⟩, by walk_at "over", fun _ => rfl, .any fun _ _ => rfl, by (first | lia | omega), fun hid' C d hd o => tgt_name (store_own hid' rfl) rfl rfl, fun hid' C d hdm => ?_, fun d _ => by walk_at "sub"⟩)
    have hdo := hd d hdm
    have hpB := hB p hp
    have e1 := natAbs_mul_lt hpB hpB
    have e2 := natAbs_mul_lt e1 hdo.2.2.2
    exact ev_fdiv N.ok ao (ev_mul (ev_mul (ev_mul (ev_toint N ⟨rfl, rfl, rfl⟩ (ev_name rfl rfl) rfl rfl) (ev_toint N ⟨rfl, rfl, rfl⟩ (ev_name rfl rfl) rfl rfl) (mulOk hpB hpB (by (first | lia | omega)))) (ev_pair1 (ev_name rfl rfl) ev_int) (mulOk e1 hdo.2.2.2 (by (first | lia | omega)))) (ev_name rfl rfl) (mulOk e2 hc (by (first | lia | omega)))) (ev_pair0 (ev_name rfl rfl) ev_int) (by have := hdo.1; (first | lia | omega))
  · refine exs_next (ex_assign (EvNew.ev (evnew_compA (α := Int) (mk := .int) (xs := votes) (f := fun p => listI (ds.map (wt r c p))) (vars' := [("divisors", .list (ds.map pairV)), ("common", .int c)]) (tv := fun p => [("p", .int p), ("divisors", .list (ds.map pairV)), ("common", .int c)])
      ⟨inj_int, ao.handled, rfl, ev_name rfl rfl, .list AsList.list, ⟨rfl, rfl, by decide⟩, by walk_at "over", fun _ => rfl, .any fun _ _ => rfl, by (first | lia | omega), fun hid' C p hp o => tgt_name (sto_cell (by decide) rfl o) rfl rfl, fun hid' C p hp => ?_, fun p _ => by walk_at "sub"⟩)) (hs _ (.inr rfl)) rfl rfl rfl) (exs_nil rfl)
    show Ev _ _ _ _ _ _ _ (.list ((ds.map (wt r c p)).map .int))
    rw [List.map_map]
    refine EvNew.ev (evnew_compA (α := Int × Int) (mk := pairV) (xs := ds) (f := PV.int ∘ wt r c p) (vars' := [("p", .int p), ("common", .int c)]) (tv := fun d => [("d", pairV d), ("p", .int p), ("common", .int c)])
      ⟨hinj, ao.handled, rfl, ev_name rfl rfl, .list AsList.list, ⟨rfl, rfl, by decide⟩, by walk_at "over", fun _ => rfl, .any fun _ _ => rfl, by (first | lia | omega), fun hid' C d hd o => tgt_name (store_own hid' rfl) rfl rfl, fun hid' C d hdm => ?_, fun d _ => by walk_at "sub"⟩)
    have hdo := hd d hdm
    have hpB := hB p hp
    have e2 := natAbs_mul_lt hpB hdo.2.2.2
    have e3 : (PV.int ∘ wt r c p) d = .int ((p * d.2 * c).fdiv d.1) := by
      cases r <;> first | exact absurd e (by decide) | rfl
    rw [e3]
    exact ev_fdiv N.ok ao (ev_mul (ev_mul (ev_toint N ⟨rfl, rfl, rfl⟩ (ev_name rfl rfl) rfl rfl) (ev_pair1 (ev_name rfl rfl) ev_int) (mulOk hpB hdo.2.2.2 (by (first | lia | omega)))) (ev_name rfl rfl) (mulOk e2 hc (by (first | lia | omega)))) (ev_pair0 (ev_name rfl rfl) ev_int) (by have := hdo.1; (first | lia | omega))

theorem noCell {names : List (Str × NameKind)} (h : names.all (fun p => p.2 != .cell) = true) : ∀ x, names.lookup x ≠ some .cell := fun x hx => by
  have := List.all_eq_true.mp h _ (mem_of_lookup hx)
  exact absurd this (by show ¬ ((NameKind.cell != NameKind.cell) = true); decide)
theorem flat_map_int (ws : List (List Int)) : (ws.flatMap fun l => l.map PV.int) = ws.flatten.map PV.int := by
  induction ws with
  | nil => rfl
  | cons l r ih => rw [List.flatMap_cons, ih, List.flatten_cons, List.map_append]
noncomputable abbrev vW (votes : List Int) (S : Nat) (nm : Str) (ta : Bool) (D : Addr) (ds : List (Int × Int)) (c : Int) (ws : List (List Int)) : Vars := ("weights", .list (ws.map listI)) :: ("common", PV.int c) :: dV2 votes S nm ta D ds

theorem div_flat {a L : Addr} {dV kV doc pm an cdv ct} {votes : List Int} {S : Nat} {nm : Str} {ta : Bool} {c : Int} {ds : List (Int × Int)} {ws : List (List Int)} {D : Addr} {r0 : List PV} {M : Nat} (N : Names W) (ao : AOk W A 0)
    (hM : ∀ l ∈ ws, l.length ≤ M) (hwM : ws.length * M ≤ 100000) (h64 : ws.flatten.length < 64)
    (hs : ∀ x, (scopeOf p1 "divisor").names.lookup x = some .local ∨ (scopeOf p1 "divisor").names.lookup x = some .cell → Sto hid (dEnv p1 a L dV kV doc pm an cdv ct) x) :
    Ex1 W A hid (dEnv p1 a L dV kV doc pm an cdv ct) (vW votes S nm ta D ds c ws) [(D, r0)] ((cm0 p1).getD 3 (.Pass default)) (· = .next (("flatweights", listI (sortI ws.flatten)) :: vW votes S nm ta D ds c ws) [(D, r0)]) := by
  refine ex_assign (ev_sorted N ⟨rfl, rfl, rfl⟩ (EvNew.ev ?_) AsList.list h64 rfl rfl) (hs _ (.inl rfl)) rfl rfl rfl
  rw [← flat_map_int]
  exact evnew_comp2M (α := List Int) (β := Int) (mk := listI) (mk1 := .int) (xs := ws) (ys := fun l => l) (f := fun _ w => .int w) (vars' := []) (tv := fun l => [("l", listI l)]) (tv1 := fun l w => [("w", .int w), ("l", listI l)]) (d1 := listI) (N := M) inj_listI inj_int ao.handled rfl (ev_name rfl rfl) (.list AsList.list) ⟨rfl, rfl, by decide⟩ .nil
    (fun _ => rfl) (fun _ _ => rfl) hwM (noCell rfl) (fun _ _ => rfl) hM (fun _ _ => rfl) (fun l _ => .list AsList.list) (fun hid' C l _ => tgt_name (store_own hid' rfl) rfl rfl) (fun hid' C l _ => ev_name rfl rfl) (fun hid' C l w _ _ => tgt_name (store_own hid' rfl) rfl rfl) (fun hid' C l w _ _ => ev_name rfl rfl)
    (fun l w _ _ => by walk_at "sub") (fun l _ => .nil)

theorem div_min {a L : Addr} {dV kV doc pm an cdv ct} {votes : List Int} {S : Nat} {nm : Str} {ta : Bool} {c : Int} {ds : List (Int × Int)} {ws : List (List Int)} {D : Addr} {r0 fl : List Int} (N : Names W) (ao : AOk W A 0)
    (h1 : -(fl.length : Int) ≤ -(S : Int) + r0.sum) (h2 : -(S : Int) + r0.sum < fl.length) (h64 : fl.length < 64)
    (hs : ∀ x, (scopeOf p1 "divisor").names.lookup x = some .local ∨ (scopeOf p1 "divisor").names.lookup x = some .cell → Sto hid (dEnv p1 a L dV kV doc pm an cdv ct) x) :
    Ex1 W A hid (dEnv p1 a L dV kV doc pm an cdv ct) ((("flatweights" : Str), listI fl) :: vW votes S nm ta D ds c ws) [(D, r0.map .int)] ((cm0 p1).getD 4 (.Pass default))
      (· = .next (("minweight", .int (fl.getD (idx (-(S : Int) + r0.sum) fl.length) 0)) :: ("flatweights", listI fl) :: vW votes S nm ta D ds c ws) [(D, r0.map .int)]) := by
  have hi : idx (-(S : Int) + r0.sum) fl.length < fl.length := by unfold idx; split <;> (first | lia | omega)
  refine ex_assign (ev_idx (l := fl.map .int) (ev_name rfl rfl) (ev_add (ev_neg (ev_name rfl rfl)) (ev_sum N ⟨rfl, rfl, rfl⟩ ao.handled (ev_name rfl rfl) (.inr ⟨D, rfl, .head _⟩) rfl rfl)) AsList.list (by rw [List.length_map]; exact h1) (by rw [List.length_map]; exact h2) (by rw [List.length_map]; (first | lia | omega)) ?_) (hs _ (.inr rfl)) rfl rfl rfl
  rw [List.length_map, List.getElem?_map, List.getD, List.getElem?_eq_getElem hi]; rfl

noncomputable def topI (m : Int) (l : List Int) : Int := ((l.filter fun w => decide (w > m)).length : Nat)
noncomputable def r1Of (r0 : List Int) (ws : List (List Int)) (m : Int) (n : Nat) : List Int := (List.range n).map fun i => r0.getD i 0 + topI m (ws.getD i [])

theorem getD_map_int (l : List Int) (i : Nat) (h : i < l.length) : (l.map PV.int)[i]? = some (.int (l.getD i 0)) := by
  rw [List.getElem?_map, List.getD, List.getElem?_eq_getElem h]; rfl
theorem getD_map_listI (l : List (List Int)) (i : Nat) (h : i < l.length) : (l.map listI)[i]? = some (listI (l.getD i [])) := by
  rw [List.getElem?_map, List.getD, List.getElem?_eq_getElem h]; rfl
theorem idx_nat (i n : Nat) : idx (i : Int) n = i := by unfold idx; rw [if_pos (by (first | exact Int.natCast_nonneg _ | lia | omega))]; (first | (simp; done) | lia | omega)

theorem ev_nidx {v s : Expr} {pos d l} {k : Nat} {r} (hv : Ev W A hid env vars mu v d) (hs : Ev W A hid env vars mu s (.int (k : Int))) (hl : AsList mu d l) (hn : l.length ≤ 100000) (hr : l[k]? = some r) : Ev W A hid env vars mu (.Subscript v s pos) r := by
  have hk := lt_of_get hr
  exact ev_idx hv hs hl (by (first | (simp; done) | lia | omega)) (by (first | lia | omega)) (by (first | lia | omega)) (by rw [idx_nat]; exact hr)
theorem ev_iidx {v s : Expr} {pos d} {xs : List Int} {k : Nat} (hv : Ev W A hid env vars mu v d) (hs : Ev W A hid env vars mu s (.int (k : Int))) (hl : AsList mu d (xs.map .int)) (hk : k < xs.length) (hn : xs.length ≤ 100000) : Ev W A hid env vars mu (.Subscript v s pos) (.int (xs.getD k 0)) :=
  ev_nidx hv hs hl (by rw [List.length_map]; exact hn) (getD_map_int _ _ hk)
theorem ev_lidx {v s : Expr} {pos d} {xs : List (List Int)} {k : Nat} (hv : Ev W A hid env vars mu v d) (hs : Ev W A hid env vars mu s (.int (k : Int))) (hl : AsList mu d (xs.map listI)) (hk : k < xs.length) (hn : xs.length ≤ 100000) : Ev W A hid env vars mu (.Subscript v s pos) (listI (xs.getD k [])) :=
  ev_nidx hv hs hl (by rw [List.length_map]; exact hn) (getD_map_listI _ _ hk)
theorem div_reps {a L : Addr} {dV kV doc pm an cdv ct} {votes : List Int} {S : Nat} {nm : Str} {ta : Bool} {c : Int} {ds : List (Int × Int)} {ws : List (List Int)} {D : Addr} {r0 fl : List Int} {m : Int} (N : Names W) (ao : AOk W A 0)
    (hv : votes.length ≤ 100) (hr0 : r0.length = votes.length) (hws : ws.length = votes.length) (hM : ∀ l ∈ ws, l.length ≤ 1000)
    (hs : ∀ x, (scopeOf p1 "divisor").names.lookup x = some .local ∨ (scopeOf p1 "divisor").names.lookup x = some .cell → Sto hid (dEnv p1 a L dV kV doc pm an cdv ct) x) :
    Ex1 W A hid (dEnv p1 a L dV kV doc pm an cdv ct) ((("minweight" : Str), PV.int m) :: ("flatweights", listI fl) :: vW votes S nm ta D ds c ws) [(D, r0.map .int)] ((cm0 p1).getD 5 (.Pass default))
      (fun o => ∃ D', o = .next (("representatives", .loc D') :: ("minweight", .int m) :: ("flatweights", listI fl) :: vW votes S nm ta D ds c ws) [(D', (r1Of r0 ws m votes.length).map .int), (D, r0.map .int)]) := by
  unfold r1Of
  rw [List.map_map]
  refine ex_own (evnew_compA (α := Nat) (mk := fun i => .int (i : Int)) (xs := List.range votes.length) (vars' := [("representatives", .loc D), ("minweight", .int m), ("weights", .list (ws.map listI))]) (tv := fun i => [("i", .int (i : Int)), ("representatives", .loc D), ("minweight", .int m), ("weights", .list (ws.map listI))])
    ⟨inj_nat, ao.handled, rfl, ?_, src_rng (by (first | lia | omega)), ⟨rfl, rfl, by decide⟩, by walk_at "over", fun _ => rfl, .any fun _ _ => rfl, by rw [List.length_range]; (first | lia | omega), fun hid' C i hi o => tgt_name (store_own hid' rfl) rfl rfl, fun hid' C i hi => ?_, fun i _ => by walk_at "sub"⟩) (hs _ (.inr rfl)) rfl rfl rfl
  · have := ev_range1 (W := W) (A := A) (hid := hid) (vars := (("minweight" : Str), PV.int m) :: ("flatweights", listI fl) :: vW votes S nm ta D ds c ws) (mu := [(D, r0.map .int)]) (env := dEnv p1 a L dV kV doc pm an cdv ct) (np := default) (pos := default) (e := .Constant (.int 0) 0 default) (n := 0) N ⟨rfl, rfl, rfl⟩ ev_int rfl rfl
    rw [show ((votes.length : Nat) : Int) = ((votes.map PV.int).length : Nat) by rw [List.length_map]]
    exact ev_range1 N ⟨rfl, rfl, rfl⟩ (ev_len N ⟨rfl, rfl, rfl⟩ (ev_name rfl rfl) AsList.list (by rw [List.length_map]; (first | lia | omega)) rfl rfl) rfl rfl
  · have hi' := List.mem_range.mp hi
    have hwi : (ws.getD i []).length ≤ 1000 := by
      rw [List.getD, List.getElem?_eq_getElem (by (first | lia | omega))]; exact hM _ (List.getElem_mem _)
    have e1 : (PV.int ∘ fun i => r0.getD i 0 + topI m (ws.getD i [])) i = .int (r0.getD i 0 + ((((ws.getD i []).filter fun w => decide (w > m)).map PV.int).length : Nat)) := by
      show PV.int (r0.getD i 0 + topI m (ws.getD i [])) = _
      unfold topI; rw [List.length_map]
    rw [e1]
    refine ev_add (ev_iidx (xs := r0) (ev_name rfl rfl) (ev_name rfl rfl) (.inr ⟨D, rfl, .head _⟩) (by (first | lia | omega)) (by (first | lia | omega))) ?_
    refine ev_len N ⟨rfl, rfl, rfl⟩ (EvNew.ev (evnew_compM (α := Int) (mk := .int) (xs := ws.getD i []) (p := fun w => decide (w > m)) (f := .int) (vars' := [("minweight", .int m)]) (tv := fun w => [("w", .int w), ("minweight", .int m)])
      ⟨inj_int, ao.handled, rfl, ev_lidx (xs := ws) (ev_name rfl rfl) (ev_name rfl rfl) AsList.list (by (first | lia | omega)) (by (first | lia | omega)), .list AsList.list, ⟨rfl, rfl, by decide⟩, by walk_at "over", fun _ => rfl, .any fun _ _ => rfl, by (first | lia | omega), fun hid' C w hw o => tgt_name (store_own hid' rfl) rfl rfl, fun hid' C w hw => ?_, fun hid' C w hw _ => ev_name rfl rfl, fun w _ => by walk_at "sub"⟩)) AsList.list ?_ rfl rfl
    · exact tests_one (tr_cmp (ev_name rfl rfl) (ev_name rfl rfl) rfl c_gt)
    · rw [List.length_map]
      have := List.length_filter_le (fun w => decide (w > m)) (ws.getD i [])
      (first | lia | omega)
end
end Mine
end

section
open PySem PySem.W PyProof.Rows PySem.Calls PySem.SeqAt
set_option linter.unusedVariables false
set_option maxRecDepth 100000
namespace Mine

noncomputable def lexgt : List Int → List Int → Bool
  | [], _ => false
  | _ :: _, [] => true
  | x :: xs, y :: ys => if x == y then lexgt xs ys else decide (x > y)

theorem gt_loop (l b : Addr) (items items2 : Array Value) (n n2 : Nat) (dd dd2 : Option Addr) (sl sl2 : Array (Option Value)) (ns ms : List Int) (h1 : items.size = ns.length) (h2 : items2.size = ns.length) (h3 : ms.length = ns.length)
    (e1 : ∀ j, j < ns.length → ∃ t, items[j]? = some (.int (ns.getD j 0) t)) (e2 : ∀ j, j < ns.length → ∃ t, items2[j]? = some (.int (ms.getD j 0) t)) (k : Nat) :
    ∀ i : Nat, ns.length - i = k → Meets (Builtin.«list.__eq__.loop» ⟨[.ref l, .ref b, rawInt i, rawInt 4], []⟩)
      (fun A R s => s.heap.get? l = some { cls := .type "list", dict := dd, data := .seq items n, slots := sl } ∧ s.heap.get? b = some { cls := .type "list", dict := dd2, data := .seq items2 n2, slots := sl2 } ∧
        R (.ok (.ret (.bool (lexgt (ns.drop i) (ms.drop i))))) s) := by
  induction k with
  | zero =>
    intro i hk prog w A R s h
    obtain ⟨hp, g, d, tk, os⟩ := s
    obtain ⟨hl, hb, h⟩ := h
    wp_walk using wpAny_loadPart' hl, wpAny_loadPart' hb
    have hi1 : items[((i : Nat) : Int).toNat]? = none := by simp; (first | lia | omega)
    have hi2 : items2[((i : Nat) : Int).toNat]? = none := by simp; (first | lia | omega)
    rw [List.drop_eq_nil_of_le (by (first | (subst_vars; lia) | lia | omega))] at h
    rw [hi1, hi2]
    wp_walk using wpAny_loadPart' hl, wpAny_loadPart' hb
    have : decide (items.size > items2.size) = false := decide_eq_false (by (first | lia | omega))
    first
      | (show R (.ok (.ret (.bool (decide (items.size > items2.size))))) _; rw [this]; exact h)
      | (rw [this]; exact h)
  | succ k ih =>
    intro i hk prog w A R s h
    obtain ⟨hp, g, d, tk, os⟩ := s
    obtain ⟨hl, hb, h⟩ := h
    have hlt : i < ns.length := by (first | lia | omega)
    obtain ⟨t1, x1⟩ := e1 i hlt
    obtain ⟨t2, x2⟩ := e2 i hlt
    wp_walk using wpAny_loadPart' hl, wpAny_loadPart' hb
    have hi1 : items[((i : Nat) : Int).toNat]? = some (.int (ns.getD i 0) t1) := x1
    have hi2 : items2[((i : Nat) : Int).toNat]? = some (.int (ms.getD i 0) t2) := x2
    have hc : ((i : Int) + 1) = ((i + 1 : Nat) : Int) := by push_cast; rfl
    have d1 : ns.drop i = ns.getD i 0 :: ns.drop (i + 1) := by rw [List.drop_eq_getElem_cons hlt, List.getD, List.getElem?_eq_getElem hlt]; rfl
    have d2 : ms.drop i = ms.getD i 0 :: ms.drop (i + 1) := by rw [List.drop_eq_getElem_cons (h3 ▸ hlt), List.getD, List.getElem?_eq_getElem (h3 ▸ hlt)]; rfl
    rw [d1, d2] at h
    unfold lexgt at h
    rw [hi1, hi2]
    refine wpAny_bind (wpAny_eqBool_int ?_)
    cases hb' : (ns.getD i 0 == ms.getD i 0) with
    | true =>
      rw [hb', if_pos rfl] at h
      wp_walk
      rw [hc]
      exact ⟨plainId_quiet MeetsSeq3.plain_eq_loop _, codeAny_builtin MeetsSeq3.entry_eq_loop (by
        rw [Around.under_plainId MeetsSeq3.plain_eq_loop _]
        exact ih (i + 1) (by (first | lia | omega)) prog w A R _ ⟨hl, hb, h⟩)⟩
    | false =>
      rw [hb', if_neg (by decide)] at h
      wp_walk using wpAny_loadPart' hl, wpAny_loadPart' hb
      rw [hi1, hi2]
      refine wpAny_bind ?_
      exact richCompare_gives (op := .Gt) (typeIs_int _ _ t1) (typeIs_int _ _ t2) F.slot_int_gt F.entry_int_gt (F.args_int_gt_2 _ _) (gives_int_gt _ _ t1 t2) (fun x => nomatch x) (wpAny_pure h)

theorem list_gt (l b : Addr) (items items2 : Array Value) (n n2 : Nat) (dd dd2 : Option Addr) (sl sl2 : Array (Option Value)) (ns ms : List Int) (h1 : items.size = ns.length) (h2 : items2.size = ns.length) (h3 : ms.length = ns.length)
    (e1 : ∀ j, j < ns.length → ∃ t, items[j]? = some (.int (ns.getD j 0) t)) (e2 : ∀ j, j < ns.length → ∃ t, items2[j]? = some (.int (ms.getD j 0) t)) :
    Meets (Builtin.«list.__gt__» ⟨[.ref l, .ref b], []⟩)
      (fun A R s => s.heap.get? l = some { cls := .type "list", dict := dd, data := .seq items n, slots := sl } ∧ s.heap.get? b = some { cls := .type "list", dict := dd2, data := .seq items2 n2, slots := sl2 } ∧
        R (.ok (.ret (.bool (lexgt ns ms)))) s) := by
  intro prog w A R s h
  obtain ⟨hp, g, d, tk, os⟩ := s
  obtain ⟨hl, hb, h⟩ := h
  have f3 := AutoSeq1.sub_list_list
  wp_walk using wpAny_loadPart' hl, wpAny_loadPart' hb
  exact ⟨plainId_quiet MeetsSeq3.plain_eq_loop _, codeAny_builtin MeetsSeq3.entry_eq_loop (by
    rw [Around.under_plainId MeetsSeq3.plain_eq_loop _]
    exact gt_loop l b items items2 n n2 dd dd2 sl sl2 ns ms h1 h2 h3 e1 e2 _ 0 rfl prog w A R _ ⟨hl, hb, h⟩)⟩

section
variable {W : Wk} {A : Around} {hid : PMap} {env : Env} {vars : Vars} {mu : Mu} {K K' : Out → Prop}
theorem rc_gt {s : Shared} {g : PMap} {ns ms : List Int} {u v : Value} {Q : Value → Shared → Prop} {E} (hG : ∀ b o, g b = some o → s.heap.get? b = some o) (i : Is g (listI ns) u) (j : Is g (listI ms) v) (hl : ms.length = ns.length) (hu : A.units < cLine) (k : Q (.bool (lexgt ns ms)) s) :
    wpAny W.M A (richCompare .Gt u v) Q E s := by
  cases i with
  | list ei ri =>
    cases j with
    | list ej rj =>
      rename_i a vs n b ws m
      have l1 : vs.size = ns.length := by have := ri.length; simpa using this
      have l2 : ws.size = ns.length := by have := rj.length; simp at this; (first | exact Eq.trans (by assumption) (by assumption) | lia | omega)
      have key : ∀ {xs : List Int} {zs : Array Value}, Iss g (xs.map .int) zs.toList → ∀ j, j < xs.length → ∃ t, zs[j]? = some (.int (xs.getD j 0) t) := fun {xs zs} r j hj => by
        obtain ⟨x, e1, i1⟩ := r.get j (.int (xs.getD j 0)) (by simp [List.getD, List.getElem?_eq_getElem hj])
        cases i1
        exact ⟨_, by rw [Array.getElem?_toList] at e1; exact e1⟩
      exact richCompare_meets_room (op := .Gt) ⟨_, hG _ _ ei, rfl⟩ ⟨_, hG _ _ ej, rfl⟩ F.slot_list_gt F.entry_list_gt (F.args_list_gt_2 _ _) (list_gt a b vs ws n m none none #[] #[] ns ms l1 l2 hl (key ri) (fun j hj => key rj j (hl ▸ hj)))
        ⟨hG _ _ ei, hG _ _ ej, show Value.bool (lexgt ns ms) ≠ Value.notImplemented ∧ Q (.bool (lexgt ns ms)) s from ⟨(fun x => nomatch x), k⟩⟩ hu

theorem max_loopL {I S : Addr} {wr fp : List Addr} {n : Nat} {P : Nat → Value → Prop} {St : Nat → Heap → Prop} {g : PMap} (Wk : Walks W.prog W.w A.in1 I fp wr n P St) (bt : Nat → Nat → Bool) (hSf : S ∉ fp) (hgw : ∀ b o, g b = some o → b ∉ wr ∧ b ≠ S)
    (hcmp : ∀ i j u v (s : Shared) (Q : Value → Shared → Prop) (E : Value → Shared → Prop), P i u → P j v → (∀ b o, g b = some o → s.heap.get? b = some o) → Q (.bool (bt i j)) s → wpAny W.M A.in1 (richCompare .Gt u v) Q E s) {R : Result → Shared → Prop} :
    ∀ (k j : Nat) (s : Shared) (best : Value) (c : Nat), n = j + 1 + k → St (j + 1) s.heap → P (argBest bt j) best → s.heap.get? S = some (lobj #[best, best] c) → (∀ b o, g b = some o → s.heap.get? b = some o) →
      (∀ v h' tk, P (argBest bt (n - 1)) v → (∀ b o, b ∉ wr → b ≠ S → s.heap.get? b = some o → h'.get? b = some o) → R (.ok (.ret v)) { s with heap := h', toks := tk }) →
      codeAny W.M A (.builtin "max.loop" ⟨[.ref I, .none, .ref S], []⟩) R s := by
  have hSw : S ∉ wr := fun z => hSf (Wk.sub _ z)
  have hname : (toString "max" ++ toString ".loop" : String) = "max.loop" := by decide
  intro k
  induction k with
  | zero =>
    intro j s best c hn hst hb hS hG hR
    refine codeAny_builtin F.entry_max_loop ?_
    rw [Around.under_plainId F.plain_max_loop _]
    show wpAny _ A.in1 (seqItems? (.ref S) >>= _) _ _ s
    refine wpAny_bind (wpAny_seqItems hS rfl ?_)
    show wpAny _ A.in1 (tryCatch (pyNext (.ref I)) _ >>= _) _ _ s
    refine wpAny_bind (wpAny_tryCatch (Wk.done s _ _ (hn ▸ hst) fun h' tk hk => ?_))
    show wpAny _ A.in1 (updateSeq S (fun _ => #[]) >>= _) _ _ _
    refine wpAny_bind (wpAny_updateSeq (hk S _ hSw hS) rfl (wpAny_bind (wpAny_letGo (wpAny_pure ?_))))
    exact hR best _ tk (by rw [hn]; exact hb) fun b o hw hbS e => (Heap.get?_update_other _ _ (Ne.symm hbS)).trans (hk b o hw e)
  | succ k ih =>
    intro j s best c hn hst hb hS hG hR
    refine codeAny_builtin F.entry_max_loop ?_
    rw [Around.under_plainId F.plain_max_loop _]
    show wpAny _ A.in1 (seqItems? (.ref S) >>= _) _ _ s
    refine wpAny_bind (wpAny_seqItems hS rfl ?_)
    show wpAny _ A.in1 (tryCatch (pyNext (.ref I)) _ >>= _) _ _ s
    refine wpAny_bind (wpAny_tryCatch (Wk.item (j + 1) s _ _ (by (first | (subst_vars; lia) | lia | omega)) hst fun v h' tk hP hst' hk => ?_))
    have hS' := hk S _ hSw hS
    have hG' : ∀ b o, g b = some o → h'.get? b = some o := fun b o e => hk b o (hgw b o e).1 (hG b o e)
    show wpAny _ A.in1 (tryCatch (holding [v, v] (richCompare .Gt v best >>= _)) _ >>= _) _ _ _
    refine wpAny_bind (wpAny_tryCatch (wpAny_holding (wpAny_bind (hcmp (j + 1) (argBest bt j) v best _ _ _ hP hb hG' ?_))))
    refine wpAny_bind (wpAny_holding (wpAny_truthy_bool ?_))
    refine wpAny_bind (wpAny_letGo (wpAny_pure ?_))
    cases e : bt (j + 1) (argBest bt j) with
    | true =>
      have eb : argBest bt (j + 1) = j + 1 := by simp only [argBest, e, if_true]
      simp only [if_true]
      refine wpAny_bind (wpAny_updateSeq hS' rfl (wpAny_bind (wpAny_letGo ?_)))
      rw [hname]
      refine wpAny_pure ⟨plainId_quiet F.plain_max_loop _, ih (j + 1) _ v _ (by (first | lia | omega)) (Wk.frame _ _ _ hst' fun b hbf o q => ?_) (by rw [eb]; exact hP) (Heap.get?_update_self _ hS' rfl) (fun b o q => ?_) fun v' h'' tk'' hP' hk' => ?_⟩
      · exact (Heap.get?_update_other _ _ (fun z : S = b => hSf (by rw [z]; exact hbf))).trans q
      · exact (Heap.get?_update_other _ _ (Ne.symm (hgw b o q).2)).trans (hG' b o q)
      · exact hR v' h'' tk'' hP' fun b o hw hbS q => hk' b o hw hbS ((Heap.get?_update_other _ _ (Ne.symm hbS)).trans (hk b o hw q))
    | false =>
      have eb : argBest bt (j + 1) = argBest bt j := by simp only [argBest, e, Bool.false_eq_true, if_false]
      simp only [Bool.false_eq_true, if_false]
      refine wpAny_bind (wpAny_letGo ?_)
      rw [hname]
      exact wpAny_pure ⟨plainId_quiet F.plain_max_loop _, ih (j + 1) _ best c (by (first | lia | omega)) hst' (by rw [eb]; exact hb) hS' hG' fun v' h'' tk'' hP' hk' => hR v' h'' tk'' hP' fun b o hw hbS q => hk' b o hw hbS (hk b o hw q)⟩
noncomputable def maxL (ls : List (List Int)) : List Int := ls.getD (argBest (fun i j => lexgt (ls.getD i []) (ls.getD j [])) (ls.length - 1)) []
theorem op_maxL {n L : Nat} {d : PV} {ls : List (List Int)} (ao : AOk W A n) (hl : AsList mu d (ls.map listI)) (hne : 0 < ls.length) (hL : ∀ l ∈ ls, l.length = L) : Op W A hid env vars mu [d] (fun us => call (.builtin "max") us) (listI (maxL ls)) := fun g h t us Q E R i k => by
  cases i with
  | cons i r =>
    cases r
    obtain ⟨a, vs, rfl, q1, q2⟩ := hl.get R i
    have hlen : vs.size = ls.length := by have := q2.length; simpa using this
    have hitem : ∀ j v, vs[j]? = some v → j < ls.length ∧ Is g (listI (ls.getD j [])) v := fun j v hv => by
      have hj : j < vs.size := by
        rcases Nat.lt_or_ge j vs.size with z | z
        · exact z
        · rw [Array.getElem?_eq_none z] at hv; cases hv
      obtain ⟨v', e1, i1⟩ := q2.get j (listI (ls.getD j [])) (by rw [List.getElem?_map, List.getD, List.getElem?_eq_getElem (hlen ▸ hj)]; rfl)
      rw [Array.getElem?_toList, hv] at e1
      cases e1
      exact ⟨hlen ▸ hj, i1⟩
    have hlt : a < h.objs.size := by obtain ⟨_, e, _⟩ := q1; exact Heap.lt_size e
    have hname : (toString "max" ++ toString ".loop" : String) = "max.loop" := by decide
    refine call_function_tree F.kind_max F.plain_max F.entry_max (F.args_max1 _) ?_
    show wpAny _ A.in1 (Builtin.Builtins.bindParams "max" ["key", "default"] 0 ⟨[], []⟩ >>= _) _ _ _
    refine wpAny_bind (wpAny_of_eq (show Builtin.Builtins.bindParams "max" ["key", "default"] 0 ⟨[], []⟩ = pure [none, none] from rfl) ?_)
    refine wpAny_bind (wpAny_pure ?_)
    refine wpAny_bind (wpAny_pyIter_list (s := W.S h t) q1 ?_)
    refine wpAny_bind (wpAny_newObj_type ?_)
    rw [hname]
    -- I the iterator, S the store
    have hS : (((h.push { cls := .type "list_iterator", data := .fields #[.ref a, .int 0 0] }).push { cls := .type "list", data := .seq #[] })).get? (h.push { cls := .type "list_iterator", data := .fields #[.ref a, .int 0 0] }).objs.size = some { cls := .type "list", data := .seq #[] } := Heap.get?_push_size _ rfl
    have hI : (h.push { cls := .type "list_iterator", data := .fields #[.ref a, .int 0 0] }).IsListIter h.objs.size a 0 := ⟨_, Heap.get?_push_size _ rfl, rfl, rfl⟩
    have hlI : (h.push { cls := .type "list_iterator", data := .fields #[.ref a, .int 0 0] }).IsList a vs := q1.push _
    have hsz : (h.push { cls := .type "list_iterator", data := .fields #[.ref a, .int 0 0] }).objs.size = h.objs.size + 1 := by rw [Heap.size_push]
    have hk0 : Kept h ((h.push { cls := .type "list_iterator", data := .fields #[.ref a, .int 0 0] }).push { cls := .type "list", data := .seq #[] }) := fun b o e => Heap.get?_push_of_some _ (Heap.get?_push_of_some _ e)
    generalize (h.push { cls := .type "list_iterator", data := .fields #[.ref a, .int 0 0] }).objs.size = S at *
    have hI2 : ((h.push { cls := .type "list_iterator", data := .fields #[.ref a, .int 0 0] }).push { cls := .type "list", data := .seq #[] }).IsListIter h.objs.size a 0 := hI.at fun o e => Heap.get?_push_of_some _ e
    have hl2 : ((h.push { cls := .type "list_iterator", data := .fields #[.ref a, .int 0 0] }).push { cls := .type "list", data := .seq #[] }).IsList a vs := hlI.push _
    generalize (h.push { cls := .type "list_iterator", data := .fields #[.ref a, .int 0 0] }).push { cls := .type "list", data := .seq #[] } = h2 at *
    have hne' : a ≠ h.objs.size := Nat.ne_of_lt hlt
    have Wk := Walks.list (prog := W.prog) (w := W.w) (A := A.in1) ao.handled h.objs.size a hne' vs
    have hgS : ∀ b o, g b = some o → b ∉ [h.objs.size] ∧ b ≠ S := fun b o e => by
      have hb := Heap.lt_size (R.gs b o e)
      exact ⟨fun hm => Nat.ne_of_lt hb (List.mem_singleton.mp hm), Nat.ne_of_lt (hsz ▸ Nat.lt_succ_of_lt hb)⟩
    have hSf : S ∉ [h.objs.size, a] := fun hm => by
      rw [hsz] at hm
      rcases List.mem_cons.mp hm with z | z
      · exact absurd z (Nat.succ_ne_self _)
      · exact absurd (List.mem_singleton.mp z) (Nat.ne_of_gt (Nat.lt_succ_of_lt hlt))
    refine wpAny_pure ⟨plainId_quiet F.plain_max_loop _, codeAny_builtin F.entry_max_loop ?_⟩
    rw [Around.under_plainId F.plain_max_loop _]
    show wpAny _ A.in1 (seqItems? (.ref S) >>= _) _ _ _
    refine wpAny_bind (wpAny_seqItems hS rfl ?_)
    show wpAny _ A.in1 (tryCatch (pyNext (.ref h.objs.size)) _ >>= _) _ _ _
    refine wpAny_bind (wpAny_tryCatch (Wk.item 0 _ _ _ (by (first | lia | omega)) ⟨hI2, hl2⟩ fun v h3 tk hP hst hk3 => ?_))
    have hS3 := hk3 S _ (fun z => hSf (Wk.sub _ z)) hS
    show wpAny _ A.in1 (updateSeq S (fun _ => #[v, v]) >>= _) _ _ _
    refine wpAny_bind (wpAny_updateSeq hS3 rfl ?_)
    rw [hname]
    refine wpAny_pure ⟨plainId_quiet F.plain_max_loop _, max_loopL (g := g) Wk (fun i j => lexgt (ls.getD i []) (ls.getD j [])) hSf hgS ?_ (vs.size - 1) 0 _ v _ (by (first | lia | omega)) (Wk.frame _ _ _ hst fun b hbf o e => ?_) hP (Heap.get?_update_self _ hS3 rfl) (fun b o e => ?_) fun v' h4 tk4 hP' hk4 => ?_⟩
    · intro i j u v s Q E hu hv hG q
      obtain ⟨hi, iu⟩ := hitem i u hu
      obtain ⟨hj, iv⟩ := hitem j v hv
      refine rc_gt hG iu iv ?_ ?_ q
      · rw [List.getD, List.getElem?_eq_getElem hj, List.getD, List.getElem?_eq_getElem hi]
        exact (hL _ (List.getElem_mem hj)).trans (hL _ (List.getElem_mem hi)).symm
      · have := ao.units; have : A.units + 1 < 9900 := by (first | lia | omega)
        exact this
    · exact (Heap.get?_update_other _ _ (fun z : S = b => hSf (by rw [z]; exact hbf))).trans e
    · exact (Heap.get?_update_other _ _ (Ne.symm (hgS b o e).2)).trans (hk3 b o (hgS b o e).1 (hk0 b o (R.gs b o e)))
    · have hlast : maxL ls = ls.getD (argBest (fun i j => lexgt (ls.getD i []) (ls.getD j [])) (vs.size - 1)) [] := by unfold maxL; rw [hlen]
      obtain ⟨_, iv⟩ := hitem _ _ hP'
      rw [← hlast] at iv
      refine k v' g h4 tk4 (Le.refl g) (R.keeps fun b o e => ?_) iv
      have hb := Heap.lt_size e
      have hbI : b ∉ [h.objs.size] := fun hm => Nat.ne_of_lt hb (List.mem_singleton.mp hm)
      have hbS : b ≠ S := Nat.ne_of_lt (hsz ▸ Nat.lt_succ_of_lt hb)
      exact hk4 b o hbI hbS ((Heap.get?_update_other _ _ (Ne.symm hbS)).trans (hk3 b o hbI (hk0 b o e)))
end
end Mine
end

section
set_option linter.unusedVariables false
namespace Mine

noncomputable def allN : Nat → Nat → List (List Nat)
  | 0, S => [[S]]
  | n + 1, S => (List.range (S + 1)).flatMap fun one => (allN n (S - one)).map fun rest => one :: rest
theorem mem_allN : ∀ {n S : Nat} {b : List Nat}, b ∈ allN n S ↔ b.length = n + 1 ∧ b.sum = S
  | 0, S, b => by
    show b ∈ [[S]] ↔ _
    rw [List.mem_singleton]
    constructor
    · rintro rfl; exact ⟨rfl, by show S + 0 = S; rfl⟩
    · rintro ⟨h1, h2⟩
      match b, h1 with
      | [x], _ => have : x + 0 = S := h2; rw [← this]; rfl
  | n + 1, S, b => by
    show b ∈ (List.range (S + 1)).flatMap _ ↔ _
    rw [List.mem_flatMap]
    constructor
    · rintro ⟨one, h1, h2⟩
      obtain ⟨r, hr, rfl⟩ := List.mem_map.mp h2
      obtain ⟨h3, h4⟩ := mem_allN.mp hr
      have := List.mem_range.mp h1
      exact ⟨by rw [List.length_cons, h3], by rw [List.sum_cons, h4]; (first | lia | omega)⟩
    · rintro ⟨h1, h2⟩
      match b, h1 with
      | x :: r, h1 =>
        rw [List.sum_cons] at h2
        exact ⟨x, List.mem_range.mpr (by (first | (subst_vars; lia) | lia | omega)), List.mem_map.mpr ⟨r, mem_allN.mpr ⟨by simpa using h1, by (first | (subst_vars; lia) | lia | omega)⟩, rfl⟩⟩
theorem nodup_allN : ∀ {n S : Nat}, (allN n S).Nodup
  | 0, S => List.nodup_cons.mpr ⟨List.not_mem_nil, List.nodup_nil⟩
  | n + 1, S => by
    show List.Pairwise _ ((List.range (S + 1)).flatMap _)
    rw [List.pairwise_flatMap]
    refine ⟨fun one _ => ?_, List.nodup_range.imp fun {x y} h p hp q hq e => ?_⟩
    · rw [List.pairwise_map]
      exact nodup_allN.imp fun h e => h (List.cons.inj e).2
    · obtain ⟨r, _, rfl⟩ := List.mem_map.mp hp
      obtain ⟨s, _, rfl⟩ := List.mem_map.mp hq
      exact h (List.cons.inj e).1
theorem allN_len : ∀ {n S : Nat}, (allN n S).length ≤ (S + 1) ^ n
  | 0, S => Nat.le_refl 1
  | n + 1, S => by
    show ((List.range (S + 1)).flatMap _).length ≤ _
    rw [List.length_flatMap]
    have h : ∀ (l : List Nat), ((l.map fun one => ((allN n (S - one)).map fun rest => one :: rest).length)).sum ≤ l.length * (S + 1) ^ n := by
      intro l
      induction l with
      | nil => simp
      | cons x r ih =>
        rw [List.map_cons, List.sum_cons, List.length_cons, Nat.succ_mul, List.length_map]
        have h1 := allN_len (n := n) (S := S - x)
        have h2 : (S - x + 1) ^ n ≤ (S + 1) ^ n := Nat.pow_le_pow_left (by (first | (simp; done) | lia | omega)) n
        (first | lia | omega)
    have := h (List.range (S + 1))
    rw [List.length_range] at this
    rw [Nat.pow_succ, Nat.mul_comm]
    exact this

noncomputable abbrev fn (b : List Nat) : Nat → Nat := fun i => b.getD i 0
theorem tot_take : ∀ (b : List Nat) (k : Nat), k ≤ b.length → tot (fn b) k = ((b.take k).sum : Nat)
  | b, 0, _ => by rw [List.take_zero]; rfl
  | b, k + 1, h => by
    show tot (fn b) k + ((fn b k : Nat) : Int) = _
    rw [tot_take b k (Nat.le_of_succ_le h), List.take_succ_eq_append_getElem h, List.sum_append]
    show _ + ((b.getD k 0 : Nat) : Int) = _
    rw [List.getD, List.getElem?_eq_getElem h]
    simp
theorem tot_fn (b : List Nat) : tot (fn b) b.length = (b.sum : Nat) := by rw [tot_take b b.length (Nat.le_refl _), List.take_length]
theorem fn_range {n : Nat} {a : Nat → Nat} {i : Nat} (h : i < n) : fn ((List.range n).map a) i = a i := by
  show ((List.range n).map a).getD i 0 = a i
  rw [List.getD, List.getElem?_map, List.getElem?_range h]; rfl
theorem tot_range {n : Nat} {a : Nat → Nat} : ((((List.range n).map a).sum : Nat) : Int) = tot a n := by
  have h := tot_fn ((List.range n).map a)
  rw [List.length_map, List.length_range] at h
  rw [← h]
  exact sumF_congr fun i hi => by show ((fn ((List.range n).map a) i : Nat) : Int) = _; rw [fn_range hi]
theorem list_fn {a b : List Nat} (hl : a.length = b.length) (h : ∀ i, i < a.length → fn a i = fn b i) : a = b :=
  List.ext_getElem hl fun i h1 h2 => by
    have := h i h1
    show a[i] = b[i]
    have e1 : fn a i = a[i] := by show a.getD i 0 = _; rw [List.getD, List.getElem?_eq_getElem h1]; rfl
    have e2 : fn b i = b[i] := by show b.getD i 0 = _; rw [List.getD, List.getElem?_eq_getElem h2]; rfl
    rw [← e1, ← e2, this]

noncomputable def stepF (c : List Nat → Int) (st : Option Int × List (List Nat)) (b : List Nat) : Option Int × List (List Nat) :=
  match st.1 with
  | none => (some (c b), [b])
  | some m => if c b < m then (some (c b), [b]) else if c b == m then (some m, st.2 ++ [b]) else st
noncomputable def runF (c : List Nat → Int) (l : List (List Nat)) : Option Int × List (List Nat) := l.foldl (stepF c) (none, [])
theorem runF_snoc {c : List Nat → Int} {l : List (List Nat)} {b : List Nat} : runF c (l ++ [b]) = stepF c (runF c l) b := by
  unfold runF; rw [List.foldl_append]; rfl
noncomputable def FoundOk (c : List Nat → Int) (l : List (List Nat)) (st : Option Int × List (List Nat)) : Prop :=
  (l = [] ∧ st = (none, [])) ∨ ∃ m, st = (some m, l.filter fun b => c b == m) ∧ (∀ b ∈ l, m ≤ c b) ∧ ∃ b ∈ l, c b = m
theorem found_step {c : List Nat → Int} {l : List (List Nat)} {st : Option Int × List (List Nat)} (h : FoundOk c l st) (b : List Nat) : FoundOk c (l ++ [b]) (stepF c st b) := by
  have mem : ∀ {x}, x ∈ l ++ [b] → x ∈ l ∨ x = b := fun h => (List.mem_append.mp h).imp id List.mem_singleton.mp
  have lst : b ∈ l ++ [b] := List.mem_append.mpr (.inr (List.mem_singleton.mpr rfl))
  rcases h with ⟨rfl, rfl⟩ | ⟨m, rfl, h1, h2⟩
  · refine .inr ⟨c b, ?_, fun x hx => ?_, b, lst, rfl⟩
    · show (some (c b), [b]) = (some (c b), [b].filter fun x => c x == c b)
      simp
    · rcases mem hx with h | rfl
      · cases h
      · exact Int.le_refl _
  · show FoundOk c (l ++ [b]) (if c b < m then (some (c b), [b]) else if c b == m then (some m, (l.filter fun b => c b == m) ++ [b]) else (some m, l.filter fun b => c b == m))
    by_cases q : c b < m
    · rw [if_pos q]
      refine .inr ⟨c b, ?_, fun x hx => ?_, b, lst, rfl⟩
      · rw [List.filter_append]
        have : l.filter (fun x => c x == c b) = [] := List.filter_eq_nil_iff.mpr fun x hx => by have := h1 x hx; simp; (first | lia | omega)
        rw [this]; simp
      · rcases mem hx with h | rfl
        · have := h1 x h; (first | lia | omega)
        · exact Int.le_refl _
    · rw [if_neg q]
      have hall : ∀ x ∈ l ++ [b], m ≤ c x := fun x hx => by
        rcases mem hx with h | rfl
        · exact h1 x h
        · (first | lia | omega)
      obtain ⟨y, hy, ey⟩ := h2
      have hex : ∃ x ∈ l ++ [b], c x = m := ⟨y, List.mem_append.mpr (.inl hy), ey⟩
      cases e : (c b == m)
      · rw [if_neg (by decide)]
        exact .inr ⟨m, by rw [List.filter_append]; simp [e], hall, hex⟩
      · rw [if_pos rfl]
        exact .inr ⟨m, by rw [List.filter_append]; simp [e], hall, hex⟩
theorem found_ok {c : List Nat → Int} (l : List (List Nat)) : ∀ k, k ≤ l.length → FoundOk c (l.take k) (runF c (l.take k))
  | 0, _ => by rw [List.take_zero]; exact .inl ⟨rfl, rfl⟩
  | k + 1, h => by
    rw [List.take_succ_eq_append_getElem h, runF_snoc]
    exact found_step (found_ok l k (Nat.le_of_succ_le h)) _

theorem lexgt_total : ∀ {a b : List Int}, a.length = b.length → lexgt b a = false → a ≠ b → lexgt a b = true
  | [], [], _, _, h => absurd rfl h
  | x :: r, y :: s, hl, hf, h => by
    unfold lexgt at hf ⊢
    by_cases e : x = y
    · subst e
      rw [beq_self_eq_true, if_pos rfl] at hf ⊢
      exact lexgt_total (by simpa using hl) hf fun z => h (by rw [z])
    · have e1 : (x == y) = false := beq_eq_false_iff_ne.mpr e
      have e2 : (y == x) = false := beq_eq_false_iff_ne.mpr (Ne.symm e)
      rw [e2, if_neg (by decide)] at hf
      rw [e1, if_neg (by decide)]
      have := of_decide_eq_false hf
      exact decide_eq_true (by (first | lia | omega))
theorem lexgt_at : ∀ {b a : List Int}, a.length = b.length → lexgt b a = true → ∃ k, k < a.length ∧ a.getD k 0 < b.getD k 0 ∧ ∀ i, i < k → b.getD i 0 = a.getD i 0
  | [], _, _, h => by unfold lexgt at h; cases h
  | _ :: _, [], h, _ => by cases h
  | y :: s, x :: r, hl, h => by
    unfold lexgt at h
    by_cases e : y = x
    · subst e
      rw [beq_self_eq_true, if_pos rfl] at h
      obtain ⟨k, h1, h2, h3⟩ := lexgt_at (by simpa using hl) h
      refine ⟨k + 1, by rw [List.length_cons]; (first | exact Nat.lt_succ_of_le (by assumption) | lia | omega), h2, fun i hi => ?_⟩
      cases i with
      | zero => rfl
      | succ i => exact h3 i (by (first | lia | omega))
    · have e1 : (y == x) = false := beq_eq_false_iff_ne.mpr e
      rw [e1, if_neg (by decide)] at h
      have := of_decide_eq_true h
      exact ⟨0, by rw [List.length_cons]; (first | (simp; done) | lia | omega), this, fun i hi => absurd hi (Nat.not_lt_zero i)⟩
open PySem in
theorem best_is {bt : Nat → Nat → Bool} {P : Nat → Prop} {k0 : Nat} (h0 : P k0) (hstay : ∀ i j, P j → bt i j = true → P i) (htake : ∀ i j, P i → ¬ P j → bt i j = true) : ∀ k, k0 ≤ k → P (argBest bt k)
  | 0, h => by have : k0 = 0 := by (first | lia | omega)
               subst this; exact h0
  | k + 1, h => by
    show P (if bt (k + 1) (argBest bt k) then k + 1 else argBest bt k)
    by_cases e : k0 = k + 1
    · subst e
      by_cases q : P (argBest bt k)
      · split
        · exact h0
        · exact q
      · rw [if_pos (htake _ _ h0 q)]; exact h0
    · have ih := best_is h0 hstay htake k (by (first | lia | omega))
      split
      · rename_i z; exact hstay _ _ ih z
      · exact ih
noncomputable abbrev toI (b : List Nat) : List Int := b.map fun (x : Nat) => (x : Int)
theorem toI_inj {a b : List Nat} (h : toI a = toI b) : a = b := (List.map_inj_right (fun (x y : Nat) (e : (x : Int) = (y : Int)) => by (first | lia | omega))).mp h
theorem toI_get {b : List Nat} {i : Nat} : (toI b).getD i 0 = ((fn b i : Nat) : Int) := by
  show ((b.map fun (x : Nat) => (x : Int)).getD i 0) = ((b.getD i 0 : Nat) : Int)
  rw [List.getD, List.getElem?_map, List.getD]
  cases b[i]? <;> rfl
theorem maxL_is {ls : List (List Nat)} {a : List Nat} (ha : a ∈ ls) (hl : ∀ b ∈ ls, b.length = a.length) (hmax : ∀ b ∈ ls, lexgt (toI b) (toI a) = false) : maxL (ls.map toI) = toI a := by
  obtain ⟨k0, hk0, e0⟩ := List.getElem_of_mem ha
  have hlen : (ls.map toI).length = ls.length := List.length_map _
  have hget : ∀ j, j < ls.length → (ls.map toI).getD j [] = toI (ls.getD j []) := fun j hj => by
    rw [List.getD, List.getElem?_map, List.getD, List.getElem?_eq_getElem hj]; rfl
  have hmem : ∀ j, j < ls.length → ls.getD j [] ∈ ls := fun j hj => by
    rw [List.getD, List.getElem?_eq_getElem hj]; exact List.getElem_mem hj
  have key := best_is (bt := fun i j => lexgt ((ls.map toI).getD i []) ((ls.map toI).getD j [])) (P := fun j => (ls.map toI).getD j [] = toI a) (k0 := k0) (by rw [hget k0 hk0, List.getD, List.getElem?_eq_getElem hk0]; exact congrArg toI e0)
    (fun i j hj hb => by
      rw [hj] at hb
      by_cases hi : i < ls.length
      · rw [hget i hi, hmax _ (hmem i hi)] at hb; cases hb
      · rw [List.getD, List.getElem?_eq_none (by (first | lia | omega))] at hb
        unfold lexgt at hb; cases hb)
    (fun i j hi hj => by
      rw [hi]
      by_cases hjl : j < ls.length
      · rw [hget j hjl] at hj ⊢
        exact lexgt_total (by rw [List.length_map, List.length_map, hl _ (hmem j hjl)]) (hmax _ (hmem j hjl)) (Ne.symm hj)
      · rw [List.getD, List.getElem?_eq_none (by (first | lia | omega))] at hj ⊢
        cases h : toI a with
        | nil => rw [h] at hj; exact absurd rfl hj
        | cons x r => rfl)
    (ls.length - 1) (by (first | lia | omega))
  unfold maxL
  rw [hlen]
  exact key
end Mine
end

section
set_option linter.unusedVariables false
namespace Mine

theorem final6 {n S lo : Nat} {f g : Nat → Nat → Int} (M : Mkt (n + 1) S lo f g) {a : List Nat} (hal : a.length = n + 1) (A : Deal (n + 1) S lo (fn a)) (T : Stab (n + 1) lo g (fn a)) {tie : Bool}
    (ht : tie = true ↔ ∃ i j, i < n + 1 ∧ j < n + 1 ∧ i ≠ j ∧ lo < fn a i ∧ g i (fn a i) = g j (fn a j + 1)) {c : List Nat → Int} (hc : ∀ b ∈ allN n S, c b = cst f (fn b) (n + 1)) :
    a ∈ (runF c (allN n S)).2 ∧ (∀ b ∈ (runF c (allN n S)).2, b.length = n + 1) ∧ (tie = false → (runF c (allN n S)).2 = [a]) ∧ (tie = true → (runF c (allN n S)).2.length ≠ 1) ∧
    ((∀ i j, i < n + 1 → j < n + 1 → i ≠ j → lo < fn a i → g i (fn a i) = g j (fn a j + 1) → i < j) → maxL ((runF c (allN n S)).2.map toI) = toI a) := by
  have htot : ∀ b ∈ allN n S, tot (fn b) (n + 1) = (S : Int) := fun b hb => by
    obtain ⟨h1, h2⟩ := mem_allN.mp hb
    rw [← h1, tot_fn, h2]
  have ha : a ∈ allN n S := mem_allN.mpr ⟨hal, by
    have := tot_fn a
    rw [hal, A.tot] at this
    (first | lia | omega)⟩
  have hne : allN n S ≠ [] := fun z => by rw [z] at ha; cases ha
  have hmin : ∀ b ∈ allN n S, c a ≤ c b := fun b hb => by rw [hc a ha, hc b hb]; exact (opt M A T (htot b hb)).1
  have hF := found_ok (c := c) (allN n S) (allN n S).length (Nat.le_refl _)
  rw [List.take_length] at hF
  rcases hF with ⟨z, _⟩ | ⟨m, e, h1, x, hx, ex⟩
  · exact absurd z hne
  rw [e]
  have hm : m = c a := Int.le_antisymm (h1 a ha) (ex ▸ hmin x hx)
  subst hm
  show a ∈ (allN n S).filter (fun b => c b == c a) ∧ (∀ b ∈ (allN n S).filter (fun b => c b == c a), b.length = n + 1) ∧ (tie = false → (allN n S).filter (fun b => c b == c a) = [a]) ∧ (tie = true → ((allN n S).filter (fun b => c b == c a)).length ≠ 1) ∧ (_ → maxL (((allN n S).filter (fun b => c b == c a)).map toI) = toI a)
  have hmem : ∀ {b}, b ∈ (allN n S).filter (fun b => c b == c a) ↔ b ∈ allN n S ∧ c b = c a := fun {b} => by rw [List.mem_filter, beq_iff_eq]
  have hfa := hmem.mpr ⟨ha, rfl⟩
  have hnd : ((allN n S).filter (fun b => c b == c a)).Nodup := List.Pairwise.filter _ nodup_allN
  have hlen : ∀ b ∈ (allN n S).filter (fun b => c b == c a), b.length = n + 1 := fun b hb => (mem_allN.mp (hmem.mp hb).1).1
  refine ⟨hfa, hlen, fun tf => ?_, fun tt h1 => ?_, fun L => ?_⟩
  · have hall : ∀ b ∈ (allN n S).filter (fun b => c b == c a), b = a := fun b hb => by
      obtain ⟨h2, h3⟩ := hmem.mp hb
      rw [hc a ha, hc b h2] at h3
      refine list_fn ((hlen b hb).trans hal.symm) fun i hi => (opt M A T (htot b h2)).2.1 (fun i j hi hj hij hl => ?_) h3 i ((hlen b hb) ▸ hi)
      have hT := T i j hi hj hij hl
      have hne : g i (fn a i) ≠ g j (fn a j + 1) := fun e => by
        have := ht.mpr ⟨i, j, hi, hj, hij, hl, e⟩
        rw [tf] at this; cases this
      (first | lia | omega)
    generalize (allN n S).filter (fun b => c b == c a) = l at *
    match l, hfa, hall, hnd with
    | [x], _, hall, _ => rw [hall x (.head _)]
    | x :: y :: r, _, hall, hnd =>
      have h1 := hall x (.head _)
      have h2 := hall y (.tail _ (.head _))
      have := (List.nodup_cons.mp hnd).1
      exact absurd (by rw [h1, h2]; exact .head _) this
  · obtain ⟨i, j, hi, hj, hij, hl, e⟩ := ht.mp tt
    obtain ⟨q1, q2, q3⟩ := opt_tie M A hi hj hij hl e
    -- the other deal, as a list
    have hb : (List.range (n + 1)).map (mv (fn a) i j) ∈ (allN n S).filter (fun b => c b == c a) := by
      have hin : (List.range (n + 1)).map (mv (fn a) i j) ∈ allN n S := mem_allN.mpr ⟨by rw [List.length_map, List.length_range], by
        have := tot_range (n := n + 1) (a := mv (fn a) i j)
        rw [q1] at this
        exact Int.ofNat_inj.mp this⟩
      refine hmem.mpr ⟨hin, ?_⟩
      rw [hc _ hin, hc a ha, ← q2]
      exact sumF_congr fun x hx => by show f x (fn ((List.range (n + 1)).map (mv (fn a) i j)) x) = _; rw [fn_range hx]
    generalize (allN n S).filter (fun b => c b == c a) = l at *
    match l, h1, hfa, hb with
    | [x], _, hfa, hb =>
      rw [List.mem_singleton] at hfa hb
      have : fn ((List.range (n + 1)).map (mv (fn a) i j)) i = fn a i := by rw [hb, hfa]
      rw [fn_range hi] at this
      exact q3 this
  · refine maxL_is hfa (fun b hb => (hlen b hb).trans hal.symm) fun b hb => ?_
    cases q : lexgt (toI b) (toI a)
    · rfl
    · obtain ⟨h2, h3⟩ := hmem.mp hb
      rw [hc a ha, hc b h2] at h3
      obtain ⟨k, k1, k2, k3⟩ := lexgt_at (by rw [List.length_map, List.length_map, hal, hlen b hb]) q
      rw [List.length_map, hal] at k1
      rw [toI_get, toI_get] at k2
      exact (opt_lex M A T L (htot b h2) h3 k1 (by (first | lia | omega)) fun i hi => by have := k3 i hi; rw [toI_get, toI_get] at this; (first | lia | omega)).elim
end Mine
end

section
open PySem PySem.W PyProof.Rows PySem.Calls PySem.SeqAt
set_option linter.unusedVariables false
set_option maxRecDepth 100000
namespace Mine

noncomputable def has (m : Int) (l : List Int) : Bool := l.any (· == m)
noncomputable def tieStep (S : Nat) (ws : List (List Int)) (m : Int) (r : List Int) (i : Nat) : List Int := if decide (r.sum < (S : Int)) && has m (ws.getD i []) then r.set i (r.getD i 0 + 1) else r
noncomputable def tieFold (S : Nat) (ws : List (List Int)) (m : Int) (r : List Int) (n : Nat) : List Int := (List.range n).foldl (tieStep S ws m) r
noncomputable def tieSeen (S : Nat) (ws : List (List Int)) (m : Int) (r : List Int) (n : Nat) : Bool := (List.range n).any fun i => (tieFold S ws m r i).sum == (S : Int) && has m (ws.getD i [])
theorem tieStep_len {S ws m r i} : (tieStep S ws m r i).length = r.length := by unfold tieStep; split <;> simp
theorem tieFold_succ {S ws m r n} : tieFold S ws m r (n + 1) = tieStep S ws m (tieFold S ws m r n) n := by
  unfold tieFold; rw [List.range_succ, List.foldl_append]; rfl
theorem tieFold_len {S ws m r} : ∀ {n}, (tieFold S ws m r n).length = r.length
  | 0 => rfl
  | n + 1 => by rw [tieFold_succ, tieStep_len, tieFold_len]
theorem tieSeen_succ {S ws m r n} : tieSeen S ws m r (n + 1) = (tieSeen S ws m r n || ((tieFold S ws m r n).sum == (S : Int) && has m (ws.getD n []))) := by
  unfold tieSeen; rw [List.range_succ, List.any_append]; simp
theorem tieFold_full {S : Nat} {ws m r} (h : ¬ r.sum < (S : Int)) : ∀ {n}, tieFold S ws m r n = r
  | 0 => rfl
  | n + 1 => by rw [tieFold_succ, tieFold_full h]; unfold tieStep; simp [h]

section
variable {W : Wk} {A : Around} {hid : PMap} {env : Env} {vars : Vars} {mu : Mu} {K : Out → Prop}

theorem tr_and2 {a b : Expr} {pos x y} (ha : Tr W A hid env vars mu a x) (hb : x = true → Tr W A hid env vars mu b y) : Tr W A hid env vars mu (.BoolOp .And [a, b] pos) (x && y) := by
  cases x
  · exact tr_bool (.stop ha rfl)
  · have := hb rfl
    cases y
    · exact tr_bool (.more ha rfl (.stop this rfl))
    · exact tr_bool (.more ha rfl (.more this rfl .nil))
theorem tr_or2 {a b : Expr} {pos x y} (ha : Tr W A hid env vars mu a x) (hb : x = false → Tr W A hid env vars mu b y) : Tr W A hid env vars mu (.BoolOp .Or [a, b] pos) (x || y) := by
  cases x
  · have := hb rfl
    cases y
    · exact tr_bool (.more ha rfl (.more this rfl .nil))
    · exact tr_bool (.more ha rfl (.stop this rfl))
  · exact tr_bool (.stop ha rfl)
theorem tr_name_bool {x : Str} {p b} (h : vars.lookup x = some (.bool b)) (hk : env.scope.kind = .function) (hf : ∀ v : Sem Value, isTrue (.Name x p) env v = (do let x ← v; standAt p; holding [x] (truthy x))) : Tr W A hid env vars mu (.Name x p) b :=
  tr_of (ev_name h hk) (show b = b from rfl) hf

noncomputable abbrev vE (votes : List Int) (S : Nat) (ta b : Bool) (D : Addr) (ws : List (List Int)) (m : Int) : Vars := [("ties", .bool b), ("representatives", .loc D), ("minweight", .int m), ("weights", .list (ws.map listI)), ("votes", listI votes), ("seats", .int S), ("tiesallowed", .bool ta)]

end
end Mine
end

section
open PySem PySem.W PyProof.Rows PySem.Calls PySem.SeqAt
set_option linter.unusedVariables false
set_option maxRecDepth 100000
namespace Mine

noncomputable def cutOf (r0 fl : List Int) (S : Nat) : Int := fl.getD (idx (-(S : Int) + r0.sum) fl.length) 0
theorem cut_at {r0 fl : List Int} {S T : Nat} (hT : (T : Int) = S - r0.sum) (h1 : r0.sum < (S : Int)) : cutOf r0 fl S = fl.getD (fl.length - T) 0 := by
  unfold cutOf idx
  rw [if_neg (by omega)]
  congr 1
  (first | lia | omega)
noncomputable def divW (r : Rule) (votes : List Int) (S : Nat) : List (List Int) := wsOf r (common (divs r S)) (divs r S) votes
noncomputable def divM (r : Rule) (votes : List Int) (S : Nat) : Int := cutOf (base r votes) (sortI (divW r votes S).flatten) S
noncomputable def divR1 (r : Rule) (votes : List Int) (S : Nat) : List Int := if (S : Int) > (base r votes).sum then r1Of (base r votes) (divW r votes S) (divM r votes S) votes.length else base r votes
noncomputable def divF (r : Rule) (votes : List Int) (S : Nat) : List Int := tieFold S (divW r votes S) (divM r votes S) (divR1 r votes S) votes.length
noncomputable def divTie (r : Rule) (votes : List Int) (S : Nat) : Bool := decide ((S : Int) > (base r votes).sum) && tieSeen S (divW r votes S) (divM r votes S) (divR1 r votes S) votes.length

theorem base_len (r : Rule) (v : List Int) : (base r v).length = v.length := by cases r <;> simp [base]
theorem sum_map_bound (v : List Int) (f : Int → Int) (h : ∀ p, 0 ≤ f p ∧ f p ≤ 1) : 0 ≤ (v.map f).sum ∧ (v.map f).sum ≤ v.length := by
  induction v with
  | nil => exact ⟨Int.le_refl _, Int.le_refl _⟩
  | cons p r ih =>
    have := h p
    rw [List.map_cons, List.sum_cons, List.length_cons]
    (first | (simp only [Int.natCast_add, Int.natCast_one] at *; lia) | lia | omega)
theorem base_sum (r : Rule) (v : List Int) : 0 ≤ (base r v).sum ∧ (base r v).sum ≤ v.length := by
  cases r <;> exact sum_map_bound v _ (fun p => by first | (constructor <;> decide) | (split <;> decide))
theorem flat_len (r : Rule) (c : Int) (ds : List (Int × Int)) (votes : List Int) : (wsOf r c ds votes).flatten.length = votes.length * ds.length := by
  unfold wsOf
  induction votes with
  | nil => simp
  | cons p q ih => rw [List.map_cons, List.flatten_cons, List.length_append, ih, List.length_map, List.length_cons, Nat.succ_mul]; (first | lia | omega)
theorem sortI_len (l : List Int) : (sortI l).length = l.length := (sortI_perm l).length_eq

structure DivPre (r : Rule) (votes : List Int) (S B : Nat) (nm : Str) : Prop where
  hS : S ≤ 60
  hn : 1 ≤ votes.length
  hv : votes.length ≤ 100
  free : ∀ q : Rule, q = .hill ∨ q = .adams ∨ q = .dean → r = q → votes.length ≤ S
  name : RuleName r nm
  size : votes.length * S < 64
  hB : ∀ p ∈ votes, p.natAbs < 2 ^ B
  hB2 : B ≤ 10 ^ 7

section
variable {W : Wk} {A : Around} {hid : PMap} {env : Env} {vars : Vars} {mu : Mu} {K : Out → Prop}

noncomputable abbrev vT (votes : List Int) (S : Nat) (nm : Str) (ta : Bool) (D : Addr) (r : Rule) : Vars := [("representatives", .loc D), ("minweight", .int (divM r votes S)), ("weights", .list ((divW r votes S).map listI)), ("votes", listI votes), ("seats", .int S), ("tiesallowed", .bool ta)]
noncomputable abbrev vT0 (votes : List Int) (S : Nat) (ta : Bool) (D : Addr) : Vars := [("representatives", .loc D), ("votes", listI votes), ("seats", .int S), ("tiesallowed", .bool ta)]

theorem div_deal {a L : Addr} {dV kV doc pm an cdv ct} {votes : List Int} {S B : Nat} {nm : Str} {ta : Bool} {r : Rule} (N : Names W) (ao : AOk W A 0) (P : DivPre r votes S B nm)
    (hs : ∀ x, (scopeOf p1 "divisor").names.lookup x = some .local ∨ (scopeOf p1 "divisor").names.lookup x = some .cell → Sto hid (dEnv p1 a L dV kV doc pm an cdv ct) x) {rest : List Stmt} {K}
    (kt : (S : Int) > (base r votes).sum → ∀ D, Exs W A hid (dEnv p1 a L dV kV doc pm an cdv ct) (vT votes S nm ta D r) [(D, (divR1 r votes S).map .int)] rest K)
    (ke : ¬ (S : Int) > (base r votes).sum → ∀ D, Exs W A hid (dEnv p1 a L dV kV doc pm an cdv ct) (vT0 votes S ta D) [(D, (divR1 r votes S).map .int)] rest K) :
    Exs W A hid (dEnv p1 a L dV kV doc pm an cdv ct) [("votes", listI votes), ("seats", .int S), ("method", .str nm), ("tiesallowed", .bool ta)] [] ((bodyOf p1 "divisor").take 3 ++ rest) K := by
  have E : EnvOk (dEnv p1 a L dV kV doc pm an cdv ct) := ⟨rfl, rfl, rfl⟩
  have hv := P.hv
  have hn := P.hn
  have hbl := base_len r votes
  have hbs := base_sum r votes
  show Exs _ _ _ _ _ _ ((bodyOf p1 "divisor").getD 0 (.Pass default) :: (bodyOf p1 "divisor").getD 1 (.Pass default) :: (bodyOf p1 "divisor").getD 2 (.Pass default) :: rest) K
  refine exs_own (ds := (votes.map fun _ => (0 : Int)).map .int) (ex_own ?_ (hs _ (.inr rfl)) rfl rfl rfl) (fun D => ?_)
  · have e : (votes.map fun _ => (0 : Int)).map PV.int = List.replicate (((votes.map PV.int).length : Nat) : Int).toNat (.int 0) := by
      rw [List.map_map, Int.toNat_natCast, List.length_map]
      exact List.map_const' ..
    rw [e]
    exact evnew_rep (evargs_cons ev_int evargs_nil rfl) (ev_len N E (ev_name rfl rfl) AsList.list (by rw [List.length_map]; (first | lia | omega)) rfl rfl) (by (first | exact Int.natCast_nonneg _ | lia | omega)) (by rw [List.length_map]; (first | lia | omega))
  refine exs_cons (div_part1 N ao P.hS hn hv P.free P.name hs) ?_ (fun o ⟨D', v, m, e, _⟩ hn => absurd e (hn _ _))
  rintro v m ⟨D', v', m', e, hsub, hmu⟩
  cases e
  refine run_forget hsub hmu ?_
  by_cases hgt : (S : Int) > (base r votes).sum
  · have hS1 : 1 ≤ S := by (first | lia | omega)
    have hdl := divs_len r S hS1
    have hdo := divsOk r S P.hS
    have hco := common_ok hdo
    have hfl : (divW r votes S).flatten.length = votes.length * S := by unfold divW; rw [flat_len, hdl]
    have hsl := sortI_len (divW r votes S).flatten
    have hwl : (divW r votes S).length = votes.length := by unfold divW wsOf; rw [List.length_map]
    have hin : ∀ l ∈ divW r votes S, l.length ≤ S := by
      intro l hl
      unfold divW wsOf at hl
      obtain ⟨p, _, rfl⟩ := List.mem_map.mp hl
      rw [List.length_map, hdl]; exact Nat.le_refl _
    have hsz := P.size
    have hle : S ≤ votes.length * S := Nat.le_mul_of_pos_left _ hn
    refine exs_cons (K' := fun o => ∃ D v m, o = .next v m ∧ Sub (vT votes S nm ta D r) v ∧ [(D, (divR1 r votes S).map .int)].Sublist m) (ex_if (x := decide ((S : Int) > (base r votes).sum)) (tr_cmp (ev_name rfl rfl) (ev_sum N E ao.handled (ev_name rfl rfl) (.inr ⟨D', rfl, .head _⟩) rfl rfl) rfl c_gt) (fun _ => ?_) (fun e => absurd hgt (of_decide_eq_false e))) ?_ (fun o ⟨D', v, m, e, _⟩ hn => absurd e (hn _ _))
    · refine exs_next (ex_assign ev_int (hs _ (.inr rfl)) rfl rfl rfl) ?_
      refine exs_next (div_common N ao hdo (by rw [hdl]; exact P.hS) hs) ?_
      refine exs_next (div_weights N ao hdo (by rw [hdl]; exact P.hS) P.name hv P.hB P.hB2 (Nat.lt_of_lt_of_le hco.2 (Nat.pow_le_pow_right (by decide) (by rw [hdl]; have := P.hS; (first | lia | omega)))) hs) ?_
      refine exs_next (div_flat (ws := divW r votes S) (M := S) N ao hin (by rw [hwl]; (first | lia | omega)) (by rw [hfl]; exact hsz) hs) ?_
      refine exs_next (div_min N ao (by rw [hsl, hfl]; (first | lia | omega)) (by (first | lia | omega)) (by rw [hsl, hfl]; exact hsz) hs) ?_
      refine exs_own (div_reps N ao hv hbl hwl (fun l hl => by have := hin l hl; have := P.hS; (first | lia | omega)) hs) (fun D2 => exs_nil ⟨D2, _, _, rfl, by walk_at "sub", ?_⟩)
      have e : divR1 r votes S = r1Of (base r votes) (divW r votes S) (divM r votes S) votes.length := if_pos hgt
      rw [e]
      exact List.Sublist.cons_cons _ (List.nil_sublist _)
    · rintro v m ⟨D2, v2, m2, e, hsub2, hmu2⟩
      cases e
      exact run_forget hsub2 hmu2 (kt hgt D2)
  · refine exs_next (ex_if (x := decide ((S : Int) > (base r votes).sum)) (tr_cmp (ev_name rfl rfl) (ev_sum N E ao.handled (ev_name rfl rfl) (.inr ⟨D', rfl, .head _⟩) rfl rfl) rfl c_gt) (fun e => absurd (of_decide_eq_true e) hgt) (fun _ => exs_nil rfl)) ?_
    have e : divR1 r votes S = base r votes := if_neg hgt
    have := ke hgt D'
    rw [e] at this
    exact run_forget (by walk_at "sub") (List.Sublist.refl _) this

end
end Mine
end

section
set_option linter.unusedVariables false
namespace Mine

noncomputable def cntP (p : Int → Bool) (l : List Int) : Nat := (l.filter p).length
theorem cntP_append (p) (a b : List Int) : cntP p (a ++ b) = cntP p a + cntP p b := by unfold cntP; rw [List.filter_append, List.length_append]
theorem cntP_perm {p} {a b : List Int} (h : a.Perm b) : cntP p a = cntP p b := (h.filter p).length_eq
theorem cntP_zero {p} {a : List Int} (h : ∀ x ∈ a, p x = false) : cntP p a = 0 := by
  unfold cntP
  rw [List.filter_eq_nil_iff.mpr (fun x hx => by simp [h x hx])]; rfl
theorem cntP_all {p} {a : List Int} (h : ∀ x ∈ a, p x = true) : cntP p a = a.length := by
  unfold cntP; rw [List.filter_eq_self.mpr h]
theorem cntP_le {p} {a : List Int} : cntP p a ≤ a.length := List.length_filter_le _ _
theorem cntP_cons {p} {x} {a : List Int} : cntP p (x :: a) = (if p x then 1 else 0) + cntP p a := by
  unfold cntP; rw [List.filter_cons]; split <;> simp <;> (first | lia | omega)
noncomputable def sumN : List Nat → Nat
  | [] => 0
  | x :: r => x + sumN r
theorem cntP_flatten (p) (ws : List (List Int)) : cntP p ws.flatten = sumN (ws.map (cntP p)) := by
  induction ws with
  | nil => rfl
  | cons l r ih => rw [List.flatten_cons, cntP_append, ih, List.map_cons]; rfl

theorem cut_counts {fl : List Int} (hs : fl.Pairwise (· ≤ ·)) {T : Nat} (h1 : 1 ≤ T) (h2 : T ≤ fl.length) :
    cntP (fun w => decide (w > fl.getD (fl.length - T) 0)) fl < T ∧ T ≤ cntP (fun w => decide (w ≥ fl.getD (fl.length - T) 0)) fl := by
  have hp : fl.length - T < fl.length := by omega
  generalize hm : fl.getD (fl.length - T) 0 = m
  have hm' : fl[fl.length - T] = m := by rw [← hm, List.getD, List.getElem?_eq_getElem hp]; rfl
  have e : fl = fl.take (fl.length - T) ++ (m :: fl.drop (fl.length - T + 1)) := by
    rw [← hm', ← List.drop_eq_getElem_cons hp, List.take_append_drop]
  have hl : (fl.drop (fl.length - T + 1)).length = T - 1 := by rw [List.length_drop, Nat.sub_add_eq, Nat.sub_sub_self h2]
  generalize hA : fl.take (fl.length - T) = A at e
  generalize hB : fl.drop (fl.length - T + 1) = B at e hl
  rw [e] at hs
  obtain ⟨_, hB2, hAB⟩ := List.pairwise_append.mp hs
  have hB3 := List.pairwise_cons.mp hB2
  constructor
  · rw [e, cntP_append, cntP_zero (a := A) (fun x hx => by have := hAB x hx m List.mem_cons_self; simp; omega), cntP_cons]
    have := cntP_le (p := fun w => decide (w > m)) (a := B)
    rw [if_neg (by simp)]; (first | lia | omega)
  · rw [e, cntP_append, cntP_all (a := m :: B) (fun x hx => by
      rcases List.mem_cons.mp hx with rfl | hx
      · simp
      · have := hB3.1 x hx; simp; omega), List.length_cons]
    (first | lia | omega)

noncomputable abbrev FallM (m : Int) (l : List Int) : Prop := l.Pairwise fun x y => y < x ∨ (y ≤ x ∧ x < m)
theorem fall_count {l : List Int} {m : Int} (hs : FallM m l) : ∀ k (hk : k < l.length), (l[k] > m ↔ k < cntP (fun w => decide (w > m)) l) := by
  induction l with
  | nil => intro k hk; simp at hk
  | cons x r ih =>
    obtain ⟨h1, h2⟩ := List.pairwise_cons.mp hs
    intro k hk
    rw [cntP_cons]
    by_cases hx : x > m
    · cases k with
      | zero => simp [hx]; (first | lia | omega)
      | succ k => have := ih h2 k (by simpa using hk); simp only [List.getElem_cons_succ]; rw [this]; simp [hx]; (first | lia | omega)
    · have h0 : cntP (fun w => decide (w > m)) r = 0 := cntP_zero (fun y hy => by have := h1 y hy; simp; (first | lia | omega))
      rw [h0]
      cases k with
      | zero => simp [hx]
      | succ k =>
        have : r[k]'(by simpa using hk) ∈ r := List.getElem_mem _
        have := h1 _ this
        simp only [List.getElem_cons_succ]
        simp [hx]; (first | lia | omega)
theorem fall_ge {l : List Int} {m : Int} (hs : FallM m l) : cntP (fun w => decide (w ≥ m)) l = cntP (fun w => decide (w > m)) l + (if has m l then 1 else 0) := by
  induction l with
  | nil => rfl
  | cons x r ih =>
    obtain ⟨h1, h2⟩ := List.pairwise_cons.mp hs
    rw [cntP_cons, cntP_cons, ih h2]
    have hh : has m (x :: r) = ((x == m) || has m r) := rfl
    rw [hh]
    by_cases e : x = m
    · subst e
      have : has x r = false := by
        unfold has; rw [List.any_eq_false]; intro y hy; have := h1 y hy; simp; (first | lia | omega)
      rw [this]; simp; (first | lia | omega)
    · have e2 : (x == m) = false := by simpa using e
      rw [e2]
      by_cases hx : x > m
      · have : x ≥ m := by (first | exact Int.le_of_lt (by assumption) | lia | omega)
        simp [hx, this]; (first | lia | omega)
      · have : ¬ x ≥ m := by (first | lia | omega)
        simp [hx, this]
theorem has_at {l : List Int} {m : Int} (hs : FallM m l) (h : has m l = true) : ∃ hk : cntP (fun w => decide (w > m)) l < l.length, l[cntP (fun w => decide (w > m)) l] = m := by
  unfold has at h
  obtain ⟨y, hy, e⟩ := List.any_eq_true.mp h
  have e : y = m := by simpa using e
  subst e
  obtain ⟨k, hk, hky⟩ := List.mem_iff_getElem.mp hy
  have h1 := fall_count hs
  have hng : ¬ l[k] > y := by (first | (subst_vars; lia) | lia | omega)
  have hle : cntP (fun w => decide (w > y)) l ≤ k := by
    rcases Nat.lt_or_ge k (cntP (fun w => decide (w > y)) l) with q | q
    · exact absurd ((h1 k hk).mpr q) hng
    · exact q
  refine ⟨by (first | exact Nat.lt_of_le_of_lt (by assumption) (by assumption) | lia | omega), ?_⟩
  rcases Nat.lt_or_ge (cntP (fun w => decide (w > y)) l) k with q | q
  · have := List.pairwise_iff_getElem.mp hs _ k (by (first | exact Nat.lt_of_le_of_lt (by assumption) (by assumption) | lia | omega)) hk q
    have h3 := (h1 _ (by (first | exact Nat.lt_of_le_of_lt (by assumption) (by assumption) | lia | omega) : cntP (fun w => decide (w > y)) l < l.length)).mp (by (first | (subst_vars; omega) | lia | omega))
    (first | lia | omega)
  · have e : cntP (fun w => decide (w > y)) l = k := by (first | lia | omega)
    have : l[cntP (fun w => decide (w > y)) l]'(by (first | exact Nat.lt_of_le_of_lt (by assumption) (by assumption) | lia | omega)) = l[k] := by congr
    rw [this, hky]

theorem sum_set : ∀ (l : List Int) (i : Nat) (h : i < l.length), (l.set i (l.getD i 0 + 1)).sum = l.sum + 1
  | [], i, h => by simp at h
  | x :: r, 0, _ => by simp [List.getD]; (first | lia | omega)
  | x :: r, i + 1, h => by
    have := sum_set r i (by simpa using h)
    rw [List.set_cons_succ, List.sum_cons, List.sum_cons]
    have e : (x :: r).getD (i + 1) 0 = r.getD i 0 := by simp [List.getD]
    rw [e, this]; (first | lia | omega)
noncomputable def hasTo (m : Int) (ws : List (List Int)) : Nat → Nat
  | 0 => 0
  | i + 1 => hasTo m ws i + (if has m (ws.getD i []) then 1 else 0)
theorem hasTo_succ {m ws i} : hasTo m ws (i + 1) = hasTo m ws i + (if has m (ws.getD i []) then 1 else 0) := rfl
theorem hasTo_mono {m ws} : ∀ {i j : Nat}, i ≤ j → hasTo m ws i ≤ hasTo m ws j
  | i, 0, h => by have : i = 0 := by (first | lia | omega)
                  subst this; exact Nat.le_refl _
  | i, j + 1, h => by
    by_cases e : i = j + 1
    · subst e; exact Nat.le_refl _
    · have := hasTo_mono (m := m) (ws := ws) (show i ≤ j by (first | lia | omega))
      rw [hasTo_succ]; (first | lia | omega)
theorem getD_set {l : List Int} {i j : Nat} {x : Int} (h : i < l.length) : (l.set i x).getD j 0 = if j = i then x else l.getD j 0 := by
  simp only [List.getD, List.getElem?_set]
  by_cases e : i = j
  · subst e; simp [h]
  · rw [if_neg e, if_neg (fun q => e q.symm)]
theorem tieFold_spec {S : Nat} {ws : List (List Int)} {m : Int} {r : List Int} (hr : r.sum ≤ (S : Int)) : ∀ {i : Nat}, i ≤ r.length → (tieFold S ws m r i).sum = min (S : Int) (r.sum + hasTo m ws i) ∧
    ∀ j, (tieFold S ws m r i).getD j 0 = r.getD j 0 + (if j < i ∧ has m (ws.getD j []) = true ∧ r.sum + hasTo m ws j < (S : Int) then 1 else 0) := by
  intro i
  induction i with
  | zero => intro _; exact ⟨by show r.sum = min (S : Int) (r.sum + ((0 : Nat) : Int)); (first | lia | omega), fun j => by show r.getD j 0 = _; simp⟩
  | succ i ih =>
    intro hi
    obtain ⟨h1, h2⟩ := ih (by (first | exact Nat.le_of_lt (by assumption) | lia | omega))
    have hlen : (tieFold S ws m r i).length = r.length := tieFold_len
    rw [tieFold_succ]
    unfold tieStep
    by_cases hc : (tieFold S ws m r i).sum < (S : Int) ∧ has m (ws.getD i []) = true
    · rw [if_pos (by rw [hc.2]; simp [hc.1])]
      constructor
      · rw [sum_set _ _ (by (first | lia | omega)), h1]
        rw [hasTo_succ, if_pos hc.2]
        have := hc.1
        (first | (simp only [Int.natCast_add, Int.natCast_one] at *; lia) | lia | omega)
      · intro j
        rw [getD_set (by (first | lia | omega))]
        by_cases e : j = i
        · subst e
          have := hc.1
          rw [if_pos rfl, h2 j, if_neg (by (first | (simp; done) | lia | omega)), if_pos ⟨by (first | exact Nat.le_refl _ | lia | omega), hc.2, by (first | lia | omega)⟩]
          (first | (simp; done) | lia | omega)
        · rw [if_neg e, h2 j]
          have : (j < i + 1) ↔ (j < i) := by (first | lia | omega)
          simp only [this]
    · rw [if_neg (by simpa using hc)]
      constructor
      · rw [hasTo_succ]
        by_cases hh : has m (ws.getD i []) = true
        · rw [if_pos hh]; have : ¬ (tieFold S ws m r i).sum < (S : Int) := fun q => hc ⟨q, hh⟩
          (first | (simp only [Int.natCast_add, Int.natCast_one] at *; lia) | lia | omega)
        · rw [if_neg hh]; exact h1
      · intro j
        rw [h2 j]
        by_cases e : j = i
        · subst e
          rw [if_neg (by (first | (simp; done) | lia | omega)), if_neg]
          rintro ⟨_, q1, q2⟩
          exact hc ⟨by (first | lia | omega), q1⟩
        · have : (j < i + 1) ↔ (j < i) := by (first | lia | omega)
          simp only [this]

theorem sum_deal (m : Int) : ∀ (n : Nat) (r0 : List Int) (ws : List (List Int)), r0.length = n → ws.length = n → (r1Of r0 ws m n).sum = r0.sum + (sumN (ws.map (cntP fun w => decide (w > m))) : Nat)
  | 0, r0, ws, h1, h2 => by
    have : r0 = [] := List.length_eq_zero_iff.mp h1
    subst this
    have : ws = [] := List.length_eq_zero_iff.mp h2
    subst this
    rfl
  | n + 1, [], _, h1, _ => by simp at h1
  | n + 1, _ :: _, [], _, h2 => by simp at h2
  | n + 1, x :: r, l :: ws, h1, h2 => by
    have ih := sum_deal m n r ws (by simpa using h1) (by simpa using h2)
    unfold r1Of at ih ⊢
    rw [List.range_succ_eq_map, List.map_cons, List.map_map, List.sum_cons]
    have e : ((fun i => (x :: r).getD i 0 + topI m ((l :: ws).getD i [])) ∘ Nat.succ) = fun i => r.getD i 0 + topI m (ws.getD i []) := by
      funext i; simp [List.getD]
    rw [e, ih, List.sum_cons, List.map_cons]
    show x + topI m l + _ = x + r.sum + ((cntP (fun w => decide (w > m)) l + sumN (ws.map (cntP fun w => decide (w > m))) : Nat) : Int)
    unfold topI cntP
    (first | (simp only [Int.natCast_add, Int.natCast_one] at *; lia) | lia | omega)
theorem hasTo_cons (m : Int) (l : List Int) (ws : List (List Int)) : ∀ i, hasTo m (l :: ws) (i + 1) = (if has m l then 1 else 0) + hasTo m ws i
  | 0 => by rw [hasTo_succ]; show 0 + _ = _ + 0; simp [List.getD]
  | i + 1 => by
    rw [hasTo_succ, hasTo_cons m l ws i, hasTo_succ]
    have : (l :: ws).getD (i + 1) [] = ws.getD i [] := by simp [List.getD]
    rw [this]; (first | lia | omega)
theorem ge_counts (m : Int) : ∀ (ws : List (List Int)), (∀ l ∈ ws, FallM m l) → sumN (ws.map (cntP fun w => decide (w ≥ m))) = sumN (ws.map (cntP fun w => decide (w > m))) + hasTo m ws ws.length
  | [], _ => rfl
  | l :: ws, h => by
    have ih := ge_counts m ws (fun k hk => h k (List.mem_cons_of_mem _ hk))
    have h1 := fall_ge (h l List.mem_cons_self)
    rw [List.length_cons, hasTo_cons, List.map_cons, List.map_cons]
    show _ + _ = _ + _ + _
    rw [h1, ih]
    (first | lia | omega)

structure Dealt (ws : List (List Int)) (r0 : List Int) (S : Nat) (m : Int) (a : List Int) : Prop where
  len : a.length = r0.length
  sum : a.sum = (S : Int)
  part : ∀ j, j < r0.length → ∃ x : Nat, a.getD j 0 = r0.getD j 0 + x ∧ (x = cntP (fun w => decide (w > m)) (ws.getD j []) ∨ (x = cntP (fun w => decide (w > m)) (ws.getD j []) + 1 ∧ has m (ws.getD j []) = true))
  order : ∀ i j, i < r0.length → j < r0.length → a.getD i 0 = r0.getD i 0 + cntP (fun w => decide (w > m)) (ws.getD i []) + 1 → a.getD j 0 = r0.getD j 0 + cntP (fun w => decide (w > m)) (ws.getD j []) → has m (ws.getD j []) = true → i < j
  some : ∃ i, i < r0.length ∧ a.getD i 0 = r0.getD i 0 + cntP (fun w => decide (w > m)) (ws.getD i []) + 1

theorem deal_ok {ws : List (List Int)} {r0 : List Int} {S : Nat} (hl : ws.length = r0.length) (hf : ∀ l ∈ ws, FallM (cutOf r0 (sortI ws.flatten) S) l) (h1 : r0.sum < (S : Int)) (h2 : (S : Int) - r0.sum ≤ ws.flatten.length) :
    Dealt ws r0 S (cutOf r0 (sortI ws.flatten) S) (tieFold S ws (cutOf r0 (sortI ws.flatten) S) (r1Of r0 ws (cutOf r0 (sortI ws.flatten) S) r0.length) r0.length) ∧
    (tieSeen S ws (cutOf r0 (sortI ws.flatten) S) (r1Of r0 ws (cutOf r0 (sortI ws.flatten) S) r0.length) r0.length = true ↔ ∃ j, j < r0.length ∧ has (cutOf r0 (sortI ws.flatten) S) (ws.getD j []) = true ∧
      (tieFold S ws (cutOf r0 (sortI ws.flatten) S) (r1Of r0 ws (cutOf r0 (sortI ws.flatten) S) r0.length) r0.length).getD j 0 = r0.getD j 0 + cntP (fun w => decide (w > cutOf r0 (sortI ws.flatten) S)) (ws.getD j [])) := by
  obtain ⟨T, hT⟩ : ∃ T : Nat, (T : Int) = S - r0.sum := ⟨((S : Int) - r0.sum).toNat, by (first | lia | omega)⟩
  have hsl := sortI_len ws.flatten
  have hcut : cutOf r0 (sortI ws.flatten) S = (sortI ws.flatten).getD ((sortI ws.flatten).length - T) 0 := cut_at hT h1
  have hc := cut_counts (sortI_sorted ws.flatten) (T := T) (by (first | lia | omega)) (by (first | lia | omega))
  rw [← hcut] at hc
  rw [cntP_perm (sortI_perm _), cntP_perm (sortI_perm _), cntP_flatten, cntP_flatten, ge_counts _ _ hf] at hc
  generalize cutOf r0 (sortI ws.flatten) S = m at *
  have hs1 := sum_deal m r0.length r0 ws rfl hl
  have hl1 : (r1Of r0 ws m r0.length).length = r0.length := by unfold r1Of; simp
  have hg : ∀ j, j < r0.length → (r1Of r0 ws m r0.length).getD j 0 = r0.getD j 0 + cntP (fun w => decide (w > m)) (ws.getD j []) := by
    intro j hj
    unfold r1Of
    simp only [List.getD, List.getElem?_map, List.getElem?_range hj]
    rfl
  rw [hl] at hc
  generalize hG : sumN (ws.map (cntP fun w => decide (w > m))) = G at *
  generalize hr1 : r1Of r0 ws m r0.length = r1 at *
  have key : ∀ {i : Nat}, i ≤ r1.length → _ := fun {i} => tieFold_spec (S := S) (ws := ws) (m := m) (r := r1) (by (first | lia | omega)) (i := i)
  have kn := key (i := r0.length) (by (first | lia | omega))
  refine ⟨⟨by rw [tieFold_len, hl1], by rw [kn.1]; (first | lia | omega), fun j hj => ?_, fun i j hi hj e1 e2 hh => ?_, ?_⟩, ?_⟩
  · rw [kn.2 j, hg j hj]
    split
    · rename_i q; exact ⟨_, by (first | (simp only [Int.natCast_add, Int.natCast_one] at *; lia) | lia | omega), .inr ⟨rfl, q.2.1⟩⟩
    · exact ⟨_, by (first | (simp; done) | lia | omega), .inl rfl⟩
  · rw [kn.2 i, hg i hi] at e1
    rw [kn.2 j, hg j hj] at e2
    have q1 : i < r0.length ∧ has m (ws.getD i []) = true ∧ r1.sum + hasTo m ws i < (S : Int) := by
      by_cases q : i < r0.length ∧ has m (ws.getD i []) = true ∧ r1.sum + hasTo m ws i < (S : Int)
      · exact q
      · rw [if_neg q] at e1; (first | lia | omega)
    have q2 : ¬ (j < r0.length ∧ has m (ws.getD j []) = true ∧ r1.sum + hasTo m ws j < (S : Int)) := by
      intro q; rw [if_pos q] at e2; (first | lia | omega)
    rcases Nat.lt_or_ge i j with q | q
    · exact q
    · have := hasTo_mono (m := m) (ws := ws) q
      exact absurd ⟨hj, hh, by (first | lia | omega)⟩ q2
  · -- the first that has m is served
    have ex : ∀ n, 0 < hasTo m ws n → ∃ i, i < n ∧ has m (ws.getD i []) = true ∧ hasTo m ws i = 0 := by
      intro n
      induction n with
      | zero => intro h; exact absurd h (Nat.lt_irrefl 0)
      | succ n ih =>
        intro h
        by_cases q : 0 < hasTo m ws n
        · obtain ⟨i, h1, h2⟩ := ih q; exact ⟨i, by (first | exact Nat.lt_succ_of_lt (by assumption) | lia | omega), h2⟩
        · rw [hasTo_succ] at h
          refine ⟨n, by (first | exact Nat.le_refl _ | lia | omega), ?_, by (first | lia | omega)⟩
          by_cases qq : has m (ws.getD n []) = true
          · exact qq
          · rw [if_neg qq] at h; (first | lia | omega)
    obtain ⟨i, i1, i2, i3⟩ := ex r0.length (by (first | lia | omega))
    refine ⟨i, i1, ?_⟩
    rw [kn.2 i, hg i i1, if_pos ⟨i1, i2, by (first | lia | omega)⟩]
  · unfold tieSeen
    rw [List.any_eq_true]
    constructor
    · rintro ⟨j, hj, q⟩
      have hj := List.mem_range.mp hj
      simp only [Bool.and_eq_true, beq_iff_eq] at q
      refine ⟨j, hj, q.2, ?_⟩
      rw [kn.2 j, hg j hj, if_neg]
      · (first | (simp; done) | lia | omega)
      · rintro ⟨_, _, z⟩
        have := (key (i := j) (by (first | lia | omega))).1
        (first | lia | omega)
    · rintro ⟨j, hj, q1, q2⟩
      refine ⟨j, List.mem_range.mpr hj, ?_⟩
      simp only [Bool.and_eq_true, beq_iff_eq]
      refine ⟨?_, q1⟩
      rw [(key (i := j) (by (first | lia | omega))).1]
      rw [kn.2 j, hg j hj] at q2
      by_cases q : r1.sum + hasTo m ws j < (S : Int)
      · rw [if_pos ⟨hj, q1, q⟩] at q2; (first | lia | omega)
      · (first | lia | omega)
end Mine
end

section
set_option linter.unusedVariables false
namespace Mine

theorem getD_lt {l : List Int} {k : Nat} (h : k < l.length) : l.getD k 0 = l[k] := by rw [List.getD, List.getElem?_eq_getElem h]; rfl
theorem getD_ltL {l : List (List Int)} {k : Nat} (h : k < l.length) : l.getD k [] = l[k] := by rw [List.getD, List.getElem?_eq_getElem h]; rfl

theorem dealt_stable {ws : List (List Int)} {r0 : List Int} {S : Nat} {m : Int} {a : List Int} (D : Dealt ws r0 S m a) (hl : ws.length = r0.length) (hf : ∀ l ∈ ws, FallM m l) {i j x y : Nat} (hi : i < r0.length) (hj : j < r0.length)
    (ai : a.getD i 0 = r0.getD i 0 + (x : Nat) + 1) (aj : a.getD j 0 = r0.getD j 0 + (y : Nat)) (hy : y < (ws.getD j []).length) :
    (ws.getD i []).getD x 0 > (ws.getD j []).getD y 0 ∨ ((ws.getD i []).getD x 0 = (ws.getD j []).getD y 0 ∧ i < j ∧ has m (ws.getD j []) = true ∧ a.getD j 0 = r0.getD j 0 + cntP (fun w => decide (w > m)) (ws.getD j [])) := by
  have fi : FallM m (ws.getD i []) := by rw [getD_ltL (by (first | lia | omega))]; exact hf _ (List.getElem_mem _)
  have fj : FallM m (ws.getD j []) := by rw [getD_ltL (by (first | lia | omega))]; exact hf _ (List.getElem_mem _)
  obtain ⟨x', e1, hx⟩ := D.part i hi
  obtain ⟨y', e2, hy'⟩ := D.part j hj
  have ex : x' = x + 1 := by (first | lia | omega)
  have ey : y' = y := by (first | lia | omega)
  subst ex; subst ey
  have ci := fall_count fi
  have cj := fall_count fj
  have li := cntP_le (p := fun w => decide (w > m)) (a := ws.getD i [])
  have oi := D.order i j hi hj
  generalize ws.getD i [] = wi at *
  generalize ws.getD j [] = wj at *
  rw [getD_lt hy]
  rcases hx with hx | ⟨hx, hxh⟩
  · have hxl : x < wi.length := by (first | lia | omega)
    rw [getD_lt hxl]
    have h1 := (ci x hxl).mpr (by (first | lia | omega))
    rcases hy' with hy2 | ⟨hy2, hyh⟩
    · have h2 : ¬ wj[y'] > m := fun q => by have := (cj y' hy).mp q; (first | (subst_vars; lia) | lia | omega)
      exact .inl (by (first | lia | omega))
    · have h2 : ¬ wj[y'] > m := fun q => by have := (cj y' hy).mp q; (first | (subst_vars; lia) | lia | omega)
      exact .inl (by (first | lia | omega))
  · obtain ⟨hk, hkm⟩ := has_at fi hxh
    have e : x = cntP (fun w => decide (w > m)) wi := by (first | lia | omega)
    have h1 : wi.getD x 0 = m := by rw [e, getD_lt hk, hkm]
    rw [h1]
    rcases hy' with hy2 | ⟨hy2, hyh⟩
    · have h2 : ¬ wj[y'] > m := fun q => by have := (cj y' hy).mp q; (first | lia | omega)
      by_cases q : wj[y'] = m
      · have hh : has m wj = true := by
          unfold has; rw [List.any_eq_true]; exact ⟨_, List.getElem_mem hy, by simpa using q⟩
        exact .inr ⟨q.symm, oi (by (first | lia | omega)) (by (first | (subst_vars; omega) | lia | omega)) hh, hh, by (first | (subst_vars; omega) | lia | omega)⟩
      · exact .inl (by (first | lia | omega))
    · obtain ⟨hk2, hkm2⟩ := has_at fj hyh
      have := List.pairwise_iff_getElem.mp fj _ y' hk2 hy (by (first | lia | omega))
      exact .inl (by (first | lia | omega))
theorem dealt_tie {ws : List (List Int)} {r0 : List Int} {S : Nat} {m : Int} {a : List Int} (D : Dealt ws r0 S m a) (hl : ws.length = r0.length) (hf : ∀ l ∈ ws, FallM m l) :
    (∃ j, j < r0.length ∧ has m (ws.getD j []) = true ∧ a.getD j 0 = r0.getD j 0 + cntP (fun w => decide (w > m)) (ws.getD j [])) ↔
    ∃ i j x y : Nat, i < r0.length ∧ j < r0.length ∧ a.getD i 0 = r0.getD i 0 + (x : Nat) + 1 ∧ a.getD j 0 = r0.getD j 0 + (y : Nat) ∧ y < (ws.getD j []).length ∧ (ws.getD i []).getD x 0 = (ws.getD j []).getD y 0 := by
  constructor
  · rintro ⟨j, hj, hh, aj⟩
    obtain ⟨i, hi, ai⟩ := D.some
    have fi : FallM m (ws.getD i []) := by rw [getD_ltL (by (first | lia | omega))]; exact hf _ (List.getElem_mem _)
    have fj : FallM m (ws.getD j []) := by rw [getD_ltL (by (first | lia | omega))]; exact hf _ (List.getElem_mem _)
    obtain ⟨hk, hkm⟩ := has_at fj hh
    refine ⟨i, j, cntP (fun w => decide (w > m)) (ws.getD i []), cntP (fun w => decide (w > m)) (ws.getD j []), hi, hj, ai, aj, hk, ?_⟩
    have hhi : has m (ws.getD i []) = true := by
      obtain ⟨x', e1, hx⟩ := D.part i hi
      rcases hx with hx | ⟨_, hx⟩
      · (first | (subst_vars; lia) | lia | omega)
      · exact hx
    obtain ⟨hk2, hkm2⟩ := has_at fi hhi
    rw [getD_lt hk, hkm, getD_lt hk2, hkm2]
  · rintro ⟨i, j, x, y, hi, hj, ai, aj, hy, e⟩
    rcases dealt_stable D hl hf hi hj ai aj hy with q | ⟨_, _, q1, q2⟩
    · (first | lia | omega)
    · exact ⟨j, hj, q1, q2⟩

noncomputable def pw (r : Rule) (p : Int) : Int := if isHill r then p * p else p
theorem pw_pos {r p} (h : 0 < p) : 0 < pw r p := by unfold pw; split; exact Int.mul_pos h h; exact h
theorem wt_eq {r c p d} : wt r c p d = (pw r p * d.2 * c).fdiv d.1 := by unfold wt pw; split <;> rfl
theorem common_dvd {ds : List (Int × Int)} {d} (h : d ∈ ds) : ∃ e, common ds = d.1 * e := by
  have key : ∀ (ds : List (Int × Int)) (c : Int), ∃ e, ds.foldl (fun c d => c * d.1) c = c * e := by
    intro ds
    induction ds with
    | nil => intro c; exact ⟨1, by simp⟩
    | cons x r ih => intro c; obtain ⟨e, he⟩ := ih (c * x.1); exact ⟨x.1 * e, by rw [List.foldl_cons, he, Int.mul_assoc]⟩
  have key2 : ∀ (ds : List (Int × Int)) (c : Int), d ∈ ds → ∃ e, ds.foldl (fun c d => c * d.1) c = d.1 * e := by
    intro ds
    induction ds with
    | nil => intro c h; cases h
    | cons x r ih =>
      intro c h
      rcases List.mem_cons.mp h with rfl | h
      · obtain ⟨e, he⟩ := key r (c * d.1); exact ⟨c * e, by rw [List.foldl_cons, he, Int.mul_comm c, Int.mul_assoc]⟩
      · exact ih _ h
  exact key2 ds 1 h
theorem wt_mul {ds : List (Int × Int)} (hd : DivsOk ds) {r p d} (h : d ∈ ds) : wt r (common ds) p d * d.1 = pw r p * d.2 * common ds := by
  obtain ⟨e, he⟩ := common_dvd h
  have h0 := (hd d h).1
  rw [wt_eq, he]
  have : pw r p * d.2 * (d.1 * e) = d.1 * (pw r p * d.2 * e) := by
    rw [← Int.mul_assoc, Int.mul_comm (pw r p * d.2) d.1, Int.mul_assoc]
  rw [this, Int.mul_fdiv_cancel_left _ (by (first | lia | omega)), Int.mul_comm]
theorem wt_lt {ds : List (Int × Int)} (hd : DivsOk ds) {r p q d e} (h : d ∈ ds) (k : e ∈ ds) : wt r (common ds) p d > wt r (common ds) q e ↔ pw r p * d.2 * e.1 > pw r q * e.2 * d.1 := by
  have h1 := wt_mul hd (r := r) (p := p) h
  have h2 := wt_mul hd (r := r) (p := q) k
  have hc := (common_ok hd).1
  have d0 := (hd d h).1
  have e0 := (hd e k).1
  generalize wt r (common ds) p d = x at *
  generalize wt r (common ds) q e = y at *
  generalize common ds = c at *
  generalize hP : pw r p * d.2 = P at *
  generalize hQ : pw r q * e.2 = Q at *
  have f1 : x * (d.1 * e.1) = P * e.1 * c := by rw [← Int.mul_assoc, h1, Int.mul_assoc, Int.mul_comm c, ← Int.mul_assoc]
  have f2 : y * (d.1 * e.1) = Q * d.1 * c := by rw [Int.mul_comm d.1, ← Int.mul_assoc, h2, Int.mul_assoc, Int.mul_comm c, ← Int.mul_assoc]
  have hde := Int.mul_pos d0 e0
  constructor
  · intro g
    have : y * (d.1 * e.1) < x * (d.1 * e.1) := Int.mul_lt_mul_of_pos_right g hde
    rw [f1, f2] at this
    exact Int.lt_of_mul_lt_mul_right this (Int.le_of_lt hc)
  · intro g
    have : Q * d.1 * c < P * e.1 * c := Int.mul_lt_mul_of_pos_right g hc
    rw [← f1, ← f2] at this
    exact Int.lt_of_mul_lt_mul_right this (Int.le_of_lt hde)
theorem eq_of_gts {x y a b : Int} (h1 : x > y ↔ a > b) (h2 : y > x ↔ b > a) : x = y ↔ a = b :=
  ⟨fun e => Int.le_antisymm (Int.not_lt.mp fun z => Int.ne_of_lt (h1.mpr z) e.symm) (Int.not_lt.mp fun z => Int.ne_of_lt (h2.mpr z) e),
   fun e => Int.le_antisymm (Int.not_lt.mp fun z => Int.ne_of_lt (h1.mp z) e.symm) (Int.not_lt.mp fun z => Int.ne_of_lt (h2.mp z) e)⟩
theorem wt_eqv {ds : List (Int × Int)} (hd : DivsOk ds) {r p q d e} (h : d ∈ ds) (k : e ∈ ds) : wt r (common ds) p d = wt r (common ds) q e ↔ pw r p * d.2 * e.1 = pw r q * e.2 * d.1 := by
  exact eq_of_gts (wt_lt hd (r := r) (p := p) (q := q) h k) (wt_lt hd (r := r) (p := q) (q := p) k h)

theorem dv_fall : ∀ r : Rule, ∀ l, l < 20 → ∀ k, k < l → (dv r k).2 * (dv r l).1 > (dv r l).2 * (dv r k).1 := by
  intro r; cases r <;> decide +kernel

noncomputable def free : Rule → Nat
  | .jeff => 0
  | .web => 0
  | .modi => 0
  | _ => 1
theorem base_get {r : Rule} {v : List Int} (hp : ∀ p ∈ v, 0 < p) {i : Nat} (hi : i < v.length) : (base r v).getD i 0 = (free r : Int) := by
  have h1 := hp _ (List.getElem_mem hi)
  cases r <;> simp [base, free, List.getD, List.getElem?_eq_getElem hi] <;> omega
theorem wsOf_get {r c ds v} {i : Nat} (hi : i < v.length) : (wsOf r c ds v).getD i [] = ds.map (wt r c (v.getD i 0)) := by
  unfold wsOf
  rw [List.getD, List.getElem?_map, List.getElem?_eq_getElem hi, getD_lt hi]; rfl
theorem sum_two : ∀ (l : List Int), (∀ x ∈ l, 0 ≤ x) → ∀ i j, i < j → j < l.length → l.getD i 0 + l.getD j 0 ≤ l.sum
  | [], _, i, j, _, h => by simp at h
  | x :: r, h, 0, j + 1, _, hj => by
    have one : ∀ (l : List Int), (∀ x ∈ l, 0 ≤ x) → 0 ≤ l.sum ∧ ∀ j, j < l.length → l.getD j 0 ≤ l.sum := by
      intro l
      induction l with
      | nil => intro _; exact ⟨Int.le_refl _, fun j hj => by simp at hj⟩
      | cons y q ih =>
        intro hq
        have := ih (fun z hz => hq z (List.mem_cons_of_mem _ hz))
        have hy := hq y List.mem_cons_self
        rw [List.sum_cons]
        refine ⟨by (first | lia | omega), fun j hj => ?_⟩
        cases j with
        | zero => show y ≤ _; (first | lia | omega)
        | succ j => have := this.2 j (by simpa using hj); show q.getD j 0 ≤ _; (first | lia | omega)
    have := (one r (fun z hz => h z (List.mem_cons_of_mem _ hz))).2 j (by simpa using hj)
    rw [List.sum_cons]
    show x + r.getD j 0 ≤ _
    (first | lia | omega)
  | x :: r, h, i + 1, j + 1, hij, hj => by
    have := sum_two r (fun z hz => h z (List.mem_cons_of_mem _ hz)) i j (by (first | lia | omega)) (by simpa using hj)
    have hx := h x List.mem_cons_self
    rw [List.sum_cons]
    show r.getD i 0 + r.getD j 0 ≤ _
    (first | lia | omega)

structure Apport (r : Rule) (v : List Int) (S : Nat) (a : List Int) : Prop where
  len : a.length = v.length
  sum : a.sum = (S : Int)
  ge : ∀ i, i < v.length → (free r : Int) ≤ a.getD i 0
  stab : ∀ i j x y : Nat, i < v.length → j < v.length → i ≠ j → a.getD i 0 = (free r + x + 1 : Nat) → a.getD j 0 = (free r + y : Nat) →
    pw r (v.getD i 0) * (dv r x).2 * (dv r y).1 > pw r (v.getD j 0) * (dv r y).2 * (dv r x).1 ∨ (pw r (v.getD i 0) * (dv r x).2 * (dv r y).1 = pw r (v.getD j 0) * (dv r y).2 * (dv r x).1 ∧ i < j)
noncomputable def TieAt (r : Rule) (v a : List Int) : Prop := ∃ i j x y : Nat, i < v.length ∧ j < v.length ∧ i ≠ j ∧ a.getD i 0 = (free r + x + 1 : Nat) ∧ a.getD j 0 = (free r + y : Nat) ∧
  pw r (v.getD i 0) * (dv r x).2 * (dv r y).1 = pw r (v.getD j 0) * (dv r y).2 * (dv r x).1

theorem cntP_mem {p : Int → Bool} {l : List Int} : ∀ {ws : List (List Int)}, l ∈ ws → cntP p l ≤ cntP p ws.flatten
  | w :: ws, h => by
    rw [List.flatten_cons, cntP_append]
    rcases List.mem_cons.mp h with rfl | h
    · exact Nat.le_add_right _ _
    · exact Nat.le_trans (cntP_mem h) (Nat.le_add_left _ _)
theorem div_setup {r : Rule} {v : List Int} {S : Nat} (hp : ∀ p ∈ v, 0 ≤ p) (hpe : ∃ p ∈ v, 0 < p) (hS : S ≤ 20) (hgt : (S : Int) > (base r v).sum) :
    0 < divM r v S ∧ (divW r v S).length = (base r v).length ∧ (∀ l ∈ divW r v S, FallM (divM r v S) l) ∧ Dealt (divW r v S) (base r v) S (divM r v S) (divF r v S) ∧
    (divTie r v S = true ↔ ∃ j, j < (base r v).length ∧ has (divM r v S) ((divW r v S).getD j []) = true ∧ (divF r v S).getD j 0 = (base r v).getD j 0 + cntP (fun w => decide (w > divM r v S)) ((divW r v S).getD j [])) ∧
    (∀ i, i < v.length → ((divW r v S).getD i []).length = S) ∧
    ∀ i j k l, i < v.length → j < v.length → k < S → l < S → (((divW r v S).getD i []).getD k 0 > ((divW r v S).getD j []).getD l 0 ↔ pw r (v.getD i 0) * (dv r k).2 * (dv r l).1 > pw r (v.getD j 0) * (dv r l).2 * (dv r k).1) ∧
      (((divW r v S).getD i []).getD k 0 = ((divW r v S).getD j []).getD l 0 ↔ pw r (v.getD i 0) * (dv r k).2 * (dv r l).1 = pw r (v.getD j 0) * (dv r l).2 * (dv r k).1) := by
  have hbl := base_len r v
  have hb0 := (base_sum r v).1
  have hn : 1 ≤ v.length := by obtain ⟨p, hm, _⟩ := hpe; exact List.length_pos_of_mem hm
  have hS1 : 1 ≤ S := by clear hp hpe hn hS hbl; (first | lia | omega)
  have hdo := divsOk r S (Nat.le_trans hS (by decide))
  have hdl := divs_len r S hS1
  have hwl : (divW r v S).length = (base r v).length := by unfold divW wsOf; rw [List.length_map, hbl]
  have hfl : (divW r v S).flatten.length = v.length * S := by unfold divW; rw [flat_len, hdl]
  have hge : ∀ k (hk : k < S), (divs r S)[k]'(Nat.lt_of_lt_of_eq hk hdl.symm) = dv r k := by
    intro k hk
    have : (divs r S)[k]? = some (dv r k) := by rw [divs_eq r hS1, List.getElem?_map, List.getElem?_range hk]; rfl
    rw [List.getElem?_eq_getElem (Nat.lt_of_lt_of_eq hk hdl.symm)] at this; exact Option.some.inj this
  have hmem : ∀ k, k < S → dv r k ∈ divs r S := fun k hk => by rw [← hge k hk]; exact List.getElem_mem _
  have hle : S ≤ v.length * S := Nat.le_mul_of_pos_left _ hn
  have hm0 : 0 < divM r v S := by
    obtain ⟨T, hT⟩ : ∃ T : Nat, (T : Int) = S - (base r v).sum := ⟨((S : Int) - (base r v).sum).toNat, by (first | lia | omega)⟩
    have hsl := sortI_len (divW r v S).flatten
    have hcut : divM r v S = (sortI (divW r v S).flatten).getD ((sortI (divW r v S).flatten).length - T) 0 := by
      exact cut_at hT (by omega)
    have hc := (cut_counts (sortI_sorted (divW r v S).flatten) (T := T) (by (first | lia | omega)) (by (first | lia | omega))).1
    rw [← hcut, cntP_perm (sortI_perm _)] at hc
    obtain ⟨p, hpm, hp0⟩ := hpe
    have hin : (divs r S).map (wt r (common (divs r S)) p) ∈ divW r v S := List.mem_map.mpr ⟨p, hpm, rfl⟩
    have hge2 := cntP_mem (p := fun w => decide (w > divM r v S)) hin
    rcases Int.lt_or_le 0 (divM r v S) with q | q
    · exact q
    · have hall : cntP (fun w => decide (w > divM r v S)) ((divs r S).map (wt r (common (divs r S)) p)) = S := by
        rw [cntP_all, List.length_map, hdl]
        intro x hx
        obtain ⟨d, hd, rfl⟩ := List.mem_map.mp hx
        have h1 := wt_mul hdo (r := r) (p := p) hd
        have h2 := Int.mul_pos (Int.mul_pos (pw_pos (r := r) hp0) (hdo d hd).2.2.1) (common_ok hdo).1
        rw [← h1] at h2
        have h3 := Int.pos_of_mul_pos_left h2 (hdo d hd).1
        exact decide_eq_true (Int.lt_of_le_of_lt q h3)
      (first | lia | omega)
  have hfall : ∀ l ∈ divW r v S, FallM (divM r v S) l := by
    intro l hl
    unfold divW wsOf at hl
    obtain ⟨p, hpv, rfl⟩ := List.mem_map.mp hl
    refine List.pairwise_iff_getElem.mpr ?_
    intro k l hk hl hkl
    rw [List.length_map, hdl] at hk hl
    rw [List.getElem_map, List.getElem_map, hge k hk, hge l hl]
    rcases Int.lt_or_eq_of_le (hp p hpv) with hp0 | hp0
    · refine .inl ((wt_lt hdo (hmem k hk) (hmem l hl)).mpr ?_)
      have := dv_fall r l (Nat.lt_of_lt_of_le hl hS) k hkl
      rw [Int.mul_assoc, Int.mul_assoc]
      exact Int.mul_lt_mul_of_pos_left this (pw_pos hp0)
    · rw [← hp0]
      have z : ∀ d : Int × Int, wt r (common (divs r S)) 0 d = 0 := fun d => by unfold wt; split <;> simp
      rw [z, z]
      exact .inr ⟨Int.le_refl _, hm0⟩
  have h := deal_ok (ws := divW r v S) (r0 := base r v) (S := S) hwl hfall hgt (by rw [hfl]; generalize v.length * S = z at hle; clear hfl hfall hmem hge hwl hbl hdl hn; (first | lia | omega))
  have e1 : divR1 r v S = r1Of (base r v) (divW r v S) (divM r v S) (base r v).length := by rw [hbl]; exact if_pos hgt
  have e2 : divF r v S = tieFold S (divW r v S) (divM r v S) (r1Of (base r v) (divW r v S) (divM r v S) (base r v).length) (base r v).length := by unfold divF; rw [e1, hbl]
  have e3 : divTie r v S = tieSeen S (divW r v S) (divM r v S) (r1Of (base r v) (divW r v S) (divM r v S) (base r v).length) (base r v).length := by unfold divTie; rw [e1, hbl, decide_eq_true hgt, Bool.true_and]
  have e4 : divM r v S = cutOf (base r v) (sortI (divW r v S).flatten) S := rfl
  rw [← e4, ← e2, ← e3] at h
  have hw : ∀ {i k}, i < v.length → k < S → ((divW r v S).getD i []).getD k 0 = wt r (common (divs r S)) (v.getD i 0) (dv r k) := by
    intro i k hi hk
    unfold divW
    rw [wsOf_get hi, List.getD, List.getElem?_map, List.getElem?_eq_getElem (Nat.lt_of_lt_of_eq hk hdl.symm), hge k hk]; rfl
  refine ⟨hm0, hwl, hfall, h.1, h.2, fun i hi => by unfold divW; rw [wsOf_get hi, List.length_map, hdl], fun i j k l hi hj hk hl => ?_⟩
  rw [hw hi hk, hw hj hl]
  exact ⟨wt_lt hdo (hmem k hk) (hmem l hl), wt_eqv hdo (hmem k hk) (hmem l hl)⟩
theorem base_total {r : Rule} {v : List Int} (hp : ∀ p ∈ v, 0 < p) : (base r v).sum = ((free r * v.length : Nat) : Int) := by
  have one : ∀ (f : Int → Int) (c : Nat), (∀ p : Int, 0 < p → f p = (c : Int)) → (v.map f).sum = ((c * v.length : Nat) : Int) := by
    intro f c hf
    induction v with
    | nil => rfl
    | cons p q ih =>
      have h1 := ih (fun z hz => hp z (List.mem_cons_of_mem _ hz))
      have h2 := hf p (hp p List.mem_cons_self)
      rw [List.map_cons, List.sum_cons, h1, h2, List.length_cons, Nat.mul_succ, Int.natCast_add, Int.add_comm]
  cases r
  · exact one _ 0 (fun p hp => rfl)
  · exact one _ 0 (fun p hp => rfl)
  · exact one _ 0 (fun p hp => rfl)
  · exact one _ 1 (fun p hp => if_pos hp)
  · exact one _ 1 (fun p hp => if_pos hp)
  · exact one _ 1 (fun p hp => if_pos hp)
theorem two_le {l : List Int} {f S : Nat} (hs : l.sum = (S : Int)) (ge : ∀ i, i < l.length → (f : Int) ≤ l.getD i 0) {i j : Nat} (hi : i < l.length) (hj : j < l.length) (hne : i ≠ j) : l.getD i 0 + l.getD j 0 ≤ (S : Int) := by
  have nn : ∀ x ∈ l, 0 ≤ x := fun x hx => by
    obtain ⟨i, hi, rfl⟩ := List.mem_iff_getElem.mp hx
    have := ge i hi
    rw [getD_lt hi] at this; exact Int.le_trans (Int.natCast_nonneg f) this
  rw [← hs]
  rcases Nat.lt_or_ge i j with q | q
  · exact sum_two _ nn i j q hj
  · have := sum_two _ nn j i (Nat.lt_of_le_of_ne q (Ne.symm hne)) hi
    rw [Int.add_comm]; exact this
theorem seat_lt {f x y S : Nat} {a b : Int} (h : a + b ≤ (S : Int)) (ha : a = ((f + x + 1 : Nat) : Int)) (hb : b = ((f + y : Nat) : Int)) : x < S ∧ y < S := by (first | (subst_vars; lia) | lia | omega)

theorem divF_ok {r : Rule} {v : List Int} {S : Nat} (hp : ∀ p ∈ v, 0 < p) (hn : 1 ≤ v.length) (hS : S ≤ 20) (hfree : free r * v.length ≤ S) : Apport r v S (divF r v S) := by
  have hbl := base_len r v
  have hbg : ∀ {i}, i < v.length → (base r v).getD i 0 = (free r : Int) := fun hi => base_get hp hi
  have hbs := base_total (r := r) hp
  by_cases hgt : (S : Int) > (base r v).sum
  · obtain ⟨_, hwl, hfall, D, _, hwlen, hcmp⟩ := div_setup (fun p h => Int.le_of_lt (hp p h)) ⟨_, List.getElem_mem (show 0 < v.length from hn), hp _ (List.getElem_mem _)⟩ hS hgt
    have hlen : (divF r v S).length = v.length := D.len.trans hbl
    have ge : ∀ i, i < v.length → (free r : Int) ≤ (divF r v S).getD i 0 := fun i hi => by
      obtain ⟨x, e, _⟩ := D.part i (hbl ▸ hi)
      rw [e, hbg hi]; exact Int.le_add_of_nonneg_right (Int.natCast_nonneg x)
    refine ⟨hlen, D.sum, ge, fun i j x y hi hj hne ai aj => ?_⟩
    have ht := two_le D.sum (fun i hi => ge i (hlen ▸ hi)) (hlen ▸ hi) (hlen ▸ hj) hne
    obtain ⟨hx, hy⟩ := seat_lt ht ai aj
    have := dealt_stable D hwl hfall (i := i) (j := j) (x := x) (y := y) (hbl ▸ hi) (hbl ▸ hj) (by rw [hbg hi, ai]; rfl) (by rw [hbg hj, aj]; rfl) (by rw [hwlen j hj]; exact hy)
    rw [(hcmp i j x y hi hj hx hy).1, (hcmp i j x y hi hj hx hy).2] at this
    rcases this with q | ⟨q1, q2, _⟩
    · exact .inl q
    · exact .inr ⟨q1, q2⟩
  · have e2 : divF r v S = base r v := by
      unfold divF
      rw [show divR1 r v S = base r v from if_neg hgt, tieFold_full (fun q => hgt q)]
    have hsum : (base r v).sum = (S : Int) := by
      rw [hbs] at hgt ⊢
      exact Int.le_antisymm (Int.ofNat_le.mpr hfree) (Int.not_lt.mp hgt)
    rw [e2]
    exact ⟨hbl, hsum, fun i hi => by rw [hbg hi]; exact Int.le_refl _, fun i j x y hi hj hne ai aj => by
      rw [hbg hi] at ai
      have := Int.ofNat_inj.mp ai
      (first | (simp only [Int.natCast_add, Int.natCast_one] at *; lia) | lia | omega)⟩
theorem divF_tie {r : Rule} {v : List Int} {S : Nat} (hp : ∀ p ∈ v, 0 < p) (hn : 1 ≤ v.length) (hS : S ≤ 20) (hfree : free r * v.length ≤ S) : divTie r v S = true ↔ TieAt r v (divF r v S) := by
  have hbl := base_len r v
  have hbg : ∀ {i}, i < v.length → (base r v).getD i 0 = (free r : Int) := fun hi => base_get hp hi
  by_cases hgt : (S : Int) > (base r v).sum
  · obtain ⟨_, hwl, hfall, D, hT, hwlen, hcmp⟩ := div_setup (fun p h => Int.le_of_lt (hp p h)) ⟨_, List.getElem_mem (show 0 < v.length from hn), hp _ (List.getElem_mem _)⟩ hS hgt
    have AP := divF_ok hp hn hS hfree
    have hlen := AP.len
    rw [hT, dealt_tie D hwl hfall]
    constructor
    · rintro ⟨i, j, x, y, hi, hj, ai, aj, hy, e⟩
      have hi' : i < v.length := hbl ▸ hi
      have hj' : j < v.length := hbl ▸ hj
      rw [hwlen j hj'] at hy
      rw [hbg hi'] at ai
      rw [hbg hj'] at aj
      have hne : i ≠ j := by
        rintro rfl
        have exy : y = x + 1 := by (first | lia | omega)
        subst exy
        have e := (hcmp i i x (x + 1) hi' hi' (Nat.lt_of_succ_lt hy) hy).2.mp e
        have f := dv_fall r (x + 1) (Nat.lt_of_lt_of_le hy hS) x (Nat.lt_succ_self x)
        have pp := pw_pos (r := r) (hp _ (List.getElem_mem hi'))
        rw [← getD_lt hi'] at pp
        have f2 := Int.mul_lt_mul_of_pos_left f pp
        rw [← Int.mul_assoc, ← Int.mul_assoc, e] at f2
        exact Int.lt_irrefl _ f2
      have ht := two_le AP.sum (fun i hi => AP.ge i (hlen ▸ hi)) (hlen ▸ hi') (hlen ▸ hj') hne
      obtain ⟨hx, _⟩ := seat_lt (f := free r) (x := x) (y := y) ht (by rw [ai]; rfl) (by rw [aj]; rfl)
      exact ⟨i, j, x, y, hi', hj', hne, by rw [ai]; rfl, by rw [aj]; rfl, (hcmp i j x y hi' hj' hx hy).2.mp e⟩
    · rintro ⟨i, j, x, y, hi, hj, hne, ai, aj, e⟩
      have ht := two_le AP.sum (fun i hi => AP.ge i (hlen ▸ hi)) (hlen ▸ hi) (hlen ▸ hj) hne
      obtain ⟨hx, hy⟩ := seat_lt ht ai aj
      exact ⟨i, j, x, y, hbl ▸ hi, hbl ▸ hj, by rw [hbg hi, ai]; rfl, by rw [hbg hj, aj]; rfl, by rw [hwlen j hj]; exact hy, (hcmp i j x y hi hj hx hy).2.mpr e⟩
  · have e2 : divF r v S = base r v := by
      unfold divF
      rw [show divR1 r v S = base r v from if_neg hgt, tieFold_full (fun q => hgt q)]
    have : divTie r v S = false := by unfold divTie; rw [decide_eq_false hgt]; rfl
    rw [this, e2]
    constructor
    · intro h; cases h
    · rintro ⟨i, j, x, y, hi, hj, hne, ai, aj, e⟩
      rw [hbg hi] at ai
      have := Int.ofNat_inj.mp ai
      (first | (simp only [Int.natCast_add, Int.natCast_one] at *; lia) | lia | omega)
end Mine
end

section
set_option linter.unusedVariables false
namespace Mine

end Mine
end

section
set_option linter.unusedVariables false
namespace Mine

noncomputable def lrQ (v : List Int) (S : Nat) : List Int := v.map fun p => (p * (S : Int)).fdiv v.sum
noncomputable def lrR (v : List Int) (S : Nat) : List Int := v.map fun p => p * (S : Int) - (p * (S : Int)).fdiv v.sum * v.sum
noncomputable def lrC (v : List Int) (S : Nat) : Int := (sortI (lrR v S)).getD (idx ((lrQ v S).sum - (S : Int)) v.length) 0
noncomputable def lrStep (S : Nat) (rem : List Int) (c : Int) (s : List Int × Bool) (i : Nat) : List Int × Bool :=
  if (s.1.sum == (S : Int)) && decide (rem.getD i 0 ≥ c) then (s.1, true)
  else if decide (s.1.sum < (S : Int)) && decide (rem.getD i 0 > c) then (s.1.set i (s.1.getD i 0 + 1), s.2)
  else if decide (s.1.sum < (S : Int)) && (rem.getD i 0 == c) then (s.1.set i (s.1.getD i 0 + 1), s.2)
  else s
noncomputable def lrFold (S : Nat) (rem : List Int) (c : Int) (r : List Int) (n : Nat) : List Int × Bool := (List.range n).foldl (lrStep S rem c) (r, false)
noncomputable def lrF (v : List Int) (S : Nat) : List Int := if (lrQ v S).sum < (S : Int) then (lrFold S (lrR v S) (lrC v S) (lrQ v S) v.length).1 else lrQ v S
noncomputable def lrTie (v : List Int) (S : Nat) : Bool := if (lrQ v S).sum < (S : Int) then (lrFold S (lrR v S) (lrC v S) (lrQ v S) v.length).2 else false
theorem lrFold_succ {S rem c r n} : lrFold S rem c r (n + 1) = lrStep S rem c (lrFold S rem c r n) n := by
  unfold lrFold; rw [List.range_succ, List.foldl_append]; rfl
theorem lrStep_len {S rem c s i} : (lrStep S rem c s i).1.length = s.1.length := by
  unfold lrStep; split
  · rfl
  · split
    · exact List.length_set
    · split
      · exact List.length_set
      · rfl
theorem lrFold_len {S rem c r} : ∀ {n}, (lrFold S rem c r n).1.length = r.length
  | 0 => rfl
  | n + 1 => by rw [lrFold_succ, lrStep_len, lrFold_len]

structure LrPre (v : List Int) (S B : Nat) : Prop where
  s1 : 1 ≤ S
  sS : S < 2 ^ 100
  n1 : 1 ≤ v.length
  n63 : v.length ≤ 63
  sum : 0 < v.sum
  small : ∀ p ∈ v, p.natAbs < 2 ^ B
  sums : v.sum.natAbs < 2 ^ B
  fl : (S : Int) - (lrQ v S).sum ≤ v.length
  hq : ∀ p ∈ v, ((p * (S : Int)).fdiv v.sum).natAbs < 2 ^ 110
  hB : B ≤ 10 ^ 7

theorem lrQ_len {v S} : (lrQ v S).length = v.length := List.length_map _
theorem lrR_len {v S} : (lrR v S).length = v.length := List.length_map _
theorem getD_map {f : Int → Int} {l : List Int} {i : Nat} (h : i < l.length) : (l.map f).getD i 0 = f (l.getD i 0) := by
  rw [List.getD, List.getElem?_map, List.getD, List.getElem?_eq_getElem h]; rfl

noncomputable def gs (c : Int) (rem : List Int) : List (List Int) := rem.map fun x => if x ≥ c then [c] else []
theorem has_gs {c : Int} {rem : List Int} {i : Nat} (h : i < rem.length) : has c ((gs c rem).getD i []) = decide (rem.getD i 0 ≥ c) := by
  unfold gs
  rw [List.getD, List.getElem?_map, List.getD, List.getElem?_eq_getElem h]
  show has c (if rem[i] ≥ c then [c] else []) = decide (rem[i] ≥ c)
  split
  · rename_i q; rw [decide_eq_true q]; simp [has]
  · rename_i q; rw [decide_eq_false q]; rfl
noncomputable abbrev cge (c : Int) (l : List Int) : Nat := cntP (fun w => decide (w ≥ c)) l
theorem cge_take {c : Int} {l : List Int} {i : Nat} (h : i < l.length) : cge c (l.take (i + 1)) = cge c (l.take i) + (if l.getD i 0 ≥ c then 1 else 0) := by
  rw [List.take_succ_eq_append_getElem h, cge, cntP_append, ← getD_lt h]
  congr 1
  show cntP _ [l.getD i 0] = _
  rw [cntP_cons]
  show (if decide (l.getD i 0 ≥ c) = true then 1 else 0) + 0 = _
  simp
theorem hasTo_gs {c : Int} {rem : List Int} : ∀ {i : Nat}, i ≤ rem.length → hasTo c (gs c rem) i = cge c (rem.take i)
  | 0, _ => rfl
  | i + 1, h => by
    rw [hasTo_succ, hasTo_gs (i := i) (Nat.le_of_succ_le h), has_gs h, cge_take h]
    simp
theorem lrFold_eq {S : Nat} {rem : List Int} {c : Int} {r : List Int} : ∀ {i : Nat}, i ≤ rem.length → lrFold S rem c r i = (tieFold S (gs c rem) c r i, tieSeen S (gs c rem) c r i)
  | 0, _ => rfl
  | i + 1, h => by
    rw [lrFold_succ, lrFold_eq (i := i) (Nat.le_of_succ_le h), tieFold_succ, tieSeen_succ]
    unfold lrStep tieStep
    rw [has_gs h]
    show (if _ then _ else _) = _
    generalize tieFold S (gs c rem) c r i = s
    generalize tieSeen S (gs c rem) c r i = b
    generalize rem.getD i 0 = x
    rcases Int.lt_trichotomy s.sum (S : Int) with h1 | h1 | h1
    · have e1 : (s.sum == (S : Int)) = false := by simp; (first | lia | omega)
      have e2 : decide (s.sum < (S : Int)) = true := decide_eq_true h1
      simp only [e1, e2, Bool.false_and, Bool.true_and, Bool.or_false]
      by_cases q1 : x > c
      · simp [q1, Int.le_of_lt q1]
      · by_cases q2 : x = c
        · subst q2; simp
        · have : ¬ x ≥ c := by (first | lia | omega)
          simp [q1, q2, this]
    · have e1 : (s.sum == (S : Int)) = true := by simp [h1]
      have e2 : decide (s.sum < (S : Int)) = false := decide_eq_false (by (first | lia | omega))
      simp only [e1, e2, Bool.false_and, Bool.true_and]
      by_cases q : x ≥ c <;> simp [q]
    · have e1 : (s.sum == (S : Int)) = false := by simp; (first | lia | omega)
      have e2 : decide (s.sum < (S : Int)) = false := decide_eq_false (by (first | lia | omega))
      simp [e1, e2]
theorem tieSeen_iff {S : Nat} {ws : List (List Int)} {m : Int} {r : List Int} (hr : r.sum ≤ (S : Int)) : ∀ {n : Nat}, n ≤ r.length → (tieSeen S ws m r n = true ↔ (S : Int) < r.sum + hasTo m ws n)
  | 0, _ => by
    have : tieSeen S ws m r 0 = false := rfl
    rw [this]
    show false = true ↔ (S : Int) < r.sum + ((0 : Nat) : Int)
    constructor
    · intro h; cases h
    · intro h; (first | lia | omega)
  | n + 1, h => by
    have ih := tieSeen_iff (ws := ws) (m := m) hr (n := n) (Nat.le_of_succ_le h)
    have hs := (tieFold_spec (ws := ws) (m := m) hr (i := n) (Nat.le_of_succ_le h)).1
    rw [tieSeen_succ, hasTo_succ, Bool.or_eq_true, ih, Bool.and_eq_true, beq_iff_eq, hs]
    split
    · rename_i q; simp only [q, and_true]; (first | (simp only [Int.natCast_add, Int.natCast_one] at *; lia) | lia | omega)
    · rename_i q; simp only [q]; simp

structure LrOk (v : List Int) (S : Nat) (a : List Int) (tie : Bool) (k : Nat) (c : Int) : Prop where
  hk : (lrQ v S).sum + (k : Int) = (S : Int)
  kn : k < v.length
  len : a.length = v.length
  sum : a.sum = (S : Int)
  at_ : ∀ j, j < v.length → a.getD j 0 = (lrQ v S).getD j 0 + (if (lrR v S).getD j 0 ≥ c ∧ cge c ((lrR v S).take j) < k then 1 else 0)
  tied : tie = true ↔ k < cge c (lrR v S)
  cut : k ≤ cge c (lrR v S)
  nt : tie = true → cntP (fun w => decide (w > c)) (lrR v S) < k

theorem sum_lin (v : List Int) (f : Int → Int) (s t : Int) : (v.map fun p => p * s - f p * t).sum = v.sum * s - (v.map f).sum * t := by
  induction v with
  | nil => simp
  | cons p q ih =>
    rw [List.map_cons, List.sum_cons, ih, List.sum_cons, List.map_cons, List.sum_cons, Int.add_mul, Int.add_mul]; (first | lia | omega)
theorem lrR_sum (v : List Int) (S : Nat) : (lrR v S).sum = v.sum * ((S : Int) - (lrQ v S).sum) := by
  unfold lrR lrQ
  rw [sum_lin, Int.mul_sub, Int.mul_comm v.sum (List.sum _)]
theorem rem_range {a t : Int} (ht : 0 < t) : 0 ≤ a - a.fdiv t * t ∧ a - a.fdiv t * t < t := by
  have h1 := Int.fmod_nonneg_of_pos a ht
  have h2 := Int.fmod_lt_of_pos a ht
  have h3 := Int.fmod_def a t
  rw [Int.mul_comm] at h3
  omega
theorem lrR_get {v : List Int} {S j : Nat} (hj : j < v.length) : (lrR v S).getD j 0 = v.getD j 0 * (S : Int) - (lrQ v S).getD j 0 * v.sum := by
  unfold lrR lrQ; rw [getD_map hj, getD_map hj]
theorem lrR_mem {v : List Int} {S : Nat} (hT : 0 < v.sum) : ∀ x ∈ lrR v S, 0 ≤ x ∧ x < v.sum := by
  intro x hx
  unfold lrR at hx
  obtain ⟨p, _, rfl⟩ := List.mem_map.mp hx
  exact rem_range hT
theorem sum_nonneg : ∀ {l : List Int}, (∀ x ∈ l, 0 ≤ x) → 0 ≤ l.sum
  | [], _ => Int.le_refl 0
  | x :: r, h => by
    rw [List.sum_cons]
    have := h x List.mem_cons_self
    have := sum_nonneg (l := r) fun y hy => h y (List.mem_cons_of_mem _ hy)
    (first | lia | omega)
theorem sum_below : ∀ {l : List Int} {t : Int}, (∀ x ∈ l, x < t) → l.sum ≤ t * (l.length : Int) - (l.length : Int)
  | [], t, _ => by simp
  | x :: r, t, h => by
    have h1 := h x List.mem_cons_self
    have h2 := sum_below (l := r) fun y hy => h y (List.mem_cons_of_mem _ hy)
    have e : ((x :: r).length : Int) = (r.length : Int) + 1 := by simp
    rw [List.sum_cons, e, Int.mul_add, Int.mul_one]
    (first | lia | omega)
theorem lr_k {v : List Int} {S : Nat} (hT : 0 < v.sum) : ∃ k : Nat, (lrQ v S).sum + (k : Int) = (S : Int) ∧ k < v.length ∧ (lrR v S).sum = v.sum * (k : Int) := by
  have h1 := lrR_sum v S
  have h2 := sum_nonneg fun x hx => (lrR_mem (S := S) hT x hx).1
  have h3 := sum_below fun x hx => (lrR_mem (S := S) hT x hx).2
  rw [lrR_len] at h3
  have hn : 0 < v.length := by
    rcases Nat.eq_zero_or_pos v.length with q | q
    · rw [List.length_eq_zero_iff.mp q] at hT; exact absurd hT (by decide)
    · exact q
  have h4 : 0 ≤ (S : Int) - (lrQ v S).sum := by
    rw [h1] at h2
    rcases Int.lt_or_le ((S : Int) - (lrQ v S).sum) 0 with q | q
    · have := Int.mul_neg_of_pos_of_neg hT q; omega
    · exact q
  have h5 : (S : Int) - (lrQ v S).sum < (v.length : Int) := by
    have : v.sum * ((S : Int) - (lrQ v S).sum) < v.sum * (v.length : Int) := by omega
    exact Int.lt_of_mul_lt_mul_left this (Int.le_of_lt hT)
  refine ⟨((S : Int) - (lrQ v S).sum).toNat, by (first | lia | omega), by (first | lia | omega), ?_⟩
  rw [h1]; congr 1; (first | lia | omega)
theorem cge_zero {c : Int} {l : List Int} (h : ∀ x ∈ l, x < c) : cge c l = 0 := cntP_zero fun x hx => decide_eq_false (Int.not_le.mpr (h x hx))

theorem lr_ok {v : List Int} {S : Nat} (hT : 0 < v.sum) : ∃ k c, LrOk v S (lrF v S) (lrTie v S) k c := by
  obtain ⟨k, hk, hkn, _⟩ := lr_k (S := S) hT
  rcases Nat.eq_zero_or_pos k with hz | hpos
  · subst hz
    have hlt : ¬ (lrQ v S).sum < (S : Int) := by (first | lia | omega)
    have eF : lrF v S = lrQ v S := if_neg hlt
    have eT : lrTie v S = false := if_neg hlt
    have hc : cge v.sum (lrR v S) = 0 := cge_zero fun x hx => (lrR_mem hT x hx).2
    rw [eF, eT]
    exact ⟨0, v.sum, hk, hkn, lrQ_len, by (first | lia | omega), fun j hj => by rw [if_neg (fun q => absurd q.2 (Nat.not_lt_zero _)), Int.add_zero], by rw [hc]; simp, by rw [hc]; exact Nat.le_refl 0, fun h => nomatch h⟩
  · have hlt : (lrQ v S).sum < (S : Int) := by (first | lia | omega)
    have eF : lrF v S = (lrFold S (lrR v S) (lrC v S) (lrQ v S) v.length).1 := if_pos hlt
    have eT : lrTie v S = (lrFold S (lrR v S) (lrC v S) (lrQ v S) v.length).2 := if_pos hlt
    rw [lrFold_eq (by rw [lrR_len]; exact Nat.le_refl _)] at eF eT
    have eF : lrF v S = tieFold S (gs (lrC v S) (lrR v S)) (lrC v S) (lrQ v S) v.length := eF
    have eT : lrTie v S = tieSeen S (gs (lrC v S) (lrR v S)) (lrC v S) (lrQ v S) v.length := eT
    have hsl : (sortI (lrR v S)).length = v.length := (sortI_len _).trans lrR_len
    have ec : lrC v S = (sortI (lrR v S)).getD ((sortI (lrR v S)).length - k) 0 := by
      unfold lrC idx
      rw [if_neg (by (first | lia | omega)), hsl]
      congr 1; (first | lia | omega)
    have hcut := cut_counts (sortI_sorted (lrR v S)) (T := k) hpos (by (first | lia | omega))
    rw [← ec, cntP_perm (sortI_perm _), cntP_perm (sortI_perm _)] at hcut
    have hr : (lrQ v S).sum ≤ (S : Int) := Int.le_of_lt hlt
    have hlen : v.length ≤ (lrQ v S).length := by rw [lrQ_len]; exact Nat.le_refl _
    obtain ⟨f1, f2⟩ := tieFold_spec (ws := gs (lrC v S) (lrR v S)) (m := lrC v S) hr (i := v.length) hlen
    have hto : ∀ {j}, j ≤ v.length → hasTo (lrC v S) (gs (lrC v S) (lrR v S)) j = cge (lrC v S) ((lrR v S).take j) := fun {j} hj => hasTo_gs (by rw [lrR_len]; exact hj)
    have htn := hto (Nat.le_refl v.length)
    rw [List.take_of_length_le (by rw [lrR_len]; exact Nat.le_refl _)] at htn
    have hti := tieSeen_iff (ws := gs (lrC v S) (lrR v S)) (m := lrC v S) hr (n := v.length) hlen
    rw [htn] at hti f1
    rw [← eF] at f1 f2
    refine ⟨k, lrC v S, hk, hkn, by rw [eF]; show (tieFold _ _ _ _ _).length = _; rw [tieFold_len, lrQ_len], by rw [f1]; exact Int.min_eq_left (Int.le_trans (Int.le_of_eq hk.symm) (Int.add_le_add_left (Int.ofNat_le.mpr hcut.2) _)), fun j hj => ?_, by rw [eT, hti, ← hk]; exact ⟨fun h => Int.ofNat_lt.mp (Int.lt_of_add_lt_add_left h), fun h => Int.add_lt_add_left (Int.ofNat_lt.mpr h) _⟩, hcut.2, fun _ => hcut.1⟩
    rw [f2 j, hto (Nat.le_of_lt hj), has_gs (by rw [lrR_len]; exact hj)]
    congr 1
    by_cases q : (lrR v S).getD j 0 ≥ lrC v S ∧ cge (lrC v S) ((lrR v S).take j) < k
    · rw [if_pos q, if_pos ⟨hj, decide_eq_true q.1, by have := q.2; (first | lia | omega)⟩]
    · rw [if_neg q, if_neg]
      rintro ⟨_, z1, z2⟩
      exact q ⟨of_decide_eq_true z1, by (first | lia | omega)⟩
end Mine
end

section
set_option linter.unusedVariables false
namespace Mine

theorem cntP_mono {p q : Int → Bool} : ∀ {l : List Int}, (∀ x ∈ l, p x = true → q x = true) → cntP p l ≤ cntP q l
  | [], _ => Nat.le_refl _
  | x :: r, h => by
    rw [cntP_cons, cntP_cons]
    have h1 := h x List.mem_cons_self
    have h2 := cntP_mono (l := r) fun y hy => h y (List.mem_cons_of_mem _ hy)
    cases e : p x
    · simp; (first | lia | omega)
    · rw [h1 e]; simp; omega
theorem cntP_same {p q : Int → Bool} : ∀ {l : List Int}, (∀ x ∈ l, p x = true → q x = true) → cntP p l = cntP q l → ∀ x ∈ l, p x = q x
  | [], _, _ => fun x hx => nomatch hx
  | x :: r, h, e => by
    have h2 : ∀ y ∈ r, p y = true → q y = true := fun y hy => h y (List.mem_cons_of_mem _ hy)
    have h3 := cntP_mono h2
    have h1 := h x List.mem_cons_self
    rw [cntP_cons, cntP_cons] at e
    have hx : p x = q x := by
      cases e1 : p x
      · cases e2 : q x
        · rfl
        · rw [e1, e2] at e; simp at e; (first | lia | omega)
      · exact (h1 e1).symm
    intro y hy
    rcases List.mem_cons.mp hy with rfl | hy
    · exact hx
    · rw [hx] at e
      exact cntP_same h2 (by (first | lia | omega)) y hy
theorem cge_take_le {c : Int} {l : List Int} {j : Nat} : cge c (l.take j) ≤ cge c l := by
  have : cge c l = cge c (l.take j) + cge c (l.drop j) := by
    have := cntP_append (fun w => decide (w ≥ c)) (l.take j) (l.drop j)
    rw [List.take_append_drop] at this; exact this
  (first | lia | omega)

theorem lr_nt {v a : List Int} {S k : Nat} {tie : Bool} {c : Int} (H : LrOk v S a tie k c) : tie = false ↔ ∃ θ, cge θ (lrR v S) = k := by
  constructor
  · intro h
    have : ¬ k < cge c (lrR v S) := fun q => by have := H.tied.mpr q; rw [h] at this; cases this
    exact ⟨c, by have := H.cut; (first | lia | omega)⟩
  · rintro ⟨θ, h⟩
    cases e : tie
    · rfl
    · have h1 := H.nt e
      have h2 := H.tied.mp e
      rcases Int.lt_or_le c θ with q | q
      · have : cge θ (lrR v S) ≤ cntP (fun w => decide (w > c)) (lrR v S) := cntP_mono fun x _ hx => decide_eq_true (Int.lt_of_lt_of_le q (of_decide_eq_true hx))
        (first | (subst_vars; lia) | lia | omega)
      · have : cge c (lrR v S) ≤ cge θ (lrR v S) := cntP_mono fun x _ hx => decide_eq_true (Int.le_trans q (of_decide_eq_true hx))
        (first | (subst_vars; lia) | lia | omega)
theorem lr_at_nt {v a : List Int} {S k : Nat} {tie : Bool} {c θ : Int} (H : LrOk v S a tie k c) (h : cge θ (lrR v S) = k) : ∀ j, j < v.length → a.getD j 0 = (lrQ v S).getD j 0 + (if (lrR v S).getD j 0 ≥ θ then 1 else 0) := by
  have ht := (lr_nt H).mpr ⟨θ, h⟩
  have hc : cge c (lrR v S) = k := by
    have : ¬ k < cge c (lrR v S) := fun q => by have := H.tied.mpr q; rw [ht] at this; cases this
    have := H.cut; (first | lia | omega)
  have same : ∀ x ∈ lrR v S, decide (x ≥ θ) = decide (x ≥ c) := by
    rcases Int.le_total θ c with q | q
    · intro x hx
      exact (cntP_same (p := fun w => decide (w ≥ c)) (q := fun w => decide (w ≥ θ)) (fun x _ hx => decide_eq_true (Int.le_trans q (of_decide_eq_true hx))) (hc.trans h.symm) x hx).symm
    · exact cntP_same (p := fun w => decide (w ≥ θ)) (q := fun w => decide (w ≥ c)) (fun x _ hx => decide_eq_true (Int.le_trans q (of_decide_eq_true hx))) (h.trans hc.symm)
  intro j hj
  have hjr : j < (lrR v S).length := by rw [lrR_len]; exact hj
  rw [H.at_ j hj]
  congr 1
  have hs := same ((lrR v S).getD j 0) (by rw [getD_lt hjr]; exact List.getElem_mem _)
  rw [decide_eq_decide] at hs
  by_cases q : (lrR v S).getD j 0 ≥ c
  · have ht := cge_take (c := c) hjr
    rw [if_pos q] at ht
    have := cge_take_le (c := c) (l := lrR v S) (j := j + 1)
    rw [if_pos ⟨q, by (first | lia | omega)⟩, if_pos (hs.mpr q)]
  · rw [if_neg (fun z => q z.1), if_neg (fun z => q (hs.mp z))]

theorem lr_rng {v : List Int} {S j : Nat} (hT : 0 < v.sum) (hj : j < v.length) : 0 ≤ (lrR v S).getD j 0 ∧ (lrR v S).getD j 0 < v.sum := by
  have h : j < (lrR v S).length := by rw [lrR_len]; exact hj
  rw [getD_lt h]; exact lrR_mem hT _ (List.getElem_mem h)
theorem quot_mono {x y T q r p s : Int} (h : y ≤ x) (hx : x = q * T + r) (hy : y = p * T + s) (hT : 0 < T) (h1 : r < T) (h2 : 0 ≤ s) : p ≤ q ∧ (p = q → s ≤ r) := by
  constructor
  · refine Int.not_lt.mp fun k => ?_
    have := Int.mul_le_mul_of_nonneg_right (show q + 1 ≤ p by (first | assumption | lia | omega)) (Int.le_of_lt hT)
    rw [Int.add_mul, Int.one_mul] at this
    (first | (subst_vars; lia) | lia | omega)
  · intro e; subst e; (first | (subst_vars; lia) | lia | omega)
theorem fdiv_of {x q t r : Int} (h : x = q * t + r) (h0 : 0 ≤ r) (h1 : r < t) : x.fdiv t = q := by
  have h2 := rem_range (a := x) (t := t) (by (first | exact Int.lt_of_le_of_lt (by assumption) (by assumption) | lia | omega))
  have k1 := quot_mono (Int.le_refl x) h (show x = x.fdiv t * t + (x - x.fdiv t * t) by (first | lia | omega)) (by (first | exact Int.lt_of_le_of_lt (by assumption) (by assumption) | lia | omega)) h1 h2.1
  have k2 := quot_mono (Int.le_refl x) (show x = x.fdiv t * t + (x - x.fdiv t * t) by (first | lia | omega)) h (by (first | exact Int.lt_of_le_of_lt (by assumption) (by assumption) | lia | omega)) h2.2 h0
  (first | lia | omega)

theorem list_ext {a b : List Int} (h : a.length = b.length) (k : ∀ j, j < a.length → a.getD j 0 = b.getD j 0) : a = b :=
  List.ext_getElem h fun i h1 h2 => by have := k i h1; rw [getD_lt h1, getD_lt h2] at this; exact this
end Mine
end

section
set_option linter.unusedVariables false
namespace Mine

noncomputable def rules6 : List Rule := [.web, .jeff, .adams, .hill]
noncomputable def rule6 (k : Nat) : Rule := rules6.getD k .web
noncomputable def P6 (v : List Int) (i : Nat) : Int := (v.take i ++ v.drop (i + 1)).foldl (fun c x => c * x) 1
noncomputable def F6 (v : List Int) (S k i x : Nat) : Int :=
  if k = 0 then (x : Int) * (x : Int) * P6 v i
  else if k = 1 then (x : Int) * ((x : Int) + 1) * P6 v i
  else if k = 2 then (x : Int) * ((x : Int) - 1) * P6 v i
  else if k = 3 then (if x = 0 then 2520 * v.sum * v.sum + 1 else (2520 * v.getD i 0 * v.getD i 0).fdiv (x : Int))
  else ((x : Int) * v.sum - v.getD i 0 * (S : Int)) ^ (2 : Int).toNat
noncomputable def row6 (v : List Int) (S k i : Nat) : List Int := (List.range (S + 1)).map (F6 v S k i)
noncomputable def g6 (v : List Int) (S k i x : Nat) : Int := F6 v S k i x - F6 v S k i (x - 1)
noncomputable def lo6 (k : Nat) : Nat := if k = 2 ∨ k = 3 then 1 else 0

theorem foldl_mul : ∀ (l : List Int) (c : Int), l.foldl (fun c x => c * x) c = c * l.foldl (fun c x => c * x) 1
  | [], c => (Int.mul_one c).symm
  | x :: r, c => by
    rw [List.foldl_cons, List.foldl_cons, foldl_mul r (c * x), foldl_mul r (1 * x), Int.one_mul, Int.mul_assoc]
theorem foldl_pos : ∀ {l : List Int}, (∀ p ∈ l, 0 < p) → 0 < l.foldl (fun c x => c * x) 1
  | [], _ => by decide
  | x :: r, h => by
    rw [List.foldl_cons, foldl_mul, Int.one_mul]
    exact Int.mul_pos (h x List.mem_cons_self) (foldl_pos fun p hp => h p (List.mem_cons_of_mem _ hp))
theorem P6_mul {v : List Int} {i : Nat} (hi : i < v.length) : P6 v i * v.getD i 0 = v.foldl (fun c x => c * x) 1 := by
  have e : v = v.take i ++ v.getD i 0 :: v.drop (i + 1) := by
    have := (List.take_append_drop i v).symm
    rw [List.drop_eq_getElem_cons hi] at this
    rw [getD_lt hi]
    exact this
  have h : v.foldl (fun c x => c * x) 1 = (v.take i ++ v.getD i 0 :: v.drop (i + 1)).foldl (fun c x => c * x) 1 := congrArg _ e
  rw [h]
  unfold P6
  rw [List.foldl_append, List.foldl_append, List.foldl_cons, foldl_mul (v.drop (i + 1)), foldl_mul (v.drop (i + 1)) (_ * _)]
  rw [Int.mul_right_comm]
theorem P6_pos {v : List Int} {i : Nat} (h : ∀ p ∈ v, 0 < p) : 0 < P6 v i := foldl_pos fun p hp => by
  rcases List.mem_append.mp hp with hp | hp
  · exact h p (List.mem_of_mem_take hp)
  · exact h p (List.mem_of_mem_drop hp)
theorem sum_two_le {v : List Int} (h : ∀ p ∈ v, 0 < p) {i j : Nat} (hi : i < v.length) (hj : j < v.length) (hij : i ≠ j) : v.getD i 0 + v.getD j 0 ≤ v.sum := by
  have hs : ∀ k, k ≤ v.length → sumF (fun i => v.getD i 0) k = (v.take k).sum := fun k => by
    induction k with
    | zero => intro _; rw [List.take_zero]; rfl
    | succ k ih =>
      intro hk
      show sumF _ k + v.getD k 0 = _
      rw [ih (Nat.le_of_succ_le hk), List.take_succ_eq_append_getElem hk, List.sum_append, getD_lt hk]
      simp
  have h1 := hs v.length (Nat.le_refl _)
  rw [List.take_length] at h1
  have h2 := sumF_upd (f := fun k x => if x = 1 then v.getD k 0 else 0) (b := fun _ => 1) (k := i) (x := 0) hi
  have h3 : sumF (fun k => if (fun _ => 1 : Nat → Nat) k = 1 then v.getD k 0 else 0) v.length = v.sum := by rw [← h1]; exact sumF_congr fun k _ => if_pos rfl
  have h4 := sumF_pos (F := fun k => if upd (fun _ => 1) i 0 k = 1 then v.getD k 0 else 0) (n := v.length) (k := j) (fun k hk => by
    show 0 ≤ (if upd (fun _ => 1) i 0 k = 1 then v.getD k 0 else 0)
    split
    · rw [getD_lt hk]; exact Int.le_of_lt (h _ (List.getElem_mem hk))
    · exact Int.le_refl 0) hj
  rw [h2, h3] at h4
  have e1 : (if upd (fun _ => 1) i 0 j = 1 then v.getD j 0 else 0) = v.getD j 0 := if_pos (if_neg (Ne.symm hij))
  have e2 : (if (fun _ => 1 : Nat → Nat) i = 1 then v.getD i 0 else 0) = v.getD i 0 := if_pos rfl
  have e3 : (if (0 : Nat) = 1 then v.getD i 0 else 0) = 0 := if_neg (by decide)
  have h4 : (if upd (fun _ => 1) i 0 j = 1 then v.getD j 0 else 0) ≤ v.sum - (if (fun _ => 1 : Nat → Nat) i = 1 then v.getD i 0 else 0) + (if (0 : Nat) = 1 then v.getD i 0 else 0) := h4
  rw [e1, e2, e3] at h4
  (first | (simp only [Int.natCast_add, Int.natCast_one] at *; lia) | lia | omega)

noncomputable def co6 (k x : Nat) : Int := if k = 0 then 2 * (x : Int) - 1 else if k = 1 then 2 * (x : Int) else if k = 2 then 2 * (x : Int) - 2 else -((2520 : Int) / (((x - 1) * x : Nat) : Int))
noncomputable def W6 (v : List Int) (k i : Nat) : Int := if k = 3 then v.getD i 0 * v.getD i 0 else P6 v i
theorem hill_div {w : Int} {x : Nat} (h1 : 1 ≤ x) (h7 : x ≤ 7) : (2520 * w).fdiv (x : Int) = (2520 / (x : Int)) * w := by
  refine fdiv_of (r := 0) ?_ (Int.le_refl 0) (by (first | lia | omega))
  rcases (show x = 1 ∨ x = 2 ∨ x = 3 ∨ x = 4 ∨ x = 5 ∨ x = 6 ∨ x = 7 by (first | lia | omega)) with rfl | rfl | rfl | rfl | rfl | rfl | rfl <;> (show _ = _ ; (first | lia | omega))
theorem g6_eq {v : List Int} {S k i x : Nat} (hk : k < 4) (hx : lo6 k < x) (h7 : x ≤ 7) : g6 v S k i x = co6 k x * W6 v k i := by
  obtain ⟨y, rfl⟩ : ∃ y, x = y + 1 := ⟨x - 1, by (first | lia | omega)⟩
  unfold g6
  rw [Nat.add_sub_cancel]
  rcases (show k = 0 ∨ k = 1 ∨ k = 2 ∨ k = 3 by (first | lia | omega)) with rfl | rfl | rfl | rfl
  · show ((y + 1 : Nat) : Int) * ((y + 1 : Nat) : Int) * P6 v i - (y : Int) * (y : Int) * P6 v i = (2 * ((y + 1 : Nat) : Int) - 1) * P6 v i
    rw [← Int.sub_mul]; congr 1; rw [show ((y + 1 : Nat) : Int) = (y : Int) + 1 by (first | (simp; done) | lia | omega)]; grind
  · show ((y + 1 : Nat) : Int) * (((y + 1 : Nat) : Int) + 1) * P6 v i - (y : Int) * ((y : Int) + 1) * P6 v i = (2 * ((y + 1 : Nat) : Int)) * P6 v i
    rw [← Int.sub_mul]; congr 1; rw [show ((y + 1 : Nat) : Int) = (y : Int) + 1 by (first | (simp; done) | lia | omega)]; grind
  · show ((y + 1 : Nat) : Int) * (((y + 1 : Nat) : Int) - 1) * P6 v i - (y : Int) * ((y : Int) - 1) * P6 v i = (2 * ((y + 1 : Nat) : Int) - 2) * P6 v i
    rw [← Int.sub_mul]; congr 1; rw [show ((y + 1 : Nat) : Int) = (y : Int) + 1 by (first | (simp; done) | lia | omega)]; grind
  · have hy : 1 ≤ y := by have : lo6 3 = 1 := rfl; (first | lia | omega)
    show (if y + 1 = 0 then 2520 * v.sum * v.sum + 1 else (2520 * v.getD i 0 * v.getD i 0).fdiv ((y + 1 : Nat) : Int)) - (if y = 0 then 2520 * v.sum * v.sum + 1 else (2520 * v.getD i 0 * v.getD i 0).fdiv (y : Int)) = -((2520 : Int) / (((y + 1 - 1) * (y + 1) : Nat) : Int)) * (v.getD i 0 * v.getD i 0)
    rw [if_neg (by (first | (simp; done) | lia | omega)), if_neg (by (first | exact Nat.ne_of_gt (by assumption) | lia | omega)), Int.mul_assoc, hill_div (by (first | exact Nat.le_of_lt (by assumption) | lia | omega)) h7, hill_div hy (by (first | exact Nat.le_of_lt (by assumption) | lia | omega)), ← Int.sub_mul]
    congr 1
    rcases (show y = 1 ∨ y = 2 ∨ y = 3 ∨ y = 4 ∨ y = 5 ∨ y = 6 by (first | lia | omega)) with rfl | rfl | rfl | rfl | rfl | rfl <;> rfl
theorem co6_mono {k : Nat} (hk : k < 4) : ∀ x y, lo6 k < x → x ≤ y → y ≤ 7 → co6 k x ≤ co6 k y := by
  intro x y h1 h2 h3
  rcases (show k = 0 ∨ k = 1 ∨ k = 2 ∨ k = 3 by (first | lia | omega)) with rfl | rfl | rfl | rfl
  · show 2 * (x : Int) - 1 ≤ 2 * (y : Int) - 1; (first | lia | omega)
  · show 2 * (x : Int) ≤ 2 * (y : Int); (first | lia | omega)
  · show 2 * (x : Int) - 2 ≤ 2 * (y : Int) - 2; (first | lia | omega)
  · have key : ∀ y, y < 8 → ∀ x, x < 8 → 1 < x → x ≤ y → co6 3 x ≤ co6 3 y := by decide +kernel
    exact key y (by (first | exact Nat.lt_succ_of_le (by assumption) | lia | omega)) x (by (first | lia | omega)) h1 h2
theorem W6_pos {v : List Int} {k i : Nat} (h : ∀ p ∈ v, 0 < p) (hi : i < v.length) : 0 < W6 v k i := by
  have hv : 0 < v.getD i 0 := by rw [getD_lt hi]; exact h _ (List.getElem_mem hi)
  unfold W6
  split
  · exact Int.mul_pos hv hv
  · exact P6_pos h
theorem lrg_mono {T a x y : Int} (hT : 0 < T) (h : x ≤ y) : (x * T - a) * (x * T - a) - ((x - 1) * T - a) * ((x - 1) * T - a) ≤ (y * T - a) * (y * T - a) - ((y - 1) * T - a) * ((y - 1) * T - a) := by
  have e : ∀ z : Int, (z * T - a) * (z * T - a) - ((z - 1) * T - a) * ((z - 1) * T - a) = T * (2 * (z * T) - T - 2 * a) := fun z => by grind
  rw [e, e]
  have := Int.mul_le_mul_of_nonneg_right h (Int.le_of_lt hT)
  exact Int.mul_le_mul_of_nonneg_left (by (first | lia | omega)) (Int.le_of_lt hT)
theorem F6_4 {v : List Int} {S i x : Nat} : F6 v S 4 i x = ((x : Int) * v.sum - v.getD i 0 * (S : Int)) * ((x : Int) * v.sum - v.getD i 0 * (S : Int)) := by
  show ((x : Int) * v.sum - v.getD i 0 * (S : Int)) ^ 2 = _
  rw [Int.pow_succ, Int.pow_succ, Int.pow_zero, Int.one_mul]

theorem sum_pos6 : ∀ {v : List Int}, (∀ p ∈ v, 0 < p) → ∀ {i : Nat}, i < v.length → 0 < v.sum
  | x :: r, h, i, _ => by
    have h1 := sum_nonneg fun z hz => Int.le_of_lt (h z (List.mem_cons_of_mem x hz))
    have h2 := h x List.mem_cons_self
    rw [List.sum_cons]; (first | lia | omega)

theorem mkt6 {v : List Int} {S k : Nat} (hk : k < 5) (h : ∀ p ∈ v, 0 < p) (h7 : S ≤ 7) (hfit : v.length * lo6 k ≤ S) : Mkt v.length S (lo6 k) (F6 v S k) (g6 v S k) := by
  have hvp : ∀ i, i < v.length → 0 < v.getD i 0 := fun i hi => by rw [getD_lt hi]; exact h _ (List.getElem_mem hi)
  refine ⟨fun i hi x hx hS => ?_, fun i hi x y h1 h2 h3 => ?_, fun i j hi hj hij x y hx hy hS => ?_, hfit⟩
  · unfold g6; rw [Nat.add_sub_cancel]; (first | lia | omega)
  · by_cases h4 : k < 4
    · rw [g6_eq h4 h1 (by (first | lia | omega)), g6_eq h4 (by (first | exact Nat.lt_of_lt_of_le (by assumption) (by assumption) | lia | omega)) (by (first | exact Nat.le_trans (by assumption) (by assumption) | lia | omega))]
      exact Int.mul_le_mul_of_nonneg_right (co6_mono h4 x y h1 h2 (by (first | exact Nat.le_trans (by assumption) (by assumption) | lia | omega))) (Int.le_of_lt (W6_pos h hi))
    · have e4 : k = 4 := by (first | lia | omega)
      subst e4
      have hT : 0 < v.sum := sum_pos6 h hi
      unfold g6
      rw [F6_4, F6_4, F6_4, F6_4, show ((x - 1 : Nat) : Int) = (x : Int) - 1 by (first | lia | omega), show ((y - 1 : Nat) : Int) = (y : Int) - 1 by (first | lia | omega)]
      exact lrg_mono hT (by (first | lia | omega))
  · rcases (show k = 0 ∨ k = 1 ∨ k = 2 ∨ k = 3 ∨ k = 4 by (first | lia | omega)) with rfl | rfl | rfl | rfl | rfl
    · exact absurd hx (Nat.not_lt_zero _)
    · exact absurd hx (Nat.not_lt_zero _)
    · have hx0 : x = 0 := by have : x < 1 := hx; (first | lia | omega)
      subst hx0
      have hg := g6_eq (v := v) (S := S) (k := 2) (i := j) (x := y) (by decide) hy (by (first | exact Nat.le_trans (by assumption) (by assumption) | lia | omega))
      have hp := P6_pos (i := j) h
      have hy1 : 1 < y := hy
      have e1 : F6 v S 2 i (0 + 1) = 0 := by show ((1 : Nat) : Int) * (((1 : Nat) : Int) - 1) * P6 v i = 0; simp
      have e2 : F6 v S 2 i 0 = 0 := by show ((0 : Nat) : Int) * (((0 : Nat) : Int) - 1) * P6 v i = 0; simp
      have e3 : co6 2 y * W6 v 2 j = (2 * (y : Int) - 2) * P6 v j := rfl
      have e4 : 0 < (2 * (y : Int) - 2) * P6 v j := Int.mul_pos (by (first | lia | omega)) hp
      rw [e3] at hg
      unfold g6 at hg
      (first | lia | omega)
    · have hx0 : x = 0 := by have : x < 1 := hx; (first | lia | omega)
      subst hx0
      have hy1 : 1 < y := hy
      have hg := g6_eq (v := v) (S := S) (k := 3) (i := j) (x := y) (by decide) hy (by (first | exact Nat.le_trans (by assumption) (by assumption) | lia | omega))
      have hi2 := sum_two_le h hi hj hij
      have pi := hvp i hi
      have pj := hvp j hj
      have e1 : F6 v S 3 i (0 + 1) = 2520 * (v.getD i 0 * v.getD i 0) := by
        show (2520 * v.getD i 0 * v.getD i 0).fdiv ((1 : Nat) : Int) = _
        rw [Int.mul_assoc, hill_div (by decide) (by decide)]
        rfl
      have e2 : F6 v S 3 i 0 = 2520 * v.sum * v.sum + 1 := rfl
      have e3 : co6 3 y * W6 v 3 j = co6 3 y * (v.getD j 0 * v.getD j 0) := rfl
      have e5 : -1260 ≤ co6 3 y := by
        have key : ∀ y, y < 8 → 1 < y → -1260 ≤ co6 3 y := by decide +kernel
        exact key y (by (first | lia | omega)) hy1
      rw [e3] at hg
      unfold g6 at hg
      rw [e1, e2]
      generalize F6 v S 3 j y = A at *
      generalize F6 v S 3 j (y - 1) = B at *
      generalize co6 3 y = c at *
      generalize v.getD i 0 = p at *
      generalize v.getD j 0 = q at *
      generalize v.sum = T at *
      have h1 : (p + q) * (p + q) ≤ T * T := Int.mul_le_mul hi2 hi2 (by (first | lia | omega)) (by (first | lia | omega))
      have h2 : (p + q) * (p + q) = p * p + 2 * (p * q) + q * q := by grind
      have h3 : 0 < p * q := Int.mul_pos pi pj
      have h4 : -1260 * (q * q) ≤ c * (q * q) := Int.mul_le_mul_of_nonneg_right e5 (Int.le_of_lt (Int.mul_pos pj pj))
      have h6 : 0 < q * q := Int.mul_pos pj pj
      have h5 : 2520 * T * T = 2520 * (T * T) := Int.mul_assoc ..
      (first | lia | omega)
    · exact absurd hx (Nat.not_lt_zero _)
end Mine
end

section
set_option linter.unusedVariables false
namespace Mine

theorem cmp_scale {a b A B K m : Int} (hK : 0 < K) (hm : 0 < m) (ha : a * K = m * A) (hb : b * K = m * B) : (a < b ↔ A < B) ∧ (a = b ↔ A = B) := by
  have key : ∀ {a b A B : Int}, a * K = m * A → b * K = m * B → (a ≤ b ↔ A ≤ B) := fun {a b A B} ha hb => by
    constructor
    · intro h
      have := Int.mul_le_mul_of_nonneg_right h (Int.le_of_lt hK)
      rw [ha, hb] at this
      exact Int.le_of_mul_le_mul_left this hm
    · intro h
      have := Int.mul_le_mul_of_nonneg_left h (Int.le_of_lt hm)
      rw [← ha, ← hb] at this
      exact Int.le_of_mul_le_mul_right this hK
  have h1 := key ha hb
  have h2 := key hb ha
  exact ⟨Int.not_le.symm.trans ((not_congr h2).trans Int.not_le), fun e => Int.le_antisymm (h1.mp (Int.le_of_eq e)) (h2.mp (Int.le_of_eq e.symm)), fun e => Int.le_antisymm (h1.mpr (Int.le_of_eq e)) (h2.mpr (Int.le_of_eq e.symm))⟩
theorem free6 {k : Nat} (hk : k < 4) : free (rule6 k) = lo6 k := by
  rcases (show k = 0 ∨ k = 1 ∨ k = 2 ∨ k = 3 by (first | lia | omega)) with rfl | rfl | rfl | rfl <;> rfl
theorem cmp6 {v : List Int} {S k i j x y : Nat} (hk : k < 4) (h : ∀ p ∈ v, 0 < p) (hi : i < v.length) (hj : j < v.length) (hx : lo6 k + x + 1 ≤ 7) (hy : lo6 k + y + 1 ≤ 7) :
    (g6 v S k i (lo6 k + x + 1) < g6 v S k j (lo6 k + y + 1) ↔ pw (rule6 k) (v.getD i 0) * (dv (rule6 k) x).2 * (dv (rule6 k) y).1 > pw (rule6 k) (v.getD j 0) * (dv (rule6 k) y).2 * (dv (rule6 k) x).1) ∧
    (g6 v S k i (lo6 k + x + 1) = g6 v S k j (lo6 k + y + 1) ↔ pw (rule6 k) (v.getD i 0) * (dv (rule6 k) x).2 * (dv (rule6 k) y).1 = pw (rule6 k) (v.getD j 0) * (dv (rule6 k) y).2 * (dv (rule6 k) x).1) := by
  have hvp : ∀ i, i < v.length → 0 < v.getD i 0 := fun i hi => by rw [getD_lt hi]; exact h _ (List.getElem_mem hi)
  have pi := hvp i hi
  have pj := hvp j hj
  rw [g6_eq hk (by (first | lia | omega)) hx, g6_eq hk (by (first | lia | omega)) hy]
  have hQ : 0 < v.foldl (fun c x => c * x) 1 := foldl_pos h
  have qi := P6_mul hi
  have qj := P6_mul hj
  -- the three whose costs are products
  have key : ∀ {c dx dy : Int}, 0 < c → ∀ {a b A B : Int}, a = c * dx * P6 v i → b = c * dy * P6 v j → A = v.getD i 0 * 1 * dy → B = v.getD j 0 * 1 * dx → (a < b ↔ A > B) ∧ (a = b ↔ A = B) := by
    intro c dx dy hc a b A B ea eb eA eB
    have := cmp_scale (a := a) (b := b) (A := B) (B := A) (K := v.getD i 0 * v.getD j 0) (m := c * v.foldl (fun c x => c * x) 1) (Int.mul_pos pi pj) (Int.mul_pos hc hQ)
      (by rw [ea, eB, ← qi]; grind) (by rw [eb, eA, ← qj]; grind)
    exact ⟨this.1, this.2.trans eq_comm⟩
  rcases (show k = 0 ∨ k = 1 ∨ k = 2 ∨ k = 3 by (first | lia | omega)) with rfl | rfl | rfl | rfl
  · refine key (c := 1) (dx := 2 * (x : Int) + 1) (dy := 2 * (y : Int) + 1) (by decide) ?_ ?_ rfl rfl
    · show (2 * ((0 + x + 1 : Nat) : Int) - 1) * P6 v i = _; congr 1; (first | lia | omega)
    · show (2 * ((0 + y + 1 : Nat) : Int) - 1) * P6 v j = _; congr 1; (first | lia | omega)
  · refine key (c := 2) (dx := (x : Int) + 1) (dy := (y : Int) + 1) (by decide) ?_ ?_ rfl rfl
    · show (2 * ((0 + x + 1 : Nat) : Int)) * P6 v i = _; congr 1; (first | (simp; done) | lia | omega)
    · show (2 * ((0 + y + 1 : Nat) : Int)) * P6 v j = _; congr 1; (first | (simp; done) | lia | omega)
  · refine key (c := 2) (dx := (x : Int) + 1) (dy := (y : Int) + 1) (by decide) ?_ ?_ rfl rfl
    · show (2 * ((1 + x + 1 : Nat) : Int) - 2) * P6 v i = _; congr 1; (first | (simp only [Int.natCast_add, Int.natCast_one] at *; lia) | lia | omega)
    · show (2 * ((1 + y + 1 : Nat) : Int) - 2) * P6 v j = _; congr 1; (first | (simp only [Int.natCast_add, Int.natCast_one] at *; lia) | lia | omega)
  · have hE : ∀ z : Nat, 1 + z + 1 ≤ 7 → ∃ e d : Int, 0 < d ∧ e * d = 2520 ∧ co6 3 (1 + z + 1) = -e ∧ (dv .hill z).1 = d := fun z hz => by
      rcases (show z = 0 ∨ z = 1 ∨ z = 2 ∨ z = 3 ∨ z = 4 ∨ z = 5 by (first | lia | omega)) with rfl | rfl | rfl | rfl | rfl | rfl
      · exact ⟨1260, 2, by decide, by decide, by decide, by decide⟩
      · exact ⟨420, 6, by decide, by decide, by decide, by decide⟩
      · exact ⟨210, 12, by decide, by decide, by decide, by decide⟩
      · exact ⟨126, 20, by decide, by decide, by decide, by decide⟩
      · exact ⟨84, 30, by decide, by decide, by decide, by decide⟩
      · exact ⟨60, 42, by decide, by decide, by decide, by decide⟩
    obtain ⟨e, d, d0, ed, ec, edv⟩ := hE x hx
    obtain ⟨e', d', d0', ed', ec', edv'⟩ := hE y hy
    show (co6 3 (1 + x + 1) * (v.getD i 0 * v.getD i 0) < co6 3 (1 + y + 1) * (v.getD j 0 * v.getD j 0) ↔ v.getD i 0 * v.getD i 0 * 1 * (dv .hill y).1 > v.getD j 0 * v.getD j 0 * 1 * (dv .hill x).1) ∧ (co6 3 (1 + x + 1) * (v.getD i 0 * v.getD i 0) = co6 3 (1 + y + 1) * (v.getD j 0 * v.getD j 0) ↔ v.getD i 0 * v.getD i 0 * 1 * (dv .hill y).1 = v.getD j 0 * v.getD j 0 * 1 * (dv .hill x).1)
    rw [ec, ec', edv, edv']
    generalize v.getD i 0 * v.getD i 0 = p
    generalize v.getD j 0 * v.getD j 0 = q
    have := cmp_scale (a := -e * p) (b := -e' * q) (A := -(p * 1 * d')) (B := -(q * 1 * d)) (K := d * d') (m := 2520) (Int.mul_pos d0 d0') (by decide) (by rw [← ed]; grind) (by rw [← ed']; grind)
    exact ⟨this.1.trans (by (first | (simp; done) | lia | omega)), this.2.trans (by (first | (simp; done) | lia | omega))⟩

theorem div_deal6 {v : List Int} {S k : Nat} (hk : k < 4) (h : ∀ p ∈ v, 0 < p) (h1 : 1 ≤ v.length) (h7 : S ≤ 7) (hfit : v.length * lo6 k ≤ S) : ∃ a : List Nat, divF (rule6 k) v S = toI a ∧ a.length = v.length ∧ Deal v.length S (lo6 k) (fn a) ∧ Stab v.length (lo6 k) (g6 v S k) (fn a) ∧
    (∀ i j, i < v.length → j < v.length → i ≠ j → lo6 k < fn a i → g6 v S k i (fn a i) = g6 v S k j (fn a j + 1) → i < j) ∧
    (divTie (rule6 k) v S = true ↔ ∃ i j, i < v.length ∧ j < v.length ∧ i ≠ j ∧ lo6 k < fn a i ∧ g6 v S k i (fn a i) = g6 v S k j (fn a j + 1)) := by
  have hf := free6 hk
  have AP := divF_ok (r := rule6 k) (v := v) (S := S) h h1 (by (first | lia | omega)) (by rw [hf, Nat.mul_comm]; exact hfit)
  have TI := divF_tie (r := rule6 k) (v := v) (S := S) h h1 (by (first | lia | omega)) (by rw [hf, Nat.mul_comm]; exact hfit)
  obtain ⟨len, sum, ge, stab⟩ := AP
  rw [hf] at ge stab
  unfold TieAt at TI
  rw [hf] at TI
  generalize divF (rule6 k) v S = d at *
  have hd : ∀ i, i < v.length → d.getD i 0 = (((d.map Int.toNat).getD i 0 : Nat) : Int) := fun i hi => by
    have := ge i hi
    have hl : i < d.length := by (first | lia | omega)
    have e : (d.map Int.toNat).getD i 0 = d[i].toNat := by rw [List.getD, List.getElem?_map, List.getElem?_eq_getElem hl]; rfl
    rw [e]
    rw [getD_lt hl] at this ⊢
    (first | lia | omega)
  have ed : d = toI (d.map Int.toNat) := by
    refine list_ext (by simp) fun i hi => ?_
    rw [hd i (by (first | lia | omega))]
    show _ = (toI (d.map Int.toNat)).getD i 0
    rw [toI_get]
  have hal : (d.map Int.toNat).length = v.length := by rw [List.length_map, len]
  have htot : tot (fn (d.map Int.toNat)) v.length = (S : Int) := by
    rw [← hal, tot_fn]
    have : (toI (d.map Int.toNat)).sum = (((d.map Int.toNat).sum : Nat) : Int) := by
      have key : ∀ l : List Nat, (toI l).sum = ((l.sum : Nat) : Int) := by
        intro l
        induction l with
        | nil => rfl
        | cons x r ih => show (x : Int) + (toI r).sum = _; rw [ih, List.sum_cons]; (first | (simp; done) | lia | omega)
      exact key _
    rw [← this, ← ed, sum]
  refine ⟨d.map Int.toNat, ed, hal, ⟨htot, fun i hi => ?_⟩, ?_⟩
  · have h2 := ge i hi
    rw [hd i hi] at h2
    show lo6 k ≤ (d.map Int.toNat).getD i 0
    (first | lia | omega)
  have hge : ∀ i, i < v.length → lo6 k ≤ fn (d.map Int.toNat) i := fun i hi => by
    have h2 := ge i hi
    rw [hd i hi] at h2
    show lo6 k ≤ (d.map Int.toNat).getD i 0
    (first | lia | omega)
  have hd : ∀ i, i < v.length → d.getD i 0 = ((fn (d.map Int.toNat) i : Nat) : Int) := hd
  have two : ∀ i j, i < v.length → j < v.length → i ≠ j → fn (d.map Int.toNat) i + fn (d.map Int.toNat) j ≤ S := fun i j hi hj hij => by
    have h2 := sumF_upd (f := fun k x => if x = 1 then ((fn (d.map Int.toNat) k : Nat) : Int) else 0) (b := fun _ => 1) (k := i) (x := 0) hi
    have h3 : sumF (fun k => if (fun _ => 1 : Nat → Nat) k = 1 then ((fn (d.map Int.toNat) k : Nat) : Int) else 0) v.length = (S : Int) := by rw [← htot]; exact sumF_congr fun k _ => if_pos rfl
    have h4 := sumF_pos (F := fun k => if upd (fun _ => 1) i 0 k = 1 then ((fn (d.map Int.toNat) k : Nat) : Int) else 0) (n := v.length) (k := j) (fun k hk => by
      show 0 ≤ (if upd (fun _ => 1) i 0 k = 1 then ((fn (d.map Int.toNat) k : Nat) : Int) else 0)
      split
      · (first | exact Int.natCast_nonneg _ | lia | omega)
      · exact Int.le_refl 0) hj
    rw [h2, h3] at h4
    have e1 : (if upd (fun _ => 1) i 0 j = 1 then ((fn (d.map Int.toNat) j : Nat) : Int) else 0) = ((fn (d.map Int.toNat) j : Nat) : Int) := if_pos (if_neg (Ne.symm hij))
    have e2 : (if (fun _ => 1 : Nat → Nat) i = 1 then ((fn (d.map Int.toNat) i : Nat) : Int) else 0) = ((fn (d.map Int.toNat) i : Nat) : Int) := if_pos rfl
    have e3 : (if (0 : Nat) = 1 then ((fn (d.map Int.toNat) i : Nat) : Int) else 0) = 0 := if_neg (by decide)
    have h4 : (if upd (fun _ => 1) i 0 j = 1 then ((fn (d.map Int.toNat) j : Nat) : Int) else 0) ≤ (S : Int) - (if (fun _ => 1 : Nat → Nat) i = 1 then ((fn (d.map Int.toNat) i : Nat) : Int) else 0) + (if (0 : Nat) = 1 then ((fn (d.map Int.toNat) i : Nat) : Int) else 0) := h4
    rw [e1, e2, e3] at h4
    (first | (simp only [Int.natCast_add, Int.natCast_one] at *; lia) | lia | omega)
  generalize fn (d.map Int.toNat) = a at *
  have key : ∀ i j, i < v.length → j < v.length → i ≠ j → lo6 k < a i → ∃ x y, a i = lo6 k + x + 1 ∧ a j = lo6 k + y ∧ lo6 k + x + 1 ≤ 7 ∧ lo6 k + y + 1 ≤ 7 := fun i j hi hj hij hl => by
    have h2 := two i j hi hj hij
    have h3 := hge j hj
    exact ⟨a i - lo6 k - 1, a j - lo6 k, by (first | lia | omega), by (first | lia | omega), by (first | lia | omega), by (first | lia | omega)⟩
  have main : ∀ i j, i < v.length → j < v.length → i ≠ j → lo6 k < a i → g6 v S k i (a i) < g6 v S k j (a j + 1) ∨ (g6 v S k i (a i) = g6 v S k j (a j + 1) ∧ i < j) := fun i j hi hj hij hl => by
    obtain ⟨x, y, e1, e2, h2, h3⟩ := key i j hi hj hij hl
    have hst := stab i j x y hi hj hij (by rw [hd i hi, e1]) (by rw [hd j hj, e2])
    have hc := cmp6 (S := S) hk h hi hj h2 h3
    rw [e1, e2]
    exact hst.imp hc.1.mpr fun z => ⟨hc.2.mpr z.1, z.2⟩
  refine ⟨fun i j hi hj hij hl => ?_, fun i j hi hj hij hl e => ?_, TI.trans ⟨?_, ?_⟩⟩
  · rcases main i j hi hj hij hl with z | z
    · exact Int.le_of_lt z
    · exact Int.le_of_eq z.1
  · rcases main i j hi hj hij hl with z | z
    · (first | lia | omega)
    · exact z.2
  · rintro ⟨i, j, x, y, hi, hj, hij, ai, aj, e⟩
    rw [hd i hi] at ai
    rw [hd j hj] at aj
    have e1 : a i = lo6 k + x + 1 := Int.ofNat_inj.mp ai
    have e2 : a j = lo6 k + y := Int.ofNat_inj.mp aj
    have h2 := two i j hi hj hij
    exact ⟨i, j, hi, hj, hij, by (first | (simp only [Int.natCast_add, Int.natCast_one] at *; lia) | lia | omega), by rw [e1, e2]; exact (cmp6 (S := S) hk h hi hj (by (first | (simp only [Int.natCast_add, Int.natCast_one] at *; lia) | lia | omega)) (by (first | (simp only [Int.natCast_add, Int.natCast_one] at *; lia) | lia | omega))).2.mpr e⟩
  · rintro ⟨i, j, hi, hj, hij, hl, e⟩
    obtain ⟨x, y, e1, e2, h2, h3⟩ := key i j hi hj hij hl
    rw [e1, e2] at e
    exact ⟨i, j, x, y, hi, hj, hij, by rw [hd i hi, e1], by rw [hd j hj, e2], (cmp6 (S := S) hk h hi hj h2 h3).2.mp e⟩
end Mine
end

section
set_option linter.unusedVariables false
namespace Mine

noncomputable def cntF (p : Nat → Bool) : Nat → Nat
  | 0 => 0
  | n + 1 => cntF p n + (if p n then 1 else 0)
theorem cntF_list {p : Int → Bool} {l : List Int} : ∀ k, k ≤ l.length → cntP p (l.take k) = cntF (fun i => p (l.getD i 0)) k
  | 0, _ => rfl
  | k + 1, h => by
    show _ = cntF _ k + (if p (l.getD k 0) then 1 else 0)
    rw [List.take_succ_eq_append_getElem h, cntP_append, cntF_list k (Nat.le_of_succ_le h), ← getD_lt h]
    congr 1
    generalize l.getD k 0 = x
    show (List.filter p [x]).length = _
    cases q : p x <;> simp [List.filter, q]
theorem cntF_all {p : Int → Bool} (l : List Int) : cntP p l = cntF (fun i => p (l.getD i 0)) l.length := by
  have := cntF_list (p := p) (l := l) l.length (Nat.le_refl _)
  rwa [List.take_length] at this
theorem cntF_at {p : Nat → Bool} : ∀ {n m : Nat}, m < cntF p n → ∃ j, j < n ∧ p j = true ∧ cntF p j = m
  | n + 1, m, h => by
    have h : m < cntF p n + (if p n then 1 else 0) := h
    by_cases q : m < cntF p n
    · obtain ⟨j, h1, h2, h3⟩ := cntF_at q
      exact ⟨j, by (first | exact Nat.lt_succ_of_lt (by assumption) | lia | omega), h2, h3⟩
    · cases e : p n
      · rw [e] at h; simp at h; (first | exact absurd (by assumption) (by assumption) | lia | omega)
      · rw [e] at h; simp at h
        exact ⟨n, Nat.lt_succ_self n, e, by (first | lia | omega)⟩
theorem cntF_split {r : Nat → Int} {c : Int} : ∀ n, cntF (fun i => decide (r i ≥ c)) n = cntF (fun i => decide (r i > c)) n + cntF (fun i => decide (r i = c)) n
  | 0 => rfl
  | n + 1 => by
    show cntF _ n + (if decide (r n ≥ c) then 1 else 0) = cntF _ n + (if decide (r n > c) then 1 else 0) + (cntF _ n + (if decide (r n = c) then 1 else 0))
    rw [cntF_split n]
    simp only [decide_eq_true_eq]
    split <;> split <;> split <;> (first | lia | omega)
noncomputable def eOf (r : Nat → Int) (c : Int) (m j : Nat) : Nat := if r j > c then 1 else if r j = c ∧ cntF (fun i => decide (r i = c)) j < m then 1 else 0
theorem eOf_sum {r : Nat → Int} {c : Int} {m : Nat} : ∀ n, sumF (fun i => ((eOf r c m i : Nat) : Int)) n = ((cntF (fun i => decide (r i > c)) n + min (cntF (fun i => decide (r i = c)) n) m : Nat) : Int)
  | 0 => by show (0 : Int) = ((0 + min 0 m : Nat) : Int); rw [Nat.zero_min]; rfl
  | n + 1 => by
    show sumF _ n + ((eOf r c m n : Nat) : Int) = ((cntF (fun i => decide (r i > c)) n + (if decide (r n > c) then 1 else 0) + min (cntF (fun i => decide (r i = c)) n + (if decide (r n = c) then 1 else 0)) m : Nat) : Int)
    rw [eOf_sum n]
    unfold eOf
    simp only [decide_eq_true_eq]
    generalize cntF (fun i => decide (r i > c)) n = x
    generalize cntF (fun i => decide (r i = c)) n = y
    by_cases h1 : r n > c
    · rw [if_pos h1, if_pos h1, if_neg (by (first | lia | omega))]; (first | (simp only [Int.natCast_add, Int.natCast_one] at *; lia) | lia | omega)
    · rw [if_neg h1, if_neg h1]
      by_cases h2 : r n = c
      · rw [if_pos h2]
        by_cases h3 : y < m
        · rw [if_pos ⟨h2, h3⟩]; (first | (simp only [Int.natCast_add, Int.natCast_one] at *; lia) | lia | omega)
        · rw [if_neg (fun z => h3 z.2)]; (first | (simp only [Int.natCast_add, Int.natCast_one] at *; lia) | lia | omega)
      · rw [if_neg h2, if_neg (fun z => h2 z.1)]; (first | (simp; done) | lia | omega)

theorem lr_stab6 {v : List Int} {S : Nat} (hT : 0 < v.sum) (h0 : ∀ p ∈ v, 0 ≤ p) {e : Nat → Nat} (he : ∀ j, j < v.length → e j ≤ 1) (hs : sumF (fun i => ((e i : Nat) : Int)) v.length + (lrQ v S).sum = (S : Int))
    (hr : ∀ i j, i < v.length → j < v.length → e i = 1 → e j = 0 → (lrR v S).getD j 0 ≤ (lrR v S).getD i 0) :
    ∃ a : List Nat, a.length = v.length ∧ (∀ j, j < v.length → ((fn a j : Nat) : Int) = (lrQ v S).getD j 0 + (e j : Int)) ∧ Deal v.length S (lo6 4) (fn a) ∧ Stab v.length (lo6 4) (g6 v S 4) (fn a) ∧
    ∀ i j, i < v.length → j < v.length → i ≠ j → (lo6 4 < fn a i ∧ g6 v S 4 i (fn a i) = g6 v S 4 j (fn a j + 1) ↔ e i = 1 ∧ e j = 0 ∧ (lrR v S).getD i 0 = (lrR v S).getD j 0) := by
  have hq : ∀ j, j < v.length → 0 ≤ (lrQ v S).getD j 0 := fun j hj => by
    unfold lrQ
    rw [getD_map hj]
    refine Int.fdiv_nonneg (Int.mul_nonneg ?_ (Int.natCast_nonneg _)) (Int.le_of_lt hT)
    rw [getD_lt hj]; exact h0 _ (List.getElem_mem hj)
  have ha : ∀ j, j < v.length → ((fn ((List.range v.length).map fun j => ((lrQ v S).getD j 0).toNat + e j) j : Nat) : Int) = (lrQ v S).getD j 0 + (e j : Int) := fun j hj => by
    rw [fn_range hj]
    have := hq j hj
    (first | (simp only [Int.natCast_add, Int.natCast_one] at *; lia) | lia | omega)
  have hlen : ((List.range v.length).map fun j => ((lrQ v S).getD j 0).toNat + e j).length = v.length := by rw [List.length_map, List.length_range]
  refine ⟨(List.range v.length).map fun j => ((lrQ v S).getD j 0).toNat + e j, hlen, ha, ⟨?_, fun i _ => Nat.zero_le _⟩, ?_⟩
  · have h1 : tot (fn ((List.range v.length).map fun j => ((lrQ v S).getD j 0).toNat + e j)) v.length = sumF (fun j => (lrQ v S).getD j 0 - (-(e j : Int))) v.length := sumF_congr fun j hj => by
      show ((fn _ j : Nat) : Int) = _
      rw [ha j hj]; (first | (simp; done) | lia | omega)
    have h2 : ∀ k, k ≤ v.length → sumF (fun j => (lrQ v S).getD j 0) k = ((lrQ v S).take k).sum := fun k => by
      induction k with
      | zero => intro _; rw [List.take_zero]; rfl
      | succ k ih =>
        intro hk
        have hk' : k < (lrQ v S).length := by rw [lrQ_len]; exact hk
        show sumF _ k + (lrQ v S).getD k 0 = _
        rw [ih (Nat.le_of_succ_le hk), List.take_succ_eq_append_getElem hk', List.sum_append, getD_lt hk']
        simp
    have h3 := h2 v.length (Nat.le_refl _)
    rw [List.take_of_length_le (by rw [lrQ_len]; exact Nat.le_refl _)] at h3
    have h4 : sumF (fun j => -(e j : Int)) v.length = -sumF (fun j => (e j : Int)) v.length := by
      have := sumF_sub (F := fun _ => 0) (G := fun j => (e j : Int)) (n := v.length)
      have z : ∀ n, sumF (fun _ => (0 : Int)) n = 0 := by
        intro n; induction n with
        | zero => rfl
        | succ n ih => show sumF _ n + 0 = 0; rw [ih]; rfl
      rw [z] at this
      rw [show -sumF (fun j => (e j : Int)) v.length = 0 - sumF (fun j => (e j : Int)) v.length by (first | (simp; done) | lia | omega), ← this]
      exact sumF_congr fun j _ => by show -(e j : Int) = 0 - (e j : Int); (first | (simp; done) | lia | omega)
    rw [h1, sumF_sub, h3, h4]
    (first | lia | omega)
  generalize fn ((List.range v.length).map fun j => ((lrQ v S).getD j 0).toNat + e j) = a at *
  have hg : ∀ i x, 1 ≤ x → g6 v S 4 i x = v.sum * (2 * ((x : Int) * v.sum - v.getD i 0 * (S : Int)) - v.sum) := fun i x hx => by
    unfold g6
    rw [F6_4, F6_4, show ((x - 1 : Nat) : Int) = (x : Int) - 1 by (first | lia | omega)]
    grind
  have hx : ∀ j, j < v.length → (a j : Int) * v.sum - v.getD j 0 * (S : Int) = (e j : Int) * v.sum - (lrR v S).getD j 0 := fun j hj => by
    rw [ha j hj, lrR_get hj, Int.add_mul]; (first | lia | omega)
  have hx1 : ∀ j, j < v.length → ((a j + 1 : Nat) : Int) * v.sum - v.getD j 0 * (S : Int) = (e j : Int) * v.sum - (lrR v S).getD j 0 + v.sum := fun j hj => by
    have := hx j hj
    rw [show ((a j + 1 : Nat) : Int) = (a j : Int) + 1 by (first | (simp; done) | lia | omega), Int.add_mul, Int.one_mul]; (first | lia | omega)
  have key : ∀ i j, i < v.length → j < v.length → lo6 4 < a i → (g6 v S 4 i (a i) ≤ g6 v S 4 j (a j + 1) ↔ (e i : Int) * v.sum - (lrR v S).getD i 0 ≤ (e j : Int) * v.sum - (lrR v S).getD j 0 + v.sum) ∧ (g6 v S 4 i (a i) = g6 v S 4 j (a j + 1) ↔ (e i : Int) * v.sum - (lrR v S).getD i 0 = (e j : Int) * v.sum - (lrR v S).getD j 0 + v.sum) := fun i j hi hj hl => by
    rw [hg i (a i) hl, hg j (a j + 1) (by (first | (simp; done) | lia | omega)), hx i hi, hx1 j hj]
    generalize (e i : Int) * v.sum - (lrR v S).getD i 0 = X
    generalize (e j : Int) * v.sum - (lrR v S).getD j 0 + v.sum = Y
    have h1 : v.sum * (2 * X - v.sum) ≤ v.sum * (2 * Y - v.sum) ↔ X ≤ Y := ⟨fun z => by have := Int.le_of_mul_le_mul_left z hT; (first | lia | omega), fun z => Int.mul_le_mul_of_nonneg_left (by (first | lia | omega)) (Int.le_of_lt hT)⟩
    have h2 : v.sum * (2 * X - v.sum) = v.sum * (2 * Y - v.sum) ↔ X = Y := ⟨fun z => by have := Int.eq_of_mul_eq_mul_left (Int.ne_of_gt hT) z; (first | lia | omega), fun z => by rw [z]⟩
    exact ⟨h1, h2⟩
  have hz : ∀ {x : Nat}, x ≤ 1 → (x = 0 ∧ (x : Int) * v.sum = 0) ∨ (x = 1 ∧ (x : Int) * v.sum = v.sum) := fun {x} h => by
    rcases (show x = 0 ∨ x = 1 by (first | lia | omega)) with rfl | rfl
    · exact .inl ⟨rfl, Int.zero_mul _⟩
    · exact .inr ⟨rfl, Int.one_mul _⟩
  refine ⟨fun i j hi hj hij hl => (key i j hi hj hl).1.mpr ?_, fun i j hi hj hij => ⟨fun ⟨hl, h⟩ => ?_, fun ⟨h1, h2, h3⟩ => ?_⟩⟩
  · have bi := lr_rng (S := S) hT hi
    have bj := lr_rng (S := S) hT hj
    have := hr i j hi hj
    rcases hz (he i hi) with ⟨e1, e2⟩ | ⟨e1, e2⟩ <;> rcases hz (he j hj) with ⟨e3, e4⟩ | ⟨e3, e4⟩ <;> rw [e2, e4]
    · (first | lia | omega)
    · (first | lia | omega)
    · have := this e1 e3; (first | lia | omega)
    · (first | lia | omega)
  · have h := (key i j hi hj hl).2.mp h
    have bi := lr_rng (S := S) hT hi
    have bj := lr_rng (S := S) hT hj
    rcases hz (he i hi) with ⟨e1, e2⟩ | ⟨e1, e2⟩ <;> rcases hz (he j hj) with ⟨e3, e4⟩ | ⟨e3, e4⟩ <;> rw [e2, e4] at h <;> first | (first | lia | omega) | exact ⟨e1, e3, by (first | lia | omega)⟩
  · have hl : lo6 4 < a i := by
      have := ha i hi
      have := hq i hi
      show 0 < a i
      (first | lia | omega)
    refine ⟨hl, (key i j hi hj hl).2.mpr ?_⟩
    rw [h1, h2, h3]
    show ((1 : Nat) : Int) * v.sum - _ = ((0 : Nat) : Int) * v.sum - _ + v.sum
    rw [show ((1 : Nat) : Int) * v.sum = v.sum from Int.one_mul _, show ((0 : Nat) : Int) * v.sum = 0 from Int.zero_mul _]
    (first | lia | omega)

theorem lr_deal6 {v : List Int} {S : Nat} (h : ∀ p ∈ v, 0 < p) (h1 : 1 ≤ v.length) : ∃ a : List Nat, a.length = v.length ∧ Deal v.length S (lo6 4) (fn a) ∧ Stab v.length (lo6 4) (g6 v S 4) (fn a) ∧ (lrTie v S = false → lrF v S = toI a) ∧
    (lrTie v S = true ↔ ∃ i j, i < v.length ∧ j < v.length ∧ i ≠ j ∧ lo6 4 < fn a i ∧ g6 v S 4 i (fn a i) = g6 v S 4 j (fn a j + 1)) := by
  have hT : 0 < v.sum := sum_pos6 h h1
  have h0 : ∀ p ∈ v, 0 ≤ p := fun p hp => Int.le_of_lt (h p hp)
  obtain ⟨k, c, H⟩ := lr_ok (S := S) hT
  have hlr : (lrR v S).length = v.length := lrR_len
  have hge := cntF_all (p := fun w => decide (w ≥ c)) (lrR v S)
  have hgt := cntF_all (p := fun w => decide (w > c)) (lrR v S)
  have hsp := cntF_split (r := fun i => (lrR v S).getD i 0) (c := c) v.length
  rw [hlr] at hge hgt
  have hcut := H.cut
  have htied := H.tied
  have hnt := H.nt
  have hk := H.hk
  have hge : cge c (lrR v S) = cntF (fun i => decide ((lrR v S).getD i 0 ≥ c)) v.length := hge
  rw [hge] at hcut htied
  rw [hgt] at hnt
  rw [hsp] at hcut htied
  -- the ones that are served
  have hcase : ∀ m, m = k - cntF (fun i => decide ((lrR v S).getD i 0 > c)) v.length → cntF (fun i => decide ((lrR v S).getD i 0 > c)) v.length ≤ k → ∃ a : List Nat, a.length = v.length ∧ (∀ j, j < v.length → ((fn a j : Nat) : Int) = (lrQ v S).getD j 0 + ((eOf (fun i => (lrR v S).getD i 0) c m j : Nat) : Int)) ∧ Deal v.length S (lo6 4) (fn a) ∧ Stab v.length (lo6 4) (g6 v S 4) (fn a) ∧
      ∀ i j, i < v.length → j < v.length → i ≠ j → (lo6 4 < fn a i ∧ g6 v S 4 i (fn a i) = g6 v S 4 j (fn a j + 1) ↔ eOf (fun i => (lrR v S).getD i 0) c m i = 1 ∧ eOf (fun i => (lrR v S).getD i 0) c m j = 0 ∧ (lrR v S).getD i 0 = (lrR v S).getD j 0) := by
    intro m hm hle
    refine lr_stab6 hT h0 (fun j _ => ?_) ?_ (fun i j hi hj e1 e2 => ?_)
    · unfold eOf
      dsimp only
      split
      · exact Nat.le_refl 1
      · split <;> (first | lia | omega)
    · have e : cntF (fun i => decide ((lrR v S).getD i 0 > c)) v.length + min (cntF (fun i => decide ((lrR v S).getD i 0 = c)) v.length) m = k := by rw [hm, Nat.min_eq_right (Nat.sub_le_iff_le_add'.mpr hcut), Nat.add_sub_cancel' hle]
      rw [eOf_sum, e, Int.add_comm]; exact hk
    · unfold eOf at e1 e2
      dsimp only at e1 e2
      have z1 : (lrR v S).getD i 0 ≥ c := by
        refine Int.not_lt.mp fun q => ?_
        rw [if_neg (Int.lt_asymm q), if_neg (fun z => Int.ne_of_lt q z.1)] at e1; cases e1
      have z2 : (lrR v S).getD j 0 ≤ c := by
        refine Int.not_lt.mp fun q => ?_
        rw [if_pos q] at e2; cases e2
      exact Int.le_trans z2 z1
  by_cases ht : lrTie v S = true
  · have q1 := htied.mp ht
    have q2 := hnt ht
    have hE := Nat.sub_lt_left_of_lt_add (Nat.le_of_lt q2) q1
    obtain ⟨a, a1, a2, a3, a4, a5⟩ := hcase _ rfl (Nat.le_of_lt q2)
    refine ⟨a, a1, a3, a4, fun z => (by rw [ht] at z; cases z), fun _ => ?_, fun _ => ht⟩
    obtain ⟨i, i1, i2, i3⟩ := cntF_at (p := fun i => decide ((lrR v S).getD i 0 = c)) (n := v.length) (m := 0) (Nat.lt_of_le_of_lt (Nat.zero_le _) hE)
    obtain ⟨j, j1, j2, j3⟩ := cntF_at (p := fun i => decide ((lrR v S).getD i 0 = c)) (n := v.length) (m := k - cntF (fun i => decide ((lrR v S).getD i 0 > c)) v.length) hE
    have i2 := of_decide_eq_true i2
    have j2 := of_decide_eq_true j2
    have hij : i ≠ j := fun z => by rw [z] at i3; exact Nat.sub_ne_zero_of_lt q2 (j3.symm.trans i3)
    refine ⟨i, j, i1, j1, hij, (a5 i j i1 j1 hij).mpr ⟨?_, ?_, i2.trans j2.symm⟩⟩
    · unfold eOf
      dsimp only
      rw [if_neg (by rw [i2]; exact Int.lt_irrefl c), if_pos ⟨i2, by rw [i3]; exact Nat.sub_pos_of_lt q2⟩]
    · unfold eOf
      dsimp only
      rw [if_neg (by rw [j2]; exact Int.lt_irrefl c), if_neg (fun z => by have := z.2; rw [j3] at this; exact Nat.lt_irrefl _ this)]
  · have ht' : lrTie v S = false := by simpa using ht
    have hck : cge c (lrR v S) = k := by
      have : ¬ k < cntF (fun i => decide ((lrR v S).getD i 0 > c)) v.length + cntF (fun i => decide ((lrR v S).getD i 0 = c)) v.length := fun z => ht (htied.mpr z)
      rw [hge, hsp]; exact Nat.le_antisymm (Nat.not_lt.mp this) hcut
    have hck2 := hck
    rw [hge, hsp] at hck2
    obtain ⟨a, a1, a2, a3, a4, a5⟩ := hcase _ rfl (Nat.le.intro hck2)
    have he : ∀ j, j < v.length → eOf (fun i => (lrR v S).getD i 0) c (k - cntF (fun i => decide ((lrR v S).getD i 0 > c)) v.length) j = if (lrR v S).getD j 0 ≥ c then 1 else 0 := fun j hj => by
      unfold eOf
      dsimp only
      by_cases z1 : (lrR v S).getD j 0 > c
      · rw [if_pos z1, if_pos (Int.le_of_lt z1)]
      · rw [if_neg z1]
        by_cases z2 : (lrR v S).getD j 0 = c
        · have hlt : cntF (fun i => decide ((lrR v S).getD i 0 = c)) j < cntF (fun i => decide ((lrR v S).getD i 0 = c)) v.length := by
            have hmono : ∀ d, cntF (fun i => decide ((lrR v S).getD i 0 = c)) (j + 1) ≤ cntF (fun i => decide ((lrR v S).getD i 0 = c)) (j + 1 + d) := by
              intro d
              induction d with
              | zero => exact Nat.le_refl _
              | succ d ih => exact Nat.le_trans ih (Nat.le_add_right _ _)
            have := hmono (v.length - (j + 1))
            rw [Nat.add_sub_cancel' hj] at this
            have e : cntF (fun i => decide ((lrR v S).getD i 0 = c)) (j + 1) = cntF (fun i => decide ((lrR v S).getD i 0 = c)) j + 1 := by
              show _ + (if decide ((lrR v S).getD j 0 = c) = true then 1 else 0) = _
              rw [if_pos (decide_eq_true z2)]
            rw [e] at this; exact this
          rw [if_pos ⟨z2, by rw [← hck2, Nat.add_sub_cancel_left]; exact hlt⟩, if_pos (Int.le_of_eq z2.symm)]
        · rw [if_neg (fun z => z2 z.1), if_neg (fun z => z1 (Int.lt_iff_le_and_ne.mpr ⟨z, fun w => z2 w.symm⟩))]
    refine ⟨a, a1, a3, a4, fun _ => ?_, fun z => absurd z ht, fun ⟨i, j, hi, hj, hij, z⟩ => ?_⟩
    · refine list_ext (by rw [H.len, List.length_map, a1]) fun j hj => ?_
      rw [H.len] at hj
      rw [toI_get, a2 j hj, he j hj]
      rw [ht'] at H
      rw [lr_at_nt H hck j hj]
      split <;> rfl
    · obtain ⟨e1, e2, e3⟩ := (a5 i j hi hj hij).mp z
      rw [he i hi] at e1
      rw [he j hj] at e2
      rw [e3] at e1
      (first | lia | omega)
end Mine
end

section
open PySem PySem.W PyProof.Rows PySem.Calls PySem.SeqAt
set_option linter.unusedVariables false
set_option maxRecDepth 100000
namespace Mine

section
variable {W : Wk} {A : Around} {hid : PMap} {env : Env} {vars : Vars} {mu : Mu} {K : Out → Prop}

end
end Mine
end

section
open PySem PySem.W PyProof.Rows PySem.Calls PySem.SeqAt
set_option linter.unusedVariables false
set_option maxRecDepth 100000
namespace Mine

section
variable {W : Wk} {A : Around} {hid : PMap} {env : Env} {vars : Vars} {mu : Mu} {K : Out → Prop}

theorem seen_mono {S : Nat} {ws : List (List Int)} {m : Int} {r : List Int} {i j : Nat} (h : i ≤ j) (e : tieSeen S ws m r i = true) : tieSeen S ws m r j = true := by
  unfold tieSeen at *
  obtain ⟨k, hk, q⟩ := List.any_eq_true.mp e
  exact List.any_eq_true.mpr ⟨k, List.mem_range.mpr (Nat.lt_of_lt_of_le (List.mem_range.mp hk) h), q⟩
theorem tieFold_go {S : Nat} {ws : List (List Int)} {m : Int} {r : List Int} {i : Nat} {b : Bool} (e : (decide ((tieFold S ws m r i).sum < (S : Int)) && has m (ws.getD i [])) = b) :
    tieFold S ws m r (i + 1) = if b = true then (tieFold S ws m r i).set i ((tieFold S ws m r i).getD i 0 + 1) else tieFold S ws m r i := by
  rw [tieFold_succ]; unfold tieStep; rw [e]

set_option maxHeartbeats 400000 in
theorem div_loopG {a L C : Addr} {dV kV doc pm an cdv ct} {votes : List Int} {S : Nat} {ta : Bool} {ws : List (List Int)} {D : Addr} {r1 : List Int} {m : Int} {outer} (N : Names W) (X : ta = false → OwnX W "TiesException" C) (ao : AOk W A 0) (FX : ta = false → tieSeen S ws m r1 votes.length = true → FrX A hid (dEnv p1 a L dV kV doc pm an cdv ct) outer)
    (hv : votes.length ≤ 100) (hr1 : r1.length = votes.length) (hws : ws.length = votes.length) (hlt : r1.sum < (S : Int))
    (hs : ∀ x, (scopeOf p1 "divisor").names.lookup x = some .local ∨ (scopeOf p1 "divisor").names.lookup x = some .cell → Sto hid (dEnv p1 a L dV kV doc pm an cdv ct) x) :
    Ex1 W A hid (dEnv p1 a L dV kV doc pm an cdv ct) (vE votes S ta false D ws m) [(D, r1.map .int)] ((bodyOf p1 "divisor").getD 4 (.Pass default))
      (fun o => (∃ b, (ta = false → tieSeen S ws m r1 votes.length = false ∧ b = false) ∧ o = .next (vE votes S ta b D ws m) [(D, (tieFold S ws m r1 votes.length).map .int)]) ∨ (ta = false ∧ tieSeen S ws m r1 votes.length = true ∧ ∃ v mm, o = .exc (.ref C) v mm)) := by
  have E : EnvOk (dEnv p1 a L dV kV doc pm an cdv ct) := ⟨rfl, rfl, rfl⟩
  have loc : ∀ {D : Addr} {r : List PV} {mm : Mu}, AsList ((D, r) :: mm) (.loc D) r := fun {D r mm} => .inr ⟨D, rfl, .head _⟩
  refine ex_if (x := decide ((S : Int) > r1.sum)) (tr_cmp (ev_name rfl rfl) (ev_sum N E ao.handled (ev_name rfl rfl) loc rfl rfl) rfl c_gt) (fun _ => ?_) (fun e => absurd hlt (of_decide_eq_false e))
  refine exs_cons (ex_forG (K := fun o => (∃ b, (ta = false → tieSeen S ws m r1 votes.length = false ∧ b = false) ∧ o = .next (vE votes S ta b D ws m) [(D, (tieFold S ws m r1 votes.length).map .int)]) ∨ (ta = false ∧ tieSeen S ws m r1 votes.length = true ∧ ∃ v mm, o = .exc (.ref C) v mm))
    (d := .rng 0 (votes.length : Int)) (its := (List.range votes.length).map fun (i : Nat) => PV.int (i : Int)) (fun i v mm => ∃ b, (ta = false → tieSeen S ws m r1 i = false ∧ b = false) ∧ v = vE votes S ta b D ws m ∧ mm = [(D, (tieFold S ws m r1 i).map .int)]) ?_ ao.handled ?_ (fun _ _ _ _ => src_rng (Nat.lt_of_le_of_lt hv (by decide))) ⟨false, fun _ => ⟨rfl, rfl⟩, rfl, rfl⟩ (hs _ (.inl rfl)) rfl rfl (fun _ => rfl) ?_ ?_) ?_ (fun o e hn => e)
  · by_cases h : ta = false ∧ tieSeen S ws m r1 votes.length = true
    · exact .inl ⟨outer, FX h.1 h.2⟩
    · refine .inr fun x v m q => ?_
      rcases q with ⟨_, _, e⟩ | ⟨h1, h2, _⟩
      · cases e
      · exact h ⟨h1, h2⟩
  · rw [show ((votes.length : Nat) : Int) = ((votes.map PV.int).length : Nat) by rw [List.length_map]]
    exact ev_range1 N E (ev_len N E (ev_name rfl rfl) AsList.list (by rw [List.length_map]; exact Nat.lt_of_le_of_lt hv (by decide)) rfl rfl) rfl rfl
  · rintro hid' i v mm x hsto hfx hx ⟨b, hb, rfl, rfl⟩
    rw [List.getElem?_map] at hx
    obtain ⟨i', hi1, rfl⟩ := Option.map_eq_some_iff.mp hx
    have hlt' := lt_of_get hi1
    rw [List.length_range] at hlt'
    rw [List.getElem?_range hlt'] at hi1
    cases hi1
    have hlen : (tieFold S ws m r1 i).length = votes.length := by rw [tieFold_len, hr1]
    have hle5 : votes.length ≤ 100000 := Nat.le_trans hv (by decide)
    have hwl : i < ws.length := by rw [hws]; exact hlt'
    have hfl : i < (tieFold S ws m r1 i).length := by rw [hlen]; exact hlt'
    have hsucc := tieSeen_succ (S := S) (ws := ws) (m := m) (r := r1) (n := i)
    refine exs_cons (K' := fun o => (∃ b v', (ta = false → tieSeen S ws m r1 (i + 1) = false ∧ b = false) ∧ o = .next v' [(D, (tieFold S ws m r1 i).map .int)] ∧ Sub (("i", .int (i : Int)) :: vE votes S ta b D ws m) v') ∨ (ta = false ∧ tieSeen S ws m r1 votes.length = true ∧ ∃ v mm, o = .exc (.ref C) v mm))
      (ex_if (x := ((tieFold S ws m r1 i).sum == (S : Int)) && has m (ws.getD i [])) ?_ (fun e => ?_) (fun e => exs_nil (.inl ⟨b, _, fun h => ⟨by rw [hsucc, (hb h).1, e]; rfl, (hb h).2⟩, rfl, fun x d h => h⟩))) ?_ ?_
    · refine tr_and2 (tr_cmp (ev_sum N E ao.handled (ev_name rfl rfl) loc rfl rfl) (ev_name rfl rfl) rfl c_eq) fun _ => ?_
      exact tr_cmp (ev_name rfl rfl) (ev_lidx (xs := ws) (ev_name rfl rfl) (ev_name rfl rfl) AsList.list hwl (by rw [hws]; exact hle5)) rfl (c_ini AsList.list)
    · have htrue : tieSeen S ws m r1 votes.length = true := seen_mono (i := i + 1) hlt' (by rw [hsucc, e, Bool.or_true])
      refine exs_cons (ex_if (x := !b) (tr_not (tr_name_bool rfl rfl fun _ => rfl)) (fun e2 => ?_) (fun e2 => exs_nil (.inl ⟨b, _, fun h => ?_, rfl, fun x d h => h⟩))) (fun v m e => exs_nil e) (fun o e _ => e)
      · refine exs_cons (K' := fun o => (ta = true ∧ o = .next (("i", .int (i : Int)) :: vE votes S ta b D ws m) [(D, (tieFold S ws m r1 i).map .int)]) ∨ (ta = false ∧ ∃ v mm, o = .exc (.ref C) v mm)) (ex_if (x := !ta) (tr_not (tr_name_bool rfl rfl fun _ => rfl)) (fun e3 => ?_) (fun e3 => exs_nil (.inl ⟨by simpa using e3, rfl⟩))) ?_ ?_
        · have hta : ta = false := by simpa using e3
          exact exs_cons (ex_raise N.ok (X hta) (hfx outer (FX hta htrue)) ao.handled (gname_g E (X hta).own.bound rfl (by decide +kernel)) ev_str rfl) (fun v m e => nomatch e) (fun o e _ => .inr ⟨hta, _, _, e⟩)
        · rintro v mm (⟨h, e⟩ | ⟨_, _, _, e⟩)
          · cases e
            exact exs_next (ex_assign ev_bool (hsto _ (hs _ (.inl rfl))) rfl rfl rfl) (exs_nil (.inl ⟨true, (_ : Vars), (fun h2 => absurd (h.symm.trans h2) (by decide)), rfl, by walk_at "sub"⟩))
          · cases e
        · rintro o (⟨_, e⟩ | ⟨h, v, mm, e⟩) hn
          · exact absurd e (hn _ _)
          · exact .inr ⟨h, htrue, v, mm, e⟩
      · rw [(hb h).2] at e2; cases e2
    · rintro v mm (⟨b', v', hb', e, hsub⟩ | ⟨_, _, _, _, e⟩)
      · cases e
        refine run_forget hsub (List.Sublist.refl _) ?_
        have hgo := fun {b} => tieFold_go (S := S) (ws := ws) (m := m) (r := r1) (i := i) (b := b)
        refine exs_cons (K' := fun o => ∃ v', o = .next v' [(D, (tieFold S ws m r1 (i + 1)).map .int)] ∧ Sub (vE votes S ta b' D ws m) v')
          (ex_if (x := (decide ((tieFold S ws m r1 i).sum < (S : Int))) && has m (ws.getD i [])) ?_ (fun e => ?_) (fun e => ?_)) (fun v m ⟨v', e, h⟩ => by cases e; exact exs_nil ⟨_, _, h, List.Sublist.refl _, b', hb', rfl, rfl⟩) (fun o ⟨v', e, _⟩ hn => absurd e (hn _ _))
        · refine tr_and2 (tr_cmp (ev_sum N E ao.handled (ev_name rfl rfl) loc rfl rfl) (ev_name rfl rfl) rfl c_lt) fun _ => ?_
          exact tr_cmp (ev_name rfl rfl) (ev_lidx (xs := ws) (ev_name rfl rfl) (ev_name rfl rfl) AsList.list hwl (by rw [hws]; exact hle5)) rfl (c_ini AsList.list)
        · rw [hgo e, if_pos rfl]
          refine exs_next (ex_augitem (m1 := []) (m2 := []) (a := D) (k := (i : Int)) (ev_name rfl rfl) (ev_name rfl rfl) ev_int (Int.natCast_nonneg i) (by rw [List.length_map]; exact Int.ofNat_lt.mpr hfl) (by rw [List.length_map, hlen]; exact hle5) (by rw [Int.toNat_natCast]; exact getD_map_int _ _ hfl) a_add (fun _ _ _ => rfl)) (exs_nil ⟨("i", .int (i : Int)) :: vE votes S ta b' D ws m, ?_, by walk_at "sub"⟩)
          rw [Int.toNat_natCast, List.map_set]; rfl
        · rw [hgo e, if_neg (by decide)]
          exact exs_nil ⟨_, rfl, by walk_at "sub"⟩
      · cases e
    · rintro o (⟨_, _, _, e, _⟩ | h) hn
      · exact absurd e (hn _ _)
      · obtain ⟨h1, h2, v, mm, e⟩ := h
        subst e; exact .inr ⟨h1, h2, v, mm, rfl⟩
  · rintro v mm ⟨b, hb, rfl, rfl⟩
    rw [List.length_map, List.length_range] at *
    exact .inl ⟨b, hb, rfl⟩
  · rintro v mm e
    exact exs_nil e
end
end Mine
end

section
open PySem PySem.W PyProof.Rows PySem.Calls PySem.SeqAt
set_option linter.unusedVariables false
set_option maxRecDepth 100000
namespace Mine

theorem deal_lt {ws : List (List Int)} {r0 : List Int} {S : Nat} (hl : ws.length = r0.length) (h1 : r0.sum < (S : Int)) (h2 : (S : Int) - r0.sum ≤ ws.flatten.length) :
    (r1Of r0 ws (cutOf r0 (sortI ws.flatten) S) r0.length).sum < (S : Int) := by
  obtain ⟨T, hT⟩ : ∃ T : Nat, (T : Int) = S - r0.sum := ⟨((S : Int) - r0.sum).toNat, by (first | lia | omega)⟩
  have hsl := sortI_len ws.flatten
  have hcut : cutOf r0 (sortI ws.flatten) S = (sortI ws.flatten).getD ((sortI ws.flatten).length - T) 0 := cut_at hT h1
  have hc := (cut_counts (sortI_sorted ws.flatten) (T := T) (by (first | lia | omega)) (by (first | lia | omega))).1
  rw [← hcut, cntP_perm (sortI_perm _), cntP_flatten] at hc
  rw [sum_deal _ r0.length r0 ws rfl hl]
  (first | lia | omega)
theorem divR1_lt {r : Rule} {v : List Int} {S : Nat} (hn : 1 ≤ v.length) (hgt : (S : Int) > (base r v).sum) : (divR1 r v S).sum < (S : Int) := by
  have hbl := base_len r v
  have hb0 := (base_sum r v).1
  have hS1 : 1 ≤ S := by (first | lia | omega)
  have hdl := divs_len r S hS1
  have hwl : (divW r v S).length = (base r v).length := by unfold divW wsOf; rw [List.length_map, hbl]
  have hfl : (divW r v S).flatten.length = v.length * S := by unfold divW; rw [flat_len, hdl]
  have hle : S ≤ v.length * S := Nat.le_mul_of_pos_left _ hn
  have := deal_lt (ws := divW r v S) (r0 := base r v) (S := S) hwl hgt (by rw [hfl]; (first | lia | omega))
  have e1 : divR1 r v S = r1Of (base r v) (divW r v S) (divM r v S) (base r v).length := by rw [hbl]; exact if_pos hgt
  rw [e1]; exact this

section
variable {W : Wk} {A : Around} {hid : PMap} {env : Env} {vars : Vars} {mu : Mu} {K : Out → Prop}

theorem div_specG {a : Addr} {T C : Addr} {oT : Obj} {dv : Value} {nT : Nat} {votes : List Int} {S B : Nat} {nm : Str} {r : Rule} {ta : Bool} (N : Names W) (X : ta = false → OwnX W "TiesException" C) (DA : DefAt W p1 "divisor" a (.ref T)) (hT : W.base.get? T = some oT) (hTd : oT.data = .seq #[dv] nT) (P : DivPre r votes S B nm) :
    FnP W (ta = false) (.ref a) 1 [listI votes, .int S, .str nm, .bool ta] (fun d => (ta = false → divTie r votes S = false) ∧ d = listI (divF r votes S)) (fun x => ta = false ∧ divTie r votes S = true ∧ x = .ref C) := by
  obtain ⟨hm, kV, doc, pm, an, cdv, ct, F⟩ := DA
  refine fn_introP (fun _ h => h.1) N.ok F [("votes", listI votes), ("seats", .int S), ("method", .str nm), ("tiesallowed", .bool ta)] ["votes", "seats", "method", "tiesallowed"] rfl (by show paramsOk (scopeOf p1 "divisor") _ = true; decide +kernel) (by decide +kernel) ?_ ?_
  · intro g h t us kb kg is
    cases is with
    | cons i1 is => cases is with
      | cons i2 is => cases is with
        | cons i3 is => cases is with
          | cons i4 is =>
            cases is
            exact ⟨_, BindsTo.of_defaults rfl (kb _ _ hT) hTd rfl rfl, .cons i1 (.cons i2 (.cons i3 (.cons i4 .nil)))⟩
  · intro A hid L outer ao FX hs
    have E : EnvOk (dEnv p1 a L (.ref T) kV doc pm an cdv ct) := ⟨rfl, rfl, rfl⟩
    show Exs _ _ _ _ _ _ ((bodyOf p1 "divisor").take 3 ++ (bodyOf p1 "divisor").drop 3) _
    have hbl := base_len r votes
    have hl1 : (divR1 r votes S).length = votes.length := by unfold divR1 r1Of; split <;> simp [hbl]
    have hwl : (divW r votes S).length = votes.length := by unfold divW wsOf; rw [List.length_map]
    refine div_deal N ao P hs (fun hgt D => ?_) (fun hgt D => ?_)
    · have eT : divTie r votes S = tieSeen S (divW r votes S) (divM r votes S) (divR1 r votes S) votes.length := by unfold divTie; rw [decide_eq_true hgt, Bool.true_and]
      refine exs_next (ex_assign ev_bool (hs _ (.inl rfl)) rfl rfl rfl) ?_
      refine exs_cons (div_loopG N X ao (fun h1 _ => FX h1) P.hv hl1 hwl (divR1_lt P.hn hgt) hs) ?_ ?_
      · rintro v m (⟨b, hb, e⟩ | ⟨_, _, _, _, e⟩)
        · cases e
          have hx : (b && !ta) = false := by
            cases ta with
            | true => simp
            | false => rw [(hb rfl).2]; rfl
          refine exs_next (ex_if (x := (b && !ta)) (tr_and2 (tr_name_bool rfl rfl fun _ => rfl) fun _ => tr_not (tr_name_bool rfl rfl fun _ => rfl)) (fun e => by rw [hx] at e; cases e) (fun _ => exs_nil rfl)) ?_
          exact exs_cons (ex_retloc (ev_name rfl rfl) (.head _)) (fun v m e => nomatch e) (fun o e _ => .inl ⟨_, ⟨fun h => by rw [eT]; exact (hb h).1, rfl⟩, e⟩)
        · cases e
      · rintro o (⟨_, _, e⟩ | ⟨h, ht, v, m, e⟩) hn
        · exact absurd e (hn _ _)
        · exact .inr ⟨_, v, m, ⟨h, by rw [eT]; exact ht, rfl⟩, e⟩
    · have eT : divTie r votes S = false := by unfold divTie; rw [decide_eq_false hgt]; rfl
      refine exs_next (ex_assign ev_bool (hs _ (.inl rfl)) rfl rfl rfl) ?_
      have e : divR1 r votes S = base r votes := if_neg hgt
      have e2 : divF r votes S = divR1 r votes S := by unfold divF; rw [tieFold_full (by rw [e]; omega)]
      refine exs_next (ex_if (x := false) ?_ (fun e => nomatch e) (fun _ => exs_nil rfl)) ?_
      · rw [show false = decide ((S : Int) > (divR1 r votes S).sum) by rw [e]; simpa using hgt]
        exact tr_cmp (ev_name rfl rfl) (ev_sum N E ao.handled (ev_name rfl rfl) (.inr ⟨D, rfl, .head _⟩) rfl rfl) rfl c_gt
      refine exs_next (ex_if (x := (false && !ta)) (tr_and2 (tr_name_bool rfl rfl fun _ => rfl) fun _ => tr_not (tr_name_bool rfl rfl fun _ => rfl)) (fun e => nomatch e) (fun _ => exs_nil rfl)) ?_
      exact exs_cons (ex_retloc (ev_name rfl rfl) (.head _)) (fun v m e => nomatch e) (fun o ho _ => .inl ⟨_, ⟨fun _ => eT, by rw [e2]⟩, ho⟩)
end
end Mine
end

section
open PySem PySem.W PyProof.Rows PySem.Calls PySem.SeqAt
set_option linter.unusedVariables false
set_option maxRecDepth 100000
namespace Mine

theorem evargs_str {W : Wk} {A : Around} {hid : PMap} {env : Env} {vars : Vars} {mu : Mu} {x : Str} {k : Nat} {p : Pos} {es ds} (h : EvArgs W A hid env vars mu es ds) : EvArgs W A hid env vars mu (.Constant (.str x) k p :: es) (.str x :: ds) := evargs_cons ev_str h rfl
noncomputable def allNames : List Str := ["dhondt", "jefferson", "saintelague", "webster", "modified_saintelague", "huntington", "hill", "adams", "dean", "smallestdivisor", "harmonicmean", "equalproportions", "majorfractions", "greatestdivisors"]
noncomputable def lrNames : List Str := ["lrm", "hamilton", "largest_remainder"]
noncomputable def allR : List Rule := [.jeff, .web, .modi, .hill, .adams, .dean]
theorem mem_allR : ∀ r : Rule, r ∈ allR := by intro r; cases r <;> decide
noncomputable def nameOk (r : Rule) (x : Str) : Bool := !(x == ("quota" : Str)) && !(lrNames.any (· == x)) && allNames.any (· == x) && allR.all fun q => (ruleNames q).any (· == x) == decide (q = r)
theorem nameOks : (allR.all fun r => (ruleNames r).all (nameOk r)) = true := by decide +kernel
theorem names_ok (r : Rule) (x : Str) (hx : x ∈ ruleNames r) : (x == ("quota" : Str)) = false ∧ lrNames.any (· == x) = false ∧ allNames.any (· == x) = true ∧ ∀ q : Rule, (ruleNames q).any (· == x) = decide (q = r) := by
  have h := List.all_eq_true.mp (List.all_eq_true.mp nameOks r (mem_allR r)) x hx
  unfold nameOk at h
  simp only [Bool.and_eq_true, Bool.not_eq_true'] at h
  obtain ⟨⟨⟨h1, h2⟩, h3⟩, h4⟩ := h
  exact ⟨h1, h2, h3, fun q => by simpa using List.all_eq_true.mp h4 q (mem_allR q)⟩

section
variable {W : Wk} {A : Around} {hid : PMap} {env : Env} {vars : Vars} {mu : Mu} {K : Out → Prop}

theorem ev_call_def {x : Str} {np pos : Pos} {a : Addr} {dV : Value} {n : Nat} {e : Expr} {es : List Expr} {ds : List PV} {d : PV} (N : Names W) (E : EnvOk env) (ao : AOk W A n) (DA : DefAt W p1 x a dV) (hx : env.kindOf x = some .globalImplicit) (hdb : (x == ("__debug__" : Str)) = false)
    (ha : EvArgs W A hid env vars mu (e :: es) ds) (hf : Fn W (.ref a) n ds d) (hs : starEach (e :: es) env = (false, eval e env) :: starEach es env) : Ev W A hid env vars mu (.Call (.Name x np) (e :: es) [] pos) d := by
  obtain ⟨hm, kV, doc, pm, an, cdv, ct, F⟩ := DA
  obtain ⟨o, ho, hd⟩ := F.obj
  exact ev_call_fn N.ok ao (gname_g E hm hx hdb) ho hd ha hf hs

set_option genInjectivity false in
set_option genSizeOfSpec false in
structure Defs (W : Wk) where
  nm : Names W
  at_ : Addr
  hat : DefAt W p1 "apply_threshold" at_ .none
  dv : Addr
  dvT : Addr
  dvo : Obj
  dvv : Value
  dvn : Nat
  hdv : DefAt W p1 "divisor" dv (.ref dvT)
  hdvT : W.base.get? dvT = some dvo
  hdvd : dvo.data = .seq #[dvv] dvn
  cp : Addr
  cpT : Addr
  cpo : Obj
  cpn : Nat
  hcp : DefAt W p1 "compute" cp (.ref cpT)
  hcpT : W.base.get? cpT = some cpo
  hcpd : cpo.data = .seq #[.none, .bool true] cpn

theorem at_spec (D : Defs W) (l : List PV) : Fn W (.ref D.at_) 1 [.list l, .none] (.list l) := by
  obtain ⟨hm, kV, doc, pm, an, cdv, ct, F⟩ := D.hat
  refine fn_intro D.nm.ok F [("votes", .list l), ("threshold", .none)] ["votes", "threshold"] rfl (by show paramsOk (scopeOf p1 "apply_threshold") _ = true; decide +kernel) (by decide +kernel) ?_ ?_
  · intro g h t us kb kg is
    cases is with
    | cons i1 is => cases is with
      | cons i2 is =>
        cases is
        exact ⟨_, BindsTo.of_eq rfl, .cons i1 (.cons i2 .nil)⟩
  · intro A hid L ao hs
    refine exs_cons (K' := (· = .ret (.list l))) (ex_if (x := false) (tr_cmp (ev_name rfl rfl) ev_none rfl (c_isnn (by intro v e; cases e))) (fun e => by cases e) (fun _ => ?_)) (fun v m e => by cases e) (fun o e _ => .inl e)
    refine exs_cons (ex_ret (ev_name rfl rfl)) (fun v m e => by cases e) (fun o e _ => e)

theorem ev_call_defG {x : Str} {np pos : Pos} {a : Addr} {dV : Value} {n : Nat} {e : Expr} {es : List Expr} {ds : List PV} {P : Prop} {Kd : PV → Prop} {Xx : Value → Prop} {outer} (N : Names W) (E : EnvOk env) (ao : AOk W A n) (F : P → FrX A hid env outer) (hXP : ∀ x, Xx x → P) (DA : DefAt W p1 x a dV) (hx : env.kindOf x = some .globalImplicit) (hdb : (x == ("__debug__" : Str)) = false)
    (ha : EvArgs W A hid env vars mu (e :: es) ds) (hf : FnP W P (.ref a) n ds Kd Xx) (hs : starEach (e :: es) env = (false, eval e env) :: starEach es env) : EvG W A hid env vars mu (.Call (.Name x np) (e :: es) [] pos) Kd Xx := by
  obtain ⟨hm, kV, doc, pm, an, cdv, ct, Fa⟩ := DA
  obtain ⟨o, ho, hd⟩ := Fa.obj
  exact ev_call_core N.ok ao F hXP (gname_g E hm hx hdb) ho hd ha hf hs

noncomputable abbrev cpVars (nm : Str) (votes : List Int) (S : Nat) (ta : Bool) : Vars := [("method", .str nm), ("votes", listI votes), ("seats", .int S), ("threshold", .none), ("tiesallowed", .bool ta)]
inductive CpArgs (nm : Str) (votes : List Int) (S : Nat) : Bool → List PV → Prop where
  | three : CpArgs nm votes S true [.str nm, listI votes, .int S]
  | five {ta} : CpArgs nm votes S ta [.str nm, listI votes, .int S, .none, .bool ta]
theorem cp_binds (D : Defs W) {nm : Str} {votes : List Int} {S : Nat} {ta : Bool} {args : List PV} (c : CpArgs nm votes S ta args) {kV doc pm an cdv ct} {g : PMap} {h : Heap} {t : Nat} {us : List Value} (kb : ∀ a o, W.base.get? a = some o → h.get? a = some o) (is : Iss g args us) :
    ∃ binds, BindsTo (W.S h t) (fnOf "compute" "compute" (argsOf p1 "compute") (bodyOf p1 "compute") (scopeOf p1 "compute") (.ref D.cpT) kV doc pm an cdv ct) ⟨us, []⟩ binds ∧ Binds g (cpVars nm votes S ta) binds := by
  cases c with
  | three =>
    cases is with
    | cons i1 is => cases is with
      | cons i2 is => cases is with
        | cons i3 is =>
          cases is
          exact ⟨_, BindsTo.of_defaults rfl (kb _ _ D.hcpT) D.hcpd rfl rfl, .cons i1 (.cons i2 (.cons i3 (.cons .none (.cons .bool .nil))))⟩
  | five =>
    cases is with
    | cons i1 is => cases is with
      | cons i2 is => cases is with
        | cons i3 is => cases is with
          | cons i4 is => cases is with
            | cons i5 is =>
              cases is
              exact ⟨_, BindsTo.of_defaults rfl (kb _ _ D.hcpT) D.hcpd rfl rfl, .cons i1 (.cons i2 (.cons i3 (.cons i4 (.cons i5 .nil))))⟩
theorem not_next {K : PV → Prop} {X : Value → Prop} {o : Out} {v m} (h : (∃ d, K d ∧ o = .ret d) ∨ ∃ x v m, X x ∧ o = .exc x v m) : o ≠ .next v m := by
  rcases h with ⟨_, _, e⟩ | ⟨_, _, _, _, e⟩ <;> subst e <;> intro z <;> cases z

set_option maxHeartbeats 400000 in
theorem cp_specG (D : Defs W) {C : Addr} {votes : List Int} {S B : Nat} {nm : Str} {r : Rule} {ta : Bool} {args : List PV} (X : ta = false → OwnX W "TiesException" C) (hr : nm ∈ ruleNames r) (P : DivPre r votes S B nm) (ca : CpArgs nm votes S ta args) :
    FnP W (ta = false) (.ref D.cp) 2 args (fun d => (ta = false → divTie r votes S = false) ∧ d = listI (divF r votes S)) (fun x => ta = false ∧ divTie r votes S = true ∧ x = .ref C) := by
  have N := D.nm
  obtain ⟨n1, n2, n3, n4⟩ := names_ok r nm hr
  have DC := D.hcp
  obtain ⟨hm, kV, doc, pm, an, cdv, ct, F⟩ := DC
  refine fn_introP (fun _ h => h.1) N.ok F (cpVars nm votes S ta) ["method", "votes", "seats", "threshold", "tiesallowed"] rfl (by show paramsOk (scopeOf p1 "compute") _ = true; decide +kernel) (by decide +kernel) (fun g h t us kb kg is => cp_binds D ca kb is) ?_
  intro A hid L outer ao FX hs
  refine exs_next (ex_assign (ev_call_def N ⟨rfl, rfl, rfl⟩ ao D.hat rfl (by decide +kernel) (by walk_at "args") (at_spec D _) rfl) (hs _ (.inl rfl)) rfl rfl rfl) ?_
  refine exs_cons (ex_if (x := (nm == ("quota" : Str))) (tr_cmp (ev_name rfl rfl) ev_str rfl c_eqs) (fun e => by rw [n1] at e; cases e) (fun _ => ?_)) (fun v m e => absurd rfl (not_next e)) (fun o e _ => e)
  refine exs_cons (ex_if (x := lrNames.any (· == nm)) ?_ (fun e => by rw [n2] at e; cases e) (fun _ => ?_)) (fun v m e => absurd rfl (not_next e)) (fun o e _ => e)
  · refine ev_in (ns := lrNames) (d := .list (lrNames.map PV.str)) (ev_name rfl rfl) ?_ ?_ rfl
    · refine ev_list ?_ ?_
      · iterate 3 refine evargs_str ?_
        exact evargs_nil
      · exact Nat.le_of_ble_eq_true rfl
    · exact AsList.list
  refine exs_cons (ex_if (x := allNames.any (· == nm)) ?_ (fun _ => ?_) (fun e => by rw [n3] at e; cases e)) (fun v m e => absurd rfl (not_next e)) (fun o e _ => e)
  · refine ev_in (ns := allNames) (d := .list (allNames.map PV.str)) (ev_name rfl rfl) ?_ ?_ rfl
    · refine ev_list ?_ ?_
      · iterate 14 refine evargs_str ?_
        exact evargs_nil
      · exact Nat.le_of_ble_eq_true rfl
    · exact AsList.list
  refine exs_cons (ex_retG (ev_call_defG N ⟨rfl, rfl, rfl⟩ ao FX (fun _ h => h.1) D.hdv rfl (by decide +kernel) (by walk_at "args") (div_specG N X D.hdv D.hdvT D.hdvd P) rfl)) ?_ ?_
  · rintro v m (⟨_, _, e⟩ | ⟨_, _, e⟩) <;> cases e
  · rintro o (e | ⟨x, hx, e⟩) _
    · exact .inl e
    · exact .inr ⟨x, _, _, hx, e⟩
theorem cp_spec (D : Defs W) {votes : List Int} {S B : Nat} {nm : Str} {r : Rule} (hr : nm ∈ ruleNames r) (P : DivPre r votes S B nm) :
    Fn W (.ref D.cp) 2 [.str nm, listI votes, .int S] (listI (divF r votes S)) :=
  (cp_specG (ta := true) (C := 0) D (fun h => nomatch h) hr P .three).imp (fun h => nomatch h) (fun _ h => h.2) fun _ h => nomatch h.1
theorem cp_specX (D : Defs W) {C : Addr} (X : OwnX W "TiesException" C) {votes : List Int} {S B : Nat} {nm : Str} {r : Rule} (hr : nm ∈ ruleNames r) (P : DivPre r votes S B nm) :
    FnG W (.ref D.cp) 2 [.str nm, listI votes, .int S, .none, .bool false] (fun d => divTie r votes S = false ∧ d = listI (divF r votes S)) (fun x => divTie r votes S = true ∧ x = .ref C) :=
  (cp_specG D (fun _ => X) hr P .five).imp (fun _ => trivial) (fun _ h => ⟨h.1 rfl, h.2⟩) fun _ h => h.2
end
end Mine
end

section
open PySem PySem.W PyProof.Rows PySem.Calls PySem.SeqAt
set_option linter.unusedVariables false
set_option maxRecDepth 100000
namespace Mine
section
variable {W : Wk} {A : Around} {hid : PMap} {env : Env} {vars : Vars} {mu : Mu} {K K' : Out → Prop}

structure GData (W : Wk) (x : Str) (d : PV) : Prop where
  v : ∃ v, W.mg x = some v ∧ Is (fun a => W.base.get? a) d v
theorem ev_gdata {x : Str} {pos : Pos} {d} (N : Names W) (E : EnvOk env) (G : GData W x d) (hx : env.kindOf x = some .globalImplicit) (hd : (x == ("__debug__" : Str)) = false) : Ev W A hid env vars mu (.Name x pos) d := fun g h t Q Ee R k => by
  obtain ⟨v, hm, i⟩ := G.v
  exact name_global N.ok (gname_g E hm hx hd) R (k v g h t (Le.refl g) R (i.mono fun a o e => R.bs a o e))

theorem ex_for_xs {α : Type} {x : Str} {p pos : Pos} {e : Expr} {body : List Stmt} {d : PV} (mk : α → PV) (xs : List α) (J : Nat → Vars → Mu → Prop) (hh : A.handled = none) (he : Ev W A hid env vars mu e d) (hsrc : ∀ i v m, J i v m → Src m d (xs.map mk)) (h0 : J 0 vars mu)
    (hs : Sto hid env x) (hk : env.scope.kind = .function) (hd : (x == ("__debug__" : Str)) = false) (hf : ∀ x, foldedSetIterable e env x = pure x)
    (turn : ∀ hid' i v m a, (∀ y, Sto hid env y → Sto hid' env y) → xs[i]? = some a → J i v m → Exs W A hid' env ((x, mk a) :: v) m body (TurnK (J (i + 1)) K))
    (done : ∀ v m, J xs.length v m → K (.next v m)) : Ex1 W A hid env vars mu (.For (.Name x p) e body [] pos) K := by
  refine ex_for J hh he hsrc h0 hs hk hd hf (fun hid' i v m a hsto ha hJ => ?_) (fun v m hJ => done v m (by rw [List.length_map] at hJ; exact hJ))
  rw [List.getElem?_map] at ha
  obtain ⟨b, hb, rfl⟩ := Option.map_eq_some_iff.mp ha
  exact turn hid' i v m b hsto hb hJ
theorem ex_for_rng {x : Str} {p pos : Pos} {e : Expr} {body : List Stmt} {n : Nat} (J : Nat → Vars → Mu → Prop) (hh : A.handled = none) (he : Ev W A hid env vars mu e (.rng 0 (n : Int))) (hn : n < 2 ^ 61) (h0 : J 0 vars mu)
    (hs : Sto hid env x) (hk : env.scope.kind = .function) (hd : (x == ("__debug__" : Str)) = false) (hf : ∀ x, foldedSetIterable e env x = pure x)
    (turn : ∀ hid' i v m, (∀ y, Sto hid env y → Sto hid' env y) → i < n → J i v m → Exs W A hid' env ((x, .int (i : Int)) :: v) m body (TurnK (J (i + 1)) K))
    (done : ∀ v m, J n v m → K (.next v m)) : Ex1 W A hid env vars mu (.For (.Name x p) e body [] pos) K := by
  refine ex_for_xs (fun (i : Nat) => PV.int (i : Int)) (List.range n) J hh he (fun _ _ _ _ => src_rng hn) h0 hs hk hd hf (fun hid' i v m a hsto ha hJ => ?_) (fun v m hJ => done v m (by rw [List.length_range] at hJ; exact hJ))
  have hlt := lt_of_get ha
  rw [List.length_range] at hlt
  rw [List.getElem?_range hlt] at ha
  cases ha
  exact turn hid' i v m hsto hlt hJ
theorem ev_and2b {a b : Expr} {pos} {x y : Bool} (ha : Ev W A hid env vars mu a (.bool x)) (hb : x = true → Ev W A hid env vars mu b (.bool y)) : Ev W A hid env vars mu (.BoolOp .And [a, b] pos) (.bool (x && y)) :=
  ev_and (x := x) ha rfl (fun e => by subst e; rfl) (fun e => by subst e; exact hb rfl)

end

theorem fmod_lt (a : Int) {b : Nat} (h : 0 < b) : ∃ u : Nat, u < b ∧ a.fmod (b : Int) = (u : Int) := by
  have h0 : (0 : Int) < b := Int.ofNat_lt.mpr h
  have h1 := Int.fmod_nonneg_of_pos a h0
  have h2 := Int.fmod_lt_of_pos a h0
  exact ⟨(a.fmod b).toNat, (Int.toNat_lt h1).mpr h2, (Int.toNat_of_nonneg h1).symm⟩
end Mine
end

section
open PySem PySem.W PyProof.Rows PySem.Calls PySem.SeqAt
set_option linter.unusedVariables false
set_option maxRecDepth 100000
namespace Mine
section
variable {W : Wk} {A : Around} {hid : PMap} {env : Env} {vars : Vars} {mu : Mu} {K K' : Out → Prop}

theorem exs_set {x : Str} {p pos : Pos} {e : Expr} {d : PV} {rest : List Stmt} (he : Ev W A hid env vars mu e d) (hs : Sto hid env x) (hsw : swapsWith e (some (.Name x p)) pos.line env = pure false) (hk : env.scope.kind = .function) (hd : (x == ("__debug__" : Str)) = false)
    (k : Exs W A hid env ((x, d) :: vars) mu rest K) : Exs W A hid env vars mu (.Assign [.Name x p] e pos :: rest) K := exs_next (ex_assign he hs hsw hk hd) k
theorem exs_ret {e : Expr} {pos : Pos} {d : PV} {rest : List Stmt} (he : Ev W A hid env vars mu e d) (k : K (.ret d)) : Exs W A hid env vars mu (.Return (some e) pos :: rest) K :=
  exs_cons (ex_ret he) (fun v m e => nomatch e) (fun o e _ => by subst e; exact k)
theorem exs_go {c : Bool} {cond e : Expr} {p q : Pos} {d : PV} {rest : List Stmt} (hc : Tr W A hid env vars mu cond c) (ht : c = true → Ev W A hid env vars mu e d ∧ K (.ret d)) (hf : c = false → Exs W A hid env vars mu rest K) :
    Exs W A hid env vars mu (.If cond [.Return (some e) p] [] q :: rest) K := by
  cases c with
  | true => exact exs_cons (K' := (· = .ret d)) (ex_if hc (fun _ => exs_ret (ht rfl).1 rfl) (fun e => nomatch e)) (fun v m e => nomatch e) (fun o e _ => by subst e; exact (ht rfl).2)
  | false => exact exs_next (ex_if hc (fun e => nomatch e) (fun _ => exs_nil rfl)) (hf rfl)
theorem exs_skip {cond : Expr} {b : List Stmt} {q : Pos} {rest : List Stmt} (hc : Tr W A hid env vars mu cond false) (k : Exs W A hid env vars mu rest K) : Exs W A hid env vars mu (.If cond b [] q :: rest) K :=
  exs_next (ex_if hc (fun e => nomatch e) (fun _ => exs_nil rfl)) k

theorem isEmpty_ints {l : List Int} : ((l.map PV.int).isEmpty) = decide (l = []) := by cases l <;> simp

theorem ev_sc0 {x : Str} {ns : List Int} {z c : Int} {q1 q2 q3 q4 q5 q6 : Pos} {k1 k2 : Nat} (E : EnvOk env) (hx : vars.lookup x = some (listI ns)) (hn : ns.length ≤ 63) (hz : z = 0)
    (hf : ∀ v : Sem Value, isTrue (.Name x q1) env v = (do let y ← v; standAt (Expr.Name x q1).pos; holding [y] (truthy y))) :
    Ev W A hid env vars mu (.IfExp (.Name x q1) (.Subscript (.Name x q2) (.Constant (.int z) k1 q3) q4) (.Constant (.int c) k2 q5) q6) (.int (ns.getD 0 c)) := by
  subst hz
  refine ev_if (x := !decide (ns = [])) ?_ (fun e => ?_) (fun e => ?_)
  · refine tr_of (d := listI ns) (ev_name hx E.kind) ?_ hf
    show (_ = !(ns.map PV.int).isEmpty) ∧ _
    rw [isEmpty_ints, List.length_map]
    exact ⟨rfl, by (first | lia | omega)⟩
  · have h0 : 0 < ns.length := List.length_pos_iff.mpr (by simpa using e)
    refine ev_idx (l := ns.map .int) (ev_name hx E.kind) ev_int AsList.list (by (first | (simp; done) | lia | omega)) (by rw [List.length_map]; (first | lia | omega)) (by rw [List.length_map]; (first | lia | omega)) ?_
    rw [show idx 0 (ns.map PV.int).length = 0 from idx_nat 0 _]
    rw [List.getElem?_map, List.getD, List.getElem?_eq_getElem h0]; rfl
  · have h0 : ns = [] := by simpa using e
    subst h0
    exact ev_int
theorem ev_scK {x : Str} {ns : List Int} {z c : Int} {k : Nat} {np q1 q2 q3 q4 q5 q6 q7 q8 q9 : Pos} {k1 k2 k3 : Nat} (N : Names W) (E : EnvOk env) (hx : vars.lookup x = some (listI ns)) (hn : ns.length ≤ 63) (hz : z = (k : Int))
    (hl : env.kindOf "len" = some .globalImplicit) (hs : starEach [.Name x q1] env = [(false, eval (.Name x q1) env)]) :
    Ev W A hid env vars mu (.IfExp (.Compare (.Call (.Name "len" np) [.Name x q1] [] q2) [.Gt] [.Constant (.int z) k1 q3] q4) (.Subscript (.Name x q5) (.Constant (.int z) k2 q6) q7) (.Constant (.int c) k3 q8) q9) (.int (ns.getD k c)) := by
  subst hz
  refine ev_if (x := decide (((ns.map PV.int).length : Nat) > (k : Int))) (tr_cmp (ev_len N E (ev_name hx E.kind) AsList.list (by rw [List.length_map]; (first | lia | omega)) hl hs) ev_int rfl c_gt) (fun e => ?_) (fun e => ?_)
  · have h0 : k < ns.length := by
      have := of_decide_eq_true e
      rw [List.length_map] at this
      (first | lia | omega)
    refine ev_idx (l := ns.map .int) (ev_name hx E.kind) ev_int AsList.list (by (first | (simp; done) | lia | omega)) (by rw [List.length_map]; (first | lia | omega)) (by rw [List.length_map]; (first | lia | omega)) ?_
    rw [idx_nat, List.getElem?_map, List.getD, List.getElem?_eq_getElem h0]; rfl
  · have h0 : ns.length ≤ k := by
      have := of_decide_eq_false e
      rw [List.length_map] at this
      (first | lia | omega)
    rw [List.getD, List.getElem?_eq_none h0]
    exact ev_int

noncomputable abbrev strsV (l : List Str) : PV := .list (l.map .str)
noncomputable def pick (l : List Str) (z : Int) : Str := l.getD (z.fmod (l.length : Nat)).toNat ""
theorem pick_mem {l : List Str} {z : Int} (h : 0 < l.length) : pick l z ∈ l := by
  obtain ⟨u, hu, e⟩ := fmod_lt z h
  unfold pick
  rw [e, Int.toNat_natCast, List.getD, List.getElem?_eq_getElem hu]
  exact List.getElem_mem _
theorem ev_pick {e1 e2 e3 : Expr} {np p1 p2 pos : Pos} {z : Int} {l : List Str} (N : Names W) (E : EnvOk env) (h0 : 0 < l.length) (h9 : l.length ≤ 100) (h1 : Ev W A hid env vars mu e1 (strsV l)) (h2 : Ev W A hid env vars mu e2 (.int z)) (h3 : Ev W A hid env vars mu e3 (strsV l))
    (hx : env.kindOf "len" = some .globalImplicit) (hs : starEach [e3] env = [(false, eval e3 env)]) :
    Ev W A hid env vars mu (.Subscript e1 (.BinOp e2 .Mod (.Call (.Name "len" np) [e3] [] p1) p2) pos) (.str (pick l z)) := by
  obtain ⟨u, hu, e⟩ := fmod_lt z h0
  have hm := ev_mod (pos := p2) h2 (ev_len (np := np) (pos := p1) N E h3 AsList.list (by rw [List.length_map]; (first | lia | omega)) hx hs) (by rw [List.length_map]; (first | lia | omega))
  rw [List.length_map, e] at hm
  refine ev_idx (l := l.map .str) h1 hm AsList.list (by (first | (simp; done) | lia | omega)) (by rw [List.length_map]; (first | lia | omega)) (by rw [List.length_map]; (first | lia | omega)) ?_
  rw [List.length_map, idx_nat, List.getElem?_map, List.getElem?_eq_getElem hu]
  unfold pick
  rw [e, Int.toNat_natCast, List.getD, List.getElem?_eq_getElem hu]; rfl

theorem AOk.less {n m : Nat} (a : AOk W A n) (h : m ≤ n) : AOk W A m := ⟨a.handled, by have := a.depth; (first | lia | omega), by have := a.units; (first | lia | omega), a.frames⟩
end

theorem sliceP_map {α β : Type} (f : α → β) (l : List α) (lo hi) : sliceP (l.map f) lo hi = (sliceP l lo hi).map f := by
  unfold sliceP; rw [List.length_map, List.map_take, List.map_drop]
theorem sliceP_mem {α : Type} {l : List α} {lo hi} {x : α} (h : x ∈ sliceP l lo hi) : x ∈ l := List.mem_of_mem_drop (List.mem_of_mem_take h)
theorem clip_cast (n a : Nat) : clipAt n (a : Int) = min a n := by
  unfold clipAt
  rw [if_neg (Int.not_lt.mpr (Int.natCast_nonneg a))]
  rcases Nat.le_total a n with h | h
  · rw [Int.min_eq_left (Int.ofNat_le.mpr h), Int.max_eq_right (Int.natCast_nonneg _), Int.toNat_natCast, Nat.min_eq_left h]
  · rw [Int.min_eq_right (Int.ofNat_le.mpr h), Int.max_eq_right (Int.natCast_nonneg _), Int.toNat_natCast, Nat.min_eq_right h]
theorem min_sub (a b n : Nat) : min b n - min a n ≤ b - a := by
  rcases Nat.le_total a n with h | h
  · rw [Nat.min_eq_left h]; exact Nat.sub_le_sub_right (Nat.min_le_left _ _) _
  · rw [Nat.min_eq_right h, Nat.sub_eq_zero_of_le (Nat.min_le_right _ _)]; exact Nat.zero_le _
theorem sliceP_len {α : Type} (l : List α) (a b : Nat) : (sliceP l (some (a : Int)) (some (b : Int))).length ≤ b - a := by
  unfold sliceP
  rw [List.length_take]
  show min (clipAt l.length (b : Int) - clipAt l.length (a : Int)) _ ≤ b - a
  rw [clip_cast, clip_cast]
  exact Nat.le_trans (Nat.min_le_left _ _) (min_sub _ _ _)
theorem sliceP_to {α : Type} (l : List α) (b : Nat) : sliceP l none (some (b : Int)) = l.take b := by
  unfold sliceP
  show (l.drop 0).take (clipAt l.length (b : Int) - 0) = _
  rw [clip_cast, List.drop_zero, Nat.sub_zero]
  rcases Nat.le_total b l.length with h | h
  · rw [Nat.min_eq_left h]
  · rw [Nat.min_eq_right h, List.take_length, List.take_of_length_le h]
theorem sliceP_from {α : Type} (l : List α) (a : Nat) : sliceP l (some (a : Int)) none = l.drop a := by
  unfold sliceP
  show (l.drop (clipAt l.length (a : Int))).take (l.length - clipAt l.length (a : Int)) = _
  rw [clip_cast]
  rcases Nat.le_total a l.length with h | h
  · rw [Nat.min_eq_left h, List.take_of_length_le (by rw [List.length_drop]; (first | exact Nat.le_refl _ | lia | omega))]
  · rw [Nat.min_eq_right h, List.drop_of_length_le h, List.drop_of_length_le (Nat.le_refl _)]; simp
section
variable {W : Wk} {A : Around} {hid : PMap} {env : Env} {vars : Vars} {mu : Mu} {K K' : Out → Prop}
end
theorem well_list {P : Params} {h : Heap} {l : Addr} {d : WData} {arr : Array Value} (w : Well P h (.ref l) d) (hl : h.IsList l arr) : ∃ n, h.get? l = some (lobj arr n) := by
  obtain ⟨o, e, hc, n, hd⟩ := hl
  cases w with
  | list q _ =>
    rw [e] at q
    cases q
    cases hd
    exact ⟨_, e⟩
  | bytearray q => rw [e] at q; cases q; cases hd
  | tuple q _ => rw [e] at q; cases q; exact absurd hc (fun z => by injection z with z; exact absurd z (by decide))
  | dict q _ => rw [e] at q; cases q; cases hd
  | set q _ _ _ => rw [e] at q; cases q; cases hd
  | frozenset q _ _ _ => rw [e] at q; cases q; cases hd
  | obj q _ _ _ => rw [e] at q; cases q; cases hd
theorem bits_lt {a : Int} {k : Nat} (h : Builtin.Int.intBits a ≤ k) : a.natAbs < 2 ^ k := by
  unfold Builtin.Int.intBits at h
  split at h
  · rename_i h0
    have : a = 0 := by simpa using h0
    subst this
    exact Nat.two_pow_pos k
  · rename_i h0
    have hn : a.natAbs ≠ 0 := by
      intro z; apply h0; simp; (first | lia | omega)
    exact (Nat.log2_lt hn).mp h

theorem defAt_mk {W : Wk} {n : Str} {a : Addr} {dV : Value} {K : Frag} (X : K.In W.base) (hm : W.mg n = some (.ref a)) {o : Obj} (ho : K.lookup a = some o) {kV doc pm an cdv ct} (hd : o.data = .func (fnOf n n (argsOf p1 n) (bodyOf p1 n) (scopeOf p1 n) dV kV doc pm an cdv ct))
    (hc : codeIn K cdv n = true) (hs : (scopeOf p1 n).isCoroutine = false ∧ (scopeOf p1 n).isGenerator = false ∧ (scopeOf p1 n).kind = .function) : DefAt W p1 n a dV :=
  ⟨hm, kV, doc, pm, an, cdv, ct, ⟨⟨o, X _ _ ho, hd⟩, codeRec_of X hc, rfl, rfl, rfl, rfl, hs.1, hs.2.1, hs.2.2⟩⟩
theorem mapLe {α β : Type} {l : List α} {f : α → β} (h : l.length ≤ 63) : (l.map f).length ≤ 100000 := by rw [List.length_map]; exact Nat.le_trans h (by decide)
theorem mapLt {α β : Type} {l : List α} {f : α → β} (h : l.length ≤ 63) : (l.map f).length < 2 ^ 62 := by rw [List.length_map]; exact Nat.lt_of_le_of_lt h (by decide)
theorem le5 {n : Nat} (h : n ≤ 63) : n ≤ 100000 := Nat.le_trans h (by decide)
theorem lt61 {n : Nat} (h : n ≤ 63) : n < 2 ^ 61 := Nat.lt_of_le_of_lt h (by decide)
theorem lt62 {n : Nat} (h : n ≤ 63) : n < 2 ^ 62 := Nat.lt_of_le_of_lt h (by decide)

section
variable {W : Wk} {A : Around} {hid : PMap} {env : Env} {vars : Vars} {mu : Mu} {K : Out → Prop}
theorem ev_lenI {x : Str} {np q1 q2 : Pos} {ns : List Int} (N : Names W) (E : EnvOk env) (hx : vars.lookup x = some (listI ns)) (hn : ns.length ≤ 63) (hl : env.kindOf "len" = some .globalImplicit) (hs : starEach [.Name x q1] env = [(false, eval (.Name x q1) env)]) :
    Ev W A hid env vars mu (.Call (.Name "len" np) [.Name x q1] [] q2) (.int (ns.length : Nat)) := by
  have := ev_len (np := np) (pos := q2) N E (ev_name (A := A) (hid := hid) (mu := mu) (pos := q1) hx E.kind) AsList.list (mapLt hn) hl hs
  rw [List.length_map] at this
  exact this

end
end Mine
end

section
open PySem PySem.W PyProof.Rows PySem.Calls PySem.SeqAt
set_option linter.unusedVariables false
set_option maxRecDepth 100000
namespace Mine

section
variable {W : Wk} {A : Around} {hid : PMap} {env : Env} {vars : Vars} {mu : Mu} {K : Out → Prop}
noncomputable abbrev rEnv (p : Program) (a L : Addr) (dV kV doc pm : Value) (an : Option Addr) (cdv ct : Value) : Env := fEnv (fnOf "largest_remainder" "largest_remainder" (argsOf p "largest_remainder") (bodyOf p "largest_remainder") (scopeOf p "largest_remainder") dV kV doc pm an cdv ct) a L
noncomputable abbrev vR (v : List Int) (S : Nat) (ta b : Bool) (D : Addr) : Vars := [("ties", .bool b), ("representatives", .loc D), ("votes", listI v), ("seats", .int S), ("tiesallowed", .bool ta)]
noncomputable abbrev vR2 (v : List Int) (S : Nat) (ta b : Bool) (D : Addr) (rem : List Int) (c : Int) : Vars := [("ties", .bool b), ("cutoff", .int c), ("remainders", listI rem), ("representatives", .loc D), ("votes", listI v), ("seats", .int S), ("tiesallowed", .bool ta)]

theorem lr_loop {a L : Addr} {dV kV doc pm an cdv ct} {v rem : List Int} {S : Nat} {ta : Bool} {c : Int} {D : Addr} {r : List Int} (N : Names W) (ao : AOk W A 0) (hn : v.length ≤ 63) (hr : r.length = v.length) (hrem : rem.length = v.length)
    (hs : ∀ x, (scopeOf p1 "largest_remainder").names.lookup x = some .local ∨ (scopeOf p1 "largest_remainder").names.lookup x = some .cell → Sto hid (rEnv p1 a L dV kV doc pm an cdv ct) x) :
    Ex1 W A hid (rEnv p1 a L dV kV doc pm an cdv ct) (vR2 v S ta false D rem c) [(D, r.map .int)] (match (bodyOf p1 "largest_remainder").getD 4 (.Pass default) with | .If _ b _ _ => b.getD 2 (.Pass default) | _ => .Pass default)
      (· = .next (vR2 v S ta (lrFold S rem c r v.length).2 D rem c) [(D, ((lrFold S rem c r v.length).1).map .int)]) := by
  have E : EnvOk (rEnv p1 a L dV kV doc pm an cdv ct) := ⟨rfl, rfl, rfl⟩
  have st : ∀ x, ((scopeOf p1 "largest_remainder").names.lookup x == some .local || (scopeOf p1 "largest_remainder").names.lookup x == some .cell) = true → Sto hid (rEnv p1 a L dV kV doc pm an cdv ct) x := fun x h => hs x (by
    rw [Bool.or_eq_true, beq_iff_eq, beq_iff_eq] at h; exact h)
  have loc : ∀ {D : Addr} {r : List PV} {mm : Mu}, AsList ((D, r) :: mm) (.loc D) r := fun {D r mm} => .inr ⟨D, rfl, .head _⟩
  refine ex_for_rng (n := v.length) (fun i vv mm => vv = vR2 v S ta (lrFold S rem c r i).2 D rem c ∧ mm = [(D, ((lrFold S rem c r i).1).map .int)]) ao.handled (ev_range1 N E (ev_lenI N E rfl hn rfl rfl) rfl rfl) (lt61 hn) ⟨rfl, rfl⟩ (st _ rfl) rfl rfl (fun _ => rfl) ?_ ?_
  · rintro hid' i vv mm hsto hi ⟨rfl, rfl⟩
    have hlen : (lrFold S rem c r i).1.length = v.length := lrFold_len.trans hr
    have hsucc := lrFold_succ (S := S) (rem := rem) (c := c) (r := r) (n := i)
    rw [hsucc]
    unfold lrStep
    generalize lrFold S rem c r i = s at *
    have st' : ∀ x, ((scopeOf p1 "largest_remainder").names.lookup x == some .local || (scopeOf p1 "largest_remainder").names.lookup x == some .cell) = true → Sto hid' (rEnv p1 a L dV kV doc pm an cdv ct) x := fun x h => hsto x (st x h)
    refine exs_set (ev_sum N E ao.handled (ev_name rfl rfl) loc rfl rfl) (st' _ rfl) rfl rfl rfl ?_
    have hri : ∀ {b : Bool} {p1' p2 p3 : Pos}, Ev W A hid' (rEnv p1 a L dV kV doc pm an cdv ct) (("reps_sum", .int s.1.sum) :: ("i", .int (i : Int)) :: vR2 v S ta b D rem c) [(D, s.1.map .int)] (.Subscript (.Name "remainders" p1') (.Name "i" p2) p3) (.int (rem.getD i 0)) :=
      ev_iidx (xs := rem) (ev_name rfl rfl) (ev_name rfl rfl) AsList.list (by rw [hrem]; exact hi) (by rw [hrem]; exact le5 hn)
    have hinc : ∀ {b : Bool} {p1' p2 p3 p4 p5 : Pos}, Ex1 W A hid' (rEnv p1 a L dV kV doc pm an cdv ct) (("reps_sum", .int s.1.sum) :: ("i", .int (i : Int)) :: vR2 v S ta b D rem c) [(D, s.1.map .int)] (.AugAssign (.Subscript (.Name "representatives" p1') (.Name "i" p2) p3) .Add (.Constant (.int 1) 0 p4) p5)
        (· = .next (("reps_sum", .int s.1.sum) :: ("i", .int (i : Int)) :: vR2 v S ta b D rem c) [(D, (s.1.set i (s.1.getD i 0 + 1)).map .int)]) := by
      intro b p1' p2 p3 p4 p5
      have := ex_augitem (W := W) (A := A) (hid := hid') (env := rEnv p1 a L dV kV doc pm an cdv ct) (vars := ("reps_sum", .int s.1.sum) :: ("i", .int (i : Int)) :: vR2 v S ta b D rem c) (m1 := []) (m2 := []) (a := D) (l := s.1.map .int) (k := (i : Int)) (o := .Name "representatives" p1') (i := .Name "i" p2) (p := p3) (e := .Constant (.int 1) 0 p4) (pos := p5) (op := .Add) (ev_name rfl rfl) (ev_name rfl rfl) ev_int (Int.natCast_nonneg i) (by rw [List.length_map, hlen]; exact Int.ofNat_lt.mpr hi) (by rw [List.length_map, hlen]; exact le5 hn) (by rw [Int.toNat_natCast]; exact getD_map_int _ _ (by rw [hlen]; exact hi)) a_add (fun _ _ _ => rfl)
      rw [Int.toNat_natCast] at this
      rw [List.map_set]; exact this
    have fin : ∀ {b : Bool} {rr : List Int} {X : List Int × Bool}, X = (rr, b) → TurnK (fun vv mm => vv = vR2 v S ta X.2 D rem c ∧ mm = [(D, X.1.map .int)]) (· = .next (vR2 v S ta (lrFold S rem c r v.length).2 D rem c) [(D, ((lrFold S rem c r v.length).1).map .int)]) (.next (("reps_sum", .int s.1.sum) :: ("i", .int (i : Int)) :: vR2 v S ta b D rem c) [(D, rr.map .int)]) := by
      intro b rr X e
      subst e
      exact ⟨_, _, by walk_at "sub", List.Sublist.refl _, rfl, rfl⟩
    refine exs_cons (ex_if (x := (s.1.sum == (S : Int)) && decide (rem.getD i 0 ≥ c)) (tr_and2 (tr_cmp (ev_name rfl rfl) (ev_name rfl rfl) rfl c_eq) fun _ => tr_cmp hri (ev_name rfl rfl) rfl c_ge) (fun e => ?_) (fun e => ?_)) (fun v m e => exs_nil e) (fun o e _ => e)
    · rw [if_pos e]
      refine exs_cons (K' := fun o => ∃ vv, o = .next vv [(D, s.1.map .int)] ∧ Sub (vR2 v S ta true D rem c) vv) (ex_if (x := !s.2) (tr_not (tr_name_bool rfl rfl fun _ => rfl)) (fun e2 => exs_set ev_bool (st' _ rfl) rfl rfl rfl (exs_nil ⟨_, rfl, by walk_at "sub"⟩)) (fun e2 => exs_nil ⟨_, rfl, ?_⟩)) (fun v m ⟨vv, e, h⟩ => by cases e; exact exs_nil ⟨_, _, h, List.Sublist.refl _, rfl, rfl⟩) (fun o ⟨vv, e, _⟩ hn => absurd e (hn _ _))
      have : s.2 = true := by simpa using e2
      rw [this]; walk_at "sub"
    · rw [if_neg (by rw [e]; decide)]
      refine exs_cons (ex_if (x := decide (s.1.sum < (S : Int)) && decide (rem.getD i 0 > c)) (tr_and2 (tr_cmp (ev_name rfl rfl) (ev_name rfl rfl) rfl c_lt) fun _ => tr_cmp hri (ev_name rfl rfl) rfl c_gt) (fun e => ?_) (fun e => ?_)) (fun v m e => exs_nil e) (fun o e _ => e)
      · rw [if_pos e]
        exact exs_next hinc (exs_nil (fin rfl))
      · rw [if_neg (by rw [e]; decide)]
        refine exs_cons (ex_if (x := decide (s.1.sum < (S : Int)) && (rem.getD i 0 == c)) (tr_and2 (tr_cmp (ev_name rfl rfl) (ev_name rfl rfl) rfl c_lt) fun _ => tr_cmp hri (ev_name rfl rfl) rfl c_eq) (fun e => ?_) (fun e => ?_)) (fun v m e => exs_nil e) (fun o e _ => e)
        · rw [if_pos e]
          exact exs_next hinc (exs_nil (fin rfl))
        · rw [if_neg (by rw [e]; decide)]
          exact exs_nil (fin rfl)
  · rintro vv mm ⟨rfl, rfl⟩; rfl

theorem lr_spec {a : Addr} {T C : Addr} {oT : Obj} {dv : Value} {nT : Nat} {v : List Int} {S B : Nat} {ta : Bool} (N : Names W) (X : ta = false → OwnX W "TiesException" C) (DA : DefAt W p1 "largest_remainder" a (.ref T)) (hT : W.base.get? T = some oT) (hTd : oT.data = .seq #[dv] nT) (P : LrPre v S B) :
    FnP W (ta = false) (.ref a) 1 [listI v, .int S, .bool ta] (fun d => (ta = false → lrTie v S = false) ∧ d = listI (lrF v S)) (fun x => ta = false ∧ lrTie v S = true ∧ x = .ref C) := by
  obtain ⟨hm, kV, doc, pm, an, cdv, ct, F⟩ := DA
  refine fn_introP (fun _ h => h.1) N.ok F [("votes", listI v), ("seats", .int S), ("tiesallowed", .bool ta)] ["votes", "seats", "tiesallowed"] rfl (by show paramsOk (scopeOf p1 "largest_remainder") _ = true; decide +kernel) (by decide +kernel) ?_ ?_
  · intro g h t us kb kg is
    cases is with
    | cons i1 is => cases is with
      | cons i2 is => cases is with
        | cons i3 is =>
          cases is
          exact ⟨_, BindsTo.of_defaults rfl (kb _ _ hT) hTd rfl rfl, .cons i1 (.cons i2 (.cons i3 .nil))⟩
  · intro A hid L outer ao FX hs
    have E : EnvOk (rEnv p1 a L (.ref T) kV doc pm an cdv ct) := ⟨rfl, rfl, rfl⟩
    have st : ∀ x, ((scopeOf p1 "largest_remainder").names.lookup x == some .local || (scopeOf p1 "largest_remainder").names.lookup x == some .cell) = true → Sto hid (rEnv p1 a L (.ref T) kV doc pm an cdv ct) x := fun x h => hs x (by
      rw [Bool.or_eq_true, beq_iff_eq, beq_iff_eq] at h; exact h)
    have loc : ∀ {D : Addr} {r : List PV} {mm : Mu}, AsList ((D, r) :: mm) (.loc D) r := fun {D r mm} => .inr ⟨D, rfl, .head _⟩
    have hn := P.n63
    have hS0 : (S : Int) ≠ 0 := by have := P.s1; (first | lia | omega)
    have hT0 : v.sum ≠ 0 := Int.ne_of_gt P.sum
    have hSs : ((S : Nat) : Int).natAbs < 2 ^ 100 := by rw [Int.natAbs_natCast]; exact P.sS
    have inj : ∀ a b : Int, PV.tup [.int (a * (S : Int)), .int v.sum] = PV.tup [.int (b * (S : Int)), .int v.sum] → a = b := fun a b h => by
      injection h with h; injection h with h1 _; injection h1 with h1
      exact Int.eq_of_mul_eq_mul_right hS0 h1
    have hB := P.hB
    show Exs _ _ _ _ _ _ ((bodyOf p1 "largest_remainder").getD 0 (.Pass default) :: (bodyOf p1 "largest_remainder").drop 1) _
    refine exs_skip (by
      rw [show false = ((S : Int) == 0) from (beq_eq_false_iff_ne.mpr hS0).symm]
      exact tr_cmp (ev_name rfl rfl) ev_int rfl c_eq) ?_
    show Exs _ _ _ _ _ _ ((bodyOf p1 "largest_remainder").getD 1 (.Pass default) :: (bodyOf p1 "largest_remainder").getD 2 (.Pass default) :: (bodyOf p1 "largest_remainder").getD 3 (.Pass default) :: (bodyOf p1 "largest_remainder").getD 4 (.Pass default) :: (bodyOf p1 "largest_remainder").drop 5) _
    refine exs_set (d := .list (v.map fun p => .tup [.int (p * (S : Int)), .int v.sum])) ?_ (st _ rfl) rfl rfl rfl ?_
    · exact EvNew.ev (evnew_compA (α := Int) (mk := .int) (xs := v) (f := fun p => .tup [.int (p * (S : Int)), .int v.sum]) (d := listI v) (vars' := [("votes", listI v), ("seats", .int S)]) (tv := fun p => [("p", .int p), ("votes", listI v), ("seats", .int S)])
        ⟨inj_int, ao.handled, rfl, ev_name rfl rfl, .list AsList.list, ⟨rfl, rfl, by decide⟩, by walk_at "over", fun _ => rfl, .any fun _ _ => rfl, le5 hn, fun hid' C x _ o => tgt_name (store_own hid' rfl) rfl rfl, fun hid' C x hx => ev_tup2 (ev_mul (ev_toint N ⟨rfl, rfl, rfl⟩ (ev_name rfl rfl) rfl rfl) (ev_name rfl rfl) (mulOk (P.small x hx) hSs (by (first | lia | omega)))) (ev_toint N ⟨rfl, rfl, rfl⟩ (ev_sum N ⟨rfl, rfl, rfl⟩ ao.handled (ev_name rfl rfl) AsList.list rfl rfl) rfl rfl) rfl rfl, fun x _ => by walk_at "sub"⟩)
    refine exs_own (ds := (lrQ v S).map .int) (ex_own ?_ (st _ rfl) rfl rfl rfl) (fun D => ?_)
    · have e : (lrQ v S).map PV.int = v.map fun p => .int ((p * (S : Int)).fdiv v.sum) := by unfold lrQ; rw [List.map_map]; rfl
      rw [e]
      exact evnew_compA (α := Int) (mk := fun p => .tup [.int (p * (S : Int)), .int v.sum]) (xs := v) (f := fun p => .int ((p * (S : Int)).fdiv v.sum)) (d := .list (v.map fun p => .tup [.int (p * (S : Int)), .int v.sum])) (vars' := []) (tv := fun p => [("qu", .tup [.int (p * (S : Int)), .int v.sum])])
        ⟨inj, ao.handled, rfl, ev_name rfl rfl, .list AsList.list, ⟨rfl, rfl, by decide⟩, .nil, fun _ => rfl, .any fun _ _ => rfl, le5 hn, fun hid' C x _ o => tgt_name (store_own hid' rfl) rfl rfl, fun hid' C x hx => ev_fdiv N.ok ao (ev_pair0 (ev_name rfl rfl) ev_int) (ev_pair1 (ev_name rfl rfl) ev_int) hT0, fun x _ => .nil⟩
    refine exs_set ev_bool (st _ rfl) rfl rfl rfl ?_
    refine exs_cons (K' := fun o => ∃ v', o = .next v' [(D, (lrF v S).map .int)] ∧ Sub (vR v S ta (lrTie v S) D) v') (ex_if (x := decide ((lrQ v S).sum < (S : Int))) (tr_cmp (ev_sum N E ao.handled (ev_name rfl rfl) loc rfl rfl) (ev_name rfl rfl) rfl c_lt) (fun e => ?_) (fun e => ?_)) ?_ (fun o ⟨v', e, _⟩ hn => absurd e (hn _ _))
    · have hlt := of_decide_eq_true e
      have eF : lrF v S = (lrFold S (lrR v S) (lrC v S) (lrQ v S) v.length).1 := if_pos hlt
      have eT : lrTie v S = (lrFold S (lrR v S) (lrC v S) (lrQ v S) v.length).2 := if_pos hlt
      rw [eF, eT]
      have hfl := P.fl
      have hqu : ∀ {hid' : PMap} {env : Env} {vars : Vars} {mu : Mu} {i : Nat} {p1' p2 p3 : Pos}, env.scope.kind = .function → vars.lookup ("quotas" : Str) = some (.list (v.map fun p => .tup [.int (p * (S : Int)), .int v.sum])) → vars.lookup ("i" : Str) = some (.int (i : Int)) → i < v.length →
          Ev W A hid' env vars mu (.Subscript (.Name "quotas" p1') (.Name "i" p2) p3) (.tup [.int (v.getD i 0 * (S : Int)), .int v.sum]) := fun hk h1 h2 hi =>
        ev_nidx (ev_name h1 hk) (ev_name h2 hk) AsList.list (mapLe hn) (by rw [List.getElem?_map, List.getElem?_eq_getElem hi, getD_lt hi]; rfl)
      have eR : (List.range v.length).map (fun i => PV.int (v.getD i 0 * (S : Int) - (lrQ v S).getD i 0 * v.sum)) = (lrR v S).map .int := by
        have : lrR v S = (List.range v.length).map fun i => v.getD i 0 * (S : Int) - (lrQ v S).getD i 0 * v.sum := by
          refine List.ext_getElem (by rw [lrR_len, List.length_map, List.length_range]) fun i h1 h2 => ?_
          rw [lrR_len] at h1
          rw [List.getElem_map, List.getElem_range, ← getD_lt (l := lrR v S)]
          unfold lrR lrQ
          rw [List.getD, List.getElem?_map, List.getD, List.getD, List.getElem?_map, List.getElem?_eq_getElem h1]; rfl
        rw [this, List.map_map]; rfl
      refine exs_next (ex_compA (α := Nat) (mk := fun i => .int (i : Int)) (xs := List.range v.length) (f := fun i => .int (v.getD i 0 * (S : Int) - (lrQ v S).getD i 0 * v.sum)) (vars' := [("quotas", .list (v.map fun p => .tup [.int (p * (S : Int)), .int v.sum])), ("representatives", .loc D)]) (tv := fun i => [("i", .int (i : Int)), ("quotas", .list (v.map fun p => .tup [.int (p * (S : Int)), .int v.sum])), ("representatives", .loc D)])
          ⟨inj_nat, ao.handled, rfl, ev_range1 N E (ev_lenI N E rfl hn rfl rfl) rfl rfl, src_rng (lt61 hn), ⟨rfl, rfl, by decide⟩, by walk_at "over", fun _ => rfl, .any fun _ _ => rfl, by rw [List.length_range]; exact le5 hn, fun hid' C i hi o => tgt_name (store_own hid' rfl) rfl rfl, fun hid' C i hi => ?_, fun i _ => by walk_at "sub"⟩ rfl rfl rfl) ?_
      · have hi := List.mem_range.mp hi
        refine ev_sub (ev_pair0 (hqu rfl rfl rfl hi) ev_int) (ev_mul (ev_iidx (xs := lrQ v S) (ev_name rfl rfl) (ev_name rfl rfl) loc (by rw [lrQ_len]; exact hi) (by rw [lrQ_len]; exact le5 hn)) (ev_pair1 (hqu rfl rfl rfl hi) ev_int) (mulOk (j := 110) (k := B) ?_ P.sums (by (first | lia | omega))))
        have : (lrQ v S).getD i 0 = (v.getD i 0 * (S : Int)).fdiv v.sum := by
          unfold lrQ; rw [List.getD, List.getElem?_map, List.getD, List.getElem?_eq_getElem hi]; rfl
        rw [this, getD_lt hi]
        exact P.hq _ (List.getElem_mem hi)
      rw [eR]
      refine exs_set (d := .int (lrC v S)) ?_ (st _ rfl) rfl rfl rfl ?_
      · have hsl : (sortI (lrR v S)).length = v.length := (sortI_len _).trans lrR_len
        have h1 : -(v.length : Int) ≤ (lrQ v S).sum - (S : Int) := by (first | lia | omega)
        have h2 : (lrQ v S).sum - (S : Int) < v.length := by (first | lia | omega)
        have hi : idx ((lrQ v S).sum - (S : Int)) v.length < v.length := by unfold idx; split <;> (first | lia | omega)
        refine ev_idx (l := (sortI (lrR v S)).map .int) (ev_sorted N E (ev_name rfl rfl) AsList.list (by rw [lrR_len]; exact Nat.lt_succ_of_le hn) rfl rfl) (ev_sub (ev_sum N E ao.handled (ev_name rfl rfl) loc rfl rfl) (ev_name rfl rfl)) AsList.list (by rw [List.length_map, hsl]; exact h1) (by rw [List.length_map, hsl]; exact h2) (by rw [List.length_map, hsl]; exact lt62 hn) ?_
        rw [List.length_map, hsl, getD_map_int _ _ (by rw [hsl]; exact hi)]; rfl
      refine run_forget (v' := vR2 v S ta false D (lrR v S) (lrC v S)) (by walk_at "sub") (List.Sublist.refl _) ?_
      exact exs_next (lr_loop N ao hn lrQ_len lrR_len hs) (exs_nil ⟨_, rfl, by walk_at "sub"⟩)
    · have h1 : lrF v S = lrQ v S := if_neg (of_decide_eq_false e)
      have h2 : lrTie v S = false := if_neg (of_decide_eq_false e)
      rw [h1, h2]
      exact exs_nil ⟨_, rfl, by walk_at "sub"⟩
    · rintro vv mm ⟨v', e, hsub⟩
      cases e
      refine run_forget hsub (List.Sublist.refl _) ?_
      have h5 : (bodyOf p1 "largest_remainder").drop 5 = (bodyOf p1 "largest_remainder").getD 5 (.Pass default) :: (bodyOf p1 "largest_remainder").getD 6 (.Pass default) :: [] := rfl
      rw [h5]
      refine exs_cons (K' := fun o => ((ta = false → lrTie v S = false) ∧ o = .next (vR v S ta (lrTie v S) D) [(D, (lrF v S).map .int)]) ∨ (ta = false ∧ lrTie v S = true ∧ ∃ v m, o = .exc (.ref C) v m)) (ex_if (x := lrTie v S && !ta) (tr_and2 (tr_name_bool rfl rfl fun _ => rfl) fun _ => tr_not (tr_name_bool rfl rfl fun _ => rfl)) (fun e => ?_) (fun e => exs_nil (.inl ⟨fun h => ?_, rfl⟩))) ?_ ?_
      · rw [Bool.and_eq_true, Bool.not_eq_true'] at e
        exact exs_cons (ex_raise N.ok (X e.2) (FX e.2) ao.handled (gname_g E (X e.2).own.bound rfl (by decide +kernel)) ev_str rfl) (fun v m e => nomatch e) (fun o q _ => .inr ⟨e.2, e.1, _, _, q⟩)
      · rw [h] at e; simpa using e
      · rintro v2 m2 (⟨h, e⟩ | ⟨_, _, _, _, e⟩)
        · cases e
          exact exs_cons (ex_retloc (ev_name rfl rfl) (.head _)) (fun v m e => nomatch e) (fun o q _ => .inl ⟨_, ⟨h, rfl⟩, q⟩)
        · cases e
      · rintro o (⟨_, e⟩ | ⟨h1, h2, v2, m2, e⟩) hn
        · exact absurd e (hn _ _)
        · exact .inr ⟨_, v2, m2, ⟨h1, h2, rfl⟩, e⟩
end
end Mine
end

section
open PySem PySem.W PyProof.Rows PySem.Calls PySem.SeqAt
set_option linter.unusedVariables false
set_option maxRecDepth 100000
namespace Mine

structure LrAt (W : Wk) (lr lrT : Addr) : Prop where
  hlr : DefAt W p1 "largest_remainder" lr (.ref lrT)
  hT : ∃ o v n, W.base.get? lrT = some o ∧ o.data = .seq #[v] n
theorem lr_specD {W : Wk} {lr lrT C : Addr} {v : List Int} {S B : Nat} {ta : Bool} (N : Names W) (X : ta = false → OwnX W "TiesException" C) (H : LrAt W lr lrT) (P : LrPre v S B) :
    FnP W (ta = false) (.ref lr) 1 [listI v, .int S, .bool ta] (fun d => (ta = false → lrTie v S = false) ∧ d = listI (lrF v S)) (fun x => ta = false ∧ lrTie v S = true ∧ x = .ref C) := by
  obtain ⟨o, dv, n, h1, h2⟩ := H.hT
  exact lr_spec N X H.hlr h1 h2 P

section
variable {W : Wk} {A : Around} {hid : PMap} {env : Env} {vars : Vars} {mu : Mu} {K : Out → Prop}

theorem lr_names : ∀ nm : Str, nm ∈ lrNames → (nm == ("quota" : Str)) = false ∧ lrNames.any (· == nm) = true := by decide +kernel

set_option maxHeartbeats 400000 in
theorem cp_lr (D : Defs W) {C lr lrT : Addr} {v : List Int} {S B : Nat} {nm : Str} {ta : Bool} {args : List PV} (X : ta = false → OwnX W "TiesException" C) (H : LrAt W lr lrT) (hr : nm ∈ lrNames) (P : LrPre v S B) (ca : CpArgs nm v S ta args) :
    FnP W (ta = false) (.ref D.cp) 2 args (fun d => (ta = false → lrTie v S = false) ∧ d = listI (lrF v S)) (fun x => ta = false ∧ lrTie v S = true ∧ x = .ref C) := by
  have N := D.nm
  obtain ⟨n1, n2⟩ := lr_names nm hr
  have DC := D.hcp
  obtain ⟨hm, kV, doc, pm, an, cdv, ct, F⟩ := DC
  refine fn_introP (fun _ h => h.1) N.ok F (cpVars nm v S ta) ["method", "votes", "seats", "threshold", "tiesallowed"] rfl (by show paramsOk (scopeOf p1 "compute") _ = true; decide +kernel) (by decide +kernel) (fun g h t us kb kg is => cp_binds D ca kb is) ?_
  intro A hid L outer ao FX hs
  refine exs_next (ex_assign (ev_call_def N ⟨rfl, rfl, rfl⟩ ao D.hat rfl (by decide +kernel) (by walk_at "args") (at_spec D _) rfl) (hs _ (.inl rfl)) rfl rfl rfl) ?_
  refine exs_cons (ex_if (x := (nm == ("quota" : Str))) (tr_cmp (ev_name rfl rfl) ev_str rfl c_eqs) (fun e => by rw [n1] at e; cases e) (fun _ => ?_)) (fun v m e => absurd rfl (not_next e)) (fun o e _ => e)
  refine exs_cons (ex_if (x := lrNames.any (· == nm)) ?_ (fun e => ?_) (fun e => by rw [n2] at e; cases e)) (fun v m e => absurd rfl (not_next e)) (fun o e _ => e)
  · refine ev_in (ns := lrNames) (d := .list (lrNames.map PV.str)) (ev_name rfl rfl) ?_ ?_ rfl
    · refine ev_list ?_ ?_
      · iterate 3 refine evargs_str ?_
        exact evargs_nil
      · exact Nat.le_of_ble_eq_true rfl
    · exact AsList.list
  refine exs_cons (ex_retG (ev_call_defG N ⟨rfl, rfl, rfl⟩ ao FX (fun _ h => h.1) H.hlr rfl (by decide +kernel) (by walk_at "args") (lr_specD N X H P) rfl)) ?_ ?_
  · rintro v m (⟨_, _, e⟩ | ⟨_, _, e⟩) <;> cases e
  · rintro o (e | ⟨x, hx, e⟩) _
    · exact .inl e
    · exact .inr ⟨x, _, _, hx, e⟩
end
end Mine
end

section
open PySem PySem.W PyProof.Rows PySem.Calls PySem.SeqAt
set_option linter.unusedVariables false
set_option maxRecDepth 100000
namespace Mine

noncomputable abbrev dealsV (l : List (List Nat)) : PV := .list (l.map fun b => listI (toI b))
theorem inj_deal : ∀ a b : List Nat, listI (toI a) = listI (toI b) → a = b := fun a b h => toI_inj (inj_listI _ _ h)

section
variable {W : Wk} {A : Around} {hid : PMap} {env : Env} {vars : Vars} {mu : Mu} {K : Out → Prop}

theorem all_spec {a : Addr} (N : Names W) (DA : DefAt W p1 "_law_all" a .none) : ∀ {n S : Nat}, n ≤ 3 → S ≤ 7 → Fn W (.ref a) (n + 1) [.int (S : Int), .int ((n + 1 : Nat) : Int)] (dealsV (allN n S)) := by
  intro n
  induction n with
  | zero =>
    intro S _ hS
    obtain ⟨hm, kV, doc, pm, an, cdv, ct, F⟩ := DA
    refine fn_intro N.ok F [("seats", .int (S : Int)), ("parties", .int ((0 + 1 : Nat) : Int))] ["seats", "parties"] rfl (by show paramsOk (scopeOf p1 "_law_all") _ = true; decide +kernel) (by decide +kernel) ?_ ?_
    · intro g h t us kb kg is
      cases is with
      | cons i1 is => cases is with
        | cons i2 is =>
          cases is
          exact ⟨_, BindsTo.of_eq rfl, .cons i1 (.cons i2 .nil)⟩
    · intro A hid L ao hs
      exact exs_go (c := true) (tr_cmp (ev_name rfl rfl) ev_int rfl c_eq) (fun _ => ⟨ev_list (evargs_cons (ev_list (evargs_cons (ev_name rfl rfl) evargs_nil rfl) (Nat.le_of_ble_eq_true rfl)) evargs_nil rfl) (Nat.le_of_ble_eq_true rfl), .inl rfl⟩) (fun e => nomatch e)
  | succ n ih =>
    intro S hn hS
    have DA' := DA
    obtain ⟨hm, kV, doc, pm, an, cdv, ct, F⟩ := DA
    refine fn_intro N.ok F [("seats", .int (S : Int)), ("parties", .int ((n + 1 + 1 : Nat) : Int))] ["seats", "parties"] rfl (by show paramsOk (scopeOf p1 "_law_all") _ = true; decide +kernel) (by decide +kernel) ?_ ?_
    · intro g h t us kb kg is
      cases is with
      | cons i1 is => cases is with
        | cons i2 is =>
          cases is
          exact ⟨_, BindsTo.of_eq rfl, .cons i1 (.cons i2 .nil)⟩
    · intro A hid L ao hs
      have E : EnvOk (fEnv (fnOf "_law_all" "_law_all" (argsOf p1 "_law_all") (bodyOf p1 "_law_all") (scopeOf p1 "_law_all") .none kV doc pm an cdv ct) a L) := ⟨rfl, rfl, rfl⟩
      refine exs_skip (tr_eq (by rw [beq_eq_false_iff_ne]; (first | (simp only [Int.natCast_add, Int.natCast_one] at *; lia) | lia | omega)) (tr_cmp (ev_name rfl rfl) ev_int rfl c_eq)) ?_
      have e : dealsV (allN (n + 1) S) = .list ((List.range (S + 1)).flatMap fun one => (allN n (S - one)).map fun rest => listI (toI (one :: rest))) := by
        show PV.list (((List.range (S + 1)).flatMap fun one => (allN n (S - one)).map fun rest => one :: rest).map _) = _
        rw [List.map_flatMap]
        congr 2
        funext one
        rw [List.map_map]; rfl
      have hb : ∀ x, x ∈ List.range (S + 1) → (allN n (S - x)).length ≤ 8 ^ 3 := fun x _ => by
        refine Nat.le_trans allN_len ?_
        refine Nat.le_trans (Nat.pow_le_pow_left (show S - x + 1 ≤ 8 by (first | lia | omega)) n) (Nat.pow_le_pow_right (by decide) (by (first | exact Nat.le_of_lt (by assumption) | lia | omega)))
      refine exs_ret (d := dealsV (allN (n + 1) S)) ?_ (.inl rfl)
      rw [e]
      refine EvNew.ev (evnew_comp2M (α := Nat) (β := List Nat) (mk := fun i => .int (i : Int)) (mk1 := fun b => listI (toI b)) (xs := List.range (S + 1)) (ys := fun one => allN n (S - one)) (f := fun one rest => listI (toI (one :: rest))) (d := .rng 0 ((S + 1 : Nat) : Int)) (d1 := fun one => dealsV (allN n (S - one)))
        (vars' := [("seats", .int (S : Int)), ("parties", .int ((n + 1 + 1 : Nat) : Int))]) (tv := fun one => [("one", .int (one : Int)), ("seats", .int (S : Int)), ("parties", .int ((n + 1 + 1 : Nat) : Int))]) (tv1 := fun one rest => [("rest", listI (toI rest)), ("one", .int (one : Int)), ("seats", .int (S : Int)), ("parties", .int ((n + 1 + 1 : Nat) : Int))]) (N := 8 ^ 3)
        inj_nat inj_deal ao.handled rfl (ev_range1 N E (ev_eq (c := .int ((S : Int) + 1)) (congrArg PV.int (by (first | (simp; done) | lia | omega))) (ev_add (ev_name rfl rfl) ev_int)) rfl rfl) (src_rng (by (first | lia | omega))) ⟨rfl, rfl, by decide⟩ (by walk_at "over") (fun _ => rfl) (fun _ _ => rfl) (by rw [List.length_range]; (first | lia | omega)) ?_ (fun _ _ => rfl) hb (fun _ _ => rfl) (fun x _ => .list AsList.list)
        (fun hid' C x _ => tgt_name (store_own hid' rfl) rfl rfl) (fun hid' C x hx => ?_) (fun hid' C x b _ _ => tgt_name (store_own hid' rfl) rfl rfl) (fun hid' C x b _ hb => ?_) (fun x b _ _ => by walk_at "sub") (fun x _ => by walk_at "sub"))
      · intro x hx
        have key : ∀ (l : List (Str × NameKind)), (l.all fun p => p.2 != .cell) = true → l.lookup x ≠ some .cell := by
          intro l
          induction l with
          | nil => intro _ h; cases h
          | cons p r ih =>
            obtain ⟨y, k⟩ := p
            intro h q
            rw [List.all_cons, Bool.and_eq_true] at h
            by_cases z : x = y
            · subst z; rw [lookup_cons_eq] at q; cases q
              have h1 : (NameKind.cell != NameKind.cell) = true := h.1
              exact absurd h1 (by decide)
            · rw [lookup_cons_ne z] at q; exact ih h.2 q
        exact key _ (by decide) hx
      · have hx := List.mem_range.mp hx
        have := ih (S := S - x) (by (first | exact Nat.le_of_lt (by assumption) | lia | omega)) (by (first | lia | omega))
        refine ev_call_def N ⟨rfl, rfl, rfl⟩ ao DA' rfl (by decide +kernel) (ds := [.int ((S - x : Nat) : Int), .int ((n + 1 : Nat) : Int)]) (evargs_cons (ev_eq (c := .int ((S : Int) - (x : Int))) (congrArg PV.int (by (first | lia | omega))) (ev_sub (ev_name rfl rfl) (ev_name rfl rfl))) (evargs_cons (ev_eq (c := .int (((n + 1 + 1 : Nat) : Int) - 1)) (congrArg PV.int (by (first | (simp; done) | lia | omega))) (ev_sub (ev_name rfl rfl) ev_int)) evargs_nil rfl) rfl) this rfl
      · have e2 : listI (toI (x :: b)) = .list ([PV.int (x : Int)] ++ (toI b).map .int) := rfl
        rw [e2]
        have hbl := (mem_allN.mp hb).1
        refine EvNew.ev (evnew_add (ev_list (evargs_cons (ev_name rfl rfl) evargs_nil rfl) (Nat.le_of_ble_eq_true rfl)) (ev_name rfl rfl) AsList.list AsList.list ?_)
        rw [List.length_map, List.length_map, hbl]
        show 1 + (n + 1) ≤ 100000
        (first | lia | omega)
end
end Mine
end

section
open PySem PySem.W PyProof.Rows PySem.Calls PySem.SeqAt
set_option linter.unusedVariables false
set_option maxRecDepth 100000
namespace Mine

structure Set6 (v : List Int) (B : Nat) : Prop where
  n1 : 1 ≤ v.length
  n4 : v.length ≤ 4
  pos : ∀ p ∈ v, 0 < p
  sm : ∀ p ∈ v, p.natAbs < 2 ^ B
  sum : v.sum.natAbs < 2 ^ (B + 2)
  hB : B ≤ 2 ^ 20 + 2
theorem lt_pow {a : Int} {j k : Nat} (h : a.natAbs < 2 ^ j) (hk : j ≤ k) : a.natAbs < 2 ^ k := Nat.lt_of_lt_of_le h (Nat.pow_le_pow_right (by decide) hk)
theorem others {i n : Nat} (hi : i < n) (h4 : n ≤ 4) : i + (n - (i + 1)) ≤ 3 := by omega
theorem pow6 {B : Nat} {x y : Int} (h1 : x.natAbs < 2 ^ (3 + (B + 2))) (h2 : y.natAbs < 2 ^ (B + 3)) : (x - y).natAbs < 2 ^ (B + 6) := by
  have e1 : (2 : Nat) ^ (3 + (B + 2)) = 2 ^ (B + 5) := by rw [Nat.add_comm 3]
  have e2 : (2 : Nat) ^ (B + 5) + 2 ^ (B + 5) = 2 ^ (B + 6) := by rw [Nat.pow_succ 2 (B + 5), Nat.mul_two]
  rw [e1] at h1
  have h3 : y.natAbs < 2 ^ (B + 5) := Nat.lt_of_lt_of_le h2 (Nat.pow_le_pow_right (by decide) (Nat.add_le_add_left (by decide) B))
  rw [← e2]
  exact Nat.lt_of_le_of_lt (Int.natAbs_sub_le x y) (Nat.add_lt_add h1 h3)
theorem bits6 {B k : Nat} (h : k ≤ B + 6) (hB : B ≤ 2 ^ 20 + 2) : (k : Int) * 2 ≤ 2 ^ 27 :=
  have h1 : k * 2 ≤ (2 ^ 20 + 2 + 6) * 2 := Nat.mul_le_mul_right 2 (Nat.le_trans h (Nat.add_le_add_right hB 6))
  have h2 : (2 ^ 20 + 2 + 6) * 2 ≤ 2 ^ 27 := by decide
  Int.ofNat_le.mpr (Nat.le_trans h1 h2)
theorem foldl_small {B : Nat} : ∀ {l : List Int} {k : Nat}, (∀ p ∈ l, p.natAbs < 2 ^ B) → l.length ≤ k → (l.foldl (fun c x => c * x) 1).natAbs < 2 ^ (1 + k * B)
  | [], k, _, _ => by
    show (1 : Int).natAbs < 2 ^ (1 + k * B)
    exact Nat.lt_of_lt_of_le (show 1 < 2 ^ 1 by decide) (Nat.pow_le_pow_right (by decide) (by (first | (simp; done) | lia | omega)))
  | x :: r, k + 1, h, hl => by
    rw [List.foldl_cons, foldl_mul, Int.one_mul]
    have h1 := foldl_small (l := r) (k := k) (fun p hp => h p (List.mem_cons_of_mem _ hp)) (by simpa using hl)
    have h2 := natAbs_mul_lt (h x List.mem_cons_self) h1
    exact lt_pow h2 (by rw [Nat.succ_mul]; (first | lia | omega))

section
variable {W : Wk} {A : Around} {hid : PMap} {env : Env} {vars : Vars} {mu : Mu} {K : Out → Prop}
theorem row_comp {S n : Nat} {e : Expr} {scope : Scope} {np q0 q1 q2 q3 q4 pos : Pos} {k1 : Nat} {f : Nat → Int} {vars' : Vars} {mu : Mu} (N : Names W) (E : EnvOk env) (ao : AOk W A n) (h7 : S ≤ 7) (hx : vars.lookup ("seats" : Str) = some (.int (S : Int)))
    (hr : env.kindOf "range" = some .globalImplicit) (hs : starEach [.BinOp (.Name "seats" q1) .Add (.Constant (.int 1) k1 q2) q3] env = [(false, eval (.BinOp (.Name "seats" q1) .Add (.Constant (.int 1) k1 q2) q3) env)]) (hk : env.scope.kind = .function) (blk : BlockOk scope env) (ov : Over scope env vars' vars)
    (fold : ∀ x, foldedSetIterable (.Call (.Name "range" np) [.BinOp (.Name "seats" q1) .Add (.Constant (.int 1) k1 q2) q3] [] q4) env x = pure x) (tgt : ∀ hid' C (x : Nat), OwnFree hid' scope C env → Tgt W A hid' (cEnv scope C env) vars' mu (.Name "had" q0) (.int (x : Int)) (("had", .int (x : Int)) :: vars'))
    (lo : LoOk mu (.Name "had" q0) (.rng 0 ((S + 1 : Nat) : Int)) ((List.range (S + 1)).map fun (i : Nat) => PV.int (i : Int))) (sub : ∀ x : Nat, Sub vars' (("had", .int (x : Int)) :: vars'))
    (elt : ∀ hid' C (x : Nat), ((x : Nat) : Int).natAbs < 2 ^ 3 → Ev W A hid' (cEnv scope C env) (("had", .int (x : Int)) :: vars') mu e (.int (f x))) :
    Ev W A hid env vars mu (.ListComp e [⟨.Name "had" q0, .Call (.Name "range" np) [.BinOp (.Name "seats" q1) .Add (.Constant (.int 1) k1 q2) q3] [] q4, [], 0⟩] scope pos) (.list ((List.range (S + 1)).map fun (x : Nat) => PV.int (f x))) :=
  EvNew.ev (evnew_compA (α := Nat) (mk := fun i => .int (i : Int)) (xs := List.range (S + 1)) (d := .rng 0 ((S + 1 : Nat) : Int)) (vars' := vars') (tv := fun x => ("had", .int (x : Int)) :: vars')
    ⟨inj_nat, ao.handled, hk, ev_range1 N E (ev_eq (c := .int ((S : Int) + 1)) (congrArg PV.int (by (first | (simp; done) | lia | omega))) (ev_add (ev_name hx hk) ev_int)) hr hs, src_rng (by (first | lia | omega)), blk, ov, fold, lo, by rw [List.length_range]; (first | lia | omega), fun hid' C x hx o => tgt hid' C x o, fun hid' C x hx => elt hid' C x (by have := List.mem_range.mp hx; (first | lia | omega)), fun x _ => sub x⟩)
noncomputable abbrev cEnv6 (p : Program) (a L : Addr) (dV kV doc pm : Value) (an : Option Addr) (cdv ct : Value) : Env := fEnv (fnOf "_law_costs" "_law_costs" (argsOf p "_law_costs") (bodyOf p "_law_costs") (scopeOf p "_law_costs") dV kV doc pm an cdv ct) a L
noncomputable abbrev vK6 (pr : Int) (v : List Int) (k i S : Nat) : Vars := [("product", .int pr), ("total", .int v.sum), ("vote", .int (v.getD i 0)), ("rule", .int (k : Int)), ("votes", listI v), ("i", .int (i : Int)), ("seats", .int (S : Int))]

set_option maxHeartbeats 1000000 in
theorem costs_spec {a : Addr} (N : Names W) (DA : DefAt W p1 "_law_costs" a .none) {v : List Int} {k i S B : Nat} (hk : k < 5) (H : Set6 v B) (hi : i < v.length) (h7 : S ≤ 7) :
    Fn W (.ref a) 1 [.int (k : Int), listI v, .int (i : Int), .int (S : Int)] (listI (row6 v S k i)) := by
  obtain ⟨hm, kV, doc, pm, an, cdv, ct, F⟩ := DA
  refine fn_intro N.ok F [("rule", .int (k : Int)), ("votes", listI v), ("i", .int (i : Int)), ("seats", .int (S : Int))] ["rule", "votes", "i", "seats"] rfl (by show paramsOk (scopeOf p1 "_law_costs") _ = true; decide +kernel) (by decide +kernel) ?_ ?_
  · intro g h t us kb kg is
    cases is with
    | cons i1 is => cases is with
      | cons i2 is => cases is with
        | cons i3 is => cases is with
          | cons i4 is =>
            cases is
            exact ⟨_, BindsTo.of_eq rfl, .cons i1 (.cons i2 (.cons i3 (.cons i4 .nil)))⟩
  · intro A hid L ao hs
    have E : EnvOk (cEnv6 p1 a L .none kV doc pm an cdv ct) := ⟨rfl, rfl, rfl⟩
    have st : ∀ x, ((scopeOf p1 "_law_costs").names.lookup x == some .local || (scopeOf p1 "_law_costs").names.lookup x == some .cell) = true → Sto hid (cEnv6 p1 a L .none kV doc pm an cdv ct) x := fun x h => hs x (by
      rw [Bool.or_eq_true, beq_iff_eq, beq_iff_eq] at h; exact h)
    have v63 : v.length ≤ 63 := Nat.le_trans H.n4 (by decide)
    have hB := H.hB
    have hvi : (v.getD i 0).natAbs < 2 ^ B := by rw [getD_lt hi]; exact H.sm _ (List.getElem_mem hi)
    refine exs_next (ex_unpack ao.handled rfl (ev_tuple (ds := [.int (v.getD i 0), .int v.sum, .int 1]) (evargs_cons (ev_iidx (xs := v) (ev_name rfl rfl) (ev_name rfl rfl) AsList.list hi (le5 v63)) (evargs_cons (ev_sum N E ao.handled (ev_name rfl rfl) AsList.list rfl rfl) (evargs_cons ev_int evargs_nil rfl) rfl) rfl) (Nat.le_of_ble_eq_true rfl)) (.cons (st _ rfl) rfl (.cons (st _ rfl) rfl (.cons (st _ rfl) rfl .nil))) rfl rfl) ?_
    -- the product of the others
    have hos : ∀ p ∈ v.take i ++ v.drop (i + 1), p.natAbs < 2 ^ B := fun p hp => by
      rcases List.mem_append.mp hp with hp | hp
      · exact H.sm p (List.mem_of_mem_take hp)
      · exact H.sm p (List.mem_of_mem_drop hp)
    have hol : (v.take i ++ v.drop (i + 1)).length ≤ 3 := by
      rw [List.length_append, List.length_take, List.length_drop, Nat.min_eq_left (Nat.le_of_lt hi)]
      exact others hi H.n4
    have hpr : (P6 v i).natAbs < 2 ^ (1 + 3 * B) := foldl_small hos hol
    refine exs_next (v := vK6 (P6 v i) v k i S) (m := []) (ex_for_xs (fun (x : Int) => PV.int x) (v.take i ++ v.drop (i + 1)) (fun j vv m => vv = vK6 (((v.take i ++ v.drop (i + 1)).take j).foldl (fun c x => c * x) 1) v k i S ∧ m = []) ao.handled ?_ (fun _ _ _ _ => .list AsList.list) ⟨rfl, rfl⟩ (st _ rfl) rfl rfl (fun _ => rfl) ?_ ?_) ?_
    · have e : PV.list ((v.take i ++ v.drop (i + 1)).map PV.int) = .list (sliceP (v.map .int) none (some (i : Int)) ++ sliceP (v.map .int) (some ((i + 1 : Nat) : Int)) none) := by
        rw [sliceP_to, sliceP_from, List.map_append, List.map_take, List.map_drop]
      rw [e]
      refine EvNew.ev (evnew_add (EvNew.ev (evnew_slice (l := v.map .int) (ev_name rfl rfl) AsList.list (mapLe v63) .none (.some (ev_name rfl rfl)))) (EvNew.ev (evnew_slice (l := v.map .int) (ev_name rfl rfl) AsList.list (mapLe v63) (.some (ev_eq (c := .int ((i : Int) + 1)) (congrArg PV.int (by (first | (simp; done) | lia | omega))) (ev_add (ev_name rfl rfl) ev_int))) .none)) AsList.list AsList.list ?_)
      rw [sliceP_to, sliceP_from, List.length_take, List.length_drop, List.length_map, Nat.min_eq_left (Nat.le_of_lt hi)]
      exact Nat.le_trans (others hi H.n4) (Nat.le_of_ble_eq_true rfl)
    · rintro hid' j vv m x hsto hx ⟨rfl, rfl⟩
      have hj := lt_of_get hx
      have hxe : (v.take i ++ v.drop (i + 1))[j] = x := by rw [List.getElem?_eq_getElem hj] at hx; exact Option.some.inj hx
      have hxs := hos x (hxe ▸ List.getElem_mem hj)
      have hfs := foldl_small (l := (v.take i ++ v.drop (i + 1)).take j) (k := 3) (fun p hp => hos p (List.mem_of_mem_take hp)) (by rw [List.length_take]; (first | lia | omega))
      refine exs_next (ex_aug (d := .int (((v.take i ++ v.drop (i + 1)).take (j + 1)).foldl (fun c x => c * x) 1)) rfl (ev_name rfl rfl) (hsto _ (st _ rfl)) rfl rfl ?_) (exs_nil ⟨_, _, by walk_at "sub", List.Sublist.refl _, rfl, rfl⟩)
      rw [List.take_succ_eq_append_getElem hj, List.foldl_append, hxe]
      exact a_mul (mulOk hfs hxs (by (first | lia | omega)))
    · rintro vv m ⟨rfl, rfl⟩
      rw [List.take_length]; rfl
    -- the five rules
    have hT := H.sum
    have hrow : ∀ (f : Nat → Int), (∀ x, F6 v S k i x = f x) → listI (row6 v S k i) = .list ((List.range (S + 1)).map fun (x : Nat) => PV.int (f x)) := fun f hf => by
      unfold row6 listI
      rw [List.map_map]
      congr 2
      funext x
      show PV.int (F6 v S k i x) = _
      rw [hf]
    have hS : ((S : Nat) : Int).natAbs < 2 ^ 3 := by (first | exact Nat.lt_succ_of_le (by assumption) | lia | omega)
    by_cases c0 : k = 0
    · subst c0
      refine exs_go (c := true) (tr_cmp (ev_name rfl rfl) ev_int rfl c_eq) (fun _ => ⟨?_, .inl rfl⟩) (fun e => nomatch e)
      rw [hrow (fun x => (x : Int) * (x : Int) * P6 v i) (fun x => rfl)]
      exact row_comp N E ao h7 rfl rfl rfl rfl ⟨rfl, rfl, by decide⟩ (by walk_at "over") (fun _ => rfl) (fun hid' C x o => tgt_name (store_own hid' rfl) rfl rfl) (.any fun _ _ => rfl) (fun _ => by walk_at "sub") (vars' := [("product", .int (P6 v i))]) fun hid' C x hx => ev_mul (ev_mul (ev_name rfl rfl) (ev_name rfl rfl) (mulOk hx hx (by decide))) (ev_name rfl rfl) (mulOk (natAbs_mul_lt hx hx) hpr (by (first | lia | omega)))
    refine exs_skip (tr_eq (by rw [beq_eq_false_iff_ne]; (first | lia | omega)) (tr_cmp (ev_name rfl rfl) ev_int rfl c_eq)) ?_
    by_cases c1 : k = 1
    · subst c1
      refine exs_go (c := true) (tr_cmp (ev_name rfl rfl) ev_int rfl c_eq) (fun _ => ⟨?_, .inl rfl⟩) (fun e => nomatch e)
      rw [hrow (fun x => (x : Int) * ((x : Int) + 1) * P6 v i) (fun x => rfl)]
      refine row_comp N E ao h7 rfl rfl rfl rfl ⟨rfl, rfl, by decide⟩ (by walk_at "over") (fun _ => rfl) (fun hid' C x o => tgt_name (store_own hid' rfl) rfl rfl) (.any fun _ _ => rfl) (fun _ => by walk_at "sub") (vars' := [("product", .int (P6 v i))]) fun hid' C x hx => ?_
      have h1 : ((x : Int) + 1).natAbs < 2 ^ 4 := by (first | lia | omega)
      exact ev_mul (ev_mul (ev_name rfl rfl) (ev_add (ev_name rfl rfl) ev_int) (mulOk hx h1 (by decide))) (ev_name rfl rfl) (mulOk (natAbs_mul_lt hx h1) hpr (by (first | lia | omega)))
    refine exs_skip (tr_eq (by rw [beq_eq_false_iff_ne]; (first | lia | omega)) (tr_cmp (ev_name rfl rfl) ev_int rfl c_eq)) ?_
    by_cases c2 : k = 2
    · subst c2
      refine exs_go (c := true) (tr_cmp (ev_name rfl rfl) ev_int rfl c_eq) (fun _ => ⟨?_, .inl rfl⟩) (fun e => nomatch e)
      rw [hrow (fun x => (x : Int) * ((x : Int) - 1) * P6 v i) (fun x => rfl)]
      refine row_comp N E ao h7 rfl rfl rfl rfl ⟨rfl, rfl, by decide⟩ (by walk_at "over") (fun _ => rfl) (fun hid' C x o => tgt_name (store_own hid' rfl) rfl rfl) (.any fun _ _ => rfl) (fun _ => by walk_at "sub") (vars' := [("product", .int (P6 v i))]) fun hid' C x hx => ?_
      have h1 : ((x : Int) - 1).natAbs < 2 ^ 4 := by (first | lia | omega)
      exact ev_mul (ev_mul (ev_name rfl rfl) (ev_sub (ev_name rfl rfl) ev_int) (mulOk hx h1 (by decide))) (ev_name rfl rfl) (mulOk (natAbs_mul_lt hx h1) hpr (by (first | lia | omega)))
    refine exs_skip (tr_eq (by rw [beq_eq_false_iff_ne]; (first | lia | omega)) (tr_cmp (ev_name rfl rfl) ev_int rfl c_eq)) ?_
    by_cases c3 : k = 3
    · subst c3
      refine exs_go (c := true) (tr_cmp (ev_name rfl rfl) ev_int rfl c_eq) (fun _ => ⟨?_, .inl rfl⟩) (fun e => nomatch e)
      have e : listI (row6 v S 3 i) = .list ([PV.int (2520 * v.sum * v.sum + 1)] ++ (List.range S).map fun (x : Nat) => PV.int ((2520 * v.getD i 0 * v.getD i 0).fdiv (1 + (x : Int)))) := by
        unfold row6 listI
        rw [List.range_succ_eq_map, List.map_cons, List.map_cons, List.map_map, List.map_map]
        show PV.list (PV.int (2520 * v.sum * v.sum + 1) :: _) = PV.list (PV.int (2520 * v.sum * v.sum + 1) :: _)
        congr 2
        refine List.map_congr_left fun x _ => ?_
        show PV.int (F6 v S 3 i (x + 1)) = _
        show PV.int ((2520 * v.getD i 0 * v.getD i 0).fdiv ((x + 1 : Nat) : Int)) = _
        rw [show ((x + 1 : Nat) : Int) = 1 + (x : Int) by (first | (simp only [Int.natCast_add, Int.natCast_one] at *; lia) | lia | omega)]
      rw [e]
      have m1 : IntMulOk 2520 v.sum := mulOk (j := 12) (by decide) hT (by (first | lia | omega))
      have m2 : IntMulOk (2520 * v.sum) v.sum := mulOk (natAbs_mul_lt (j := 12) (by decide) hT) hT (by (first | lia | omega))
      have m3 : IntMulOk 2520 (v.getD i 0) := mulOk (j := 12) (by decide) hvi (by (first | lia | omega))
      have m4 : IntMulOk (2520 * v.getD i 0) (v.getD i 0) := mulOk (natAbs_mul_lt (j := 12) (by decide) hvi) hvi (by (first | lia | omega))
      refine EvNew.ev (evnew_add (ev_list (evargs_cons (ev_add (ev_mul (ev_mul ev_int (ev_name rfl rfl) m1) (ev_name rfl rfl) m2) ev_int) evargs_nil rfl) (Nat.le_of_ble_eq_true rfl)) (EvNew.ev (evnew_compA (α := Nat) (mk := fun i => .int (1 + (i : Int))) (xs := List.range S) (f := fun (x : Nat) => PV.int ((2520 * v.getD i 0 * v.getD i 0).fdiv (1 + (x : Int)))) (d := .rng 1 ((S + 1 : Nat) : Int)) (vars' := [("vote", .int (v.getD i 0))]) (tv := fun x => [("had", .int (1 + (x : Int))), ("vote", .int (v.getD i 0))])
        ⟨fun a b h => by injection h with h; (first | lia | omega), ao.handled, rfl, ev_range2 N E ev_int (ev_eq (c := .int ((S : Int) + 1)) (congrArg PV.int (by (first | (simp; done) | lia | omega))) (ev_add (ev_name rfl rfl) ev_int)) rfl rfl rfl, src_rng1 (n := S + 1) (by (first | lia | omega)), ⟨rfl, rfl, by decide⟩, by walk_at "over", fun _ => rfl, .any fun _ _ => rfl, by rw [List.length_range]; (first | lia | omega), fun hid' C x hx o => tgt_name (store_own hid' rfl) rfl rfl, fun hid' C x hx => ev_fdiv N.ok ao (ev_mul (ev_mul ev_int (ev_name rfl rfl) m3) (ev_name rfl rfl) m4) (ev_name rfl rfl) (by (first | lia | omega)), fun x _ => by walk_at "sub"⟩)) AsList.list AsList.list ?_)
      rw [List.length_map, List.length_range]
      show 1 + S ≤ 100000
      (first | lia | omega)
    refine exs_skip (tr_eq (by rw [beq_eq_false_iff_ne]; (first | lia | omega)) (tr_cmp (ev_name rfl rfl) ev_int rfl c_eq)) ?_
    have e4 : k = 4 := by (first | lia | omega)
    subst e4
    refine exs_ret (d := listI (row6 v S 4 i)) ?_ (.inl rfl)
    rw [hrow (fun x => ((x : Int) * v.sum - v.getD i 0 * (S : Int)) ^ (2 : Int).toNat) (fun x => rfl)]
    refine row_comp N E ao h7 rfl rfl rfl rfl ⟨rfl, rfl, by decide⟩ (by walk_at "over") (fun _ => rfl) (fun hid' C x o => tgt_name (store_own hid' rfl) rfl rfl) (.any fun _ _ => rfl) (fun _ => by walk_at "sub") (vars' := [("total", .int v.sum), ("vote", .int (v.getD i 0)), ("seats", .int (S : Int))]) fun hid' C x hx => ?_
    have s1 := natAbs_mul_lt hx hT
    have s2 := natAbs_mul_lt hvi hS
    have s3 := pow6 s1 s2
    refine ev_pow (ev_sub (ev_mul (ev_name rfl rfl) (ev_name rfl rfl) (mulOk hx hT (by (first | lia | omega)))) (ev_mul (ev_name rfl rfl) (ev_name rfl rfl) (mulOk hvi hS (by (first | lia | omega))))) ev_int (by decide) ?_
    exact bits6 (bits_of_lt s3) hB
end
end Mine
end

section
set_option linter.unusedVariables false
namespace Mine

noncomputable def told6 (v : List Int) (S k : Nat) : List Int := if k < 4 then divF (rule6 k) v S else lrF v S
noncomputable def tie6 (v : List Int) (S k : Nat) : Bool := if k < 4 then divTie (rule6 k) v S else lrTie v S
noncomputable def rows6 (v : List Int) (S k : Nat) : List (List Int) := (List.range v.length).map (row6 v S k)
noncomputable def c6 (v : List Int) (S k : Nat) (b : List Nat) : Int := sumF (fun i => ((rows6 v S k).getD i []).getD (fn b i) 0) v.length
noncomputable def found6 (v : List Int) (S k : Nat) : List (List Nat) := (runF (c6 v S k) (allN (v.length - 1) S)).2
theorem rows6_get {v : List Int} {S k i : Nat} (hi : i < v.length) : (rows6 v S k).getD i [] = row6 v S k i := by
  unfold rows6
  rw [List.getD, List.getElem?_map, List.getElem?_range hi]; rfl
theorem row6_get {v : List Int} {S k i x : Nat} (hx : x ≤ S) : (row6 v S k i).getD x 0 = F6 v S k i x := by
  unfold row6
  rw [List.getD, List.getElem?_map, List.getElem?_range (by (first | exact Nat.lt_succ_of_le (by assumption) | lia | omega))]; rfl
theorem all_le {v : List Int} {S : Nat} (h1 : 1 ≤ v.length) {b : List Nat} (hb : b ∈ allN (v.length - 1) S) : b.length = v.length ∧ tot (fn b) v.length = (S : Int) ∧ ∀ i, i < v.length → fn b i ≤ S := by
  obtain ⟨h2, h3⟩ := mem_allN.mp hb
  have e : b.length = v.length := by (first | lia | omega)
  have ht : tot (fn b) v.length = (S : Int) := by rw [← e, tot_fn, h3]
  exact ⟨e, ht, fun i hi => le_tot ht hi⟩
theorem c6_eq {v : List Int} {S k : Nat} (h1 : 1 ≤ v.length) {b : List Nat} (hb : b ∈ allN (v.length - 1) S) : c6 v S k b = cst (F6 v S k) (fn b) v.length :=
  sumF_congr fun i hi => by
    show ((rows6 v S k).getD i []).getD (fn b i) 0 = F6 v S k i (fn b i)
    rw [rows6_get hi, row6_get ((all_le h1 hb).2.2 i hi)]

structure End6 (v : List Int) (S k : Nat) : Prop where
  len : ∀ b ∈ found6 v S k, b.length = v.length
  pos : 0 < (found6 v S k).length
  tl : (told6 v S k).length = v.length
  ts : k = 4 → (told6 v S k).sum = (S : Int)
  one : tie6 v S k = false → ∃ a, found6 v S k = [a] ∧ toI a = told6 v S k
  two : tie6 v S k = true → (found6 v S k).length ≠ 1
  mx : k < 4 → maxL ((found6 v S k).map toI) = told6 v S k
theorem end6 {v : List Int} {S k : Nat} (hk : k < 5) (h : ∀ p ∈ v, 0 < p) (h1 : 1 ≤ v.length) (h7 : S ≤ 7) (hfit : v.length * lo6 k ≤ S) : End6 v S k := by
  have M := mkt6 (S := S) hk h h7 hfit
  have e1 : v.length - 1 + 1 = v.length := by (first | lia | omega)
  have hc : ∀ b ∈ allN (v.length - 1) S, c6 v S k b = cst (F6 v S k) (fn b) (v.length - 1 + 1) := fun b hb => by rw [c6_eq h1 hb, e1]
  by_cases h4 : k < 4
  · obtain ⟨a, ed, hal, A, T, L, ht⟩ := div_deal6 h4 h h1 h7 hfit
    have et : told6 v S k = toI a := (if_pos h4).trans ed
    have ei : tie6 v S k = divTie (rule6 k) v S := if_pos h4
    rw [← ei] at ht
    rw [← e1] at M A T ht L hal
    obtain ⟨q1, q2, q3, q4, q5⟩ := final6 M hal A T ht hc
    rw [e1] at hal q2
    exact ⟨q2, List.length_pos_of_mem q1, by rw [et, List.length_map, hal], fun z => by (first | lia | omega), fun z => ⟨a, q3 z, et.symm⟩, q4, fun _ => by rw [et]; exact q5 L⟩
  · have e4 : k = 4 := by (first | lia | omega)
    subst e4
    obtain ⟨a, hal, A, T, ed, ht⟩ := lr_deal6 (S := S) h h1
    obtain ⟨_, _, OK⟩ := lr_ok (S := S) (sum_pos6 h h1)
    have et : told6 v S 4 = lrF v S := if_neg (by decide)
    have ei : tie6 v S 4 = lrTie v S := if_neg (by decide)
    rw [← ei] at ht
    rw [← e1] at M A T ht hal
    obtain ⟨q1, q2, q3, q4, q5⟩ := final6 M hal A T ht hc
    rw [e1] at hal q2
    exact ⟨q2, List.length_pos_of_mem q1, by rw [et]; exact OK.len, fun _ => by rw [et]; exact OK.sum, fun z => ⟨a, q3 z, by rw [et]; exact (ed (ei ▸ z)).symm⟩, q4, fun z => absurd z (by decide)⟩
end Mine
end

section
open PySem PySem.W PyProof.Rows PySem.Calls PySem.SeqAt
set_option linter.unusedVariables false
set_option maxRecDepth 100000
namespace Mine

noncomputable def lrNames6 : List Str := ["largest_remainder", "hamilton", "lrm"]
noncomputable def names6 : List (List Str) := [ruleNames .web, ruleNames .jeff, ruleNames .adams, ruleNames .hill, lrNames6]
noncomputable abbrev lineV6 : PV := .list (names6.map strsV)
theorem names6_get {n : Nat} (h : n < 5) : names6[n]? = some (names6.getD n []) := by
  rw [List.getD, List.getElem?_eq_getElem (show n < names6.length from h)]; rfl
theorem names6_pos {n : Nat} (h : n < 5) : 0 < (names6.getD n []).length ∧ (names6.getD n []).length ≤ 3 := by
  rcases (show n = 0 ∨ n = 1 ∨ n = 2 ∨ n = 3 ∨ n = 4 by (first | lia | omega)) with rfl | rfl | rfl | rfl | rfl <;> decide
theorem names6_div {n : Nat} (h : n < 4) : names6.getD n [] = ruleNames (rule6 n) := by
  rcases (show n = 0 ∨ n = 1 ∨ n = 2 ∨ n = 3 by (first | lia | omega)) with rfl | rfl | rfl | rfl <;> rfl
theorem names6_lr : ∀ nm : Str, nm ∈ lrNames6 → nm ∈ lrNames := by
  intro nm h
  rcases List.mem_cons.mp h with rfl | h
  · decide
  · rcases List.mem_cons.mp h with rfl | h
    · decide
    · rw [List.mem_singleton.mp h]; decide

set_option genInjectivity false in
set_option genSizeOfSpec false in
set_option genSizeOf false in
structure Ctx6 (W : Wk) where
  D : Defs W
  C : Addr
  X : OwnX W "TiesException" C
  lr : Addr
  lrT : Addr
  H : LrAt W lr lrT
  G : GData W "_law_names" lineV6
  ca : Addr
  DC : DefAt W p1 "_law_costs" ca .none
  aa : Addr
  DA : DefAt W p1 "_law_all" aa .none

structure Seat6 (v : List Int) (S k B : Nat) : Prop extends Set6 v B where
  hk : k < 5
  h7 : S ≤ 7
  fit : v.length * lo6 k ≤ S
  s1 : k = 4 → 1 ≤ S

theorem le_sum6 {v : List Int} (h : ∀ p ∈ v, 0 ≤ p) : ∀ p ∈ v, p ≤ v.sum := by
  induction v with
  | nil => intro p hp; cases hp
  | cons x r ih =>
    intro p hp
    have h1 := sum_nonneg fun z hz => h z (List.mem_cons_of_mem x hz)
    rw [List.sum_cons]
    rcases List.mem_cons.mp hp with rfl | hp
    · (first | lia | omega)
    · have := ih (fun z hz => h z (List.mem_cons_of_mem _ hz)) p hp
      have := h x List.mem_cons_self
      (first | lia | omega)
theorem lr_pre6 {v : List Int} {S k B : Nat} (H : Seat6 v S k B) (e4 : k = 4) : LrPre v S (B + 2) := by
  have hT := sum_pos6 H.pos H.n1
  have hle := le_sum6 fun p hp => Int.le_of_lt (H.pos p hp)
  have hs := H.sum
  have h7 := H.h7
  have h4 := H.n4
  have hB := H.hB
  refine ⟨H.s1 e4, Nat.lt_of_le_of_lt h7 (by decide), H.n1, Nat.le_trans h4 (by decide), hT, fun p hp => ?_, hs, ?_, fun p hp => ?_, ?_⟩
  · exact lt_pow (H.sm p hp) (Nat.le_add_right B 2)
  · obtain ⟨k, h1, h2, _⟩ := lr_k (S := S) hT; (first | lia | omega)
  · have h1 := hle p hp
    have h2 := H.pos p hp
    have h3 : p * (S : Int) ≤ v.sum * (S : Int) := Int.mul_le_mul_of_nonneg_right h1 (by (first | exact Int.natCast_nonneg _ | lia | omega))
    have h4 : 0 ≤ (p * (S : Int)).fdiv v.sum := Int.fdiv_nonneg (Int.mul_nonneg (by (first | exact Int.le_of_lt (by assumption) | lia | omega)) (by (first | exact Int.natCast_nonneg _ | lia | omega))) (by (first | exact Int.le_of_lt (by assumption) | lia | omega))
    have h5 := rem_range (a := p * (S : Int)) hT
    have h6 : (p * (S : Int)).fdiv v.sum ≤ (S : Int) := by
      refine Int.not_lt.mp fun q => ?_
      have : ((S : Int) + 1) * v.sum ≤ (p * (S : Int)).fdiv v.sum * v.sum := Int.mul_le_mul_of_nonneg_right (by (first | assumption | lia | omega)) (by (first | exact Int.le_of_lt (by assumption) | lia | omega))
      rw [Int.add_mul, Int.one_mul, Int.mul_comm (S : Int)] at this
      (first | lia | omega)
    exact Nat.lt_of_le_of_lt (show _ ≤ 7 by (first | lia | omega)) (by decide)
  · exact Nat.le_trans (Nat.add_le_add_right hB 2) (by decide)

theorem answers6 {W : Wk} (c : Ctx6 W) {v : List Int} {S k B : Nat} (H : Seat6 v S k B) {nm : Str} (hnm : nm ∈ names6.getD k []) :
    Fn W (.ref c.D.cp) 2 [.str nm, listI v, .int (S : Int)] (listI (told6 v S k)) ∧
    FnG W (.ref c.D.cp) 2 [.str nm, listI v, .int (S : Int), .none, .bool false] (fun d => tie6 v S k = false ∧ d = listI (told6 v S k)) (fun x => tie6 v S k = true ∧ x = .ref c.C) := by
  have h4 := H.n4
  have h7 := H.h7
  by_cases hk : k < 4
  · rw [names6_div hk] at hnm
    have hf := free6 hk
    have PR : DivPre (rule6 k) v S B nm := by
      refine ⟨Nat.le_trans h7 (by decide), H.n1, Nat.le_trans h4 (by decide), fun q hq e => ?_, (names_ok (rule6 k) nm hnm).2.2.2, Nat.lt_of_le_of_lt (Nat.mul_le_mul h4 h7) (by decide), H.sm, Nat.le_trans H.hB (by decide)⟩
      have h1 : free (rule6 k) = 1 := by rw [e]; rcases hq with rfl | rfl | rfl <;> rfl
      have := H.fit
      rw [← hf, h1] at this
      (first | lia | omega)
    have h1 := cp_spec c.D hnm PR
    have h2 := cp_specX c.D c.X hnm PR
    rw [← show told6 v S k = divF (rule6 k) v S from if_pos hk] at h1 h2
    rw [← show tie6 v S k = divTie (rule6 k) v S from if_pos hk] at h2
    exact ⟨h1, h2⟩
  · have e4 : k = 4 := by have := H.hk; (first | lia | omega)
    have P := lr_pre6 H e4
    have hnm := names6_lr nm (by subst e4; exact hnm)
    have h1 := cp_lr c.D (C := c.C) (fun _ => c.X) c.H hnm P .three
    have h2 := cp_lr c.D (C := c.C) (ta := false) (fun _ => c.X) c.H hnm P .five
    rw [← show told6 v S k = lrF v S from if_neg hk] at h1 h2
    rw [← show tie6 v S k = lrTie v S from if_neg hk] at h1 h2
    exact ⟨h1.imp (fun h => nomatch h) (fun _ h => h.2) (fun _ h => nomatch h.1), h2.imp (fun _ => trivial) (fun _ h => ⟨h.1 rfl, h.2⟩) (fun _ h => h.2)⟩

noncomputable def w6 (ns : List Int) : List Int := (sliceP ns (some 2) (some 6)).map fun x => (x.natAbs : Int) + 1
noncomputable def v6 (ns : List Int) : List Int := if w6 ns = [] then [1] else w6 ns
theorem w6_len (ns : List Int) : (w6 ns).length ≤ 4 := by unfold w6; rw [List.length_map]; exact sliceP_len ns 2 6
theorem sum_bound {M : Nat} : ∀ {l : List Int}, (∀ p ∈ l, p.natAbs < M) → l.sum.natAbs + l.length ≤ l.length * M
  | [], _ => Nat.zero_le _
  | x :: r, h => by
    have h1 := sum_bound (l := r) fun p hp => h p (List.mem_cons_of_mem _ hp)
    have h2 := h x List.mem_cons_self
    rw [List.sum_cons, List.length_cons, Nat.succ_mul]
    exact Nat.le_trans (Nat.add_le_add_right (Int.natAbs_add_le x r.sum) _) (Nat.le_trans (Nat.le_of_eq (by rw [Nat.add_comm (x.natAbs), Nat.add_add_add_comm])) (Nat.add_le_add h1 h2))
theorem v6_set {ns : List Int} {B : Nat} (h : ∀ x ∈ ns, x.natAbs < 2 ^ B) (hB : B ≤ 2 ^ 20) : Set6 (v6 ns) (B + 1) := by
  have h1 : 1 ≤ 2 ^ B := Nat.one_le_two_pow
  have e : (2 : Nat) ^ (B + 1) = 2 ^ B * 2 := Nat.pow_succ ..
  have hl := w6_len ns
  have main : 1 ≤ (v6 ns).length ∧ (v6 ns).length ≤ 4 ∧ ∀ p ∈ v6 ns, 0 < p ∧ p.natAbs < 2 ^ (B + 1) := by
    unfold v6
    split
    · refine ⟨by decide, by decide, fun p hp => ?_⟩
      rw [List.mem_singleton.mp hp, e]
      exact ⟨by decide, Nat.lt_of_lt_of_le (show 1 < 1 * 2 by decide) (Nat.mul_le_mul_right 2 h1)⟩
    · rename_i q
      refine ⟨List.length_pos_iff.mpr q, hl, fun p hp => ?_⟩
      unfold w6 at hp
      obtain ⟨x, hx, rfl⟩ := List.mem_map.mp hp
      have := h x (sliceP_mem hx)
      (first | lia | omega)
  obtain ⟨n1, n4, hp⟩ := main
  refine ⟨n1, n4, fun p q => (hp p q).1, fun p q => (hp p q).2, ?_, by (first | lia | omega)⟩
  have h3 := sum_bound fun p q => (hp p q).2
  have h4 : (v6 ns).length * 2 ^ (B + 1) ≤ 4 * 2 ^ (B + 1) := Nat.mul_le_mul_right _ n4
  have e2 : (2 : Nat) ^ (B + 1 + 2) = 2 ^ (B + 1) * 4 := Nat.pow_add ..
  rw [e2, Nat.mul_comm]
  exact Nat.lt_of_lt_of_le (Nat.lt_add_of_pos_right n1) (Nat.le_trans h3 h4)

section
variable {W : Wk} {A : Around} {hid : PMap} {env : Env} {vars : Vars} {mu : Mu} {K : Out → Prop}
noncomputable abbrev lEnv (p : Program) (a L : Addr) (dV kV doc pm : Value) (an : Option Addr) (cdv ct : Value) : Env := fEnv (fnOf "law" "law" (argsOf p "law") (bodyOf p "law") (scopeOf p "law") dV kV doc pm an cdv ct) a L
noncomputable abbrev StoAll (hid : PMap) (env : Env) : Prop := ∀ x, ((scopeOf p1 "law").names.lookup x == some .local || (scopeOf p1 "law").names.lookup x == some .cell) = true → Sto hid env x
theorem stoAll {hid : PMap} {env : Env} (hs : ∀ x, (scopeOf p1 "law").names.lookup x = some .local ∨ (scopeOf p1 "law").names.lookup x = some .cell → Sto hid env x) : StoAll hid env := fun x h => hs x (by
  rw [Bool.or_eq_true, beq_iff_eq, beq_iff_eq] at h; exact h)
theorem StoAll.to {hid hid' : PMap} {env : Env} (s : StoAll hid env) (h : ∀ y, Sto hid env y → Sto hid' env y) : StoAll hid' env := fun x q => h x (s x q)

noncomputable abbrev vA6 (v : List Int) (S k : Nat) (nm : Str) : Vars := [("seats", .int (S : Int)), ("votes", listI v), ("name", .str nm), ("rule", .int (k : Int))]

set_option maxHeartbeats 1000000 in
theorem law_A {a L : Addr} {dV kV doc pm an cdv ct} {ns : List Int} {B : Nat} {rest : List Stmt} (N : Names W) (G : GData W "_law_names" lineV6) (ao : AOk W A 0) (hn : ns.length ≤ 63) (hB : ∀ x ∈ ns, x.natAbs < 2 ^ B) (hB2 : B ≤ 2 ^ 20)
    (st : StoAll hid (lEnv p1 a L dV kV doc pm an cdv ct))
    (k : ∀ v S r nm, Seat6 v S r (B + 1) → nm ∈ names6.getD r [] → Exs W A hid (lEnv p1 a L dV kV doc pm an cdv ct) (vA6 v S r nm) [] rest K) :
    Exs W A hid (lEnv p1 a L dV kV doc pm an cdv ct) [("script", listI ns)] [] ((bodyOf p1 "law").take 6 ++ rest) K := by
  have E : EnvOk (lEnv p1 a L dV kV doc pm an cdv ct) := ⟨rfl, rfl, rfl⟩
  show Exs _ _ _ _ _ _ ((bodyOf p1 "law").getD 0 (.Pass default) :: (bodyOf p1 "law").getD 1 (.Pass default) :: (bodyOf p1 "law").getD 2 (.Pass default) :: (bodyOf p1 "law").getD 3 (.Pass default) :: (bodyOf p1 "law").getD 4 (.Pass default) :: (bodyOf p1 "law").getD 5 (.Pass default) :: rest) K
  generalize hhd : ns.getD 0 0 = hd
  refine exs_set (d := .int hd) (by rw [← hhd]; exact ev_sc0 E rfl hn rfl (fun _ => rfl)) (st _ rfl) rfl rfl rfl ?_
  obtain ⟨r, hr5, er⟩ := fmod_lt hd (show 0 < 5 by decide)
  have er : hd.fmod 5 = (r : Int) := er
  refine exs_set (d := .int (r : Int)) (by rw [← er]; exact ev_mod (ev_name rfl rfl) ev_int (by decide)) (st _ rfl) rfl rfl rfl ?_
  have hrn := names6_pos hr5
  have hnames : ∀ {vars : Vars} {mu : Mu} {q1 q2 q3 : Pos}, vars.lookup ("rule" : Str) = some (.int (r : Int)) → Ev W A hid (lEnv p1 a L dV kV doc pm an cdv ct) vars mu (.Subscript (.Name "_law_names" q1) (.Name "rule" q2) q3) (strsV (names6.getD r [])) := by
    intro vars mu q1 q2 q3 hx
    exact ev_nidx (l := names6.map strsV) (ev_gdata N E G rfl (by decide +kernel)) (ev_name hx rfl) AsList.list (by decide) (by rw [List.getElem?_map, names6_get hr5]; rfl)
  refine exs_set (d := .str (pick (names6.getD r []) (hd.fdiv 5))) (ev_pick N E hrn.1 (Nat.le_trans hrn.2 (by decide)) (hnames rfl) (ev_fdiv N.ok ao (ev_name rfl rfl) ev_int (by decide)) (hnames rfl) rfl rfl) (st _ rfl) rfl rfl rfl ?_
  have hnm := pick_mem (l := names6.getD r []) (z := hd.fdiv 5) hrn.1
  generalize pick (names6.getD r []) (hd.fdiv 5) = nm at *
  have hwl := w6_len ns
  refine exs_set (d := listI (v6 ns)) ?_ (st _ rfl) rfl rfl rfl ?_
  · refine ev_or (da := listI (w6 ns)) (x := !decide (w6 ns = [])) ?_ ?_ (fun e => ?_) (fun e => ?_)
    · have h : listI (w6 ns) = .list ((sliceP ns (some 2) (some 6)).map fun x => .int ((x.natAbs : Int) + 1)) := by
        unfold w6 listI; rw [List.map_map]; rfl
      rw [h]
      refine EvNew.ev (evnew_compA (α := Int) (mk := .int) (xs := sliceP ns (some 2) (some 6)) (f := fun x => .int ((x.natAbs : Int) + 1)) (d := listI (sliceP ns (some 2) (some 6))) (vars' := []) (tv := fun x => [("number", .int x)])
        ⟨inj_int, ao.handled, rfl, ?_, .list AsList.list, ⟨rfl, rfl, by decide⟩, .nil, fun _ => rfl, .any fun _ _ => rfl, by have := sliceP_len ns 2 6; exact Nat.le_trans this (by decide), fun hid' C x _ o => tgt_name (store_own hid' rfl) rfl rfl, fun hid' C x hx => ev_add (ev_abs N ⟨rfl, rfl, rfl⟩ (ev_name rfl rfl) rfl rfl) ev_int, fun x _ => .nil⟩)
      show Ev _ _ _ _ _ _ _ (.list ((sliceP ns (some 2) (some 6)).map .int))
      rw [← sliceP_map]
      exact EvNew.ev (evnew_slice (l := ns.map .int) (ev_name rfl rfl) AsList.list (mapLe hn) (.some ev_int) (.some ev_int))
    · show (_ = !((w6 ns).map PV.int).isEmpty) ∧ _
      rw [isEmpty_ints]
      exact ⟨rfl, mapLt (Nat.le_trans hwl (by decide))⟩
    · have e : w6 ns ≠ [] := by simpa using e
      unfold v6; rw [if_neg e]
    · have e : w6 ns = [] := by simpa using e
      have : v6 ns = [1] := by unfold v6; rw [if_pos e]
      rw [this]
      exact ev_list (evargs_cons ev_int evargs_nil rfl) (Nat.le_of_ble_eq_true rfl)
  have HS := v6_set hB hB2
  generalize v6 ns = v at *
  have v63 : v.length ≤ 63 := Nat.le_trans HS.n4 (by decide)
  have hn4 := HS.n4
  have hn1 := HS.n1
  obtain ⟨s, hs7, es⟩ := fmod_lt (ns.getD 1 2) (show 0 < 7 by decide)
  have es : (ns.getD 1 2).fmod 7 = (s : Int) := es
  refine exs_set (d := .int (s : Int)) (by rw [← es]; exact ev_mod (ev_scK (k := 1) N E rfl hn rfl rfl rfl) ev_int (by decide)) (st _ rfl) rfl rfl rfl ?_
  have fin : ∀ (S : Nat) {vs : Vars}, Seat6 v S r (B + 1) → Sub (vA6 v S r nm) vs → Exs W A hid (lEnv p1 a L dV kV doc pm an cdv ct) vs [] [] (fun o => ∃ S v', o = .next v' [] ∧ Sub (vA6 v S r nm) v' ∧ Seat6 v S r (B + 1)) := fun S vs h1 h2 => exs_nil ⟨_, _, rfl, h2, h1⟩
  refine exs_cons (K' := fun o => ∃ S v', o = .next v' [] ∧ Sub (vA6 v S r nm) v' ∧ Seat6 v S r (B + 1)) (ex_if (x := ((r : Int) == 2) || ((r : Int) == 3)) (tr_or2 (tr_cmp (ev_name rfl rfl) ev_int rfl c_eq) fun _ => tr_cmp (ev_name rfl rfl) ev_int rfl c_eq) (fun e => ?_) (fun e => ?_))
    (fun v' m' ⟨S, v'', e, hsub, hg⟩ => by cases e; exact run_forget hsub (List.Sublist.refl _) (k v S r nm hg hnm)) (fun o ⟨_, _, e, _⟩ hn => absurd e (hn _ _))
  · have e : r = 2 ∨ r = 3 := by
      rw [Bool.or_eq_true, beq_iff_eq, beq_iff_eq] at e; (first | lia | omega)
    obtain ⟨u, hu4, eu⟩ := fmod_lt (s : Int) (show 0 < 4 by decide)
    have eu : (s : Int).fmod 4 = (u : Int) := eu
    refine exs_set (d := .int ((v.length + u : Nat) : Int)) (ev_eq (c := .int (((v.length : Nat) : Int) + (s : Int).fmod 4)) (congrArg PV.int (by rw [eu]; (first | (simp; done) | lia | omega))) (ev_add (ev_lenI N E rfl v63 rfl rfl) (ev_mod (ev_name rfl rfl) ev_int (by decide)))) (st _ rfl) rfl rfl rfl (fin (v.length + u) ⟨HS, hr5, by (first | lia | omega), by rw [show lo6 r = 1 from if_pos e]; (first | (simp; done) | lia | omega), fun z => by (first | (subst_vars; lia) | lia | omega)⟩ (by walk_at "sub"))
  · have e : ¬ (r = 2 ∨ r = 3) := by
      rw [Bool.or_eq_false_iff, beq_eq_false_iff_ne, beq_eq_false_iff_ne] at e; (first | lia | omega)
    have hlo : lo6 r = 0 := if_neg e
    refine exs_cons (K' := fun o => ∃ S v', o = .next v' [] ∧ Sub (vA6 v S r nm) v' ∧ Seat6 v S r (B + 1)) (ex_if (x := ((r : Int) == 4)) (tr_cmp (ev_name rfl rfl) ev_int rfl c_eq) (fun e4 => ?_) (fun e4 => ?_)) (fun v' m' h => exs_nil h) (fun o h _ => h)
    · have e4 : r = 4 := by rw [beq_iff_eq] at e4; (first | lia | omega)
      refine exs_set (d := .int ((max 1 s : Nat) : Int)) (ev_eq (c := .int (max 1 (s : Int))) (congrArg PV.int (by (first | lia | omega))) (ev_max2 N E ao.handled ev_int (ev_name rfl rfl) rfl rfl rfl)) (st _ rfl) rfl rfl rfl (fin (max 1 s) ⟨HS, hr5, by (first | lia | omega), by rw [hlo]; (first | exact Nat.zero_le _ | lia | omega), fun z => by (first | lia | omega)⟩ (by walk_at "sub"))
    · have e4 : r ≠ 4 := by rw [beq_eq_false_iff_ne] at e4; (first | lia | omega)
      exact fin s ⟨HS, hr5, by (first | exact Nat.le_of_lt (by assumption) | lia | omega), by rw [hlo]; (first | exact Nat.zero_le _ | lia | omega), fun z => absurd z e4⟩ (by walk_at "sub")
end
end Mine
end

section
open PySem PySem.W PyProof.Rows PySem.Calls PySem.SeqAt
set_option linter.unusedVariables false
set_option maxRecDepth 100000
namespace Mine

section
variable {W : Wk} {A : Around} {hid : PMap} {env : Env} {vars : Vars} {mu : Mu} {K : Out → Prop}

theorem ev_and3 {a b c : Expr} {pos} {x y z : Bool} (ha : Ev W A hid env vars mu a (.bool x)) (hb : x = true → Ev W A hid env vars mu b (.bool y)) (hc : x = true → y = true → Ev W A hid env vars mu c (.bool z)) : Ev W A hid env vars mu (.BoolOp .And [a, b, c] pos) (.bool (x && y && z)) := fun g h t Q E R k => by
  show wpAny _ _ (boolOp pos .And [eval a env, eval b env, eval c env]) _ _ _
  refine wpAny_bind (ha g h t _ E R fun u g1 h1' t1 l1 R1 i1 => wpAny_bind (wpAny_standAt (wpAny_bind (wpAny_holding (truthy_pv (d := .bool x) (b := x) R1 i1 rfl fun t' => ?_)))))
  cases x
  · exact wpAny_pure (k u g1 h1' t' l1 R1 i1)
  · exact ev_and2b (pos := pos) (hb rfl) (hc rfl) g1 h1' t' Q E R1 fun u g2 h2 t2 l2 R2 i2 => k u g2 h2 t2 (l1.trans l2) R2 (by simpa using i2)

noncomputable def strictV (t : Bool) (l : List Int) : PV := if t then .none else listI l
noncomputable def strictD (t : Bool) (l : List Int) : PyData := if t then .none else .list (l.map .int)
theorem strict_dat {mu : Mu} {t : Bool} {l : List Int} : Dat mu (strictV t l) (strictD t l) := by
  cases t
  · exact .nums AsList.list
  · exact .none
noncomputable def optV : Option Int → PV
  | none => .none
  | some m => .int m

noncomputable abbrev vB6 (v : List Int) (S k : Nat) (nm : Str) : Vars := [("costs", .list ((rows6 v S k).map listI)), ("strict", strictV (tie6 v S k) (told6 v S k)), ("told", listI (told6 v S k)), ("seats", .int (S : Int)), ("votes", listI v), ("name", .str nm), ("rule", .int (k : Int))]

set_option maxHeartbeats 1000000 in
theorem law_B {a L : Addr} {dV kV doc pm an cdv ct} {v : List Int} {S k B : Nat} {nm : Str} {rest : List Stmt} {outer} (c : Ctx6 W) (ao : AOk W A 4) (FX : FrX A hid (lEnv p1 a L dV kV doc pm an cdv ct) outer) (H : Seat6 v S k B) (hnm : nm ∈ names6.getD k [])
    (st : StoAll hid (lEnv p1 a L dV kV doc pm an cdv ct))
    (kk : Exs W A hid (lEnv p1 a L dV kV doc pm an cdv ct) (vB6 v S k nm) [] rest K) :
    Exs W A hid (lEnv p1 a L dV kV doc pm an cdv ct) (vA6 v S k nm) [] ((bodyOf p1 "law").getD 6 (.Pass default) :: (bodyOf p1 "law").getD 7 (.Pass default) :: (bodyOf p1 "law").getD 8 (.Pass default) :: rest) K := by
  have N := c.D.nm
  have E : EnvOk (lEnv p1 a L dV kV doc pm an cdv ct) := ⟨rfl, rfl, rfl⟩
  have ao2 : AOk W A 2 := ao.less (by decide)
  have ao1 : AOk W A 1 := ao.less (by decide)
  have v63 : v.length ≤ 63 := Nat.le_trans H.n4 (by decide)
  obtain ⟨a1, a2⟩ := answers6 c H hnm
  refine exs_set (d := listI (told6 v S k)) (ev_call_def N E ao2 c.D.hcp rfl (by decide +kernel) (by walk_at "args") a1 rfl) (st _ rfl) rfl rfl rfl ?_
  have fin : ∀ {o : Out}, ((∃ d, (tie6 v S k = false ∧ d = listI (told6 v S k)) ∧ o = .next (("strict", d) :: ("told", listI (told6 v S k)) :: vA6 v S k nm) []) ∨ (∃ x, (tie6 v S k = true ∧ x = .ref c.C) ∧ o = .exc x (("told", listI (told6 v S k)) :: vA6 v S k nm) [])) →
      (tie6 v S k = false ∧ o = .next (("strict", strictV (tie6 v S k) (told6 v S k)) :: ("told", listI (told6 v S k)) :: vA6 v S k nm) []) ∨ (tie6 v S k = true ∧ o = .exc (.ref c.C) (("told", listI (told6 v S k)) :: vA6 v S k nm) []) := by
    rintro o (⟨d, ⟨h1, rfl⟩, e⟩ | ⟨x, ⟨h1, rfl⟩, e⟩)
    · rw [h1] at *; exact .inl ⟨rfl, e⟩
    · exact .inr ⟨h1, e⟩
  refine exs_next (v := ("strict", strictV (tie6 v S k) (told6 v S k)) :: ("told", listI (told6 v S k)) :: vA6 v S k nm) (m := [])
    (ex_tryG (K' := fun o => (tie6 v S k = false ∧ o = .next (("strict", strictV (tie6 v S k) (told6 v S k)) :: ("told", listI (told6 v S k)) :: vA6 v S k nm) []) ∨ (tie6 v S k = true ∧ o = .exc (.ref c.C) (("told", listI (told6 v S k)) :: vA6 v S k nm) [])) (K2 := fun o => tie6 v S k = true ∧ o = .next (("strict", .none) :: ("told", listI (told6 v S k)) :: vA6 v S k nm) [])
      FX (takesX N.ok c.X (gname_g E c.X.own.bound rfl (by decide +kernel))) ?_ ?_ ?_ ?_ ?_) ?_
  · exact exs_cons (ex_assignG (ev_call_defG N E ao2 (fun _ => FX) (fun _ _ => trivial) c.D.hcp rfl (by decide +kernel) (by walk_at "args") a2 rfl) (st _ rfl) rfl rfl rfl) (fun v' m' e => exs_nil (fin e)) (fun o e _ => fin e)
  · rintro o (⟨_, e⟩ | ⟨_, e⟩) hn
    · exact e
    · exact absurd e (hn _ _ _)
  · rintro y v' m' (⟨_, e⟩ | ⟨h1, e⟩)
    · cases e
    · cases e
      exact ⟨rfl, fun _ => exs_set ev_none (st _ rfl) rfl rfl rfl (exs_nil ⟨h1, rfl⟩)⟩
  · rintro o ⟨h1, e⟩
    rw [h1]; exact e
  · rintro y v' m' ⟨_, e⟩; cases e
  have e : PV.list ((rows6 v S k).map listI) = .list ((List.range v.length).map fun i => listI (row6 v S k i)) := by
    unfold rows6; rw [List.map_map]; rfl
  refine exs_next (v := vB6 v S k nm) (m := []) ?_ kk
  show Ex1 _ _ _ _ _ _ _ (· = .next (("costs", .list ((rows6 v S k).map listI)) :: _) [])
  rw [e]
  exact ex_compA (α := Nat) (mk := fun i => .int (i : Int)) (xs := List.range v.length) (d := .rng 0 ((v.length : Nat) : Int)) (vars' := [("seats", .int (S : Int)), ("votes", listI v), ("rule", .int (k : Int))]) (tv := fun i => [("i", .int (i : Int)), ("seats", .int (S : Int)), ("votes", listI v), ("rule", .int (k : Int))])
    ⟨inj_nat, ao.handled, rfl, ev_range1 N E (ev_lenI N E rfl v63 rfl rfl) rfl rfl, src_rng (by (first | lia | omega)), ⟨rfl, rfl, by decide⟩, by walk_at "over", fun _ => rfl, .any fun _ _ => rfl, by rw [List.length_range]; (first | lia | omega), fun hid' C x hx o => tgt_name (store_own hid' rfl) rfl rfl, fun hid' C x hx =>
      ev_call_def N ⟨rfl, rfl, rfl⟩ ao1 c.DC rfl (by decide +kernel) (by walk_at "args") (costs_spec N c.DC H.hk H.toSet6 (List.mem_range.mp hx) H.h7) rfl, fun x _ => by walk_at "sub"⟩ rfl rfl rfl
end
end Mine
end

section
open PySem PySem.W PyProof.Rows PySem.Calls PySem.SeqAt
set_option linter.unusedVariables false
set_option maxRecDepth 100000
namespace Mine

section
variable {W : Wk} {A : Around} {hid : PMap} {env : Env} {vars : Vars} {mu : Mu} {K : Out → Prop}

noncomputable abbrev dealV (b : List Nat) : PV := listI (toI b)
noncomputable abbrev vC6 (o : Option Int) (D : Addr) (v : List Int) (S k : Nat) (nm : Str) : Vars := ("least", optV o) :: ("found", .loc D) :: vB6 v S k nm
theorem run_len {c : List Nat → Int} {l : List (List Nat)} : (runF c l).2.length ≤ l.length := by
  have := found_ok (c := c) l l.length (Nat.le_refl _)
  rw [List.take_length] at this
  rcases this with ⟨e, h⟩ | ⟨m, h, _⟩
  · rw [h]; exact Nat.zero_le _
  · rw [h]; exact List.length_filter_le _ _
theorem all_len {n S : Nat} (hn : n ≤ 3) (h7 : S ≤ 7) : (allN n S).length ≤ 512 :=
  Nat.le_trans allN_len (Nat.le_trans (Nat.pow_le_pow_left (show S + 1 ≤ 8 by (first | exact Nat.lt_succ_of_le (by assumption) | lia | omega)) n) (show 8 ^ n ≤ 8 ^ 3 from Nat.pow_le_pow_right (by decide) hn))

noncomputable def less6 : Option Int → Int → Bool
  | none, _ => true
  | some m, x => decide (x < m)
theorem step_less {c : List Nat → Int} {o : Option Int} {fs : List (List Nat)} {b : List Nat} : stepF c (o, fs) b = if less6 o (c b) then (some (c b), [b]) else (o, if o = some (c b) then fs ++ [b] else fs) := by
  cases o with
  | none => rfl
  | some m =>
    show (if c b < m then (some (c b), [b]) else if c b == m then (some m, fs ++ [b]) else (some m, fs)) = if decide (c b < m) = true then (some (c b), [b]) else (some m, if some m = some (c b) then fs ++ [b] else fs)
    by_cases q : c b < m
    · rw [if_pos q, if_pos (decide_eq_true q)]
    · have q2 : ¬ decide (c b < m) = true := fun z => q (of_decide_eq_true z)
      rw [if_neg q, if_neg q2]
      by_cases z : c b = m
      · have z1 : (c b == m) = true := beq_iff_eq.mpr z
        rw [if_pos z1, if_pos (congrArg some z.symm)]
      · have z1 : ¬ (c b == m) = true := fun w => z (beq_iff_eq.mp w)
        have z2 : ¬ some m = some (c b) := fun w => z (Option.some.inj w).symm
        rw [if_neg z1, if_neg z2]

set_option maxHeartbeats 1000000 in
theorem law_C {a L : Addr} {dV kV doc pm an cdv ct} {v : List Int} {S k B : Nat} {nm : Str} {rest : List Stmt} (c : Ctx6 W) (ao : AOk W A 4) (H : Seat6 v S k B)
    (st : StoAll hid (lEnv p1 a L dV kV doc pm an cdv ct))
    (kk : Exs W A hid (lEnv p1 a L dV kV doc pm an cdv ct) (("found", .list ((found6 v S k).map dealV)) :: vB6 v S k nm) [] rest K) :
    Exs W A hid (lEnv p1 a L dV kV doc pm an cdv ct) (vB6 v S k nm) [] ((bodyOf p1 "law").getD 9 (.Pass default) :: (bodyOf p1 "law").getD 10 (.Pass default) :: rest) K := by
  have N := c.D.nm
  have E : EnvOk (lEnv p1 a L dV kV doc pm an cdv ct) := ⟨rfl, rfl, rfl⟩
  have n1 := H.n1
  have n4 := H.n4
  have h7 := H.h7
  have v63 : v.length ≤ 63 := Nat.le_trans n4 (by decide)
  have e1 : v.length - 1 + 1 = v.length := by (first | lia | omega)
  have hrl : (rows6 v S k).length = v.length := by unfold rows6; rw [List.length_map, List.length_range]
  refine exs_cons (ex_pair_own ao.handled rfl ev_none (evnew_list evargs_nil (Nat.zero_le _)) rfl rfl (st _ rfl) (st _ rfl) rfl rfl rfl rfl) ?_ (fun o ⟨D, e⟩ hn => absurd e (hn _ _))
  rintro v' m' ⟨D0, e0⟩
  cases e0
  refine exs_cons (K' := fun o => ∃ D lv, o = .next (("least", optV lv) :: ("found", .loc D) :: vB6 v S k nm) [(D, (found6 v S k).map dealV)])
    (ex_for_xs (d := dealsV (allN (v.length - 1) S)) dealV (allN (v.length - 1) S) (fun j vv m => ∃ D, vv = vC6 (runF (c6 v S k) ((allN (v.length - 1) S).take j)).1 D v S k nm ∧ m = [(D, (runF (c6 v S k) ((allN (v.length - 1) S).take j)).2.map dealV)])
      ao.handled ?_ (fun _ _ _ _ => .list AsList.list) ⟨D0, rfl, rfl⟩ (st _ rfl) rfl rfl (fun _ => rfl) ?_ ?_) ?_ (fun o ⟨D, lv, e⟩ hn => absurd e (hn _ _))
  · have := all_spec N c.DA (n := v.length - 1) (S := S) (by (first | lia | omega)) h7
    rw [e1] at this
    exact ev_call_def N E (ao.less (by omega)) c.DA rfl (by decide +kernel) (evargs_cons (ev_name rfl rfl) (evargs_cons (ev_lenI N E rfl v63 rfl rfl) evargs_nil rfl) rfl) this rfl
  · rintro hid' j vv m b hsto hb ⟨D, rfl, rfl⟩
    have st' := st.to hsto
    have hj := lt_of_get hb
    have hbe : (allN (v.length - 1) S)[j] = b := by rw [List.getElem?_eq_getElem hj] at hb; exact Option.some.inj hb
    have hbm : b ∈ allN (v.length - 1) S := hbe ▸ List.getElem_mem hj
    obtain ⟨bl, _, bS⟩ := all_le n1 hbm
    have hlen : (runF (c6 v S k) ((allN (v.length - 1) S).take j)).2.length ≤ 512 := by
      refine Nat.le_trans run_len (Nat.le_trans ?_ (all_len (n := v.length - 1) (S := S) (by (first | lia | omega)) h7))
      rw [List.length_take]; exact Nat.min_le_right _ _
    have hsucc : runF (c6 v S k) ((allN (v.length - 1) S).take (j + 1)) = stepF (c6 v S k) (runF (c6 v S k) ((allN (v.length - 1) S).take j)) b := by
      rw [List.take_succ_eq_append_getElem hj, runF_snoc, hbe]
    rw [hsucc]
    generalize runF (c6 v S k) ((allN (v.length - 1) S).take j) = s at *
    obtain ⟨o, fs⟩ := s
    have hlen : fs.length ≤ 512 := hlen
    refine exs_set (d := .int (0 : Int)) ev_int (st' _ rfl) rfl rfl rfl ?_
    refine exs_next (v := ("cost", .int (c6 v S k b)) :: ("given", dealV b) :: vC6 o D v S k nm) (m := [(D, fs.map dealV)])
      (ex_for_rng (n := v.length) (fun i vv m => vv = (("cost", .int (sumF (fun i => ((rows6 v S k).getD i []).getD (fn b i) 0) i)) :: ("given", dealV b) :: vC6 o D v S k nm : Vars) ∧ m = [(D, fs.map dealV)]) ao.handled (ev_range1 N E (ev_lenI N E rfl v63 rfl rfl) rfl rfl) (lt61 v63) ⟨rfl, rfl⟩ (st' _ rfl) rfl rfl (fun _ => rfl) ?_ ?_) ?_
    · rintro hid2 i vv m hsto2 hi ⟨rfl, rfl⟩
      have hrow := rows6_get (v := v) (S := S) (k := k) hi
      have hbi := bS i hi
      refine exs_next (ex_aug (d := .int (sumF (fun i => ((rows6 v S k).getD i []).getD (fn b i) 0) (i + 1))) rfl
        (ev_iidx (xs := (rows6 v S k).getD i []) (k := fn b i) (ev_lidx (xs := rows6 v S k) (ev_name rfl rfl) (ev_name rfl rfl) AsList.list (by rw [hrl]; exact hi) (by rw [hrl]; exact le5 v63))
          (ev_eq (congrArg PV.int toI_get) (ev_iidx (xs := toI b) (k := i) (ev_name rfl rfl) (ev_name rfl rfl) AsList.list (by rw [List.length_map, bl]; exact hi) (by rw [List.length_map, bl]; exact le5 v63))) AsList.list ?_ ?_)
        (hsto2 _ (st' _ rfl)) rfl rfl a_add) (exs_nil ⟨_, _, by walk_at "sub", List.Sublist.refl _, rfl, rfl⟩)
      · rw [hrow]; unfold row6; rw [List.length_map, List.length_range]; (first | exact Nat.lt_succ_of_le (by assumption) | lia | omega)
      · rw [hrow]; unfold row6; rw [List.length_map, List.length_range]; (first | lia | omega)
    · rintro vv m ⟨rfl, rfl⟩; rfl
    have ht : stepF (c6 v S k) (o, fs) b = if less6 o (c6 v S k b) then (some (c6 v S k b), [b]) else (o, if o = some (c6 v S k b) then fs ++ [b] else fs) := step_less
    rw [ht]
    generalize c6 v S k b = cb at *
    refine exs_cons (K' := TurnK (fun vv m => ∃ D, vv = vC6 (if less6 o cb then (some cb, [b]) else (o, if o = some cb then fs ++ [b] else fs)).1 D v S k nm ∧ m = [(D, (if less6 o cb then (some cb, [b]) else (o, if o = some cb then fs ++ [b] else fs)).2.map dealV)]) (fun o => ∃ D lv, o = .next (("least", optV lv) :: ("found", .loc D) :: vB6 v S k nm) [(D, (found6 v S k).map dealV)]))
      (ex_if (x := less6 o cb) ?_ (fun e => ?_) (fun e => ?_)) (fun v' m' h => exs_nil h) (fun o h _ => h)
    · cases o with
      | none => exact tr_or2 (x := true) (y := true) (tr_cmp (a := .none) (ev_name rfl rfl) ev_none rfl (c_isn (fun _ z => nomatch z))) (fun e => nomatch e)
      | some m => exact tr_or2 (x := false) (tr_cmp (a := .int m) (ev_name rfl rfl) ev_none rfl (c_isn (fun _ z => nomatch z))) (fun _ => tr_cmp (ev_name rfl rfl) (ev_name rfl rfl) rfl c_lt)
    · rw [if_pos e]
      refine exs_cons (ex_pair_own (d := .int cb) (ds := [dealV b]) ao.handled rfl (ev_name rfl rfl) (evnew_list (evargs_cons (ev_name rfl rfl) evargs_nil rfl) (Nat.le_of_ble_eq_true rfl)) rfl rfl (st' _ rfl) (st' _ rfl) rfl rfl rfl rfl) ?_ (fun o ⟨D, e⟩ hn => absurd e (hn _ _))
      rintro v' m' ⟨D1, e0⟩
      cases e0
      exact exs_nil ⟨_, _, by walk_at "sub", .cons_cons _ (.cons _ (.refl _)), D1, rfl, rfl⟩
    · rw [if_neg (by rw [e]; decide)]
      cases o with
      | none => cases e
      | some m =>
        refine exs_cons (K' := TurnK (fun vv mm => ∃ D, vv = vC6 (some m) D v S k nm ∧ mm = [(D, (if some m = some cb then fs ++ [b] else fs).map dealV)]) (fun o => ∃ D lv, o = .next (("least", optV lv) :: ("found", .loc D) :: vB6 v S k nm) [(D, (found6 v S k).map dealV)]))
          (ex_if (x := cb == m) (tr_cmp (ev_name rfl rfl) (ev_name rfl rfl) rfl c_eq) (fun e2 => ?_) (fun e2 => ?_)) (fun v' m' h => exs_nil h) (fun o h _ => h)
        · rw [if_pos (congrArg some (beq_iff_eq.mp e2).symm)]
          refine exs_next (ex_append (m1 := []) (m2 := []) (a := D) (d := dealV b) (ev_name rfl rfl) (ev_name rfl rfl) (by rw [List.length_map]; (first | lia | omega)) rfl rfl rfl rfl rfl) (exs_nil ⟨_, _, by walk_at "sub", .refl _, D, rfl, ?_⟩)
          rw [List.map_append]; rfl
        · rw [if_neg (fun z => by injection z with z; rw [z, beq_self_eq_true] at e2; cases e2)]
          exact exs_nil ⟨_, _, by walk_at "sub", .refl _, D, rfl, rfl⟩
  · rintro vv m ⟨D, rfl, rfl⟩
    rw [List.take_length]
    exact ⟨D, _, rfl⟩
  · rintro v' m' ⟨D, lv, e⟩
    cases e
    exact run_seal (x := "found") (v' := vB6 v S k nm) (m' := []) (List.mem_singleton.mpr rfl) rfl (by walk_at "sub") (List.nil_sublist _) kk
end
end Mine
end

section
open PySem PySem.W PyProof.Rows PySem.Calls PySem.SeqAt
set_option linter.unusedVariables false
set_option maxRecDepth 100000
namespace Mine

section
variable {W : Wk} {A : Around} {hid : PMap} {env : Env} {vars : Vars} {mu : Mu} {K : Out → Prop}

noncomputable abbrev vD6 (fs : List (List Nat)) (co : PV) (tie : Bool) (t v : List Int) (S k : Nat) (nm : Str) : Vars := [("found", .list (fs.map dealV)), ("costs", co), ("strict", strictV tie t), ("told", listI t), ("seats", .int (S : Int)), ("votes", listI v), ("name", .str nm), ("rule", .int (k : Int))]

theorem law_D {a L : Addr} {dV kV doc pm an cdv ct} {fs : List (List Nat)} {co : PV} {tie : Bool} {t v : List Int} {S k : Nat} {nm : Str} (N : Names W) (ao : AOk W A 4) (hk : k < 5) (n63 : v.length ≤ 63) (f63 : fs.length ≤ 512)
    (len : ∀ b ∈ fs, b.length = v.length) (pos : 0 < fs.length) (tl : t.length = v.length) (ts : k = 4 → t.sum = (S : Int)) (one : tie = false → ∃ a, fs = [a] ∧ toI a = t) (two : tie = true → fs.length ≠ 1) (mx : k < 4 → maxL (fs.map toI) = t) :
    Exs W A hid (lEnv p1 a L dV kV doc pm an cdv ct) (vD6 fs co tie t v S k nm) [] ((bodyOf p1 "law").drop 11) (· = .ret (.bool true)) := by
  have E : EnvOk (lEnv p1 a L dV kV doc pm an cdv ct) := ⟨rfl, rfl, rfl⟩
  have t63 : t.length ≤ 63 := by (first | lia | omega)
  refine exs_go (d := .bool true) (c := (((fs.map dealV).length : Nat) : Int) == 1) (tr_cmp (ev_len N E (ev_name rfl rfl) AsList.list (by rw [List.length_map]; (first | lia | omega)) rfl rfl) ev_int rfl c_eq) (fun e => ?_) (fun e => ?_)
  · have e : fs.length = 1 := by rw [beq_iff_eq, List.length_map] at e; (first | lia | omega)
    have ht : tie = false := by
      cases tie
      · rfl
      · exact absurd e (two rfl)
    obtain ⟨b, rfl, rfl⟩ := one ht
    subst ht
    have h0 : ∀ {vars : Vars} {q1 q2 q3 : Pos} {k1 : Nat}, vars.lookup ("found" : Str) = some (.list [dealV b]) → Ev W A hid (lEnv p1 a L dV kV doc pm an cdv ct) vars [] (.Subscript (.Name "found" q1) (.Constant (.int 0) k1 q2) q3) (dealV b) := fun h =>
      ev_nidx (k := 0) (l := [dealV b]) (ev_name h rfl) ev_int AsList.list (show 1 ≤ 100000 from Nat.le_of_ble_eq_true rfl) rfl
    refine ⟨ev_eq ?_ (ev_and2b (ev_cmp (ev_name rfl rfl) (h0 rfl) rfl (c_eql' ao AsList.list AsList.list)) fun _ => ev_cmp (a := strictV false (toI b)) (ev_name rfl rfl) (h0 rfl) rfl (c_eqd ao strict_dat (.nums (ns := toI b) AsList.list))), rfl⟩
    rw [decide_eq_true rfl, Bool.true_and]
    show PV.bool (PyData.eqv (.list ((toI b).map .int)) (.list ((toI b).map .int))) = _
    rw [eqv_ints, decide_eq_true rfl]
  · have e : fs.length ≠ 1 := by rw [beq_eq_false_iff_ne, List.length_map] at e; (first | lia | omega)
    have ht : tie = true := by
      cases tie
      · obtain ⟨b, rfl, _⟩ := one rfl
        exact absurd rfl e
      · rfl
    subst ht
    refine exs_go (d := .bool true) (c := (k : Int) == 4) (tr_cmp (ev_name rfl rfl) ev_int rfl c_eq) (fun e4 => ?_) (fun e4 => ?_)
    · have e4 : k = 4 := by rw [beq_iff_eq] at e4; (first | lia | omega)
      refine ⟨ev_eq ?_ (ev_and3 (ev_cmp (a := .none) (ev_name rfl rfl) ev_none rfl (c_isn (fun _ z => nomatch z))) (fun _ => ev_cmp (ev_lenI N E rfl t63 rfl rfl) (ev_lenI N E rfl n63 rfl rfl) rfl c_eq) (fun _ _ => ev_cmp (ev_sum N E ao.handled (ev_name rfl rfl) AsList.list rfl rfl) (ev_name rfl rfl) rfl c_eq)), rfl⟩
      rw [tl, ts e4, beq_self_eq_true, beq_self_eq_true]; rfl
    · have e4 : k < 4 := by rw [beq_eq_false_iff_ne] at e4; (first | lia | omega)
      have hl : AsList ([] : Mu) (.list (fs.map dealV)) ((fs.map toI).map listI) := by rw [List.map_map]; exact AsList.list
      have hm := op_maxL (W := W) (A := A) (hid := hid) (env := lEnv p1 a L dV kV doc pm an cdv ct) (vars := vD6 fs co true t v S k nm) (L := v.length) ao hl (by rw [List.length_map]; exact pos) (fun l hl => by
        obtain ⟨b, hb, rfl⟩ := List.mem_map.mp hl
        rw [List.length_map]; exact len b hb)
      rw [mx e4] at hm
      refine exs_ret (ev_eq ?_ (ev_and2b (ev_cmp (a := .none) (ev_name rfl rfl) ev_none rfl (c_isn (fun _ z => nomatch z))) fun _ => ev_cmp (ev_name rfl rfl) (ev_call_builtin N.ok (gname_b E N.max (by decide) boot_max rfl (by decide)) (args1 (ev_name rfl rfl) rfl) hm rfl rfl) rfl (c_eql' ao AsList.list AsList.list))) rfl
      rw [decide_eq_true rfl]; rfl

theorem law_spec {fa : Addr} {ns : List Int} (c : Ctx6 W) (DL : DefAt W p1 "law" fa .none) (hn : ns.length ≤ 63) (hB : ∀ x ∈ ns, x.natAbs < 2 ^ (2 ^ 20)) :
    FnG W (.ref fa) 5 [listI ns] (· = .bool true) (fun _ => False) := by
  have N := c.D.nm
  obtain ⟨hm, kV, doc, pm, an, cdv, ct, F⟩ := DL
  refine fn_introX N.ok F [("script", listI ns)] ["script"] rfl (by show paramsOk (scopeOf p1 "law") _ = true; decide +kernel) (by decide +kernel) ?_ ?_
  · intro g h t us kb kg is
    cases is with
    | cons i1 is =>
      cases is
      exact ⟨_, BindsTo.of_eq rfl, .cons i1 .nil⟩
  · intro A hid L outer ao FX hs
    have st := stoAll hs
    show Exs _ _ _ _ _ _ ((bodyOf p1 "law").take 6 ++ ((bodyOf p1 "law").getD 6 (.Pass default) :: (bodyOf p1 "law").getD 7 (.Pass default) :: (bodyOf p1 "law").getD 8 (.Pass default) :: (bodyOf p1 "law").getD 9 (.Pass default) :: (bodyOf p1 "law").getD 10 (.Pass default) :: (bodyOf p1 "law").drop 11)) _
    refine law_A N c.G (ao.less (by decide)) hn hB (Nat.le_refl _) st fun v S k nm H hnm => ?_
    refine law_B c ao FX H hnm st (law_C c ao H st ?_)
    have R := end6 H.hk H.pos H.n1 H.h7 H.fit
    have n4 := H.n4
    have fl : (found6 v S k).length ≤ 512 := Nat.le_trans run_len (all_len (by (first | lia | omega)) H.h7)
    exact (law_D (fs := found6 v S k) (tie := tie6 v S k) (t := told6 v S k) N ao H.hk (by (first | lia | omega)) fl R.len R.pos R.tl R.ts R.one R.two R.mx).imp fun o e => .inl ⟨_, rfl, e⟩
end
end Mine
end

open PySem PySem.W PyProof.Rows
set_option maxRecDepth 100000 in
set_option maxHeartbeats 8000000 in
theorem PySem.Challenge.cw_af0002_06_holds : PySem.Challenge.rw_af0002_06.Holds := by
  w_on
  o_law
  k_head
  case hw => w_witness2
  k_fill
  intro w s₀ s₁ mg mb G Y fa o pm cd doc dV kV ho hd hcd hD hmg hg args vals as hpre hlay hrd hwl hlo
  have KX := kIn_of Y
  refine Ground.open G ?_
  intro T B D TE TW
  wrow_args hpre hlay hrd hwl hlo
  rename_i ns _ _ hlay1 _ _ _ _ l vs _ hL _ w1 _ hI _ _ hlen
  clear hd hcd hD ho G Y B D TE TW
  have m2 := mg_of KX T.g (n := "law") (by k_is)
  obtain rfl := Value.ref.inj (Option.some.inj (hmg.symm.trans m2))
  let W : Mine.Wk := ⟨PySem.Challenge.pw_af0002_06, w, s₁.gens, s₁.drawn, s₁.os, s₁.heap, mg, mb⟩
  have O : W.Ok := ⟨T.g, T.b, T.builtins, T.nolimit, T.seer rfl, rfl⟩
  have N : Mine.Names W := ⟨O, mg_none_of KX T.g (by k_is), mg_none_of KX T.g (by k_is), mg_none_of KX T.g (by k_is), mg_none_of KX T.g (by k_is), mg_none_of KX T.g (by k_is), mg_none_of KX T.g (by k_is), mg_none_of KX T.g (by k_is), mg_none_of KX T.g (by k_is), mg_none_of KX T.g (by k_is), mg_none_of KX T.g (by k_is)⟩
  obtain ⟨C, OC, _⟩ := T.ownAt (x := "TiesException") (newId := "Exception.__new__") (bm := Mine.excBm) (by decide +kernel)
  have X : Mine.OwnX W "TiesException" C := ⟨OC⟩
  have DL : Mine.DefAt W Mine.p1 "law" _ .none := Mine.defAt_mk (W := W) KX m2 (by k_is) rfl (by k_is) ⟨rfl, rfl, rfl⟩
  have DC : Mine.DefAt W Mine.p1 "_law_costs" _ .none := Mine.defAt_mk (W := W) KX (mg_of KX T.g (n := "_law_costs") (by k_is)) (by k_is) rfl (by k_is) ⟨rfl, rfl, rfl⟩
  have DU : Mine.DefAt W Mine.p1 "_law_all" _ .none := Mine.defAt_mk (W := W) KX (mg_of KX T.g (n := "_law_all") (by k_is)) (by k_is) rfl (by k_is) ⟨rfl, rfl, rfl⟩
  have HL : Mine.LrAt W _ _ := ⟨Mine.defAt_mk (W := W) KX (mg_of KX T.g (n := "largest_remainder") (by k_is)) (by k_is) rfl (by k_is) ⟨rfl, rfl, rfl⟩, _, _, _, KX _ _ (by k_is), rfl⟩
  have mT := mg_of KX T.g (n := "apply_threshold") (by k_is)
  have mD := mg_of KX T.g (n := "divisor") (by k_is)
  have mC := mg_of KX T.g (n := "compute") (by k_is)
  let DD : Mine.Defs W := {
    nm := N
    at_ := _
    hat := Mine.defAt_mk (W := W) KX mT (by k_is) rfl (by k_is) ⟨rfl, rfl, rfl⟩
    dv := _
    dvT := _
    dvo := _
    dvv := _
    dvn := _
    hdv := Mine.defAt_mk (W := W) KX mD (by k_is) rfl (by k_is) ⟨rfl, rfl, rfl⟩
    hdvT := KX _ _ (by k_is)
    hdvd := rfl
    cp := _
    cpT := _
    cpo := _
    cpn := _
    hcp := Mine.defAt_mk (W := W) KX mC (by k_is) rfl (by k_is) ⟨rfl, rfl, rfl⟩
    hcpT := KX _ _ (by k_is)
    hcpd := rfl }
  have GD : Mine.GData W "_law_names" Mine.lineV6 := by
    refine ⟨_, mg_of KX T.g (n := "_law_names") (by k_is), ?_⟩
    refine .list (KX _ _ (by k_is)) ?_
    repeat (refine .cons (.list (KX _ _ (by k_is)) (by repeat (first | exact .nil | refine .cons .str ?_))) ?_)
    exact .nil
  let CX : Mine.Ctx6 W := { D := DD, C := C, X := X, lr := _, lrT := _, H := HL, G := GD, ca := _, DC := DC, aa := _, DA := DU }
  have hB : ∀ x ∈ ns, x.natAbs < 2 ^ (2 ^ 20) := fun x hx => Mine.bits_lt (PyData.bits_item_of_ints hlay1 hx)
  obtain ⟨nl, hl⟩ := Mine.well_list w1 hL
  have hF := Mine.law_spec (ns := ns) CX DL (by omega) hB
  refine hF callerA (fun _ => none) (fun a => s₁.heap.get? a) s₁.heap s₁.toks _ _ _ [] ⟨rfl, by decide, by decide, ⟨[], rfl⟩⟩ (fun _ => ⟨rfl, fun _ h => nomatch h⟩) ⟨fun _ _ e => e, fun _ _ e => e, fun _ _ e => (nomatch e), fun _ _ _ => rfl⟩ (.cons (.list hl (Mine.Iss.of_ints hI)) .nil) (fun d u g' h' t' hd lg RE iu => ?_) (fun _ _ _ _ _ _ hf => hf.elim)
  cases hd
  cases iu
  have hpost : PySem.Challenge.rw_af0002_06.row.claim.post [ofPy (PyData.list (List.map PyData.int ns))] (WData.bool true) [ofPy (PyData.list (List.map PyData.int ns))] = true := by
    exact postW_of (X := (true == true)) rfl (w_eq_bool rfl rfl) rfl
  refine GoodW.toG ⟨.inl ⟨_, .bool true, [], rfl, fun _ => rfl, .bool _, hpost, fun _ => ⟨.nil, fun a h => (nomatch h)⟩⟩, fun b o e => RE.gs b o (lg b o e), rfl, hg⟩
