import PyProof.Rows.All
import Wide.All
import OpenK.AllK
import Wide.FinOn
import PySem.Challenge.RW_re0121_01
set_option Elab.async false
set_option maxRecDepth 100000
section
namespace Mine
/-! functions on {0,1}^k as trees, the last coordinate on top -/
@[reducible] noncomputable def Tr : Nat → Type
  | 0 => Int
  | k + 1 => Tr k × Tr k
noncomputable def Ex (lo hi : Nat → Int) : (k : Nat) → Tr k → Int
  | 0, f => f
  | k + 1, f => lo k * Ex lo hi k f.1 + hi k * Ex lo hi k f.2
noncomputable def Tot (lo hi : Nat → Int) : Nat → Int
  | 0 => 1
  | k + 1 => (lo k + hi k) * Tot lo hi k
noncomputable def Tmul : (k : Nat) → Tr k → Tr k → Tr k
  | 0, f, g => ((f : Int) * (g : Int) : Int)
  | k + 1, f, g => (Tmul k f.1 g.1, Tmul k f.2 g.2)
noncomputable def Tle : (k : Nat) → Tr k → Tr k → Prop
  | 0, f, g => (f : Int) ≤ (g : Int)
  | k + 1, f, g => Tle k f.1 g.1 ∧ Tle k f.2 g.2
noncomputable def Tmono : (k : Nat) → Tr k → Prop
  | 0, _ => True
  | k + 1, f => Tmono k f.1 ∧ Tmono k f.2 ∧ Tle k f.1 f.2
noncomputable def Tdep : (k : Nat) → Tr k → Nat → Prop
  | 0, _, _ => False
  | k + 1, f, i => if i = k then f.1 ≠ f.2 else Tdep k f.1 i ∨ Tdep k f.2 i
theorem Tdep.lt : ∀ {k : Nat} {f : Tr k} {i : Nat}, Tdep k f i → i < k
  | k + 1, f, i, h => by
    unfold Tdep at h
    by_cases c : i = k
    · exact c ▸ Nat.lt_succ_self _
    · rw [if_neg c] at h
      exact Nat.lt_succ_of_lt (h.elim Tdep.lt Tdep.lt)
theorem Tdep.up {k : Nat} {f : Tr (k + 1)} {i : Nat} (h : Tdep k f.1 i ∨ Tdep k f.2 i) : Tdep (k + 1) f i := by
  unfold Tdep
  rw [if_neg (Nat.ne_of_lt (h.elim Tdep.lt Tdep.lt))]
  exact h
section
variable {lo hi : Nat → Int}
theorem Tot_pos (hp : ∀ i, 0 < lo i ∧ 0 < hi i) : ∀ k, 0 < Tot lo hi k
  | 0 => show (0 : Int) < 1 by decide
  | k + 1 => Int.mul_pos (Int.add_pos (hp k).1 (hp k).2) (Tot_pos hp k)
theorem Ex_le (hp : ∀ i, 0 < lo i ∧ 0 < hi i) : ∀ k (f g : Tr k), Tle k f g → Ex lo hi k f ≤ Ex lo hi k g ∧ (f ≠ g → Ex lo hi k f < Ex lo hi k g)
  | 0, f, g, h => by
    have h' : (f : Int) ≤ (g : Int) := h
    refine ⟨h', fun q => ?_⟩
    have q' : (f : Int) ≠ (g : Int) := q
    exact Int.lt_iff_le_and_ne.mpr ⟨h', q'⟩
  | k + 1, f, g, h => by
    obtain ⟨a1, a2⟩ := Ex_le hp k f.1 g.1 h.1
    obtain ⟨b1, b2⟩ := Ex_le hp k f.2 g.2 h.2
    have hl := (hp k).1
    have hh := (hp k).2
    refine ⟨?_, fun q => ?_⟩
    · exact Int.add_le_add (Int.mul_le_mul_of_nonneg_left a1 (Int.le_of_lt hl)) (Int.mul_le_mul_of_nonneg_left b1 (Int.le_of_lt hh))
    · by_cases q1 : f.1 = g.1
      · have q2 : f.2 ≠ g.2 := fun z => q (Prod.ext q1 z)
        exact Int.add_lt_add_of_le_of_lt (Int.mul_le_mul_of_nonneg_left a1 (Int.le_of_lt hl)) (Int.mul_lt_mul_of_pos_left (b2 q2) hh)
      · exact Int.add_lt_add_of_lt_of_le (Int.mul_lt_mul_of_pos_left (a2 q1) hl) (Int.mul_le_mul_of_nonneg_left b1 (Int.le_of_lt hh))
noncomputable def Cov (lo hi : Nat → Int) (k : Nat) (f g : Tr k) : Int := Tot lo hi k * Ex lo hi k (Tmul k f g) - Ex lo hi k f * Ex lo hi k g
theorem Cov_succ (k : Nat) (f g : Tr (k + 1)) : Cov lo hi (k + 1) f g =
    (lo k + hi k) * (lo k * Cov lo hi k f.1 g.1 + hi k * Cov lo hi k f.2 g.2) + lo k * hi k * ((Ex lo hi k f.2 - Ex lo hi k f.1) * (Ex lo hi k g.2 - Ex lo hi k g.1)) := by
  unfold Cov
  show (lo k + hi k) * Tot lo hi k * (lo k * Ex lo hi k (Tmul k f.1 g.1) + hi k * Ex lo hi k (Tmul k f.2 g.2)) - (lo k * Ex lo hi k f.1 + hi k * Ex lo hi k f.2) * (lo k * Ex lo hi k g.1 + hi k * Ex lo hi k g.2) = _
  grind
theorem harris (hp : ∀ i, 0 < lo i ∧ 0 < hi i) : ∀ k (f g : Tr k), Tmono k f → Tmono k g → 0 ≤ Cov lo hi k f g ∧ (0 < Cov lo hi k f g ↔ ∃ i, Tdep k f i ∧ Tdep k g i)
  | 0, f, g, _, _ => by
    have e : Cov lo hi 0 f g = 0 := by
      show 1 * ((f : Int) * (g : Int)) - (f : Int) * (g : Int) = 0
      rw [Int.one_mul, Int.sub_self]
    rw [e]
    exact ⟨Int.le_refl 0, ⟨fun h => (Int.lt_irrefl 0 h).elim, fun ⟨i, h, _⟩ => h.elim⟩⟩
  | k + 1, f, g, mf, mg => by
    obtain ⟨c0, d0⟩ := harris hp k f.1 g.1 mf.1 mg.1
    obtain ⟨c1, d1⟩ := harris hp k f.2 g.2 mf.2.1 mg.2.1
    obtain ⟨ef, sf⟩ := Ex_le hp k f.1 f.2 mf.2.2
    obtain ⟨eg, sg⟩ := Ex_le hp k g.1 g.2 mg.2.2
    have hl := (hp k).1
    have hh := (hp k).2
    rw [Cov_succ]
    have hs : 0 < lo k + hi k := Int.add_pos hl hh
    have t0 : 0 ≤ lo k * Cov lo hi k f.1 g.1 := Int.mul_nonneg (Int.le_of_lt hl) c0
    have t1 : 0 ≤ hi k * Cov lo hi k f.2 g.2 := Int.mul_nonneg (Int.le_of_lt hh) c1
    have tt : 0 ≤ (lo k + hi k) * (lo k * Cov lo hi k f.1 g.1 + hi k * Cov lo hi k f.2 g.2) := Int.mul_nonneg (Int.le_of_lt hs) (Int.add_nonneg t0 t1)
    have lh : 0 < lo k * hi k := Int.mul_pos hl hh
    have tp : 0 ≤ lo k * hi k * ((Ex lo hi k f.2 - Ex lo hi k f.1) * (Ex lo hi k g.2 - Ex lo hi k g.1)) := Int.mul_nonneg (Int.le_of_lt lh) (Int.mul_nonneg (Int.sub_nonneg.mpr ef) (Int.sub_nonneg.mpr eg))
    have top : f.1 ≠ f.2 → g.1 ≠ g.2 → 0 < lo k * hi k * ((Ex lo hi k f.2 - Ex lo hi k f.1) * (Ex lo hi k g.2 - Ex lo hi k g.1)) := fun a b =>
      Int.mul_pos lh (Int.mul_pos (Int.sub_pos.mpr (sf a)) (Int.sub_pos.mpr (sg b)))
    have low0 : 0 < Cov lo hi k f.1 g.1 → 0 < (lo k + hi k) * (lo k * Cov lo hi k f.1 g.1 + hi k * Cov lo hi k f.2 g.2) := fun a => Int.mul_pos hs (Int.add_pos_of_pos_of_nonneg (Int.mul_pos hl a) t1)
    have low1 : 0 < Cov lo hi k f.2 g.2 → 0 < (lo k + hi k) * (lo k * Cov lo hi k f.1 g.1 + hi k * Cov lo hi k f.2 g.2) := fun a => Int.mul_pos hs (Int.add_pos_of_nonneg_of_pos t0 (Int.mul_pos hh a))
    refine ⟨Int.add_nonneg tt tp, ⟨fun h => ?_, fun ⟨i, hf, hg⟩ => ?_⟩⟩
    · by_cases p0 : 0 < Cov lo hi k f.1 g.1
      · obtain ⟨i, x, y⟩ := d0.mp p0
        exact ⟨i, .up (.inl x), .up (.inl y)⟩
      · by_cases p1 : 0 < Cov lo hi k f.2 g.2
        · obtain ⟨i, x, y⟩ := d1.mp p1
          exact ⟨i, .up (.inr x), .up (.inr y)⟩
        · rw [Int.le_antisymm (Int.not_lt.mp p0) c0, Int.le_antisymm (Int.not_lt.mp p1) c1, Int.mul_zero, Int.mul_zero, Int.add_zero, Int.mul_zero, Int.zero_add] at h
          have a : f.1 ≠ f.2 := fun a => by rw [a, Int.sub_self, Int.zero_mul, Int.mul_zero] at h; exact Int.lt_irrefl 0 h
          have b : g.1 ≠ g.2 := fun b => by rw [b, Int.sub_self, Int.mul_zero, Int.mul_zero] at h; exact Int.lt_irrefl 0 h
          exact ⟨k, by unfold Tdep; rw [if_pos rfl]; exact a, by unfold Tdep; rw [if_pos rfl]; exact b⟩
    · unfold Tdep at hf hg
      by_cases q : i = k
      · rw [if_pos q] at hf hg
        exact Int.add_pos_of_nonneg_of_pos tt (top hf hg)
      · rw [if_neg q] at hf hg
        by_cases a0 : Tdep k f.1 i ∧ Tdep k g.1 i
        · exact Int.add_pos_of_pos_of_nonneg (low0 (d0.mpr ⟨i, a0⟩)) tp
        · by_cases a1 : Tdep k f.2 i ∧ Tdep k g.2 i
          · exact Int.add_pos_of_pos_of_nonneg (low1 (d1.mpr ⟨i, a1⟩)) tp
          · refine Int.add_pos_of_nonneg_of_pos tt (top (fun z => ?_) (fun z => ?_))
            · rw [z] at hf a0
              have hf' : Tdep k f.2 i := hf.elim id id
              exact hg.elim (fun y => a0 ⟨hf', y⟩) (fun y => a1 ⟨hf', y⟩)
            · rw [z] at hg a0
              have hg' : Tdep k g.2 i := hg.elim id id
              exact hf.elim (fun y => a0 ⟨y, hg'⟩) (fun y => a1 ⟨y, hg'⟩)
end
end Mine
end
section
namespace Mine
theorem nlo {k n : Nat} (h : n < 2 ^ k) : n < 2 ^ (k + 1) := Nat.lt_trans h (Nat.pow_lt_pow_right (by decide) (Nat.lt_succ_self k))
theorem nup {k n : Nat} (h : n < 2 ^ k) : 2 ^ k + n < 2 ^ (k + 1) := by rw [Nat.pow_succ, Nat.mul_two]; exact Nat.add_lt_add_left h _
theorem nsp {k n : Nat} (d : ¬ n < 2 ^ k) : n = 2 ^ k + (n - 2 ^ k) := (Nat.add_sub_cancel' (Nat.not_lt.mp d)).symm
theorem ndn {k n : Nat} (hn : n < 2 ^ (k + 1)) (d : ¬ n < 2 ^ k) : n - 2 ^ k < 2 ^ k := Nat.sub_lt_left_of_lt_add (Nat.not_lt.mp d) (by rw [← Nat.mul_two, ← Nat.pow_succ]; exact hn)
/-! functions of whole numbers as trees -/
noncomputable def TT : (k : Nat) → (Nat → Int) → Tr k
  | 0, q => q 0
  | k + 1, q => (TT k q, TT k fun n => q (2 ^ k + n))
noncomputable def Wt (lo hi : Nat → Int) : Nat → Nat → Int
  | 0, _ => 1
  | k + 1, n => Wt lo hi k n * (if n.testBit k then hi k else lo k)
theorem Wt_congr {lo hi : Nat → Int} : ∀ {k n m : Nat}, (∀ p, p < k → n.testBit p = m.testBit p) → Wt lo hi k n = Wt lo hi k m
  | 0, _, _, _ => rfl
  | k + 1, n, m, h => by
    unfold Wt
    rw [Wt_congr (k := k) (n := n) (m := m) fun p hp => h p (Nat.lt_succ_of_lt hp), h k (Nat.lt_succ_self k)]
theorem Wt_succ {lo hi : Nat → Int} (k n : Nat) : Wt lo hi (k + 1) n = Wt lo hi k n * (if n.testBit k then hi k else lo k) := rfl
theorem sum_left (c : Int) : ∀ (l : List Nat) (f : Nat → Int), (l.map fun n => c * f n).sum = c * (l.map f).sum
  | [], _ => by simp
  | a :: l, f => by simp only [List.map_cons, List.sum_cons, sum_left c l f, Int.mul_add]
theorem range_two (k : Nat) : List.range (2 ^ (k + 1)) = List.range (2 ^ k) ++ (List.range (2 ^ k)).map (2 ^ k + ·) := by
  rw [Nat.pow_succ, Nat.mul_two, List.range_add]
theorem sum_Ex {lo hi : Nat → Int} : ∀ (k : Nat) (q : Nat → Int), ((List.range (2 ^ k)).map fun n => Wt lo hi k n * q n).sum = Ex lo hi k (TT k q)
  | 0, q => by
    show (1 : Int) * q 0 + 0 = q 0
    rw [Int.one_mul, Int.add_zero]
  | k + 1, q => by
    show _ = lo k * Ex lo hi k (TT k q) + hi k * Ex lo hi k (TT k fun n => q (2 ^ k + n))
    rw [← sum_Ex k q, ← sum_Ex k fun n => q (2 ^ k + n), range_two, List.map_append, List.sum_append, List.map_map, ← sum_left, ← sum_left]
    congr 1
    · congr 1
      refine List.map_congr_left fun n hn => ?_
      have hn := List.mem_range.mp hn
      rw [Wt_succ, Nat.testBit_lt_two_pow hn]
      simp only [Bool.false_eq_true, if_false]
      generalize Wt lo hi k n = a
      generalize lo k = b
      generalize q n = c
      rw [Int.mul_comm a b, Int.mul_assoc]
    · congr 1
      refine List.map_congr_left fun n hn => ?_
      have hn := List.mem_range.mp hn
      show Wt lo hi (k + 1) (2 ^ k + n) * q (2 ^ k + n) = _
      rw [Wt_succ, Nat.testBit_two_pow_add_eq, Nat.testBit_lt_two_pow hn, Wt_congr (k := k) (n := 2 ^ k + n) (m := n) fun p hp => Nat.testBit_two_pow_add_gt hp n]
      simp only [Bool.not_false, if_true]
      generalize Wt lo hi k n = a
      generalize hi k = b
      generalize q (2 ^ k + n) = c
      rw [Int.mul_comm a b, Int.mul_assoc]
theorem Ex_one {lo hi : Nat → Int} : ∀ (k : Nat), Ex lo hi k (TT k fun _ => 1) = Tot lo hi k
  | 0 => rfl
  | k + 1 => by
    show lo k * Ex lo hi k (TT k fun _ => 1) + hi k * Ex lo hi k (TT k fun _ => 1) = (lo k + hi k) * Tot lo hi k
    rw [Ex_one k, Int.add_mul]
theorem TT_mul : ∀ (k : Nat) (f g : Nat → Int), Tmul k (TT k f) (TT k g) = TT k fun n => f n * g n
  | 0, _, _ => rfl
  | k + 1, f, g => by
    show (Tmul k (TT k f) (TT k g), Tmul k (TT k fun n => f (2 ^ k + n)) (TT k fun n => g (2 ^ k + n))) = _
    rw [TT_mul k, TT_mul k]
    rfl
theorem TT_le : ∀ (k : Nat) (f g : Nat → Int), (∀ n, n < 2 ^ k → f n ≤ g n) → Tle k (TT k f) (TT k g)
  | 0, f, g, h => h 0 (by decide)
  | k + 1, f, g, h => ⟨TT_le k _ _ fun n hn => h n (by first | exact nlo (by assumption) | exact nup (by assumption)), TT_le k _ _ fun n hn => h _ (by first | exact nlo (by assumption) | exact nup (by assumption))⟩
theorem TT_eq : ∀ (k : Nat) (f g : Nat → Int), TT k f = TT k g ↔ ∀ n, n < 2 ^ k → f n = g n
  | 0, f, g => ⟨fun h n hn => by cases Nat.lt_one_iff.mp hn; exact h, fun h => h 0 (by decide)⟩
  | k + 1, f, g => by
    show ((TT k f, TT k fun n => f (2 ^ k + n)) : Tr k × Tr k) = (TT k g, TT k fun n => g (2 ^ k + n)) ↔ _
    rw [Prod.mk.injEq, TT_eq k, TT_eq k]
    constructor
    · rintro ⟨h1, h2⟩ n hn
      by_cases c : n < 2 ^ k
      · exact h1 n c
      · have e : n = 2 ^ k + (n - 2 ^ k) := nsp (by assumption)
        rw [e]
        exact h2 _ (by exact ndn hn (by assumption))
    · intro h
      exact ⟨fun n hn => h n (by first | exact nlo (by assumption) | exact nup (by assumption)), fun n hn => h _ (by first | exact nlo (by assumption) | exact nup (by assumption))⟩
theorem or_top {k n : Nat} (h : n < 2 ^ k) : n ||| 2 ^ k = 2 ^ k + n := by
  have := Nat.two_pow_add_eq_or_of_lt h 1
  rw [Nat.mul_one] at this
  rw [this, Nat.or_comm]
theorem or_low {k n i : Nat} (h : n < 2 ^ k) (hi : i < k) : (2 ^ k + n) ||| 2 ^ i = 2 ^ k + (n ||| 2 ^ i) := by
  have h2 : 2 ^ i < 2 ^ k := Nat.pow_lt_pow_right (by decide) hi
  rw [← or_top h, ← or_top (Nat.or_lt_two_pow h h2), Nat.or_assoc, Nat.or_comm (2 ^ k), Nat.or_assoc]
theorem or_full {k n : Nat} (h : n < 2 ^ k) : (2 ^ k + n) ||| 2 ^ k = 2 ^ k + n := by
  rw [← or_top h, Nat.or_assoc, Nat.or_self]
noncomputable def FMono (k : Nat) (q : Nat → Int) : Prop := ∀ p, p < k → ∀ n, n < 2 ^ k → q n ≤ q (n ||| 2 ^ p)
noncomputable def FDep (k : Nat) (q : Nat → Int) (p : Nat) : Prop := ∃ n, n < 2 ^ k ∧ q n ≠ q (n ||| 2 ^ p)
theorem TT_mono : ∀ (k : Nat) (q : Nat → Int), FMono k q → Tmono k (TT k q)
  | 0, _, _ => trivial
  | k + 1, q, h => by
    refine ⟨TT_mono k _ fun p hp n hn => h p (Nat.lt_succ_of_lt hp) n (by first | exact nlo (by assumption) | exact nup (by assumption)), TT_mono k _ fun p hp n hn => ?_, TT_le k _ _ fun n hn => ?_⟩
    · have := h p (Nat.lt_succ_of_lt hp) (2 ^ k + n) (by first | exact nlo (by assumption) | exact nup (by assumption))
      rw [or_low hn hp] at this
      exact this
    · have := h k (Nat.lt_succ_self k) n (by first | exact nlo (by assumption) | exact nup (by assumption))
      rw [or_top hn] at this
      exact this
theorem TT_dep : ∀ (k : Nat) (q : Nat → Int) (p : Nat), p < k → (Tdep k (TT k q) p ↔ FDep k q p)
  | 0, _, _, h => absurd h (Nat.not_lt_zero _)
  | k + 1, q, p, hp => by
    unfold Tdep
    by_cases c : p = k
    · subst c
      rw [if_pos rfl]
      show TT p q ≠ TT p (fun n => q (2 ^ p + n)) ↔ _
      rw [Ne, TT_eq]
      constructor
      · intro h
        have ⟨n, hn⟩ := Classical.not_forall.mp h
        have ⟨h1, h2⟩ := Classical.not_imp.mp hn
        exact ⟨n, by first | exact nlo (by assumption) | exact nup (by assumption), by rw [or_top h1]; exact h2⟩
      · rintro ⟨n, hn, hq⟩ h
        by_cases d : n < 2 ^ p
        · rw [or_top d] at hq
          exact hq (h n d)
        · have e : n = 2 ^ p + (n - 2 ^ p) := nsp (by assumption)
          rw [e, or_full (by exact ndn hn (by assumption))] at hq
          exact hq rfl
    · rw [if_neg c]
      have hk : p < k := Nat.lt_of_le_of_ne (Nat.le_of_lt_succ hp) c
      show Tdep k (TT k q) p ∨ Tdep k (TT k fun n => q (2 ^ k + n)) p ↔ _
      rw [TT_dep k _ p hk, TT_dep k _ p hk]
      constructor
      · rintro (⟨n, hn, hq⟩ | ⟨n, hn, hq⟩)
        · exact ⟨n, by first | exact nlo (by assumption) | exact nup (by assumption), hq⟩
        · exact ⟨2 ^ k + n, by first | exact nlo (by assumption) | exact nup (by assumption), by rw [or_low hn hk]; exact hq⟩
      · rintro ⟨n, hn, hq⟩
        by_cases d : n < 2 ^ k
        · exact .inl ⟨n, d, hq⟩
        · have e : n = 2 ^ k + (n - 2 ^ k) := nsp (by assumption)
          have hl : n - 2 ^ k < 2 ^ k := by exact ndn hn (by assumption)
          refine .inr ⟨n - 2 ^ k, hl, ?_⟩
          rw [e, or_low hl hk] at hq
          exact hq
/-- the weighted sum -/
noncomputable def Sm (lo hi : Nat → Int) (k : Nat) (q : Nat → Int) : Int := ((List.range (2 ^ k)).map fun n => Wt lo hi k n * q n).sum
theorem harris_fun {lo hi : Nat → Int} (hp : ∀ i, 0 < lo i ∧ 0 < hi i) (k : Nat) (f g : Nat → Int) (mf : FMono k f) (mg : FMono k g) :
    0 ≤ Sm lo hi k (fun _ => 1) * Sm lo hi k (fun n => f n * g n) - Sm lo hi k f * Sm lo hi k g ∧
    (0 < Sm lo hi k (fun _ => 1) * Sm lo hi k (fun n => f n * g n) - Sm lo hi k f * Sm lo hi k g ↔ ∃ p, p < k ∧ FDep k f p ∧ FDep k g p) := by
  have h := harris hp k (TT k f) (TT k g) (TT_mono k f mf) (TT_mono k g mg)
  unfold Cov at h
  rw [TT_mul, ← Ex_one] at h
  unfold Sm
  rw [sum_Ex, sum_Ex, sum_Ex, sum_Ex]
  refine ⟨h.1, h.2.trans ⟨fun ⟨i, a, b⟩ => ?_, fun ⟨p, hpk, a, b⟩ => ⟨p, (TT_dep k f p hpk).mpr a, (TT_dep k g p hpk).mpr b⟩⟩⟩
  have hl := a.lt
  exact ⟨i, hl, (TT_dep k f i hl).mp a, (TT_dep k g i hl).mp b⟩
end Mine
end
section
open PySem PySem.W PyProof.Rows
set_option Elab.async false
set_option maxRecDepth 100000
namespace Mine
set_option maxHeartbeats 8000000 in
open_top hd for PySem.Challenge.rw_re0121_01
end Mine
end
section
open PySem PySem.W PyProof.Rows PySem.Calls
set_option Elab.async false
set_option maxRecDepth 100000
namespace Mine
inductive BB1 {α : Type} (x0 : Option α) (F : α → Prop) : Prop
  | mk (a : α) (h0 : x0 = some a) (k : F a)
theorem bb1 {α ω : Type} {x0 : Option α} {G : α → Option ω} {z : ω} (h : x0.bind (fun a => G a) = some z) : BB1 x0 (fun a => G a = some z) := by
  obtain ⟨a, h0, h⟩ := Option.bind_eq_some_iff.mp h
  exact ⟨a, h0, h⟩
inductive BB2 {α β : Type} (x0 : Option α) (x1 : α → Option β) (F : α → β → Prop) : Prop
  | mk (a : α) (h0 : x0 = some a) (b : β) (h1 : x1 a = some b) (k : F a b)
theorem bb2 {α β ω : Type} {x0 : Option α} {x1 : α → Option β} {G : α → β → Option ω} {z : ω} (h : x0.bind (fun a => (x1 a).bind (fun b => G a b)) = some z) : BB2 x0 x1 (fun a b => G a b = some z) := by
  obtain ⟨a, h0, h⟩ := Option.bind_eq_some_iff.mp h
  obtain ⟨b, h1, h⟩ := Option.bind_eq_some_iff.mp h
  exact ⟨a, h0, b, h1, h⟩
inductive BB3 {α β γ : Type} (x0 : Option α) (x1 : α → Option β) (x2 : α → β → Option γ) (F : α → β → γ → Prop) : Prop
  | mk (a : α) (h0 : x0 = some a) (b : β) (h1 : x1 a = some b) (c : γ) (h2 : x2 a b = some c) (k : F a b c)
theorem bb3 {α β γ ω : Type} {x0 : Option α} {x1 : α → Option β} {x2 : α → β → Option γ} {G : α → β → γ → Option ω} {z : ω} (h : x0.bind (fun a => (x1 a).bind (fun b => (x2 a b).bind (fun c => G a b c))) = some z) : BB3 x0 x1 x2 (fun a b c => G a b c = some z) := by
  obtain ⟨a, h0, h⟩ := Option.bind_eq_some_iff.mp h
  obtain ⟨b, h1, h⟩ := Option.bind_eq_some_iff.mp h
  obtain ⟨c, h2, h⟩ := Option.bind_eq_some_iff.mp h
  exact ⟨a, h0, b, h1, c, h2, h⟩
inductive BB4 {α β γ δ : Type} (x0 : Option α) (x1 : α → Option β) (x2 : α → β → Option γ) (x3 : α → β → γ → Option δ) (F : α → β → γ → δ → Prop) : Prop
  | mk (a : α) (h0 : x0 = some a) (b : β) (h1 : x1 a = some b) (c : γ) (h2 : x2 a b = some c) (d : δ) (h3 : x3 a b c = some d) (k : F a b c d)
theorem bb4 {α β γ δ ω : Type} {x0 : Option α} {x1 : α → Option β} {x2 : α → β → Option γ} {x3 : α → β → γ → Option δ} {G : α → β → γ → δ → Option ω} {z : ω} (h : x0.bind (fun a => (x1 a).bind (fun b => (x2 a b).bind (fun c => (x3 a b c).bind (fun d => G a b c d)))) = some z) : BB4 x0 x1 x2 x3 (fun a b c d => G a b c d = some z) := by
  obtain ⟨a, h0, h⟩ := Option.bind_eq_some_iff.mp h
  obtain ⟨b, h1, h⟩ := Option.bind_eq_some_iff.mp h
  obtain ⟨c, h2, h⟩ := Option.bind_eq_some_iff.mp h
  obtain ⟨d, h3, h⟩ := Option.bind_eq_some_iff.mp h
  exact ⟨a, h0, b, h1, c, h2, d, h3, h⟩
theorem byC {p : Prop} (h : ¬p → False) : p := Classical.byContradiction h

/-- plain data -/
inductive D where
  | undef
  | none
  | bool (b : Bool)
  | int (i : Int)
  | str (s : Str)
  | list (ds : List D)
  | flist (ds : List D)
  | tup (ds : List D)
  | addr (a : Nat)
  | inst (ds : List D)
  | map1 (d : D)

noncomputable abbrev Ext (h h' : Heap) : Prop := ∀ b o, h.get? b = some o → h'.get? b = some o
theorem Ext.refl {h : Heap} : Ext h h := fun _ _ e => e
theorem Ext.trans {h h' h'' : Heap} (a : Ext h h') (b : Ext h' h'') : Ext h h'' := fun x o e => b x o (a x o e)
theorem Ext.push {h : Heap} (o : Obj) : Ext h (h.push o) := fun _ _ e => Heap.get?_push_of_some o e

noncomputable def wsNames : List Str := ["raw", "n", "nt", "norm", "is_simple"]
/-- an object of Whitespace, filled -/
noncomputable def WsAt (h : Heap) (x dx : Addr) (vs : List Value) : Prop := h.get? x = some (instObj 112 dx) ∧ ∃ od, h.get? dx = some od ∧ (∀ (i : Nat) nm v, wsNames[i]? = some nm → vs[i]? = some v → lookIn nm od = some (some v)) ∧ lookIn "indent_level" od = some none
/-- the dict {0: v} -/
noncomputable def Map1 (h : Heap) (a : Addr) (v : Value) : Prop := ∃ o e ep, h.get? a = some o ∧ o.ExactDict ∧ o.data = .dict #[e] ep ∧ Value.isInt 0 e.key = true ∧ e.hash = hashInt 0 ∧ e.val = v
mutual
noncomputable def Has (P : Addr → Prop) (h : Heap) : D → Value → Prop
  | .undef, _ => False
  | .none, v => v = .none
  | .bool b, v => v = .bool b
  | .int i, v => ∃ t, v = .int i t
  | .str x, v => ∃ t, v = .str x t
  | .list ds, v => ∃ a vs, v = .ref a ∧ P a ∧ h.PlainList a vs.toArray ∧ HasAll P h ds vs
  | .flist ds, v => ∃ a vs, v = .ref a ∧ P a ∧ h.IsList a vs.toArray ∧ HasAll P h ds vs
  | .tup ds, v => ∃ a vs, v = .ref a ∧ P a ∧ IsTup h a vs.toArray ∧ HasAll P h ds vs
  | .addr a, v => v = .ref a
  | .inst ds, v => ∃ x dx vs, v = .ref x ∧ P x ∧ P dx ∧ WsAt h x dx vs ∧ HasAll P h ds vs
  | .map1 d, v => ∃ a u, v = .ref a ∧ P a ∧ (a == sysModules) = false ∧ Map1 h a u ∧ Has P h d u
noncomputable def HasAll (P : Addr → Prop) (h : Heap) : List D → List Value → Prop
  | [], vs => vs = []
  | d :: ds, vs => ∃ v r, vs = v :: r ∧ Has P h d v ∧ HasAll P h ds r
end

theorem isList_ext {h h' : Heap} {a : Addr} {items : Array Value} (x : h.IsList a items) (e : Ext h h') : h'.IsList a items :=
  let ⟨o, ho, r⟩ := x; ⟨o, e _ _ ho, r⟩
theorem isTup_ext {h h' : Heap} {a : Addr} {items : Array Value} (x : IsTup h a items) (e : Ext h h') : IsTup h' a items :=
  let ⟨o, ho, r⟩ := x; ⟨o, e _ _ ho, r⟩

mutual
theorem Has.mono {P P' : Addr → Prop} {h h' : Heap} (hp : ∀ a o, h.get? a = some o → P a → P' a ∧ h'.get? a = some o) : ∀ (d : D) (v : Value), Has P h d v → Has P' h' d v
  | .undef, _, x => x
  | .none, _, x => x
  | .bool _, _, x => x
  | .int _, _, x => x
  | .str _, _, x => x
  | .list ds, v, x => by
    obtain ⟨a, vs, e, pa, ⟨n, ho⟩, ha⟩ := x
    exact ⟨a, vs, e, (hp a _ ho pa).1, ⟨n, (hp a _ ho pa).2⟩, HasAll.mono hp ds vs ha⟩
  | .flist ds, v, x => by
    obtain ⟨a, vs, e, pa, ⟨o, ho, hl⟩, ha⟩ := x
    exact ⟨a, vs, e, (hp a o ho pa).1, ⟨o, (hp a o ho pa).2, hl⟩, HasAll.mono hp ds vs ha⟩
  | .tup ds, v, x => by
    obtain ⟨a, vs, e, pa, ⟨o, ho, hl⟩, ha⟩ := x
    exact ⟨a, vs, e, (hp a o ho pa).1, ⟨o, (hp a o ho pa).2, hl⟩, HasAll.mono hp ds vs ha⟩
  | .addr _, _, x => x
  | .inst ds, v, x => by
    obtain ⟨x, dx, vs, e, px, pd, ⟨h1, od, h2, h3⟩, ha⟩ := x
    exact ⟨x, dx, vs, e, (hp x _ h1 px).1, (hp dx _ h2 pd).1, ⟨(hp x _ h1 px).2, od, (hp dx _ h2 pd).2, h3⟩, HasAll.mono hp ds vs ha⟩
  | .map1 d, v, x => by
    obtain ⟨a, u, e, pa, hs, ⟨o, en, ep, ho, hr⟩, ha⟩ := x
    exact ⟨a, u, e, (hp a _ ho pa).1, hs, ⟨o, en, ep, (hp a _ ho pa).2, hr⟩, Has.mono hp d u ha⟩
theorem HasAll.mono {P P' : Addr → Prop} {h h' : Heap} (hp : ∀ a o, h.get? a = some o → P a → P' a ∧ h'.get? a = some o) : ∀ (ds : List D) (vs : List Value), HasAll P h ds vs → HasAll P' h' ds vs
  | [], _, x => x
  | d :: ds, vs, x => by
    obtain ⟨v, r, e, a, b⟩ := x
    exact ⟨v, r, e, Has.mono hp d v a, HasAll.mono hp ds r b⟩
end
theorem Has.ext {P : Addr → Prop} {h h' : Heap} {d : D} {v : Value} (x : Has P h d v) (e : Ext h h') : Has P h' d v := Has.mono (fun a o ho p => ⟨p, e a o ho⟩) d v x
theorem HasAll.ext {P : Addr → Prop} {h h' : Heap} {d : List D} {v : List Value} (x : HasAll P h d v) (e : Ext h h') : HasAll P h' d v := HasAll.mono (fun a o ho p => ⟨p, e a o ho⟩) d v x
theorem HasAll.length {P : Addr → Prop} {h : Heap} : ∀ {ds : List D} {vs : List Value}, HasAll P h ds vs → vs.length = ds.length
  | [], _, x => by cases x; rfl
  | _ :: _, _, x => by obtain ⟨v, r, e, _, b⟩ := x; subst e; simp [b.length]
theorem HasAll.get {P : Addr → Prop} {h : Heap} : ∀ {ds : List D} {vs : List Value} {i : Nat} {d : D}, HasAll P h ds vs → ds[i]? = some d → ∃ v, vs[i]? = some v ∧ Has P h d v
  | [], _, _, _, _, e => by simp at e
  | _ :: _, _, 0, _, x, e => by obtain ⟨v, r, q, a, b⟩ := x; subst q; simp at e; subst e; exact ⟨v, rfl, a⟩
  | _ :: _, _, i + 1, _, x, e => by obtain ⟨v, r, q, a, b⟩ := x; subst q; simp at e; obtain ⟨u, hu, hh⟩ := b.get e; exact ⟨u, by simpa using hu, hh⟩
theorem HasAll.append {P : Addr → Prop} {h : Heap} : ∀ {ds es : List D} {vs us : List Value}, HasAll P h ds vs → HasAll P h es us → HasAll P h (ds ++ es) (vs ++ us)
  | [], _, _, _, x, y => by cases x; exact y
  | _ :: _, _, _, _, x, y => by obtain ⟨v, r, q, a, b⟩ := x; subst q; exact ⟨v, _, rfl, a, b.append y⟩
theorem HasAll.one {P : Addr → Prop} {h : Heap} {d : D} {v : Value} (x : Has P h d v) : HasAll P h [d] [v] := ⟨v, [], rfl, x, rfl⟩
theorem HasAll.take {P : Addr → Prop} {h : Heap} : ∀ {ds : List D} {vs : List Value} (n : Nat), HasAll P h ds vs → HasAll P h (ds.take n) (vs.take n)
  | [], _, _, x => by cases x; simp [HasAll]
  | _ :: _, _, 0, x => by simp [HasAll]
  | _ :: _, _, n + 1, x => by obtain ⟨v, r, q, a, b⟩ := x; subst q; exact ⟨v, _, rfl, a, b.take n⟩
theorem HasAll.drop {P : Addr → Prop} {h : Heap} : ∀ {ds : List D} {vs : List Value} (n : Nat), HasAll P h ds vs → HasAll P h (ds.drop n) (vs.drop n)
  | [], _, _, x => by cases x; simp [HasAll]
  | _ :: _, _, 0, x => by simpa using x
  | _ :: _, _, n + 1, x => by obtain ⟨v, r, q, a, b⟩ := x; subst q; simpa using b.drop n

/-- scalars -/
noncomputable def D.flat : D → Bool
  | .none | .bool _ | .int _ | .str _ => true
  | _ => false
theorem Has.flat {P P' : Addr → Prop} {h h' : Heap} {d : D} {v : Value} (hd : d.flat = true) (x : Has P h d v) : Has P' h' d v := by
  cases d <;> first | exact x | cases hd

/-- a name's value where it stands -/
noncomputable def Rd (env : Env) (h : Heap) (x : Str) (v : Value) : Prop :=
  (env.kindOf x = some .local ∧ ∃ m, h.Ns env.locals m ∧ m x = some v) ∨
  ((env.kindOf x = some .cell ∨ env.kindOf x = some .free) ∧ ∃ c o, env.cells.lookup x = some c ∧ h.get? c = some o ∧ o.data = .cell (some v))
theorem Rd.ext {env : Env} {h h' : Heap} {x : Str} {v : Value} (r : Rd env h x v) (e : Ext h h') : Rd env h' x v := by
  rcases r with ⟨k, m, hn, hv⟩ | ⟨k, c, o, hc, ho, hd⟩
  · exact .inl ⟨k, m, hn.keeps e, hv⟩
  · exact .inr ⟨k, c, o, hc, e _ _ ho, hd⟩

noncomputable def Rel (P : Addr → Prop) (env : Env) (h : Heap) (sl : List (Option Str)) (ρ : List D) : Prop :=
  ∀ (i : Nat) (x : Str) (d : D), sl[i]? = some (some x) → ρ[i]? = some d → d = .undef ∨ ∃ v, Rd env h x v ∧ Has P h d v
theorem Rel.ext {P : Addr → Prop} {env : Env} {h h' : Heap} {sl : List (Option Str)} {ρ : List D} (r : Rel P env h sl ρ) (e : Ext h h') : Rel P env h' sl ρ :=
  fun i x d a b => (r i x d a b).imp id fun ⟨v, p, q⟩ => ⟨v, p.ext e, q.ext e⟩

structure Gd (K : Frag) (h : Heap) : Prop where
  X : K.In h
  T : ∃ p loose mg mb, TopRead p loose mg mb h
theorem Gd.ext {K : Frag} {h h' : Heap} (g : Gd K h) (e : Ext h h') : Gd K h' :=
  ⟨g.X.keeps e, let ⟨p, l, mg, mb, t⟩ := g.T; ⟨p, l, mg, mb, t.keeps e⟩⟩

structure EnvOk (nm : List (Str × NameKind)) (env : Env) : Prop where
  kind : env.scope.kind = .function
  names : env.scope.names = nm
  glob : env.globals = mainGlobals
  blt : env.builtins = builtinsNs
  cells : ∀ x, nm.lookup x = some .cell ∨ nm.lookup x = some .free → ∃ c, env.cells.lookup x = some c
  apart : ∀ x y c, env.cells.lookup x = some c → env.cells.lookup y = some c → x = y
theorem EnvOk.kindOf {nm : List (Str × NameKind)} {env : Env} (e : EnvOk nm env) (x : Str) : env.kindOf x = nm.lookup x := by unfold Env.kindOf; rw [e.names]

structure Room (n : Nat) (A : Around) : Prop where
  handled : A.handled = none
  depth : A.depth + n ≤ 900
  units : A.units + 20 * n + 200 ≤ 9000

structure Cx (K : Frag) (n : Nat) (nm : List (Str × NameKind)) (sl : List (Option Str)) (P : Addr → Prop) (env : Env) (A : Around) (h : Heap) (ρ : List D) : Prop where
  eok : EnvOk nm env
  room : Room n A
  gd : Gd K h
  rel : Rel P env h sl ρ
  fresh : ∀ a, h.get? a = none → P a
  cl : ∀ x c, env.cells.lookup x = some c → ∃ v, h.IsCell c v
theorem none_of_ext {h h' : Heap} (e : Ext h h') {a : Addr} (x : h'.get? a = none) : h.get? a = none := by
  cases q : h.get? a with
  | none => rfl
  | some o => rw [e _ _ q] at x; cases x
theorem Cx.ext {K : Frag} {n : Nat} {nm : List (Str × NameKind)} {sl : List (Option Str)} {P : Addr → Prop} {env : Env} {A : Around} {h h' : Heap} {ρ : List D}
    (c : Cx K n nm sl P env A h ρ) (e : Ext h h') : Cx K n nm sl P env A h' ρ := ⟨c.eok, c.room, c.gd.ext e, c.rel.ext e, fun a x => c.fresh a (none_of_ext e x), fun x a hx => let ⟨v, hv⟩ := c.cl x a hx; ⟨v, hv.keeps e⟩⟩

theorem size_none (h : Heap) : h.get? h.objs.size = none := by
  cases q : h.get? h.objs.size with
  | none => rfl
  | some o => exact absurd (Heap.lt_size q) (Nat.lt_irrefl _)

/-- e denotes f -/
noncomputable def Den (prog : Program) (w : World) (K : Frag) (n : Nat) (nm : List (Str × NameKind)) (sl : List (Option Str)) (e : Expr) (f : List D → Option D) : Prop :=
  ∀ (env : Env) (A : Around) (s : Shared) (ρ : List D) (d : D) (P : Addr → Prop) (Q : Value → Shared → Prop) (E : Value → Shared → Prop),
    Cx K n nm sl P env A s.heap ρ → f ρ = some d →
    (∀ v h' tk, Ext s.heap h' → Has P h' d v → Q v { s with heap := h', toks := tk }) → wpAny (model prog w) A (eval e env) Q E s
/-- a test -/
noncomputable def DenT (prog : Program) (w : World) (K : Frag) (n : Nat) (nm : List (Str × NameKind)) (sl : List (Option Str)) (e : Expr) (f : List D → Option Bool) : Prop :=
  ∀ (env : Env) (A : Around) (s : Shared) (ρ : List D) (b : Bool) (P : Addr → Prop) (Q : Bool → Shared → Prop) (E : Value → Shared → Prop),
    Cx K n nm sl P env A s.heap ρ → f ρ = some b →
    (∀ h' tk, Ext s.heap h' → Q b { s with heap := h', toks := tk }) → wpAny (model prog w) A (isTrue e env (eval e env)) Q E s

section
variable {prog : Program} {w : World} {K : Frag} {n : Nat} {nm : List (Str × NameKind)} {sl : List (Option Str)}

theorem den_int {i : Int} {k : Nat} {pos : Pos} : Den prog w K n nm sl (.Constant (.int i) k pos) (fun _ => some (.int i)) := by
  intro env A s ρ d P Q E c hf h
  cases hf
  exact wpAny_Constant_int (h _ s.heap _ .refl ⟨_, rfl⟩)
theorem den_str {x : Str} {k : Nat} {pos : Pos} : Den prog w K n nm sl (.Constant (.str x) k pos) (fun _ => some (.str x)) := by
  intro env A s ρ d P Q E c hf h
  cases hf
  exact wpAny_Constant_str (h _ s.heap _ .refl ⟨_, rfl⟩)
theorem den_bool {b : Bool} {k : Nat} {pos : Pos} : Den prog w K n nm sl (.Constant (.bool b) k pos) (fun _ => some (.bool b)) := by
  intro env A s ρ d P Q E c hf h
  cases hf
  exact wpAny_Constant_bool (h _ s.heap s.toks .refl rfl)
theorem den_none {k : Nat} {pos : Pos} : Den prog w K n nm sl (.Constant .none k pos) (fun _ => some .none) := by
  intro env A s ρ d P Q E c hf h
  cases hf
  exact wpAny_Constant_none (h _ s.heap s.toks .refl rfl)

/-- a variable's slot -/
noncomputable def var (i : Nat) (ρ : List D) : Option D := match ρ[i]? with
  | some .undef => none
  | some d => some d
  | none => none
theorem var_some {i : Nat} {ρ : List D} {d : D} (h : var i ρ = some d) : ρ[i]? = some d ∧ d ≠ .undef := by
  unfold var at h
  split at h
  · cases h
  · rename_i d' hn hq
    cases h
    refine ⟨hq, fun e => ?_⟩
    subst e
    exact hn rfl
  · cases h

theorem den_var {x : Str} {pos : Pos} (i : Nat) (hi : sl[i]? = some (some x)) (hd : (x == ("__debug__" : Str)) = false) (hn : (x == ("__classdict__" : Str)) = false) :
    Den prog w K n nm sl (.Name x pos) (var i) := by
  intro env A s ρ d P Q E c hf h
  obtain ⟨hq, hu⟩ := var_some hf
  obtain ⟨v, r, hv⟩ := (c.rel i x d hi hq).resolve_left hu
  refine wpAny_Name ?_ hd
  rcases r with ⟨k, m, hns, hm⟩ | ⟨k, a, o, hc, ho, hdat⟩
  · exact wpAny_loadName_local c.eok.kind k hns hm (h v s.heap s.toks .refl hv)
  · rcases k with k | k
    · exact wpAny_loadName_cell c.eok.kind k hc ⟨o, ho, hdat⟩ (h v s.heap s.toks .refl hv)
    · exact wpAny_loadName_free c.eok.kind k hc ⟨o, ho, hdat⟩ (h v s.heap s.toks .refl hv) hn

/-! binary operations -/
theorem noneS {α : Type} {a : α} {C : Prop} (h : (none : Option α) = some a) : C := by cases h
theorem noneAt {h : Heap} {a b : Addr} {o : Obj} {C : Prop} (hn : h.get? a = none) (q : b = a) (ho : h.get? b = some o) : C := noneS ((q ▸ hn).symm.trans ho)
theorem szl {n : Nat} (h : n ≤ 100000) : n ≤ sizeLine := by rw [sizeLine_eq]; exact Nat.le_trans h (by decide)
theorem abs_lt {y : Int} {n : Nat} (h0 : 0 < y) (h : y < n) : y.natAbs < n := Int.ofNat_lt.mp (by rw [Int.natAbs_of_nonneg (Int.le_of_lt h0)]; exact h)
theorem tn_le {k : Int} (h : k ≤ 1000) : k.toNat ≤ 1000 := Int.toNat_le.mpr h
theorem ifs {c : Prop} [Decidable c] {α : Type} {x y : α} (h : (if c then some x else none) = some y) : c ∧ x = y := by
  by_cases q : c
  · rw [if_pos q] at h
    exact ⟨q, Option.some.inj h⟩
  · rw [if_neg q] at h
    cases h
noncomputable def asI : D → Option Int
  | .int i => some i
  | _ => none
theorem asI_some {d : D} {i : Int} (h : asI d = some i) : d = .int i := by
  cases d with
  | int j => exact congrArg D.int (Option.some.inj h)
  | _ => exact noneS h
noncomputable def asS : D → Option Str
  | .str i => some i
  | _ => none
theorem asS_some {d : D} {i : Str} (h : asS d = some i) : d = .str i := by
  cases d with
  | str j => exact congrArg D.str (Option.some.inj h)
  | _ => exact noneS h
noncomputable def asL : D → Option (List D)
  | .list i => some i
  | _ => none
theorem asL_some {d : D} {i : List D} (h : asL d = some i) : d = .list i := by
  cases d with
  | list j => exact congrArg D.list (Option.some.inj h)
  | _ => exact noneS h
noncomputable def asB : D → Option Bool
  | .bool i => some i
  | _ => none
theorem asB_some {d : D} {i : Bool} (h : asB d = some i) : d = .bool i := by
  cases d with
  | bool j => exact congrArg D.bool (Option.some.inj h)
  | _ => exact noneS h
noncomputable def asM : D → Option D
  | .map1 i => some i
  | _ => none
theorem asM_some {d i : D} (h : asM d = some i) : d = .map1 i := by
  cases d with
  | map1 j => exact congrArg D.map1 (Option.some.inj h)
  | _ => exact noneS h
noncomputable def asN : D → Option (List D)
  | .inst i => some i
  | _ => none
theorem asN_some {d : D} {i : List D} (h : asN d = some i) : d = .inst i := by
  cases d with
  | inst j => exact congrArg D.inst (Option.some.inj h)
  | _ => exact noneS h
noncomputable def asT : D → Option (List D)
  | .tup i => some i
  | _ => none
theorem asT_some {d : D} {i : List D} (h : asT d = some i) : d = .tup i := by
  cases d with
  | tup j => exact congrArg D.tup (Option.some.inj h)
  | _ => exact noneS h
theorem ifn {c : Prop} [Decidable c] {α : Type} {x y : α} (h : (if c then none else some x) = some y) : ¬c ∧ x = y := by
  by_cases q : c
  · rw [if_pos q] at h
    cases h
  · rw [if_neg q] at h
    exact ⟨q, Option.some.inj h⟩
noncomputable def int2 (f : Int → Int → Option D) (a b : D) : Option D := (asI a).bind fun x => (asI b).bind fun y => f x y
theorem int2_some {f : Int → Int → Option D} {a b d : D} (h : int2 f a b = some d) : ∃ i k : Int, a = .int i ∧ b = .int k ∧ f i k = some d := by
  obtain ⟨x, hx, y, hy, h⟩ := bb2 h
  exact ⟨x, y, asI_some hx, asI_some hy, h⟩
noncomputable def addD (a b : D) : Option D := match a with
  | .int x => (asI b).bind fun y => some (.int (x + y))
  | .str x => (asS b).bind fun y => if x.length + y.length ≤ 100000 then some (.str (x ++ y)) else none
  | .list x => (asL b).bind fun y => if x.length + y.length ≤ 100000 then some (.list (x ++ y)) else none
  | _ => none
noncomputable def mulD (a b : D) : Option D := (asI b).bind fun k => match a with
  | .int x => if k.natAbs < 2 ^ 64 then some (.int (x * k)) else none
  | .str x => if x.length ≤ 1000 ∧ k ≤ 1000 ∧ -1000 ≤ k then some (.str (Txt.mul x k)) else none
  | .list x => if x.length ≤ 1000 ∧ k ≤ 1000 ∧ -1000 ≤ k then some (.list (List.replicate k.toNat x).flatten) else none
  | _ => none
noncomputable def binD (op : Operator) (a b : D) : Option D := match op with
  | .Add => addD a b
  | .Sub => int2 (fun a b => some (.int (a - b))) a b
  | .Mult => mulD a b
  | .FloorDiv => int2 (fun a b => if 0 < b ∧ b < 1073741824 then some (.int (a.fdiv b)) else none) a b
  | .Mod => int2 (fun a b => if 0 < b ∧ b < 1073741824 then some (.int (a.fmod b)) else none) a b
  | .Pow => int2 (fun a k => if 0 ≤ k ∧ k ≤ 1000 ∧ a.natAbs < 2 ^ 64 then some (.int (a ^ k.toNat)) else none) a b
  | .LShift => int2 (fun a k => if 0 ≤ k ∧ k ≤ 1000 ∧ a.natAbs < 2 ^ 64 then some (.int (a * 2 ^ k.toNat)) else none) a b
  | .RShift => int2 (fun a k => if 0 ≤ k then some (.int (a.fdiv (2 ^ k.toNat))) else none) a b
  | .BitAnd => int2 (fun a b => some (.int (Builtin.bitAnd a b))) a b
  | .BitOr => int2 (fun a b => some (.int (Builtin.bitOr a b))) a b
  | .BitXor => int2 (fun a b => some (.int (Builtin.bitXor a b))) a b
  | _ => none

theorem HasAll.rep {P : Addr → Prop} {h : Heap} {ds : List D} {vs : List Value} (x : HasAll P h ds vs) : ∀ k : Nat, HasAll P h (List.replicate k ds).flatten (List.replicate k vs).flatten
  | 0 => rfl
  | k + 1 => by
    rw [List.replicate_succ, List.replicate_succ, List.flatten_cons, List.flatten_cons]
    exact x.append (x.rep k)
theorem addD_ok {A : Around} {s : Shared} {a b d : D} {u v : Value} {P : Addr → Prop} {Q E : Value → Shared → Prop}
    (hr : Room n A) (hP : ∀ a, s.heap.get? a = none → P a) (ha : Has P s.heap a u) (hb : Has P s.heap b v) (hf : addD a b = some d)
    (h : ∀ v h' tk, Ext s.heap h' → Has P h' d v → Q v { s with heap := h', toks := tk }) : wpAny (model prog w) A (binaryOp .Add u v) Q E s := by
  cases a with
  | int x =>
    obtain ⟨y, hy, hf⟩ := bb1 hf
    cases asI_some hy
    cases hf; obtain ⟨t, rfl⟩ := ha; obtain ⟨t', rfl⟩ := hb
    exact add_int (h _ s.heap _ .refl ⟨_, rfl⟩)
  | str x =>
    obtain ⟨y, hy, hf⟩ := bb1 hf
    cases asS_some hy
    obtain ⟨hle, rfl⟩ := ifs hf
    obtain ⟨t, rfl⟩ := ha; obtain ⟨t', rfl⟩ := hb
    exact PyProof.Rows.add_str (fun t' tk => h _ s.heap _ .refl ⟨_, rfl⟩) (szl hle)
  | list x =>
    obtain ⟨y, hy, hf⟩ := bb1 hf
    cases asL_some hy
    obtain ⟨hle, rfl⟩ := ifs hf
    obtain ⟨a', vs, rfl, pa, ⟨n1, hl⟩, hal⟩ := ha
    obtain ⟨b', us, rfl, pb, ⟨n2, hl'⟩, hbl⟩ := hb
    refine PySem.P.add_list hl hl' (h _ _ _ (.push _) ⟨_, vs ++ us, rfl, ?_, ⟨0, ?_⟩, ?_⟩) ?_
    · exact hP _ (size_none s.heap)
    · rw [Heap.get?_push_size _ rfl]; simp
    · exact (hal.append hbl).ext (.push _)
    · rw [List.size_toArray, List.size_toArray, hal.length, hbl.length]; exact szl hle
  | _ => exact noneS hf
theorem mulD_ok {A : Around} {s : Shared} {a b d : D} {u v : Value} {P : Addr → Prop} {Q E : Value → Shared → Prop}
    (hr : Room n A) (hP : ∀ a, s.heap.get? a = none → P a) (ha : Has P s.heap a u) (hb : Has P s.heap b v) (hf : mulD a b = some d)
    (h : ∀ v h' tk, Ext s.heap h' → Has P h' d v → Q v { s with heap := h', toks := tk }) : wpAny (model prog w) A (binaryOp .Mult u v) Q E s := by
  obtain ⟨k, hk, hf⟩ := bb1 hf
  cases asI_some hk
  obtain ⟨t', rfl⟩ := hb
  cases a with
  | int x =>
    obtain ⟨hle, rfl⟩ := ifs hf
    obtain ⟨t, rfl⟩ := ha
    exact PyProof.Rows.mul_int (h _ s.heap _ .refl ⟨_, rfl⟩) (.of_right (PyProof.Rows.intBits_le hle))
  | str x =>
    obtain ⟨hle, rfl⟩ := ifs hf
    obtain ⟨t, rfl⟩ := ha
    have h0 : x.length * k.toNat ≤ 1000 * 1000 := Nat.mul_le_mul hle.1 (tn_le hle.2.1)
    refine SB.mul ⟨by have := hle.2.1; simp; omega, fun h1 _ => ?_, fun _ _ => ?_⟩ fun t' k => h _ s.heap _ .refl ⟨_, rfl⟩
    · have : (9223372036854775 : Int) ≤ (2 ^ 63 - 1) / k := by
        rw [Int.le_ediv_iff_mul_le (by omega)]
        have := hle.2.1
        omega
      have := hle.1
      omega
    · simp [Builtin.Str.tooLong, sizeLine]
      omega
  | list x =>
    obtain ⟨hle, rfl⟩ := ifs hf
    obtain ⟨a', vs, rfl, pa, ⟨n1, hl⟩, hal⟩ := ha
    have hlen := hal.length
    have h2 : vs.length * k.toNat ≤ 1000 * 1000 := Nat.mul_le_mul (by rw [hlen]; exact hle.1) (tn_le hle.2.1)
    refine wpAny_binaryOp_repeat_ref (T := "list") (U := "int") (by decide) ⟨_, hl, rfl⟩ (fun s' => typeIs_int s' k t') noFill_list_mul PySem.F.fills_int_mul PySem.F.slot_int_rmul repeat_list PySem.F.slot_int_index.lookup
      (call_meets PySem.F.slot_int_rmul (typeIs_int s k t') PySem.F.entry_int_rmul (PySem.F.args_int_rmul_2 _ _) (lm_int_rmul_list_any k t' a' vs.toArray n1 none #[])
        ⟨hl, rfl, ⟨_, hl, rfl⟩, call_meets PySem.F.slot_list_mul ⟨_, hl, rfl⟩ PySem.F.entry_list_mul (PySem.F.args_list_mul_2 _ _)
          (lm_list_mul_any a' vs.toArray n1 none #[] k t' (by have := hle.2; simp [Builtin.List.listFitsIndex]; omega) (by rw [List.size_toArray]; omega) (by simp [Builtin.List.listTooLong, sizeLine]; omega))
          ⟨hl, ?_⟩⟩)
    refine h _ _ _ (.push _) ⟨_, (List.replicate k.toNat vs).flatten, rfl, hP _ (size_none s.heap), ⟨0, ?_⟩, (hal.rep _).ext (.push _)⟩
    rw [Heap.get?_push_size _ rfl, listMul_foldl_if]
  | _ => exact noneS hf
theorem bin_ok {A : Around} {s : Shared} {op : Operator} {a b d : D} {u v : Value} {P : Addr → Prop} {Q E : Value → Shared → Prop}
    (hr : Room n A) (hP : ∀ a, s.heap.get? a = none → P a) (ha : Has P s.heap a u) (hb : Has P s.heap b v) (hf : binD op a b = some d)
    (h : ∀ v h' tk, Ext s.heap h' → Has P h' d v → Q v { s with heap := h', toks := tk }) : wpAny (model prog w) A (binaryOp op u v) Q E s := by
  cases op with
  | Add => exact addD_ok hr hP ha hb hf h
  | Sub =>
    obtain ⟨x, y, rfl, rfl, hq⟩ := int2_some hf
    cases hq; obtain ⟨t, rfl⟩ := ha; obtain ⟨t', rfl⟩ := hb
    exact sub_int (h _ s.heap _ .refl ⟨_, rfl⟩)
  | Mult => exact mulD_ok hr hP ha hb hf h
  | FloorDiv =>
    obtain ⟨x, y, rfl, rfl, hq⟩ := int2_some hf
    obtain ⟨hle, rfl⟩ := ifs hq
    obtain ⟨t, rfl⟩ := ha; obtain ⟨t', rfl⟩ := hb
    exact PyProof.Rows.floordiv_int (Int.ne_of_gt hle.1) (h _ s.heap _ .refl ⟨_, rfl⟩) (Or.inl (PyProof.noPylong_small (abs_lt hle.1 hle.2)))
  | Mod =>
    obtain ⟨x, y, rfl, rfl, hq⟩ := int2_some hf
    obtain ⟨hle, rfl⟩ := ifs hq
    obtain ⟨t, rfl⟩ := ha; obtain ⟨t', rfl⟩ := hb
    exact PyProof.Rows.mod_int' (Int.ne_of_gt hle.1) (h _ s.heap _ .refl ⟨_, rfl⟩)
  | Pow =>
    obtain ⟨x, y, rfl, rfl, hq⟩ := int2_some hf
    obtain ⟨hle, rfl⟩ := ifs hq
    obtain ⟨t, rfl⟩ := ha; obtain ⟨t', rfl⟩ := hb
    exact PyProof.Rows.pow_int_small hle.1 (Int.le_trans hle.2.1 (by decide)) hle.2.2 (h _ s.heap _ .refl ⟨_, rfl⟩)
  | LShift =>
    obtain ⟨x, y, rfl, rfl, hq⟩ := int2_some hf
    obtain ⟨hle, rfl⟩ := ifs hq
    obtain ⟨t, rfl⟩ := ha; obtain ⟨t', rfl⟩ := hb
    exact PyProof.Rows.lshift_int_small hle.1 (Int.le_trans hle.2.1 (by decide)) hle.2.2 (h _ s.heap _ .refl ⟨_, rfl⟩)
  | RShift =>
    obtain ⟨x, y, rfl, rfl, hq⟩ := int2_some hf
    obtain ⟨hle, rfl⟩ := ifs hq
    obtain ⟨t, rfl⟩ := ha; obtain ⟨t', rfl⟩ := hb
    exact PyProof.Rows.rshift_int hle (h _ s.heap _ .refl ⟨_, rfl⟩)
  | BitAnd =>
    obtain ⟨x, y, rfl, rfl, hq⟩ := int2_some hf
    cases hq; obtain ⟨t, rfl⟩ := ha; obtain ⟨t', rfl⟩ := hb
    exact PyProof.Rows.and_int (h _ s.heap _ .refl ⟨_, rfl⟩)
  | BitOr =>
    obtain ⟨x, y, rfl, rfl, hq⟩ := int2_some hf
    cases hq; obtain ⟨t, rfl⟩ := ha; obtain ⟨t', rfl⟩ := hb
    exact PyProof.Rows.or_int (h _ s.heap _ .refl ⟨_, rfl⟩)
  | BitXor =>
    obtain ⟨x, y, rfl, rfl, hq⟩ := int2_some hf
    cases hq; obtain ⟨t, rfl⟩ := ha; obtain ⟨t', rfl⟩ := hb
    exact PyProof.Rows.xor_int (h _ s.heap _ .refl ⟨_, rfl⟩)
  | _ => exact noneS hf

theorem den_bin {e e' : Expr} {op : Operator} {pos : Pos} {f g : List D → Option D} (h1 : Den prog w K n nm sl e f) (h2 : Den prog w K n nm sl e' g) :
    Den prog w K n nm sl (.BinOp e op e' pos) (fun ρ => (f ρ).bind fun a => (g ρ).bind fun b => binD op a b) := by
  intro env A s ρ d P Q E c hf h
  obtain ⟨a, ha, hf⟩ := Option.bind_eq_some_iff.mp hf
  obtain ⟨b, hb, hf⟩ := Option.bind_eq_some_iff.mp hf
  refine wpAny_BinOp (h1 env A s ρ a P _ _ c ha fun v h' tk e1 hv => ?_)
  refine h2 env A _ ρ b P _ _ (c.ext e1) hb fun v' h'' tk' e2 hv' => ?_
  exact bin_ok c.room (((c.ext e1).ext e2).fresh) (hv.ext e2) hv' hf fun u h3 tk3 e3 hu => h u h3 tk3 ((e1.trans e2).trans e3) hu

/-! comparisons, tests -/
noncomputable def intsD : List D → Option (List Int)
  | [] => some []
  | d :: r => (asI d).bind fun i => (intsD r).map (i :: ·)
theorem intsD_cons {d : D} {r : List D} {ns : List Int} (e : intsD (d :: r) = some ns) : ∃ i ms, d = .int i ∧ intsD r = some ms ∧ ns = i :: ms := by
  obtain ⟨i, hi, e⟩ := bb1 e
  obtain ⟨ms, hm, rfl⟩ := Option.map_eq_some_iff.mp e
  exact ⟨i, ms, asI_some hi, hm, rfl⟩
theorem HasAll.ints {P : Addr → Prop} {h : Heap} : ∀ {ds : List D} {vs : List Value} {ns : List Int}, HasAll P h ds vs → intsD ds = some ns → IntsAre vs ns
  | [], _, _, x, e => by cases x; cases e; exact .nil
  | d :: r, _, _, x, e => by
    obtain ⟨i, ms, rfl, hm, rfl⟩ := intsD_cons e
    obtain ⟨v, r', rfl, ⟨t, rfl⟩, b⟩ := x
    exact .cons i t (b.ints hm)
noncomputable def strsD : List D → Option (List Str)
  | [] => some []
  | d :: r => (asS d).bind fun i => (strsD r).map (i :: ·)
theorem strsD_cons {d : D} {r : List D} {ns : List Str} (e : strsD (d :: r) = some ns) : ∃ i ms, d = .str i ∧ strsD r = some ms ∧ ns = i :: ms := by
  obtain ⟨i, hi, e⟩ := bb1 e
  obtain ⟨ms, hm, rfl⟩ := Option.map_eq_some_iff.mp e
  exact ⟨i, ms, asS_some hi, hm, rfl⟩

noncomputable def cmp2 (f : Int → Int → Bool) (a b : D) : Option Bool := (asI a).bind fun x => (asI b).bind fun y => some (f x y)
theorem cmp2_some {f : Int → Int → Bool} {a b : D} {r : Bool} (h : cmp2 f a b = some r) : ∃ i k : Int, a = .int i ∧ b = .int k ∧ f i k = r := by
  obtain ⟨x, hx, y, hy, h⟩ := bb2 h
  exact ⟨x, y, asI_some hx, asI_some hy, Option.some.inj h⟩
noncomputable def eqD (a b : D) : Option Bool := match a with
  | .int x => (asI b).bind fun y => some (x == y)
  | .str x => (asS b).bind fun y => some (x == y)
  | _ => none
noncomputable def neD (a b : D) : Option Bool := match a with
  | .int x => (asI b).bind fun y => some (x != y)
  | .bool x => (asB b).bind fun y => some (x != y)
  | .list x => (asL b).bind fun y => (intsD x).bind fun m => (intsD y).bind fun n => some (!decide (m = n))
  | _ => none
noncomputable def isntD (a b : D) : Option Bool := (asB a).bind fun x => (asB b).bind fun y => some (x != y)
noncomputable def inD (a b : D) : Option Bool := (asI a).bind fun x => (asL b).bind fun y => (intsD y).map fun ns => ns.any (· == x)
noncomputable def ninD (a b : D) : Option Bool := (asS a).bind fun x => (asS b).bind fun y => some (!Txt.contains y x)
noncomputable def cmpD (op : CmpOp) (a b : D) : Option Bool := match op with
  | .Eq => eqD a b
  | .NotEq => neD a b
  | .Lt => cmp2 (fun a b => decide (a < b)) a b
  | .LtE => cmp2 (fun a b => decide (a ≤ b)) a b
  | .Gt => cmp2 (fun a b => decide (b < a)) a b
  | .GtE => cmp2 (fun a b => decide (b ≤ a)) a b
  | .IsNot => isntD a b
  | .In => inD a b
  | .NotIn => ninD a b
  | _ => none

theorem cmp_ok {A : Around} {s : Shared} {op : CmpOp} {a b : D} {r : Bool} {u v : Value} {P : Addr → Prop} {Q E : Value → Shared → Prop}
    (hr : Room n A) (ha : Has P s.heap a u) (hb : Has P s.heap b v) (hf : cmpD op a b = some r)
    (h : Q (.bool r) s) : wpAny (model prog w) A (compareOp op u v) Q E s := by
  cases op with
  | Eq =>
    replace hf : eqD a b = some r := hf
    cases a with
    | int x =>
      obtain ⟨y, hy, hf⟩ := bb1 hf
      cases asI_some hy
      cases hf; obtain ⟨t, rfl⟩ := ha; obtain ⟨t', rfl⟩ := hb; exact eq_int h
    | str x =>
      obtain ⟨y, hy, hf⟩ := bb1 hf
      cases asS_some hy
      cases hf; obtain ⟨t, rfl⟩ := ha; obtain ⟨t', rfl⟩ := hb; exact PyProof.Rows.eq_str h
    | _ => exact noneS hf
  | NotEq =>
    replace hf : neD a b = some r := hf
    cases a with
    | int x =>
      obtain ⟨y, hy, hf⟩ := bb1 hf
      cases asI_some hy
      cases hf; obtain ⟨t, rfl⟩ := ha; obtain ⟨t', rfl⟩ := hb; exact ne_int h
    | bool x =>
      obtain ⟨y, hy, hf⟩ := bb1 hf
      cases asB_some hy
      cases hf; cases ha; cases hb; exact PyProof.Rows.ne_bool h
    | list x =>
      obtain ⟨y, hy, hf⟩ := bb1 hf
      cases asL_some hy
      obtain ⟨m, hx, hf⟩ := bb1 hf
      obtain ⟨n', hy', hf⟩ := bb1 hf
      cases hf
      obtain ⟨a', vs, rfl, _, hl, hal⟩ := ha
      obtain ⟨b', us, rfl, _, hl', hbl⟩ := hb
      exact ne_intsK hl.isList (hal.ints hx) hl'.isList (hbl.ints hy') (Nat.lt_of_le_of_lt (Nat.add_le_add_right (Nat.le_trans (Nat.le_trans (Nat.le_add_right _ _) (Nat.le_add_right _ _)) hr.units) 64) (by decide)) h
    | _ => exact noneS hf
  | Lt => obtain ⟨x, y, rfl, rfl, rfl⟩ := cmp2_some hf; obtain ⟨t, rfl⟩ := ha; obtain ⟨t', rfl⟩ := hb; exact lt_int h
  | LtE => obtain ⟨x, y, rfl, rfl, rfl⟩ := cmp2_some hf; obtain ⟨t, rfl⟩ := ha; obtain ⟨t', rfl⟩ := hb; exact PyProof.Rows.le_int h
  | Gt => obtain ⟨x, y, rfl, rfl, rfl⟩ := cmp2_some hf; obtain ⟨t, rfl⟩ := ha; obtain ⟨t', rfl⟩ := hb; exact gt_int h
  | GtE => obtain ⟨x, y, rfl, rfl, rfl⟩ := cmp2_some hf; obtain ⟨t, rfl⟩ := ha; obtain ⟨t', rfl⟩ := hb; exact PyProof.Rows.ge_int h
  | IsNot =>
    obtain ⟨x, hx, y, hy, hf⟩ := bb2 hf
    cases asB_some hx; cases asB_some hy
    cases hf; cases ha; cases hb; exact PyProof.Rows.isnot_bool h
  | In =>
    obtain ⟨x, hx, y, hy, hf⟩ := bb2 hf
    cases asI_some hx; cases asL_some hy
    obtain ⟨ns, hn, rfl⟩ := Option.map_eq_some_iff.mp hf
    obtain ⟨t, rfl⟩ := ha
    obtain ⟨b', us, rfl, _, hl', hbl⟩ := hb
    exact in_list_ints hl'.isList (hbl.ints hn) h
  | NotIn =>
    obtain ⟨x, hx, y, hy, hf⟩ := bb2 hf
    cases asS_some hx; cases asS_some hy
    cases hf; obtain ⟨t, rfl⟩ := ha; obtain ⟨t', rfl⟩ := hb; exact SB.notContains h
  | _ => exact noneS hf

noncomputable def truthD : D → Option Bool
  | .int i => some (i != 0)
  | .bool b => some b
  | .str x => if x.length ≤ 100000 then some ((x.length : Int) != 0) else none
  | _ => none
theorem truth_ok {A : Around} {s : Shared} {a : D} {r : Bool} {u : Value} {P : Addr → Prop} {Q : Bool → Shared → Prop} {E : Value → Shared → Prop}
    (ha : Has P s.heap a u) (hf : truthD a = some r) (h : ∀ tk, Q r { s with toks := tk }) : wpAny (model prog w) A (truthy u) Q E s := by
  cases a with
  | int x => cases hf; obtain ⟨t, rfl⟩ := ha; exact PyProof.Rows.truthy_int (h s.toks)
  | bool x => cases hf; cases ha; exact wpAny_truthy_bool (h s.toks)
  | str x =>
    obtain ⟨hle, rfl⟩ := ifs hf
    obtain ⟨t, rfl⟩ := ha
    exact PySem.P.truthy_str (Int.not_le.mpr (Int.lt_of_le_of_lt (Int.ofNat_le.mpr hle) (by decide))) (h _)
  | _ => exact noneS hf

theorem den_cmp {e e' : Expr} {op : CmpOp} {pos : Pos} {f g : List D → Option D} (h1 : Den prog w K n nm sl e f) (h2 : Den prog w K n nm sl e' g) (hm : behindInMarks op e' = false) :
    Den prog w K n nm sl (.Compare e [op] [e'] pos) (fun ρ => (f ρ).bind fun a => (g ρ).bind fun b => (cmpD op a b).map .bool) := by
  intro env A s ρ d P Q E c hf h
  obtain ⟨a, ha, hf⟩ := Option.bind_eq_some_iff.mp hf
  obtain ⟨b, hb, hf⟩ := Option.bind_eq_some_iff.mp hf
  obtain ⟨r, hf', rfl⟩ := Option.map_eq_some_iff.mp hf
  refine wpAny_Compare1 (h1 env A s ρ a P _ _ c ha fun v h' tk e1 hv => ?_) hm
  refine h2 env A _ ρ b P _ _ (c.ext e1) hb fun v' h'' tk' e2 hv' => ?_
  exact cmp_ok c.room (hv.ext e2) hv' hf' (h _ _ _ (e1.trans e2) rfl)
theorem denT_cmp {e e' : Expr} {op : CmpOp} {pos : Pos} {f g : List D → Option D} (h1 : Den prog w K n nm sl e f) (h2 : Den prog w K n nm sl e' g) (hm : behindInMarks op e' = false) :
    DenT prog w K n nm sl (.Compare e [op] [e'] pos) (fun ρ => (f ρ).bind fun a => (g ρ).bind fun b => cmpD op a b) := by
  intro env A s ρ d P Q E c hf h
  obtain ⟨a, ha, hf⟩ := Option.bind_eq_some_iff.mp hf
  obtain ⟨b, hb, hf⟩ := Option.bind_eq_some_iff.mp hf
  refine wpAny_isTrue_Compare1 (h1 env A s ρ a P _ _ c ha fun v h' tk e1 hv => ?_) hm
  refine h2 env A _ ρ b P _ _ (c.ext e1) hb fun v' h'' tk' e2 hv' => ?_
  exact cmp_ok c.room (hv.ext e2) hv' hf (wpAny_truthy_bool (h _ _ (e1.trans e2)))
theorem denT_val {e : Expr} {f : List D → Option D} (h1 : Den prog w K n nm sl e f)
    (he : ∀ env whole, isTrue e env whole = (do let v ← whole; standAt e.pos; holding [v] (truthy v))) :
    DenT prog w K n nm sl e (fun ρ => (f ρ).bind truthD) := by
  intro env A s ρ d P Q E c hf h
  obtain ⟨a, ha, hf⟩ := Option.bind_eq_some_iff.mp hf
  refine wpAny_isTrue_value (h1 env A s ρ a P _ _ c ha fun v h' tk e1 hv => ?_) (he _ _)
  exact truth_ok hv hf fun tk => h _ _ e1
theorem denT_not {e : Expr} {pos : Pos} {f : List D → Option Bool} (h1 : DenT prog w K n nm sl e f) :
    DenT prog w K n nm sl (.UnaryOp .Not e pos) (fun ρ => (f ρ).map (!·)) := by
  intro env A s ρ d P Q E c hf h
  obtain ⟨a, ha, rfl⟩ := Option.map_eq_some_iff.mp hf
  exact wpAny_isTrue_Not (h1 env A s ρ a P _ _ c ha fun h' tk e1 => h _ _ e1)
theorem denT_and {e e' : Expr} {pos : Pos} {f g : List D → Option Bool} (h1 : DenT prog w K n nm sl e f) (h2 : DenT prog w K n nm sl e' g) :
    DenT prog w K n nm sl (.BoolOp .And [e, e'] pos) (fun ρ => (f ρ).bind fun a => if a then g ρ else some false) := by
  intro env A s ρ d P Q E c hf h
  obtain ⟨a, ha, hf⟩ := Option.bind_eq_some_iff.mp hf
  refine wpAny_isTrue_BoolOp (wpAny_allTrue_And_cons (h1 env A s ρ a P _ _ c ha fun h' tk e1 => ?_))
  cases a with
  | false => cases hf; exact h _ _ e1
  | true =>
    refine wpAny_allTrue_And_cons (h2 env A _ ρ d P _ _ (c.ext e1) hf fun h'' tk' e2 => ?_)
    cases d with
    | false => exact h _ _ (e1.trans e2)
    | true => exact wpAny_allTrue_And_nil (h _ _ (e1.trans e2))
theorem denT_or {e e' : Expr} {pos : Pos} {f g : List D → Option Bool} (h1 : DenT prog w K n nm sl e f) (h2 : DenT prog w K n nm sl e' g) :
    DenT prog w K n nm sl (.BoolOp .Or [e, e'] pos) (fun ρ => (f ρ).bind fun a => if a then some true else g ρ) := by
  intro env A s ρ d P Q E c hf h
  obtain ⟨a, ha, hf⟩ := Option.bind_eq_some_iff.mp hf
  refine wpAny_isTrue_BoolOp (wpAny_allTrue_Or_cons (h1 env A s ρ a P _ _ c ha fun h' tk e1 => ?_))
  cases a with
  | true => cases hf; exact h _ _ e1
  | false =>
    refine wpAny_allTrue_Or_cons (h2 env A _ ρ d P _ _ (c.ext e1) hf fun h'' tk' e2 => ?_)
    cases d with
    | true => exact h _ _ (e1.trans e2)
    | false => exact wpAny_allTrue_Or_nil (h _ _ (e1.trans e2))
theorem den_if {t e e' : Expr} {pos : Pos} {q : List D → Option Bool} {f g : List D → Option D} (h0 : DenT prog w K n nm sl t q) (h1 : Den prog w K n nm sl e f) (h2 : Den prog w K n nm sl e' g) :
    Den prog w K n nm sl (.IfExp t e e' pos) (fun ρ => (q ρ).bind fun a => if a then f ρ else g ρ) := by
  intro env A s ρ d P Q E c hf h
  obtain ⟨a, ha, hf⟩ := Option.bind_eq_some_iff.mp hf
  refine wpAny_IfExp (h0 env A s ρ a P _ _ c ha fun h' tk e1 => ?_)
  cases a with
  | true => exact h1 env A _ ρ d P _ _ (c.ext e1) hf fun v h'' tk' e2 hv => h _ _ _ (e1.trans e2) hv
  | false => exact h2 env A _ ρ d P _ _ (c.ext e1) hf fun v h'' tk' e2 hv => h _ _ _ (e1.trans e2) hv
noncomputable def negD (d : D) : Option D := (asI d).map fun i => .int (-i)
theorem den_neg {e : Expr} {pos : Pos} {f : List D → Option D} (h1 : Den prog w K n nm sl e f) : Den prog w K n nm sl (.UnaryOp .USub e pos) (fun ρ => (f ρ).bind negD) := by
  intro env A s ρ d P Q E c hf h
  obtain ⟨a, ha, hf⟩ := Option.bind_eq_some_iff.mp hf
  refine wpAny_UnaryOp (h1 env A s ρ a P _ _ c ha fun v h' tk e1 hv => ?_)
  obtain ⟨i, hi, rfl⟩ := Option.map_eq_some_iff.mp hf
  cases asI_some hi
  obtain ⟨t, rfl⟩ := hv
  exact PyProof.Rows.neg_int (h _ _ _ e1 ⟨_, rfl⟩)
end
end Mine
end
section
open PySem PySem.W PyProof.Rows PySem.Calls
set_option Elab.async false
set_option maxRecDepth 100000
namespace Mine
section
variable {prog : Program} {w : World} {K : Frag} {n : Nat} {nm : List (Str × NameKind)} {sl : List (Option Str)}

/-- a row of expressions -/
noncomputable def DenL (prog : Program) (w : World) (K : Frag) (n : Nat) (nm : List (Str × NameKind)) (sl : List (Option Str)) (es : List Expr) (f : List D → Option (List D)) : Prop :=
  ∀ (env : Env) (A : Around) (s : Shared) (ρ : List D) (ds : List D) (P : Addr → Prop) (pos : Pos) (Q : List Value → Shared → Prop) (E : Value → Shared → Prop),
    Cx K n nm sl P env A s.heap ρ → f ρ = some ds →
    (∀ vs h' tk, Ext s.heap h' → HasAll P h' ds vs → Q vs { s with heap := h', toks := tk }) → wpAny (model prog w) A (spliced (backTo pos (starEach es env))) Q E s
theorem denL_nil : DenL prog w K n nm sl [] (fun _ => some []) := by
  intro env A s ρ ds P pos Q E c hf h
  cases hf
  exact wpAny_items_nil (h [] s.heap s.toks .refl rfl)
theorem denL_cons {e : Expr} {es : List Expr} {f : List D → Option D} {g : List D → Option (List D)} (h1 : Den prog w K n nm sl e f) (h2 : DenL prog w K n nm sl es g)
    (he : ∀ env, starEach (e :: es) env = (false, eval e env) :: starEach es env) :
    DenL prog w K n nm sl (e :: es) (fun ρ => (f ρ).bind fun a => (g ρ).map (a :: ·)) := by
  intro env A s ρ ds P pos Q E c hf h
  refine byC fun G0 => ?_
  obtain ⟨a, ha, hf⟩ := Option.bind_eq_some_iff.mp hf
  obtain ⟨r, hr, rfl⟩ := Option.map_eq_some_iff.mp hf
  refine G0 ?_
  clear G0
  refine wpAny_items_cons (h1 env A s ρ a P _ _ c ha fun v h' tk e1 hv => ?_) (he env)
  refine h2 env A _ ρ r P pos _ _ (c.ext e1) hr fun vs h'' tk' e2 hvs => ?_
  exact h _ _ _ (e1.trans e2) ⟨v, vs, rfl, hv.ext e2, hvs⟩

theorem den_list {es : List Expr} {pos : Pos} {g : List D → Option (List D)} (h1 : DenL prog w K n nm sl es g) :
    Den prog w K n nm sl (.List es pos) (fun ρ => (g ρ).bind fun ds => if ds.length ≤ 100000 then some (.list ds) else none) := by
  intro env A s ρ d P Q E c hf h
  refine byC fun G1 => ?_
  obtain ⟨ds, hds, hf⟩ := Option.bind_eq_some_iff.mp hf
  obtain ⟨hle, rfl⟩ := ifs hf
  refine G1 ?_
  clear G1
  refine wpAny_List (h1 env A s ρ ds P pos _ _ c hds fun vs h' tk e1 hv => ⟨?_, ?_⟩)
  · rw [hv.length]; exact szl hle
  · refine h _ _ _ (e1.trans (.push _)) ⟨_, vs, rfl, ?_, ⟨0, Heap.get?_push_size _ rfl⟩, hv.ext (.push _)⟩
    exact (c.ext e1).fresh _ (size_none _)
theorem den_tup {es : List Expr} {k : Nat} {pos : Pos} {g : List D → Option (List D)} (h1 : DenL prog w K n nm sl es g) :
    Den prog w K n nm sl (.Tuple es k pos) (fun ρ => (g ρ).bind fun ds => if ds.length ≤ 100000 then some (.tup ds) else none) := by
  intro env A s ρ d P Q E c hf h
  refine byC fun G2 => ?_
  obtain ⟨ds, hds, hf⟩ := Option.bind_eq_some_iff.mp hf
  obtain ⟨hle, rfl⟩ := ifs hf
  refine G2 ?_
  clear G2
  refine wpAny_Tuple (h1 env A s ρ ds P pos _ _ c hds fun vs h' tk e1 hv => ⟨?_, ?_⟩)
  · rw [hv.length]; exact szl hle
  · refine h _ _ _ (e1.trans (.push _)) ⟨_, vs, rfl, ?_, ⟨_, Heap.get?_push_size _ rfl, rfl, 0, rfl⟩, hv.ext (.push _)⟩
    exact (c.ext e1).fresh _ (size_none _)

/-! items and slices -/
noncomputable def idxD (a b : D) : Option D := (asI b).bind fun k => match a with
  | .list ds => if 0 ≤ k ∧ k < 1000000 then ds[k.toNat]? else if k < 0 ∧ -(ds.length : Int) ≤ k ∧ -1000000 ≤ k then ds[(k + ds.length).toNat]? else none
  | .tup ds => if 0 ≤ k ∧ k < 1000000 then ds[k.toNat]? else none
  | _ => none
theorem den_idx {e e' : Expr} {pos : Pos} {f g : List D → Option D} (h1 : Den prog w K n nm sl e f) (h2 : Den prog w K n nm sl e' g)
    (hs : ∀ o i, subscripted e' false o i = operate [o, i] (getItem o i)) :
    Den prog w K n nm sl (.Subscript e e' pos) (fun ρ => (f ρ).bind fun a => (g ρ).bind fun b => idxD a b) := by
  intro env A s ρ d P Q E c hf h
  replace hf := bb2 hf
  obtain ⟨a, ha, b, hb, hf⟩ := hf
  refine Subscript_ (h1 env A s ρ a P _ _ c ha fun v h' tk e1 hv => ?_)
  refine h2 env A _ ρ b P _ _ (c.ext e1) hb fun v' h'' tk' e2 hv' => ?_
  obtain ⟨k, hk0, hf⟩ := bb1 hf
  cases asI_some hk0
  obtain ⟨t, rfl⟩ := hv'
  cases a with
  | list ds =>
    refine byC fun G3 => ?_
    obtain ⟨l, vs, rfl, pl, hl, hal⟩ := hv.ext e2
    refine G3 ?_
    clear G3
    by_cases hk : 0 ≤ k ∧ k < 1000000
    · replace hf := (if_pos hk).symm.trans hf
      obtain ⟨u, hu, hd⟩ := hal.get hf
      refine tail_any (PySem.Heap.IsList.typeIs (s := { s with heap := h'', toks := tk' }) hl.isList) slot_list_getitem.lookup (wpAny_getItem_list (s := { s with heap := h'', toks := tk' }) hl.isList hk.1 (by omega) (by simpa using hu) (h _ _ _ (e1.trans e2) hd)) (hs _ _)
    · replace hf := (if_neg hk).symm.trans hf
      by_cases hk : k < 0 ∧ -(ds.length : Int) ≤ k ∧ -1000000 ≤ k
      · replace hf := (if_pos hk).symm.trans hf
        obtain ⟨u, hu, hd⟩ := hal.get hf
        have hlen := hal.length
        refine tail_any (PySem.Heap.IsList.typeIs (s := { s with heap := h'', toks := tk' }) hl.isList) slot_list_getitem.lookup (wpAny_getItem_list_neg (s := { s with heap := h'', toks := tk' }) hl.isList hk.1 (by simp only [List.size_toArray]; omega) (by omega) (by simp only [List.size_toArray, hlen]; simpa using hu) (h _ _ _ (e1.trans e2) hd)) (hs _ _)
      · cases (if_neg hk).symm.trans hf
  | tup ds =>
    refine byC fun G4 => ?_
    obtain ⟨l, vs, rfl, pl, hl, hal⟩ := hv.ext e2
    refine G4 ?_
    clear G4
    by_cases hk : 0 ≤ k ∧ k < 1000000
    · replace hf := (if_pos hk).symm.trans hf
      obtain ⟨u, hu, hd⟩ := hal.get hf
      have hlt : k.toNat < vs.length := (List.getElem?_eq_some_iff.mp hu).1
      refine item_tupleT (s := { s with heap := h'', toks := tk' }) hl (by omega) (by omega) (j := k.toNat) ?_ hu (h _ _ _ (e1.trans e2) hd) (hs _ _)
      unfold seqIndex?
      have h1 : ¬ k < 0 := by omega
      have h2 : (decide (0 ≤ k) && decide (k < (vs.length : Int))) = true := by simp; omega
      simp only [h1, if_false, h2, if_true]
    · cases (if_neg hk).symm.trans hf
  | _ => exact noneS hf

theorem slicePick_nat (items : Array Value) (a b : Nat) : slicePick items (some a) (some b) none = ((items.toList.take b).drop a).toArray := by
  rw [PySem.slicePick_plain, List.drop_take]
  show (List.take (PySem.clipAt items.size (b : Int) - PySem.clipAt items.size (a : Int)) (List.drop (PySem.clipAt items.size (a : Int)) items.toList)).toArray = _
  rw [PySem.clipAt_nat, PySem.clipAt_nat]
  congr 1
  rcases Nat.le_total a items.size with h | h
  · rw [Nat.min_eq_left h, List.take_eq_take_iff, List.length_drop, Array.length_toList, Nat.sub_min_sub_right, Nat.sub_min_sub_right, Nat.min_assoc, Nat.min_self]
  · rw [Nat.min_eq_right h, List.drop_of_length_le (by rw [Array.length_toList]; exact Nat.le_refl _), List.drop_of_length_le (by rw [Array.length_toList]; exact h), List.take_nil, List.take_nil]

/-- the cut of a list -/
noncomputable def listD : D → Option (List D)
  | .list ds => some ds
  | .flist ds => some ds
  | _ => none
theorem Has.isList {P : Addr → Prop} {h : Heap} {d : D} {v : Value} {ds : List D} (x : Has P h d v) (e : listD d = some ds) : ∃ a vs, v = .ref a ∧ P a ∧ h.IsList a vs.toArray ∧ HasAll P h ds vs := by
  cases d with
  | list y => cases e; obtain ⟨a, vs, q, p, l, r⟩ := x; exact ⟨a, vs, q, p, l.isList, r⟩
  | flist y => cases e; exact x
  | _ => cases e
noncomputable def natD (d : D) : Option Nat := (asI d).bind fun k => if 0 ≤ k then some k.toNat else none
theorem Has.isNat {P : Addr → Prop} {h : Heap} {d : D} {v : Value} {k : Nat} (x : Has P h d v) (e : natD d = some k) : ∃ t, v = .int (k : Int) t := by
  obtain ⟨i, hi, e⟩ := bb1 e
  cases asI_some hi
  refine byC fun G5 => ?_
  obtain ⟨hi, rfl⟩ := ifs e
  obtain ⟨t, rfl⟩ := x
  refine G5 ?_
  clear G5
  exact ⟨t, by rw [Int.toNat_of_nonneg hi]⟩

theorem slice_tail {A : Around} {s : Shared} {e : Expr} {lo hi : Option Expr} {p : Pos} {l : Addr} {vs us : List Value} {ds : List D} {vl vu : Value} {a b : Option Int} {P : Addr → Prop} {Q E : Value → Shared → Prop}
    (hP : ∀ a, s.heap.get? a = none → P a) (hl : s.heap.IsList l vs.toArray) (hsz : vs.length ≤ 100000) (pl : IsPart vl a) (pu : IsPart vu b) (he : slicePick vs.toArray a b none = us.toArray) (hu : HasAll P s.heap ds us)
    (h : ∀ v h' tk, Ext s.heap h' → Has P h' (.list ds) v → Q v { s with heap := h', toks := tk }) :
    wpAny (model prog w) A (subscriptTail e (.Slice lo hi none p) (.ref l) (.ref s.heap.objs.size)) Q E { s with heap := s.heap.push { cls := .type "slice", data := .fields #[vl, vu, .none] } } := by
  refine tail_any (ops := [.ref s.heap.objs.size, .ref l]) (T := "list") (PySem.Heap.IsList.typeIs (s := { s with heap := s.heap.push { cls := .type "slice", data := .fields #[vl, vu, .none] } }) (hl.push _)) slot_list_getitem.lookup
    (wpAny_getItem_list_slice (hl.push _) (Heap.IsSliceOf.new ..) pl pu .none (by simp) ?_ (by simp only [List.size_toArray]; rw [sizeLine_eq]; omega)) rfl
  rw [he]
  refine h _ _ _ ((Ext.push _).trans (.push _)) ⟨_, us, rfl, ?_, ⟨0, Heap.get?_push_size _ rfl⟩, hu.ext ((Ext.push _).trans (.push _))⟩
  exact hP _ (none_of_ext (.push _) (size_none _))

theorem den_sliceTo {e e2 : Expr} {p pos : Pos} {f g : List D → Option D} (h1 : Den prog w K n nm sl e f) (h2 : Den prog w K n nm sl e2 g) :
    Den prog w K n nm sl (.Subscript e (.Slice none (some e2) none p) pos) (fun ρ => (f ρ).bind fun a => (g ρ).bind fun b => (listD a).bind fun ds => (natD b).bind fun k => if ds.length ≤ 100000 then some (.list (ds.take k)) else none) := by
  intro env A s ρ d P Q E c hf h
  replace hf := bb4 hf
  refine byC fun G6 => ?_
  obtain ⟨a, ha, b, hb, ds, hds, k, hk, hf⟩ := hf
  obtain ⟨hle, rfl⟩ := ifs hf
  refine G6 ?_
  clear G6
  refine Subscript_ (h1 env A s ρ a P _ _ c ha fun v h' tk e1 hv => ?_)
  refine wpAny_Slice (wpAny_pure ?_)
  refine h2 env A _ ρ b P _ _ (c.ext e1) hb fun v' h'' tk' e2 hv' => wpAny_pure ?_
  refine byC fun G7 => ?_
  obtain ⟨t, rfl⟩ := hv'.isNat hk
  obtain ⟨l, vs, rfl, pl, hl, hal⟩ := (hv.ext e2).isList hds
  refine G7 ?_
  clear G7
  refine slice_tail (s := { s with heap := h'', toks := tk' }) ((c.ext e1).ext e2).fresh hl (by rw [hal.length]; exact hle) .none (.int _ t) (PySem.slicePick_upto' _ k) ?_ fun v h3 tk3 e3 hv3 => h _ _ _ ((e1.trans e2).trans e3) hv3
  simpa using hal.take k
theorem den_sliceFrom {e e2 : Expr} {p pos : Pos} {f g : List D → Option D} (h1 : Den prog w K n nm sl e f) (h2 : Den prog w K n nm sl e2 g) :
    Den prog w K n nm sl (.Subscript e (.Slice (some e2) none none p) pos) (fun ρ => (f ρ).bind fun a => (g ρ).bind fun b => (listD a).bind fun ds => (natD b).bind fun k => if ds.length ≤ 100000 then some (.list (ds.drop k)) else none) := by
  intro env A s ρ d P Q E c hf h
  replace hf := bb4 hf
  refine byC fun G8 => ?_
  obtain ⟨a, ha, b, hb, ds, hds, k, hk, hf⟩ := hf
  obtain ⟨hle, rfl⟩ := ifs hf
  refine G8 ?_
  clear G8
  refine Subscript_ (h1 env A s ρ a P _ _ c ha fun v h' tk e1 hv => ?_)
  refine wpAny_Slice ?_
  refine h2 env A _ ρ b P _ _ (c.ext e1) hb fun v' h'' tk' e2 hv' => wpAny_pure (wpAny_pure ?_)
  refine byC fun G9 => ?_
  obtain ⟨t, rfl⟩ := hv'.isNat hk
  obtain ⟨l, vs, rfl, pl, hl, hal⟩ := (hv.ext e2).isList hds
  refine G9 ?_
  clear G9
  refine slice_tail (s := { s with heap := h'', toks := tk' }) ((c.ext e1).ext e2).fresh hl (by rw [hal.length]; exact hle) (.int _ t) .none (PySem.slicePick_from' _ k) ?_ fun v h3 tk3 e3 hv3 => h _ _ _ ((e1.trans e2).trans e3) hv3
  simpa using hal.drop k
theorem den_slice {e e2 e3 : Expr} {p pos : Pos} {f g g' : List D → Option D} (h1 : Den prog w K n nm sl e f) (h2 : Den prog w K n nm sl e2 g) (h3 : Den prog w K n nm sl e3 g') :
    Den prog w K n nm sl (.Subscript e (.Slice (some e2) (some e3) none p) pos) (fun ρ => (f ρ).bind fun a => (g ρ).bind fun b => (g' ρ).bind fun b' => (listD a).bind fun ds => (natD b).bind fun k => (natD b').bind fun k' => if ds.length ≤ 100000 then some (.list ((ds.take k').drop k)) else none) := by
  intro env A s ρ d P Q E c hf h
  replace hf := bb4 hf
  refine byC fun G10 => ?_
  obtain ⟨a, ha, b, hb, b', hb', ds, hds, hf⟩ := hf
  replace hf := bb2 hf
  obtain ⟨k, hk, k', hk', hf⟩ := hf
  obtain ⟨hle, rfl⟩ := ifs hf
  refine G10 ?_
  clear G10
  refine Subscript_ (h1 env A s ρ a P _ _ c ha fun v h' tk e1 hv => ?_)
  refine wpAny_Slice ?_
  refine h2 env A _ ρ b P _ _ (c.ext e1) hb fun v' h'' tk' e2 hv' => ?_
  refine h3 env A _ ρ b' P _ _ ((c.ext e1).ext e2) hb' fun v3 h3 tk3 e3 hv3 => wpAny_pure ?_
  refine byC fun G11 => ?_
  obtain ⟨t, rfl⟩ := hv'.isNat hk
  obtain ⟨t3, rfl⟩ := hv3.isNat hk'
  obtain ⟨l, vs, rfl, pl, hl, hal⟩ := ((hv.ext e2).ext e3).isList hds
  refine G11 ?_
  clear G11
  refine slice_tail (s := { s with heap := h3, toks := tk3 }) (((c.ext e1).ext e2).ext e3).fresh hl (by rw [hal.length]; exact hle) (.int _ t) (.int _ t3) (slicePick_nat _ k k') ?_ fun v h4 tk4 e4 hv4 => h _ _ _ (((e1.trans e2).trans e3).trans e4) hv4
  simpa using (hal.take k').drop k
end
end Mine
end
section
open PySem PySem.W PyProof.Rows PySem.Calls
set_option Elab.async false
set_option maxRecDepth 100000
namespace Mine
section
variable {prog : Program} {w : World} {K : Frag} {n : Nat} {nm : List (Str × NameKind)} {sl : List (Option Str)}

theorem gname {x : Str} {pos : Pos} {env : Env} {A : Around} {s : Shared} {v : Value} {Q E : Value → Shared → Prop} (eo : EnvOk nm env) (g : Gd K s.heap) (hx : nm.lookup x = some .globalImplicit)
    (hg : nsIn K mainGlobals x = some (some v)) (hd : (x == ("__debug__" : Str)) = false) (h : Q v s) : wpAny (model prog w) A (eval (.Name x pos) env) Q E s := by
  obtain ⟨p, l, mg, mb, T⟩ := g.T
  exact Name_function_global eo.kind ((eo.kindOf x).trans hx) (loadGlobal_global (mg := mg) (by rw [eo.glob]; exact T.g) (mg_of g.X T.g hg) h) hd
theorem bname {x : Str} {pos : Pos} {env : Env} {A : Around} {s : Shared} {v : Value} {Q E : Value → Shared → Prop} (eo : EnvOk nm env) (g : Gd K s.heap) (hx : nm.lookup x = some .globalImplicit)
    (hg : nsIn K mainGlobals x = some none) (hb : bootBuiltins x = some v) (hn : x ≠ "__name__") (hd : (x == ("__debug__" : Str)) = false) (h : Q v s) : wpAny (model prog w) A (eval (.Name x pos) env) Q E s := by
  obtain ⟨p, l, mg, mb, T⟩ := g.T
  exact Name_function_global eo.kind ((eo.kindOf x).trans hx) (loadGlobal_builtin (mg := mg) (mb := mb) (by rw [eo.glob]; exact T.g) (mg_none_of g.X T.g hg) (by rw [eo.blt]; exact T.b) ((T.builtins x hn).trans hb) h) hd
theorem den_gstr {x y : Str} {t : Tok} {pos : Pos} (hx : nm.lookup x = some .globalImplicit) (hg : nsIn K mainGlobals x = some (some (.str y t))) (hd : (x == ("__debug__" : Str)) = false) :
    Den prog w K n nm sl (.Name x pos) (fun _ => some (.str y)) := by
  intro env A s ρ d P Q E c hf h
  cases hf
  exact gname c.eok c.gd hx hg hd (h _ _ s.toks .refl ⟨t, rfl⟩)

/-- what a call of fv does with its data -/
noncomputable def CallOk (prog : Program) (w : World) (K : Frag) (n : Nat) (fv : Value) (F : List D → Option D) : Prop :=
  ∀ (A : Around) (s : Shared) (P : Addr → Prop) (ds : List D) (vs : List Value) (d : D) (Q E : Value → Shared → Prop),
    Room n A → Gd K s.heap → (∀ a, s.heap.get? a = none → P a) → HasAll P s.heap ds vs → F ds = some d →
    (∀ v h' tk, Ext s.heap h' → Has P h' d v → Q v { s with heap := h', toks := tk }) → wpAny (model prog w) A (call fv vs) Q E s

theorem den_callB {x : Str} {id : String} {p pos : Pos} {e : Expr} {es : List Expr} {g : List D → Option (List D)} {F : List D → Option D}
    (hx : nm.lookup x = some .globalImplicit) (hg : nsIn K mainGlobals x = some none) (hb : bootBuiltins x = some (.builtin id)) (hn : x ≠ "__name__") (hd : (x == ("__debug__" : Str)) = false)
    (he : ∀ env, starEach (e :: es) env = (false, eval e env) :: starEach es env) (hpl : ∀ env, (backTo pos (starEach es env)).any (·.1) = false)
    (hc : CallOk prog w K n (.builtin id) F) (ha : DenL prog w K n nm sl (e :: es) g) : Den prog w K n nm sl (.Call (.Name x p) (e :: es) [] pos) (fun ρ => (g ρ).bind F) := by
  intro env A s ρ d P Q E c hf h
  replace hf := bb1 hf
  obtain ⟨ds, hds, hf⟩ := hf
  refine Call_Name rfl (bname c.eok c.gd hx hg hb hn hd ?_)
  refine PyProof.Rows.callWith_builtin1 (ha env A s ρ ds P pos _ _ c hds fun vs h' tk e1 hv => ?_) (he env) (hpl env)
  exact hc A { s with heap := h', toks := tk } P ds vs d Q E c.room (c.gd.ext e1) (c.ext e1).fresh hv hf fun v h3 tk3 e3 hv3 => h _ _ _ (e1.trans e3) hv3

theorem den_callD {x : Str} {f : Addr} {p pos : Pos} {e : Expr} {es : List Expr} {g : List D → Option (List D)} {F : List D → Option D}
    (hx : nm.lookup x = some .globalImplicit) (hg : nsIn K mainGlobals x = some (some (.ref f))) (hd : (x == ("__debug__" : Str)) = false) (hk : keepIn K (.ref f) = true)
    (he : ∀ env, starEach (e :: es) env = (false, eval e env) :: starEach es env) (hpl : ∀ env, (backTo pos (starEach es env)).any (·.1) = false)
    (hc : CallOk prog w K n (.ref f) F) (ha : DenL prog w K n nm sl (e :: es) g) : Den prog w K n nm sl (.Call (.Name x p) (e :: es) [] pos) (fun ρ => (g ρ).bind F) := by
  intro env A s ρ d P Q E c hf h
  replace hf := bb1 hf
  obtain ⟨ds, hds, hf⟩ := hf
  refine Call_Name rfl (gname c.eok c.gd hx hg hd ?_)
  refine callWith_K (K := K) c.gd.X hk (ha env A s ρ ds P pos _ _ c hds fun vs h' tk e1 hv => ⟨(c.gd.ext e1).X, ?_⟩) (he env) (hpl env)
  exact hc A { s with heap := h', toks := tk } P ds vs d Q E c.room (c.gd.ext e1) (c.ext e1).fresh hv hf fun v h3 tk3 e3 hv3 => h _ _ _ (e1.trans e3) hv3

/-! the built-ins -/
noncomputable def one : List D → Option D
  | [a] => some a
  | _ => none
theorem one_some {l : List D} {a : D} (h : one l = some a) : l = [a] := by
  cases l with
  | nil => cases h
  | cons b l => cases l with
    | nil => cases h; rfl
    | cons c l => cases h
noncomputable def two (l : List D) : Option (D × D) := match l with
  | [a, b] => some (a, b)
  | _ => none
theorem two_some {l : List D} {p : D × D} (h : two l = some p) : l = [p.1, p.2] := by
  cases l with
  | nil => cases h
  | cons b l => cases l with
    | nil => cases h
    | cons c l => cases l with
      | nil => cases h; rfl
      | cons d l => cases h
noncomputable def lenD (l : List D) : Option D := (one l).bind fun a => match a with
  | .list ds => if ds.length ≤ 100000 then some (.int ds.length) else none
  | .str x => if x.length ≤ 100000 then some (.int x.length) else none
  | .tup ds => if ds.length ≤ 100000 then some (.int ds.length) else none
  | _ => none
theorem ok_len : CallOk prog w K n (.builtin "len") lenD := by
  intro A s P ds vs d Q E hr hg hP hv hf h
  replace hf := bb1 hf
  obtain ⟨a, ha, hf⟩ := hf
  cases one_some ha
  refine byC fun G0 => ?_
  obtain ⟨v, r, rfl, hv, hr'⟩ := hv
  refine G0 ?_
  clear G0
  cases hr'
  cases a with
  | list ds =>
    refine byC fun G1 => ?_
    obtain ⟨hle, rfl⟩ := ifs hf
    obtain ⟨a, us, rfl, pa, hl, hal⟩ := hv
    refine G1 ?_
    clear G1
    have hlen := hal.length
    refine call_len_list hl.isList (by simp only [List.size_toArray]; omega) ?_
    simp only [List.size_toArray, hlen]
    exact h _ _ _ .refl ⟨_, rfl⟩
  | str x =>
    refine byC fun G2 => ?_
    obtain ⟨hle, rfl⟩ := ifs hf
    obtain ⟨t, rfl⟩ := hv
    refine G2 ?_
    clear G2
    exact PySem.P.len_str (by omega) (h _ s.heap _ .refl ⟨_, rfl⟩)
  | tup ds =>
    refine byC fun G3 => ?_
    obtain ⟨hle, rfl⟩ := ifs hf
    obtain ⟨a, us, rfl, pa, hl, hal⟩ := hv
    refine G3 ?_
    clear G3
    have hlen := hal.length
    refine PyProof.Rows.len_tuple hl (by simp only [List.size_toArray]; omega) ?_
    simp only [List.size_toArray, hlen]
    exact h _ _ _ .refl ⟨_, rfl⟩
  | _ => exact noneS hf
noncomputable def hexD (l : List D) : Option D := (one l).bind fun a => (asI a).bind fun i => if (baseText "0x" 16 i).length ≤ 100000 then some (.str (baseText "0x" 16 i)) else none
theorem ok_hex : CallOk prog w K n (.builtin "hex") hexD := by
  intro A s P ds vs d Q E hr hg hP hv hf h
  replace hf := bb2 hf
  obtain ⟨a, ha, i, hi, hf⟩ := hf
  cases one_some ha
  cases asI_some hi
  refine byC fun G4 => ?_
  obtain ⟨hle, rfl⟩ := ifs hf
  obtain ⟨v, r, rfl, ⟨t, rfl⟩, hr'⟩ := hv
  refine G4 ?_
  clear G4
  cases hr'
  exact PySem.P.hex_of_int (h _ s.heap _ .refl ⟨_, rfl⟩) (szl hle)
noncomputable def maxD (l : List D) : Option D := (two l).bind fun p => (asI p.1).bind fun a => (asI p.2).bind fun b => some (.int (if b > a then b else a))
theorem ok_max : CallOk prog w K n (.builtin "max") maxD := by
  intro A s P ds vs d Q E hr hg hP hv hf h
  replace hf := bb1 hf
  refine byC fun G5 => ?_
  obtain ⟨p, hp, hf⟩ := hf
  replace hf := bb1 hf
  obtain ⟨a, ha, hf⟩ := hf
  replace hf := bb1 hf
  obtain ⟨b, hb, hf⟩ := hf
  refine G5 ?_
  clear G5
  rw [two_some hp, asI_some ha, asI_some hb] at hv
  refine byC fun G6 => ?_
  cases hf
  obtain ⟨v, r, rfl, ⟨t, rfl⟩, v', r', rfl, ⟨t', rfl⟩, hr'⟩ := hv
  refine G6 ?_
  clear G6
  cases hr'
  refine max_two_ints hr.handled fun h' tk hk => ?_
  by_cases c : b > a
  · have := h (.int b t') h' tk hk ⟨t', by rw [if_pos c]⟩
    simpa only [if_pos c] using this
  · have := h (.int a t) h' tk hk ⟨t, by rw [if_neg c]⟩
    simpa only [if_neg c] using this
noncomputable def sumD (l : List D) : Option D := (one l).bind fun a => (asL a).bind fun ds => (intsD ds).map fun ns => .int ns.sum
theorem preSum_ints (ns : List Int) : preSum (fun i => ns.getD i 0) ns.length = ns.sum := by
  rw [PyProof.Rows.preSum_getD, List.take_length]
theorem ok_sum : CallOk prog w K n (.builtin "sum") sumD := by
  intro A s P ds vs d Q E hr hg hP hv hf h
  replace hf := bb2 hf
  obtain ⟨a0, ha0, ds0, hds0, hf⟩ := hf
  cases one_some ha0
  cases asL_some hds0
  · replace hf := Option.map_eq_some_iff.mp hf
    refine byC fun G7 => ?_
    obtain ⟨ns, hn, rfl⟩ := hf
    obtain ⟨v, r, rfl, ⟨a, us, rfl, pa, hl, hal⟩, hr'⟩ := hv
    refine G7 ?_
    clear G7
    cases hr'
    have hi := hal.ints hn
    have hlen := hi.length
    refine call_sum_walkG (wpAny_pyIter_list hl.isList ?_)
    have hne : a ≠ s.heap.objs.size := by obtain ⟨k, ho⟩ := hl; exact Nat.ne_of_lt (Heap.lt_size ho)
    refine ⟨_, _, _, _, _, _, fun i => ns.getD i 0, rfl, Walks.list (show A.in1.handled = none from hr.handled) _ a hne us.toArray, ⟨⟨_, Heap.get?_push_size _ rfl, rfl, rfl⟩, hl.isList.push _⟩, ?_, ?_, ?_⟩
    · intro b hb
      simp only [Heap.size_push]
      obtain ⟨k, ho⟩ := hl
      have := Heap.lt_size ho
      rcases List.mem_cons.mp hb with rfl | hb
      · exact Nat.lt_succ_self _
      · rcases List.mem_cons.mp hb with rfl | hb
        · exact Nat.lt_succ_of_lt this
        · cases hb
    · intro i v hv
      have hv' : us[i]? = some v := by simpa using hv
      clear hv h hl hal hlen hn
      induction hi generalizing i with
      | nil => simp at hv'
      | cons k t _ ih => cases i with
        | zero => simp at hv'; exact ⟨t, by rw [← hv']; rfl⟩
        | succ i => simp at hv'; obtain ⟨t', e⟩ := ih i hv'; exact ⟨t', by rw [e]; rfl⟩
    · intro h' tk t' hk
      have e : preSum (fun i => ns.getD i 0) us.toArray.size = ns.sum := by
        rw [List.size_toArray, hlen]; exact preSum_ints ns
      rw [e]
      refine h _ h' tk (fun b o ho => hk b o ?_ (Heap.get?_push_of_some _ ho)) ⟨_, rfl⟩
      intro hb
      have q := Heap.lt_size ho
      rw [List.mem_singleton.mp hb] at q
      exact Nat.lt_irrefl _ q
end
end Mine
end
section
open PySem PySem.W PyProof.Rows PySem.Calls
set_option Elab.async false
set_option maxRecDepth 100000
namespace Mine
section
variable {prog : Program} {w : World} {K : Frag} {n : Nat} {nm : List (Str × NameKind)} {sl : List (Option Str)}

/-- an iterable: what its iterator hands out -/
noncomputable def DenI (prog : Program) (w : World) (K : Frag) (n : Nat) (nm : List (Str × NameKind)) (sl : List (Option Str)) (e : Expr) (f : List D → Option (List D)) : Prop :=
  ∀ (env : Env) (A : Around) (s : Shared) (ρ : List D) (ds : List D) (P : Addr → Prop) (Q : Value → Shared → Prop) (E : Value → Shared → Prop),
    Cx K n nm sl P env A s.heap ρ → f ρ = some ds →
    (∀ (I : Addr) (h' : Heap) (tk : Nat) (fp wr : List Addr) (Pv : Nat → Value → Prop) (St : Nat → Heap → Prop), Ext s.heap h' → (∀ A' : Around, A'.handled = none → Walks prog w A' I fp wr ds.length Pv St) → St 0 h' →
      (∀ b ∈ fp, ∃ o, h'.get? b = some o) → (∀ b ∈ wr, s.heap.get? b = none) → (∀ i h, St i h → ∀ b ∈ wr, ∃ o, h.get? b = some o) → (∀ b ∈ fp, b ∉ wr → P b) →
      (∀ (i : Nat) (d : D) (v : Value), ds[i]? = some d → Pv i v → Has (fun a => P a ∧ a ∉ wr) h' d v) → Q (.ref I) { s with heap := h', toks := tk }) →
    wpAny (model prog w) A (eval e env) (fun xv s₁ => wpAny (model prog w) A (pyIter xv) Q E s₁) E s

theorem denI_list {e : Expr} {f : List D → Option D} (h1 : Den prog w K n nm sl e f) : DenI prog w K n nm sl e (fun ρ => (f ρ).bind listD) := by
  intro env A s ρ ds P Q E c hf h
  replace hf := bb1 hf
  obtain ⟨d, hd, hf⟩ := hf
  refine h1 env A s ρ d P _ _ c hd fun v h' tk e1 hv => ?_
  refine byC fun G0 => ?_
  obtain ⟨a, vs, rfl, pa, hl, hal⟩ := hv.isList hf
  refine G0 ?_
  clear G0
  have hne : a ≠ h'.objs.size := by obtain ⟨o, ho, _⟩ := hl; exact Nat.ne_of_lt (Heap.lt_size ho)
  have hsz : vs.toArray.size = ds.length := by rw [List.size_toArray, hal.length]
  refine wpAny_pyIter_list hl ?_
  refine h h'.objs.size _ _ [h'.objs.size, a] [h'.objs.size] _ _ (e1.trans (.push _)) (fun A' hA' => hsz ▸ Walks.list hA' h'.objs.size a hne vs.toArray) ⟨⟨_, Heap.get?_push_size _ rfl, rfl, rfl⟩, hl.push _⟩ ?_ ?_ ?_ ?_ ?_
  · intro b hb
    rcases List.mem_cons.mp hb with rfl | hb
    · exact ⟨_, Heap.get?_push_size _ rfl⟩
    · rw [List.mem_singleton.mp hb]
      obtain ⟨o, ho, _⟩ := hl
      exact ⟨o, Heap.get?_push_of_some _ ho⟩
  · intro b hb
    rw [List.mem_singleton.mp hb]
    exact none_of_ext e1 (size_none _)
  · intro i h st b hb
    rw [List.mem_singleton.mp hb]
    obtain ⟨o, ho, _⟩ := st.1
    exact ⟨o, ho⟩
  · intro b hb hw
    rcases List.mem_cons.mp hb with rfl | hb
    · exact absurd (.head _) hw
    · rw [List.mem_singleton.mp hb]; exact pa
  · intro i d v hi hv
    obtain ⟨u, hu, hh⟩ := hal.get hi
    have hv' : vs[i]? = some v := by simpa using hv
    rw [hu] at hv'
    cases hv'
    refine Has.mono (fun b o ho pb => ⟨⟨pb, fun hb => ?_⟩, Heap.get?_push_of_some _ ho⟩) _ _ hh
    rw [List.mem_singleton.mp hb] at ho
    rw [size_none] at ho
    cases ho

noncomputable def rangeD (a b : Int) : List D := (List.range (b - a).toNat).map fun (i : Nat) => .int (a + (i : Int))
theorem rangeD_get {a b : Int} {i : Nat} {d : D} (h : (rangeD a b)[i]? = some d) : d = .int (a + i) := by
  unfold rangeD at h
  rw [List.getElem?_map] at h
  obtain ⟨j, hj, rfl⟩ := Option.map_eq_some_iff.mp h
  rw [List.getElem?_range] at hj
  · cases hj; rfl
  · by_cases q : i < (b - a).toNat
    · exact q
    · rw [List.getElem?_eq_none (by rw [List.length_range]; exact Nat.not_lt.mp q)] at hj; cases hj
theorem rangeD_len (a b : Int) : (rangeD a b).length = (b - a).toNat := by simp [rangeD]

theorem range_tail {A : Around} {s : Shared} {a b : Int} {r : Addr} {t u v : Tok} {P : Addr → Prop} {Q E : Value → Shared → Prop} {s₀ : Shared} (e0 : Ext s₀.heap s.heap) (es : s = { s₀ with heap := s.heap, toks := s.toks })
    (hr : IsRange s.heap r a b 1 t u v) (hsm : Builtin.Range.small a b 1 = true)
    (h : ∀ (I : Addr) (h' : Heap) (tk : Nat) (fp wr : List Addr) (Pv : Nat → Value → Prop) (St : Nat → Heap → Prop), Ext s₀.heap h' → (∀ A' : Around, A'.handled = none → Walks prog w A' I fp wr (rangeD a b).length Pv St) → St 0 h' →
      (∀ b ∈ fp, ∃ o, h'.get? b = some o) → (∀ b ∈ wr, s₀.heap.get? b = none) → (∀ i h, St i h → ∀ b ∈ wr, ∃ o, h.get? b = some o) → (∀ b ∈ fp, b ∉ wr → P b) →
      (∀ (i : Nat) (d : D) (v : Value), (rangeD a b)[i]? = some d → Pv i v → Has (fun a => P a ∧ a ∉ wr) h' d v) → Q (.ref I) { s₀ with heap := h', toks := tk }) :
    wpAny (model prog w) A (pyIter (.ref r)) Q E s := by
  have hq : Builtin.Range.rangeSize a b 1 = (((b - a).toNat : Nat) : Int) := by
    rw [rangeSize_one]
    split
    · rename_i h; exact (Int.toNat_of_nonneg (Int.sub_nonneg.mpr (Int.le_of_lt h))).symm
    · rename_i h; rw [Int.toNat_of_nonpos (Int.sub_nonpos_of_le (Int.not_lt.mp h))]; rfl
  have hn : (Builtin.Range.rangeSize a b 1).toNat = (b - a).toNat := by rw [hq, Int.toNat_natCast]
  refine wpAny_pyIter_range hr hsm ?_
  rw [es]
  refine h s.heap.objs.size _ _ [s.heap.objs.size] [s.heap.objs.size] _ _ (e0.trans (.push _)) (fun A' hA' => by rw [rangeD_len]; exact Walks.range hA' s.heap.objs.size a 1 (b - a).toNat) ?_ ?_ ?_ ?_ (fun b hb hw => absurd hb hw) ?_
  · show IsRangeIter _ _ _ _ _
    rw [hq]
    simpa using Heap.get?_push_size _ rfl
  · intro b hb
    rw [List.mem_singleton.mp hb]
    exact ⟨_, Heap.get?_push_size _ rfl⟩
  · intro b hb
    rw [List.mem_singleton.mp hb]
    exact none_of_ext e0 (size_none _)
  · intro i h st b hb
    rw [List.mem_singleton.mp hb]
    exact ⟨_, st⟩
  · intro i d v hi hv
    obtain ⟨t, rfl⟩ := hv
    rw [rangeD_get hi]
    exact ⟨t, by rw [Int.mul_one]⟩

noncomputable abbrev intD (d : D) : Option Int := asI d
theorem Has.isInt {P : Addr → Prop} {h : Heap} {d : D} {v : Value} {k : Int} (x : Has P h d v) (e : intD d = some k) : ∃ t, v = .int k t := by
  cases asI_some e
  exact x

theorem denI_range1 {p pos : Pos} {e : Expr} {f : List D → Option D}
    (hx : nm.lookup ("range" : Str) = some .globalImplicit) (hg : nsIn K mainGlobals ("range" : Str) = some none)
    (he : ∀ env, starEach [e] env = (false, eval e env) :: starEach [] env)
    (h1 : Den prog w K n nm sl e f) : DenI prog w K n nm sl (.Call (.Name ("range" : Str) p) [e] [] pos) (fun ρ => (f ρ).bind fun d => (intD d).bind fun k => if -1000000 ≤ k ∧ k ≤ 1000000 then some (rangeD 0 k) else none) := by
  intro env A s ρ ds P Q E c hf h
  replace hf := bb2 hf
  refine byC fun G1 => ?_
  obtain ⟨d, hd, k, hk, hf⟩ := hf
  obtain ⟨hle, rfl⟩ := ifs hf
  refine G1 ?_
  clear G1
  refine Call_Name rfl (bname c.eok c.gd hx hg (v := .type "range") (by decide +kernel) (by decide) (by decide) ?_)
  refine PyProof.Rows.callWith_type1 (args_cons (h1 env A s ρ d P _ _ c hd fun v h' tk e1 hv => ?_) (he env)) (he env) rfl
  obtain ⟨t, rfl⟩ := hv.isInt hk
  refine args_nil (call_range_1 ?_)
  exact range_tail (s₀ := s) (s := { s with heap := h'.push _, toks := _ }) (e1.trans (.push _)) rfl (IsRange.new _ _ _ _ _ _ _) (small_one (by decide) (by decide) (Int.le_trans (by decide) hle.1) (Int.lt_of_le_of_lt hle.2 (by decide))) h
theorem denI_range2 {p pos : Pos} {e e' : Expr} {f g : List D → Option D}
    (hx : nm.lookup ("range" : Str) = some .globalImplicit) (hg : nsIn K mainGlobals ("range" : Str) = some none)
    (he : ∀ env, starEach [e, e'] env = (false, eval e env) :: starEach [e'] env) (he' : ∀ env, starEach [e'] env = (false, eval e' env) :: starEach [] env)
    (hpl : ∀ env, (backTo pos (starEach [e'] env)).any (·.1) = false)
    (h1 : Den prog w K n nm sl e f) (h2 : Den prog w K n nm sl e' g) :
    DenI prog w K n nm sl (.Call (.Name ("range" : Str) p) [e, e'] [] pos) (fun ρ => (f ρ).bind fun d => (g ρ).bind fun d' => (intD d).bind fun j => (intD d').bind fun k => if (-1000000 ≤ k ∧ k ≤ 1000000) ∧ -1000000 ≤ j ∧ j ≤ 1000000 then some (rangeD j k) else none) := by
  intro env A s ρ ds P Q E c hf h
  replace hf := bb4 hf
  refine byC fun G2 => ?_
  obtain ⟨d, hd, d', hd', j, hj, k, hk, hf⟩ := hf
  obtain ⟨hle, rfl⟩ := ifs hf
  refine G2 ?_
  clear G2
  refine Call_Name rfl (bname c.eok c.gd hx hg (v := .type "range") (by decide +kernel) (by decide) (by decide) ?_)
  refine PyProof.Rows.callWith_type1 (args_cons (h1 env A s ρ d P _ _ c hd fun v h' tk e1 hv => args_cons (h2 env A _ ρ d' P _ _ (c.ext e1) hd' fun v' h'' tk' e2 hv' => ?_) (he' env)) (he env)) (he env) (hpl env)
  refine byC fun G3 => ?_
  obtain ⟨t, rfl⟩ := hv.isInt hj
  obtain ⟨t', rfl⟩ := hv'.isInt hk
  refine G3 ?_
  clear G3
  refine args_nil (call_range_2 ?_)
  exact range_tail (s₀ := s) (s := { s with heap := h''.push _, toks := _ }) ((e1.trans e2).trans (.push _)) rfl (IsRange.new _ _ _ _ _ _ _) (small_one (Int.le_trans (by decide) hle.2.1) (Int.lt_of_le_of_lt hle.2.2 (by decide)) (Int.le_trans (by decide) hle.1.1) (Int.lt_of_le_of_lt hle.1.2 (by decide))) h
end
end Mine
end
section
open PySem PySem.W PyProof.Rows PySem.Calls
set_option Elab.async false
set_option maxRecDepth 100000
namespace Mine

theorem ns_fun {h : Heap} {a : Addr} {m m' : Str → Option Value} (x : h.Ns a m) (y : h.Ns a m') : m = m' := by
  obtain ⟨o, es, ep, ho, hd, _, hm⟩ := x
  obtain ⟨o', es', ep', ho', hd', _, hm'⟩ := y
  rw [ho] at ho'; cases ho'
  rw [hd] at hd'; cases hd'
  funext z
  rw [← hm z, ← hm' z]

/-- the frame's own places -/
structure Sto (env : Env) (h : Heap) : Prop where
  ns : ∃ m, h.Ns env.locals m
  cell : ∀ x c, env.cells.lookup x = some c → ∃ v, h.IsCell c v
  apart : ∀ x y c, env.cells.lookup x = some c → env.cells.lookup y = some c → x = y
  off : ∀ x c, env.cells.lookup x = some c → c ≠ env.locals
theorem Sto.ext {env : Env} {h h' : Heap} (s : Sto env h) (e : Ext h h') : Sto env h' :=
  ⟨let ⟨m, hn⟩ := s.ns; ⟨m, hn.keeps e⟩, fun x c hc => let ⟨v, hv⟩ := s.cell x c hc; ⟨v, hv.keeps e⟩, s.apart, s.off⟩
noncomputable def Mu (env : Env) (a : Addr) : Prop := a = env.locals ∨ ∃ x, env.cells.lookup x = some a
theorem Sto.mu {env : Env} {h : Heap} (s : Sto env h) {a : Addr} (m : Mu env a) : ∃ o, h.get? a = some o := by
  rcases m with rfl | ⟨x, hx⟩
  · obtain ⟨m, o, _, _, ho, _⟩ := s.ns; exact ⟨o, ho⟩
  · obtain ⟨v, o, ho, _⟩ := s.cell x a hx; exact ⟨o, ho⟩

theorem sto_store {M : Model} {A : Around} {env : Env} {s : Shared} {x : Str} {v : Value} {Q : Unit → Shared → Prop} {E : Value → Shared → Prop} (hk : env.scope.kind = .function) (S : Sto env s.heap)
    (kx : env.kindOf x = some .local ∨ (env.kindOf x = some .cell ∧ ∃ c, env.cells.lookup x = some c))
    (h : ∀ h' tk a, Sto env h' → (a = env.locals ∨ env.cells.lookup x = some a) → Heap.SameBut a s.heap h' → Rd env h' x v → (∀ y u, y ≠ x → Rd env s.heap y u → Rd env h' y u) → Q () { s with heap := h', toks := tk }) :
    wpAny M A (storeName env x v) Q E s := by
  rcases kx with kx | ⟨kx, c, hc⟩
  · obtain ⟨m, hn⟩ := S.ns
    refine wpAny_storeName_local kx hn (fun h' hn' hs' => ?_) (by rw [hk]; rfl)
    refine h h' _ env.locals ⟨⟨_, hn'⟩, fun y c hc => ?_, S.apart, S.off⟩ (.inl rfl) hs' (.inl ⟨kx, _, hn', by simp⟩) fun y u hy r => ?_
    · obtain ⟨v, hv⟩ := S.cell y c hc
      exact ⟨v, hv.sameBut hs' (S.off y c hc)⟩
    · rcases r with ⟨ky, m', hn2, hm⟩ | ⟨ky, c, o, hc, ho, hd⟩
      · rw [ns_fun hn2 hn] at hm
        exact .inl ⟨ky, _, hn', by simp [hy, hm]⟩
      · exact .inr ⟨ky, c, o, hc, (hs'.2 c (S.off y c hc)).trans ho, hd⟩
  · obtain ⟨v₀, hv⟩ := S.cell x c hc
    refine wpAny_storeName_cell hk kx hc hv fun h' hc' hs' => ?_
    refine h h' s.toks c ⟨?_, fun y c' hy => ?_, S.apart, S.off⟩ (.inr hc) hs' ?_ fun y u hy r => ?_
    · obtain ⟨m, hn⟩ := S.ns
      exact ⟨m, hn.sameBut hs' (Ne.symm (S.off x c hc))⟩
    · by_cases q : c' = c
      · subst q; exact ⟨_, hc'⟩
      · obtain ⟨v, hv⟩ := S.cell y c' hy
        exact ⟨v, hv.sameBut hs' q⟩
    · obtain ⟨o, ho, hd⟩ := hc'
      exact .inr ⟨.inl kx, c, o, hc, ho, hd⟩
    · rcases r with ⟨ky, m', hn2, hm⟩ | ⟨ky, c', o, hc', ho, hd⟩
      · exact .inl ⟨ky, m', hn2.sameBut hs' (Ne.symm (S.off x c hc)), hm⟩
      · refine .inr ⟨ky, c', o, hc', (hs'.2 c' fun q => hy ?_).trans ho, hd⟩
        rw [q] at hc'
        exact S.apart y x c hc' hc
end Mine
end
section
open PySem PySem.W PyProof.Rows PySem.Calls
set_option Elab.async false
set_option maxRecDepth 100000
namespace Mine

noncomputable def KeepBut (B : Addr → Prop) (h h' : Heap) : Prop := ∀ b o, ¬ B b → h.get? b = some o → h'.get? b = some o
theorem KeepBut.refl {B : Addr → Prop} {h : Heap} : KeepBut B h h := fun _ _ _ e => e
theorem KeepBut.trans {B : Addr → Prop} {h h' h'' : Heap} (x : KeepBut B h h') (y : KeepBut B h' h'') : KeepBut B h h'' := fun b o nb e => y b o nb (x b o nb e)
theorem KeepBut.of_ext {B : Addr → Prop} {h h' : Heap} (x : Ext h h') : KeepBut B h h' := fun b o _ e => x b o e
theorem KeepBut.of_same {B : Addr → Prop} {a : Addr} {h h' : Heap} (x : Heap.SameBut a h h') (ha : B a) : KeepBut B h h' := fun b o nb e => (x.2 b (fun q => nb (q ▸ ha))).trans e
theorem KeepBut.mono {B B' : Addr → Prop} {h h' : Heap} (x : KeepBut B h h') (i : ∀ a, B a → B' a) : KeepBut B' h h' := fun b o nb e => x b o (fun q => nb (i b q)) e
theorem Sto.keep {env : Env} {h h' : Heap} {B : Addr → Prop} (s : Sto env h) (k : KeepBut B h h') (hb : ∀ a, Mu env a → ¬ B a) : Sto env h' := by
  refine ⟨?_, fun x c hc => ?_, s.apart, s.off⟩
  · obtain ⟨m, hn⟩ := s.ns
    exact ⟨m, hn.at' fun o e => k _ o (hb _ (.inl rfl)) e⟩
  · obtain ⟨v, o, ho, hd⟩ := s.cell x c hc
    exact ⟨v, o, k _ o (hb _ (.inr ⟨x, hc⟩)) ho, hd⟩
theorem Has.keep {P : Addr → Prop} {B : Addr → Prop} {h h' : Heap} {d : D} {v : Value} (x : Has P h d v) (k : KeepBut B h h') (hb : ∀ a, P a → ¬ B a) : Has P h' d v :=
  Has.mono (fun a o ho p => ⟨p, k a o (hb a p) ho⟩) d v x
theorem HasAll.keep {P : Addr → Prop} {B : Addr → Prop} {h h' : Heap} {d : List D} {v : List Value} (x : HasAll P h d v) (k : KeepBut B h h') (hb : ∀ a, P a → ¬ B a) : HasAll P h' d v :=
  HasAll.mono (fun a o ho p => ⟨p, k a o (hb a p) ho⟩) d v x

section
variable {prog : Program} {w : World} {K : Frag} {n : Nat} {nm : List (Str × NameKind)} {sl : List (Option Str)}

noncomputable def DenIf (prog : Program) (w : World) (K : Frag) (n : Nat) (nm : List (Str × NameKind)) (sl : List (Option Str)) (ifs : List Expr) (f : List D → Option Bool) : Prop :=
  ∀ (env : Env) (A : Around) (s : Shared) (ρ : List D) (b : Bool) (P : Addr → Prop) (Q : Bool → Shared → Prop) (E : Value → Shared → Prop),
    Cx K n nm sl P env A s.heap ρ → f ρ = some b → (∀ h' tk, Ext s.heap h' → Q b { s with heap := h', toks := tk }) →
    wpAny (model prog w) A (forIn ifs true fun c r => if r = true then do let ok ← isTrue c env (eval c env); pure (ForInStep.yield ok) else pure (ForInStep.yield r)) Q E s
theorem denIf_nil : DenIf prog w K n nm sl [] (fun _ => some true) := by
  intro env A s ρ b P Q E c hf h
  cases hf
  rw [List.forIn_nil]
  exact wpAny_pure (h s.heap s.toks .refl)
theorem denIf_one {e : Expr} {f : List D → Option Bool} (h1 : DenT prog w K n nm sl e f) : DenIf prog w K n nm sl [e] f := by
  intro env A s ρ b P Q E c hf h
  rw [List.forIn_cons]
  simp only [if_true]
  refine wpAny_bind (wpAny_bind (h1 env A s ρ b P _ _ c hf fun h' tk e1 => wpAny_pure ?_))
  show wpAny _ _ (forIn [] b _) _ _ _
  rw [List.forIn_nil]
  exact wpAny_pure (h _ _ e1)

/-- what a comprehension makes -/
noncomputable def compD (ft : List D → Option Bool) (fe : List D → Option D) (ρ : List D) : List D → Option (List D)
  | [] => some []
  | d :: r => (ft (d :: ρ)).bind fun b => if b then (fe (d :: ρ)).bind fun y => (compD ft fe ρ r).map (y :: ·) else compD ft fe ρ r
theorem compD_len {ft : List D → Option Bool} {fe : List D → Option D} {ρ : List D} : ∀ {ds out : List D}, compD ft fe ρ ds = some out → out.length ≤ ds.length
  | [], _, h => by cases h; exact Nat.le_refl _
  | d :: r, out, h => by
    replace h := bb1 h
    obtain ⟨b, _, h⟩ := h
    split at h
    · simp only [Option.bind_eq_some_iff, Option.map_eq_some_iff] at h
      refine byC fun G0 => ?_
      obtain ⟨y, _, o, ho, rfl⟩ := h
      refine G0 ?_
      clear G0
      have := compD_len ho
      exact Nat.succ_le_succ this
    · have := compD_len h
      exact Nat.le_succ_of_le this

inductive CompIv (s : Shared) (N : Nat) (St : Nat → Heap → Prop) (Dd : Addr) (P : Addr → Prop) (out : List D) (Sc Kb : Heap → Prop) (Cp : Nat → List D → Prop) (k : Nat) (s' : Shared) : Prop
  | mk (i : Nat) (hp : Heap) (tk : Nat) (ys : Array Value) (dn rs : List D) (e : s' = { s with heap := hp, toks := tk }) (st : St i hp) (hi : i ≤ N) (hk : k = N + 1 - i) (hl : hp.PlainList Dd ys) (hdn : HasAll P hp dn ys.toList) (hrs : Cp i rs) (hcat : dn ++ rs = out) (S' : Sc hp) (kb : Kb hp) (hdl : dn.length ≤ i)
theorem comp_loop {elt iter : Expr} {ifs : List Expr} {scope : Scope} {pos px : Pos} {x : Str} {cenv : Env} {A : Around} {s : Shared} {ρ ds out : List D} {fp wr : List Addr} {I Dd : Addr} {Pv : Nat → Value → Prop} {St : Nat → Heap → Prop} {P : Addr → Prop} {base : Heap}
    {R : Result → Shared → Prop} {ft : List D → Option Bool} {fe : List D → Option D}
    (ht : DenIf prog w K n nm (some x :: sl) ifs ft) (he : Den prog w K n nm (some x :: sl) elt fe)
    (eo : EnvOk nm cenv) (hr : Room n A) (gd : Gd K base) (eb : Ext base s.heap)
    (W : Walks prog w A I fp wr ds.length Pv St) (hst : St 0 s.heap) (hwr : ∀ i h, St i h → ∀ b ∈ wr, ∃ o, h.get? b = some o)
    (S : Sto cenv s.heap) (kx : nm.lookup x = some .local ∨ nm.lookup x = some .cell) (hxs : ∀ (j : Nat) (y : Str), sl[j]? = some (some y) → y ≠ x ∧ (nm.lookup y = some .cell ∨ nm.lookup y = some .free))
    (hacc : s.heap.PlainList Dd #[]) (Bad : Addr → Prop) (bad : ∀ a, Bad a ↔ (a = cenv.locals ∨ cenv.cells.lookup x = some a) ∨ a = Dd ∨ a ∈ wr)
    (hbase : ∀ a, Bad a → base.get? a = none) (hfp : ∀ b ∈ fp, ¬ (b = cenv.locals ∨ cenv.cells.lookup x = some b) ∧ b ≠ Dd) (hD : ¬ Mu cenv Dd) (hwm : ∀ a, Mu cenv a → a ∉ wr)
    (hP : ∀ a, P a → ¬ Bad a) (hfr : ∀ a, s.heap.get? a = none → P a) (rel : Rel P cenv s.heap sl ρ)
    (items : ∀ (i : Nat) (d : D) (v : Value), ds[i]? = some d → Pv i v → Has P s.heap d v)
    (hout : compD ft fe ρ ds = some out) (hlen : ds.length ≤ 1000000)
    (h : ∀ h' tk ys, KeepBut Bad s.heap h' → Sto cenv h' → h'.PlainList Dd ys → HasAll P h' out ys.toList → R (.ok .next) { s with heap := h', toks := tk }) :
    codeAny (model prog w) A (.compLoop (.ListComp elt [⟨.Name x px, iter, ifs, 0⟩] scope pos) 0 (.ref I) (.ref Dd) cenv) R s := by
  have hDf : Dd ∉ fp := fun q => (hfp _ q).2 rfl
  have hDw : Dd ∉ wr := fun q => hDf (W.sub _ q)
  have kx' : cenv.kindOf x = some .local ∨ (cenv.kindOf x = some .cell ∧ ∃ c, cenv.cells.lookup x = some c) := by
    rcases kx with k | k
    · exact .inl ((eo.kindOf x).trans k)
    · exact .inr ⟨(eo.kindOf x).trans k, eo.cells x (.inl k)⟩
  refine codeAny_compLoop_tests
    (CompIv s ds.length St Dd P out (Sto cenv) (KeepBut Bad s.heap) fun i rs => compD ft fe ρ (ds.drop i) = some rs) ?_ (ds.length + 1)
    ⟨0, s.heap, s.toks, #[], [], out, rfl, hst, Nat.zero_le _, rfl, hacc, rfl, hout, rfl, S, .refl, Nat.le_refl _⟩
  rintro k s' ⟨i, hp, tk, ys, dn, rs, rfl, hst', hi, rfl, hl, hdn, hrs, hcat, S', kb, hdl⟩
  by_cases hlt : i < ds.length
  · obtain ⟨d, hd⟩ : ∃ d, ds[i]? = some d := ⟨ds[i], by simp [hlt]⟩
    refine W.item i _ _ _ hlt hst' fun v h1 tk1 hv hst1 k1 => ?_
    have kb1 : KeepBut Bad hp h1 := fun b o nb e => k1 b o (fun q => nb ((bad b).mpr (.inr (.inr q)))) e
    have S1 : Sto cenv h1 := S'.keep (B := fun a => a ∈ wr) (fun b o nb e => k1 b o nb e) fun a m q => hwm a m q
    refine wpAny_assign_Name (sto_store eo.kind S1 kx' fun h2 tk2 a S2 ha hs2 rx ry => ?_)
    have kb2 : KeepBut Bad h1 h2 := .of_same hs2 ((bad a).mpr (.inl ha))
    have kba : KeepBut Bad s.heap h2 := (kb.trans kb1).trans kb2
    have hst2 : St (i + 1) h2 := W.frame _ _ _ hst1 fun b hb o e => (hs2.2 b fun q => (hfp b hb).1 (q ▸ ha)).trans e
    have hl2 : h2.PlainList Dd ys := (hl.at fun o e => k1 _ o hDw e).at fun o e => (hs2.2 _ fun q => hD (by rw [q]; exact ha.imp id fun z => ⟨x, z⟩)).trans e
    have hv2 : Has P h2 d v := (items i d v hd hv).keep kba hP
    have c2 : Cx K n nm (some x :: sl) P cenv A h2 (d :: ρ) := by
      refine ⟨eo, hr, gd.ext fun b o e => kba b o (fun q => by rw [hbase b q] at e; cases e) (eb b o e), ?_, ?_, S2.cell⟩
      · intro j y d' hj hd'
        cases j with
        | zero =>
          simp at hj hd'
          subst hj; subst hd'
          exact .inr ⟨v, rx, hv2⟩
        | succ j =>
          simp at hj hd'
          refine (rel j y d' hj hd').imp id fun ⟨u, ru, hu⟩ => ⟨u, ?_, hu.keep kba hP⟩
          have hne := (hxs j y hj).1
          refine ry y u hne ?_
          rcases ru with ⟨ky, m, hn, hm⟩ | ⟨ky, c', o, hc', ho, hdd⟩
          · exfalso
            rw [eo.kindOf y] at ky
            rcases (hxs j y hj).2 with q | q <;> rw [q] at ky <;> cases ky
          · refine .inr ⟨ky, c', o, hc', ?_, hdd⟩
            have nb : ¬ Bad c' := fun q => by
              rcases (bad c').mp q with (q | q) | q | q
              · exact S.off y c' hc' q
              · exact hne (S.apart y x c' hc' q)
              · exact hD (.inr ⟨y, q ▸ hc'⟩)
              · exact hwm c' (.inr ⟨y, hc'⟩) q
            exact kb1 c' o nb (kb c' o nb ho)
      · intro a ha0
        have : s.heap.get? a = none := by
          cases q : s.heap.get? a with
          | none => rfl
          | some o =>
            by_cases hb : Bad a
            · exfalso
              rcases (bad a).mp hb with hb | hb | hb
              · obtain ⟨o', ho'⟩ := S2.mu (a := a) (hb.imp id fun z => ⟨x, z⟩); rw [ho'] at ha0; cases ha0
              · obtain ⟨k', ho'⟩ := hl2; rw [hb, ho'] at ha0; cases ha0
              · obtain ⟨o', ho'⟩ := hwr _ _ hst2 a hb; rw [ho'] at ha0; cases ha0
            · rw [kba a o hb q] at ha0; cases ha0
        exact hfr a this
    have hdrop : ds.drop i = d :: ds.drop (i + 1) := by
      rw [List.drop_eq_getElem_cons hlt]
      simp [hlt] at hd
      rw [hd]
    replace hrs : compD ft fe ρ (ds.drop i) = some rs := hrs
    rw [hdrop] at hrs
    replace hrs := bb1 hrs
    obtain ⟨b, hb, hrs⟩ := hrs
    refine ht cenv A _ (d :: ρ) b P _ _ c2 hb fun h3 tk3 e3 => ?_
    have hst3 : St (i + 1) h3 := W.frame _ _ _ hst2 fun b _ o e => e3 b o e
    have hl3 : h3.PlainList Dd ys := hl2.at fun o e => e3 _ o e
    have hdn3 : HasAll P h3 dn ys.toList := ((hdn.keep (kb1.trans kb2) hP)).ext e3
    cases b with
    | false =>
      simp only [Bool.false_eq_true, if_false] at hrs ⊢
      exact ⟨ds.length + 1 - (i + 1), Nat.sub_lt_sub_left (Nat.lt_succ_of_lt hlt) (Nat.lt_succ_self i), i + 1, h3, tk3, ys, dn, rs, rfl, hst3, hlt, rfl, hl3, hdn3, hrs, hcat, S2.ext e3, kba.trans (.of_ext e3), Nat.le_succ_of_le hdl⟩
    | true =>
      simp only [if_true] at hrs ⊢
      simp only [Option.bind_eq_some_iff, Option.map_eq_some_iff] at hrs
      refine byC fun G1 => ?_
      obtain ⟨y, hy, rs', hrs', rfl⟩ := hrs
      refine G1 ?_
      clear G1
      refine he cenv A _ (d :: ρ) y P _ _ (c2.ext e3) hy fun vy h4 tk4 e4 hvy => ?_
      have hl4 : h4.PlainList Dd ys := hl3.at fun o e => e4 _ o e
      refine wpAny_list_append_plain (s := { s with heap := h4, toks := tk4 }) hl4 (fun h5 hl5 hs5 => ?_) ?_
      · have kb5 : KeepBut Bad h4 h5 := .of_same hs5 ((bad _).mpr (.inr (.inl rfl)))
        have S5 : Sto cenv h5 := ((S2.ext e3).ext e4).keep (B := fun a => a = Dd) (.of_same hs5 rfl) fun a m q => hD (q ▸ m)
        have hst5 : St (i + 1) h5 := W.frame _ _ _ (W.frame _ _ _ hst3 fun b _ o e => e4 b o e) fun b hb o e => (hs5.2 b fun q => (hfp b hb).2 q).trans e
        have hall : HasAll P h5 (dn ++ [y]) (ys.push vy).toList := by
          rw [Array.toList_push]
          exact ((hdn3.ext e4).keep kb5 hP).append (.one (hvy.keep kb5 hP))
        exact ⟨ds.length + 1 - (i + 1), Nat.sub_lt_sub_left (Nat.lt_succ_of_lt hlt) (Nat.lt_succ_self i), i + 1, h5, tk4, ys.push vy, dn ++ [y], rs', rfl, hst5, hlt, rfl, hl5, hall, hrs', by rw [← hcat]; simp, S5, ((kba.trans (.of_ext e3)).trans (.of_ext e4)).trans kb5, by simp; omega⟩
      · have h1 := hdn.length
        have h2 : ys.toList.length = ys.size := Array.length_toList
        rw [sizeLine_eq]
        omega
  · have hin : i = ds.length := Nat.le_antisymm hi (Nat.not_lt.mp hlt)
    subst hin
    refine W.done _ _ _ hst' fun h1 tk1 k1 => ?_
    have kb1 : KeepBut Bad hp h1 := fun b o nb e => k1 b o (fun q => nb ((bad b).mpr (.inr (.inr q)))) e
    have : compD ft fe ρ (ds.drop ds.length) = some [] := by simp [compD]
    rw [this] at hrs
    cases hrs
    refine h h1 tk1 ys (kb.trans kb1) (S'.keep (B := fun a => a ∈ wr) (fun b o nb e => k1 b o nb e) fun a m q => hwm a m q) (hl.at fun o e => k1 _ o hDw e) ?_
    rw [← hcat, List.append_nil]
    exact hdn.keep kb1 hP
end
end Mine
end
section
open PySem PySem.W PyProof.Rows PySem.Calls
set_option Elab.async false
set_option maxRecDepth 100000
namespace Mine

theorem closure_ok {scope : Scope} {env : Env} (h : ∀ y, (y, NameKind.free) ∈ scope.names → ∃ c, env.cells.lookup y = some c) :
    ∃ cl, closureFor scope env = pure cl ∧ (∀ y c, cl.lookup y = some c → env.cells.lookup y = some c ∧ (y, NameKind.free) ∈ scope.names) ∧ ∀ y, (y, NameKind.free) ∈ scope.names → ∃ c, cl.lookup y = some c := by
  unfold closureFor
  have key : ∀ (l : List (Str × NameKind)) (acc : List (Str × Addr)), (∀ p ∈ l, p ∈ scope.names) → (∀ y, (y, NameKind.free) ∈ l → ∃ c, env.cells.lookup y = some c) → (∀ y c, acc.lookup y = some c → env.cells.lookup y = some c ∧ (y, NameKind.free) ∈ scope.names) →
      ∃ cl, (forIn l acc (fun x r => (if x.2 == NameKind.free then (do let a ← cellOf env x.1; pure (ForInStep.yield ((x.1, a) :: r))) else pure (ForInStep.yield r) : Sem (ForInStep (List (Str × Addr)))))) = pure cl ∧
        (∀ y c, cl.lookup y = some c → env.cells.lookup y = some c ∧ (y, NameKind.free) ∈ scope.names) ∧ (∀ y, (y, NameKind.free) ∈ l → ∃ c, cl.lookup y = some c) ∧ ∀ y c, acc.lookup y = some c → ∃ c, cl.lookup y = some c := by
    intro l
    induction l with
    | nil => intro acc _ _ h2; exact ⟨acc, rfl, h2, fun y hy => (nomatch hy), fun y c hc => ⟨c, hc⟩⟩
    | cons p r ih =>
      intro acc h0 h1 h2
      obtain ⟨nme, kd⟩ := p
      rw [List.forIn_cons]
      by_cases hk : kd = .free
      · subst hk
        obtain ⟨c, hc⟩ := h1 nme (.head _)
        have : cellOf env nme = pure c := by unfold cellOf; rw [hc]
        simp only [beq_self_eq_true, if_true, this, pure_bind]
        obtain ⟨cl, e1, e2, e3, e4⟩ := ih ((nme, c) :: acc) (fun p hp => h0 p (.tail _ hp)) (fun y hy => h1 y (.tail _ hy)) (fun y c' hy => by
          rw [List.lookup_cons] at hy
          cases hb : y == nme with
          | true => rw [hb] at hy; cases hy; rw [beq_iff_eq.mp hb]; exact ⟨hc, h0 _ (.head _)⟩
          | false => rw [hb] at hy; exact h2 y c' hy)
        refine ⟨cl, e1, e2, fun y hy => ?_, fun y c' hy => ?_⟩
        · rcases List.mem_cons.mp hy with q | q
          · cases q; exact e4 nme c (by simp [List.lookup_cons])
          · exact e3 y q
        · cases hb : y == nme with
          | true => exact e4 y c (by rw [List.lookup_cons, hb])
          | false => exact e4 y c' (by rw [List.lookup_cons, hb]; exact hy)
      · have hk' : (kd == NameKind.free) = false := by simpa using hk
        simp only [hk', Bool.false_eq_true, if_false, pure_bind]
        refine byC fun G0 => ?_
        obtain ⟨cl, e1, e2, e3, e4⟩ := ih acc (fun p hp => h0 p (.tail _ hp)) (fun y hy => h1 y (.tail _ hy)) h2
        refine G0 ?_
        clear G0
        refine ⟨cl, e1, e2, fun y hy => ?_, e4⟩
        rcases List.mem_cons.mp hy with q | q
        · cases q; exact absurd rfl hk
        · exact e3 y q
  refine byC fun G1 => ?_
  obtain ⟨cl, e1, e2, e3, _⟩ := key scope.names [] (fun _ hp => hp) h (fun y c hc => by simp at hc)
  refine G1 ?_
  clear G1
  refine ⟨cl, ?_, e2, e3⟩
  rw [← e1]
  show (forIn scope.names [] _ >>= fun cs => pure cs) = _
  rw [bind_pure]

theorem newEnvC {M : Model} {A : Around} {E : Value → Shared → Prop} {s : Shared} {scope : Scope} {cl : List (Str × Addr)} {env : Env} {Q : Env → Shared → Prop}
    (hQ : Q (newEnv scope s.heap.objs.size env.globals (cellsFrom (s.heap.objs.size + 1) scope.names cl) env.qual none .none (some env) builtinsNs) { s with heap := pushCells (s.heap.push { cls := .type "dict", data := .dict #[] }) scope.names }) :
    wpAny M A (newFunctionEnv scope env.globals cl [] env.qual none .none (some env)) Q E s := by
  simp only [newFunctionEnv, Option.isSome_some, if_true]
  refine wpAny_bind (wpAny_alloc ?_)
  refine wpAny_bind (wpAny_layCells _ (fun name kind cells => by cases hkc : kind == NameKind.cell <;> simp [hkc]) _ _ _ _ ?_)
  rw [show ({ s with heap := s.heap.push { cls := .type "dict", data := .dict #[] } } : Shared).heap.objs.size = s.heap.objs.size + 1 from Heap.size_push ..]
  exact wpAny_bind (wpAny_pure (wpAny_pure hQ))

structure COk (h : Heap) (acc : List (Str × Addr)) : Prop where
  ex : ∀ y c, acc.lookup y = some c → ∃ v, h.IsCell c v
  ap : ∀ y y' c, acc.lookup y = some c → acc.lookup y' = some c → y = y'
theorem cok_push : ∀ (names : List (Str × NameKind)) (h : Heap) (acc : List (Str × Addr)), COk h acc → COk (pushCells h names) (cellsFrom h.objs.size names acc)
  | [], _, _, x => x
  | (nme, kind) :: r, h, acc, x => by
    unfold pushCells cellsFrom
    split
    · have := cok_push r (h.push { cls := .type "cell", data := .cell none }) ((nme, h.objs.size) :: acc) ⟨fun y c hc => ?_, fun y y' c hc hc' => ?_⟩
      · rwa [Heap.size_push] at this
      · rw [List.lookup_cons] at hc
        cases hb : y == nme with
        | true => rw [hb] at hc; cases hc; exact ⟨_, _, Heap.get?_push_size _ rfl, rfl⟩
        | false => rw [hb] at hc; obtain ⟨v, hv⟩ := x.ex y c hc; exact ⟨v, hv.keeps fun b o e => Heap.get?_push_of_some _ e⟩
      · rw [List.lookup_cons] at hc hc'
        cases hb : y == nme with
        | true =>
          rw [hb] at hc; cases hc
          cases hb' : y' == nme with
          | true => rw [beq_iff_eq.mp hb, beq_iff_eq.mp hb']
          | false => rw [hb'] at hc'; obtain ⟨v, hv⟩ := x.ex y' _ hc'; exact absurd hv.lt (Nat.lt_irrefl _)
        | false =>
          rw [hb] at hc
          cases hb' : y' == nme with
          | true => rw [hb'] at hc'; cases hc'; obtain ⟨v, hv⟩ := x.ex y _ hc; exact absurd hv.lt (Nat.lt_irrefl _)
          | false => rw [hb'] at hc'; exact x.ap y y' c hc hc'
    · exact cok_push r h acc x
theorem cells_other : ∀ (names : List (Str × NameKind)) (k : Nat) (acc : List (Str × Addr)) (y : Str), (y, NameKind.cell) ∉ names → (cellsFrom k names acc).lookup y = acc.lookup y
  | [], _, _, _, _ => rfl
  | (nme, kind) :: r, k, acc, y, hy => by
    unfold cellsFrom
    have hr : (y, NameKind.cell) ∉ r := fun q => hy (.tail _ q)
    split
    · rename_i hk
      rw [cells_other r _ _ y hr, List.lookup_cons]
      cases hb : y == nme with
      | true => exact absurd (by rw [beq_iff_eq.mp hb, beq_iff_eq.mp hk]; exact .head _) hy
      | false => rfl
    · exact cells_other r _ _ y hr
theorem cells_some : ∀ (names : List (Str × NameKind)) (k : Nat) (acc : List (Str × Addr)) (y : Str), ((y, NameKind.cell) ∈ names ∨ ∃ c, acc.lookup y = some c) → ∃ c, (cellsFrom k names acc).lookup y = some c
  | [], _, _, _, h => by rcases h with h | h; exact nomatch h; exact h
  | (nme, kind) :: r, k, acc, y, h => by
    unfold cellsFrom
    split
    · rename_i hk
      refine cells_some r _ _ y ?_
      by_cases hb : (y == nme) = true
      · exact .inr ⟨k, by rw [List.lookup_cons, hb]⟩
      · rcases h with h | ⟨c, h⟩
        · rcases List.mem_cons.mp h with q | q
          · cases q; simp at hb
          · exact .inl q
        · exact .inr ⟨c, by rw [List.lookup_cons, show (y == nme) = false by simpa using hb]; exact h⟩
    · rename_i hk
      refine cells_some r _ _ y ?_
      rcases h with h | h
      · rcases List.mem_cons.mp h with q | q
        · cases q; simp at hk
        · exact .inl q
      · exact .inr h
theorem cells_new : ∀ (names : List (Str × NameKind)) (h : Heap) (acc : List (Str × Addr)) (y : Str) (c : Addr), (cellsFrom h.objs.size names acc).lookup y = some c → acc.lookup y = some c ∨ h.get? c = none
  | [], _, _, _, _, e => .inl e
  | (nme, kind) :: r, h, acc, y, c, e => by
    unfold cellsFrom at e
    split at e
    · have := cells_new r (h.push { cls := .type "cell", data := .cell none }) ((nme, h.objs.size) :: acc) y c (by rw [Heap.size_push]; exact e)
      rcases this with q | q
      · rw [List.lookup_cons] at q
        cases hb : y == nme with
        | true => rw [hb] at q; cases q; exact .inr (size_none h)
        | false => rw [hb] at q; exact .inl q
      · exact .inr (none_of_ext (.push _) q)
    · exact cells_new r h acc y c e

/-- the comprehension's own table of names -/
noncomputable def relab (nm names : List (Str × NameKind)) : List (Str × NameKind) := names.map fun p => if (p.2 == .free && nm.lookup p.1 == some .cell) then (p.1, .cell) else p
theorem relab_lookup (nm : List (Str × NameKind)) : ∀ (names : List (Str × NameKind)) (x : Str), (relab nm names).lookup x = (names.lookup x).map fun k => if (k == .free && nm.lookup x == some .cell) then .cell else k
  | [], _ => rfl
  | (a, k) :: r, x => by
    have ih := relab_lookup nm r x
    unfold relab at ih ⊢
    rw [List.map_cons, List.lookup_cons]
    by_cases hb : x = a
    · subst hb
      by_cases hc : (k == NameKind.free && nm.lookup x == some NameKind.cell) = true
      · simp only [hc, if_true, List.lookup_cons, beq_self_eq_true, Option.map_some]
      · simp only [hc, if_false, List.lookup_cons, beq_self_eq_true, Option.map_some]
        simp [hc]
    · have hb' : (x == a) = false := by simpa using hb
      simp only [hb']
      by_cases hc : (k == NameKind.free && nm.lookup a == some NameKind.cell) = true
      · simp only [hc, if_true, List.lookup_cons, hb', ih]
      · simp only [hc, if_false, List.lookup_cons, hb', ih, Bool.false_eq_true]
/-- what of the outer slots it sees -/
noncomputable def capt (names : List (Str × NameKind)) (sl : List (Option Str)) : List (Option Str) := sl.map fun o => o.bind fun y => if names.lookup y == some .free then some y else none
theorem capt_get {names : List (Str × NameKind)} {sl : List (Option Str)} {j : Nat} {y : Str} (h : (capt names sl)[j]? = some (some y)) : sl[j]? = some (some y) ∧ names.lookup y = some .free := by
  unfold capt at h
  rw [List.getElem?_map] at h
  refine byC fun G2 => ?_
  obtain ⟨o, ho, hy⟩ := Option.map_eq_some_iff.mp h
  refine G2 ?_
  clear G2
  cases o with
  | none => cases hy
  | some z =>
    simp only [Option.bind_some] at hy
    split at hy
    · rename_i hz
      cases hy
      exact ⟨ho, beq_iff_eq.mp hz⟩
    · cases hy

/-- what is asked of the comprehension's table -/
structure CompOk (nm : List (Str × NameKind)) (scope : Scope) (x : Str) : Prop where
  kind : scope.kind = .function
  nodup : (scope.names.map (·.1)).Nodup
  free : ∀ p ∈ scope.names, p.2 = .free → nm.lookup p.1 = some .cell ∨ nm.lookup p.1 = some .free
  target : scope.names.lookup x = some .local ∨ scope.names.lookup x = some .cell
theorem lookup_nodup : ∀ {l : List (Str × NameKind)} {p : Str × NameKind}, (l.map (·.1)).Nodup → p ∈ l → l.lookup p.1 = some p.2
  | (a, k) :: r, p, hn, hp => by
    rw [List.map_cons, List.nodup_cons] at hn
    rw [List.lookup_cons]
    rcases List.mem_cons.mp hp with rfl | hp
    · simp
    · have : (p.1 == a) = false := by
        simp only [beq_eq_false_iff_ne, ne_eq]
        intro q
        exact hn.1 (List.mem_map.mpr ⟨p, hp, q⟩)
      rw [this]
      exact lookup_nodup hn.2 hp
theorem mem_of_lookup' : ∀ {l : List (Str × NameKind)} {x : Str} {k : NameKind}, l.lookup x = some k → (x, k) ∈ l
  | (a, k') :: r, x, k, h => by
    rw [List.lookup_cons] at h
    cases hb : x == a with
    | true => rw [hb] at h; cases h; rw [beq_iff_eq.mp hb]; exact .head _
    | false => rw [hb] at h; exact .tail _ (mem_of_lookup' h)

section
variable {prog : Program} {w : World} {K : Frag} {n : Nat} {nm : List (Str × NameKind)} {sl : List (Option Str)}

theorem comp_core {elt iter : Expr} {ifs : List Expr} {scope : Scope} {pos px pos' : Pos} {x : Str} {env : Env} {A : Around} {s : Shared} {ρ ds out : List D} {P : Addr → Prop} {use : Option (Value → Sem Unit)} {Q E : Value → Shared → Prop}
    {fi : List D → Option (List D)} {ft : List D → Option Bool} {fe : List D → Option D}
    (hi : DenI prog w K n nm sl iter fi) (ht : DenIf prog w K n (relab nm scope.names) (some x :: capt scope.names sl) ifs ft) (he : Den prog w K n (relab nm scope.names) (some x :: capt scope.names sl) elt fe)
    (ok : CompOk nm scope x) (hs : ∀ v, foldedSetIterable iter env v = pure v)
    (c : Cx K n nm sl P env A s.heap ρ) (hfi : fi ρ = some ds) (hout : compD ft fe ρ ds = some out) (hlen : ds.length ≤ 1000000)
    (h : ∀ Dd L h' tk ys m, Ext s.heap h' → s.heap.get? L = none → h'.Ns L m → L ≠ Dd → s.heap.get? Dd = none → h'.PlainList Dd ys → HasAll (fun a => P a ∧ a ≠ L ∧ a ≠ Dd) h' out ys.toList →
      compPost (model prog w) A E use Q (.ref Dd) L (.ok .next) { s with heap := h', toks := tk }) :
    wpAny (model prog w) A (comprehension (.ListComp elt [⟨.Name x px, iter, ifs, 0⟩] scope pos) scope env pos' (newList []) false (eval iter env) use) Q E s := by
  have hfree : ∀ y, (y, NameKind.free) ∈ scope.names → ∃ c, env.cells.lookup y = some c := fun y hy => c.eok.cells y (ok.free _ hy rfl)
  refine byC fun G3 => ?_
  obtain ⟨cl, hcl, hcl1, hcl2⟩ := closure_ok hfree
  refine G3 ?_
  clear G3
  have hnames : ∀ z ∈ scope.names, z.2 = .local → scope.names.lookup z.1 = some .local := fun z hz hl => by rw [lookup_nodup ok.nodup hz, hl]
  refine wpAny_comprehension_free (g := ⟨.Name x px, iter, ifs, 0⟩) (gs := []) rfl hs hcl ok.kind hnames ?_
  refine hi env A s ρ ds P _ _ c hfi fun I h1 tk1 fp wr Pv St e1 W hst hfp hwr hwx _ hit => ?_
  refine wpAny_newObj_type (newEnvC ?_)
  -- the places
  have eD : ({ s with heap := h1, toks := tk1 } : Shared).heap.objs.size = h1.objs.size := rfl
  dsimp only
  generalize hH2 : h1.push { cls := .type "list", dict := none, data := .seq ([] : List Value).toArray } = H2
  have hL : H2.objs.size = h1.objs.size + 1 := by rw [← hH2, Heap.size_push]
  generalize hH3 : pushCells (H2.push { cls := .type "dict", data := .dict #[] }) scope.names = H3
  generalize hcells : cellsFrom (H2.objs.size + 1) scope.names cl = cells
  have e12 : Ext h1 H2 := hH2 ▸ Ext.push _
  have e23 : Ext H2 H3 := fun b o e => hH3 ▸ pushCells_keeps _ _ b o (Heap.get?_push_of_some _ e)
  have e23' : Ext (H2.push { cls := .type "dict", data := .dict #[] }) H3 := fun b o e => hH3 ▸ pushCells_keeps _ _ b o e
  have e13 : Ext h1 H3 := e12.trans e23
  have es3 : Ext s.heap H3 := e1.trans e13
  have sz : (H2.push { cls := .type "dict", data := .dict #[] }).objs.size = H2.objs.size + 1 := Heap.size_push ..
  have hD1 : h1.get? h1.objs.size = none := size_none _
  have hL2 : H2.get? H2.objs.size = none := size_none _
  have hD3 : H3.get? h1.objs.size = some { cls := .type "list", dict := none, data := .seq ([] : List Value).toArray } := e23 _ _ (hH2 ▸ Heap.get?_push_size _ rfl)
  have hn3 : H3.Ns H2.objs.size (fun _ => none) := (Heap.Ns.new H2 (.type "dict")).keeps e23'
  have clok : COk (H2.push { cls := .type "dict", data := .dict #[] }) cl := by
    refine ⟨fun y a hy => ?_, fun y y' a hy hy' => c.eok.apart y y' a (hcl1 y a hy).1 (hcl1 y' a hy').1⟩
    obtain ⟨v, hv⟩ := c.cl y a (hcl1 y a hy).1
    exact ⟨v, hv.keeps ((e1.trans e12).trans (.push _))⟩
  have cok : COk H3 cells := by
    have := cok_push scope.names _ cl clok
    rw [sz, hH3, hcells] at this
    exact this
  have cnew : ∀ y a, cells.lookup y = some a → cl.lookup y = some a ∨ (H2.push { cls := .type "dict", data := .dict #[] }).get? a = none := fun y a hy => by
    have := cells_new scope.names (H2.push { cls := .type "dict", data := .dict #[] }) cl y a (by rw [sz, hcells]; exact hy)
    exact this
  have old_ne : ∀ a o, s.heap.get? a = some o → a ≠ h1.objs.size ∧ a ≠ H2.objs.size := fun a o ho =>
    ⟨fun q => (by rw [q] at ho; rw [e1 _ _ ho] at hD1; cases hD1), fun q => (by rw [q] at ho; rw [(e1.trans e12) _ _ ho] at hL2; cases hL2)⟩
  have coff : ∀ y a, cells.lookup y = some a → a ≠ h1.objs.size ∧ a ≠ H2.objs.size := fun y a hy => by
    rcases cnew y a hy with q | q
    · obtain ⟨v, o, ho, _⟩ := c.cl y a (hcl1 y a q).1
      exact old_ne a o ho
    · constructor
      · intro z
        rw [z] at q
        have := (hH2 ▸ Heap.get?_push_size _ rfl : H2.get? h1.objs.size = some { cls := .type "list", dict := none, data := .seq ([] : List Value).toArray })
        rw [Heap.get?_push_of_some _ this] at q; cases q
      · intro z
        rw [z] at q
        rw [Heap.get?_push_size _ rfl] at q; cases q
  generalize hce : ({ newEnv scope H2.objs.size env.globals cells env.qual none .none (some env) builtinsNs with scope := relabel scope env } : Env) = cenv
  have ce_l : cenv.locals = H2.objs.size := by rw [← hce]; rfl
  have ce_c : cenv.cells = cells := by rw [← hce]; rfl
  have hrl : (relabel scope env).names = relab nm scope.names := by
    unfold relabel relab
    simp only
    apply List.map_congr_left
    intro p _
    obtain ⟨a, k⟩ := p
    simp only [c.eok.kind, c.eok.kindOf, beq_self_eq_true, Bool.and_true]
  have eo : EnvOk (relab nm scope.names) cenv := by
    refine ⟨by rw [← hce]; exact ok.kind, by rw [← hce]; exact hrl, by rw [← hce]; exact c.eok.glob, by rw [← hce]; exact c.eok.blt, fun y hy => ?_, fun y y' a => by rw [ce_c]; exact cok.ap y y' a⟩
    rw [ce_c, ← hcells]
    refine cells_some scope.names _ cl y ?_
    rw [relab_lookup] at hy
    cases hk : scope.names.lookup y with
    | none => rw [hk] at hy; simp at hy
    | some k =>
      rw [hk] at hy
      simp only [Option.map_some, Option.some.injEq] at hy
      cases k with
      | cell => exact .inl (mem_of_lookup' hk)
      | free => exact .inr (hcl2 y (mem_of_lookup' hk))
      | «local» => simp at hy
      | globalExplicit => simp at hy
      | globalImplicit => simp at hy
  have S : Sto cenv H3 := by
    refine ⟨⟨_, by rw [ce_l]; exact hn3⟩, fun y a hy => by rw [ce_c] at hy; exact cok.ex y a hy, fun y y' a hy hy' => by rw [ce_c] at hy hy'; exact cok.ap y y' a hy hy', fun y a hy => by rw [ce_c] at hy; rw [ce_l]; exact (coff y a hy).2⟩
  have hxl : (relab nm scope.names).lookup x = some .local ∨ (relab nm scope.names).lookup x = some .cell := by
    rw [relab_lookup]
    rcases ok.target with q | q <;> rw [q] <;> simp
  -- the target's cell is new
  have xnew : ∀ a, cenv.cells.lookup x = some a → (H2.push { cls := .type "dict", data := .dict #[] }).get? a = none := fun a ha => by
    rw [ce_c] at ha
    rcases cnew x a ha with q | q
    · exfalso
      have := lookup_nodup ok.nodup (hcl1 x a q).2
      rcases ok.target with z | z <;> rw [z] at this <;> cases this
    · exact q
  have loop : ∀ s' : Shared, s' = { s with heap := H3, toks := tk1 } → codeAny (model prog w) A (.compLoop (.ListComp elt [⟨.Name x px, iter, ifs, 0⟩] scope pos) 0 (.ref I) (.ref h1.objs.size) cenv) (compPost (model prog w) A E use Q (.ref h1.objs.size) H2.objs.size) s' := by
    rintro s' rfl
    refine comp_loop (P := fun a => (P a ∧ a ≠ H2.objs.size ∧ a ≠ h1.objs.size) ∧ a ∉ wr ∧ cenv.cells.lookup x ≠ some a) (base := s.heap) ht he eo c.room c.gd es3 (W A c.room.handled) ((W A c.room.handled).frame _ _ _ hst fun b _ o e => e13 b o e) hwx S hxl ?_ ⟨0, hD3⟩
      (fun a => (a = cenv.locals ∨ cenv.cells.lookup x = some a) ∨ a = h1.objs.size ∨ a ∈ wr) (fun a => Iff.rfl) ?_ ?_ ?_ ?_ ?_ ?_ ?_ ?_ hout hlen ?_
    · intro j y hj
      obtain ⟨_, hk⟩ := capt_get hj
      refine ⟨fun q => ?_, ?_⟩
      · rw [q] at hk; rcases ok.target with z | z <;> rw [z] at hk <;> cases hk
      · rw [relab_lookup, hk]
        rcases ok.free _ (mem_of_lookup' hk) rfl with z | z
        · left; simp only [z]; simp
        · right; simp only [z]; simp
    · intro a ha
      rcases ha with (ha | ha) | ha | ha
      · rw [ha, ce_l]; exact none_of_ext (e1.trans e12) hL2
      · exact none_of_ext ((e1.trans e12).trans (.push _)) (xnew a ha)
      · rw [ha]; exact none_of_ext e1 hD1
      · exact hwr a ha
    · intro b hb
      obtain ⟨o, ho⟩ := hfp b hb
      refine ⟨fun q => ?_, fun q => ?_⟩
      · rcases q with q | q
        · rw [q, ce_l] at ho; rw [e12 _ _ ho] at hL2; cases hL2
        · exact noneS ((xnew b q).symm.trans ((e12.trans (.push _)) _ _ ho))
      · exact noneAt hD1 q ho
    · intro m
      rcases m with m | ⟨y, hy⟩
      · rw [ce_l, hL] at m; exact absurd m (Nat.ne_of_lt (Nat.lt_succ_self _))
      · rw [ce_c] at hy; exact (coff y _ hy).1 rfl
    · intro a m q
      obtain ⟨o, ho⟩ := hfp a ((W A c.room.handled).sub a q)
      rcases m with m | ⟨y, hy⟩
      · rw [m, ce_l] at ho; rw [e12 _ _ ho] at hL2; cases hL2
      · rw [ce_c] at hy
        rcases cnew y a hy with z | z
        · obtain ⟨v, o', ho', _⟩ := c.cl y a (hcl1 y a z).1
          rw [hwr a q] at ho'; cases ho'
        · rw [(e12.trans (.push _)) _ _ ho] at z; cases z
    · rintro a ⟨⟨_, h2, h3⟩, h4, h5⟩ q
      rcases q with (q | q) | q | q
      · exact h2 (q.trans ce_l)
      · exact h5 q
      · exact h3 q
      · exact h4 q
    · intro a ha
      refine ⟨⟨c.fresh a (none_of_ext es3 ha), fun q => ?_, fun q => ?_⟩, fun q => ?_, fun q => ?_⟩
      · obtain ⟨o, _, _, ho, _⟩ := hn3; rw [q, ho] at ha; cases ha
      · rw [q, hD3] at ha; cases ha
      · obtain ⟨o, ho⟩ := hfp a ((W A c.room.handled).sub a q); rw [e13 _ _ ho] at ha; cases ha
      · obtain ⟨v, o, ho, _⟩ := S.cell x a q; rw [ho] at ha; cases ha
    · intro j y d hj hd
      obtain ⟨hj', hk⟩ := capt_get hj
      refine (c.rel j y d hj' hd).imp id fun ⟨v, r, hv⟩ => ⟨v, ?_, ?_⟩
      · have hfr := mem_of_lookup' hk
        have hkn := ok.free _ hfr rfl
        rcases r with ⟨ky, _⟩ | ⟨ky, a, o, ha, ho, hd'⟩
        · exfalso; rw [c.eok.kindOf] at ky; rcases hkn with z | z <;> rw [z] at ky <;> cases ky
        · refine .inr ⟨?_, a, o, ?_, es3 _ _ ho, hd'⟩
          · rw [eo.kindOf, relab_lookup, hk]
            rcases hkn with z | z
            · left; simp only [z]; simp
            · right; simp only [z]; simp
          · have hnc : (y, NameKind.cell) ∉ scope.names := fun m => by have := lookup_nodup ok.nodup m; rw [hk] at this; cases this
            rw [ce_c, ← hcells, cells_other _ _ _ y hnc]
            obtain ⟨a', ha'⟩ := hcl2 y hfr
            have := (hcl1 y a' ha').1
            rw [ha] at this; cases this
            exact ha'
      · refine Has.mono (fun a o ho p => ⟨⟨⟨p, (old_ne a o ho).2, (old_ne a o ho).1⟩, fun q => ?_, fun q => ?_⟩, es3 a o ho⟩) _ _ hv
        · exact noneS ((hwr a q).symm.trans ho)
        · exact noneS ((xnew a q).symm.trans (((e1.trans e12).trans (.push _)) _ _ ho))
    · intro i d v hi' hv
      refine Has.mono (fun a o ho p => ⟨⟨⟨p.1, fun q => ?_, fun q => ?_⟩, p.2, fun q => ?_⟩, e13 a o ho⟩) _ _ (hit i d v hi' hv)
      · exact noneAt hL2 q (e12 _ _ ho)
      · exact noneAt hD1 q ho
      · exact noneS ((xnew a q).symm.trans ((e12.trans (.push _)) _ _ ho))
    · intro h' tk ys kb S' hl hall
      obtain ⟨m, hn⟩ := S'.ns
      rw [ce_l] at hn
      refine h h1.objs.size H2.objs.size h' tk ys m ?_ (none_of_ext (e1.trans e12) hL2) hn ?_ (none_of_ext e1 hD1) hl ?_
      · intro b o ho
        refine kb b o (fun q => ?_) (es3 b o ho)
        rcases q with (q | q) | q | q
        · exact (old_ne b o ho).2 (q.trans ce_l)
        · exact noneS ((xnew b q).symm.trans (((e1.trans e12).trans (.push _)) _ _ ho))
        · exact (old_ne b o ho).1 q
        · exact noneS ((hwr b q).symm.trans ho)
      · rw [hL]; exact Nat.ne_of_gt (Nat.lt_succ_self _)
      · exact HasAll.mono (fun a o ho p => ⟨p.1, ho⟩) _ _ hall
  exact codeAny_compStart_list (loop _ rfl) ((W A c.room.handled).self 0 _ _ _ ((W A c.room.handled).frame _ _ _ hst fun b _ o e => e13 b o e) (loop _ rfl))

theorem den_comp {elt iter : Expr} {ifs : List Expr} {scope : Scope} {pos px : Pos} {x : Str} {fi : List D → Option (List D)} {ft : List D → Option Bool} {fe : List D → Option D}
    (hi : DenI prog w K n nm sl iter fi) (ht : DenIf prog w K n (relab nm scope.names) (some x :: capt scope.names sl) ifs ft) (he : Den prog w K n (relab nm scope.names) (some x :: capt scope.names sl) elt fe)
    (ok : CompOk nm scope x) (hs : ∀ env v, foldedSetIterable iter env v = pure v) :
    Den prog w K n nm sl (.ListComp elt [⟨.Name x px, iter, ifs, 0⟩] scope pos) (fun ρ => (fi ρ).bind fun ds => if ds.length ≤ 1000000 then (compD ft fe ρ ds).map .list else none) := by
  intro env A s ρ d P Q E c hf h
  replace hf := bb1 hf
  refine byC fun G4 => ?_
  obtain ⟨ds, hds, hf⟩ := hf
  refine G4 ?_
  clear G4
  split at hf
  · rename_i hlen
    refine byC fun G5 => ?_
    obtain ⟨out, hout, rfl⟩ := Option.map_eq_some_iff.mp hf
    refine G5 ?_
    clear G5
    rw [eval_ListComp]
    refine comp_core (use := none) hi ht he ok (hs env) c hds hout hlen fun Dd L h' tk ys m e hL hn hne hD hl hall => ⟨m, hn, fun h'' hs'' => ?_⟩
    refine h _ h'' tk (fun b o ho => (hs''.2 b fun q => by rw [q, hL] at ho; cases ho).trans (e b o ho)) ⟨Dd, ys.toList, rfl, c.fresh _ hD, ?_, ?_⟩
    · exact (hl.at fun o ho => (hs''.2 _ (Ne.symm hne)).trans ho)
    · exact HasAll.mono (fun a o ho p => ⟨p.1, (hs''.2 a p.2.1).trans ho⟩) _ _ hall
  · cases hf
end
end Mine
end
section
open PySem PySem.W PyProof.Rows PySem.Calls
set_option Elab.async false
set_option maxRecDepth 100000
namespace Mine

inductive Fl where
  | next
  | brk
  | cont
  | ret (d : D)
noncomputable def Fl.isRet : Fl → Bool
  | .ret _ => true
  | _ => false

/-- what a turn may change: the frame's places, the owned list -/
noncomputable def Bd (env : Env) (own : Option Nat) (oa : Addr) (a : Addr) : Prop := Mu env a ∨ (own ≠ none ∧ a = oa)

/-- a slot's word -/
noncomputable def SlotOk (P : Addr → Prop) (base h : Heap) (env : Env) (oa : Addr) (owned : Bool) (d : D) (v : Value) : Prop :=
  if owned then ∃ ds vs, d = .list ds ∧ v = .ref oa ∧ h.PlainList oa vs.toArray ∧ HasAll P h ds vs ∧ base.get? oa = none ∧ ¬ Mu env oa else Has P h d v

structure CxS (K : Frag) (n : Nat) (nm : List (Str × NameKind)) (sl : List (Option Str)) (own : Option Nat) (base : Heap) (P : Addr → Prop) (oa : Addr) (env : Env) (A : Around) (h : Heap) (ρ : List D) : Prop where
  eok : EnvOk nm env
  room : Room n A
  gd : Gd K base
  eb : Ext base h
  sto : Sto env h
  mub : ∀ a, Mu env a → base.get? a = none
  pmu : ∀ a, P a → ¬ Bd env own oa a
  fresh : ∀ a, h.get? a = none → P a
  oax : own ≠ none → ∃ o, h.get? oa = some o
  slots : ∀ (i : Nat) (x : Str) (d : D), sl[i]? = some (some x) → ρ[i]? = some d → d = .undef ∨ ∃ v, Rd env h x v ∧ SlotOk P base h env oa (own == some i) d v

noncomputable def hide (own : Option Nat) (sl : List (Option Str)) : List (Option Str) := match own with
  | some i => sl.set i none
  | none => sl
theorem hide_get {own : Option Nat} {sl : List (Option Str)} {i : Nat} {x : Str} (h : (hide own sl)[i]? = some (some x)) : sl[i]? = some (some x) ∧ own ≠ some i := by
  unfold hide at h
  split at h
  · rename_i j
    rw [List.getElem?_set] at h
    split at h
    · split at h <;> cases h
    · rename_i hne
      exact ⟨h, fun q => hne (Option.some.inj q)⟩
  · exact ⟨h, fun q => by cases q⟩

section
variable {K : Frag} {n : Nat} {nm : List (Str × NameKind)} {sl : List (Option Str)} {own : Option Nat} {base h h' : Heap} {P : Addr → Prop} {oa : Addr} {env : Env} {A : Around} {ρ : List D}
theorem SlotOk.has {owned : Bool} {d : D} {v : Value} (x : SlotOk P base h env oa owned d v) : Has (fun a => P a ∨ a = oa) h d v := by
  unfold SlotOk at x
  split at x
  · obtain ⟨ds, vs, rfl, rfl, hl, hal, _⟩ := x
    exact ⟨oa, vs, rfl, .inr rfl, hl, HasAll.mono (fun a o ho p => ⟨.inl p, ho⟩) _ _ hal⟩
  · exact Has.mono (fun a o ho p => ⟨.inl p, ho⟩) _ _ x
/-- all slots, read as data -/
theorem CxS.cx (c : CxS K n nm sl own base P oa env A h ρ) : Cx K n nm sl (fun a => P a ∨ a = oa) env A h ρ :=
  ⟨c.eok, c.room, c.gd.ext c.eb, fun i x d hi hd => (c.slots i x d hi hd).imp id fun ⟨v, r, s⟩ => ⟨v, r, s.has⟩, fun a ha => .inl (c.fresh a ha), c.sto.cell⟩
/-- all slots but the owned one -/
theorem CxS.cxh (c : CxS K n nm sl own base P oa env A h ρ) : Cx K n nm (hide own sl) P env A h ρ :=
  ⟨c.eok, c.room, c.gd.ext c.eb, fun i x d hi hd => (c.slots i x d (hide_get hi).1 hd).imp id fun ⟨v, r, s⟩ => ⟨v, r, by
    unfold SlotOk at s
    have : (own == some i) = false := by simpa using (hide_get hi).2
    rw [this] at s
    exact s⟩, c.fresh, c.sto.cell⟩
theorem SlotOk.ext {owned : Bool} {d : D} {v : Value} (x : SlotOk P base h env oa owned d v) (e : Ext h h') : SlotOk P base h' env oa owned d v := by
  cases owned with
  | true =>
    refine byC fun G0 => ?_
    obtain ⟨ds, vs, q1, q2, hl, hal, r⟩ := x
    refine G0 ?_
    clear G0
    exact ⟨ds, vs, q1, q2, hl.at fun o ho => e _ o ho, hal.ext e, r⟩
  | false => exact Has.ext (P := P) x e
theorem CxS.ext (c : CxS K n nm sl own base P oa env A h ρ) (e : Ext h h') : CxS K n nm sl own base P oa env A h' ρ :=
  ⟨c.eok, c.room, c.gd, c.eb.trans e, c.sto.ext e, c.mub, c.pmu, fun a ha => c.fresh a (none_of_ext e ha), fun q => let ⟨o, ho⟩ := c.oax q; ⟨o, e _ _ ho⟩, fun i x d hi hd => (c.slots i x d hi hd).imp id fun ⟨v, r, s⟩ => ⟨v, r.ext e, s.ext e⟩⟩
/-- under a change of what no slot sees -/
theorem SlotOk.keep {owned : Bool} {d : D} {v : Value} {B : Addr → Prop} (x : SlotOk P base h env oa owned d v) (k : KeepBut B h h') (hp : ∀ a, P a → ¬ B a) (ho : owned = true → ¬ B oa) : SlotOk P base h' env oa owned d v := by
  cases owned with
  | true =>
    refine byC fun G1 => ?_
    obtain ⟨ds, vs, q1, q2, hl, hal, r⟩ := x
    refine G1 ?_
    clear G1
    exact ⟨ds, vs, q1, q2, hl.at fun o e => k _ o (ho rfl) e, hal.keep k hp, r⟩
  | false => exact Has.keep (P := P) x k hp
end

noncomputable def FlOk (P : Addr → Prop) (h : Heap) : Fl → Flow → Prop
  | .next, f => f = .next
  | .brk, f => f = .brk
  | .cont, f => f = .cont
  | .ret d, f => ∃ v, f = .ret v ∧ Has P h d v

/-- what stands behind a statement -/
structure Aft (K : Frag) (n : Nat) (nm : List (Str × NameKind)) (sl : List (Option Str)) (own : Option Nat) (base : Heap) (P : Addr → Prop) (oa : Addr) (env : Env) (A : Around) (h : Heap) (fl : Fl) (ρ' : List D) (flow : Flow) (h' : Heap) (P' : Addr → Prop) (oa' : Addr) : Prop where
  keep : KeepBut (Bd env own oa) h h'
  eb : Ext base h'
  sub : ∀ a, P' a → P a
  old : ∀ a o, h.get? a = some o → P a → P' a
  oa : oa' = oa ∨ h.get? oa' = none
  cx : fl.isRet = false → CxS K n nm sl own base P' oa' env A h' ρ'
  fl : FlOk (fun a => P a ∨ base.get? a = none) h' fl flow

noncomputable def DenS (prog : Program) (w : World) (K : Frag) (n : Nat) (nm : List (Str × NameKind)) (sl : List (Option Str)) (own : Option Nat) (ss : List Stmt) (g : List D → Option (Fl × List D)) : Prop :=
  ∀ (env : Env) (A : Around) (s : Shared) (ρ : List D) (fl : Fl) (ρ' : List D) (base : Heap) (P : Addr → Prop) (oa : Addr) (Q : Flow → Shared → Prop) (E : Value → Shared → Prop),
    CxS K n nm sl own base P oa env A s.heap ρ → g ρ = some (fl, ρ') →
    (∀ flow h' tk P' oa', Aft K n nm sl own base P oa env A s.heap fl ρ' flow h' P' oa' → Q flow { s with heap := h', toks := tk }) → wpAny (model prog w) A (execs ss env) Q E s
noncomputable def Den1 (prog : Program) (w : World) (K : Frag) (n : Nat) (nm : List (Str × NameKind)) (sl : List (Option Str)) (own : Option Nat) (st : Stmt) (g : List D → Option (Fl × List D)) : Prop :=
  ∀ (env : Env) (A : Around) (s : Shared) (ρ : List D) (fl : Fl) (ρ' : List D) (base : Heap) (P : Addr → Prop) (oa : Addr) (Q : Flow → Shared → Prop) (E : Value → Shared → Prop),
    CxS K n nm sl own base P oa env A s.heap ρ → g ρ = some (fl, ρ') →
    (∀ flow h' tk P' oa', Aft K n nm sl own base P oa env A s.heap fl ρ' flow h' P' oa' → Q flow { s with heap := h', toks := tk }) → wpAny (model prog w) A (exec st env) Q E s

section
variable {prog : Program} {w : World} {K : Frag} {n : Nat} {nm : List (Str × NameKind)} {sl : List (Option Str)} {own : Option Nat}

theorem Aft.refl {base h : Heap} {P : Addr → Prop} {oa : Addr} {env : Env} {A : Around} {ρ : List D} (c : CxS K n nm sl own base P oa env A h ρ) : Aft K n nm sl own base P oa env A h .next ρ .next h P oa :=
  ⟨.refl, c.eb, fun _ p => p, fun _ _ _ p => p, .inl rfl, fun _ => c, rfl⟩
theorem Aft.trans {base h h' h'' : Heap} {P P' P'' : Addr → Prop} {oa oa' oa'' : Addr} {env : Env} {A : Around} {ρ ρ' ρ'' : List D} {fl : Fl} {flow : Flow} (c : CxS K n nm sl own base P oa env A h ρ)
    (x : Aft K n nm sl own base P oa env A h .next ρ' .next h' P' oa') (y : Aft K n nm sl own base P' oa' env A h' fl ρ'' flow h'' P'' oa'') : Aft K n nm sl own base P oa env A h fl ρ'' flow h'' P'' oa'' := by
  have c' := x.cx rfl
  have kk : KeepBut (Bd env own oa) h h'' := fun b o nb e => by
    refine y.keep b o (fun q => ?_) (x.keep b o nb e)
    rcases q with q | ⟨q1, q2⟩
    · exact nb (.inl q)
    · rcases x.oa with z | z
      · exact nb (.inr ⟨q1, q2.trans z⟩)
      · rw [q2, z] at e; cases e
  refine ⟨kk, y.eb, fun a p => x.sub a (y.sub a p), fun a o e p => y.old a o (x.keep a o (c.pmu a p) e) (x.old a o e p), ?_, y.cx, ?_⟩
  · rcases y.oa with z | z
    · rw [z]; exact x.oa
    · cases q : h.get? oa'' with
      | none => exact .inr rfl
      | some o =>
        by_cases hb : Bd env own oa oa''
        · rcases hb with hb | hb
          · obtain ⟨o', ho'⟩ := c'.sto.mu hb; rw [z] at ho'; cases ho'
          · exact .inl hb.2
        · rw [x.keep _ o hb q] at z; cases z
  · have := y.fl
    cases fl with
    | ret d => obtain ⟨v, e, hv⟩ := this; exact ⟨v, e, Has.mono (fun a o ho p => ⟨p.imp (x.sub a) id, ho⟩) _ _ hv⟩
    | next => exact this
    | brk => exact this
    | cont => exact this

theorem denS_of {ss : List Stmt} {g : List D → Option (Fl × List D)} (H : ∀ (env : Env) (A : Around) (s : Shared) (ρ : List D) (T : Fl × List D) (base : Heap) (P : Addr → Prop) (oa : Addr) (Q : Flow → Shared → Prop) (E : Value → Shared → Prop),
    CxS K n nm sl own base P oa env A s.heap ρ → g ρ = some T → (∀ flow h' tk P' oa', Aft K n nm sl own base P oa env A s.heap T.1 T.2 flow h' P' oa' → Q flow { s with heap := h', toks := tk }) → wpAny (model prog w) A (execs ss env) Q E s) : DenS prog w K n nm sl own ss g :=
  fun env A s ρ fl ρ' base P oa Q E c hf h => H env A s ρ (fl, ρ') base P oa Q E c hf h
theorem den1_of {st : Stmt} {g : List D → Option (Fl × List D)} (H : ∀ (env : Env) (A : Around) (s : Shared) (ρ : List D) (T : Fl × List D) (base : Heap) (P : Addr → Prop) (oa : Addr) (Q : Flow → Shared → Prop) (E : Value → Shared → Prop),
    CxS K n nm sl own base P oa env A s.heap ρ → g ρ = some T → (∀ flow h' tk P' oa', Aft K n nm sl own base P oa env A s.heap T.1 T.2 flow h' P' oa' → Q flow { s with heap := h', toks := tk }) → wpAny (model prog w) A (exec st env) Q E s) : Den1 prog w K n nm sl own st g :=
  fun env A s ρ fl ρ' base P oa Q E c hf h => H env A s ρ (fl, ρ') base P oa Q E c hf h
theorem denS_nil : DenS prog w K n nm sl own [] (fun ρ => some (.next, ρ)) := by
  first | refine den1_of fun env A s ρ T base P oa Q E c hf h => ?_ | refine denS_of fun env A s ρ T base P oa Q E c hf h => ?_
  cases hf
  exact wpAny_execs_nil (h _ _ s.toks _ _ (.refl c))
noncomputable def seqS (g1 g2 : List D → Option (Fl × List D)) (ρ : List D) : Option (Fl × List D) := (g1 ρ).bind fun p => match p.1 with
  | .next => g2 p.2
  | _ => some p
theorem denS_cons {st : Stmt} {ss : List Stmt} {g1 g2 : List D → Option (Fl × List D)} (h1 : Den1 prog w K n nm sl own st g1) (h2 : DenS prog w K n nm sl own ss g2) : DenS prog w K n nm sl own (st :: ss) (seqS g1 g2) := by
  first | refine den1_of fun env A s ρ T base P oa Q E c hf h => ?_ | refine denS_of fun env A s ρ T base P oa Q E c hf h => ?_
  unfold seqS at hf
  refine byC fun G2 => ?_
  obtain ⟨⟨fl1, ρ1⟩, hg1, hf⟩ := Option.bind_eq_some_iff.mp hf
  refine G2 ?_
  clear G2
  refine wpAny_execs_cons (h1 env A s ρ fl1 ρ1 base P oa _ _ c hg1 fun flow h' tk P' oa' af => ?_)
  cases fl1 with
  | next =>
    have e : flow = .next := af.fl
    subst e
    exact h2 env A _ ρ1 T.1 T.2 base P' oa' _ _ (af.cx rfl) hf fun flow' h'' tk' P'' oa'' af' => h _ _ _ _ _ (af.trans c af')
  | brk =>
    have e : flow = .brk := af.fl
    subst e
    cases hf
    exact h _ _ _ _ _ af
  | cont =>
    have e : flow = .cont := af.fl
    subst e
    cases hf
    exact h _ _ _ _ _ af
  | ret d =>
    refine byC fun G3 => ?_
    obtain ⟨v, e, hv⟩ := id af.fl
    subst e
    cases hf
    refine G3 ?_
    clear G3
    exact h _ _ _ _ _ af

theorem den1_ret {e : Expr} {pos : Pos} {f : List D → Option D} (h1 : Den prog w K n nm sl e f) : Den1 prog w K n nm sl own (.Return (some e) pos) (fun ρ => (f ρ).map fun d => (.ret d, ρ)) := by
  first | refine den1_of fun env A s ρ T base P oa Q E c hf h => ?_ | refine denS_of fun env A s ρ T base P oa Q E c hf h => ?_
  refine byC fun G4 => ?_
  obtain ⟨d, hd, e⟩ := Option.map_eq_some_iff.mp hf
  cases e
  refine G4 ?_
  clear G4
  refine wpAny_Return_some (h1 env A s ρ d (fun a => P a ∨ (a = oa ∧ base.get? oa = none)) _ _ ?_ hd fun v h' tk e1 hv => ?_)
  · have q := c.cx
    refine ⟨q.eok, q.room, q.gd, fun i x d hi hd => (c.slots i x d hi hd).imp id fun ⟨v, r, so⟩ => ⟨v, r, ?_⟩, fun a ha => .inl (c.fresh a ha), q.cl⟩
    cases ho : (own == some i) with
    | true =>
      rw [ho] at so
      refine byC fun G5 => ?_
      obtain ⟨ds, vs, rfl, rfl, hl, hal, hb, _⟩ := so
      refine G5 ?_
      clear G5
      exact ⟨oa, vs, rfl, .inr ⟨rfl, hb⟩, hl, HasAll.mono (fun a o ho p => ⟨.inl p, ho⟩) _ _ hal⟩
    | false =>
      rw [ho] at so
      exact Has.mono (P := P) (fun a o ho p => ⟨.inl p, ho⟩) _ _ so
  · exact h _ _ _ P oa ⟨.of_ext e1, c.eb.trans e1, fun _ p => p, fun _ _ _ p => p, .inl rfl, fun q => (by cases q), ⟨v, rfl, Has.mono (fun a o ho p => ⟨Or.imp id (fun z => by rw [z.1]; exact z.2) p, ho⟩) _ _ hv⟩⟩
theorem den1_brk {pos : Pos} : Den1 prog w K n nm sl own (.Break pos) (fun ρ => some (.brk, ρ)) := by
  first | refine den1_of fun env A s ρ T base P oa Q E c hf h => ?_ | refine denS_of fun env A s ρ T base P oa Q E c hf h => ?_
  cases hf
  exact wpAny_Break (h _ _ s.toks P oa ⟨.refl, c.eb, fun _ p => p, fun _ _ _ p => p, .inl rfl, fun _ => c, rfl⟩)
theorem den1_pass {pos : Pos} : Den1 prog w K n nm sl own (.Pass pos) (fun ρ => some (.next, ρ)) := by
  first | refine den1_of fun env A s ρ T base P oa Q E c hf h => ?_ | refine denS_of fun env A s ρ T base P oa Q E c hf h => ?_
  cases hf
  exact wpAny_Pass (h _ _ s.toks P oa (.refl c))
theorem Aft.pre {base h h' h'' : Heap} {P P' : Addr → Prop} {oa oa' : Addr} {env : Env} {A : Around} {ρ ρ' : List D} {fl : Fl} {flow : Flow} (c : CxS K n nm sl own base P oa env A h ρ) (e : Ext h h')
    (y : Aft K n nm sl own base P oa env A h' fl ρ' flow h'' P' oa') : Aft K n nm sl own base P oa env A h fl ρ' flow h'' P' oa' :=
  Aft.trans c ⟨.of_ext e, c.eb.trans e, fun _ p => p, fun _ _ _ p => p, .inl rfl, fun _ => c.ext e, rfl⟩ y
theorem den1_if {t : Expr} {b o : List Stmt} {pos : Pos} {f : List D → Option Bool} {g1 g2 : List D → Option (Fl × List D)} (h0 : DenT prog w K n nm sl t f) (h1 : DenS prog w K n nm sl own b g1) (h2 : DenS prog w K n nm sl own o g2) :
    Den1 prog w K n nm sl own (.If t b o pos) (fun ρ => (f ρ).bind fun q => if q then g1 ρ else g2 ρ) := by
  first | refine den1_of fun env A s ρ T base P oa Q E c hf h => ?_ | refine denS_of fun env A s ρ T base P oa Q E c hf h => ?_
  refine byC fun G6 => ?_
  obtain ⟨q, hq, hf⟩ := Option.bind_eq_some_iff.mp hf
  refine G6 ?_
  clear G6
  refine wpAny_If (h0 env A s ρ q _ _ _ c.cx hq fun h' tk e1 => ?_)
  cases q with
  | true => exact h1 env A _ ρ T.1 T.2 base P oa _ _ (c.ext e1) hf fun flow h'' tk' P' oa' af => h _ _ _ _ _ (af.pre c e1)
  | false => exact h2 env A _ ρ T.1 T.2 base P oa _ _ (c.ext e1) hf fun flow h'' tk' P' oa' af => h _ _ _ _ _ (af.pre c e1)
theorem den1_assert {t : Expr} {m : Option Expr} {pos : Pos} {f : List D → Option Bool} (h0 : DenT prog w K n nm sl t f) :
    Den1 prog w K n nm sl own (.Assert t m pos) (fun ρ => (f ρ).bind fun q => if q then some (.next, ρ) else none) := by
  first | refine den1_of fun env A s ρ T base P oa Q E c hf h => ?_ | refine denS_of fun env A s ρ T base P oa Q E c hf h => ?_
  refine byC fun G7 => ?_
  obtain ⟨q, hq, hf⟩ := Option.bind_eq_some_iff.mp hf
  refine G7 ?_
  clear G7
  cases q with
  | false => cases hf
  | true =>
    cases hf
    exact wpAny_Assert_holds (h0 env A s ρ true _ _ _ c.cx hq fun h' tk e1 => ⟨rfl, h _ _ _ _ _ ((Aft.refl (c.ext e1)).pre c e1)⟩)

/-- a name's store, whatever its kind -/
theorem store1 {env : Env} {A : Around} {s : Shared} {ρ : List D} {base : Heap} {P : Addr → Prop} {oa : Addr} {x : Str} {i : Nat} {d : D} {v : Value} {Q : Unit → Shared → Prop} {E : Value → Shared → Prop}
    (c : CxS K n nm sl own base P oa env A s.heap ρ) (hi : sl[i]? = some (some x)) (hu : ∀ (j : Nat) y, sl[j]? = some (some y) → j ≠ i → y ≠ x) (ho : own ≠ some i) (kx : nm.lookup x = some .local ∨ nm.lookup x = some .cell)
    (hv : Has P s.heap d v) (hl : i < ρ.length)
    (h : ∀ h' tk, KeepBut (Mu env) s.heap h' → Aft K n nm sl own base P oa env A s.heap .next (ρ.set i d) .next h' P oa → Q () { s with heap := h', toks := tk }) : wpAny (model prog w) A (storeName env x v) Q E s := by
  have kx' : env.kindOf x = some .local ∨ (env.kindOf x = some .cell ∧ ∃ c, env.cells.lookup x = some c) := by
    rcases kx with k | k
    · exact .inl ((c.eok.kindOf x).trans k)
    · exact .inr ⟨(c.eok.kindOf x).trans k, c.eok.cells x (.inl k)⟩
  refine sto_store c.eok.kind c.sto kx' fun h' tk a S ha hs rx ry => ?_
  have hmu : Mu env a := ha.imp id fun z => ⟨x, z⟩
  have kb : KeepBut (Mu env) s.heap h' := .of_same hs hmu
  refine h h' tk kb ?_
  have hp : ∀ b, P b → ¬ Mu env b := fun b p q => c.pmu b p (.inl q)
  refine ⟨kb.mono fun a q => .inl q, ?_, fun _ p => p, fun _ _ _ p => p, .inl rfl, fun _ => ⟨c.eok, c.room, c.gd, ?_, S, c.mub, c.pmu, ?_, ?_, ?_⟩, rfl⟩
  · exact fun b o e => kb b o (fun q => by rw [c.mub b q] at e; cases e) (c.eb b o e)
  · exact fun b o e => kb b o (fun q => by rw [c.mub b q] at e; cases e) (c.eb b o e)
  · intro b hb
    refine c.fresh b ?_
    cases q : s.heap.get? b with
    | none => rfl
    | some o =>
      by_cases hm : Mu env b
      · obtain ⟨o', ho'⟩ := S.mu hm; rw [hb] at ho'; cases ho'
      · rw [kb b o hm q] at hb; cases hb
  · intro q
    obtain ⟨o, ho⟩ := c.oax q
    by_cases hm : Mu env oa
    · exact S.mu hm
    · exact ⟨o, kb _ o hm ho⟩
  · intro j y d' hj hd'
    by_cases hji : j = i
    · subst hji
      rw [hi] at hj; cases hj
      rw [List.getElem?_set_self hl] at hd'
      cases hd'
      refine .inr ⟨v, rx, ?_⟩
      have : (own == some j) = false := by simpa using ho
      rw [this]
      exact Has.keep (P := P) hv kb hp
    · rw [List.getElem?_set_ne (Ne.symm hji)] at hd'
      refine (c.slots j y d' hj hd').imp id fun ⟨u, r, so⟩ => ⟨u, ry y u (hu j y hj hji) r, ?_⟩
      cases ho' : (own == some j) with
      | false => rw [ho'] at so; exact Has.keep (P := P) so kb hp
      | true =>
        rw [ho'] at so
        refine SlotOk.keep so kb hp fun _ => ?_
        refine byC fun G8 => ?_
        obtain ⟨_, _, _, _, _, _, _, z⟩ := so
        refine G8 ?_
        clear G8
        exact z

/-- what is asked of a name that is stored -/
structure NameOk (nm : List (Str × NameKind)) (sl : List (Option Str)) (own : Option Nat) (x : Str) (i : Nat) : Prop where
  slot : sl[i]? = some (some x)
  once : ∀ (j : Nat) y, sl[j]? = some (some y) → j ≠ i → y ≠ x
  own : own ≠ some i
  kind : nm.lookup x = some .local ∨ nm.lookup x = some .cell
noncomputable def setS (i : Nat) (ρ : List D) (d : D) : Option (Fl × List D) := if i < ρ.length then some (.next, ρ.set i d) else none
theorem den1_assign {x : Str} {px pos : Pos} {e : Expr} {f : List D → Option D} (i : Nat) (hx : NameOk nm sl own x i) (h1 : Den prog w K n nm (hide own sl) e f)
    (hs : ∀ env, swapsWith e (some (.Name x px)) pos.line env = pure false) : Den1 prog w K n nm sl own (.Assign [.Name x px] e pos) (fun ρ => (f ρ).bind fun d => setS i ρ d) := by
  first | refine den1_of fun env A s ρ T base P oa Q E c hf h => ?_ | refine denS_of fun env A s ρ T base P oa Q E c hf h => ?_
  refine byC fun G9 => ?_
  obtain ⟨d, hd, hf⟩ := Option.bind_eq_some_iff.mp hf
  refine G9 ?_
  clear G9
  unfold setS at hf
  replace hf := ifs hf
  refine byC fun G10 => ?_
  obtain ⟨hl, hf⟩ := hf
  cases hf
  refine G10 ?_
  clear G10
  refine wpAny_Assign_Name (h1 env A s ρ d P _ _ c.cxh hd fun v h' tk e1 hv => ?_) (hs env)
  exact store1 (c.ext e1) hx.slot hx.once hx.own hx.kind hv hl fun h'' tk' _ af => h _ _ _ _ _ (af.pre c e1)
theorem den1_assignF {x : Str} {px pos : Pos} {e : Expr} {f : List D → Option D} (i : Nat) (hx : NameOk nm sl own x i) (h1 : Den prog w K n nm sl e f)
    (hs : ∀ env, swapsWith e (some (.Name x px)) pos.line env = pure false) : Den1 prog w K n nm sl own (.Assign [.Name x px] e pos) (fun ρ => (f ρ).bind fun d => if d.flat then setS i ρ d else none) := by
  first | refine den1_of fun env A s ρ T base P oa Q E c hf h => ?_ | refine denS_of fun env A s ρ T base P oa Q E c hf h => ?_
  refine byC fun G11 => ?_
  obtain ⟨d, hd, hf⟩ := Option.bind_eq_some_iff.mp hf
  refine G11 ?_
  clear G11
  split at hf
  · rename_i hfl
    unfold setS at hf
    replace hf := ifs hf
    refine byC fun G12 => ?_
    obtain ⟨hl, hf⟩ := hf
    cases hf
    refine G12 ?_
    clear G12
    refine wpAny_Assign_Name (h1 env A s ρ d _ _ _ c.cx hd fun v h' tk e1 hv => ?_) (hs env)
    exact store1 (c.ext e1) hx.slot hx.once hx.own hx.kind (hv.flat hfl) hl fun h'' tk' _ af => h _ _ _ _ _ (af.pre c e1)
  · cases hf
end
end Mine
end
section
open PySem PySem.W PyProof.Rows PySem.Calls
set_option Elab.async false
set_option maxRecDepth 100000
namespace Mine
section
variable {prog : Program} {w : World} {K : Frag} {n : Nat} {nm : List (Str × NameKind)} {sl : List (Option Str)} {own : Option Nat}

/-- a place that no slot sees is changed -/
theorem CxS.keepB {base h h' : Heap} {P : Addr → Prop} {oa : Addr} {env : Env} {A : Around} {ρ : List D} {B : Addr → Prop} (c : CxS K n nm sl own base P oa env A h ρ) (k : KeepBut B h h')
    (hb : ∀ a o, h.get? a = some o → P a → ¬ B a) (hm : ∀ a, Mu env a → ¬ B a) (hx : ∀ a, B a → ∃ o, h'.get? a = some o) (hbase : ∀ a, B a → base.get? a = none) (ho : ∀ o, h.get? oa = some o → ¬ B oa) :
    CxS K n nm sl own base (fun a => P a ∧ ¬ B a) oa env A h' ρ := by
  refine ⟨c.eok, c.room, c.gd, fun b o e => k b o (fun q => by rw [hbase b q] at e; cases e) (c.eb b o e), c.sto.keep k hm, c.mub, fun a p => c.pmu a p.1, ?_, ?_, ?_⟩
  · intro a ha
    have hn : h.get? a = none := by
      cases q : h.get? a with
      | none => rfl
      | some o =>
        by_cases hB : B a
        · obtain ⟨o', ho'⟩ := hx a hB; rw [ha] at ho'; cases ho'
        · rw [k a o hB q] at ha; cases ha
    exact ⟨c.fresh a hn, fun q => by obtain ⟨o', ho'⟩ := hx a q; rw [ha] at ho'; cases ho'⟩
  · intro q
    obtain ⟨o, ho'⟩ := c.oax q
    exact ⟨o, k _ o (ho o ho') ho'⟩
  · intro i x d hi hd
    refine (c.slots i x d hi hd).imp id fun ⟨v, r, so⟩ => ⟨v, ?_, ?_⟩
    · rcases r with ⟨kd, m, hn, hv⟩ | ⟨kd, a, o, ha, hoo, hdd⟩
      · exact .inl ⟨kd, m, hn.at' fun o e => k _ o (hm _ (.inl rfl)) e, hv⟩
      · exact .inr ⟨kd, a, o, ha, k _ o (hm _ (.inr ⟨x, ha⟩)) hoo, hdd⟩
    · cases hq : (own == some i) with
      | true =>
        rw [hq] at so
        refine byC fun G0 => ?_
        obtain ⟨ds, vs, q1, q2, hl, hal, r1, r2⟩ := so
        obtain ⟨nn, hl'⟩ := id hl
        refine G0 ?_
        clear G0
        exact ⟨ds, vs, q1, q2, hl.at fun o e => k _ o (ho _ hl') e, HasAll.mono (fun a o e p => ⟨⟨p, hb a o e p⟩, k a o (hb a o e p) e⟩) _ _ hal, r1, r2⟩
      | false =>
        rw [hq] at so
        exact Has.mono (P := P) (fun a o e p => ⟨⟨p, hb a o e p⟩, k a o (hb a o e p) e⟩) _ _ so

theorem CxS.keepL {base h h' : Heap} {P : Addr → Prop} {oa L : Addr} {env : Env} {A : Around} {ρ : List D} (c : CxS K n nm sl own base (fun a => P a ∧ ¬ a = L) oa env A h ρ) (hs : Heap.SameBut L h h')
    (hP : ∀ a, P a → ¬ Bd env own oa a) (hL : P L) (hbase : base.get? L = none) (hm : ¬ Mu env L) (ho : own ≠ none → oa ≠ L) : CxS K n nm sl own base P oa env A h' ρ := by
  have k : KeepBut (fun a => a = L) h h' := .of_same hs rfl
  refine ⟨c.eok, c.room, c.gd, fun b o e => k b o (fun q => by rw [q, hbase] at e; cases e) (c.eb b o e), c.sto.keep k (fun a m q => hm (q ▸ m)), c.mub, hP, ?_, fun q => let ⟨o, h0⟩ := c.oax q; ⟨o, k _ o (ho q) h0⟩, ?_⟩
  · intro a ha
    by_cases q : a = L
    · rw [q]; exact hL
    · exact (c.fresh a ((hs.2 a q).symm.trans ha)).1
  · intro i x d hi hd
    refine (c.slots i x d hi hd).imp id fun ⟨v, r, so⟩ => ⟨v, ?_, ?_⟩
    · rcases r with ⟨kd, m, hn, hv⟩ | ⟨kd, a, o, ha, hoo, hdd⟩
      · exact .inl ⟨kd, m, hn.at' fun o e => k _ o (fun q => hm (q ▸ .inl rfl)) e, hv⟩
      · exact .inr ⟨kd, a, o, ha, k _ o (fun q => hm (q ▸ .inr ⟨x, ha⟩)) hoo, hdd⟩
    · cases hq : (own == some i) with
      | true =>
        rw [hq] at so
        refine byC fun G1 => ?_
        obtain ⟨ds, vs, q1, q2, hl, hal, r1, r2⟩ := so
        refine G1 ?_
        clear G1
        have hne : oa ≠ L := ho (by intro z; rw [z] at hq; cases hq)
        exact ⟨ds, vs, q1, q2, hl.at fun o e => k _ o hne e, HasAll.mono (fun a o e p => ⟨p.1, k a o p.2 e⟩) _ _ hal, r1, r2⟩
      | false =>
        rw [hq] at so
        exact Has.mono (P := fun a => P a ∧ ¬ a = L) (fun a o e p => ⟨p.1, k a o p.2 e⟩) _ _ so

/-- a comprehension's list bound to a name, the stores exchanged -/
theorem den1_comp {elt iter : Expr} {ifs : List Expr} {scope : Scope} {cpos px py pos : Pos} {x y : Str} {fi : List D → Option (List D)} {ft : List D → Option Bool} {fe : List D → Option D} (i : Nat) (hy : NameOk nm sl own y i)
    (hi : DenI prog w K n nm (hide own sl) iter fi) (ht : DenIf prog w K n (relab nm scope.names) (some x :: capt scope.names (hide own sl)) ifs ft) (he : Den prog w K n (relab nm scope.names) (some x :: capt scope.names (hide own sl)) elt fe)
    (ok : CompOk nm scope x) (hs : ∀ env v, foldedSetIterable iter env v = pure v)
    (hsw : ∀ env, EnvOk nm env → swapsWith (.ListComp elt [⟨.Name x px, iter, ifs, 0⟩] scope cpos) (some (.Name y py)) pos.line env = pure true) :
    Den1 prog w K n nm sl own (.Assign [.Name y py] (.ListComp elt [⟨.Name x px, iter, ifs, 0⟩] scope cpos) pos) (fun ρ => (fi ρ).bind fun ds => if ds.length ≤ 1000000 then (compD ft fe ρ ds).bind fun out => setS i ρ (.list out) else none) := by
  first | refine den1_of fun env A s ρ T base P oa Q E c hf h => ?_ | refine denS_of fun env A s ρ T base P oa Q E c hf h => ?_
  replace hf := bb1 hf
  refine byC fun G2 => ?_
  obtain ⟨ds, hds, hf⟩ := hf
  refine G2 ?_
  clear G2
  split at hf
  · rename_i hlen
    refine byC fun G3 => ?_
    obtain ⟨out, hout, hf⟩ := Option.bind_eq_some_iff.mp hf
    refine G3 ?_
    clear G3
    unfold setS at hf
    replace hf := Mine.ifs hf
    refine byC fun G4 => ?_
    obtain ⟨hl, hf⟩ := hf
    cases hf
    refine G4 ?_
    clear G4
    rw [exec_Assign_Name_used _ _ _ _ (hsw env c.eok)]
    refine wpAny_bind (wpAny_standAt (wpAny_bind ?_))
    show wpAny _ A (do let _ ← comprehension (.ListComp elt [⟨.Name x px, iter, ifs, 0⟩] scope cpos) scope env _ (newList []) false (eval iter env) (some (assign (.Name y py) env))) _ _ s
    refine wpAny_bind (comp_core (use := some (assign (.Name y py) env)) hi ht he ok (hs env) c.cxh hds hout hlen fun Dd L h' tk ys m e hL hn hne hD hls hall => ?_)
    have hLx : ∃ o, h'.get? L = some o := by obtain ⟨o, _, _, ho, _⟩ := hn; exact ⟨o, ho⟩
    have c' : CxS K n nm sl own base (fun a => P a ∧ ¬ a = L) oa env A h' ρ := c.keepB (B := fun a => a = L) (fun b o _ q => e b o q) (fun a o ho _ q => by rw [q, hL] at ho; cases ho)
      (fun a m q => by obtain ⟨o, ho⟩ := c.sto.mu m; rw [q, hL] at ho; cases ho) (fun a q => q ▸ hLx) (fun a q => q ▸ none_of_ext c.eb hL) (fun o ho q => by rw [q, hL] at ho; cases ho)
    show wpAny _ A (assign (.Name y py) env (.ref Dd)) _ _ _
    refine wpAny_assign_Name (store1 (s := { s with heap := h', toks := tk }) (d := .list out) c' hy.slot hy.once hy.own hy.kind ⟨Dd, ys.toList, rfl, ⟨c.fresh _ hD, Ne.symm hne⟩, hls, HasAll.mono (fun a o ho p => ⟨⟨p.1, p.2.1⟩, ho⟩) _ _ hall⟩ hl fun h2 tk2 kb af => ?_)
    have hLm : ¬ Mu env L := fun q => by obtain ⟨o, ho⟩ := c.sto.mu q; rw [hL] at ho; cases ho
    have hn2 : h2.Ns L m := hn.at' fun o ho => kb _ o hLm ho
    refine ⟨m, hn2, fun h3 hs3 => wpAny_pure (wpAny_pure ?_)⟩
    have c2 := af.cx rfl
    refine h _ _ _ P oa ⟨?_, ?_, fun _ p => p, fun _ _ _ p => p, .inl rfl, fun _ => CxS.keepL c2 hs3 c.pmu (c.fresh L hL) (none_of_ext c.eb hL) hLm fun q z => (by obtain ⟨o, ho⟩ := c.oax q; rw [z, hL] at ho; cases ho), rfl⟩
    · intro b o nb ho
      have hbL : b ≠ L := fun q => by rw [q, hL] at ho; cases ho
      exact (hs3.2 b hbL).trans (af.keep b o nb (e b o ho))
    · intro b o ho
      have hbL : b ≠ L := fun q => by rw [q] at ho; rw [c.eb _ _ ho] at hL; cases hL
      exact (hs3.2 b hbL).trans (af.eb b o ho)
  · cases hf
end
end Mine
end
section
open PySem PySem.W PyProof.Rows PySem.Calls
set_option Elab.async false
set_option maxRecDepth 100000
namespace Mine
section
variable {prog : Program} {w : World} {K : Frag} {n : Nat} {nm : List (Str × NameKind)} {sl : List (Option Str)} {own : Option Nat}

theorem rd_load {env : Env} {A : Around} {s : Shared} {x : Str} {v : Value} {Q E : Value → Shared → Prop} (hk : env.scope.kind = .function) (r : Rd env s.heap x v) (hn : (x == ("__classdict__" : Str)) = false) (h : Q v s) :
    wpAny (model prog w) A (loadName env x) Q E s := by
  rcases r with ⟨k, m, hns, hm⟩ | ⟨k, a, o, hc, ho, hdat⟩
  · exact wpAny_loadName_local hk k hns hm h
  · rcases k with k | k
    · exact wpAny_loadName_cell hk k hc ⟨o, ho, hdat⟩ h
    · exact wpAny_loadName_free hk k hc ⟨o, ho, hdat⟩ h hn

/-! a list of one's own -/
noncomputable def DenN (prog : Program) (w : World) (K : Frag) (n : Nat) (nm : List (Str × NameKind)) (sl : List (Option Str)) (e : Expr) (f : List D → Option (List D)) : Prop :=
  ∀ (env : Env) (A : Around) (s : Shared) (ρ : List D) (ds : List D) (P : Addr → Prop) (Q : Value → Shared → Prop) (E : Value → Shared → Prop),
    Cx K n nm sl P env A s.heap ρ → f ρ = some ds →
    (∀ a vs h' tk, Ext s.heap h' → s.heap.get? a = none → h'.PlainList a vs.toArray → HasAll (fun b => P b ∧ b ≠ a) h' ds vs → Q (.ref a) { s with heap := h', toks := tk }) → wpAny (model prog w) A (eval e env) Q E s
theorem denN_nil {pos : Pos} : DenN prog w K n nm sl (.List [] pos) (fun _ => some []) := by
  intro env A s ρ ds P Q E c hf h
  cases hf
  refine wpAny_List (wpAny_items_nil ⟨by decide, ?_⟩)
  exact h _ [] _ _ (.push _) (size_none _) ⟨0, Heap.get?_push_size _ rfl⟩ rfl

theorem storeOwn {env : Env} {A : Around} {s : Shared} {ρ : List D} {base h0 : Heap} {P : Addr → Prop} {oa a : Addr} {x : Str} {i : Nat} {ds : List D} {vs : List Value} {Q : Unit → Shared → Prop} {E : Value → Shared → Prop}
    (c : CxS K n nm sl (some i) base P oa env A h0 ρ) (e : Ext h0 s.heap) (hi : sl[i]? = some (some x)) (hu : ∀ (j : Nat) y, sl[j]? = some (some y) → j ≠ i → y ≠ x) (kx : nm.lookup x = some .local ∨ nm.lookup x = some .cell)
    (ha : h0.get? a = none) (hpl : s.heap.PlainList a vs.toArray) (hal : HasAll (fun b => P b ∧ b ≠ a) s.heap ds vs) (hl : i < ρ.length)
    (h : ∀ h' tk, Aft K n nm sl (some i) base P oa env A h0 .next (ρ.set i (.list ds)) .next h' (fun b => P b ∧ b ≠ a) a → Q () { s with heap := h', toks := tk }) : wpAny (model prog w) A (storeName env x (.ref a)) Q E s := by
  have kx' : env.kindOf x = some .local ∨ (env.kindOf x = some .cell ∧ ∃ c, env.cells.lookup x = some c) := by
    rcases kx with k | k
    · exact .inl ((c.eok.kindOf x).trans k)
    · exact .inr ⟨(c.eok.kindOf x).trans k, c.eok.cells x (.inl k)⟩
  refine sto_store c.eok.kind (c.sto.ext e) kx' fun h' tk b S hb hs rx ry => h h' tk ?_
  have hmu : Mu env b := hb.imp id fun z => ⟨x, z⟩
  have kb : KeepBut (Mu env) s.heap h' := .of_same hs hmu
  have kb0 : KeepBut (Mu env) h0 h' := (KeepBut.of_ext e).trans kb
  have ham : ¬ Mu env a := fun q => by obtain ⟨o, ho⟩ := c.sto.mu q; rw [ha] at ho; cases ho
  have hp : ∀ b, P b → ¬ Mu env b := fun b p q => c.pmu b p (.inl q)
  have eb' : Ext base h' := fun b o q => kb0 b o (fun z => by rw [c.mub b z] at q; cases q) (c.eb b o q)
  refine ⟨kb0.mono fun a q => .inl q, eb', fun _ p => p.1, fun b o q p => ⟨p, fun z => by rw [z, ha] at q; cases q⟩, .inr ha, fun _ => ⟨c.eok, c.room, c.gd, eb', S, c.mub, ?_, ?_, fun _ => (let ⟨_, ho⟩ := hpl; ⟨_, kb a _ ham ho⟩), ?_⟩, rfl⟩
  · rintro b ⟨p, q⟩ z
    rcases z with z | z
    · exact hp b p z
    · exact q z.2
  · intro b hb0
    refine ⟨c.fresh b ?_, fun z => ?_⟩
    · cases q : h0.get? b with
      | none => rfl
      | some o =>
        by_cases hm : Mu env b
        · obtain ⟨o', ho'⟩ := S.mu hm; rw [hb0] at ho'; cases ho'
        · rw [kb0 b o hm q] at hb0; cases hb0
    · obtain ⟨k, ho⟩ := hpl
      rw [z, kb a _ ham ho] at hb0; cases hb0
  · intro j y d' hj hd'
    by_cases hji : j = i
    · subst hji
      rw [hi] at hj; cases hj
      rw [List.getElem?_set_self hl] at hd'
      cases hd'
      refine .inr ⟨_, rx, ?_⟩
      have : (some j == some j) = true := by simp
      rw [this]
      exact ⟨ds, vs, rfl, rfl, hpl.at fun o q => kb _ o ham q, hal.keep kb (fun b p => hp b p.1), none_of_ext c.eb ha, ham⟩
    · rw [List.getElem?_set_ne (Ne.symm hji)] at hd'
      refine (c.slots j y d' hj hd').imp id fun ⟨u, r, so⟩ => ⟨u, ry y u (hu j y hj hji) (r.ext e), ?_⟩
      have hq : (some i == some j) = false := by simpa using Ne.symm hji
      rw [hq] at so ⊢
      exact Has.mono (P := P) (fun b o q p => ⟨⟨p, fun z => by rw [z, ha] at q; cases q⟩, kb0 b o (hp b p) q⟩) _ _ so
theorem den1_new {x : Str} {px pos : Pos} {e : Expr} {f : List D → Option (List D)} (i : Nat) (hi : sl[i]? = some (some x)) (hu : ∀ (j : Nat) y, sl[j]? = some (some y) → j ≠ i → y ≠ x) (kx : nm.lookup x = some .local ∨ nm.lookup x = some .cell)
    (h1 : DenN prog w K n nm (hide (some i) sl) e f) (hs : ∀ env, swapsWith e (some (.Name x px)) pos.line env = pure false) :
    Den1 prog w K n nm sl (some i) (.Assign [.Name x px] e pos) (fun ρ => (f ρ).bind fun ds => setS i ρ (.list ds)) := by
  first | refine den1_of fun env A s ρ T base P oa Q E c hf h => ?_ | refine denS_of fun env A s ρ T base P oa Q E c hf h => ?_
  refine byC fun G0 => ?_
  obtain ⟨ds, hd, hf⟩ := Option.bind_eq_some_iff.mp hf
  refine G0 ?_
  clear G0
  unfold setS at hf
  replace hf := ifs hf
  refine byC fun G1 => ?_
  obtain ⟨hl, hf⟩ := hf
  cases hf
  refine G1 ?_
  clear G1
  refine wpAny_Assign_Name (h1 env A s ρ ds P _ _ c.cxh hd fun a vs h' tk e1 ha hpl hal => ?_) (hs env)
  exact storeOwn (s := { s with heap := h', toks := tk }) c e1 hi hu kx ha hpl hal hl fun h'' tk' af => h _ _ _ _ _ af

/-- the owned list is changed -/
theorem ownUpd {env : Env} {A : Around} {ρ : List D} {base h h' : Heap} {P : Addr → Prop} {oa : Addr} {x : Str} {i : Nat} {ds ds' : List D} {vs' : List Value} (c : CxS K n nm sl (some i) base P oa env A h ρ) (hi : sl[i]? = some (some x)) (hd : ρ[i]? = some (.list ds))
    (hs : Heap.SameBut oa h h') (hpl : h'.PlainList oa vs'.toArray) (hal : HasAll P h' ds' vs') : Aft K n nm sl (some i) base P oa env A h .next (ρ.set i (.list ds')) .next h' P oa := by
  refine byC fun G2 => ?_
  obtain ⟨v, r, so⟩ := (c.slots i x _ hi hd).resolve_left (by intro z; cases z)
  refine G2 ?_
  clear G2
  have : (some i == some i) = true := by simp
  rw [this] at so
  refine byC fun G3 => ?_
  obtain ⟨ds0, vs, q1, q2, hl, _, hb, hm⟩ := so
  refine G3 ?_
  clear G3
  have hlt : i < ρ.length := (List.getElem?_eq_some_iff.mp hd).1
  have kb : KeepBut (fun a => a = oa) h h' := .of_same hs rfl
  have hpo : ∀ a, P a → ¬ a = oa := fun a p q => c.pmu a p (.inr ⟨by simp, q⟩)
  have hmo : ∀ a, Mu env a → ¬ a = oa := fun a m q => hm (q ▸ m)
  have eb' : Ext base h' := fun b o q => kb b o (fun z => by rw [z, hb] at q; cases q) (c.eb b o q)
  refine ⟨kb.mono fun a q => .inr ⟨by simp, q⟩, eb', fun _ p => p, fun _ _ _ p => p, .inl rfl, fun _ => ⟨c.eok, c.room, c.gd, eb', c.sto.keep kb hmo, c.mub, c.pmu, ?_, fun _ => (let ⟨_, ho⟩ := hpl; ⟨_, ho⟩), ?_⟩, rfl⟩
  · intro b hb0
    refine c.fresh b ?_
    cases q : h.get? b with
    | none => rfl
    | some o =>
      by_cases z : b = oa
      · obtain ⟨k, ho⟩ := hpl; rw [z, ho] at hb0; cases hb0
      · rw [kb b o z q] at hb0; cases hb0
  · intro j y d' hj hd'
    have rk : ∀ u, Rd env h y u → Rd env h' y u := fun u r => by
      rcases r with ⟨kd, m, hn, hv⟩ | ⟨kd, a, o, ha, hoo, hdd⟩
      · exact .inl ⟨kd, m, hn.at' fun o e => kb _ o (hmo _ (.inl rfl)) e, hv⟩
      · exact .inr ⟨kd, a, o, ha, kb _ o (hmo _ (.inr ⟨y, ha⟩)) hoo, hdd⟩
    by_cases hji : j = i
    · subst hji
      rw [List.getElem?_set_self hlt] at hd'
      cases hd'
      rw [hi] at hj; cases hj
      rw [this]
      exact .inr ⟨v, rk v r, ds', vs', rfl, q2, hpl, hal, hb, hm⟩
    · rw [List.getElem?_set_ne (Ne.symm hji)] at hd'
      refine (c.slots j y d' hj hd').imp id fun ⟨u, r, so⟩ => ⟨u, rk u r, ?_⟩
      have hq : (some i == some j) = false := by simpa using Ne.symm hji
      rw [hq] at so ⊢
      exact Has.keep (P := P) so kb hpo

theorem not_interactive {env : Env} (eo : EnvOk nm env) : interactive env = false := by unfold interactive; rw [eo.kind]; rfl

noncomputable def listAt (i : Nat) (ρ : List D) : Option (List D) := (ρ[i]?).bind asL
theorem listAt_some {i : Nat} {ρ ds : List D} (h : listAt i ρ = some ds) : ρ[i]? = some (.list ds) := by
  refine byC fun G4 => ?_
  obtain ⟨d, hd, h⟩ := bb1 h
  refine G4 ?_
  clear G4
  rw [hd, asL_some h]
theorem owned_at {env : Env} {A : Around} {ρ : List D} {base h : Heap} {P : Addr → Prop} {oa : Addr} {x : Str} {i : Nat} {ds : List D} (c : CxS K n nm sl (some i) base P oa env A h ρ) (hi : sl[i]? = some (some x)) (hd : ρ[i]? = some (.list ds)) :
    ∃ vs, Rd env h x (.ref oa) ∧ h.PlainList oa vs.toArray ∧ HasAll P h ds vs := by
  refine byC fun G5 => ?_
  obtain ⟨v, r, so⟩ := (c.slots i x _ hi hd).resolve_left (by intro z; cases z)
  refine G5 ?_
  clear G5
  have : (some i == some i) = true := by simp
  rw [this] at so
  refine byC fun G6 => ?_
  obtain ⟨ds0, vs, q1, q2, hl, hal, _⟩ := so
  cases q1
  refine G6 ?_
  clear G6
  exact ⟨vs, q2 ▸ r, hl, hal⟩
theorem den1_append {x : Str} {p ap cp pos : Pos} {e : Expr} {f : List D → Option D} (i : Nat) (hi : sl[i]? = some (some x)) (h1 : Den prog w K n nm sl e f)
    (hd0 : (x == ("__debug__" : Str)) = false) (hcd : (x == ("__classdict__" : Str)) = false) (hse : ∀ env, starEach [e] env = [(false, eval e env)]) (hline : (ap.endLine == cp.line) = true) :
    Den1 prog w K n nm sl (some i) (.Expr (.Call (.Attribute (.Name x p) ("append" : Str) ap) [e] [] cp) pos)
      (fun ρ => (listAt i ρ).bind fun ds => (f ρ).bind fun d => if d.flat ∧ ds.length ≤ 100000 then some (.next, ρ.set i (.list (ds ++ [d]))) else none) := by
  first | refine den1_of fun env A s ρ T base P oa Q E c hf h => ?_ | refine denS_of fun env A s ρ T base P oa Q E c hf h => ?_
  replace hf := bb2 hf
  refine byC fun G7 => ?_
  obtain ⟨ds, hds, d, hd, hf⟩ := hf
  replace hf := ifs hf
  obtain ⟨hfl, hf⟩ := hf
  cases hf
  refine G7 ?_
  clear G7
  have hds' := listAt_some hds
  refine wpAny_Expr ?_ (not_interactive c.eok) rfl
  refine wpAny_Call_append rfl ?_ hline ?_ ?_
  · rw [hse env]; rfl
  · rw [hse env]; rfl
  refine byC fun G8 => ?_
  obtain ⟨vs, r, hpl, hal⟩ := owned_at c hi hds'
  refine G8 ?_
  clear G8
  refine wpAny_Name (rd_load c.eok.kind r hcd ?_) hd0
  refine ⟨oa, vs.toArray, rfl, ?_, ?_⟩
  · obtain ⟨k, ho⟩ := hpl
    exact ⟨_, k, ho, rfl, rfl, rfl⟩
  refine h1 env A s ρ d _ _ _ c.cx hd fun v h' tk e1 hv => ?_
  refine byC fun G9 => ?_
  obtain ⟨vs1, _, hpl1, hal1⟩ := owned_at (c.ext e1) hi hds'
  refine G9 ?_
  clear G9
  refine wpAny_list_append_plain (s := { s with heap := h', toks := tk }) hpl1 (fun h2 hl2 hs2 => ?_) ?_
  · have kb : KeepBut (fun a => a = oa) h' h2 := .of_same hs2 rfl
    have hpo : ∀ a, P a → ¬ a = oa := fun a p q => c.pmu a p (.inr ⟨by simp, q⟩)
    refine h _ _ _ P oa (Aft.pre c e1 (ownUpd (vs' := vs1 ++ [v]) (c.ext e1) hi hds' hs2 (by simpa using hl2) ?_))
    exact (hal1.keep kb hpo).append (.one (hv.flat hfl.1))
  · have := hal1.length
    rw [List.size_toArray, sizeLine_eq]
    omega

/-! x op= e -/
noncomputable def augD (op : Operator) (a b : D) : Option D := match op with
  | .Add => int2 (fun a b => some (.int (a + b))) a b
  | .Sub => int2 (fun a b => some (.int (a - b))) a b
  | .BitOr => int2 (fun a b => some (.int (Builtin.bitOr a b))) a b
  | .BitXor => int2 (fun a b => some (.int (Builtin.bitXor a b))) a b
  | .LShift => int2 (fun a k => if 0 ≤ k ∧ k ≤ 1000 ∧ a.natAbs < 2 ^ 64 then some (.int (a * 2 ^ k.toNat)) else none) a b
  | _ => none
theorem aug_ok {A : Around} {s : Shared} {op : Operator} {a b d : D} {u v : Value} {P : Addr → Prop} {Q E : Value → Shared → Prop}
    (ha : Has P s.heap a u) (hb : Has P s.heap b v) (hf : augD op a b = some d) (h : ∀ v tk, Has P s.heap d v → d.flat = true → Q v { s with toks := tk }) : wpAny (model prog w) A (inplaceOp op u v) Q E s := by
  cases op with
  | Add =>
    refine byC fun G10 => ?_
    obtain ⟨x, y, rfl, rfl, hq⟩ := int2_some hf
    cases hq; obtain ⟨t, rfl⟩ := ha; obtain ⟨t', rfl⟩ := hb
    refine G10 ?_
    clear G10
    exact PyProof.Rows.iadd_int (h _ _ ⟨_, rfl⟩ rfl)
  | Sub =>
    refine byC fun G11 => ?_
    obtain ⟨x, y, rfl, rfl, hq⟩ := int2_some hf
    cases hq; obtain ⟨t, rfl⟩ := ha; obtain ⟨t', rfl⟩ := hb
    refine G11 ?_
    clear G11
    exact PyProof.Rows.isub_int (h _ _ ⟨_, rfl⟩ rfl)
  | BitOr =>
    refine byC fun G12 => ?_
    obtain ⟨x, y, rfl, rfl, hq⟩ := int2_some hf
    cases hq; obtain ⟨t, rfl⟩ := ha; obtain ⟨t', rfl⟩ := hb
    refine G12 ?_
    clear G12
    exact PyProof.Rows.ior_int (h _ _ ⟨_, rfl⟩ rfl)
  | BitXor =>
    refine byC fun G13 => ?_
    obtain ⟨x, y, rfl, rfl, hq⟩ := int2_some hf
    cases hq; obtain ⟨t, rfl⟩ := ha; obtain ⟨t', rfl⟩ := hb
    refine G13 ?_
    clear G13
    exact PyProof.Rows.ixor_int (h _ _ ⟨_, rfl⟩ rfl)
  | LShift =>
    refine byC fun G14 => ?_
    obtain ⟨x, y, rfl, rfl, hq⟩ := int2_some hf
    replace hq := ifs hq
    obtain ⟨hle, hq⟩ := hq
    cases hq
    obtain ⟨t, rfl⟩ := ha; obtain ⟨t', rfl⟩ := hb
    refine G14 ?_
    clear G14
    exact PyProof.Rows.ilshift_int_small hle.1 (by omega) hle.2.2 (h _ _ ⟨_, rfl⟩ rfl)
  | _ => exact noneS hf
theorem den1_aug {x : Str} {px pos : Pos} {op : Operator} {e : Expr} {f : List D → Option D} (i : Nat) (hx : NameOk nm sl own x i) (h1 : Den prog w K n nm sl e f) (hcd : (x == ("__classdict__" : Str)) = false) :
    Den1 prog w K n nm sl own (.AugAssign (.Name x px) op e pos) (fun ρ => (var i ρ).bind fun a => (f ρ).bind fun b => (augD op a b).bind fun d => setS i ρ d) := by
  first | refine den1_of fun env A s ρ T base P oa Q E c hf h => ?_ | refine denS_of fun env A s ρ T base P oa Q E c hf h => ?_
  replace hf := bb3 hf
  refine byC fun G15 => ?_
  obtain ⟨a, ha, b, hb, d, hd, hf⟩ := hf
  refine G15 ?_
  clear G15
  unfold setS at hf
  replace hf := ifs hf
  refine byC fun G16 => ?_
  obtain ⟨hl, hf⟩ := hf
  cases hf
  obtain ⟨hq, hu⟩ := var_some ha
  obtain ⟨va, r, hva⟩ := (c.cx.rel i x a hx.slot hq).resolve_left hu
  refine G16 ?_
  clear G16
  refine wpAny_AugAssign_Name (rd_load c.eok.kind r hcd ?_)
  refine h1 env A s ρ b _ _ _ c.cx hb fun vb h' tk e1 hvb => ?_
  refine aug_ok (s := { s with heap := h', toks := tk }) (hva.ext e1) hvb hd fun v tk' hv hfl => ?_
  exact store1 (s := { s with heap := h', toks := tk' }) (c.ext e1) hx.slot hx.once hx.own hx.kind (hv.flat hfl) hl fun h'' tk'' _ af => h _ _ _ _ _ (af.pre c e1)
end
end Mine
end
section
open PySem PySem.W PyProof.Rows PySem.Calls
set_option Elab.async false
set_option maxRecDepth 100000
namespace Mine

/-- places of one's own, beside the owned list -/
noncomputable def Off (S : List Addr) (P : Addr → Prop) (env : Env) (own : Option Nat) (oa : Addr) (base h : Heap) : Prop :=
  ∀ a ∈ S, ¬ P a ∧ ¬ Bd env own oa a ∧ base.get? a = none ∧ ∃ o, h.get? a = some o
theorem Off.ext {S : List Addr} {P : Addr → Prop} {env : Env} {own : Option Nat} {oa : Addr} {base h h' : Heap} (x : Off S P env own oa base h) (e : Ext h h') : Off S P env own oa base h' :=
  fun a ha => let ⟨q1, q2, q3, o, ho⟩ := x a ha; ⟨q1, q2, q3, o, e _ _ ho⟩

structure AftX (K : Frag) (n : Nat) (nm : List (Str × NameKind)) (sl : List (Option Str)) (own : Option Nat) (S : List Addr) (base : Heap) (P : Addr → Prop) (oa : Addr) (env : Env) (A : Around) (h : Heap) (fl : Fl) (ρ' : List D) (flow : Flow) (h' : Heap) (P' : Addr → Prop) (oa' : Addr) : Prop where
  keep : KeepBut (fun a => Bd env own oa a ∨ a ∈ S) h h'
  eb : Ext base h'
  sub : ∀ a, P' a → P a
  old : ∀ a o, h.get? a = some o → P a → P' a
  oa : oa' = oa ∨ h.get? oa' = none
  cx : fl.isRet = false → CxS K n nm sl own base P' oa' env A h' ρ'
  off : fl.isRet = false → Off S P' env own oa' base h'
  fl : FlOk (fun a => P a ∨ base.get? a = none) h' fl flow

/-- what a side's word may lean on -/
noncomputable def ZOk {X : Type} (S : List Addr) (Z : X → (Addr → Prop) → Heap → Prop) : Prop :=
  ∀ x (P P' : Addr → Prop) h h', (∀ a o, h.get? a = some o → (P a → P' a ∧ h'.get? a = some o) ∧ (a ∈ S → h'.get? a = some o)) → Z x P h → Z x P' h'

noncomputable def DenX (prog : Program) (w : World) (K : Frag) (n : Nat) (nm : List (Str × NameKind)) (sl : List (Option Str)) (own : Option Nat) {X : Type} (S : List Addr) (Z : X → (Addr → Prop) → Heap → Prop) (ss : List Stmt) (G : List D → X → Option (Fl × List D × X)) : Prop :=
  ∀ (env : Env) (A : Around) (s : Shared) (ρ : List D) (x : X) (fl : Fl) (ρ' : List D) (x' : X) (base : Heap) (P : Addr → Prop) (oa : Addr) (Q : Flow → Shared → Prop) (E : Value → Shared → Prop),
    CxS K n nm sl own base P oa env A s.heap ρ → Off S P env own oa base s.heap → Z x P s.heap → G ρ x = some (fl, ρ', x') →
    (∀ flow h' tk P' oa', AftX K n nm sl own S base P oa env A s.heap fl ρ' flow h' P' oa' → (fl.isRet = false → Z x' P' h') → Q flow { s with heap := h', toks := tk }) → wpAny (model prog w) A (execs ss env) Q E s
noncomputable def DenX1 (prog : Program) (w : World) (K : Frag) (n : Nat) (nm : List (Str × NameKind)) (sl : List (Option Str)) (own : Option Nat) {X : Type} (S : List Addr) (Z : X → (Addr → Prop) → Heap → Prop) (st : Stmt) (G : List D → X → Option (Fl × List D × X)) : Prop :=
  ∀ (env : Env) (A : Around) (s : Shared) (ρ : List D) (x : X) (fl : Fl) (ρ' : List D) (x' : X) (base : Heap) (P : Addr → Prop) (oa : Addr) (Q : Flow → Shared → Prop) (E : Value → Shared → Prop),
    CxS K n nm sl own base P oa env A s.heap ρ → Off S P env own oa base s.heap → Z x P s.heap → G ρ x = some (fl, ρ', x') →
    (∀ flow h' tk P' oa', AftX K n nm sl own S base P oa env A s.heap fl ρ' flow h' P' oa' → (fl.isRet = false → Z x' P' h') → Q flow { s with heap := h', toks := tk }) → wpAny (model prog w) A (exec st env) Q E s

section
variable {prog : Program} {w : World} {K : Frag} {n : Nat} {nm : List (Str × NameKind)} {sl : List (Option Str)} {own : Option Nat} {X : Type} {S : List Addr} {Z : X → (Addr → Prop) → Heap → Prop}

theorem Aft.toX {base h h' : Heap} {P P' : Addr → Prop} {oa oa' : Addr} {env : Env} {A : Around} {ρ' : List D} {fl : Fl} {flow : Flow} (x : Aft K n nm sl own base P oa env A h fl ρ' flow h' P' oa') (o : Off S P env own oa base h) :
    AftX K n nm sl own S base P oa env A h fl ρ' flow h' P' oa' := by
  refine ⟨x.keep.mono fun a q => .inl q, x.eb, x.sub, x.old, x.oa, x.cx, fun _ a ha => ?_, x.fl⟩
  refine byC fun G0 => ?_
  obtain ⟨q1, q2, q3, ob, ho⟩ := o a ha
  refine G0 ?_
  clear G0
  refine ⟨fun p => q1 (x.sub a p), fun b => ?_, q3, ob, x.keep a ob q2 ho⟩
  rcases b with b | b
  · exact q2 (.inl b)
  · rcases x.oa with z | z
    · exact q2 (.inr ⟨b.1, b.2.trans z⟩)
    · rw [b.2, z] at ho; cases ho
theorem ZOk.aft {base h h' : Heap} {P P' : Addr → Prop} {oa oa' : Addr} {env : Env} {A : Around} {ρ ρ' : List D} {fl : Fl} {flow : Flow} {x : X} (zk : ZOk S Z) (c : CxS K n nm sl own base P oa env A h ρ) (o : Off S P env own oa base h) (af : Aft K n nm sl own base P oa env A h fl ρ' flow h' P' oa') (z : Z x P h) : Z x P' h' :=
  zk x P P' h h' (fun a ob ho => ⟨fun p => ⟨af.old a ob ho p, af.keep a ob (c.pmu a p) ho⟩, fun hs => af.keep a ob (o a hs).2.1 ho⟩) z
theorem ZOk.ext {h h' : Heap} {P : Addr → Prop} {x : X} (zk : ZOk S Z) (e : Ext h h') (z : Z x P h) : Z x P h' := zk x P P h h' (fun a o ho => ⟨fun p => ⟨p, e a o ho⟩, fun _ => e a o ho⟩) z
theorem AftX.trans {base h h' h'' : Heap} {P P' P'' : Addr → Prop} {oa oa' oa'' : Addr} {env : Env} {A : Around} {ρ ρ' ρ'' : List D} {fl : Fl} {flow : Flow} (c : CxS K n nm sl own base P oa env A h ρ) (o : Off S P env own oa base h)
    (x : AftX K n nm sl own S base P oa env A h .next ρ' .next h' P' oa') (y : AftX K n nm sl own S base P' oa' env A h' fl ρ'' flow h'' P'' oa'') : AftX K n nm sl own S base P oa env A h fl ρ'' flow h'' P'' oa'' := by
  have c' := x.cx rfl
  have kk : KeepBut (fun a => Bd env own oa a ∨ a ∈ S) h h'' := fun b o nb e => by
    refine y.keep b o (fun q => ?_) (x.keep b o nb e)
    rcases q with (q | ⟨q1, q2⟩) | q
    · exact nb (.inl (.inl q))
    · rcases x.oa with z | z
      · exact nb (.inl (.inr ⟨q1, q2.trans z⟩))
      · rw [q2, z] at e; cases e
    · exact nb (.inr q)
  have ps : ∀ a, P a → ¬ (Bd env own oa a ∨ a ∈ S) := fun a p q => q.elim (c.pmu a p) fun z => (o a z).1 p
  refine ⟨kk, y.eb, fun a p => x.sub a (y.sub a p), fun a o e p => y.old a o (x.keep a o (ps a p) e) (x.old a o e p), ?_, y.cx, y.off, ?_⟩
  · rcases y.oa with z | z
    · rw [z]; exact x.oa
    · cases q : h.get? oa'' with
      | none => exact .inr rfl
      | some ob =>
        by_cases hb : Bd env own oa oa'' ∨ oa'' ∈ S
        · rcases hb with (hb | hb) | hb
          · obtain ⟨o', ho'⟩ := c'.sto.mu hb; rw [z] at ho'; cases ho'
          · exact .inl hb.2
          · obtain ⟨_, _, _, o', ho'⟩ := x.off rfl _ hb; rw [z] at ho'; cases ho'
        · rw [x.keep _ ob hb q] at z; cases z
  · have := y.fl
    cases fl with
    | ret d => obtain ⟨v, e, hv⟩ := this; exact ⟨v, e, Has.mono (fun a o ho p => ⟨p.imp (x.sub a) id, ho⟩) _ _ hv⟩
    | next => exact this
    | brk => exact this
    | cont => exact this
theorem AftX.refl {base h : Heap} {P : Addr → Prop} {oa : Addr} {env : Env} {A : Around} {ρ : List D} (c : CxS K n nm sl own base P oa env A h ρ) (o : Off S P env own oa base h) : AftX K n nm sl own S base P oa env A h .next ρ .next h P oa :=
  ⟨.refl, c.eb, fun _ p => p, fun _ _ _ p => p, .inl rfl, fun _ => c, fun _ => o, rfl⟩
theorem AftX.ext {base h h' : Heap} {P : Addr → Prop} {oa : Addr} {env : Env} {A : Around} {ρ : List D} (c : CxS K n nm sl own base P oa env A h ρ) (o : Off S P env own oa base h) (e : Ext h h') : AftX K n nm sl own S base P oa env A h .next ρ .next h' P oa :=
  ⟨.of_ext e, c.eb.trans e, fun _ p => p, fun _ _ _ p => p, .inl rfl, fun _ => c.ext e, fun _ => o.ext e, rfl⟩

noncomputable def liftX (g : List D → Option (Fl × List D)) (ρ : List D) (x : X) : Option (Fl × List D × X) := (g ρ).map fun p => (p.1, p.2, x)
theorem denX_of {ss : List Stmt} {G : List D → X → Option (Fl × List D × X)} (H : ∀ (env : Env) (A : Around) (s : Shared) (ρ : List D) (x : X) (T : Fl × List D × X) (base : Heap) (P : Addr → Prop) (oa : Addr) (Q : Flow → Shared → Prop) (E : Value → Shared → Prop),
    CxS K n nm sl own base P oa env A s.heap ρ → Off S P env own oa base s.heap → Z x P s.heap → G ρ x = some T →
    (∀ flow h' tk P' oa', AftX K n nm sl own S base P oa env A s.heap T.1 T.2.1 flow h' P' oa' → (T.1.isRet = false → Z T.2.2 P' h') → Q flow { s with heap := h', toks := tk }) → wpAny (model prog w) A (execs ss env) Q E s) : DenX prog w K n nm sl own S Z ss G :=
  fun env A s ρ x fl ρ' x' base P oa Q E c o z hf h => H env A s ρ x (fl, ρ', x') base P oa Q E c o z hf h
theorem denX1_of {st : Stmt} {G : List D → X → Option (Fl × List D × X)} (H : ∀ (env : Env) (A : Around) (s : Shared) (ρ : List D) (x : X) (T : Fl × List D × X) (base : Heap) (P : Addr → Prop) (oa : Addr) (Q : Flow → Shared → Prop) (E : Value → Shared → Prop),
    CxS K n nm sl own base P oa env A s.heap ρ → Off S P env own oa base s.heap → Z x P s.heap → G ρ x = some T →
    (∀ flow h' tk P' oa', AftX K n nm sl own S base P oa env A s.heap T.1 T.2.1 flow h' P' oa' → (T.1.isRet = false → Z T.2.2 P' h') → Q flow { s with heap := h', toks := tk }) → wpAny (model prog w) A (exec st env) Q E s) : DenX1 prog w K n nm sl own S Z st G :=
  fun env A s ρ x fl ρ' x' base P oa Q E c o z hf h => H env A s ρ x (fl, ρ', x') base P oa Q E c o z hf h
theorem x_lift1 (zk : ZOk S Z) {st : Stmt} {g : List D → Option (Fl × List D)} (h1 : Den1 prog w K n nm sl own st g) : DenX1 prog w K n nm sl own S Z st (liftX g) := by
  first | refine denX1_of fun env A s ρ x T base P oa Q E c o z hG h => ?_ | refine denX_of fun env A s ρ x T base P oa Q E c o z hG h => ?_
  refine byC fun G1 => ?_
  obtain ⟨⟨a, b⟩, hg, e⟩ := Option.map_eq_some_iff.mp hG
  cases e
  refine G1 ?_
  clear G1
  exact h1 env A s ρ _ _ base P oa Q E c hg fun flow h' tk P' oa' af => h _ _ _ _ _ (af.toX o) fun _ => zk.aft c o af z
theorem x_nil : DenX prog w K n nm sl own S Z [] (fun ρ x => some (.next, ρ, x)) := by
  first | refine denX1_of fun env A s ρ x T base P oa Q E c o z hG h => ?_ | refine denX_of fun env A s ρ x T base P oa Q E c o z hG h => ?_
  cases hG
  exact wpAny_execs_nil (h _ _ s.toks _ _ (.refl c o) fun _ => z)
noncomputable def seqX (G1 G2 : List D → X → Option (Fl × List D × X)) (ρ : List D) (x : X) : Option (Fl × List D × X) := (G1 ρ x).bind fun p => match p.1 with
  | .next => G2 p.2.1 p.2.2
  | _ => some p
theorem x_cons {st : Stmt} {ss : List Stmt} {G1 G2 : List D → X → Option (Fl × List D × X)} (h1 : DenX1 prog w K n nm sl own S Z st G1) (h2 : DenX prog w K n nm sl own S Z ss G2) : DenX prog w K n nm sl own S Z (st :: ss) (seqX G1 G2) := by
  first | refine denX1_of fun env A s ρ x T base P oa Q E c o z hG h => ?_ | refine denX_of fun env A s ρ x T base P oa Q E c o z hG h => ?_
  refine byC fun G2 => ?_
  obtain ⟨⟨f1, ρ1, x1⟩, hg1, hG⟩ := Option.bind_eq_some_iff.mp hG
  refine G2 ?_
  clear G2
  refine wpAny_execs_cons (h1 env A s ρ x f1 ρ1 x1 base P oa _ _ c o z hg1 fun flow h' tk P' oa' af az => ?_)
  cases f1 with
  | next =>
    have e : flow = .next := af.fl
    subst e
    exact h2 env A _ ρ1 x1 T.1 T.2.1 T.2.2 base P' oa' _ _ (af.cx rfl) (af.off rfl) (az rfl) hG fun flow2 h2 tk2 P2 oa2 af2 az2 => h _ _ _ _ _ (af.trans c o af2) az2
  | brk =>
    have e : flow = .brk := af.fl
    subst e
    cases hG
    exact h _ _ _ _ _ af az
  | cont =>
    have e : flow = .cont := af.fl
    subst e
    cases hG
    exact h _ _ _ _ _ af az
  | ret d =>
    refine byC fun G3 => ?_
    obtain ⟨v, e, hv⟩ := id af.fl
    subst e
    cases hG
    refine G3 ?_
    clear G3
    exact h _ _ _ _ _ af az
end
end Mine
end
section
open PySem PySem.W PyProof.Rows PySem.Calls
set_option Elab.async false
set_option maxRecDepth 100000
namespace Mine
/-- what holds at a loop's turn -/
inductive ForIv {R : Type} (s : Shared) (N : Nat) (fp wr : List Addr) (St : Nat → Heap → Prop) (ow : Prop) (Hi : (Addr → Prop) → Heap → Prop) (Af : Heap → (Addr → Prop) → Addr → R → Prop) (Go : Nat → R → Prop) (k : Nat) (s' : Shared) : Prop
  | mk (j : Nat) (hp : Heap) (tk : Nat) (P1 : Addr → Prop) (oa1 : Addr) (ρ1 : R) (e : s' = { s with heap := hp, toks := tk }) (st : St j hp) (hj : j ≤ N) (hk : k = N + 1 - j) (af : Af hp P1 oa1 ρ1)
    (h1 : ∀ a, P1 a → ¬ a ∈ wr) (h2 : ∀ b ∈ fp, b ∉ wr → P1 b) (h3 : ∀ b ∈ fp, ∃ o, hp.get? b = some o) (h4 : ow → ¬ oa1 ∈ wr) (h5 : Hi P1 hp) (go : Go j ρ1)
section
variable {prog : Program} {w : World} {K : Frag} {n : Nat} {nm : List (Str × NameKind)} {sl : List (Option Str)} {own : Option Nat} {X : Type} {S : List Addr} {Z : X → (Addr → Prop) → Heap → Prop}

/-- an iterable, the side's word at hand -/
noncomputable def DenIX (prog : Program) (w : World) (K : Frag) (n : Nat) (nm : List (Str × NameKind)) (sl : List (Option Str)) (own : Option Nat) {X : Type} (S : List Addr) (Z : X → (Addr → Prop) → Heap → Prop) (e : Expr) (f : List D → X → Option (List D)) : Prop :=
  ∀ (env : Env) (A : Around) (s : Shared) (ρ : List D) (x : X) (ds : List D) (base : Heap) (P : Addr → Prop) (oa : Addr) (Q : Value → Shared → Prop) (E : Value → Shared → Prop),
    CxS K n nm sl own base P oa env A s.heap ρ → Off S P env own oa base s.heap → Z x P s.heap → f ρ x = some ds →
    (∀ (I : Addr) (h' : Heap) (tk : Nat) (fp wr : List Addr) (Pv : Nat → Value → Prop) (St : Nat → Heap → Prop), Ext s.heap h' → (∀ A' : Around, A'.handled = none → Walks prog w A' I fp wr ds.length Pv St) → St 0 h' →
      (∀ b ∈ fp, ∃ o, h'.get? b = some o) → (∀ b ∈ wr, s.heap.get? b = none) → (∀ i h, St i h → ∀ b ∈ wr, ∃ o, h.get? b = some o) → (∀ b ∈ fp, b ∉ wr → P b) →
      (∀ (i : Nat) (d : D) (v : Value), ds[i]? = some d → Pv i v → Has (fun a => P a ∧ a ∉ wr) h' d v) → Q (.ref I) { s with heap := h', toks := tk }) →
    wpAny (model prog w) A (eval e env) (fun xv s₁ => wpAny (model prog w) A (pyIter xv) Q E s₁) E s
theorem ix_lift {e : Expr} {f : List D → Option (List D)} (h0 : DenI prog w K n nm (hide own sl) e f) : DenIX prog w K n nm sl own S Z e (fun ρ _ => f ρ) :=
  fun env A s ρ _ ds _ P _ Q E c _ _ hf h => h0 env A s ρ ds P Q E c.cxh hf h

noncomputable def forXE (i : Nat) (gb ge : List D → X → Option (Fl × List D × X)) : List D → List D → X → Option (Fl × List D × X)
  | [], ρ, x => ge ρ x
  | d :: r, ρ, x => if i < ρ.length then (gb (ρ.set i d) x).bind fun p => match p.1 with
      | .next => forXE i gb ge r p.2.1 p.2.2
      | .cont => forXE i gb ge r p.2.1 p.2.2
      | .brk => some (.next, p.2.1, p.2.2)
      | .ret v => some (.ret v, p.2.1, p.2.2)
    else none
theorem forXE_inv {i : Nat} {gb ge : List D → X → Option (Fl × List D × X)} {d : D} {r ρ : List D} {x : X} {q : Fl × List D × X} (h : forXE i gb ge (d :: r) ρ x = some q) : i < ρ.length ∧ ∃ fb ρb xb, gb (ρ.set i d) x = some (fb, ρb, xb) ∧ (match fb with
      | .next => forXE i gb ge r ρb xb
      | .cont => forXE i gb ge r ρb xb
      | .brk => some (.next, ρb, xb)
      | .ret v => some (.ret v, ρb, xb)) = some q := by
  unfold forXE at h
  split at h
  · rename_i hl
    refine byC fun G0 => ?_
    obtain ⟨⟨fb, ρb, xb⟩, h1, h2⟩ := Option.bind_eq_some_iff.mp h
    refine G0 ?_
    clear G0
    exact ⟨hl, fb, ρb, xb, h1, h2⟩
  · cases h
/-- after a turn: on, or out -/
theorem AftX.on {base h h' : Heap} {P P' : Addr → Prop} {oa oa' : Addr} {env : Env} {A : Around} {ρ' : List D} {fl : Fl} {flow : Flow} (x : AftX K n nm sl own S base P oa env A h fl ρ' flow h' P' oa') (hf : fl.isRet = false) : AftX K n nm sl own S base P oa env A h .next ρ' .next h' P' oa' :=
  ⟨x.keep, x.eb, x.sub, x.old, x.oa, fun _ => x.cx hf, fun _ => x.off hf, rfl⟩
/-- the context kept by a loop's head -/
theorem loop_cx {base h0 hp h2 : Heap} {P1 P2 : Addr → Prop} {oa1 : Addr} {env : Env} {A : Around} {ρ1 : List D} {wr : List Addr} (eb0 : Ext base h0) (cc : CxS K n nm sl own base P1 oa1 env A hp ρ1) (hwr : ∀ b ∈ wr, h0.get? b = none) (hwm : ∀ a, Mu env a → ¬ a ∈ wr) (hoa1 : own ≠ none → ¬ oa1 ∈ wr) (hP1 : ∀ a, P1 a → ¬ a ∈ wr)
    (k2 : ∀ b o, b ∉ wr → hp.get? b = some o → h2.get? b = some o) (h12 : ∀ a, P1 a → P2 a) (hp2 : ∀ a, P2 a → ¬ Bd env own oa1 a) (hw0 : ∀ a ∈ wr, h2.get? a = none → P2 a) : CxS K n nm sl own base P2 oa1 env A h2 ρ1 := by
  have kb2 : KeepBut (fun a => a ∈ wr) hp h2 := fun b o nb e => k2 b o nb e
  refine ⟨cc.eok, cc.room, cc.gd, fun b o e => kb2 b o (fun q => ?_) (cc.eb b o e), cc.sto.keep kb2 hwm, cc.mub, hp2, ?_, fun q => (let ⟨o, ho⟩ := cc.oax q; ⟨o, kb2 _ o (hoa1 q) ho⟩), ?_⟩
  · have := none_of_ext eb0 (hwr b q); rw [this] at e; cases e
  · intro a ha
    by_cases z : a ∈ wr
    · exact hw0 a z ha
    · refine h12 a (cc.fresh a ?_)
      cases q : hp.get? a with
      | none => rfl
      | some o => rw [kb2 a o z q] at ha; cases ha
  · intro m y d' hm hd'
    refine (cc.slots m y d' hm hd').imp id fun ⟨u, r, so⟩ => ⟨u, ?_, ?_⟩
    · rcases r with ⟨kd, mm, hn, hv'⟩ | ⟨kd, a, o, ha, hoo, hdd⟩
      · exact .inl ⟨kd, mm, hn.at' fun o e => kb2 _ o (hwm _ (.inl rfl)) e, hv'⟩
      · exact .inr ⟨kd, a, o, ha, kb2 _ o (hwm _ (.inr ⟨y, ha⟩)) hoo, hdd⟩
    · have so' := so.keep kb2 hP1 fun ho => hoa1 (by intro z; rw [z] at ho; cases ho)
      cases hq : (own == some m) with
      | true =>
        rw [hq] at so'
        refine byC fun G1 => ?_
        obtain ⟨ds', vs', z1, z2, z3, z4, z5⟩ := so'
        refine G1 ?_
        clear G1
        exact ⟨ds', vs', z1, z2, z3, HasAll.mono (fun a o e p => ⟨h12 a p, e⟩) _ _ z4, z5⟩
      | false =>
        rw [hq] at so'
        exact Has.mono (P := P1) (fun a o e p => ⟨h12 a p, e⟩) _ _ so'
theorem x_forE (zk : ZOk S Z) {x : Str} {px pos : Pos} {it : Expr} {b o' : List Stmt} {fi : List D → X → Option (List D)} {gb ge : List D → X → Option (Fl × List D × X)} (i : Nat) (hx : NameOk nm sl own x i)
    (h0 : DenIX prog w K n nm sl own S Z it fi) (h1 : DenX prog w K n nm sl own S Z b gb) (h2 : DenX prog w K n nm sl own S Z o' ge) (hs : ∀ env v, foldedSetIterable it env v = pure v) :
    DenX1 prog w K n nm sl own S Z (.For (.Name x px) it b o' pos) (fun ρ y => (fi ρ y).bind fun ds => forXE i gb ge ds ρ y) := by
  first | refine denX1_of fun env A s ρ y T base P oa Q E c of z hf h => ?_ | refine denX_of fun env A s ρ y T base P oa Q E c of z hf h => ?_
  refine byC fun G2 => ?_
  obtain ⟨ds, hds, hf⟩ := Option.bind_eq_some_iff.mp hf
  refine G2 ?_
  clear G2
  refine wpAny_For (h0 env A s ρ y ds base P oa _ _ c of z hds fun I h1' tk1 fp wr Pv St e1 W hst hfp hwr hwx hfpP hit => ?_) (hs env)
  have WA := W A c.room.handled
  have hwm : ∀ a, Mu env a → ¬ a ∈ wr := fun a m q => by obtain ⟨o, ho⟩ := c.sto.mu m; exact noneS ((hwr a q).symm.trans ho)
  have hSw : ∀ a ∈ S, ¬ a ∈ wr := fun a m q => by obtain ⟨_, _, _, o, ho⟩ := of a m; exact noneS ((hwr a q).symm.trans ho)
  have c1 : CxS K n nm sl own base (fun a => P a ∧ ¬ a ∈ wr) oa env A h1' ρ := c.keepB (B := fun a => a ∈ wr) (.of_ext e1) (fun a o ho _ q => by exact noneS ((hwr a q).symm.trans ho)) hwm (fun a q => hfp a (WA.sub a q)) (fun a q => none_of_ext c.eb (hwr a q))
    (fun o ho q => by exact noneS ((hwr _ q).symm.trans ho))
  have a1' : Aft K n nm sl own base P oa env A s.heap .next ρ .next h1' (fun a => P a ∧ ¬ a ∈ wr) oa :=
    ⟨.of_ext e1, c1.eb, fun _ p => p.1, fun a o ho p => ⟨p, fun q => by exact noneS ((hwr a q).symm.trans ho)⟩, .inl rfl, fun _ => c1, rfl⟩
  have a1 := a1'.toX of
  have z1 : Z y (fun a => P a ∧ ¬ a ∈ wr) h1' := zk.aft c of a1' z
  have hoa0 : own ≠ none → ¬ oa ∈ wr := fun q z => by obtain ⟨o, ho⟩ := c.oax q; exact noneS ((hwr _ z).symm.trans ho)
  refine codeAny_forLoop
    (ForIv (R := List D × X) s ds.length fp wr St (own ≠ none) (fun P1 hp => ∀ (m : Nat) (d : D) (v : Value), ds[m]? = some d → Pv m v → Has P1 hp d v)
      (fun hp P1 oa1 r => AftX K n nm sl own S base P oa env A s.heap .next r.1 .next hp P1 oa1 ∧ Z r.2 P1 hp) (fun j r => forXE i gb ge (ds.drop j) r.1 r.2 = some T)) ?_ (ds.length + 1)
    ⟨0, h1', tk1, _, oa, (ρ, y), rfl, hst, Nat.zero_le _, rfl, ⟨a1, z1⟩, fun a p => p.2, fun b hb hw => ⟨hfpP b hb hw, hw⟩, hfp, hoa0, hit, hf⟩
  rintro k s' ⟨j, hp, tk, P1, oa1, ⟨ρ1, y1⟩, rfl, hst', hj, rfl, ⟨af, zc⟩, hP1, hfp1, hfpx, hoa1, hit1, hfd⟩
  have cc := af.cx rfl
  have oc := af.off rfl
  have next : ∀ (h2' : Heap) (P2 : Addr → Prop), (∀ b o, b ∉ wr → hp.get? b = some o → h2'.get? b = some o) → (∀ a, P1 a → P2 a) → (∀ a, P2 a → ¬ Bd env own oa1 a) → (∀ a ∈ wr, h2'.get? a = none → P2 a) →
      CxS K n nm sl own base P2 oa1 env A h2' ρ1 := fun h2' P2 k2 h12 hp2 hw0 => loop_cx c.eb cc hwr hwm hoa1 hP1 k2 h12 hp2 hw0
  have zstep : ∀ (h2' : Heap) (P2 : Addr → Prop), (∀ b o, b ∉ wr → hp.get? b = some o → h2'.get? b = some o) → (∀ a, P1 a → P2 a) → Z y1 P2 h2' := fun h2' P2 k2 h12 =>
    zk y1 P1 P2 hp h2' (fun a o ho => ⟨fun p => ⟨h12 a p, k2 a o (hP1 a p) ho⟩, fun hs => k2 a o (hSw a hs) ho⟩) zc
  have ostep : ∀ (h2' : Heap) (P2 : Addr → Prop), (∀ b o, b ∉ wr → hp.get? b = some o → h2'.get? b = some o) → (∀ a, P2 a → P1 a ∨ a ∈ wr) → Off S P2 env own oa1 base h2' := fun h2' P2 k2 h21 a ha => by
    refine byC fun G3 => ?_
    obtain ⟨q1, q2, q3, o, ho⟩ := oc a ha
    refine G3 ?_
    clear G3
    exact ⟨fun p => (h21 a p).elim q1 (hSw a ha), q2, q3, o, k2 a o (hSw a ha) ho⟩
  by_cases hlt : j < ds.length
  · obtain ⟨d, hd⟩ : ∃ d, ds[j]? = some d := ⟨ds[j], by simp [hlt]⟩
    have hdrop : ds.drop j = d :: ds.drop (j + 1) := by
      rw [List.drop_eq_getElem_cons hlt]
      simp [hlt] at hd
      rw [hd]
    replace hfd : forXE i gb ge (ds.drop j) ρ1 y1 = some T := hfd
    rw [hdrop] at hfd
    refine byC fun G4 => ?_
    obtain ⟨hil, fb, ρb, yb, hgb, hfd⟩ := forXE_inv hfd
    refine G4 ?_
    clear G4
    refine WA.item j _ _ _ hlt hst' fun v h2' tk2 hv hst2 k2 => ?_
    have kb2 : KeepBut (fun a => a ∈ wr) hp h2' := fun b o nb e => k2 b o nb e
    have c2 := next h2' P1 k2 (fun _ p => p) cc.pmu fun a z ha => by obtain ⟨o', ho'⟩ := hwx _ _ hst2 a z; rw [ha] at ho'; cases ho'
    have o2 := ostep h2' P1 k2 fun _ p => .inl p
    have a2 : AftX K n nm sl own S base P oa env A s.heap .next ρ1 .next h2' P1 oa1 :=
      ⟨fun b o nb e => k2 b o (fun q => by exact noneS ((hwr b q).symm.trans e)) (af.keep b o nb e), c2.eb, af.sub, af.old, af.oa, fun _ => c2, fun _ => o2, rfl⟩
    refine wpAny_assign_Name (store1 (s := { s with heap := h2', toks := tk2 }) c2 hx.slot hx.once hx.own hx.kind ((hit1 j d v hd hv).keep kb2 hP1) hil fun h3 tk3 kb3 a3 => ?_)
    have o3 := (a3.toX o2).off rfl
    refine h1 env A { s with heap := h3, toks := tk3 } _ y1 fb ρb yb base P1 oa1 _ _ (a3.cx rfl) o3 (zk.aft c2 o2 a3 (zstep h2' P1 k2 fun _ p => p)) hgb fun flow h4 tk4 P4 oa4 a4 z4 => ?_
    have a34 := (a3.toX o2).trans c2 o2 a4
    have a5 := a2.trans c of a34
    have hfp2 : ∀ b ∈ fp, ∃ o, h2'.get? b = some o := fun b hb => by
      by_cases q : b ∈ wr
      · exact hwx _ _ hst2 b q
      · obtain ⟨o, ho⟩ := hfpx b hb; exact ⟨o, k2 b o q ho⟩
    have hbd : ∀ b ∈ fp, ¬ (Bd env own oa1 b ∨ b ∈ S) := fun b hb q => by
      by_cases z : b ∈ wr
      · rcases q with (q | q) | q
        · exact hwm b q z
        · exact hoa1 q.1 (q.2 ▸ z)
        · exact hSw b q z
      · rcases q with q | q
        · exact c2.pmu b (hfp1 b hb z) q
        · exact (oc b q).1 (hfp1 b hb z)
    have hst4 : St (j + 1) h4 := WA.frame _ _ _ hst2 fun b hb o ho => a34.keep b o (hbd b hb) ho
    have hfp4 : ∀ b ∈ fp, ∃ o, h4.get? b = some o := fun b hb => by obtain ⟨o, ho⟩ := hfp2 b hb; exact ⟨o, a34.keep b o (hbd b hb) ho⟩
    have ps : ∀ a, P1 a → ¬ (Bd env own oa1 a ∨ a ∈ S) := fun a p q => q.elim (c2.pmu a p) fun z => (oc a z).1 p
    have go : fb.isRet = false → forXE i gb ge (ds.drop (j + 1)) ρb yb = some T → ∃ m, m < ds.length + 1 - j ∧ ForIv (R := List D × X) s ds.length fp wr St (own ≠ none) (fun P1 hp => ∀ (m : Nat) (d : D) (v : Value), ds[m]? = some d → Pv m v → Has P1 hp d v)
        (fun hp P1 oa1 r => AftX K n nm sl own S base P oa env A s.heap .next r.1 .next hp P1 oa1 ∧ Z r.2 P1 hp) (fun j r => forXE i gb ge (ds.drop j) r.1 r.2 = some T) m { s with heap := h4, toks := tk4 } := by
      intro hnr hq
      refine ⟨ds.length + 1 - (j + 1), Nat.sub_lt_sub_left (Nat.lt_succ_of_lt hlt) (Nat.lt_succ_self j), j + 1, h4, tk4, P4, oa4, (ρb, yb), rfl, hst4, hlt, rfl, ⟨a5.on hnr, z4 hnr⟩, fun a p => hP1 a (a34.sub a p), fun b hb hw => ?_, hfp4, fun q z => ?_, fun m d' v' hm hv' => ?_, hq⟩
      · obtain ⟨o, ho⟩ := hfp2 b hb
        exact a34.old b o ho (hfp1 b hb hw)
      · rcases a34.oa with y | y
        · exact hoa1 q (y ▸ z)
        · obtain ⟨o', ho'⟩ := hwx _ _ hst2 _ z; rw [y] at ho'; cases ho'
      · refine Has.mono (fun a o ho p => ⟨a34.old a o ho p, a34.keep a o (ps a p) ho⟩) _ _ ((hit1 m d' v' hm hv').keep kb2 hP1)
    cases fb with
    | next =>
      have e : flow = .next := a4.fl
      subst e
      exact go rfl hfd
    | cont =>
      have e : flow = .cont := a4.fl
      subst e
      exact go rfl hfd
    | brk =>
      have e : flow = .brk := a4.fl
      subst e
      cases hfd
      exact h _ _ _ P4 oa4 (a5.on rfl) fun _ => z4 rfl
    | ret dv =>
      refine byC fun G5 => ?_
      obtain ⟨vv, e, hvv⟩ := id a5.fl
      subst e
      cases hfd
      refine G5 ?_
      clear G5
      exact h _ _ _ P4 oa4 ⟨a5.keep, a5.eb, a5.sub, a5.old, a5.oa, a5.cx, a5.off, ⟨vv, rfl, hvv⟩⟩ z4
  · have hin : j = ds.length := Nat.le_antisymm hj (Nat.not_lt.mp hlt)
    subst hin
    have e0 : ds.drop ds.length = [] := by simp
    replace hfd : forXE i gb ge (ds.drop ds.length) ρ1 y1 = some T := hfd
    rw [e0] at hfd
    refine WA.done _ _ _ hst' fun h2' tk2 k2 => ?_
    have c2 := next h2' (fun a => P1 a ∨ a ∈ wr) k2 (fun _ p => .inl p) (fun a p => p.elim (cc.pmu a) fun q z => z.elim (fun y => hwm a y q) fun y => hoa1 y.1 (y.2 ▸ q)) fun a z _ => .inr z
    have o2 := ostep h2' (fun a => P1 a ∨ a ∈ wr) k2 fun _ p => p
    have a2 : AftX K n nm sl own S base P oa env A s.heap .next ρ1 .next h2' (fun a => P1 a ∨ a ∈ wr) oa1 :=
      ⟨fun b o nb e => k2 b o (fun q => by exact noneS ((hwr b q).symm.trans e)) (af.keep b o nb e), c2.eb, fun a p => p.elim (af.sub a) fun q => c.fresh a (hwr a q), fun a o e p => .inl (af.old a o e p), af.oa, fun _ => c2, fun _ => o2, rfl⟩
    exact h2 env A { s with heap := h2', toks := tk2 } ρ1 y1 T.1 T.2.1 T.2.2 base _ oa1 _ _ c2 o2 (zstep h2' _ k2 fun _ p => .inl p) hfd fun flow h3 tk3 P3 oa3 a3 z3 => h _ _ _ _ _ (a2.trans c of a3) z3
end
end Mine
end
section
open PySem PySem.W PyProof.Rows PySem.Calls
set_option Elab.async false
set_option maxRecDepth 100000
namespace Mine
section
variable {prog : Program} {w : World} {K : Frag} {n : Nat} {nm : List (Str × NameKind)} {sl : List (Option Str)} {own : Option Nat}

/-- a for loop -/
noncomputable def forD (i : Nat) (gb ge : List D → Option (Fl × List D)) : List D → List D → Option (Fl × List D)
  | [], ρ => ge ρ
  | d :: r, ρ => if i < ρ.length then (gb (ρ.set i d)).bind fun p => match p.1 with
      | .next => forD i gb ge r p.2
      | .cont => forD i gb ge r p.2
      | .brk => some (.next, p.2)
      | .ret v => some (.ret v, p.2)
    else none

theorem forXE_lift {i : Nat} {gb ge : List D → Option (Fl × List D)} : ∀ (ds ρ : List D), forXE (X := Unit) i (liftX gb) (liftX ge) ds ρ () = (forD i gb ge ds ρ).map fun p => (p.1, p.2, ())
  | [], ρ => rfl
  | d :: r, ρ => by
    unfold forXE forD liftX
    split
    · cases h : gb (ρ.set i d) with
      | none => rfl
      | some p =>
        obtain ⟨f, ρb⟩ := p
        cases f with
        | next => exact forXE_lift r ρb
        | cont => exact forXE_lift r ρb
        | brk => rfl
        | ret v => rfl
    · rfl
theorem AftX.toS {base h h' : Heap} {P P' : Addr → Prop} {oa oa' : Addr} {env : Env} {A : Around} {ρ' : List D} {fl : Fl} {flow : Flow} (x : AftX K n nm sl own [] base P oa env A h fl ρ' flow h' P' oa') : Aft K n nm sl own base P oa env A h fl ρ' flow h' P' oa' :=
  ⟨x.keep.mono fun _ q => q.elim id fun z => (List.not_mem_nil z).elim, x.eb, x.sub, x.old, x.oa, x.cx, x.fl⟩
theorem x_liftS {X : Type} {S : List Addr} {Z : X → (Addr → Prop) → Heap → Prop} (zk : ZOk S Z) {ss : List Stmt} {g : List D → Option (Fl × List D)} (h1 : DenS prog w K n nm sl own ss g) : DenX prog w K n nm sl own S Z ss (liftX g) := by
  first | refine denX1_of fun env A s ρ x T base P oa Q E c o z hG h => ?_ | refine denX_of fun env A s ρ x T base P oa Q E c o z hG h => ?_
  refine byC fun G0 => ?_
  obtain ⟨⟨a, b⟩, hg, e⟩ := Option.map_eq_some_iff.mp hG
  cases e
  refine G0 ?_
  clear G0
  exact h1 env A s ρ _ _ base P oa Q E c hg fun flow h' tk P' oa' af => h _ _ _ _ _ (af.toX o) fun _ => zk.aft c o af z
theorem den1_for {x : Str} {px pos : Pos} {it : Expr} {b o : List Stmt} {fi : List D → Option (List D)} {gb ge : List D → Option (Fl × List D)} (i : Nat) (hx : NameOk nm sl own x i)
    (h0 : DenI prog w K n nm (hide own sl) it fi) (h1 : DenS prog w K n nm sl own b gb) (h2 : DenS prog w K n nm sl own o ge) (hs : ∀ env v, foldedSetIterable it env v = pure v) :
    Den1 prog w K n nm sl own (.For (.Name x px) it b o pos) (fun ρ => (fi ρ).bind fun ds => forD i gb ge ds ρ) := by
  first | refine den1_of fun env A s ρ T base P oa Q E c hf h => ?_ | refine denS_of fun env A s ρ T base P oa Q E c hf h => ?_
  have zk : ZOk (X := Unit) [] (fun _ _ _ => True) := fun _ _ _ _ _ _ _ => trivial
  refine x_forE zk i hx (ix_lift h0) (x_liftS zk h1) (x_liftS zk h2) hs env A s ρ () T.1 T.2 () base P oa Q E c (fun a ha => (List.not_mem_nil ha).elim) trivial ?_ fun flow h' tk P' oa' af _ => h _ _ _ _ _ af.toS
  refine byC fun G1 => ?_
  obtain ⟨ds, h3, h4⟩ := Option.bind_eq_some_iff.mp hf
  refine G1 ?_
  clear G1
  show ((fi ρ).bind fun ds => forXE (X := Unit) i (liftX gb) (liftX ge) ds ρ ()) = _
  rw [h3, Option.bind_some, forXE_lift, h4]
  rfl
end
end Mine
end
section
open PySem PySem.W PyProof.Rows PySem.Calls
set_option Elab.async false
set_option maxRecDepth 100000
namespace Mine
theorem arS {n : Nat} {C : List Value → Prop} (h : ∀ a vs, vs.length = n → C (a :: vs)) (vs : List Value) (e : vs.length = n + 1) : C vs := by
  cases vs with
  | nil => cases e
  | cons a vs => exact h a vs (Nat.succ.inj e)
theorem ar1 {C : List Value → Prop} (h : ∀ a, C [a]) : ∀ vs : List Value, vs.length = 1 → C vs := arS fun a vs e => List.eq_nil_of_length_eq_zero e ▸ h a
theorem ar2 {C : List Value → Prop} (h : ∀ a b, C [a, b]) : ∀ vs : List Value, vs.length = 2 → C vs := arS fun a => ar1 fun b => h a b
theorem ar3 {C : List Value → Prop} (h : ∀ a b c, C [a, b, c]) : ∀ vs : List Value, vs.length = 3 → C vs := arS fun a => ar2 fun b c => h a b c
theorem ar4 {C : List Value → Prop} (h : ∀ a b c d, C [a, b, c, d]) : ∀ vs : List Value, vs.length = 4 → C vs := arS fun a => ar3 fun b c d => h a b c d
theorem ar5 {C : List Value → Prop} (h : ∀ a b c d e, C [a, b, c, d, e]) : ∀ vs : List Value, vs.length = 5 → C vs := arS fun a => ar4 fun b c d e => h a b c d e

theorem bindL_other (kd : Str → Option NameKind) (x : Str) (binds : List (Str × Value)) : ∀ (m : Str → Option Value), x ∉ binds.map (·.1) → bindL kd binds m x = m x := by
  induction binds with
  | nil => intro _ _; rfl
  | cons p r ih =>
    intro m h
    rw [List.map_cons, List.mem_cons, not_or] at h
    refine (ih _ h.2).trans ?_
    by_cases c : kd p.1 = some .local
    · rw [if_pos c]; exact if_neg h.1
    · rw [if_neg c]
theorem bindL_at (kd : Str → Option NameKind) (binds : List (Str × Value)) : ∀ (m : Str → Option Value) (x : Str) (v : Value), (binds.map (·.1)).Nodup → (x, v) ∈ binds → kd x = some .local → bindL kd binds m x = some v := by
  induction binds with
  | nil => intro _ _ _ _ h _; cases h
  | cons p r ih =>
    intro m x v hn h hk
    rw [List.map_cons, List.nodup_cons] at hn
    cases h with
    | head => exact ((bindL_other kd _ r _ hn.1).trans (congrFun (if_pos hk) _)).trans (if_pos rfl)
    | tail _ q => exact ih _ x v hn.2 q hk
theorem bindC_other (kd : Str → Option NameKind) (x : Str) (binds : List (Str × Value)) : ∀ (m : Str → Option Value), x ∉ binds.map (·.1) → bindC kd binds m x = m x := by
  induction binds with
  | nil => intro _ _; rfl
  | cons p r ih =>
    intro m h
    rw [List.map_cons, List.mem_cons, not_or] at h
    refine (ih _ h.2).trans ?_
    by_cases c : kd p.1 = some .local
    · rw [if_pos c]
    · rw [if_neg c]; exact if_neg h.1
theorem bindC_at (kd : Str → Option NameKind) (binds : List (Str × Value)) : ∀ (m : Str → Option Value) (x : Str) (v : Value), (binds.map (·.1)).Nodup → (x, v) ∈ binds → kd x ≠ some .local → bindC kd binds m x = some v := by
  induction binds with
  | nil => intro _ _ _ _ h _; cases h
  | cons p r ih =>
    intro m x v hn h hk
    rw [List.map_cons, List.nodup_cons] at hn
    cases h with
    | head => exact ((bindC_other kd _ r _ hn.1).trans (congrFun (if_neg hk) _)).trans (if_pos rfl)
    | tail _ q => exact ih _ x v hn.2 q hk
theorem HasAll.get' {P : Addr → Prop} {h : Heap} {ds : List D} {vs : List Value} {i : Nat} {d : D} (x : HasAll P h ds vs) (e : ds[i]? = some d) : ∃ v, vs[i]? = some v ∧ Has P h d v := x.get e
theorem mem_zip_get {xs : List Str} {vs : List Value} {i : Nat} {x : Str} {v : Value} (h1 : xs[i]? = some x) (h2 : vs[i]? = some v) : (x, v) ∈ xs.zip vs := by
  apply List.mem_of_getElem? (i := i)
  rw [List.getElem?_zip_eq_some]
  exact ⟨h1, h2⟩

/-- what a def asks of its table -/
structure DefOk (K : Frag) (f : Addr) (fd : FuncData) (body : List Stmt) (xs : List Str) (rest : List (Option Str)) : Prop where
  at_ : ∃ oc od osl, K.lookup f = some ⟨oc, od, .func fd, osl⟩
  body : fd.body = .stmts body
  cor : fd.scope.isCoroutine = false
  gen : fd.scope.isGenerator = false
  kind : fd.scope.kind = .function
  glob : fd.globals = mainGlobals
  blt : fd.builtins = builtinsNs
  clos : fd.closure = []
  code : codeIn K fd.code fd.qualname = true
  bind : ∀ vs : List Value, vs.length = xs.length → bindArgs fd ⟨vs, []⟩ = pure (xs.zip vs)
  nodup : xs.Nodup
  params : ∀ x ∈ xs, fd.scope.names.lookup x = some .local ∨ fd.scope.names.lookup x = some .cell
  nofree : ∀ p ∈ fd.scope.names, p.2 ≠ .free
  nd : (fd.scope.names.map (·.1)).Nodup
  more : ∀ (j : Nat) x, rest[j]? = some (some x) → x ∉ xs

noncomputable def resD (g : List D → Option (Fl × List D)) (k r : Nat) (ds : List D) : Option D := if ds.length = k then match g (ds ++ List.replicate r .undef) with
    | some (.ret d, _) => some d
    | _ => none
  else none

theorem call_of {prog : Program} {w : World} {K : Frag} {n : Nat} {f : Addr} {fd : FuncData} {body : List Stmt} {xs : List Str} {rest : List (Option Str)} {own : Option Nat} {g : List D → Option (Fl × List D)} (ok : DefOk K f fd body xs rest)
    (hown : ∀ i, own = some i → xs.length ≤ i)
    (hb : DenS prog w K n fd.scope.names (xs.map some ++ rest) own body g) : CallOk prog w K (n + 1) (.ref f) (resD g xs.length rest.length) := by
  intro A s P ds vs d Q E hr hg hP hv hf h
  unfold resD at hf
  split at hf
  · rename_i hlen
    split at hf
    · rename_i d' ρ' hgr
      refine byC fun G0 => ?_
      cases hf
      obtain ⟨oc, od, osl, hat⟩ := ok.at_
      have hvl : vs.length = xs.length := by rw [hv.length, hlen]
      obtain ⟨pp, ll, mg, mb, T⟩ := hg.T
      refine G0 ?_
      clear G0
      refine wpAny_call (codeAny_call_function (fd := fd) (body := body) ?_ (hg.X _ _ hat) rfl ok.cor ok.gen ok.body (codeRec_of hg.X ok.code) ?_)
      · have := hr.depth; show A.depth < 1000; omega
      rw [ok.bind vs hvl, ok.glob, ok.clos, ok.blt]
      refine wpAny_pure (wpAny_newFunctionEnv_cells ok.kind (fun p hp => ?_) fun env he s' x => ?_)
      · obtain ⟨a, b⟩ := p
        have hm : a ∈ xs := (List.of_mem_zip hp).1
        rcases ok.params a hm with q | q
        · exact .inl q
        · refine .inr ⟨q, ?_⟩
          obtain ⟨c, hc⟩ := cells_some fd.scope.names (s.heap.objs.size + 1) [] a (.inl (mem_of_lookup' q))
          rw [hc]; rfl
      · obtain ⟨h1, tk1, rfl, ek⟩ := x.done
        refine ⟨T.nolimit.keeps ek, codeAny_func ?_⟩
        have hel : env.locals = s.heap.objs.size := by rw [he]; rfl
        have hec : env.cells = cellsFrom (s.heap.objs.size + 1) fd.scope.names [] := by rw [he]; rfl
        have hes : env.scope = fd.scope := by rw [he]; rfl
        have eo : EnvOk fd.scope.names env := by
          refine ⟨by rw [hes]; exact ok.kind, by rw [hes], by rw [he]; rfl, by rw [he]; rfl, fun y hy => ?_, fun y y' c hc hc' => ?_⟩
          · rw [hec]
            refine cells_some _ _ _ y (.inl ?_)
            rcases hy with q | q
            · exact mem_of_lookup' q
            · exact absurd rfl (ok.nofree _ (mem_of_lookup' q))
          · exact name_of_addr x.apart (mem_of_lookup hc) (mem_of_lookup hc')
        have hcell : ∀ y c, env.cells.lookup y = some c → h1.IsCell c (bindC env.kindOf (xs.zip vs) (fun _ => none) y) := fun y c hc => x.cell y c hc
        have S : Sto env h1 := ⟨⟨_, x.toInCall.ns⟩, fun y c hc => ⟨_, hcell y c hc⟩, eo.apart, fun y c hc q => absurd (x.above y c (mem_of_lookup hc)) (by rw [q]; exact Nat.lt_irrefl _)⟩
        have hmu : ∀ a, Mu env a → s.heap.get? a = none := fun a m => by
          cases q : s.heap.get? a with
          | none => rfl
          | some o =>
            have hlt := Heap.lt_size q
            rcases m with m | ⟨y, hy⟩
            · rw [m] at hlt; exact absurd (Nat.lt_of_lt_of_le hlt x.toInCall.fresh) (Nat.lt_irrefl _)
            · have := x.above y a (mem_of_lookup hy)
              exact absurd (Nat.lt_trans (Nat.lt_of_lt_of_le hlt x.toInCall.fresh) this) (Nat.lt_irrefl _)
        have hrm : Room n (A.deeper env) := ⟨hr.handled, by have := hr.depth; show A.depth + 1 + n ≤ 900; omega, by have := hr.units; show A.units + 3 + 20 * n + 200 ≤ 9000; omega⟩
        have hzn : ((xs.zip vs).map (·.1)).Nodup := by
          have : (xs.zip vs).map (·.1) = xs := by
            rw [List.map_fst_zip]; omega
          rw [this]; exact ok.nodup
        have c : CxS K n fd.scope.names (xs.map some ++ rest) own s.heap (fun a => P a ∧ ¬ Mu env a) env.locals env (A.deeper env) h1 (ds ++ List.replicate rest.length .undef) := by
          refine ⟨eo, hrm, hg, ek, S, hmu, ?_, ?_, fun _ => S.mu (.inl rfl), ?_⟩
          · rintro a ⟨_, q⟩ z
            rcases z with z | z
            · exact q z
            · exact q (.inl z.2)
          · intro a ha
            exact ⟨hP a (none_of_ext ek ha), fun q => by obtain ⟨o, ho⟩ := S.mu q; rw [ha] at ho; cases ho⟩
          · intro i y d' hi hd'
            by_cases hlt : i < ds.length
            · rw [List.getElem?_append_left hlt] at hd'
              rw [List.getElem?_append_left (by simp; omega)] at hi
              have hix : xs[i]? = some y := by
                rw [List.getElem?_map] at hi
                obtain ⟨z, hz, q⟩ := Option.map_eq_some_iff.mp hi
                cases q; exact hz
              obtain ⟨v, hvi, hh⟩ := hv.get hd'
              have hm := mem_zip_get hix hvi
              refine .inr ⟨v, ?_, ?_⟩
              · rcases ok.params y (List.mem_of_getElem? hix) with q | q
                · exact .inl ⟨(eo.kindOf y).trans q, _, x.toInCall.ns, bindL_at _ _ _ y v hzn hm ((eo.kindOf y).trans q)⟩
                · obtain ⟨cc, hcc⟩ := eo.cells y (.inl q)
                  have hk : env.kindOf y = some .cell := (eo.kindOf y).trans q
                  have := hcell y cc hcc
                  rw [bindC_at _ _ _ y v hzn hm (by rw [hk]; intro z; cases z)] at this
                  obtain ⟨o, ho, hd⟩ := this
                  exact .inr ⟨.inl hk, cc, o, hcc, ho, hd⟩
              · have hq : (own == some i) = false := by
                  simp only [beq_eq_false_iff_ne, ne_eq]
                  intro z
                  have := hown i z
                  omega
                rw [hq]
                exact Has.mono (P := P) (fun a o ho p => ⟨⟨p, fun m => by rw [hmu a m] at ho; cases ho⟩, ek a o ho⟩) _ _ hh
            · rw [List.getElem?_append_right (by omega), List.getElem?_replicate] at hd'
              split at hd' <;> cases hd'
              exact .inl rfl
        refine hb env (A.deeper env) _ _ _ _ s.heap _ env.locals _ _ c hgr fun flow h' tk' P' oa' af => ?_
        obtain ⟨v, e, hv'⟩ := af.fl
        subst e
        refine h v h' tk' af.eb (Has.mono (fun a o ho p => ⟨?_, ho⟩) _ _ hv')
        rcases p with p | p
        · exact p.1
        · exact hP a p
    · cases hf
  · cases hf
end Mine
end
section
open PySem PySem.W PyProof.Rows PySem.Calls
set_option Elab.async false
set_option maxRecDepth 100000
namespace Mine

noncomputable def findSlot (x : Str) : List (Option Str) → Option Nat
  | [] => none
  | o :: r => if o == some x then some 0 else (findSlot x r).map (· + 1)
theorem findSlot_get {x : Str} : ∀ {sl : List (Option Str)} {i : Nat}, findSlot x sl = some i → sl[i]? = some (some x)
  | [], _, h => by cases h
  | o :: r, i, h => by
    unfold findSlot at h
    split at h
    · rename_i q; cases h; simpa using q
    · obtain ⟨j, hj, rfl⟩ := Option.map_eq_some_iff.mp h
      simpa using findSlot_get hj
/-- the slot, if it is the only one of that name -/
noncomputable def oneSlot (x : Str) : List (Option Str) → Option Nat
  | [] => none
  | o :: r => if o == some x then (if r.contains (some x) then none else some 0) else (oneSlot x r).map (· + 1)
theorem oneSlot_get {x : Str} : ∀ {sl : List (Option Str)} {i : Nat}, oneSlot x sl = some i → sl[i]? = some (some x) ∧ ∀ (j : Nat) y, sl[j]? = some (some y) → j ≠ i → y ≠ x
  | [], _, h => by cases h
  | o :: r, i, h => by
    unfold oneSlot at h
    split at h
    · rename_i q
      split at h
      · cases h
      · rename_i hc
        cases h
        refine ⟨by simpa using q, fun j y hj hne e => ?_⟩
        cases j with
        | zero => exact hne rfl
        | succ j =>
          simp at hj
          exact hc (by rw [List.contains_iff_mem, ← e]; exact List.mem_of_getElem? hj)
    · rename_i q
      refine byC fun G0 => ?_
      obtain ⟨k, hk, rfl⟩ := Option.map_eq_some_iff.mp h
      obtain ⟨h1, h2⟩ := oneSlot_get hk
      refine G0 ?_
      clear G0
      refine ⟨by simpa using h1, fun j y hj hne e => ?_⟩
      cases j with
      | zero => simp at hj; subst hj; subst e; simp at q
      | succ j => simp at hj; exact h2 j y hj (by omega) e
noncomputable def kindOk (nm : List (Str × NameKind)) (x : Str) : Bool := match nm.lookup x with
  | some .local => true
  | some .cell => true
  | _ => false
theorem kindOk_of {nm : List (Str × NameKind)} {x : Str} (h : kindOk nm x = true) : nm.lookup x = some .local ∨ nm.lookup x = some .cell := by
  unfold kindOk at h
  split at h
  · rename_i q; exact .inl q
  · rename_i q; exact .inr q
  · cases h
noncomputable def nameAt (nm : List (Str × NameKind)) (sl : List (Option Str)) (own : Option Nat) (x : Str) : Option Nat := if kindOk nm x then (oneSlot x sl).bind fun i => if own == some i then none else some i else none
theorem nameAt_ok {nm : List (Str × NameKind)} {sl : List (Option Str)} {own : Option Nat} {x : Str} {i : Nat} (h : nameAt nm sl own x = some i) : NameOk nm sl own x i := by
  unfold nameAt at h
  split at h
  · rename_i hk
    refine byC fun G1 => ?_
    obtain ⟨j, hj, h⟩ := Option.bind_eq_some_iff.mp h
    replace h := ifn h
    obtain ⟨ho, h⟩ := h
    cases h
    refine G1 ?_
    clear G1
    exact ⟨(oneSlot_get hj).1, (oneSlot_get hj).2, by simpa using ho, kindOk_of hk⟩
  · cases h
noncomputable def ownAt (nm : List (Str × NameKind)) (sl : List (Option Str)) (x : Str) (i : Nat) : Bool := kindOk nm x && oneSlot x sl == some i
noncomputable def compOkB (nm : List (Str × NameKind)) (scope : Scope) (x : Str) : Bool :=
  scope.kind == .function && decide (scope.names.map (·.1)).Nodup && (scope.names.all fun p => p.2 != .free || nm.lookup p.1 == some .cell || nm.lookup p.1 == some .free) && kindOk scope.names x
theorem compOkB_ok {nm : List (Str × NameKind)} {scope : Scope} {x : Str} (h : compOkB nm scope x = true) : CompOk nm scope x := by
  unfold compOkB at h
  simp only [Bool.and_eq_true, decide_eq_true_eq, beq_iff_eq] at h
  refine byC fun G2 => ?_
  obtain ⟨⟨⟨h1, h2⟩, h3⟩, h4⟩ := h
  refine G2 ?_
  clear G2
  refine ⟨h1, h2, fun p hp hf => ?_, kindOk_of h4⟩
  have := List.all_eq_true.mp h3 p hp
  rw [hf] at this
  simp at this
  exact this
noncomputable def defOkB (fd : FuncData) (xs : List Str) (rest : List (Option Str)) : Bool :=
  fd.scope.isCoroutine == false && fd.scope.isGenerator == false && fd.scope.kind == .function && fd.globals == mainGlobals && fd.builtins == builtinsNs && fd.closure.isEmpty && decide xs.Nodup && (xs.all fun x => kindOk fd.scope.names x) &&
  (fd.scope.names.all fun p => p.2 != .free) && decide (fd.scope.names.map (·.1)).Nodup && (rest.all fun o => o.all fun x => !xs.contains x)
theorem defOk_of {K : Frag} {f : Addr} {fd : FuncData} {body : List Stmt} {xs : List Str} {rest : List (Option Str)} (h1 : ∃ oc od osl, K.lookup f = some ⟨oc, od, .func fd, osl⟩) (h2 : fd.body = .stmts body) (h3 : codeIn K fd.code fd.qualname = true)
    (h4 : ∀ vs : List Value, vs.length = xs.length → bindArgs fd ⟨vs, []⟩ = pure (xs.zip vs)) (h : defOkB fd xs rest = true) : DefOk K f fd body xs rest := by
  unfold defOkB at h
  simp only [Bool.and_eq_true, decide_eq_true_eq, beq_iff_eq] at h
  refine byC fun G3 => ?_
  obtain ⟨⟨⟨⟨⟨⟨⟨⟨⟨⟨a1, a2⟩, a3⟩, a4⟩, a5⟩, a6⟩, a7⟩, a8⟩, a9⟩, a10⟩, a11⟩ := h
  refine G3 ?_
  clear G3
  refine ⟨h1, h2, a1, a2, a3, a4, a5, List.isEmpty_iff.mp a6, h3, h4, a7, fun x hx => kindOk_of (List.all_eq_true.mp a8 x hx), fun p hp => by simpa using List.all_eq_true.mp a9 p hp, a10, fun j x hj hx => ?_⟩
  have := List.all_eq_true.mp a11 _ (List.mem_of_getElem? hj)
  simp at this
  exact this hx

section
variable {prog : Program} {w : World} {K : Frag} {n : Nat} {nm : List (Str × NameKind)} {sl : List (Option Str)} {own : Option Nat}
theorem a_var {x : Str} {pos : Pos} {i : Nat} (hi : findSlot x sl = some i) (hd : (x == ("__debug__" : Str)) = false) (hn : (x == ("__classdict__" : Str)) = false) : Den prog w K n nm sl (.Name x pos) (var i) :=
  den_var i (findSlot_get hi) hd hn
theorem a_assign {x : Str} {px pos : Pos} {e : Expr} {f : List D → Option D} {i : Nat} (hx : nameAt nm sl own x = some i) (hs : ∀ env, swapsWith e (some (.Name x px)) pos.line env = pure false) (h1 : Den prog w K n nm (hide own sl) e f) :
    Den1 prog w K n nm sl own (.Assign [.Name x px] e pos) (fun ρ => (f ρ).bind fun d => setS i ρ d) := den1_assign i (nameAt_ok hx) h1 hs
theorem a_assignF {x : Str} {px pos : Pos} {e : Expr} {f : List D → Option D} {i : Nat} (hx : nameAt nm sl own x = some i) (hs : ∀ env, swapsWith e (some (.Name x px)) pos.line env = pure false) (h1 : Den prog w K n nm sl e f) :
    Den1 prog w K n nm sl own (.Assign [.Name x px] e pos) (fun ρ => (f ρ).bind fun d => if d.flat then setS i ρ d else none) := den1_assignF i (nameAt_ok hx) h1 hs
theorem a_for {x : Str} {px pos : Pos} {it : Expr} {b o : List Stmt} {fi : List D → Option (List D)} {gb ge : List D → Option (Fl × List D)} {i : Nat} (hx : nameAt nm sl own x = some i) (hs : ∀ env v, foldedSetIterable it env v = pure v)
    (h0 : DenI prog w K n nm (hide own sl) it fi) (h1 : DenS prog w K n nm sl own b gb) (h2 : DenS prog w K n nm sl own o ge) :
    Den1 prog w K n nm sl own (.For (.Name x px) it b o pos) (fun ρ => (fi ρ).bind fun ds => forD i gb ge ds ρ) := den1_for i (nameAt_ok hx) h0 h1 h2 hs
theorem a_aug {x : Str} {px pos : Pos} {op : Operator} {e : Expr} {f : List D → Option D} {i : Nat} (hx : nameAt nm sl own x = some i) (hcd : (x == ("__classdict__" : Str)) = false) (h1 : Den prog w K n nm sl e f) :
    Den1 prog w K n nm sl own (.AugAssign (.Name x px) op e pos) (fun ρ => (var i ρ).bind fun a => (f ρ).bind fun b => (augD op a b).bind fun d => setS i ρ d) := den1_aug i (nameAt_ok hx) h1 hcd
theorem a_new {x : Str} {px pos : Pos} {e : Expr} {f : List D → Option (List D)} {i : Nat} (hx : ownAt nm sl x i = true) (hs : ∀ env, swapsWith e (some (.Name x px)) pos.line env = pure false) (h1 : DenN prog w K n nm (hide (some i) sl) e f) :
    Den1 prog w K n nm sl (some i) (.Assign [.Name x px] e pos) (fun ρ => (f ρ).bind fun ds => setS i ρ (.list ds)) := by
  unfold ownAt at hx
  simp only [Bool.and_eq_true, beq_iff_eq] at hx
  exact den1_new i (oneSlot_get hx.2).1 (oneSlot_get hx.2).2 (kindOk_of hx.1) h1 hs
theorem a_append {x : Str} {p ap cp pos : Pos} {e : Expr} {f : List D → Option D} {i : Nat} (hx : ownAt nm sl x i = true) (hd0 : (x == ("__debug__" : Str)) = false) (hcd : (x == ("__classdict__" : Str)) = false) (hse : ∀ env, starEach [e] env = [(false, eval e env)]) (hline : (ap.endLine == cp.line) = true)
    (h1 : Den prog w K n nm sl e f) : Den1 prog w K n nm sl (some i) (.Expr (.Call (.Attribute (.Name x p) ("append" : Str) ap) [e] [] cp) pos)
      (fun ρ => (listAt i ρ).bind fun ds => (f ρ).bind fun d => if d.flat ∧ ds.length ≤ 100000 then some (.next, ρ.set i (.list (ds ++ [d]))) else none) := by
  unfold ownAt at hx
  simp only [Bool.and_eq_true, beq_iff_eq] at hx
  exact den1_append i (oneSlot_get hx.2).1 h1 hd0 hcd hse hline
theorem a_comp {elt iter : Expr} {ifs : List Expr} {scope : Scope} {pos px : Pos} {x : Str} {fi : List D → Option (List D)} {ft : List D → Option Bool} {fe : List D → Option D}
    (ok : compOkB nm scope x = true) (hs : ∀ env v, foldedSetIterable iter env v = pure v)
    (hi : DenI prog w K n nm sl iter fi) (ht : DenIf prog w K n (relab nm scope.names) (some x :: capt scope.names sl) ifs ft) (he : Den prog w K n (relab nm scope.names) (some x :: capt scope.names sl) elt fe) :
    Den prog w K n nm sl (.ListComp elt [⟨.Name x px, iter, ifs, 0⟩] scope pos) (fun ρ => (fi ρ).bind fun ds => if ds.length ≤ 1000000 then (compD ft fe ρ ds).map .list else none) := den_comp hi ht he (compOkB_ok ok) hs
end
end Mine
end
section
open PySem PySem.W PyProof.Rows PySem.Calls
set_option Elab.async false
set_option maxRecDepth 100000
namespace PySem
open Builtin Builtin.Str
end PySem
namespace Mine
open PySem.Builtin PySem.Builtin.Str

theorem HasAll.strs {P : Addr → Prop} {h : Heap} : ∀ {ds : List D} {vs : List Value} {xs : List Str}, HasAll P h ds vs → strsD ds = some xs → ∃ l, vs = strValues l ∧ l.map (·.1) = xs
  | [], _, _, x, e => by cases x; cases e; exact ⟨[], rfl, rfl⟩
  | d :: r, _, _, x, e => by
    refine byC fun G0 => ?_
    obtain ⟨i, ms, rfl, hm, rfl⟩ := strsD_cons e
    obtain ⟨v, r', rfl, ⟨t, rfl⟩, b⟩ := x
    obtain ⟨l, rfl, hl⟩ := b.strs hm
    refine G0 ?_
    clear G0
    exact ⟨(i, t) :: l, rfl, congrArg (i :: ·) hl⟩
theorem hasAll_strs {P : Addr → Prop} {h : Heap} : ∀ (l : List (Str × Tok)), HasAll P h (l.map fun p => .str p.1) (strValues l)
  | [] => rfl
  | (x, t) :: r => ⟨.str x t, strValues r, rfl, ⟨t, rfl⟩, hasAll_strs r⟩

section
variable {prog : Program} {w : World} {K : Frag} {n : Nat} {nm : List (Str × NameKind)} {sl : List (Option Str)} {own : Option Nat}

noncomputable def joinD (x : Str) (ds : List D) : Option D := (strsD ds).bind fun xs => if JoinOk x xs then some (.str (Txt.join x xs)) else none
theorem den_join {o e : Expr} {ap pos : Pos} {f g : List D → Option D} (hb : ∀ env, attributeBase o ("join" : Str) env (eval o env) = eval o env) (hs : ∀ env, starEach [e] env = [(false, eval e env)]) (hl : (ap.endLine == pos.line) = true)
    (h1 : Den prog w K n nm sl o f) (h2 : Den prog w K n nm sl e g) :
    Den prog w K n nm sl (.Call (.Attribute o ("join" : Str) ap) [e] [] pos) (fun ρ => (f ρ).bind fun a => (g ρ).bind fun b => (asS a).bind fun x => (asL b).bind fun ds => joinD x ds) := by
  intro env A s ρ d P Q E c hf h
  replace hf := bb4 hf
  refine byC fun G1 => ?_
  obtain ⟨a, ha, b, hb', x, hx, ds, hds, hf⟩ := hf
  refine G1 ?_
  clear G1
  cases asS_some hx; cases asL_some hds
  refine byC fun G2 => ?_
  obtain ⟨xs, hxs, hf⟩ := bb1 hf
  obtain ⟨hok, rfl⟩ := ifs hf
  refine G2 ?_
  clear G2
  refine Call_method1 (hb env) (hs env) hl (h1 env A s ρ _ P _ _ c ha fun v h' tk e1 hv => ?_)
  obtain ⟨t, rfl⟩ := hv
  refine SB.join (h2 env A _ ρ _ P _ _ (c.ext e1) hb' fun v' h'' tk' e2 hv' => ?_)
  refine byC fun G3 => ?_
  obtain ⟨l, vs, rfl, pl, hpl, hal⟩ := hv'
  obtain ⟨ls, rfl, hm⟩ := hal.strs hxs
  refine G3 ?_
  clear G3
  exact ⟨l, ls, rfl, hpl.isList, xs, hm, hok, fun t' k => h _ _ _ (e1.trans e2) ⟨_, rfl⟩⟩
theorem den_startswith {o e : Expr} {ap pos : Pos} {f g : List D → Option D} (hb : ∀ env, attributeBase o ("startswith" : Str) env (eval o env) = eval o env) (hs : ∀ env, starEach [e] env = [(false, eval e env)]) (hl : (ap.endLine == pos.line) = true)
    (h1 : Den prog w K n nm sl o f) (h2 : Den prog w K n nm sl e g) :
    Den prog w K n nm sl (.Call (.Attribute o ("startswith" : Str) ap) [e] [] pos) (fun ρ => (f ρ).bind fun a => (g ρ).bind fun b => (asS a).bind fun x => (asS b).bind fun y => some (.bool (Txt.startswith x y))) := by
  intro env A s ρ d P Q E c hf h
  replace hf := bb4 hf
  refine byC fun G4 => ?_
  obtain ⟨a, ha, b, hb', x, hx, y, hy, hf⟩ := hf
  refine G4 ?_
  clear G4
  cases asS_some hx; cases asS_some hy
  cases hf
  refine Call_method1 (hb env) (hs env) hl (h1 env A s ρ _ P _ _ c ha fun v h' tk e1 hv => ?_)
  obtain ⟨t, rfl⟩ := hv
  refine SB.startswith (h2 env A _ ρ _ P _ _ (c.ext e1) hb' fun v' h'' tk' e2 hv' => ?_)
  obtain ⟨t', rfl⟩ := hv'
  exact ⟨_, _, rfl, h _ _ _ (e1.trans e2) rfl⟩
theorem den_endswith {o e : Expr} {ap pos : Pos} {f g : List D → Option D} (hb : ∀ env, attributeBase o ("endswith" : Str) env (eval o env) = eval o env) (hs : ∀ env, starEach [e] env = [(false, eval e env)]) (hl : (ap.endLine == pos.line) = true)
    (h1 : Den prog w K n nm sl o f) (h2 : Den prog w K n nm sl e g) :
    Den prog w K n nm sl (.Call (.Attribute o ("endswith" : Str) ap) [e] [] pos) (fun ρ => (f ρ).bind fun a => (g ρ).bind fun b => (asS a).bind fun x => (asS b).bind fun y => some (.bool (Txt.endswith x y))) := by
  intro env A s ρ d P Q E c hf h
  replace hf := bb4 hf
  refine byC fun G5 => ?_
  obtain ⟨a, ha, b, hb', x, hx, y, hy, hf⟩ := hf
  refine G5 ?_
  clear G5
  cases asS_some hx; cases asS_some hy
  cases hf
  refine Call_method1 (hb env) (hs env) hl (h1 env A s ρ _ P _ _ c ha fun v h' tk e1 hv => ?_)
  obtain ⟨t, rfl⟩ := hv
  refine SB.endswith (h2 env A _ ρ _ P _ _ (c.ext e1) hb' fun v' h'' tk' e2 hv' => ?_)
  obtain ⟨t', rfl⟩ := hv'
  exact ⟨_, _, rfl, h _ _ _ (e1.trans e2) rfl⟩
theorem find_range (x y : Str) (i j : Int) (t u v z : Tok) : Gives («str.find» ⟨[.str x t, .str y u, .int i v, .int j z], []⟩) (.int (match occurrences x y (fromIndex x.length i) (min (fromIndex x.length j) x.length) 1 with | k :: _ => (k : Int) | [] => -1)) := by
  show Gives (match occurrences x y (fromIndex x.length i) (min (fromIndex x.length j) x.length) 1 with | k :: _ => retInt k | [] => (do rule "str.find.not-found"; retInt (-1))) _
  cases occurrences x y (fromIndex x.length i) (min (fromIndex x.length j) x.length) 1 with
  | nil => exact .rule (.of_eq rfl)
  | cons k _ => exact .of_eq rfl
noncomputable def find4 (x y : Str) (i j : Int) : Int := match occurrences x y (fromIndex x.length i) (min (fromIndex x.length j) x.length) 1 with | k :: _ => (k : Int) | [] => -1
theorem den_find {o e1 e2 e3 : Expr} {ap pos : Pos} {f g1 g2 g3 : List D → Option D} (hb : ∀ env, attributeBase o ("find" : Str) env (eval o env) = eval o env)
    (he1 : ∀ env, starEach [e1, e2, e3] env = (false, eval e1 env) :: starEach [e2, e3] env) (he2 : ∀ env, starEach [e2, e3] env = (false, eval e2 env) :: starEach [e3] env) (he3 : ∀ env, starEach [e3] env = (false, eval e3 env) :: starEach [] env) (hl : (ap.endLine == pos.line) = true)
    (h0 : Den prog w K n nm sl o f) (h1 : Den prog w K n nm sl e1 g1) (h2 : Den prog w K n nm sl e2 g2) (h3 : Den prog w K n nm sl e3 g3) :
    Den prog w K n nm sl (.Call (.Attribute o ("find" : Str) ap) [e1, e2, e3] [] pos)
      (fun ρ => (f ρ).bind fun a => (g1 ρ).bind fun b => (g2 ρ).bind fun c => (g3 ρ).bind fun d => (asS a).bind fun x => (asS b).bind fun y => (asI c).bind fun i => (asI d).bind fun j => some (.int (find4 x y i j))) := by
  intro env A s ρ d P Q E c hf h
  replace hf := bb4 hf
  refine byC fun G6 => ?_
  obtain ⟨a, ha, b, hb', c', hc', d', hd', hf⟩ := hf
  replace hf := bb4 hf
  obtain ⟨x, hx, y, hy, i, hi, j, hj, hf⟩ := hf
  refine G6 ?_
  clear G6
  cases asS_some hx; cases asS_some hy; cases asI_some hi; cases asI_some hj
  cases hf
  refine wpAny_Call_method_lateS (hb env) (by rw [he1, he2, he3]; rfl) hl (h0 env A s ρ _ P _ _ c ha fun v h' tk e1 hv => ?_)
  obtain ⟨t, rfl⟩ := hv
  refine ⟨"str", "str.find", F.plainAttrs_str, F.slot_str_find, F.type_str_find, typeIs_str _ _ _, (fun _ e => nomatch e), ?_⟩
  refine callWith_method1 (args_cons (h1 env A _ ρ _ P _ _ (c.ext e1) hb' fun v1 h1' tk1 q1 hv1 => args_cons (h2 env A _ ρ _ P _ _ ((c.ext e1).ext q1) hc' fun v2 h2' tk2 q2 hv2 => args_cons (h3 env A _ ρ _ P _ _ (((c.ext e1).ext q1).ext q2) hd' fun v3 h3' tk3 q3 hv3 => args_nil ?_) (he3 env)) (he2 env)) (he1 env)) (he1 env) (by rw [he2, he3]; rfl)
  refine byC fun G7 => ?_
  obtain ⟨t1, rfl⟩ := hv1
  obtain ⟨t2, rfl⟩ := hv2
  obtain ⟨t3, rfl⟩ := hv3
  refine G7 ?_
  clear G7
  exact call_gives F.slot_str_find (typeIs_str _ _ _) F.entry_str_find (F.args_str_find_4 _ _ _ _) (find_range _ _ _ _ _ _ _ _) (h _ _ _ (((e1.trans q1).trans q2).trans q3) ⟨_, rfl⟩)

/-- x.split(y): a list of one's own -/
theorem denN_split {o e : Expr} {ap pos : Pos} {f g : List D → Option D} (hb : ∀ env, attributeBase o ("split" : Str) env (eval o env) = eval o env) (hs : ∀ env, starEach [e] env = [(false, eval e env)]) (hl : (ap.endLine == pos.line) = true)
    (h1 : Den prog w K n nm sl o f) (h2 : Den prog w K n nm sl e g) :
    DenN prog w K n nm sl (.Call (.Attribute o ("split" : Str) ap) [e] [] pos) (fun ρ => (f ρ).bind fun a => (g ρ).bind fun b => (asS a).bind fun x => (asS b).bind fun y =>
      if x.length ≤ 100000 ∧ y.length ≠ 0 ∧ (partsBetween x (occurrences x y 0 x.length (x.length + 1)) y.length).length ≤ 100000 then some ((Txt.split x y).map .str) else none) := by
  intro env A s ρ ds P Q E c hf h
  replace hf := bb4 hf
  refine byC fun G8 => ?_
  obtain ⟨a, ha, b, hb', x, hx, y, hy, hf⟩ := hf
  refine G8 ?_
  clear G8
  cases asS_some hx; cases asS_some hy
  obtain ⟨hle, rfl⟩ := ifs hf
  refine Call_method1 (hb env) (hs env) hl (h1 env A s ρ _ P _ _ c ha fun v h' tk e1 hv => ?_)
  obtain ⟨t, rfl⟩ := hv
  have hx : x.length ≤ sizeLine := szl hle.1
  refine ⟨"str", _, F.plainAttrs_str, F.slot_str_split, F.type_str_split, typeIs_str _ _ _, (fun _ e => nomatch e),
    method1_meets F.slot_str_split F.entry_str_split (h2 env A _ ρ _ P _ _ (c.ext e1) hb' fun v' h'' tk' e2 hv' => ?_)⟩
  obtain ⟨u, rfl⟩ := hv'
  refine ⟨typeIs_str _ _ _, F.args_str_split_2 _ _, ?_⟩
  have hn : (partsBetween x (occurrences x y 0 x.length (x.length + 1)) y.length).length ≤ sizeLine := szl hle.2.2
  have hy : (y.length == 0) = false := by simpa using hle.2.1
  have e12 := e1.trans e2
  have fin : ∀ (l : List (Str × Tok)) (k : Nat), l.map (·.1) = Txt.split x y → Q (.ref h''.objs.size) { s with heap := h''.push { cls := .type "list", data := .seq (strValues l).toArray }, toks := k } := fun l k hm => by
    refine h _ (strValues l) _ _ (e12.trans (.push _)) (none_of_ext e12 (size_none _)) ⟨0, Heap.get?_push_size _ rfl⟩ ?_
    rw [← hm, List.map_map]
    exact hasAll_strs l
  cases h1 : (decide (x.length < y.length) || decide (strKind x < strKind y))
  · cases hf : (occurrences x y 0 x.length (x.length + 1)).isEmpty
    · refine ⟨_, meets_str_split_sep x y t u h1 hy hf hx hn, ?_⟩
      show wants Q E _ { ({ s with heap := h'', toks := tk' } : Shared) with toks := _, heap := h''.push { cls := .type "list", data := .seq (strsFrom tk' (partsBetween x (occurrences x y 0 x.length (x.length + 1)) y.length)).toArray } }
      rw [strsFrom_eq]
      exact fin (numbered tk' _) _ ((numbered_texts _ _).trans ((if_neg (ne_true_of_eq_false h1)).trans (if_neg (ne_true_of_eq_false hf))).symm)
    · exact ⟨_, meets_str_split_not_found x y t u h1 hy hf, fin [(x, t)] tk' ((if_neg (ne_true_of_eq_false h1)).trans (if_pos hf)).symm⟩
  · exact ⟨_, meets_str_split_cannot_occur x y t u h1, fin [(x, t)] tk' (if_pos h1).symm⟩

/-- del x[k], x owned -/
noncomputable def delAt (ds : List D) (k : Int) : Option (List D) := match seqIndex? k ds.length with
  | some j => some (ds.eraseIdx j)
  | none => none
theorem HasAll.eraseIdx {P : Addr → Prop} {h : Heap} : ∀ {ds : List D} {vs : List Value} (k : Nat), HasAll P h ds vs → HasAll P h (ds.eraseIdx k) (vs.eraseIdx k)
  | [], _, _, x => by cases x; exact rfl
  | _ :: _, _, 0, x => by obtain ⟨v, r, q, a, b⟩ := x; subst q; exact b
  | _ :: _, _, k + 1, x => by obtain ⟨v, r, q, a, b⟩ := x; subst q; exact ⟨v, _, rfl, a, b.eraseIdx k⟩
theorem den1_del {x : Str} {p ip pos : Pos} {e : Expr} {f : List D → Option D} {i : Nat} (hx : ownAt nm sl x i = true) (hd0 : (x == ("__debug__" : Str)) = false) (hcd : (x == ("__classdict__" : Str)) = false) (h1 : Den prog w K n nm sl e f) :
    Den1 prog w K n nm sl (some i) (.Delete [.Subscript (.Name x p) e ip] pos)
      (fun ρ => (listAt i ρ).bind fun ds => (f ρ).bind fun d => (intD d).bind fun k => if -1000 ≤ k ∧ k ≤ 1000 ∧ ds.length ≤ 100000 then (delAt ds k).map fun r => (.next, ρ.set i (.list r)) else none) := by
  first | refine den1_of fun env A s ρ T base P oa Q E c hf h => ?_ | refine denS_of fun env A s ρ T base P oa Q E c hf h => ?_
  unfold ownAt at hx
  simp only [Bool.and_eq_true, beq_iff_eq] at hx
  have hi := (oneSlot_get hx.2).1
  replace hf := bb3 hf
  refine byC fun G9 => ?_
  obtain ⟨ds, hds, d, hd, k, hk, hf⟩ := hf
  refine G9 ?_
  clear G9
  split at hf
  · rename_i hle
    refine byC fun G10 => ?_
    obtain ⟨r, hr, e⟩ := Option.map_eq_some_iff.mp hf
    cases e
    have hds' := listAt_some hds
    obtain ⟨vs, rr, hpl, hal⟩ := owned_at c hi hds'
    refine G10 ?_
    clear G10
    refine wpAny_Delete (wpAny_deleteEach_cons (wpAny_delete_Subscript (wpAny_Name (rd_load c.eok.kind rr hcd ?_) hd0)))
    refine h1 env A s ρ d _ _ _ c.cx hd fun v h' tk e1 hv => ?_
    refine byC fun G11 => ?_
    obtain ⟨t, rfl⟩ := hv.isInt hk
    obtain ⟨vs1, _, hpl1, hal1⟩ := owned_at (c.ext e1) hi hds'
    refine G11 ?_
    clear G11
    have hlen := hal1.length
    unfold delAt at hr
    split at hr
    · rename_i j hj
      cases hr
      refine wpAny_delItem_plain (s := { s with heap := h', toks := tk }) (k := j) hpl1 (by simp [Builtin.List.listFitsIndex]; omega) (by rw [List.size_toArray, hlen]; exact hj) (fun h2 hl2 hs2 => wpAny_deleteEach_nil ?_) (by rw [List.size_toArray, sizeLine_eq]; omega)
      have kb : KeepBut (fun a => a = oa) h' h2 := .of_same hs2 rfl
      have hpo : ∀ a, P a → ¬ a = oa := fun a p q => c.pmu a p (.inr ⟨by simp, q⟩)
      refine h _ _ _ P oa (Aft.pre c e1 (ownUpd (vs' := vs1.eraseIdx j) (c.ext e1) hi hds' hs2 ?_ ?_))
      · have : vs1.toArray.eraseIdxIfInBounds j = (vs1.eraseIdx j).toArray := by
          unfold Array.eraseIdxIfInBounds
          split
          · simp
          · rename_i q; rw [List.eraseIdx_of_length_le (by simpa using q)]
        rw [← this]; exact hl2
      · exact (hal1.eraseIdx j).keep kb hpo
    · cases hr
  · cases hf

/-- the list is let stand: it is no longer owned -/
theorem denS_freeze {ss : List Stmt} {g : List D → Option (Fl × List D)} {i : Nat} (h1 : DenS prog w K n nm sl none ss g) :
    DenS prog w K n nm sl (some i) ss (fun ρ => (g ρ).bind fun p => if p.1.isRet then some p else none) := by
  intro env A s ρ fl ρ' base P oa Q E c hf h
  refine byC fun G12 => ?_
  obtain ⟨⟨fl1, ρ1⟩, hg, hf⟩ := Option.bind_eq_some_iff.mp hf
  replace hf := ifs hf
  obtain ⟨hr, hf⟩ := hf
  cases hf
  refine G12 ?_
  clear G12
  have c1 : CxS K n nm sl none base (fun a => P a ∨ (a = oa ∧ base.get? a = none ∧ ¬ Mu env a)) oa env A s.heap ρ := by
    refine ⟨c.eok, c.room, c.gd, c.eb, c.sto, c.mub, ?_, fun a ha => .inl (c.fresh a ha), fun q => absurd rfl q, ?_⟩
    · rintro a (p | ⟨q1, q2, q3⟩) z
      · rcases z with z | z
        · exact c.pmu a p (.inl z)
        · exact z.1 rfl
      · rcases z with z | z
        · exact q3 z
        · exact z.1 rfl
    · intro j y d hj hd
      refine (c.slots j y d hj hd).imp id fun ⟨v, r, so⟩ => ⟨v, r, ?_⟩
      have hq : ((none : Option Nat) == some j) = false := rfl
      rw [hq]
      cases hq' : ((some i : Option Nat) == some j) with
      | true =>
        rw [hq'] at so
        refine byC fun G13 => ?_
        obtain ⟨ds, vs, rfl, rfl, hl, hal, hb, hm⟩ := so
        refine G13 ?_
        clear G13
        exact ⟨oa, vs, rfl, .inr ⟨rfl, hb, hm⟩, hl, HasAll.mono (fun a o ho p => ⟨.inl p, ho⟩) _ _ hal⟩
      | false =>
        rw [hq'] at so
        exact Has.mono (P := P) (fun a o ho p => ⟨.inl p, ho⟩) _ _ so
  refine h1 env A s ρ _ _ base _ oa _ _ c1 hg fun flow h' tk P' oa' af => ?_
  refine h flow h' tk P oa ⟨fun b o nb e => af.keep b o (fun q => nb (q.elim .inl fun z => absurd rfl z.1)) e, af.eb, fun _ p => p, fun _ _ _ p => p, .inl rfl, fun q => (by rw [hr] at q; cases q), ?_⟩
  have := af.fl
  cases fl with
  | ret d => obtain ⟨v, e, hv⟩ := this; exact ⟨v, e, Has.mono (fun a o ho p => ⟨p.elim (fun q => q.elim .inl fun z => .inr z.2.1) .inr, ho⟩) _ _ hv⟩
  | next => cases hr
  | brk => cases hr
  | cont => cases hr
end
end Mine
end
section
open PySem PySem.W PyProof.Rows PySem.Calls
set_option Elab.async false
set_option maxRecDepth 100000
namespace Mine
section
variable {prog : Program} {w : World} {K : Frag} {n : Nat} {nm : List (Str × NameKind)} {sl : List (Option Str)} {own : Option Nat}

/-! a table of the top, by ints -/
noncomputable def keysIntB (es : Array DictEntry) : Bool := es.toList.all fun e => match e.key with
  | .int i _ => e.hash == hashInt i
  | _ => false
noncomputable def getTab (es : Array DictEntry) (i : Int) (d : D) : Option D := match findBy Value.isInt es i with
  | some (.str y _) => some (.str y)
  | some _ => none
  | none => some d
theorem den_get {x : Str} {a : Addr} {es : Array DictEntry} {m : Nat} {p ap pos : Pos} {e1 e2 : Expr} {f g : List D → Option D} (hx : nm.lookup x = some .globalImplicit) (hg : nsIn K mainGlobals x = some (some (.ref a))) (hd : (x == ("__debug__" : Str)) = false)
    (hl : K.lookup a = some ⟨.type "dict", none, .dict es m, #[]⟩) (hk : keysIntB es = true) (ha : (a == sysModules) = false)
    (he1 : ∀ env, starEach [e1, e2] env = (false, eval e1 env) :: starEach [e2] env) (he2 : ∀ env, starEach [e2] env = (false, eval e2 env) :: starEach [] env) (hline : (ap.endLine == pos.line) = true)
    (h1 : Den prog w K n nm sl e1 f) (h2 : Den prog w K n nm sl e2 g) :
    Den prog w K n nm sl (.Call (.Attribute (.Name x p) ("get" : Str) ap) [e1, e2] [] pos) (fun ρ => (f ρ).bind fun a => (g ρ).bind fun d => if d.flat then (intD a).bind fun i => getTab es i d else none) := by
  intro env A s ρ d P Q E c hf h
  replace hf := bb2 hf
  obtain ⟨av, hav, dv, hdv, hf⟩ := hf
  split at hf
  · rename_i hfl
    obtain ⟨i, hi, hf⟩ := Option.bind_eq_some_iff.mp hf
    have mp : ∀ h', Ext s.heap h' → h'.MapOf (intKind prog w) a (fun k => findBy Value.isInt es k) := fun h' e => by
      refine ⟨_, es, m, (c.gd.ext e).X _ _ hl, ⟨rfl, rfl, rfl⟩, rfl, fun en hen => ?_, fun _ => rfl⟩
      have := List.all_eq_true.mp hk en (Array.mem_toList_iff.mpr hen)
      revert this
      cases hkey : en.key <;> intro this <;> first | cases this | skip
      rename_i k t
      exact ⟨k, by simp [intKind, Value.isInt], beq_iff_eq.mp this⟩
    refine wpAny_Call_method_lateS rfl (by rw [he1, he2]; rfl) hline (gname c.eok c.gd hx hg hd ?_)
    refine ⟨"dict", "dict.get", PySem.F.plainAttrs_dict, PySem.F.slot_dict_get, PySem.F.type_dict_get, (mp _ .refl).typeIs, (mp _ .refl).noDict, ?_⟩
    refine callWith_method1 (args_cons (h1 env A s ρ _ P _ _ c hav fun v1 h1' tk1 q1 hv1 => args_cons (h2 env A _ ρ _ P _ _ (c.ext q1) hdv fun v2 h2' tk2 q2 hv2 => args_nil ?_) (he2 env)) (he1 env)) (he1 env) (by rw [he2]; rfl)
    obtain ⟨t1, rfl⟩ := hv1.isInt hi
    have e12 := q1.trans q2
    refine call_meetsIn PySem.F.slot_dict_get (mp _ e12).typeIs PySem.F.entry_dict_get (PySem.F.args_dict_get_3 _ _ _) (meets_dict_get_default (intKind prog w) a (intKind_is prog w i t1) ha v2) ⟨_, mp _ e12, ?_⟩
    unfold getTab at hf
    split at hf
    · rename_i y t hq
      cases hf
      rw [hq]
      exact h _ _ _ e12 ⟨t, rfl⟩
    · cases hf
    · rename_i hq
      cases hf
      rw [hq]
      exact h _ _ _ e12 hv2
  · cases hf

/-! two names at once -/
theorem swapped2 {env : Env} {a b : Str} {pa pb tp vp : Pos} {k k' : Nat} {e1 e2 : Expr} (eo : EnvOk nm env) (ha : nm.lookup a = some .local) (hb : nm.lookup b = some .local) (hl : (pa.line == pb.line) = true) (hab : (a == b) = false)
    (hst : ([e1, e2].any fun | .Starred .. => true | _ => false) = false) (hf : ([e1, e2].all (foldedForSure 8)) = false) (hc : ([e1, e2].all (constantsAlone 8)) = false) :
    swappedStores [.Tuple [.Name a pa, .Name b pb] k tp] (.Tuple [e1, e2] k' vp) env = pure (some [a, b]) := by
  have hl' : pb.line = pa.line := (beq_iff_eq.mp hl).symm
  have hab' : a ≠ b := by simpa using hab
  have hk1 : env.kindOf a = some .local := (eo.kindOf a).trans ha
  have hk2 : env.kindOf b = some .local := (eo.kindOf b).trans hb
  have hbk : env.blockKind = .function := by unfold Env.blockKind; rw [eo.kind]; rfl
  have hn : List.eraseDups [a, b] = [a, b] := by
    rw [List.eraseDups_cons, List.filter_cons]
    simp [Ne.symm hab', List.eraseDups_cons]
  have hpos : ∀ (x : Str) (p : Pos), (Expr.Name x p).pos = p := fun _ _ => rfl
  unfold swappedStores
  simp only [List.length_cons, List.length_nil, hbk, hst, hf, hc, List.filterMap_cons, List.filterMap_nil, hk1, hk2, hl', List.head?_cons, Option.map_some, Option.getD_some, hpos, beq_self_eq_true, Bool.and_true, if_true, hn]
  rw [if_neg (by decide)]
  split
  · rename_i h
    have h' : ([e1, e2].any fun | .Starred .. => true | _ => false) = true := h
    rw [hst] at h'
    cases h'
  · rfl
theorem den1_tup2 {a b : Str} {pa pb tp vp pos : Pos} {k k' : Nat} {e1 e2 : Expr} {f g : List D → Option D} {i j : Nat} (ha : nameAt nm sl own a = some i) (hb : nameAt nm sl own b = some j)
    (hka : nm.lookup a = some .local) (hkb : nm.lookup b = some .local) (hl : (pa.line == pb.line) = true) (hab : (a == b) = false)
    (hst : ([e1, e2].any fun | .Starred .. => true | _ => false) = false) (hf : ([e1, e2].all (foldedForSure 8)) = false) (hc : ([e1, e2].all (constantsAlone 8)) = false)
    (he1 : ∀ env, starEach [e1, e2] env = (false, eval e1 env) :: starEach [e2] env) (he2 : ∀ env, starEach [e2] env = (false, eval e2 env) :: starEach [] env)
    (h1 : Den prog w K n nm sl e1 f) (h2 : Den prog w K n nm sl e2 g) :
    Den1 prog w K n nm sl own (.Assign [.Tuple [.Name a pa, .Name b pb] k tp] (.Tuple [e1, e2] k' vp) pos) (fun ρ => (f ρ).bind fun x => (g ρ).bind fun y => if x.flat ∧ y.flat ∧ i < ρ.length ∧ j < ρ.length then some (.next, (ρ.set j y).set i x) else none) := by
  first | refine den1_of fun env A s ρ T base P oa Q E c hff h => ?_ | refine denS_of fun env A s ρ T base P oa Q E c hff h => ?_
  replace hff := bb2 hff
  refine byC fun G0 => ?_
  obtain ⟨x, hx, y, hy, hff⟩ := hff
  replace hff := ifs hff
  obtain ⟨hfl, hff⟩ := hff
  cases hff
  refine G0 ?_
  clear G0
  have na := nameAt_ok ha
  have nb := nameAt_ok hb
  refine Assign_Tuple_swapped (names := [a, b]) ?_ rfl (swapped2 c.eok hka hkb hl hab hst hf hc)
  refine Tuple_ (args_cons (h1 env A s ρ _ _ _ _ c.cx hx fun v1 h1' tk1 q1 hv1 => args_cons (h2 env A _ ρ _ _ _ _ (c.cx.ext q1) hy fun v2 h2' tk2 q2 hv2 => args_nil ?_) (he2 env)) (he1 env))
  refine wpAny_newObj_type ?_
  have e12 := (q1.trans q2).trans (Ext.push (h := h2') { cls := .type "tuple", data := .seq [v1, v2].toArray })
  refine unpackItems_tuple (items := [v1, v2].toArray) c.room.handled ⟨_, Heap.get?_push_size _ rfl, rfl, 0, rfl⟩ fun h3 he3 => ?_
  have e3 : Ext (h2'.push { cls := .type "tuple", data := .seq [v1, v2].toArray }) h3 := fun b o ho => he3 b o (Nat.ne_of_lt (Heap.lt_size ho)) ho
  have e13 := e12.trans e3
  have c3 := c.ext e13
  show wpAny _ _ (assignInOrder [bindName env b, bindName env a] [v2, v1]) _ _ _
  unfold assignInOrder
  refine wpAny_bind (wpAny_holding (wpAny_bindName (store1 (s := { s with heap := h3, toks := tk2 }) c3 nb.slot nb.once nb.own nb.kind (hv2.flat hfl.2.1) hfl.2.2.2 fun h4 tk4 _ a4 => ?_)))
  unfold assignInOrder
  refine wpAny_bind (wpAny_holding (wpAny_bindName (store1 (s := { s with heap := h4, toks := tk4 }) (a4.cx rfl) na.slot na.once na.own na.kind (hv1.flat hfl.1) (by simpa using hfl.2.2.1) fun h5 tk5 _ a5 => ?_)))
  unfold assignInOrder
  exact wpAny_pure (h _ _ _ _ _ ((a4.trans c3 a5).pre c e13))
end
end Mine
end
section
open PySem PySem.W PyProof.Rows PySem.Calls
set_option Elab.async false
set_option maxRecDepth 100000
namespace Mine
open PySem.Builtin PySem.Builtin.Str

noncomputable abbrev FD := List D → Option D
noncomputable abbrev FB := List D → Option Bool
noncomputable abbrev FL := List D → Option (List D)
noncomputable abbrev FS := List D → Option (Fl × List D)
noncomputable def iC (i : Int) : FD := fun _ => some (.int i)
noncomputable def sC (x : Str) : FD := fun _ => some (.str x)
noncomputable def bC (b : Bool) : FD := fun _ => some (.bool b)
noncomputable def binC (op : Operator) (f g : FD) : FD := fun ρ => (f ρ).bind fun a => (g ρ).bind fun b => binD op a b
noncomputable def cmpC (op : CmpOp) (f g : FD) : FD := fun ρ => (f ρ).bind fun a => (g ρ).bind fun b => (cmpD op a b).map .bool
noncomputable def cmpT (op : CmpOp) (f g : FD) : FB := fun ρ => (f ρ).bind fun a => (g ρ).bind fun b => cmpD op a b
noncomputable def valT (f : FD) : FB := fun ρ => (f ρ).bind truthD
noncomputable def notT (f : FB) : FB := fun ρ => (f ρ).map (!·)
noncomputable def andT (f g : FB) : FB := fun ρ => (f ρ).bind fun a => if a then g ρ else some false
noncomputable def orT (f g : FB) : FB := fun ρ => (f ρ).bind fun a => if a then some true else g ρ
noncomputable def ifC (q : FB) (f g : FD) : FD := fun ρ => (q ρ).bind fun a => if a then f ρ else g ρ
noncomputable def negC (f : FD) : FD := fun ρ => (f ρ).bind negD
noncomputable def idxC (f g : FD) : FD := fun ρ => (f ρ).bind fun a => (g ρ).bind fun b => idxD a b
noncomputable def cutToC (f g : FD) : FD := fun ρ => (f ρ).bind fun a => (g ρ).bind fun b => (listD a).bind fun ds => (natD b).bind fun k => if ds.length ≤ 100000 then some (.list (ds.take k)) else none
noncomputable def cutFromC (f g : FD) : FD := fun ρ => (f ρ).bind fun a => (g ρ).bind fun b => (listD a).bind fun ds => (natD b).bind fun k => if ds.length ≤ 100000 then some (.list (ds.drop k)) else none
noncomputable def cutC (f g g' : FD) : FD := fun ρ => (f ρ).bind fun a => (g ρ).bind fun b => (g' ρ).bind fun b' => (listD a).bind fun ds => (natD b).bind fun k => (natD b').bind fun k' => if ds.length ≤ 100000 then some (.list ((ds.take k').drop k)) else none
noncomputable def nilA : FL := fun _ => some []
noncomputable def consA (f : FD) (g : FL) : FL := fun ρ => (f ρ).bind fun a => (g ρ).map (a :: ·)
noncomputable def listC (g : FL) : FD := fun ρ => (g ρ).bind fun ds => if ds.length ≤ 100000 then some (.list ds) else none
noncomputable def callC (F : List D → Option D) (g : FL) : FD := fun ρ => (g ρ).bind F
noncomputable def compC (fi : FL) (ft : FB) (fe : FD) : FD := fun ρ => (fi ρ).bind fun ds => if ds.length ≤ 1000000 then (compD ft fe ρ ds).map .list else none
noncomputable def trueT : FB := fun _ => some true
noncomputable def rangeC (f : FD) : FL := fun ρ => (f ρ).bind fun d => (intD d).bind fun k => if -1000000 ≤ k ∧ k ≤ 1000000 then some (rangeD 0 k) else none
noncomputable def range2C (f g : FD) : FL := fun ρ => (f ρ).bind fun d => (g ρ).bind fun d' => (intD d).bind fun j => (intD d').bind fun k => if (-1000000 ≤ k ∧ k ≤ 1000000) ∧ -1000000 ≤ j ∧ j ≤ 1000000 then some (rangeD j k) else none
noncomputable def iterC (f : FD) : FL := fun ρ => (f ρ).bind listD
noncomputable def joinC (f g : FD) : FD := fun ρ => (f ρ).bind fun a => (g ρ).bind fun b => (asS a).bind fun x => (asL b).bind fun ds => joinD x ds
noncomputable def startC (f g : FD) : FD := fun ρ => (f ρ).bind fun a => (g ρ).bind fun b => (asS a).bind fun x => (asS b).bind fun y => some (.bool (Txt.startswith x y))
noncomputable def endC (f g : FD) : FD := fun ρ => (f ρ).bind fun a => (g ρ).bind fun b => (asS a).bind fun x => (asS b).bind fun y => some (.bool (Txt.endswith x y))
noncomputable def findC (f g1 g2 g3 : FD) : FD := fun ρ => (f ρ).bind fun a => (g1 ρ).bind fun b => (g2 ρ).bind fun c => (g3 ρ).bind fun d => (asS a).bind fun x => (asS b).bind fun y => (asI c).bind fun i => (asI d).bind fun j => some (.int (find4 x y i j))
noncomputable def getC (es : Array DictEntry) (f g : FD) : FD := fun ρ => (f ρ).bind fun a => (g ρ).bind fun d => if d.flat then (intD a).bind fun i => getTab es i d else none
noncomputable def splitL (x y : Str) : Option (List D) := if x.length ≤ 100000 ∧ y.length ≠ 0 ∧ (partsBetween x (occurrences x y 0 x.length (x.length + 1)) y.length).length ≤ 100000 then some ((Txt.split x y).map .str) else none
noncomputable def splitC (f g : FD) : FL := fun ρ => (f ρ).bind fun a => (g ρ).bind fun b => (asS a).bind fun x => (asS b).bind fun y => splitL x y
-- statements
noncomputable def skipS : FS := fun ρ => some (.next, ρ)
noncomputable def asgS (i : Nat) (f : FD) : FS := fun ρ => (f ρ).bind fun d => setS i ρ d
noncomputable def asgF (i : Nat) (f : FD) : FS := fun ρ => (f ρ).bind fun d => if d.flat then setS i ρ d else none
noncomputable def augS (i : Nat) (op : Operator) (f : FD) : FS := fun ρ => (var i ρ).bind fun a => (f ρ).bind fun b => (augD op a b).bind fun d => setS i ρ d
noncomputable def retS (f : FD) : FS := fun ρ => (f ρ).map fun d => (.ret d, ρ)
noncomputable def brkS : FS := fun ρ => some (.brk, ρ)
noncomputable def ifS (q : FB) (g1 g2 : FS) : FS := fun ρ => (q ρ).bind fun b => if b then g1 ρ else g2 ρ
noncomputable def asrtS (q : FB) : FS := fun ρ => (q ρ).bind fun b => if b then some (.next, ρ) else none
noncomputable def forS (i : Nat) (fi : FL) (gb ge : FS) : FS := fun ρ => (fi ρ).bind fun ds => forD i gb ge ds ρ
noncomputable def newS (i : Nat) (f : FL) : FS := fun ρ => (f ρ).bind fun ds => setS i ρ (.list ds)
noncomputable def appS (i : Nat) (f : FD) : FS := fun ρ => (listAt i ρ).bind fun ds => (f ρ).bind fun d => if d.flat ∧ ds.length ≤ 100000 then some (.next, ρ.set i (.list (ds ++ [d]))) else none
noncomputable def delS (i : Nat) (f : FD) : FS := fun ρ => (listAt i ρ).bind fun ds => (f ρ).bind fun d => (intD d).bind fun k => if -1000 ≤ k ∧ k ≤ 1000 ∧ ds.length ≤ 100000 then (delAt ds k).map fun r => (.next, ρ.set i (.list r)) else none
noncomputable def tup2S (i j : Nat) (f g : FD) : FS := fun ρ => (f ρ).bind fun x => (g ρ).bind fun y => if x.flat ∧ y.flat ∧ i < ρ.length ∧ j < ρ.length then some (.next, (ρ.set j y).set i x) else none
noncomputable def compS (i : Nat) (fi : FL) (ft : FB) (fe : FD) : FS := fun ρ => (fi ρ).bind fun ds => if ds.length ≤ 1000000 then (compD ft fe ρ ds).bind fun out => setS i ρ (.list out) else none
noncomputable def frzS (g : FS) : FS := fun ρ => (g ρ).bind fun p => if p.1.isRet then some p else none

noncomputable def varOkB (sl : List (Option Str)) (i : Nat) (x : Str) : Bool := sl[i]? == some (some x) && !(x == ("__debug__" : Str)) && !(x == ("__classdict__" : Str))
noncomputable def gOkB (nm : List (Str × NameKind)) (x : Str) : Bool := nm.lookup x == some .globalImplicit && !(x == ("__debug__" : Str)) && !(x == ("__name__" : Str))
theorem gOk {nm : List (Str × NameKind)} {x : Str} (h : gOkB nm x = true) : nm.lookup x = some .globalImplicit ∧ (x == ("__debug__" : Str)) = false ∧ x ≠ "__name__" := by
  unfold gOkB at h
  simp only [Bool.and_eq_true, beq_iff_eq, Bool.not_eq_true'] at h
  exact ⟨h.1.1, h.1.2, by simpa using h.2⟩

section
variable {prog : Program} {w : World} {K : Frag} {n : Nat} {nm : List (Str × NameKind)} {sl : List (Option Str)} {own : Option Nat}
theorem k_int {i : Int} {k : Nat} {pos : Pos} : Den prog w K n nm sl (.Constant (.int i) k pos) (iC i) := den_int
theorem k_str {x : Str} {k : Nat} {pos : Pos} : Den prog w K n nm sl (.Constant (.str x) k pos) (sC x) := den_str
theorem k_bool {b : Bool} {k : Nat} {pos : Pos} : Den prog w K n nm sl (.Constant (.bool b) k pos) (bC b) := den_bool
theorem k_var {x : Str} {pos : Pos} (i : Nat) (h : varOkB sl i x = true) : Den prog w K n nm sl (.Name x pos) (var i) := by
  unfold varOkB at h
  simp only [Bool.and_eq_true, beq_iff_eq, Bool.not_eq_true'] at h
  exact den_var i h.1.1 h.1.2 h.2
noncomputable def gstrB (K : Frag) (x y : Str) : Bool := match nsIn K mainGlobals x with
  | some (some (.str z _)) => z == y
  | _ => false
theorem k_gstr {x y : Str} {pos : Pos} (h : gOkB nm x = true) (hg : gstrB K x y = true) : Den prog w K n nm sl (.Name x pos) (sC y) := by
  unfold gstrB at hg
  split at hg
  · rename_i z t hz
    have e := beq_iff_eq.mp hg
    subst e
    exact den_gstr (gOk h).1 hz (gOk h).2.1
  · cases hg
theorem k_bin {e e' : Expr} {op : Operator} {pos : Pos} {f g : FD} (h1 : Den prog w K n nm sl e f) (h2 : Den prog w K n nm sl e' g) : Den prog w K n nm sl (.BinOp e op e' pos) (binC op f g) := den_bin h1 h2
theorem k_cmp {e e' : Expr} {op : CmpOp} {pos : Pos} {f g : FD} (hm : behindInMarks op e' = false) (h1 : Den prog w K n nm sl e f) (h2 : Den prog w K n nm sl e' g) : Den prog w K n nm sl (.Compare e [op] [e'] pos) (cmpC op f g) := den_cmp h1 h2 hm
theorem t_cmp {e e' : Expr} {op : CmpOp} {pos : Pos} {f g : FD} (hm : behindInMarks op e' = false) (h1 : Den prog w K n nm sl e f) (h2 : Den prog w K n nm sl e' g) : DenT prog w K n nm sl (.Compare e [op] [e'] pos) (cmpT op f g) := denT_cmp h1 h2 hm
theorem t_val {e : Expr} {f : FD} (he : ∀ env whole, isTrue e env whole = (do let v ← whole; standAt e.pos; holding [v] (truthy v))) (h1 : Den prog w K n nm sl e f) : DenT prog w K n nm sl e (valT f) := denT_val h1 he
theorem t_not {e : Expr} {pos : Pos} {f : FB} (h1 : DenT prog w K n nm sl e f) : DenT prog w K n nm sl (.UnaryOp .Not e pos) (notT f) := denT_not h1
theorem t_and {e e' : Expr} {pos : Pos} {f g : FB} (h1 : DenT prog w K n nm sl e f) (h2 : DenT prog w K n nm sl e' g) : DenT prog w K n nm sl (.BoolOp .And [e, e'] pos) (andT f g) := denT_and h1 h2
theorem t_or {e e' : Expr} {pos : Pos} {f g : FB} (h1 : DenT prog w K n nm sl e f) (h2 : DenT prog w K n nm sl e' g) : DenT prog w K n nm sl (.BoolOp .Or [e, e'] pos) (orT f g) := denT_or h1 h2
theorem k_if {t e e' : Expr} {pos : Pos} {q : FB} {f g : FD} (h0 : DenT prog w K n nm sl t q) (h1 : Den prog w K n nm sl e f) (h2 : Den prog w K n nm sl e' g) : Den prog w K n nm sl (.IfExp t e e' pos) (ifC q f g) := den_if h0 h1 h2
theorem k_neg {e : Expr} {pos : Pos} {f : FD} (h1 : Den prog w K n nm sl e f) : Den prog w K n nm sl (.UnaryOp .USub e pos) (negC f) := den_neg h1
theorem k_idx {e e' : Expr} {pos : Pos} {f g : FD} (hs : ∀ o i, subscripted e' false o i = operate [o, i] (getItem o i)) (h1 : Den prog w K n nm sl e f) (h2 : Den prog w K n nm sl e' g) : Den prog w K n nm sl (.Subscript e e' pos) (idxC f g) := den_idx h1 h2 hs
theorem k_cutTo {e e2 : Expr} {p pos : Pos} {f g : FD} (h1 : Den prog w K n nm sl e f) (h2 : Den prog w K n nm sl e2 g) : Den prog w K n nm sl (.Subscript e (.Slice none (some e2) none p) pos) (cutToC f g) := den_sliceTo h1 h2
theorem k_cutFrom {e e2 : Expr} {p pos : Pos} {f g : FD} (h1 : Den prog w K n nm sl e f) (h2 : Den prog w K n nm sl e2 g) : Den prog w K n nm sl (.Subscript e (.Slice (some e2) none none p) pos) (cutFromC f g) := den_sliceFrom h1 h2
theorem k_cut {e e2 e3 : Expr} {p pos : Pos} {f g g' : FD} (h1 : Den prog w K n nm sl e f) (h2 : Den prog w K n nm sl e2 g) (h3 : Den prog w K n nm sl e3 g') : Den prog w K n nm sl (.Subscript e (.Slice (some e2) (some e3) none p) pos) (cutC f g g') := den_slice h1 h2 h3
theorem l_nil : DenL prog w K n nm sl [] nilA := denL_nil
theorem l_cons {e : Expr} {es : List Expr} {f : FD} {g : FL} (he : ∀ env, starEach (e :: es) env = (false, eval e env) :: starEach es env) (h1 : Den prog w K n nm sl e f) (h2 : DenL prog w K n nm sl es g) : DenL prog w K n nm sl (e :: es) (consA f g) := denL_cons h1 h2 he
theorem k_list {es : List Expr} {pos : Pos} {g : FL} (h1 : DenL prog w K n nm sl es g) : Den prog w K n nm sl (.List es pos) (listC g) := den_list h1
theorem k_callB {x : Str} {id : String} {p pos : Pos} {e : Expr} {es : List Expr} {g : FL} {F : List D → Option D} (h : gOkB nm x = true) (hg : nsIn K mainGlobals x = some none) (hb : bootBuiltins x = some (.builtin id))
    (he : ∀ env, starEach (e :: es) env = (false, eval e env) :: starEach es env) (hpl : ∀ env, (backTo pos (starEach es env)).any (·.1) = false) (hc : CallOk prog w K n (.builtin id) F) (ha : DenL prog w K n nm sl (e :: es) g) :
    Den prog w K n nm sl (.Call (.Name x p) (e :: es) [] pos) (callC F g) := den_callB (gOk h).1 hg hb (gOk h).2.2 (gOk h).2.1 he hpl hc ha
theorem k_callD {x : Str} {f : Addr} {p pos : Pos} {e : Expr} {es : List Expr} {g : FL} {F : List D → Option D} (h : gOkB nm x = true) (hg : nsIn K mainGlobals x = some (some (.ref f))) (hk : keepIn K (.ref f) = true)
    (he : ∀ env, starEach (e :: es) env = (false, eval e env) :: starEach es env) (hpl : ∀ env, (backTo pos (starEach es env)).any (·.1) = false) (hc : CallOk prog w K n (.ref f) F) (ha : DenL prog w K n nm sl (e :: es) g) :
    Den prog w K n nm sl (.Call (.Name x p) (e :: es) [] pos) (callC F g) := den_callD (gOk h).1 hg (gOk h).2.1 hk he hpl hc ha
theorem k_comp {elt iter : Expr} {ifs : List Expr} {scope : Scope} {pos px : Pos} {x : Str} {fi : FL} {ft : FB} {fe : FD} (ok : compOkB nm scope x = true) (hs : ∀ env v, foldedSetIterable iter env v = pure v)
    (hi : DenI prog w K n nm sl iter fi) (ht : DenIf prog w K n (relab nm scope.names) (some x :: capt scope.names sl) ifs ft) (he : Den prog w K n (relab nm scope.names) (some x :: capt scope.names sl) elt fe) :
    Den prog w K n nm sl (.ListComp elt [⟨.Name x px, iter, ifs, 0⟩] scope pos) (compC fi ft fe) := den_comp hi ht he (compOkB_ok ok) hs
theorem q_nil : DenIf prog w K n nm sl [] trueT := denIf_nil
theorem q_one {e : Expr} {f : FB} (h1 : DenT prog w K n nm sl e f) : DenIf prog w K n nm sl [e] f := denIf_one h1
theorem i_range {p pos : Pos} {e : Expr} {f : FD} (hx : gOkB nm ("range" : Str) = true) (hg : nsIn K mainGlobals ("range" : Str) = some none) (he : ∀ env, starEach [e] env = (false, eval e env) :: starEach [] env) (h1 : Den prog w K n nm sl e f) :
    DenI prog w K n nm sl (.Call (.Name ("range" : Str) p) [e] [] pos) (rangeC f) := denI_range1 (gOk hx).1 hg he h1
theorem i_range2 {p pos : Pos} {e e' : Expr} {f g : FD} (hx : gOkB nm ("range" : Str) = true) (hg : nsIn K mainGlobals ("range" : Str) = some none)
    (he : ∀ env, starEach [e, e'] env = (false, eval e env) :: starEach [e'] env) (he' : ∀ env, starEach [e'] env = (false, eval e' env) :: starEach [] env) (hpl : ∀ env, (backTo pos (starEach [e'] env)).any (·.1) = false)
    (h1 : Den prog w K n nm sl e f) (h2 : Den prog w K n nm sl e' g) : DenI prog w K n nm sl (.Call (.Name ("range" : Str) p) [e, e'] [] pos) (range2C f g) := denI_range2 (gOk hx).1 hg he he' hpl h1 h2
theorem i_list {e : Expr} {f : FD} (h1 : Den prog w K n nm sl e f) : DenI prog w K n nm sl e (iterC f) := denI_list h1
theorem k_join {o e : Expr} {ap pos : Pos} {f g : FD} (hb : ∀ env, attributeBase o ("join" : Str) env (eval o env) = eval o env) (hs : ∀ env, starEach [e] env = [(false, eval e env)]) (hl : (ap.endLine == pos.line) = true)
    (h1 : Den prog w K n nm sl o f) (h2 : Den prog w K n nm sl e g) : Den prog w K n nm sl (.Call (.Attribute o ("join" : Str) ap) [e] [] pos) (joinC f g) := den_join hb hs hl h1 h2
theorem k_start {o e : Expr} {ap pos : Pos} {f g : FD} (hb : ∀ env, attributeBase o ("startswith" : Str) env (eval o env) = eval o env) (hs : ∀ env, starEach [e] env = [(false, eval e env)]) (hl : (ap.endLine == pos.line) = true)
    (h1 : Den prog w K n nm sl o f) (h2 : Den prog w K n nm sl e g) : Den prog w K n nm sl (.Call (.Attribute o ("startswith" : Str) ap) [e] [] pos) (startC f g) := den_startswith hb hs hl h1 h2
theorem k_end {o e : Expr} {ap pos : Pos} {f g : FD} (hb : ∀ env, attributeBase o ("endswith" : Str) env (eval o env) = eval o env) (hs : ∀ env, starEach [e] env = [(false, eval e env)]) (hl : (ap.endLine == pos.line) = true)
    (h1 : Den prog w K n nm sl o f) (h2 : Den prog w K n nm sl e g) : Den prog w K n nm sl (.Call (.Attribute o ("endswith" : Str) ap) [e] [] pos) (endC f g) := den_endswith hb hs hl h1 h2
theorem k_find {o e1 e2 e3 : Expr} {ap pos : Pos} {f g1 g2 g3 : FD} (hb : ∀ env, attributeBase o ("find" : Str) env (eval o env) = eval o env)
    (he1 : ∀ env, starEach [e1, e2, e3] env = (false, eval e1 env) :: starEach [e2, e3] env) (he2 : ∀ env, starEach [e2, e3] env = (false, eval e2 env) :: starEach [e3] env) (he3 : ∀ env, starEach [e3] env = (false, eval e3 env) :: starEach [] env) (hl : (ap.endLine == pos.line) = true)
    (h0 : Den prog w K n nm sl o f) (h1 : Den prog w K n nm sl e1 g1) (h2 : Den prog w K n nm sl e2 g2) (h3 : Den prog w K n nm sl e3 g3) :
    Den prog w K n nm sl (.Call (.Attribute o ("find" : Str) ap) [e1, e2, e3] [] pos) (findC f g1 g2 g3) := den_find hb he1 he2 he3 hl h0 h1 h2 h3
theorem k_get {x : Str} (a : Addr) {es : Array DictEntry} {p ap pos : Pos} {e1 e2 : Expr} {f g : FD} (h : gOkB nm x = true) (hg : nsIn K mainGlobals x = some (some (.ref a)))
    (hl : ∃ m, K.lookup a = some ⟨.type "dict", none, .dict es m, #[]⟩) (hk : keysIntB es = true) (ha : (a == sysModules) = false)
    (he1 : ∀ env, starEach [e1, e2] env = (false, eval e1 env) :: starEach [e2] env) (he2 : ∀ env, starEach [e2] env = (false, eval e2 env) :: starEach [] env) (hline : (ap.endLine == pos.line) = true)
    (h1 : Den prog w K n nm sl e1 f) (h2 : Den prog w K n nm sl e2 g) : Den prog w K n nm sl (.Call (.Attribute (.Name x p) ("get" : Str) ap) [e1, e2] [] pos) (getC es f g) := let ⟨_, hl⟩ := hl; den_get (gOk h).1 hg (gOk h).2.1 hl hk ha he1 he2 hline h1 h2
theorem n_nil {pos : Pos} : DenN prog w K n nm sl (.List [] pos) nilA := denN_nil
theorem n_split {o e : Expr} {ap pos : Pos} {f g : FD} (hb : ∀ env, attributeBase o ("split" : Str) env (eval o env) = eval o env) (hs : ∀ env, starEach [e] env = [(false, eval e env)]) (hl : (ap.endLine == pos.line) = true)
    (h1 : Den prog w K n nm sl o f) (h2 : Den prog w K n nm sl e g) : DenN prog w K n nm sl (.Call (.Attribute o ("split" : Str) ap) [e] [] pos) (splitC f g) := denN_split hb hs hl h1 h2
-- statements
theorem s_nil : DenS prog w K n nm sl own [] skipS := denS_nil
theorem s_cons {st : Stmt} {ss : List Stmt} {g1 g2 : FS} (h1 : Den1 prog w K n nm sl own st g1) (h2 : DenS prog w K n nm sl own ss g2) : DenS prog w K n nm sl own (st :: ss) (seqS g1 g2) := denS_cons h1 h2
theorem s_asg {x : Str} {px pos : Pos} {e : Expr} {f : FD} (i : Nat) (hx : nameAt nm sl own x = some i) (hs : ∀ env, swapsWith e (some (.Name x px)) pos.line env = pure false) (h1 : Den prog w K n nm (hide own sl) e f) : Den1 prog w K n nm sl own (.Assign [.Name x px] e pos) (asgS i f) := a_assign hx hs h1
theorem s_asgF {x : Str} {px pos : Pos} {e : Expr} {f : FD} (i : Nat) (hx : nameAt nm sl own x = some i) (hs : ∀ env, swapsWith e (some (.Name x px)) pos.line env = pure false) (h1 : Den prog w K n nm sl e f) : Den1 prog w K n nm sl own (.Assign [.Name x px] e pos) (asgF i f) := a_assignF hx hs h1
theorem s_aug {x : Str} {px pos : Pos} {op : Operator} {e : Expr} {f : FD} (i : Nat) (hx : nameAt nm sl own x = some i) (hcd : (x == ("__classdict__" : Str)) = false) (h1 : Den prog w K n nm sl e f) : Den1 prog w K n nm sl own (.AugAssign (.Name x px) op e pos) (augS i op f) := a_aug hx hcd h1
theorem s_ret {e : Expr} {pos : Pos} {f : FD} (h1 : Den prog w K n nm sl e f) : Den1 prog w K n nm sl own (.Return (some e) pos) (retS f) := den1_ret h1
theorem s_brk {pos : Pos} : Den1 prog w K n nm sl own (.Break pos) brkS := den1_brk
theorem s_if {t : Expr} {b o : List Stmt} {pos : Pos} {f : FB} {g1 g2 : FS} (h0 : DenT prog w K n nm sl t f) (h1 : DenS prog w K n nm sl own b g1) (h2 : DenS prog w K n nm sl own o g2) : Den1 prog w K n nm sl own (.If t b o pos) (ifS f g1 g2) := den1_if h0 h1 h2
theorem s_asrt {t : Expr} {m : Option Expr} {pos : Pos} {f : FB} (h0 : DenT prog w K n nm sl t f) : Den1 prog w K n nm sl own (.Assert t m pos) (asrtS f) := den1_assert h0
theorem s_for {x : Str} {px pos : Pos} {it : Expr} {b o : List Stmt} {fi : FL} {gb ge : FS} (i : Nat) (hx : nameAt nm sl own x = some i) (hs : ∀ env v, foldedSetIterable it env v = pure v)
    (h0 : DenI prog w K n nm (hide own sl) it fi) (h1 : DenS prog w K n nm sl own b gb) (h2 : DenS prog w K n nm sl own o ge) : Den1 prog w K n nm sl own (.For (.Name x px) it b o pos) (forS i fi gb ge) := a_for hx hs h0 h1 h2
theorem s_new {x : Str} {px pos : Pos} {e : Expr} {f : FL} {i : Nat} (hx : ownAt nm sl x i = true) (hs : ∀ env, swapsWith e (some (.Name x px)) pos.line env = pure false) (h1 : DenN prog w K n nm (hide (some i) sl) e f) : Den1 prog w K n nm sl (some i) (.Assign [.Name x px] e pos) (newS i f) := a_new hx hs h1
theorem s_app {x : Str} {p ap cp pos : Pos} {e : Expr} {f : FD} {i : Nat} (hx : ownAt nm sl x i = true) (hd : varOkB sl i x = true) (hse : ∀ env, starEach [e] env = [(false, eval e env)]) (hline : (ap.endLine == cp.line) = true)
    (h1 : Den prog w K n nm sl e f) : Den1 prog w K n nm sl (some i) (.Expr (.Call (.Attribute (.Name x p) ("append" : Str) ap) [e] [] cp) pos) (appS i f) := by
  unfold varOkB at hd
  simp only [Bool.and_eq_true, beq_iff_eq, Bool.not_eq_true'] at hd
  exact a_append hx hd.1.2 hd.2 hse hline h1
theorem s_del {x : Str} {p ip pos : Pos} {e : Expr} {f : FD} {i : Nat} (hx : ownAt nm sl x i = true) (hd : varOkB sl i x = true) (h1 : Den prog w K n nm sl e f) : Den1 prog w K n nm sl (some i) (.Delete [.Subscript (.Name x p) e ip] pos) (delS i f) := by
  unfold varOkB at hd
  simp only [Bool.and_eq_true, beq_iff_eq, Bool.not_eq_true'] at hd
  exact den1_del hx hd.1.2 hd.2 h1
theorem s_tup2 {a b : Str} {pa pb tp vp pos : Pos} {k k' : Nat} {e1 e2 : Expr} {f g : FD} (i j : Nat) (ha : nameAt nm sl own a = some i) (hb : nameAt nm sl own b = some j)
    (hk : (nm.lookup a == some .local && nm.lookup b == some .local && pa.line == pb.line && !(a == b)) = true)
    (hst : ([e1, e2].any fun | .Starred .. => true | _ => false) = false) (hf : ([e1, e2].all (foldedForSure 8)) = false) (hc : ([e1, e2].all (constantsAlone 8)) = false)
    (he1 : ∀ env, starEach [e1, e2] env = (false, eval e1 env) :: starEach [e2] env) (he2 : ∀ env, starEach [e2] env = (false, eval e2 env) :: starEach [] env)
    (h1 : Den prog w K n nm sl e1 f) (h2 : Den prog w K n nm sl e2 g) : Den1 prog w K n nm sl own (.Assign [.Tuple [.Name a pa, .Name b pb] k tp] (.Tuple [e1, e2] k' vp) pos) (tup2S i j f g) := by
  simp only [Bool.and_eq_true, Bool.not_eq_true', beq_iff_eq] at hk
  exact den1_tup2 ha hb hk.1.1.1 hk.1.1.2 (beq_iff_eq.mpr hk.1.2) hk.2 hst hf hc he1 he2 h1 h2
theorem s_comp {elt iter : Expr} {ifs : List Expr} {scope : Scope} {cpos px py pos : Pos} {x y : Str} {fi : FL} {ft : FB} {fe : FD} (i : Nat) (hy : nameAt nm sl own y = some i)
    (ok : compOkB nm scope x = true) (hk : (nm.lookup y == some .local && py.line == cpos.line && !(scope.names.any fun p => p.1 == y && (p.2 == .local || p.2 == .cell))) = true) (hs : ∀ env v, foldedSetIterable iter env v = pure v)
    (hi : DenI prog w K n nm (hide own sl) iter fi) (ht : DenIf prog w K n (relab nm scope.names) (some x :: capt scope.names (hide own sl)) ifs ft) (he : Den prog w K n (relab nm scope.names) (some x :: capt scope.names (hide own sl)) elt fe) :
    Den1 prog w K n nm sl own (.Assign [.Name y py] (.ListComp elt [⟨.Name x px, iter, ifs, 0⟩] scope cpos) pos) (compS i fi ft fe) := by
  refine den1_comp i (nameAt_ok hy) hi ht he (compOkB_ok ok) hs fun env eo => ?_
  simp only [Bool.and_eq_true, beq_iff_eq, Bool.not_eq_true'] at hk
  obtain ⟨⟨h1, h2⟩, h3⟩ := hk
  show (pure (env.blockKind == .function && env.kindOf y == some .local && py.line == cpos.line && !(scope.names.any fun p => p.1 == y && (p.2 == .local || p.2 == .cell))) : Sem Bool) = pure true
  have hbk : env.blockKind = .function := by unfold Env.blockKind; rw [eo.kind]; rfl
  rw [hbk, eo.kindOf y, h1, h2, h3]
  simp
theorem s_frz {ss : List Stmt} {g : FS} {i : Nat} (h1 : DenS prog w K n nm sl none ss g) : DenS prog w K n nm sl (some i) ss (frzS g) := denS_freeze h1
end
end Mine
end
section
open PySem PySem.W PyProof.Rows PySem.Calls
set_option Elab.async false
set_option maxRecDepth 100000
namespace Mine
noncomputable section
noncomputable abbrev KK (w : World) : Frag := Mine.hd.heap_39 w.params
noncomputable def fnD (P : Params) (f : Addr) : FuncData := match (Mine.hd.heap_39 P).lookup f with
  | some ⟨_, _, .func fd, _⟩ => fd
  | _ => default
noncomputable def bodyOf (P : Params) (f : Addr) : List Stmt := match (fnD P f).body with
  | .stmts b => b
  | _ => []
noncomputable abbrev nmOf (P : Params) (f : Addr) : List (Str × NameKind) := (fnD P f).scope.names
theorem bb_len : bootBuiltins "len" = some (.builtin "len") := by kernel_rfl
theorem bb_max : bootBuiltins "max" = some (.builtin "max") := by kernel_rfl
theorem bb_sum : bootBuiltins "sum" = some (.builtin "sum") := by kernel_rfl
theorem bb_hex : bootBuiltins "hex" = some (.builtin "hex") := by kernel_rfl
noncomputable def w0 : World := ⟨fun _ _ => 0, { strHash := fun _ => 0, shareClass := fun _ => 0, mergeTok := id, idOf := fun _ => 0, idOfShared := fun _ _ => 0, followText := fun _ => false, idOfImm := fun _ => 0 }⟩
noncomputable def flagTab : Array DictEntry := match (Mine.hd.heap_39 w0.params).lookup 22 with
  | some ⟨_, _, .dict es _, _⟩ => es
  | _ => #[]
theorem flag_at (w : World) : ∃ m, (KK w).lookup 22 = some ⟨.type "dict", none, .dict flagTab m, #[]⟩ := ⟨_, rfl⟩
set_option maxHeartbeats 4000000

noncomputable def g_col : FS := (seqS (asgS 3 (iC 0))
  (seqS (forS 4 (rangeC (var 1)) (seqS (ifS (valT (binC .BitAnd (binC .RShift (var 0) (var 4)) (iC 1))) (seqS (asgS 3 (binC .Mult (binC .Add (binC .FloorDiv (var 3) (var 2)) (iC 1)) (var 2)))
  skipS) (seqS (asgS 3 (binC .Add (var 3) (iC 1)))
  skipS))
  skipS) skipS)
  (seqS (retS (var 3))
  skipS)))
theorem d_col (prog : Program) (w : World) (n : Nat) : DenS prog w (KK w) n (nmOf w.params 123) [some "number", some "places", some "size", some "column", some "place"] none (bodyOf w.params 123) g_col :=
  (s_cons (s_asg 3 (by kernel_rfl) (fun _ => rfl) k_int)
  (s_cons (s_for 4 (by kernel_rfl) (fun _ _ => rfl) (i_range (by kernel_rfl) (by kernel_rfl) (fun _ => rfl) (k_var 1 (by kernel_rfl))) (s_cons (s_if (t_val (fun _ _ => rfl) (k_bin (k_bin (k_var 0 (by kernel_rfl)) (k_var 4 (by kernel_rfl))) k_int)) (s_cons (s_asg 3 (by kernel_rfl) (fun _ => rfl) (k_bin (k_bin (k_bin (k_var 3 (by kernel_rfl)) (k_var 2 (by kernel_rfl))) k_int) (k_var 2 (by kernel_rfl))))
  s_nil) (s_cons (s_asg 3 (by kernel_rfl) (fun _ => rfl) (k_bin (k_var 3 (by kernel_rfl)) k_int))
  s_nil))
  s_nil) s_nil)
  (s_cons (s_ret (k_var 3 (by kernel_rfl)))
  s_nil)))
noncomputable def F_col : List D → Option D := resD g_col 3 2
theorem ok_col (prog : Program) (w : World) (n : Nat) : CallOk prog w (KK w) (n + 1) (.ref 123) F_col :=
  call_of (K := KK w) (f := 123) (fd := fnD w.params 123) (body := bodyOf w.params 123) (xs := ["number", "places", "size"]) (rest := [some "column", some "place"]) (own := none) (defOk_of ⟨_, _, _, rfl⟩ rfl (by kernel_rfl)
    (ar3 fun v0 v1 v2 => (by kernel_rfl)) (by kernel_rfl)) (fun _ q => by cases q) (d_col prog w n)


noncomputable def g_wid : FS := (seqS (asgS 2 (iC 0))
  (seqS (forS 3 (rangeC (iC 5)) (seqS (asgS 2 (binC .Add (binC .Mult (var 2) (iC 64)) (idxC (var 1) (var 3))))
  (seqS (ifS (cmpT .Eq (binC .BitAnd (binC .RShift (var 0) (var 3)) (iC 1)) (iC 0)) (seqS brkS
  skipS) skipS)
  skipS)) skipS)
  (seqS (ifS (cmpT .Eq (var 2) (iC 0)) (seqS (retS (iC 0))
  skipS) skipS)
  (seqS (retS (callC maxD (consA (iC 3) (consA (callC lenD (consA (compC (rangeC (iC 10)) (cmpT .GtE (var 3) (binC .Pow (iC 10) (var 0))) (var 0)) nilA)) nilA))))
  skipS))))
theorem d_wid (prog : Program) (w : World) (n : Nat) : DenS prog w (KK w) n (nmOf w.params 128) [some "number", some "figures", some "line", some "place"] none (bodyOf w.params 128) g_wid :=
  (s_cons (s_asg 2 (by kernel_rfl) (fun _ => rfl) k_int)
  (s_cons (s_for 3 (by kernel_rfl) (fun _ _ => rfl) (i_range (by kernel_rfl) (by kernel_rfl) (fun _ => rfl) k_int) (s_cons (s_asg 2 (by kernel_rfl) (fun _ => rfl) (k_bin (k_bin (k_var 2 (by kernel_rfl)) k_int) (k_idx (fun _ _ => rfl) (k_var 1 (by kernel_rfl)) (k_var 3 (by kernel_rfl)))))
  (s_cons (s_if (t_cmp rfl (k_bin (k_bin (k_var 0 (by kernel_rfl)) (k_var 3 (by kernel_rfl))) k_int) k_int) (s_cons s_brk
  s_nil) s_nil)
  s_nil)) s_nil)
  (s_cons (s_if (t_cmp rfl (k_var 2 (by kernel_rfl)) k_int) (s_cons (s_ret k_int)
  s_nil) s_nil)
  (s_cons (s_ret (k_callB (by kernel_rfl) (by kernel_rfl) bb_max (fun _ => rfl) (fun _ => rfl) ok_max (l_cons (fun _ => rfl) k_int (l_cons (fun _ => rfl) (k_callB (by kernel_rfl) (by kernel_rfl) bb_len (fun _ => rfl) (fun _ => rfl) ok_len (l_cons (fun _ => rfl) (k_comp (by kernel_rfl) (fun _ _ => rfl) (i_range (by kernel_rfl) (by kernel_rfl) (fun _ => rfl) k_int) (q_one (t_cmp rfl (k_var 3 (by kernel_rfl)) (k_bin k_int (k_var 0 (by kernel_rfl))))) (k_var 0 (by kernel_rfl))) l_nil)) l_nil))))
  s_nil))))
noncomputable def F_wid : List D → Option D := resD g_wid 2 2
theorem ok_wid (prog : Program) (w : World) (n : Nat) : CallOk prog w (KK w) (n + 1) (.ref 128) F_wid :=
  call_of (K := KK w) (f := 128) (fd := fnD w.params 128) (body := bodyOf w.params 128) (xs := ["number", "figures"]) (rest := [some "line", some "place"]) (own := none) (defOk_of ⟨_, _, _, rfl⟩ rfl (by kernel_rfl)
    (ar2 fun v0 v1 => (by kernel_rfl)) (by kernel_rfl)) (fun _ q => by cases q) (d_wid prog w n)


noncomputable def g_spots : FS := (seqS (newS 5 nilA)
  (seqS (forS 6 (rangeC (binC .Sub (binC .Add (var 0) (iC 1)) (var 1))) (seqS (forS 7 (range2C (binC .Add (var 6) (var 1)) (binC .Sub (binC .Add (var 0) (iC 1)) (var 2))) (seqS (ifS (andT (orT (cmpT .Eq (var 3) (iC 1)) (cmpT .Eq (var 6) (iC 0))) (orT (cmpT .Eq (var 4) (iC 1)) (cmpT .Eq (binC .Add (var 7) (var 2)) (var 0)))) (seqS (appS 5 (binC .BitOr (binC .LShift (binC .Sub (binC .Pow (iC 2) (var 1)) (iC 1)) (var 6)) (binC .LShift (binC .Sub (binC .Pow (iC 2) (var 2)) (iC 1)) (var 7))))
  skipS) skipS)
  skipS) skipS)
  skipS) skipS)
  (seqS (retS (var 5))
  skipS)))
theorem d_spots (prog : Program) (w : World) (n : Nat) : DenS prog w (KK w) n (nmOf w.params 135) [some "places", some "first", some "second", some "front", some "back", some "spots", some "i", some "j"] (some 5) (bodyOf w.params 135) g_spots :=
  (s_cons (s_new (by kernel_rfl) (fun _ => rfl) n_nil)
  (s_cons (s_for 6 (by kernel_rfl) (fun _ _ => rfl) (i_range (by kernel_rfl) (by kernel_rfl) (fun _ => rfl) (k_bin (k_bin (k_var 0 (by kernel_rfl)) k_int) (k_var 1 (by kernel_rfl)))) (s_cons (s_for 7 (by kernel_rfl) (fun _ _ => rfl) (i_range2 (by kernel_rfl) (by kernel_rfl) (fun _ => rfl) (fun _ => rfl) (fun _ => rfl) (k_bin (k_var 6 (by kernel_rfl)) (k_var 1 (by kernel_rfl))) (k_bin (k_bin (k_var 0 (by kernel_rfl)) k_int) (k_var 2 (by kernel_rfl)))) (s_cons (s_if (t_and (t_or (t_cmp rfl (k_var 3 (by kernel_rfl)) k_int) (t_cmp rfl (k_var 6 (by kernel_rfl)) k_int)) (t_or (t_cmp rfl (k_var 4 (by kernel_rfl)) k_int) (t_cmp rfl (k_bin (k_var 7 (by kernel_rfl)) (k_var 2 (by kernel_rfl))) (k_var 0 (by kernel_rfl))))) (s_cons (s_app (by kernel_rfl) (by kernel_rfl) (fun _ => rfl) rfl (k_bin (k_bin (k_bin (k_bin k_int (k_var 1 (by kernel_rfl))) k_int) (k_var 6 (by kernel_rfl))) (k_bin (k_bin (k_bin k_int (k_var 2 (by kernel_rfl))) k_int) (k_var 7 (by kernel_rfl)))))
  s_nil) s_nil)
  s_nil) s_nil)
  s_nil) s_nil)
  (s_cons (s_ret (k_var 5 (by kernel_rfl)))
  s_nil)))
noncomputable def F_spots : List D → Option D := resD g_spots 5 3
theorem ok_spots (prog : Program) (w : World) (n : Nat) : CallOk prog w (KK w) (n + 1) (.ref 135) F_spots :=
  call_of (K := KK w) (f := 135) (fd := fnD w.params 135) (body := bodyOf w.params 135) (xs := ["places", "first", "second", "front", "back"]) (rest := [some "spots", some "i", some "j"]) (own := (some 5)) (defOk_of ⟨_, _, _, rfl⟩ rfl (by kernel_rfl)
    (ar5 fun v0 v1 v2 v3 v4 => (by kernel_rfl)) (by kernel_rfl)) (fun _ q => by cases q; decide) (d_spots prog w n)


noncomputable def g_moved : FS := (seqS (newS 2 nilA)
  (seqS (forS 3 (rangeC (var 1)) (seqS (ifS (cmpT .NotEq (compC (rangeC (callC lenD (consA (var 0) nilA))) (cmpT .NotEq (idxC (var 1) (var 0)) (idxC (var 1) (binC .BitOr (var 0) (binC .LShift (iC 1) (var 4))))) (var 0)) (listC nilA)) (seqS (appS 2 (var 3))
  skipS) skipS)
  skipS) skipS)
  (seqS (retS (var 2))
  skipS)))
theorem d_moved (prog : Program) (w : World) (n : Nat) : DenS prog w (KK w) n (nmOf w.params 140) [some "one", some "places", some "moved", some "place"] (some 2) (bodyOf w.params 140) g_moved :=
  (s_cons (s_new (by kernel_rfl) (fun _ => rfl) n_nil)
  (s_cons (s_for 3 (by kernel_rfl) (fun _ _ => rfl) (i_range (by kernel_rfl) (by kernel_rfl) (fun _ => rfl) (k_var 1 (by kernel_rfl))) (s_cons (s_if (t_cmp rfl (k_comp (by kernel_rfl) (fun _ _ => rfl) (i_range (by kernel_rfl) (by kernel_rfl) (fun _ => rfl) (k_callB (by kernel_rfl) (by kernel_rfl) bb_len (fun _ => rfl) (fun _ => rfl) ok_len (l_cons (fun _ => rfl) (k_var 0 (by kernel_rfl)) l_nil))) (q_one (t_cmp rfl (k_idx (fun _ _ => rfl) (k_var 1 (by kernel_rfl)) (k_var 0 (by kernel_rfl))) (k_idx (fun _ _ => rfl) (k_var 1 (by kernel_rfl)) (k_bin (k_var 0 (by kernel_rfl)) (k_bin k_int (k_var 4 (by kernel_rfl))))))) (k_var 0 (by kernel_rfl))) (k_list l_nil)) (s_cons (s_app (by kernel_rfl) (by kernel_rfl) (fun _ => rfl) rfl (k_var 3 (by kernel_rfl)))
  s_nil) s_nil)
  s_nil) s_nil)
  (s_cons (s_ret (k_var 2 (by kernel_rfl)))
  s_nil)))
noncomputable def F_moved : List D → Option D := resD g_moved 2 2
theorem ok_moved (prog : Program) (w : World) (n : Nat) : CallOk prog w (KK w) (n + 1) (.ref 140) F_moved :=
  call_of (K := KK w) (f := 140) (fd := fnD w.params 140) (body := bodyOf w.params 140) (xs := ["one", "places"]) (rest := [some "moved", some "place"]) (own := (some 2)) (defOk_of ⟨_, _, _, rfl⟩ rfl (by kernel_rfl)
    (ar2 fun v0 v1 => (by kernel_rfl)) (by kernel_rfl)) (fun _ q => by cases q; decide) (d_moved prog w n)


noncomputable def g_flags : FS := (seqS (newS 1 nilA)
  (seqS (forS 2 (rangeC (iC 32)) (seqS (asgS 3 (binC .LShift (iC 1) (var 2)))
  (seqS (ifS (valT (binC .BitAnd (var 0) (var 3))) (seqS (appS 1 (getC flagTab (var 3) (callC hexD (consA (var 3) nilA))))
  (seqS (augS 0 .BitXor (var 3))
  (seqS (ifS (notT (valT (var 0))) (seqS brkS
  skipS) skipS)
  skipS))) skipS)
  skipS)) (seqS (appS 1 (callC hexD (consA (var 0) nilA)))
  skipS))
  (seqS (retS (joinC (sC (Str.ofString ", ")) (var 1)))
  skipS)))
theorem d_flags (prog : Program) (w : World) (n : Nat) : DenS prog w (KK w) n (nmOf w.params 29) [some "flags", some "names", some "i", some "flag"] (some 1) (bodyOf w.params 29) g_flags :=
  (s_cons (s_new (by kernel_rfl) (fun _ => rfl) n_nil)
  (s_cons (s_for 2 (by kernel_rfl) (fun _ _ => rfl) (i_range (by kernel_rfl) (by kernel_rfl) (fun _ => rfl) k_int) (s_cons (s_asg 3 (by kernel_rfl) (fun _ => rfl) (k_bin k_int (k_var 2 (by kernel_rfl))))
  (s_cons (s_if (t_val (fun _ _ => rfl) (k_bin (k_var 0 (by kernel_rfl)) (k_var 3 (by kernel_rfl)))) (s_cons (s_app (by kernel_rfl) (by kernel_rfl) (fun _ => rfl) rfl (k_get 22 (by kernel_rfl) (by kernel_rfl) (flag_at w) (by kernel_rfl) (by kernel_rfl) (fun _ => rfl) (fun _ => rfl) rfl (k_var 3 (by kernel_rfl)) (k_callB (by kernel_rfl) (by kernel_rfl) bb_hex (fun _ => rfl) (fun _ => rfl) ok_hex (l_cons (fun _ => rfl) (k_var 3 (by kernel_rfl)) l_nil))))
  (s_cons (s_aug 0 (by kernel_rfl) (by kernel_rfl) (k_var 3 (by kernel_rfl)))
  (s_cons (s_if (t_not (t_val (fun _ _ => rfl) (k_var 0 (by kernel_rfl)))) (s_cons s_brk
  s_nil) s_nil)
  s_nil))) s_nil)
  s_nil)) (s_cons (s_app (by kernel_rfl) (by kernel_rfl) (fun _ => rfl) rfl (k_callB (by kernel_rfl) (by kernel_rfl) bb_hex (fun _ => rfl) (fun _ => rfl) ok_hex (l_cons (fun _ => rfl) (k_var 0 (by kernel_rfl)) l_nil)))
  s_nil))
  (s_cons (s_ret (k_join (fun _ => rfl) (fun _ => rfl) rfl k_str (k_var 1 (by kernel_rfl))))
  s_nil)))
noncomputable def F_flags : List D → Option D := resD g_flags 1 3
theorem ok_flags (prog : Program) (w : World) (n : Nat) : CallOk prog w (KK w) (n + 1) (.ref 29) F_flags :=
  call_of (K := KK w) (f := 29) (fd := fnD w.params 29) (body := bodyOf w.params 29) (xs := ["flags"]) (rest := [some "names", some "i", some "flag"]) (own := (some 1)) (defOk_of ⟨_, _, _, rfl⟩ rfl (by kernel_rfl)
    (ar1 fun v0 => (by kernel_rfl)) (by kernel_rfl)) (fun _ q => by cases q; decide) (d_flags prog w n)


noncomputable def g_ell : FS := (seqS (ifS (cmpT .NotIn (sC (Str.ofString "...")) (var 0)) (seqS (retS (cmpC .Eq (var 0) (var 1)))
  skipS) skipS)
  (seqS (newS 2 (splitC (var 0) (sC (Str.ofString "..."))))
  (seqS (asrtS (cmpT .GtE (callC lenD (consA (var 2) nilA)) (iC 2)))
  (seqS (tup2S 3 4 (iC 0) (callC lenD (consA (var 1) nilA)))
  (seqS (asgF 5 (idxC (var 2) (iC 0)))
  (seqS (ifS (valT (var 5)) (seqS (ifS (valT (startC (var 1) (var 5))) (seqS (asgS 3 (callC lenD (consA (var 5) nilA)))
  (seqS (delS 2 (iC 0))
  skipS)) (seqS (retS (bC false))
  skipS))
  skipS) skipS)
  (seqS (asgF 5 (idxC (var 2) (negC (iC 1))))
  (seqS (ifS (valT (var 5)) (seqS (ifS (valT (endC (var 1) (var 5))) (seqS (augS 4 .Sub (callC lenD (consA (var 5) nilA)))
  (seqS (delS 2 (negC (iC 1)))
  skipS)) (seqS (retS (bC false))
  skipS))
  skipS) skipS)
  (seqS (ifS (cmpT .Gt (var 3) (var 4)) (seqS (retS (bC false))
  skipS) skipS)
  (frzS (seqS (forS 5 (iterC (var 2)) (seqS (asgS 3 (findC (var 1) (var 5) (var 3) (var 4)))
  (seqS (ifS (cmpT .Lt (var 3) (iC 0)) (seqS (retS (bC false))
  skipS) skipS)
  (seqS (augS 3 .Add (callC lenD (consA (var 5) nilA)))
  skipS))) skipS)
  (seqS (retS (bC true))
  skipS))))))))))))
theorem d_ell (prog : Program) (w : World) (n : Nat) : DenS prog w (KK w) n (nmOf w.params 50) [some "want", some "got", some "ws", some "startpos", some "endpos", some "w"] (some 2) (bodyOf w.params 50) g_ell :=
  (s_cons (s_if (t_cmp rfl (k_gstr (by kernel_rfl) (by kernel_rfl)) (k_var 0 (by kernel_rfl))) (s_cons (s_ret (k_cmp rfl (k_var 0 (by kernel_rfl)) (k_var 1 (by kernel_rfl))))
  s_nil) s_nil)
  (s_cons (s_new (by kernel_rfl) (fun _ => rfl) (n_split (fun _ => rfl) (fun _ => rfl) rfl (k_var 0 (by kernel_rfl)) (k_gstr (by kernel_rfl) (by kernel_rfl))))
  (s_cons (s_asrt (t_cmp rfl (k_callB (by kernel_rfl) (by kernel_rfl) bb_len (fun _ => rfl) (fun _ => rfl) ok_len (l_cons (fun _ => rfl) (k_var 2 (by kernel_rfl)) l_nil)) k_int))
  (s_cons (s_tup2 3 4 (by kernel_rfl) (by kernel_rfl) (by kernel_rfl) rfl rfl rfl (fun _ => rfl) (fun _ => rfl) k_int (k_callB (by kernel_rfl) (by kernel_rfl) bb_len (fun _ => rfl) (fun _ => rfl) ok_len (l_cons (fun _ => rfl) (k_var 1 (by kernel_rfl)) l_nil)))
  (s_cons (s_asgF 5 (by kernel_rfl) (fun _ => rfl) (k_idx (fun _ _ => rfl) (k_var 2 (by kernel_rfl)) k_int))
  (s_cons (s_if (t_val (fun _ _ => rfl) (k_var 5 (by kernel_rfl))) (s_cons (s_if (t_val (fun _ _ => rfl) (k_start (fun _ => rfl) (fun _ => rfl) rfl (k_var 1 (by kernel_rfl)) (k_var 5 (by kernel_rfl)))) (s_cons (s_asg 3 (by kernel_rfl) (fun _ => rfl) (k_callB (by kernel_rfl) (by kernel_rfl) bb_len (fun _ => rfl) (fun _ => rfl) ok_len (l_cons (fun _ => rfl) (k_var 5 (by kernel_rfl)) l_nil)))
  (s_cons (s_del (by kernel_rfl) (by kernel_rfl) k_int)
  s_nil)) (s_cons (s_ret k_bool)
  s_nil))
  s_nil) s_nil)
  (s_cons (s_asgF 5 (by kernel_rfl) (fun _ => rfl) (k_idx (fun _ _ => rfl) (k_var 2 (by kernel_rfl)) (k_neg k_int)))
  (s_cons (s_if (t_val (fun _ _ => rfl) (k_var 5 (by kernel_rfl))) (s_cons (s_if (t_val (fun _ _ => rfl) (k_end (fun _ => rfl) (fun _ => rfl) rfl (k_var 1 (by kernel_rfl)) (k_var 5 (by kernel_rfl)))) (s_cons (s_aug 4 (by kernel_rfl) (by kernel_rfl) (k_callB (by kernel_rfl) (by kernel_rfl) bb_len (fun _ => rfl) (fun _ => rfl) ok_len (l_cons (fun _ => rfl) (k_var 5 (by kernel_rfl)) l_nil)))
  (s_cons (s_del (by kernel_rfl) (by kernel_rfl) (k_neg k_int))
  s_nil)) (s_cons (s_ret k_bool)
  s_nil))
  s_nil) s_nil)
  (s_cons (s_if (t_cmp rfl (k_var 3 (by kernel_rfl)) (k_var 4 (by kernel_rfl))) (s_cons (s_ret k_bool)
  s_nil) s_nil)
  (s_frz (s_cons (s_for 5 (by kernel_rfl) (fun _ _ => rfl) (i_list (k_var 2 (by kernel_rfl))) (s_cons (s_asg 3 (by kernel_rfl) (fun _ => rfl) (k_find (fun _ => rfl) (fun _ => rfl) (fun _ => rfl) (fun _ => rfl) rfl (k_var 1 (by kernel_rfl)) (k_var 5 (by kernel_rfl)) (k_var 3 (by kernel_rfl)) (k_var 4 (by kernel_rfl))))
  (s_cons (s_if (t_cmp rfl (k_var 3 (by kernel_rfl)) k_int) (s_cons (s_ret k_bool)
  s_nil) s_nil)
  (s_cons (s_aug 3 (by kernel_rfl) (by kernel_rfl) (k_callB (by kernel_rfl) (by kernel_rfl) bb_len (fun _ => rfl) (fun _ => rfl) ok_len (l_cons (fun _ => rfl) (k_var 5 (by kernel_rfl)) l_nil)))
  s_nil))) s_nil)
  (s_cons (s_ret k_bool)
  s_nil))))))))))))
noncomputable def F_ell : List D → Option D := resD g_ell 2 4
theorem ok_ell (prog : Program) (w : World) (n : Nat) : CallOk prog w (KK w) (n + 1) (.ref 50) F_ell :=
  call_of (K := KK w) (f := 50) (fd := fnD w.params 50) (body := bodyOf w.params 50) (xs := ["want", "got"]) (rest := [some "ws", some "startpos", some "endpos", some "w"]) (own := (some 2)) (defOk_of ⟨_, _, _, rfl⟩ rfl (by kernel_rfl)
    (ar2 fun v0 v1 => (by kernel_rfl)) (by kernel_rfl)) (fun _ q => by cases q; decide) (d_ell prog w n)

end
end Mine
end
section
open PySem PySem.W PyProof.Rows PySem.Calls
set_option Elab.async false
set_option maxRecDepth 100000
namespace Mine
open PySem.Builtin PySem.Builtin.Str
section
variable {prog : Program} {w : World} {K : Frag} {n : Nat} {nm : List (Str × NameKind)} {sl : List (Option Str)} {own : Option Nat}

theorem binD_shift {a b d : D} (h : binD .LShift a b = some d) : ∃ i k : Int, a = .int i ∧ b = .int k ∧ 0 ≤ k ∧ k ≤ 1000 ∧ i.natAbs < 2 ^ 64 ∧ d = .int (i * 2 ^ k.toNat) := by
  refine byC fun G0 => ?_
  obtain ⟨i, k, ha, hb, hq⟩ := int2_some h
  replace hq := ifs hq
  obtain ⟨q, hq⟩ := hq
  cases hq
  refine G0 ?_
  clear G0
  exact ⟨i, k, ha, hb, q.1, q.2.1, q.2.2, rfl⟩
/-- f(a << b).replace('y', 'z'): the shift has made a token, so the two texts' tokens are not 0 -/
noncomputable def replC (F : List D → Option D) (f g : FD) (y z : Str) : FD := fun ρ => (f ρ).bind fun a => (g ρ).bind fun b => (binD .LShift a b).bind fun d => (F [d]).bind fun r => (asS r).bind fun x => if x.length + (x.length + 1) * z.length ≤ 16777216 then some (.str (Txt.replace x y z)) else none
theorem k_repl {x y z : Str} {fa : Addr} {k1 k2 : Nat} {p bp cp ap p1 p2 pos : Pos} {e1 e2 : Expr} {f g : FD} {F : List D → Option D} (h : gOkB nm x = true) (hg : nsIn K mainGlobals x = some (some (.ref fa))) (hk : keepIn K (.ref fa) = true)
    (hyz : (y == z) = false) (hl : (ap.endLine == pos.line) = true) (hc : CallOk prog w K n (.ref fa) F) (h1 : Den prog w K n nm sl e1 f) (h2 : Den prog w K n nm sl e2 g) :
    Den prog w K n nm sl (.Call (.Attribute (.Call (.Name x p) [.BinOp e1 .LShift e2 bp] [] cp) ("replace" : Str) ap) [.Constant (.str y) k1 p1, .Constant (.str z) k2 p2] [] pos) (replC F f g y z) := by
  intro env A s ρ d P Q E c hf hq
  replace hf := bb4 hf
  refine byC fun G1 => ?_
  obtain ⟨a, ha, b, hb, dd, hdd, r, hr, hf⟩ := hf
  replace hf := bb1 hf
  obtain ⟨tx, htx, hf⟩ := hf
  refine G1 ?_
  clear G1
  cases asS_some htx
  replace hf := ifs hf
  refine byC fun G2 => ?_
  obtain ⟨hlen, hf⟩ := hf
  cases hf
  refine G2 ?_
  clear G2
  refine wpAny_Call_method_lateS rfl rfl hl ?_
  refine Call_Name rfl (gname c.eok c.gd (gOk h).1 hg (gOk h).2.1 ?_)
  refine callWith_K (K := K) c.gd.X hk (args_cons (wpAny_BinOp (h1 env A s ρ a P _ _ c ha fun v1 h1' tk1 q1 hv1 => h2 env A _ ρ b P _ _ (c.ext q1) hb fun v2 h2' tk2 q2 hv2 => ?_)) rfl) rfl rfl
  refine byC fun G3 => ?_
  obtain ⟨i, k, rfl, rfl, k0, k1', hi, rfl⟩ := binD_shift hdd
  obtain ⟨t1, rfl⟩ := hv1
  obtain ⟨t2, rfl⟩ := hv2
  refine G3 ?_
  clear G3
  refine PyProof.Rows.lshift_int_small k0 (by omega) hi (args_nil ⟨((c.gd.ext q1).ext q2).X, ?_⟩)
  refine wpAny_with_toks (n := 1) (Nat.le_add_left 1 _) ?_
  refine hc A { s with heap := h2', toks := tk2 + 1 } P [.int (i * 2 ^ k.toNat)] _ (.str tx) _ _ c.room ((c.gd.ext q1).ext q2) ((c.ext q1).ext q2).fresh (.one ⟨_, rfl⟩) hr fun v3 h3' tk3 q3 hv3 htk => ?_
  refine byC fun G4 => ?_
  obtain ⟨t3, rfl⟩ := hv3
  refine G4 ?_
  clear G4
  refine ⟨"str", "str.replace", PySem.F.plainAttrs_str, PySem.F.slot_str_replace, PySem.F.type_str_replace, typeIs_str _ _ _, (fun _ e => nomatch e), ?_⟩
  refine callWith_method1 (args_cons (wpAny_Constant_str (args_cons (wpAny_Constant_str (args_nil ?_)) rfl)) rfl) rfl rfl
  have htk' : 1 ≤ tk3 := htk
  refine SC.replace (Nat.ne_of_gt htk') (Nat.succ_ne_zero tk3) (Nat.ne_of_lt (Nat.lt_succ_self tk3)) hyz hlen fun t' k' => ?_
  exact hq _ _ _ ((q1.trans q2).trans q3) ⟨_, rfl⟩
end
end Mine
end
section
open PySem PySem.W PyProof.Rows PySem.Calls
set_option Elab.async false
set_option maxRecDepth 100000
namespace Mine
inductive WhileIv {R : Type} (s : Shared) (Af : Heap → (Addr → Prop) → Addr → R → Prop) (Go : Nat → R → Prop) (k : Nat) (s' : Shared) : Prop
  | mk (hp : Heap) (tk : Nat) (P1 : Addr → Prop) (oa1 : Addr) (ρ1 : R) (e : s' = { s with heap := hp, toks := tk }) (af : Af hp P1 oa1 ρ1) (go : Go k ρ1)
section
variable {prog : Program} {w : World} {K : Frag} {n : Nat} {nm : List (Str × NameKind)} {sl : List (Option Str)} {own : Option Nat} {X : Type} {S : List Addr} {Z : X → (Addr → Prop) → Heap → Prop}

noncomputable def forXD (i : Nat) (gb : List D → X → Option (Fl × List D × X)) : List D → List D → X → Option (Fl × List D × X) := forXE i gb fun ρ x => some (.next, ρ, x)
theorem x_for (zk : ZOk S Z) {x : Str} {px pos : Pos} {it : Expr} {b : List Stmt} {fi : List D → X → Option (List D)} {gb : List D → X → Option (Fl × List D × X)} (i : Nat) (hx : NameOk nm sl own x i)
    (h0 : DenIX prog w K n nm sl own S Z it fi) (h1 : DenX prog w K n nm sl own S Z b gb) (hs : ∀ env v, foldedSetIterable it env v = pure v) :
    DenX1 prog w K n nm sl own S Z (.For (.Name x px) it b [] pos) (fun ρ y => (fi ρ y).bind fun ds => forXD i gb ds ρ y) := x_forE zk i hx h0 h1 x_nil hs
/-- a while loop -/
noncomputable def whileXD (ft : List D → Option Bool) (gb : List D → X → Option (Fl × List D × X)) : Nat → List D → X → Option (Fl × List D × X)
  | 0, _, _ => none
  | k + 1, ρ, x => (ft ρ).bind fun t => if t then (gb ρ x).bind fun p => match p.1 with
      | .next => whileXD ft gb k p.2.1 p.2.2
      | .cont => whileXD ft gb k p.2.1 p.2.2
      | .brk => some (.next, p.2.1, p.2.2)
      | .ret v => some (.ret v, p.2.1, p.2.2)
    else some (.next, ρ, x)
theorem x_while (zk : ZOk S Z) {pos : Pos} {t : Expr} {b : List Stmt} {ft : List D → Option Bool} {gb : List D → X → Option (Fl × List D × X)} (N : Nat)
    (h0 : DenT prog w K n nm sl t ft) (h1 : DenX prog w K n nm sl own S Z b gb) : DenX1 prog w K n nm sl own S Z (.While t b [] pos) (whileXD ft gb N) := by
  first | refine denX1_of fun env A s ρ y T base P oa Q E c of z hf h => ?_ | refine denX_of fun env A s ρ y T base P oa Q E c of z hf h => ?_
  refine wpAny_While ?_
  refine codeAny_whileLoop (WhileIv s (fun hp P1 oa1 (r : List D × X) => AftX K n nm sl own S base P oa env A s.heap .next r.1 .next hp P1 oa1 ∧ Z r.2 P1 hp) fun k r => whileXD ft gb k r.1 r.2 = some T) ?_ N
    ⟨s.heap, s.toks, P, oa, (ρ, y), rfl, ⟨.refl c of, z⟩, hf⟩
  rintro k s' ⟨hp, tk, P1, oa1, ⟨ρ1, y1⟩, rfl, ⟨af, zc⟩, hf⟩
  cases k with
  | zero => cases hf
  | succ k =>
    replace hf : whileXD ft gb (k + 1) ρ1 y1 = some T := hf
    unfold whileXD at hf
    refine byC fun G0 => ?_
    obtain ⟨tb, ht, hf⟩ := Option.bind_eq_some_iff.mp hf
    refine G0 ?_
    clear G0
    have cc := af.cx rfl
    have oc := af.off rfl
    refine h0 env A _ ρ1 tb _ _ _ cc.cx ht fun h2 tk2 e2 => ?_
    have a2 := af.trans c of (AftX.ext cc oc e2)
    cases tb with
    | false =>
      cases hf
      exact wpAny_execs_nil (h _ _ _ _ _ a2 fun _ => zk.ext e2 zc)
    | true =>
      simp only [if_true] at hf ⊢
      refine byC fun G1 => ?_
      obtain ⟨⟨fb, ρb, yb⟩, hgb, hf⟩ := Option.bind_eq_some_iff.mp hf
      refine G1 ?_
      clear G1
      refine h1 env A { s with heap := h2, toks := tk2 } ρ1 y1 fb ρb yb base P1 oa1 _ _ (cc.ext e2) (oc.ext e2) (zk.ext e2 zc) hgb fun flow h4 tk4 P4 oa4 a4 z4 => ?_
      have a5 := a2.trans c of a4
      cases fb with
      | next =>
        have e : flow = .next := a4.fl
        subst e
        exact ⟨k, Nat.lt_succ_self k, h4, tk4, P4, oa4, (ρb, yb), rfl, ⟨a5, z4 rfl⟩, hf⟩
      | cont =>
        have e : flow = .cont := a4.fl
        subst e
        exact ⟨k, Nat.lt_succ_self k, h4, tk4, P4, oa4, (ρb, yb), rfl, ⟨a5.on rfl, z4 rfl⟩, hf⟩
      | brk =>
        have e : flow = .brk := a4.fl
        subst e
        cases hf
        exact h _ _ _ P4 oa4 (a5.on rfl) fun _ => z4 rfl
      | ret dv =>
        refine byC fun G2 => ?_
        obtain ⟨vv, e, hvv⟩ := id a5.fl
        subst e
        cases hf
        refine G2 ?_
        clear G2
        exact h _ _ _ P4 oa4 ⟨a5.keep, a5.eb, a5.sub, a5.old, a5.oa, a5.cx, a5.off, ⟨vv, rfl, hvv⟩⟩ z4
end
end Mine
end
section
open PySem PySem.W PyProof.Rows PySem.Calls
set_option Elab.async false
set_option maxRecDepth 100000
namespace Mine

/-- what the class's table must say -/
noncomputable def wsClsB (K : Frag) : Bool := findIn K (.ref 112) "__getattribute__" == some (some (.builtin "object.__getattribute__")) && findIn K (.ref 112) "__getattr__" == some none && hasDictIn K 112 &&
  wsNames.all (fun nm => findIn K (.ref 112) nm == some none)
theorem wsCls {K : Frag} (h : wsClsB K = true) : findIn K (.ref 112) "__getattribute__" = some (some (.builtin "object.__getattribute__")) ∧ findIn K (.ref 112) "__getattr__" = some none ∧ hasDictIn K 112 = true ∧
    ∀ nm ∈ wsNames, findIn K (.ref 112) nm = some none := by
  unfold wsClsB at h
  simp only [Bool.and_eq_true, beq_iff_eq, List.all_eq_true] at h
  exact ⟨h.1.1.1, h.1.1.2, h.1.2, h.2⟩
theorem Has.handed {P : Addr → Prop} {h : Heap} {d : D} {v : Value} (x : Has P h d v) : handedIn v = true := by
  cases d with
  | undef => exact x.elim
  | none => cases x; rfl
  | bool b => cases x; rfl
  | int i => obtain ⟨t, rfl⟩ := x; rfl
  | str i => obtain ⟨t, rfl⟩ := x; rfl
  | list ds => obtain ⟨a, vs, rfl, _⟩ := x; rfl
  | flist ds => obtain ⟨a, vs, rfl, _⟩ := x; rfl
  | tup ds => obtain ⟨a, vs, rfl, _⟩ := x; rfl
  | addr a => cases x; rfl
  | inst ds => obtain ⟨a, dx, vs, rfl, _⟩ := x; rfl
  | map1 d => obtain ⟨a, u, rfl, _⟩ := x; rfl
theorem WsAt.inst {h : Heap} {x dx : Addr} {vs : List Value} (y : WsAt h x dx vs) : ∃ od, InstAt h x (instObj 112 dx) 112 (some od) ∧ (∀ (i : Nat) nm v, wsNames[i]? = some nm → vs[i]? = some v → lookIn nm od = some (some v)) ∧ lookIn "indent_level" od = some none := by
  refine byC fun G0 => ?_
  obtain ⟨h1, od, h2, h3, h4⟩ := y
  refine G0 ?_
  clear G0
  exact ⟨od, ⟨h1, rfl, rfl, h2⟩, h3, h4⟩

section
variable {prog : Program} {w : World} {K : Frag} {n : Nat} {nm : List (Str × NameKind)} {sl : List (Option Str)} {own : Option Nat}

noncomputable def attrC (i : Nat) (f : FD) : FD := fun ρ => (f ρ).bind fun d => (asN d).bind fun ds => ds[i]?
theorem k_attr {e : Expr} {name : Str} {pos : Pos} {f : FD} (i : Nat) (hn : wsNames[i]? = some name) (hw : wsClsB K = true) (hb : ∀ env, attributeBase e name env (eval e env) = eval e env) (h1 : Den prog w K n nm sl e f) :
    Den prog w K n nm sl (.Attribute e name pos) (attrC i f) := by
  intro env A s ρ d P Q E c hf h
  replace hf := bb2 hf
  refine byC fun G1 => ?_
  obtain ⟨dd, hdd, ds, hds, hf⟩ := hf
  refine G1 ?_
  clear G1
  cases asN_some hds
  rw [arm_eval_Attribute, hb]
  refine wpAny_bind (h1 env A s ρ _ P _ _ c hdd fun v h' tk e1 hv => wpAny_bind (wpAny_standAt (wpAny_bind (wpAny_holding ?_))))
  refine byC fun G2 => ?_
  obtain ⟨x, dx, vs, rfl, px, pd, ws, hal⟩ := hv
  obtain ⟨od, I, ha, _⟩ := ws.inst
  obtain ⟨v, hv, hh⟩ := hal.get hf
  refine G2 ?_
  clear G2
  have W := wsCls hw
  refine get_value (s := { s with heap := h', toks := tk }) (c.gd.ext e1).X I W.1 (findObj_own W.2.2.1 (W.2.2.2 name (List.mem_of_getElem? hn)) rfl (ha i name v hn hv)) hh.handed ?_
  exact wpAny_bind (wpAny_letTemporaryGo (wpAny_pure (h _ _ _ e1 hh)))

/-- a class's text -/
noncomputable def clsStrB (K : Frag) (C : Addr) (name y : Str) : Bool := readsIn K C (.type "type") && (match findCls K (.ref C) (.type "type") name with
  | some (.val (.str z _)) => z == y
  | _ => false)
theorem k_clsattr {x name y : Str} {C : Addr} {p pos : Pos} (hx : gOkB nm x = true) (hg : nsIn K mainGlobals x = some (some (.ref C))) (hc : clsStrB K C name y = true) : Den prog w K n nm sl (.Attribute (.Name x p) name pos) (sC y) := by
  intro env A s ρ d P Q E c hf h
  cases hf
  unfold clsStrB at hc
  rw [Bool.and_eq_true] at hc
  obtain ⟨h1, h2⟩ := hc
  split at h2
  · rename_i z t hz
    have e := beq_iff_eq.mp h2
    subst e
    rw [arm_eval_Attribute]
    refine wpAny_bind (m := eval (.Name x p) env) (gname c.eok c.gd (gOk hx).1 hg (gOk hx).2.1 (wpAny_bind (wpAny_standAt (wpAny_bind (wpAny_holding ?_)))))
    refine cls_value c.gd.X h1 hz rfl ?_
    exact wpAny_bind (wpAny_letTemporaryGo (wpAny_pure (h _ s.heap _ .refl ⟨_, rfl⟩)))
  · cases h2

/-- an object's method -/
noncomputable def methC (F : List D → Option D) (f g : FD) : FD := fun ρ => (f ρ).bind fun a => (g ρ).bind fun b => (asN a).bind fun ds => F [.inst ds, b]
theorem k_meth {o e : Expr} {ap pos : Pos} {f g : FD} {F : List D → Option D} {fa : Addr} (hw : wsClsB K = true) (hf : findIn K (.ref 112) ("indent_level" : Str) = some (some (.ref fa))) (ht : typeIn K (.ref fa) = some (.type "function")) (hk : keepIn K (.ref fa) = true)
    (he : ∀ env, ∃ pl, eval (.Call (.Attribute o ("indent_level" : Str) ap) [e] [] pos) env = (do
      let ov ← eval o env
      standAt ap.atName
      let (f, first) ← holding [ov] (getMethod ov ("indent_level" : Str) pl)
      callWith pos f first (backTo pos (starEach [e] env)) (backToKw pos (keywordEach [] env))))
    (hse : ∀ env, starEach [e] env = (false, eval e env) :: starEach [] env) (hc : CallOk prog w K n (.ref fa) F) (h1 : Den prog w K n nm sl o f) (h2 : Den prog w K n nm sl e g) :
    Den prog w K n nm sl (.Call (.Attribute o ("indent_level" : Str) ap) [e] [] pos) (methC F f g) := by
  intro env A s ρ d P Q E c hff h
  replace hff := bb3 hff
  refine byC fun G3 => ?_
  obtain ⟨a, ha, b, hb, ds, hds, hff⟩ := hff
  refine G3 ?_
  clear G3
  cases asN_some hds
  obtain ⟨pl, he⟩ := he env
  have W := wsCls hw
  refine methodCall_KW ?_ he
  refine h1 env A s ρ _ P _ _ c ha fun v h' tk e1 hv => ?_
  refine byC fun G4 => ?_
  obtain ⟨x, dx, vs, rfl, px, pd, ws, hal⟩ := id hv
  obtain ⟨od, I, _, hsh⟩ := ws.inst
  refine G4 ?_
  clear G4
  refine method_fn (s := { s with heap := h', toks := tk }) (c.gd.ext e1).X I W.1 W.2.1 hf ht (by show (lookIn _ od).map _ = _; rw [hsh]; rfl) ?_
  refine callWith_K (K := K) (c.gd.ext e1).X hk (args_cons (h2 env A _ ρ _ P _ _ (c.ext e1) hb fun v2 h2' tk2 q2 hv2 => args_nil ⟨((c.gd.ext e1).ext q2).X, ?_⟩) (hse env)) (hse env) rfl
  exact hc A { s with heap := h2', toks := tk2 } P [.inst ds, b] [.ref x, v2] d Q E c.room ((c.gd.ext e1).ext q2) ((c.ext e1).ext q2).fresh ⟨_, _, rfl, hv.ext q2, .one hv2⟩ hff fun v3 h3 tk3 e3 hv3 => h _ _ _ ((e1.trans q2).trans e3) hv3
end
end Mine
end
section
open PySem PySem.W PyProof.Rows PySem.Calls
set_option Elab.async false
set_option maxRecDepth 100000
namespace Mine
section
variable {prog : Program} {w : World} {K : Frag} {n : Nat} {nm : List (Str × NameKind)} {sl : List (Option Str)} {own : Option Nat}

/-- a, b = e -/
noncomputable def unp2S (i j : Nat) (f : FD) : FS := fun ρ => (f ρ).bind fun d => (asT d).bind fun ds => (two ds).bind fun p => if i < ρ.length ∧ j < ρ.length then some (.next, (ρ.set i p.1).set j p.2) else none
theorem s_unp2 {a b : Str} {pa pb tp pos : Pos} {k : Nat} {e : Expr} {f : FD} (i j : Nat) (ha : nameAt nm sl own a = some i) (hb : nameAt nm sl own b = some j)
    (hs : ∀ env, swapsWithSole [.Tuple [.Name a pa, .Name b pb] k tp] e pos.line env = pure false) (hw : ∀ env, swappedStores [.Tuple [.Name a pa, .Name b pb] k tp] e env = pure none)
    (h1 : Den prog w K n nm (hide own sl) e f) : Den1 prog w K n nm sl own (.Assign [.Tuple [.Name a pa, .Name b pb] k tp] e pos) (unp2S i j f) := by
  first | refine den1_of fun env A s ρ T base P oa Q E c hf h => ?_ | refine denS_of fun env A s ρ T base P oa Q E c hf h => ?_
  replace hf := bb3 hf
  refine byC fun G0 => ?_
  obtain ⟨d, hd, ds, hds, ⟨x, y⟩, hp, hf⟩ := hf
  refine G0 ?_
  clear G0
  cases asT_some hds
  cases two_some hp
  replace hf := ifs hf
  obtain ⟨hl, hf⟩ := hf
  cases hf
  have na := nameAt_ok ha
  have nb := nameAt_ok hb
  refine Assign_Tuple (h1 env A s ρ _ P _ _ c.cxh hd fun v h' tk e1 hv => ?_) (hs env) (hw env)
  refine byC fun G1 => ?_
  obtain ⟨t, vs, rfl, pt, ht, v1, r1, rfl, hv1, v2, r2, rfl, hv2, hr2⟩ := hv
  cases hr2
  refine G1 ?_
  clear G1
  refine assign_Tuple_tuple (s := { s with heap := h', toks := tk }) c.room.handled ht rfl rfl fun h3 he3 => ?_
  have e3 : Ext h' h3 := fun b o ho => he3 b o (Nat.ne_of_lt (Heap.lt_size ho)) ho
  have e13 := e1.trans e3
  have c3 := c.ext e13
  show wpAny _ _ (assignInOrder [assign (.Name a pa) env, assign (.Name b pb) env] [v1, v2]) _ _ _
  unfold assignInOrder
  refine wpAny_bind (wpAny_holding (wpAny_assign_Name (store1 (s := { s with heap := h3, toks := tk }) c3 na.slot na.once na.own na.kind (hv1.ext e3) hl.1 fun h4 tk4 kb4 a4 => ?_)))
  have hv2' : Has P h4 y v2 := Has.keep (hv2.ext e3) kb4 fun b p q => c.pmu b p (.inl q)
  unfold assignInOrder
  refine wpAny_bind (wpAny_holding (wpAny_assign_Name (store1 (s := { s with heap := h4, toks := tk4 }) (a4.cx rfl) nb.slot nb.once nb.own nb.kind hv2' (by simpa using hl.2) fun h5 tk5 _ a5 => ?_)))
  unfold assignInOrder
  exact wpAny_pure (h _ _ _ _ _ ((a4.trans c3 a5).pre c e13))

/-- a = b = c = e -/
noncomputable def asg3S (i j k : Nat) (f : FD) : FS := fun ρ => (f ρ).bind fun d => if d.flat ∧ i < ρ.length ∧ j < ρ.length ∧ k < ρ.length then some (.next, ((ρ.set i d).set j d).set k d) else none
theorem s_asg3 {a b b' : Str} {pa pb pc pos : Pos} {e : Expr} {f : FD} (i j k : Nat) (ha : nameAt nm sl own a = some i) (hb : nameAt nm sl own b = some j) (hc : nameAt nm sl own b' = some k)
    (hs : ∀ env, swapsWithSole [.Name a pa, .Name b pb, .Name b' pc] e pos.line env = pure false) (hw : ∀ env, swappedStores [.Name a pa, .Name b pb, .Name b' pc] e env = pure none)
    (h1 : Den prog w K n nm sl e f) : Den1 prog w K n nm sl own (.Assign [.Name a pa, .Name b pb, .Name b' pc] e pos) (asg3S i j k f) := by
  first | refine den1_of fun env A s ρ T base P oa Q E c hf h => ?_ | refine denS_of fun env A s ρ T base P oa Q E c hf h => ?_
  replace hf := bb1 hf
  refine byC fun G2 => ?_
  obtain ⟨d, hd, hf⟩ := hf
  replace hf := ifs hf
  obtain ⟨hl, hf⟩ := hf
  cases hf
  refine G2 ?_
  clear G2
  have na := nameAt_ok ha
  have nb := nameAt_ok hb
  have nc := nameAt_ok hc
  rw [exec_Assign]
  refine wpAny_bind (wpAny_standAt ?_)
  rw [hs]
  refine wpAny_bind (wpAny_pure ?_)
  rw [if_neg (by decide)]
  refine wpAny_bind (h1 env A s ρ d _ _ _ c.cx hd fun v h' tk e1 hv => ?_)
  rw [hw]
  refine wpAny_bind (wpAny_pure ?_)
  have c3 := c.ext e1
  show wpAny _ A (do assignAll v [assign (.Name a pa) env, assign (.Name b pb) env, assign (.Name b' pc) env]; pure .next) Q E _
  unfold assignAll
  refine wpAny_bind (wpAny_bind (wpAny_holding (wpAny_assign_Name (store1 (s := { s with heap := h', toks := tk }) c3 na.slot na.once na.own na.kind (hv.flat hl.1) hl.2.1 fun h4 tk4 _ a4 => ?_))))
  unfold assignAll
  refine wpAny_bind (wpAny_holding (wpAny_assign_Name (store1 (s := { s with heap := h4, toks := tk4 }) (a4.cx rfl) nb.slot nb.once nb.own nb.kind (hv.flat hl.1) (by simpa using hl.2.2.1) fun h5 tk5 _ a5 => ?_)))
  unfold assignAll
  refine wpAny_assign_Name (store1 (s := { s with heap := h5, toks := tk5 }) (a5.cx rfl) nc.slot nc.once nc.own nc.kind (hv.flat hl.1) (by simpa using hl.2.2.2) fun h6 tk6 _ a6 => ?_)
  exact wpAny_pure (h _ _ _ _ _ ((a4.trans c3 (a5.trans (a4.cx rfl) a6)).pre c e1))

theorem setItem_plain {A : Around} {s : Shared} {E : Value → Shared → Prop} {l : Addr} {items : Array Value} {k : Int} {t : Tok} {v : Value} {Q : Unit → Shared → Prop} (hl : s.heap.PlainList l items)
    (h0 : 0 ≤ k) (hfit : k < 2 ^ 63) (hn : k < items.size) (hQ : ∀ h', h'.PlainList l (items.setIfInBounds k.toNat v) → Heap.SameBut l s.heap h' → Q () { s with heap := h' }) :
    wpAny (model prog w) A (setItem (.ref l) (.int k t) v) Q E s := by
  obtain ⟨ne, ho⟩ := id hl
  unfold setItem
  try with_reducible refine wpAny_holding ?_
  first | refine wpAny_bind (wpAny_pure ?_) | skip
  refine wpAny_bind (wpAny_sequenceKey hl.isList.typeIs (by decide) ?_)
  refine wpAny_bind (wpAny_callSpecial?_slot (name := Str.ofString "__setitem__") hl.isList.typeIs PySem.slot_list_setitem
    (wpAny_call_entry PySem.slot_list_setitem hl.isList.typeIs PySem.entry_list_setitem ?_ (PySem.args_list_setitem _ _ _)))
  show wpAny _ _ (Builtin.List.listSubscript? (.int k t) >>= _) _ _ s
  refine wpAny_bind (wpAny_listSubscript_int (fitsIndex_of h0 hfit) ?_)
  clear hfit
  obtain ⟨j, rfl⟩ := Int.eq_ofNat_of_zero_le h0
  have hj : j < items.size := by omega
  have hx' : items[j]? = some items[j] := Array.getElem?_eq_getElem hj
  show wpAny _ _ ((seqItemAt l j >>= fun r => pure (r.map (j, ·))) >>= _) _ _ s
  refine wpAny_bind (wpAny_bind (wpAny_seqItemAt ho rfl (wpAny_pure ?_)))
  rw [hx']
  show wpAny _ _ (setSeqItemAt l j v >>= _) _ _ s
  have hfin : (s.heap.update l (Obj.mapSeq (·.setIfInBounds j v))).PlainList l (items.setIfInBounds j v) := ⟨_, Heap.get?_update_self _ ho rfl⟩
  refine wpAny_bind (wpAny_setSeqItemAt ho rfl ?_)
  first
    | exact wpAny_bind (wpAny_pure (wpAny_pure ⟨.none, rfl, wpAny_pure (hQ _ hfin (Heap.SameBut.update ..))⟩))
    | exact wpAny_pure ⟨.none, rfl, wpAny_pure (hQ _ hfin (Heap.SameBut.update ..))⟩

/-- x[e] = e', the list one's own -/
noncomputable def setIS (i : Nat) (f g : FD) : FS := fun ρ => (listAt i ρ).bind fun ds => (g ρ).bind fun d => (f ρ).bind fun b => (intD b).bind fun k => if d.flat ∧ 0 ≤ k ∧ k < ds.length ∧ ds.length ≤ 100000 then some (.next, ρ.set i (.list (ds.set k.toNat d))) else none
theorem HasAll.set {P : Addr → Prop} {h : Heap} : ∀ {ds : List D} {vs : List Value} {d : D} {v : Value} (k : Nat), HasAll P h ds vs → Has P h d v → HasAll P h (ds.set k d) (vs.set k v)
  | [], _, _, _, _, x, _ => by cases x; exact rfl
  | _ :: _, _, _, v', 0, x, y => by obtain ⟨v, r, q, a, b⟩ := x; subst q; exact ⟨_, _, rfl, y, b⟩
  | _ :: _, _, _, _, k + 1, x, y => by obtain ⟨v, r, q, a, b⟩ := x; subst q; exact ⟨_, _, rfl, a, b.set k y⟩
theorem s_setI {x : Str} {p ip pos : Pos} {e e' : Expr} {f g : FD} {i : Nat} (hx : ownAt nm sl x i = true) (hd : varOkB sl i x = true) (hs : ∀ env, swapsWith e' (some (.Subscript (.Name x p) e ip)) pos.line env = pure false)
    (h1 : Den prog w K n nm sl e f) (h2 : Den prog w K n nm sl e' g) : Den1 prog w K n nm sl (some i) (.Assign [.Subscript (.Name x p) e ip] e' pos) (setIS i f g) := by
  first | refine den1_of fun env A s ρ T base P oa Q E c hf h => ?_ | refine denS_of fun env A s ρ T base P oa Q E c hf h => ?_
  unfold varOkB at hd
  simp only [Bool.and_eq_true, beq_iff_eq, Bool.not_eq_true'] at hd
  unfold ownAt at hx
  simp only [Bool.and_eq_true, beq_iff_eq] at hx
  have hi := (oneSlot_get hx.2).1
  replace hf := bb4 hf
  refine byC fun G3 => ?_
  obtain ⟨ds, hds, d, hd', b, hb, k, hk, hf⟩ := hf
  replace hf := ifs hf
  obtain ⟨hle, hf⟩ := hf
  cases hf
  refine G3 ?_
  clear G3
  have hds' := listAt_some hds
  refine wpAny_Assign_Subscript (h2 env A s ρ d _ _ _ c.cx hd' fun v h' tk e1 hv => ?_) (hs env)
  obtain ⟨vs, rr, hpl, hal⟩ := owned_at (c.ext e1) hi hds'
  refine wpAny_Name (rd_load (s := { s with heap := h', toks := tk }) c.eok.kind rr hd.2 ?_) hd.1.2
  refine h1 env A { s with heap := h', toks := tk } ρ b _ _ _ (c.ext e1).cx hb fun vb h2' tk2 e2 hvb => ?_
  refine byC fun G4 => ?_
  obtain ⟨t, rfl⟩ := hvb.isInt hk
  obtain ⟨vs1, _, hpl1, hal1⟩ := owned_at ((c.ext e1).ext e2) hi hds'
  refine G4 ?_
  clear G4
  have hlen := hal1.length
  refine setItem_plain (s := { s with heap := h2', toks := tk2 }) hpl1 hle.2.1 (by omega) (by rw [List.size_toArray]; omega) fun h3 hl3 hs3 => ?_
  have kb : KeepBut (fun a => a = oa) h2' h3 := .of_same hs3 rfl
  have hpo : ∀ a, P a → ¬ a = oa := fun a p q => c.pmu a p (.inr ⟨by simp, q⟩)
  refine h _ _ _ P oa (Aft.pre c (e1.trans e2) (ownUpd (vs' := vs1.set k.toNat v) ((c.ext e1).ext e2) hi hds' hs3 (by simpa using hl3) ?_))
  exact (hal1.keep kb hpo).set _ (hv.flat hle.1)

/-- x = x + e, the list one's own -/
noncomputable def growS (i : Nat) (f : FD) : FS := fun ρ => (listAt i ρ).bind fun ds => (f ρ).bind fun d => (asL d).bind fun es => if es.all (·.flat) ∧ ds.length + es.length ≤ 100000 ∧ i < ρ.length then some (.next, ρ.set i (.list (ds ++ es))) else none
theorem HasAll.flats {P P' : Addr → Prop} {h h' : Heap} : ∀ {ds : List D} {vs : List Value}, ds.all (·.flat) = true → HasAll P h ds vs → HasAll P' h' ds vs
  | [], _, _, x => x
  | _ :: _, _, f, x => by obtain ⟨v, r, q, a, b⟩ := x; subst q; simp only [List.all_cons, Bool.and_eq_true] at f; exact ⟨_, _, rfl, a.flat f.1, b.flats f.2⟩
theorem s_grow {x : Str} {px p bp pos : Pos} {e : Expr} {f : FD} {i : Nat} (hx : ownAt nm sl x i = true) (hd : varOkB sl i x = true) (hs : ∀ env, swapsWith (.BinOp (.Name x p) .Add e bp) (some (.Name x px)) pos.line env = pure false)
    (h1 : Den prog w K n nm sl e f) : Den1 prog w K n nm sl (some i) (.Assign [.Name x px] (.BinOp (.Name x p) .Add e bp) pos) (growS i f) := by
  first | refine den1_of fun env A s ρ T base P oa Q E c hf h => ?_ | refine denS_of fun env A s ρ T base P oa Q E c hf h => ?_
  unfold varOkB at hd
  simp only [Bool.and_eq_true, beq_iff_eq, Bool.not_eq_true'] at hd
  unfold ownAt at hx
  simp only [Bool.and_eq_true, beq_iff_eq] at hx
  have hi := oneSlot_get hx.2
  replace hf := bb3 hf
  refine byC fun G5 => ?_
  obtain ⟨ds, hds, d, hd', es, hes, hf⟩ := hf
  replace hf := ifs hf
  obtain ⟨hle, hf⟩ := hf
  cases hf
  have hds' := listAt_some hds
  obtain ⟨vs, rr, hpl, hal⟩ := owned_at c hi.1 hds'
  refine G5 ?_
  clear G5
  refine wpAny_Assign_Name (wpAny_BinOp (wpAny_Name (rd_load c.eok.kind rr hd.2 ?_) hd.1.2)) (hs env)
  refine h1 env A s ρ d _ _ _ c.cx hd' fun v h' tk e1 hv => ?_
  cases asL_some hes
  refine byC fun G6 => ?_
  obtain ⟨a, us, rfl, pa, hl2, hal2⟩ := hv
  obtain ⟨vs1, _, hpl1, hal1⟩ := owned_at (c.ext e1) hi.1 hds'
  have l1 := hal1.length
  have l2 := hal2.length
  obtain ⟨n1, g1⟩ := hpl1
  obtain ⟨n2, g2⟩ := hl2
  refine G6 ?_
  clear G6
  refine PySem.P.add_list (s := { s with heap := h', toks := tk }) g1 g2 ?_ (by rw [List.size_toArray, List.size_toArray, l1, l2]; exact szl hle.2.1)
  refine storeOwn (s := { s with heap := h'.push _, toks := _ }) (a := h'.objs.size) (vs := vs1 ++ us) c (e1.trans (.push _)) hi.1 hi.2 ?_ (none_of_ext e1 (size_none _)) ⟨0, by rw [Heap.get?_push_size _ rfl]; simp⟩ ?_ hle.2.2 fun h3 tk3 af => h _ _ _ _ _ af
  · have := hx.1
    unfold kindOk at this
    split at this
    · exact .inl ‹_›
    · exact .inr ‹_›
    · cases this
  · refine HasAll.append (HasAll.mono (fun b o ho p => ⟨⟨p, fun q => ?_⟩, Heap.get?_push_of_some _ ho⟩) _ _ hal1) (hal2.flats hle.1)
    rw [q, size_none] at ho; cases ho
end
end Mine
end
section
open PySem PySem.W PyProof.Rows PySem.Calls
set_option Elab.async false
set_option maxRecDepth 100000
namespace Mine

/-- the entries of an object's table -/
inductive EntOk : List DictEntry → List Str → List Value → Prop
  | nil : EntOk [] [] []
  | cons (e : DictEntry) (es : List DictEntry) (nm : Str) (nms : List Str) (vs : List Value) (t : Tok) (hk : e.key = .str nm t) (r : EntOk es nms vs) : EntOk (e :: es) (nm :: nms) (e.val :: vs)
theorem EntOk.snoc {es : List DictEntry} {nms : List Str} {vs : List Value} {nm : Str} {hs : Int} {t : Tok} {v : Value} (x : EntOk es nms vs) : EntOk (es ++ [⟨hs, .str nm t, v⟩]) (nms ++ [nm]) (vs ++ [v]) := by
  induction x with
  | nil => exact .cons ⟨hs, .str nm t, v⟩ [] nm [] [] t rfl .nil
  | cons e es nm nms vs t hk r ih => exact .cons e _ nm _ _ t hk ih
theorem isStr_str (nm nm' : Str) (t : Tok) : (Value.str nm t).isStr nm' = (nm == nm') := rfl
theorem isStr_ne {e : DictEntry} {n nm : Str} {t : Tok} (hk : e.key = .str n t) (h : n ≠ nm) : e.key.isStr nm = false := by
  rw [hk, isStr_str]
  exact beq_eq_false_iff_ne.mpr h
theorem refKey_str {e : DictEntry} {n : Str} {t : Tok} (hk : e.key = .str n t) : e.refKey = false := by unfold DictEntry.refKey; rw [hk]
theorem EntOk.miss {es : List DictEntry} {nms : List Str} {vs : List Value} {nm : Str} (x : EntOk es nms vs) (hn : nm ∉ nms) : es.find? (·.key.isStr nm) = none ∧ es.any (·.refKey) = false ∧ es.any (·.key.isStr nm) = false ∧
      ∀ hs key v, putL nm hs key v es = es ++ [⟨hs, key, v⟩] := by
  induction x with
  | nil => exact ⟨rfl, rfl, rfl, fun _ _ _ => rfl⟩
  | cons e es n' nms vs t hk r ih =>
    rw [List.mem_cons, not_or] at hn
    refine byC fun G0 => ?_
    obtain ⟨a, b, c, d⟩ := ih hn.2
    refine G0 ?_
    clear G0
    have hne := isStr_ne hk (Ne.symm hn.1)
    refine ⟨by rw [List.find?_cons, hne]; exact a, by rw [List.any_cons, refKey_str hk, b]; rfl, by rw [List.any_cons, hne, c]; rfl, fun hs key v => ?_⟩
    unfold putL
    rw [hne, d hs key v]
    rfl
theorem EntOk.hit {es : List DictEntry} {nms : List Str} {vs : List Value} {nm : Str} {v : Value} (x : EntOk es nms vs) (hd : nms.Nodup) : ∀ {i : Nat}, nms[i]? = some nm → vs[i]? = some v → getL nm es = some (some v) := by
  induction x with
  | nil => intro i h _; cases h
  | cons e es n' nms vs t hk r ih =>
    intro i h hv
    rw [List.nodup_cons] at hd
    unfold getL
    rw [List.find?_cons]
    cases i with
    | zero =>
      cases Option.some.inj h
      have : e.key.isStr nm = true := by rw [hk, isStr_str, beq_self_eq_true]
      rw [this, ← Option.some.inj hv]
    | succ i =>
      have q : nm ∈ nms := List.mem_of_getElem? h
      have hne := isStr_ne hk fun z => hd.1 (z ▸ q)
      have ih := ih hd.2 h hv
      unfold getL at ih
      rw [hne]
      dsimp only
      rw [List.any_cons, refKey_str hk, Bool.false_or]
      exact ih

/-- what the class's table must say of stores -/
noncomputable def wsSetB (K : Frag) : Bool := wsClsB K && findIn K (.ref 112) "__setattr__" == some (some (.builtin "object.__setattr__")) && plainOver K 112 && wsNames.all (fun nm => takerIn K 112 nm == some none)
section
variable {prog : Program} {w : World} {K : Frag} {n : Nat} {nm : List (Str × NameKind)} {sl : List (Option Str)} {own : Option Nat}

theorem set_mine {A : Around} {s : Shared} {E : Value → Shared → Prop} {x dx : Addr} {es : List DictEntry} {m : Nat} {name : Str} {v : Value} {Q : Unit → Shared → Prop} (X : K.In s.heap) (hw : wsSetB K = true) (hn : name ∈ wsNames) (h1 : s.heap.get? x = some (instObj 112 dx)) (h2 : s.heap.get? dx = some (dictOf es m))
    {nms : List Str} {vs : List Value} (hes : EntOk es nms vs) (hm : name ∉ nms) (hz : es.length ≤ 100)
    (h : ∀ h' hs t, h'.get? dx = some (dictOf (es ++ [⟨hs, .str name t, v⟩]) (m + 1)) → Heap.SameBut dx s.heap h' → Q () { s with heap := h', toks := s.toks + 2 }) : wpAny (model prog w) A (setAttr (.ref x) name v) Q E s := by
  unfold wsSetB at hw
  simp only [Bool.and_eq_true, beq_iff_eq, List.all_eq_true] at hw
  refine byC fun G1 => ?_
  obtain ⟨⟨⟨hw1, hw2⟩, hw3⟩, hw4⟩ := hw
  have W := wsCls hw1
  have I : InstAt s.heap x (instObj 112 dx) 112 (some (dictOf es m)) := ⟨h1, rfl, rfl, h2⟩
  obtain ⟨cd, hc, hd'⟩ := any_some W.2.2.1
  obtain ⟨q1, q2, q3, q4⟩ := hes.miss hm
  refine G1 ?_
  clear G1
  refine set_plain X I hw2 ?_
  refine osa_open (s := { s with toks := s.toks + 1 }) X I hw3 (hw4 name hn) fun b => ?_
  refine wpAny_bind (wpAny_pure (wpAny_bind (wpAny_bind (wpAny_loadPart h1 (wpAny_bind ((looks_clsIn (M := model prog w) X hc) _ _ _ _ (fun _ _ e => e) ?_))))))
  rw [hd']
  refine wpAny_pure (a := some dx) (wpAny_bind (wpAny_pure (wpAny_bind ?_)))
  unfold nsSet
  refine wpAny_bind (wpAny_bind (wpAny_askSetting (wpAny_pure (wpAny_bind (wpAny_mkText (wpAny_bind (wpAny_loadPart h2 ?_)))))))
  have c : (!es.toArray.any (·.key.isStr name) && es.toArray.any (·.refKey)) = false := by
    rw [← Array.any_toList, ← Array.any_toList]
    show (!es.any _ && es.any _) = false
    rw [q2, Bool.and_false]
  dsimp only
  rw [aRefKeyMayBeTheName_at, c]
  have e : Obj.putName name (PyData.keyHash w.params name) (.str name (s.toks + 1)) v (dictOf es m) = dictOf (es ++ [⟨PyData.keyHash w.params name, .str name (s.toks + 1), v⟩]) (m + 1) := by
    rw [putName_dict, q4]
    unfold putN
    rw [q3]; rfl
  refine wpAny_updatePart h2 ?_
  have D' : (s.heap.update dx (Obj.putName name (PyData.keyHash w.params name) (.str name (s.toks + 1)) v)).get? dx = some (dictOf (es ++ [⟨PyData.keyHash w.params name, .str name (s.toks + 1), v⟩]) (m + 1)) := by
    have := Heap.get?_update_self (Obj.putName name (PyData.keyHash w.params name) (.str name (s.toks + 1)) v) h2 (by rw [e]; rfl)
    rw [this, e]
  refine wpAny_bind (wpAny_lookBehind D' (pastItsLine_dict (by rw [List.size_toArray, sizeLine_eq, List.length_append]; simp; omega)) ?_)
  exact wpAny_pure (h _ _ _ D' (Heap.SameBut.update ..))
end
end Mine
end
section
open PySem PySem.W PyProof.Rows PySem.Calls
set_option Elab.async false
set_option maxRecDepth 100000
namespace Mine
section
variable {prog : Program} {w : World} {K : Frag} {n : Nat} {own : Option Nat}

/-- a def is entered, the heap of the call larger than the one that must stand -/
theorem enter_of {f : Addr} {fd : FuncData} {body : List Stmt} {xs : List Str} {rest : List (Option Str)} (ok : DefOk K f fd body xs rest) (hown : ∀ i, own = some i → xs.length ≤ i)
    {A : Around} {s : Shared} {base : Heap} {P : Addr → Prop} {ds : List D} {vs : List Value} {R : Result → Shared → Prop} (hr : Room (n + 1) A) (hg : Gd K base) (eb : Ext base s.heap) (hP : ∀ a, s.heap.get? a = none → P a) (hv : HasAll P s.heap ds vs) (hlen : ds.length = xs.length)
    (h : ∀ env h1 tk1 E', CxS K n fd.scope.names (xs.map some ++ rest) own base (fun a => P a ∧ ¬ Mu env a) env.locals env (A.deeper env) h1 (ds ++ List.replicate rest.length .undef) → Ext s.heap h1 → (∀ a, Mu env a → s.heap.get? a = none) →
      wpAny (model prog w) (A.deeper env) (execs body env) (fun f s' => R (.ok (.ret (match f with | .ret v => v | _ => .none))) s') E' { s with heap := h1, toks := tk1 }) :
    codeAny (model prog w) A (.call (.ref f) ⟨vs, []⟩) R s := by
  refine byC fun G0 => ?_
  obtain ⟨oc, od, osl, hat⟩ := ok.at_
  have hvl : vs.length = xs.length := by rw [hv.length, hlen]
  have hgs := hg.ext eb
  obtain ⟨pp, ll, mg, mb, T⟩ := hgs.T
  refine G0 ?_
  clear G0
  refine codeAny_call_function (fd := fd) (body := body) ?_ (hgs.X _ _ hat) rfl ok.cor ok.gen ok.body (codeRec_of hgs.X ok.code) ?_
  · have := hr.depth; show A.depth < 1000; omega
  rw [ok.bind vs hvl, ok.glob, ok.clos, ok.blt]
  refine wpAny_pure (wpAny_newFunctionEnv_cells ok.kind (fun p hp => ?_) fun env he s' x => ?_)
  · obtain ⟨a, b⟩ := p
    have hm : a ∈ xs := (List.of_mem_zip hp).1
    rcases ok.params a hm with q | q
    · exact .inl q
    · refine .inr ⟨q, ?_⟩
      obtain ⟨c, hc⟩ := cells_some fd.scope.names (s.heap.objs.size + 1) [] a (.inl (mem_of_lookup' q))
      rw [hc]; rfl
  · obtain ⟨h1, tk1, rfl, ek⟩ := x.done
    refine ⟨T.nolimit.keeps ek, codeAny_func ?_⟩
    have hel : env.locals = s.heap.objs.size := by rw [he]; rfl
    have hec : env.cells = cellsFrom (s.heap.objs.size + 1) fd.scope.names [] := by rw [he]; rfl
    have hes : env.scope = fd.scope := by rw [he]; rfl
    have eo : EnvOk fd.scope.names env := by
      refine ⟨by rw [hes]; exact ok.kind, by rw [hes], by rw [he]; rfl, by rw [he]; rfl, fun y hy => ?_, fun y y' c hc hc' => ?_⟩
      · rw [hec]
        refine cells_some _ _ _ y (.inl ?_)
        rcases hy with q | q
        · exact mem_of_lookup' q
        · exact absurd rfl (ok.nofree _ (mem_of_lookup' q))
      · exact name_of_addr x.apart (mem_of_lookup hc) (mem_of_lookup hc')
    have hcell : ∀ y c, env.cells.lookup y = some c → h1.IsCell c (bindC env.kindOf (xs.zip vs) (fun _ => none) y) := fun y c hc => x.cell y c hc
    have S : Sto env h1 := ⟨⟨_, x.toInCall.ns⟩, fun y c hc => ⟨_, hcell y c hc⟩, eo.apart, fun y c hc q => absurd (x.above y c (mem_of_lookup hc)) (by rw [q]; exact Nat.lt_irrefl _)⟩
    have hmu : ∀ a, Mu env a → s.heap.get? a = none := fun a m => by
      cases q : s.heap.get? a with
      | none => rfl
      | some o =>
        have hlt := Heap.lt_size q
        rcases m with m | ⟨y, hy⟩
        · rw [m] at hlt; exact absurd (Nat.lt_of_lt_of_le hlt x.toInCall.fresh) (Nat.lt_irrefl _)
        · have := x.above y a (mem_of_lookup hy)
          exact absurd (Nat.lt_trans (Nat.lt_of_lt_of_le hlt x.toInCall.fresh) this) (Nat.lt_irrefl _)
    have hrm : Room n (A.deeper env) := ⟨hr.handled, by have := hr.depth; show A.depth + 1 + n ≤ 900; omega, by have := hr.units; show A.units + 3 + 20 * n + 200 ≤ 9000; omega⟩
    have hzn : ((xs.zip vs).map (·.1)).Nodup := by
      have : (xs.zip vs).map (·.1) = xs := by
        rw [List.map_fst_zip]; omega
      rw [this]; exact ok.nodup
    refine h env h1 tk1 _ ?_ ek hmu
    refine ⟨eo, hrm, hg, eb.trans ek, S, fun a m => none_of_ext eb (hmu a m), ?_, ?_, fun _ => S.mu (.inl rfl), ?_⟩
    · rintro a ⟨_, q⟩ z
      rcases z with z | z
      · exact q z
      · exact q (.inl z.2)
    · intro a ha
      exact ⟨hP a (none_of_ext ek ha), fun q => by obtain ⟨o, ho⟩ := S.mu q; rw [ha] at ho; cases ho⟩
    · intro i y d' hi hd'
      by_cases hlt : i < ds.length
      · rw [List.getElem?_append_left hlt] at hd'
        rw [List.getElem?_append_left (by simp; omega)] at hi
        have hix : xs[i]? = some y := by
          rw [List.getElem?_map] at hi
          refine byC fun G1 => ?_
          obtain ⟨z, hz, q⟩ := Option.map_eq_some_iff.mp hi
          refine G1 ?_
          clear G1
          cases q; exact hz
        refine byC fun G2 => ?_
        obtain ⟨v, hvi, hh⟩ := hv.get hd'
        refine G2 ?_
        clear G2
        have hm := mem_zip_get hix hvi
        refine .inr ⟨v, ?_, ?_⟩
        · rcases ok.params y (List.mem_of_getElem? hix) with q | q
          · exact .inl ⟨(eo.kindOf y).trans q, _, x.toInCall.ns, bindL_at _ _ _ y v hzn hm ((eo.kindOf y).trans q)⟩
          · obtain ⟨cc, hcc⟩ := eo.cells y (.inl q)
            have hk : env.kindOf y = some .cell := (eo.kindOf y).trans q
            have := hcell y cc hcc
            rw [bindC_at _ _ _ y v hzn hm (by rw [hk]; intro z; cases z)] at this
            refine byC fun G3 => ?_
            obtain ⟨o, ho, hd⟩ := this
            refine G3 ?_
            clear G3
            exact .inr ⟨.inl hk, cc, o, hcc, ho, hd⟩
        · have hq : (own == some i) = false := by
            simp only [beq_eq_false_iff_ne, ne_eq]
            intro z
            have := hown i z
            omega
          rw [hq]
          exact Has.mono (P := P) (fun a o ho p => ⟨⟨p, fun m => by rw [hmu a m] at ho; cases ho⟩, ek a o ho⟩) _ _ hh
      · rw [List.getElem?_append_right (by omega), List.getElem?_replicate] at hd'
        split at hd' <;> cases hd'
        exact .inl rfl
end

/-! data without lists -/
noncomputable def D.noList : D → Bool
  | .none | .bool _ | .int _ | .str _ => true
  | .tup ds => noLists ds
  | _ => false
where noLists : List D → Bool
  | [] => true
  | d :: r => d.noList && noLists r
mutual
theorem Has.offOa {P : Addr → Prop} {h : Heap} {oa : Addr} {us : Array Value} (hl : h.PlainList oa us) : ∀ {d : D} {v : Value}, d.noList = true → Has (fun a => P a ∨ a = oa) h d v → Has P h d v
  | .none, _, _, x => x
  | .bool _, _, _, x => x
  | .int _, _, _, x => x
  | .str _, _, _, x => x
  | .tup ds, v, hn, x => by
    refine byC fun G4 => ?_
    obtain ⟨a, vs, e, pa, ht, hal⟩ := x
    refine G4 ?_
    clear G4
    refine ⟨a, vs, e, pa.resolve_right fun q => ?_, ht, HasAll.offOa hl (by simpa [D.noList] using hn) hal⟩
    refine byC fun G5 => ?_
    obtain ⟨o, ho, hc, _⟩ := ht
    obtain ⟨k, ho'⟩ := hl
    refine G5 ?_
    clear G5
    rw [q, ho'] at ho
    cases ho
    exact absurd (Value.type.inj hc) (by decide)
  | .undef, _, hn, _ | .list _, _, hn, _ | .flist _, _, hn, _ | .addr _, _, hn, _ | .inst _, _, hn, _ | .map1 _, _, hn, _ => by simp [D.noList] at hn
theorem HasAll.offOa {P : Addr → Prop} {h : Heap} {oa : Addr} {us : Array Value} (hl : h.PlainList oa us) : ∀ {ds : List D} {vs : List Value}, D.noList.noLists ds = true → HasAll (fun a => P a ∨ a = oa) h ds vs → HasAll P h ds vs
  | [], _, _, x => x
  | d :: ds, vs, hn, x => by
    simp only [D.noList.noLists, Bool.and_eq_true] at hn
    refine byC fun G6 => ?_
    obtain ⟨v, r, e, a, b⟩ := x
    refine G6 ?_
    clear G6
    exact ⟨v, r, e, Has.offOa hl hn.1 a, HasAll.offOa hl hn.2 b⟩
end
end Mine
end
section
open PySem PySem.W PyProof.Rows PySem.Calls
set_option Elab.async false
set_option maxRecDepth 100000
namespace Mine

noncomputable def Zws (x dx : Addr) (ds : List D) (P : Addr → Prop) (h : Heap) : Prop :=
  h.get? x = some (instObj 112 dx) ∧ ds.length ≤ 5 ∧ ∃ es m vs, h.get? dx = some (dictOf es m) ∧ EntOk es (wsNames.take ds.length) vs ∧ es.length = ds.length ∧ HasAll P h ds vs
theorem zws_ok (x dx : Addr) : ZOk [x, dx] (Zws x dx) := by
  rintro ds P P' h h' k ⟨h1, h5, es, m, vs, h2, h3, h4, h6⟩
  exact ⟨(k x _ h1).2 (by simp), h5, es, m, vs, (k dx _ h2).2 (by simp), h3, h4, HasAll.mono (fun a o ho p => (k a o ho).1 p) _ _ h6⟩
theorem ws_name : ∀ (k : Nat) (name : Str), wsNames[k]? = some name → name ∈ wsNames ∧ name ∉ wsNames.take k ∧ wsNames.take (k + 1) = wsNames.take k ++ [name] ∧ k < 5
  | 0, _, h | 1, _, h | 2, _, h | 3, _, h | 4, _, h => by cases h; decide +kernel
  | k + 5, _, h => by simp [wsNames] at h
noncomputable def asA : D → Option Nat
  | .addr i => some i
  | _ => none
theorem asA_some {d : D} {i : Nat} (h : asA d = some i) : d = .addr i := by
  cases d with
  | addr j => exact congrArg D.addr (Option.some.inj h)
  | _ => exact noneS h
noncomputable def isAddr (x : Addr) (o : Option D) : Bool := o.bind asA == some x
theorem isAddr_of {x : Addr} {o : Option D} (h : isAddr x o = true) : o = some (.addr x) := by
  obtain ⟨d, hd, h⟩ := bb1 (beq_iff_eq.mp h)
  rw [hd, asA_some h]

section
variable {prog : Program} {w : World} {K : Frag} {n : Nat} {nm : List (Str × NameKind)} {sl : List (Option Str)}

noncomputable def setX (i j : Nat) (x : Addr) (name : Str) (f : FD) (ρ : List D) (ds : List D) : Option (Fl × List D × List D) :=
  (f ρ).bind fun d => if (d.flat = true ∨ (d.noList = true ∧ (listAt j ρ).isSome = true)) ∧ isAddr x (var i ρ) = true ∧ wsNames[ds.length]? = some name then some (.next, ρ, ds ++ [d]) else none
theorem x_set {x dx : Addr} {y name : Str} {p ap pos : Pos} {e : Expr} {f : FD} {j : Nat} {yj : Str} (i : Nat) (hi : varOkB sl i y = true) (hj : sl[j]? = some (some yj)) (hw : wsSetB K = true)
    (hs : ∀ env, swapsWith e (some (.Attribute (.Name y p) name ap)) pos.line env = pure false) (h1 : Den prog w K n nm sl e f) :
    DenX1 prog w K n nm sl (some j) [x, dx] (Zws x dx) (.Assign [.Attribute (.Name y p) name ap] e pos) (setX i j x name f) := by
  first | refine denX1_of fun env A s ρ ds T base P oa Q E c of z hG h => ?_ | refine denX_of fun env A s ρ ds T base P oa Q E c of z hG h => ?_
  replace hG := bb1 hG
  refine byC fun G0 => ?_
  obtain ⟨d, hd, hG⟩ := hG
  replace hG := ifs hG
  obtain ⟨hc, hG⟩ := hG
  cases hG
  obtain ⟨hd1, hd2, hd3⟩ := hc
  refine G0 ?_
  clear G0
  have W := ws_name _ _ hd3
  refine plainObj_wpAny_Assign_Attribute (h1 env A s ρ d _ _ _ c.cx hd fun v h' tk e1 hv => ?_) (hs env)
  refine k_var (prog := prog) (w := w) (K := K) (n := n) (nm := nm) i hi env A { s with heap := h', toks := tk } ρ (.addr x) _ _ _ (c.ext e1).cx (isAddr_of hd2) fun v2 h2 tk2 e2 hv2 => ?_
  have hv2' : v2 = .ref x := hv2
  refine byC fun G1 => ?_
  subst hv2'
  have e12 := e1.trans e2
  have c2 := c.ext e12
  have o2 := of.ext e12
  have z2 : Zws x dx ds P h2 := (zws_ok x dx).ext e12 z
  obtain ⟨z1, z5, es, m, vs, hdx, z3, z4, z6⟩ := z2
  refine G1 ?_
  clear G1
  have hv' : Has P h2 d v := by
    rcases hd1 with q | ⟨q, q'⟩
    · exact hv.flat q
    · obtain ⟨lds, hl⟩ := Option.isSome_iff_exists.mp q'
      obtain ⟨vs', _, hpl, _⟩ := owned_at (c.ext e1) hj (listAt_some hl)
      exact (Has.offOa hpl q hv).ext e2
  refine set_mine (s := { s with heap := h2, toks := tk2 }) (c.gd.ext c2.eb).X hw W.1 z1 hdx z3 W.2.1 (by omega) fun h3 hs3 t3 hd3' sb => ?_
  have odx := o2 dx (by simp)
  have hne : x ≠ dx := fun q => by rw [q, hdx] at z1; cases z1
  have kb : KeepBut (fun a => a = dx) h2 h3 := .of_same sb rfl
  have hPd : ∀ a, P a → ¬ a = dx := fun a p q => odx.1 (q ▸ p)
  have hod : oa ≠ dx := fun q => odx.2.1 (.inr ⟨by simp, q.symm⟩)
  have c3 : CxS K n nm sl (some j) base (fun a => P a ∧ ¬ a = dx) oa env A h3 ρ := c2.keepB kb (fun a _ _ p => hPd a p) (fun a mu q => odx.2.1 (.inl (q ▸ mu))) (fun a q => ⟨_, q ▸ hd3'⟩) (fun a q => q ▸ odx.2.2.1) (fun _ _ q => hod q)
  refine h .next h3 _ (fun a => P a ∧ ¬ a = dx) oa ⟨?_, c3.eb, fun a p => p.1, fun a o ho p => ⟨p, hPd a p⟩, .inl rfl, fun _ => c3, fun _ a ha => ?_, rfl⟩ fun _ => ⟨kb x _ hne z1, by simp only [List.length_append, List.length_singleton]; omega, _, _, vs ++ [v], hd3', ?_, by simp [z4], ?_⟩
  · intro b o nb ho
    exact kb b o (fun q => nb (.inr (by simp [q]))) (e12 b o ho)
  · obtain ⟨q1, q2, q3, o, ho⟩ := o2 a ha
    refine ⟨fun p => q1 p.1, q2, q3, ?_⟩
    by_cases q : a = dx
    · exact ⟨_, q ▸ hd3'⟩
    · exact ⟨o, kb a o q ho⟩
  · rw [List.length_append, List.length_singleton, W.2.2.1]
    exact z3.snoc
  · exact (HasAll.mono (fun a o ho p => ⟨⟨p, hPd a p⟩, kb a o (hPd a p) ho⟩) _ _ z6).append (.one (Has.mono (fun a o ho p => ⟨⟨p, hPd a p⟩, kb a o (hPd a p) ho⟩) _ _ hv'))

/-- a text's signs -/
noncomputable def signs (y : Str) : List D := y.cps.toList.map fun c => .str ⟨#[c]⟩
theorem walks_str {I : Addr} {y : Str} {t : Tok} {A : Around} (hh : A.handled = none) : Walks prog w A I [I] [I] y.cps.size (SignAt y) (fun i h => h.IsStrIter I (strIterType y) y t i) := by
  unfold strIterType
  cases ha : y.cps.all (· < 128)
  · exact Walks.strWide hh I y t
  · exact Walks.strAscii hh I y t
noncomputable def rawX (i : Nat) (x : Addr) (ρ : List D) (ds : List D) : Option (List D) := if isAddr x (var i ρ) = true then match ds[0]? with
    | some (D.str y) => some (signs y)
    | _ => none
  else none
theorem ix_raw {x dx : Addr} {y : Str} {p ap : Pos} {j : Nat} (i : Nat) (hi : varOkB sl i y = true) (hw : wsClsB K = true) :
    DenIX prog w K n nm sl (some j) [x, dx] (Zws x dx) (.Attribute (.Name y p) ("raw" : Str) ap) (rawX i x) := by
  intro env A s ρ ds out base P oa Q E c of z hf h
  unfold rawX at hf
  split at hf
  · rename_i hx
    split at hf
    · rename_i tx htx
      cases hf
      rw [arm_eval_Attribute]
      refine wpAny_bind (m := eval (.Name y p) env) (k_var (prog := prog) (w := w) (K := K) (n := n) (nm := nm) i hi env A s ρ (.addr x) _ _ _ c.cx (isAddr_of hx) fun v2 h2 tk2 e2 hv2 => wpAny_bind (wpAny_standAt (wpAny_bind (wpAny_holding ?_))))
      have hv2' : v2 = .ref x := hv2
      refine byC fun G2 => ?_
      subst hv2'
      obtain ⟨z1, z5, es, m, vs, hdx, z3, z4, z6⟩ : Zws x dx ds P h2 := (zws_ok x dx).ext e2 z
      obtain ⟨v, hv, hh⟩ := z6.get htx
      refine G2 ?_
      clear G2
      have W := wsCls hw
      have hlen : 0 < ds.length := by
        cases ds with
        | nil => simp at htx
        | cons _ _ => simp
      have hn : (wsNames.take ds.length)[0]? = some ("raw" : Str) := by rw [List.getElem?_take_of_lt hlen]; rfl
      have hnd : (wsNames.take ds.length).Nodup := List.Sublist.nodup (List.take_sublist _ _) (by decide +kernel)
      have I : InstAt h2 x (instObj 112 dx) 112 (some (dictOf es m)) := ⟨z1, rfl, rfl, hdx⟩
      refine get_value (s := { s with heap := h2, toks := tk2 }) (c.gd.ext (c.ext e2).eb).X I W.1 (findObj_own W.2.2.1 (W.2.2.2 "raw" (by decide +kernel)) rfl ((lookIn_dict _ _ _).trans (z3.hit hnd hn hv))) hh.handed ?_
      refine wpAny_bind (wpAny_letTemporaryGo (wpAny_pure ?_))
      obtain ⟨t, rfl⟩ := hh
      refine wpAny_pyIter_strU ?_
      refine h h2.objs.size _ _ [h2.objs.size] [h2.objs.size] (SignAt tx) (fun i h => h.IsStrIter h2.objs.size (strIterType tx) tx t i) (e2.trans (.push _)) (fun A' hA' => ?_) ⟨_, Heap.get?_push_size _ rfl, rfl, rfl⟩ ?_ ?_ ?_ (fun b hb hw => absurd hb hw) ?_
      · have : (signs tx).length = tx.cps.size := by simp [signs]
        rw [this]
        exact walks_str hA'
      · intro b hb
        rw [List.mem_singleton.mp hb]
        exact ⟨_, Heap.get?_push_size _ rfl⟩
      · intro b hb
        rw [List.mem_singleton.mp hb]
        exact none_of_ext e2 (size_none _)
      · intro i h st b hb
        rw [List.mem_singleton.mp hb]
        obtain ⟨o, ho, _⟩ := st
        exact ⟨o, ho⟩
      · intro k d v hk hv
        obtain ⟨cc, u, hc, rfl⟩ := hv
        unfold signs at hk
        rw [List.getElem?_map] at hk
        obtain ⟨c', hc', rfl⟩ := Option.map_eq_some_iff.mp hk
        rw [Array.getElem?_toList, hc] at hc'
        cases hc'
        exact ⟨u, rfl⟩
    · cases hf
  · cases hf

/-! tuples -/
noncomputable def tup2C (f g : FD) : FD := fun ρ => (f ρ).bind fun a => (g ρ).bind fun b => some (.tup [a, b])
theorem k_tup2 {e1 e2 : Expr} {k : Nat} {pos : Pos} {f g : FD} (he1 : ∀ env, starEach [e1, e2] env = (false, eval e1 env) :: starEach [e2] env) (he2 : ∀ env, starEach [e2] env = (false, eval e2 env) :: starEach [] env)
    (h1 : Den prog w K n nm sl e1 f) (h2 : Den prog w K n nm sl e2 g) : Den prog w K n nm sl (.Tuple [e1, e2] k pos) (tup2C f g) := by
  intro env A s ρ d P Q E c hf h
  replace hf := bb2 hf
  refine byC fun G3 => ?_
  obtain ⟨a, ha, b, hb, hf⟩ := hf
  cases hf
  refine G3 ?_
  clear G3
  refine Tuple_ (args_cons (h1 env A s ρ _ _ _ _ c ha fun v1 h1' tk1 q1 hv1 => args_cons (h2 env A _ ρ _ _ _ _ (c.ext q1) hb fun v2 h2' tk2 q2 hv2 => args_nil ?_) (he2 env)) (he1 env))
  refine wpAny_newObj_type ?_
  have e12 := (q1.trans q2).trans (Ext.push (h := h2') { cls := .type "tuple", data := .seq [v1, v2].toArray })
  exact h _ _ _ e12 ⟨_, [v1, v2], rfl, ((c.ext q1).ext q2).fresh _ (size_none h2'), ⟨_, Heap.get?_push_size _ rfl, rfl, 0, rfl⟩, ⟨v1, _, rfl, (hv1.ext q2).ext (.push _), .one (hv2.ext (.push _))⟩⟩
noncomputable def tupOfC (f : FD) : FD := fun ρ => (f ρ).bind fun d => (asL d).bind fun ds => if ds.length ≤ 100000 then some (.tup ds) else none
theorem k_tupOf {x : Str} {p pos : Pos} {e : Expr} {f : FD} (hx : gOkB nm x = true) (hg : nsIn K mainGlobals x = some none) (hb : bootBuiltins x = some (.type "tuple")) (he : ∀ env, starEach [e] env = (false, eval e env) :: starEach [] env) (h1 : Den prog w K n nm sl e f) :
    Den prog w K n nm sl (.Call (.Name x p) [e] [] pos) (tupOfC f) := by
  intro env A s ρ d P Q E c hf h
  replace hf := bb2 hf
  obtain ⟨a, ha, ds, hds, hf⟩ := hf
  cases asL_some hds
  replace hf := ifs hf
  obtain ⟨hle, hf⟩ := hf
  cases hf
  refine Call_Name rfl (bname c.eok c.gd (gOk hx).1 hg hb (gOk hx).2.2 (gOk hx).2.1 ?_)
  refine PyProof.Rows.callWith_type1 (args_cons (h1 env A s ρ _ P _ _ c ha fun v h' tk e1 hv => ?_) (he env)) (he env) rfl
  refine byC fun G4 => ?_
  obtain ⟨l, vs, rfl, pl, hl, hal⟩ := hv
  refine G4 ?_
  clear G4
  have hlen := hal.length
  refine args_nil (call_tuple_list (s := { s with heap := h', toks := tk }) hl.isList (fun h3 hk => ?_) (by rw [List.size_toArray, hal.length]; exact szl hle))
  have e3 : Ext h' h3 := fun b o ho => hk b o ho
  exact h _ _ _ ((e1.trans e3).trans (.push _)) ⟨_, vs, rfl, ((c.ext e1).ext e3).fresh _ (size_none h3), ⟨_, Heap.get?_push_size _ rfl, rfl, 0, rfl⟩, (hal.ext e3).ext (.push _)⟩
end
end Mine
end
section
open PySem PySem.W PyProof.Rows PySem.Calls
set_option Elab.async false
set_option maxRecDepth 100000
namespace Mine
section
variable {prog : Program} {w : World} {K : Frag} {n : Nat} {nm : List (Str × NameKind)} {sl : List (Option Str)} {own : Option Nat} {X : Type} {S : List Addr} {Z : X → (Addr → Prop) → Heap → Prop}
noncomputable def skipX (ρ : List D) (x : X) : Option (Fl × List D × X) := some (.next, ρ, x)
noncomputable def forX (i : Nat) (fi : List D → X → Option (List D)) (gb : List D → X → Option (Fl × List D × X)) (ρ : List D) (y : X) : Option (Fl × List D × X) := (fi ρ y).bind fun ds => forXD i gb ds ρ y
theorem x_lift (zk : ZOk S Z) {ss : List Stmt} {g : List D → Option (Fl × List D)} (h1 : DenS prog w K n nm sl own ss g) : DenX prog w K n nm sl own S Z ss (liftX g) := x_liftS zk h1
end
theorem bb_tuple : bootBuiltins "tuple" = some (.type "tuple") := by kernel_rfl
noncomputable section
set_option maxHeartbeats 4000000

noncomputable abbrev slWs : List (Option Str) := [some "self", some "ws", some "S", some "T", some "count", some "b", some "n", some "nt", some "ch"]

noncomputable def g_wsb : FS := (seqS (ifS (cmpT .Eq (var 8) (var 2)) (seqS (asgS 6 (binC .Add (var 6) (iC 1)))
  (seqS (asgS 5 (binC .Add (var 5) (iC 1)))
  skipS)) (seqS (ifS (cmpT .Eq (var 8) (var 3)) (seqS (asgS 6 (binC .Add (var 6) (iC 1)))
  (seqS (asgS 7 (binC .Add (var 7) (iC 1)))
  (seqS (ifS (cmpT .GtE (var 5) (callC lenD (consA (var 4) nilA))) (seqS (growS 4 (binC .Mult (listC (consA (iC 0) nilA)) (binC .Add (binC .Sub (var 5) (callC lenD (consA (var 4) nilA))) (iC 1))))
  skipS) skipS)
  (seqS (setIS 4 (var 5) (binC .Add (idxC (var 4) (var 5)) (iC 1)))
  (seqS (asgS 5 (iC 0))
  skipS))))) (seqS brkS
  skipS))
  skipS))
  skipS)

noncomputable def G_ws (x : Addr) : List D → List D → Option (Fl × List D × List D) := (seqX (setX 0 4 x (Str.ofString "raw") (var 1))
  (seqX (liftX (tup2S 2 3 (sC (Str.ofString " ")) (sC (Str.ofString "\t"))))
  (seqX (liftX (newS 4 nilA))
  (seqX (liftX (asg3S 5 6 7 (iC 0)))
  (seqX (forX 8 (rawX 0 x) (liftX g_wsb))
  (seqX (setX 0 4 x (Str.ofString "n") (var 6))
  (seqX (setX 0 4 x (Str.ofString "nt") (var 7))
  (seqX (setX 0 4 x (Str.ofString "norm") (tup2C (tupOfC (var 4)) (var 5)))
  (seqX (setX 0 4 x (Str.ofString "is_simple") (cmpC .LtE (callC lenD (consA (var 4) nilA)) (iC 1)))
  skipX)))))))))
theorem d_ws (prog : Program) (w : World) (n : Nat) (x dx : Addr) : DenX prog w (KK w) n (nmOf w.params 67) slWs (some 4) [x, dx] (Zws x dx) (bodyOf w.params 67) (G_ws x) :=
  (x_cons (x_set (yj := "count") 0 (by kernel_rfl) (by kernel_rfl) (by kernel_rfl) (fun _ => rfl) (k_var 1 (by kernel_rfl)))
  (x_cons (x_lift1 (zws_ok x dx) (s_tup2 2 3 (by kernel_rfl) (by kernel_rfl) (by kernel_rfl) rfl rfl rfl (fun _ => rfl) (fun _ => rfl) (k_clsattr (C := 112) (y := Str.ofString " ") (by kernel_rfl) (by kernel_rfl) (by kernel_rfl)) (k_clsattr (C := 112) (y := Str.ofString "\t") (by kernel_rfl) (by kernel_rfl) (by kernel_rfl))))
  (x_cons (x_lift1 (zws_ok x dx) (s_new (by kernel_rfl) (fun _ => rfl) n_nil))
  (x_cons (x_lift1 (zws_ok x dx) (s_asg3 5 6 7 (by kernel_rfl) (by kernel_rfl) (by kernel_rfl) (fun _ => rfl) (fun _ => rfl) k_int))
  (x_cons (x_for (zws_ok x dx) 8 (nameAt_ok (by kernel_rfl)) (ix_raw 0 (by kernel_rfl) (by kernel_rfl)) (x_lift (zws_ok x dx) (s_cons (s_if (t_cmp rfl (k_var 8 (by kernel_rfl)) (k_var 2 (by kernel_rfl))) (s_cons (s_asg 6 (by kernel_rfl) (fun _ => rfl) (k_bin (k_var 6 (by kernel_rfl)) k_int))
  (s_cons (s_asg 5 (by kernel_rfl) (fun _ => rfl) (k_bin (k_var 5 (by kernel_rfl)) k_int))
  s_nil)) (s_cons (s_if (t_cmp rfl (k_var 8 (by kernel_rfl)) (k_var 3 (by kernel_rfl))) (s_cons (s_asg 6 (by kernel_rfl) (fun _ => rfl) (k_bin (k_var 6 (by kernel_rfl)) k_int))
  (s_cons (s_asg 7 (by kernel_rfl) (fun _ => rfl) (k_bin (k_var 7 (by kernel_rfl)) k_int))
  (s_cons (s_if (t_cmp rfl (k_var 5 (by kernel_rfl)) (k_callB (by kernel_rfl) (by kernel_rfl) bb_len (fun _ => rfl) (fun _ => rfl) ok_len (l_cons (fun _ => rfl) (k_var 4 (by kernel_rfl)) l_nil))) (s_cons (s_grow (by kernel_rfl) (by kernel_rfl) (fun _ => rfl) (k_bin (k_list (l_cons (fun _ => rfl) k_int l_nil)) (k_bin (k_bin (k_var 5 (by kernel_rfl)) (k_callB (by kernel_rfl) (by kernel_rfl) bb_len (fun _ => rfl) (fun _ => rfl) ok_len (l_cons (fun _ => rfl) (k_var 4 (by kernel_rfl)) l_nil))) k_int)))
  s_nil) s_nil)
  (s_cons (s_setI (by kernel_rfl) (by kernel_rfl) (fun _ => rfl) (k_var 5 (by kernel_rfl)) (k_bin (k_idx (fun _ _ => rfl) (k_var 4 (by kernel_rfl)) (k_var 5 (by kernel_rfl))) k_int))
  (s_cons (s_asg 5 (by kernel_rfl) (fun _ => rfl) k_int)
  s_nil))))) (s_cons s_brk
  s_nil))
  s_nil))
  s_nil)) (fun _ _ => rfl))
  (x_cons (x_set (yj := "count") 0 (by kernel_rfl) (by kernel_rfl) (by kernel_rfl) (fun _ => rfl) (k_var 6 (by kernel_rfl)))
  (x_cons (x_set (yj := "count") 0 (by kernel_rfl) (by kernel_rfl) (by kernel_rfl) (fun _ => rfl) (k_var 7 (by kernel_rfl)))
  (x_cons (x_set (yj := "count") 0 (by kernel_rfl) (by kernel_rfl) (by kernel_rfl) (fun _ => rfl) (k_tup2 (fun _ => rfl) (fun _ => rfl) (k_tupOf (by kernel_rfl) (by kernel_rfl) bb_tuple (fun _ => rfl) (k_var 4 (by kernel_rfl))) (k_var 5 (by kernel_rfl))))
  (x_cons (x_set (yj := "count") 0 (by kernel_rfl) (by kernel_rfl) (by kernel_rfl) (fun _ => rfl) (k_cmp rfl (k_callB (by kernel_rfl) (by kernel_rfl) bb_len (fun _ => rfl) (fun _ => rfl) ok_len (l_cons (fun _ => rfl) (k_var 4 (by kernel_rfl)) l_nil)) k_int))
  x_nil)))))))))


noncomputable def g_ind : FS := (seqS (unp2S 2 3 (attrC 3 (var 0)))
  (seqS (asgS 4 (iC 0))
  (seqS (forS 5 (range2C (var 1) (callC lenD (consA (var 2) nilA))) (seqS (asgS 4 (binC .Add (var 4) (binC .Mult (binC .FloorDiv (var 5) (var 1)) (idxC (var 2) (var 5)))))
  skipS) skipS)
  (seqS (retS (binC .Add (var 3) (binC .Mult (var 1) (binC .Add (var 4) (attrC 2 (var 0))))))
  skipS))))
theorem d_ind (prog : Program) (w : World) (n : Nat) : DenS prog w (KK w) n (nmOf w.params 81) [some "self", some "tabsize", some "count", some "trailing", some "il", some "i"] none (bodyOf w.params 81) g_ind :=
  (s_cons (s_unp2 2 3 (by kernel_rfl) (by kernel_rfl) (fun _ => rfl) (fun _ => rfl) (k_attr 3 rfl (by kernel_rfl) (fun _ => rfl) (k_var 0 (by kernel_rfl))))
  (s_cons (s_asg 4 (by kernel_rfl) (fun _ => rfl) k_int)
  (s_cons (s_for 5 (by kernel_rfl) (fun _ _ => rfl) (i_range2 (by kernel_rfl) (by kernel_rfl) (fun _ => rfl) (fun _ => rfl) (fun _ => rfl) (k_var 1 (by kernel_rfl)) (k_callB (by kernel_rfl) (by kernel_rfl) bb_len (fun _ => rfl) (fun _ => rfl) ok_len (l_cons (fun _ => rfl) (k_var 2 (by kernel_rfl)) l_nil))) (s_cons (s_asg 4 (by kernel_rfl) (fun _ => rfl) (k_bin (k_var 4 (by kernel_rfl)) (k_bin (k_bin (k_var 5 (by kernel_rfl)) (k_var 1 (by kernel_rfl))) (k_idx (fun _ _ => rfl) (k_var 2 (by kernel_rfl)) (k_var 5 (by kernel_rfl))))))
  s_nil) s_nil)
  (s_cons (s_ret (k_bin (k_var 3 (by kernel_rfl)) (k_bin (k_var 1 (by kernel_rfl)) (k_bin (k_var 4 (by kernel_rfl)) (k_attr 2 rfl (by kernel_rfl) (fun _ => rfl) (k_var 0 (by kernel_rfl)))))))
  s_nil))))
noncomputable def F_ind : List D → Option D := resD g_ind 2 4
theorem ok_ind (prog : Program) (w : World) (n : Nat) : CallOk prog w (KK w) (n + 1) (.ref 81) F_ind :=
  call_of (K := KK w) (f := 81) (fd := fnD w.params 81) (body := bodyOf w.params 81) (xs := ["self", "tabsize"]) (rest := [some "count", some "trailing", some "il", some "i"]) (own := none) (defOk_of ⟨_, _, _, rfl⟩ rfl (by kernel_rfl)
    (ar2 fun v0 v1 => (by kernel_rfl)) (by kernel_rfl)) (fun _ q => by cases q) (d_ind prog w n)

/-- what Whitespace(d) makes -/
noncomputable def WsMade (d : D) (r : List D) : Prop := ∀ x, ∃ ρ', G_ws x [.addr x, d, .undef, .undef, .undef, .undef, .undef, .undef, .undef] [] = some (.next, ρ', r)
open Classical in
noncomputable def F_ws (ds : List D) : Option D := match ds with
  | [d] => if h : ∃ r, r.length = 5 ∧ WsMade d r then some (.inst h.choose) else none
  | _ => none
theorem F_ws_of {d : D} {r : List D} (h5 : r.length = 5) (h : WsMade d r) : F_ws [d] = some (.inst r) := by
  unfold F_ws
  have q : ∃ r, r.length = 5 ∧ WsMade d r := ⟨r, h5, h⟩
  simp only [dif_pos q]
  obtain ⟨_, e1⟩ := q.choose_spec.2 0
  obtain ⟨_, e2⟩ := h 0
  rw [e1] at e2
  cases e2
  rfl
theorem def_ws (w : World) : DefOk (KK w) 67 (fnD w.params 67) (bodyOf w.params 67) ["self", "ws"] [some "S", some "T", some "count", some "b", some "n", some "nt", some "ch"] :=
  defOk_of ⟨_, _, _, rfl⟩ rfl (by kernel_rfl) (ar2 fun v0 v1 => (by kernel_rfl)) (by kernel_rfl)
theorem ok_ws (prog : Program) (w : World) (n : Nat) : CallOk prog w (KK w) (n + 2) (.ref 112) F_ws := by
  intro A s P ds vs d Q E hr hg hP hv hf h
  unfold F_ws at hf
  split at hf
  · rename_i a
    split at hf
    · rename_i hq
      cases hf
      obtain ⟨q5, qm⟩ := hq.choose_spec
      generalize hq.choose = r at h q5 qm
      refine byC fun G0 => ?_
      obtain ⟨v, rr, rfl, hva, hrr⟩ := hv
      cases hrr
      refine G0 ?_
      clear G0
      refine wpAny_call ?_
      obtain ⟨hp, g, dr, tk, os⟩ := s
      have hX : (KK w).In hp := hg.X
      refine make_core (init := .ref 67) (makes_of hX (by kernel_rfl)) (looks_findIn hX (by kernel_rfl)) (fun self => bind_fn hX self (by kernel_rfl)) (.inl rfl) ?_
      have e2 : Ext hp ((hp.push emptyDict).push (instObj 112 hp.objs.size)) := (Ext.push _).trans (Ext.push _)
      have hx : ((hp.push emptyDict).push (instObj 112 hp.objs.size)).get? (hp.objs.size + 1) = some (instObj 112 hp.objs.size) := by heap_get
      have hdx : ((hp.push emptyDict).push (instObj 112 hp.objs.size)).get? hp.objs.size = some emptyDict := by heap_get
      have n1 : hp.get? hp.objs.size = none := size_none hp
      have n2 : hp.get? (hp.objs.size + 1) = none := by
        cases q : hp.get? (hp.objs.size + 1) with
        | none => rfl
        | some o => exact absurd (Heap.lt_size q) (Nat.not_lt.mpr (Nat.le_succ _))
      have hcu : (Code.builtin "type.__call__" ⟨[.ref 112, v], []⟩).cUnits ≤ 4 := by
        have : (Code.builtin "type.__call__" ⟨[.ref 112, v], []⟩).frames ≤ 1 := by
          first | exact Nat.le_refl _ | exact Nat.zero_le _ | decide | (unfold Code.frames; split <;> omega)
        show 1 + 3 * _ ≤ 4
        omega
      have hrm : Room (n + 1) (A.under (.builtin "type.__call__" ⟨[.ref 112, v], []⟩)) := ⟨hr.handled, by have := hr.depth; show A.depth + 1 + (n + 1) ≤ 900; omega, by have := hr.units; show A.units + (Code.builtin "type.__call__" ⟨[.ref 112, v], []⟩).cUnits + 20 * (n + 1) + 200 ≤ 9000; omega⟩
      refine enter_of (own := some 4) (P := fun b => P b ∧ b ∉ [hp.objs.size + 1, hp.objs.size]) (ds := [.addr (hp.objs.size + 1), a]) (def_ws w) (fun _ q => by cases q; decide) hrm hg e2 ?_ ?_ rfl fun env h1 tk1 E' c ek hmu => ?_
      · intro b hb
        refine ⟨hP b (none_of_ext e2 hb), fun q => ?_⟩
        rcases List.mem_cons.mp q with q | q
        · rw [q, hx] at hb; cases hb
        · rw [List.mem_singleton.mp q, hdx] at hb; cases hb
      · refine ⟨_, _, rfl, rfl, .one (Has.mono (P := P) (h := hp) (fun b o ho p => ⟨⟨p, fun q => ?_⟩, e2 b o ho⟩) _ _ hva)⟩
        rcases List.mem_cons.mp q with q | q
        · rw [q, n2] at ho; cases ho
        · rw [List.mem_singleton.mp q, n1] at ho; cases ho
      · obtain ⟨ρ', hG⟩ := qm (hp.objs.size + 1)
        refine d_ws prog w n (hp.objs.size + 1) hp.objs.size env _ { heap := h1, gens := g, drawn := dr, toks := tk1, os := os } _ [] .next ρ' r hp _ env.locals _ _ c ?_ ?_ hG fun flow h' tk' P' oa' af az => ?_
        · intro b hb
          have hne : ¬ Mu env b := fun m => by
            have := hmu b m
            rcases List.mem_cons.mp hb with q | q
            · rw [q] at this; exact absurd (hx.symm.trans this) (by simp)
            · rw [List.mem_singleton.mp q] at this; exact absurd (hdx.symm.trans this) (by simp)
          refine ⟨fun p => p.1.2 hb, fun q => q.elim hne fun z => hne (.inl z.2), ?_, ?_⟩
          · rcases List.mem_cons.mp hb with q | q
            · rw [q]; exact n2
            · rw [List.mem_singleton.mp q]; exact n1
          · rcases List.mem_cons.mp hb with q | q
            · rw [q]; exact ⟨_, ek _ _ hx⟩
            · rw [List.mem_singleton.mp q]; exact ⟨_, ek _ _ hdx⟩
        · exact ⟨ek _ _ hx, by simp, [], 0, [], ek _ _ hdx, .nil, rfl, rfl⟩
        · have e : flow = .next := af.fl
          subst e
          refine ⟨rfl, ?_⟩
          refine byC fun G1 => ?_
          obtain ⟨z1, _, es, m, us, z2, z3, z4, z6⟩ := az rfl
          refine G1 ?_
          clear G1
          rw [q5] at z3
          refine h _ _ _ af.eb ⟨_, _, us, rfl, hP _ n2, hP _ n1, ⟨z1, _, z2, fun i nm v hi hv => ?_, ?_⟩, HasAll.mono (fun b o ho p => ⟨(af.sub b p).1.1, ho⟩) _ _ z6⟩
          · rw [lookIn_dict]
            exact z3.hit (by decide +kernel) hi hv
          · rw [lookIn_dict]
            obtain ⟨m1, m2, _⟩ := z3.miss (nm := "indent_level") (by decide +kernel)
            unfold getL
            rw [m1]
            show (if es.any _ = true then none else some none) = some none
            rw [m2]; rfl
    · cases hf
  · cases hf
end
end Mine
end
section
open PySem PySem.W PyProof.Rows PySem.Calls
set_option Elab.async false
set_option maxRecDepth 100000
namespace Mine

theorem entry_next : entryFor table "next" = some Builtin.«next» := entryFor_of_tree (by kernel_rfl)
theorem kind_next : builtinKind "next" = none := by decide +kernel
theorem plain_next : plainId "next" = true := by decide +kernel
theorem args_next (a : Value) : argsOk "next" ⟨[a], []⟩ := by unfold argsOk; kernel_rfl
theorem entry_iter : entryFor table "iter" = some Builtin.«iter» := entryFor_of_tree (by kernel_rfl)
theorem kind_iter : builtinKind "iter" = none := by decide +kernel
theorem plain_iter : plainId "iter" = true := by decide +kernel
theorem args_iter (a : Value) : argsOk "iter" ⟨[a], []⟩ := by unfold argsOk; kernel_rfl

section
variable {prog : Program} {w : World} {A : Around} {E : Value → Shared → Prop} {s : Shared}
theorem next_list {it l : Addr} {i : Nat} {items : Array Value} {x : Value} {Q : Value → Shared → Prop} (hit : s.heap.IsListIter it l i) (hl : s.heap.IsList l items) (hx : items[i]? = some x)
    (hQ : ∀ h', h'.IsListIter it l (i + 1) → Heap.SameBut it s.heap h' → Q x { s with heap := h' }) : wpAny (model prog w) A (call (.builtin "next") [.ref it]) Q E s := by
  refine byC fun G0 => ?_
  obtain ⟨o, ho, hc, hd⟩ := id hit
  obtain ⟨ol, hol, _, nl, hdl⟩ := hl
  refine G0 ?_
  clear G0
  refine Calls.call_function_entry kind_next plain_next entry_next (args_next _) ?_
  unfold Builtin.«next»
  refine wpAny_bind (m := someArgs "next" 1 2 ⟨[.ref it], []⟩) (wpAny_pure ?_)
  refine wpAny_bind (wpAny_specialOf hit.typeIs slot_listiter_next.lookup ?_)
  show wpAny _ _ ((callSpecial? (.ref it) "__next__") >>= _) _ _ s
  refine wpAny_bind (wpAny_callSpecial?_slot (name := Str.ofString "__next__") hit.typeIs slot_listiter_next
    (wpAny_call_entry slot_listiter_next hit.typeIs entry_listiter_next ?_ (args_listiter_next _)))
  show wpAny _ _ (field (.ref it) 0 >>= _) _ _ s
  refine wpAny_bind (wpAny_field ho hd (x := .ref l) rfl ?_)
  show wpAny _ _ (if (Value.ref l == Value.none) = true then _ else _) _ _ s
  rw [if_neg (show ¬ ((Value.ref l == Value.none) = true) from Bool.false_ne_true)]
  show wpAny _ _ (field (.ref it) 1 >>= _) _ _ s
  refine wpAny_bind (wpAny_field ho hd (x := .int i 0) rfl ?_)
  show wpAny _ _ (seqItems? (.ref l) >>= _) _ _ s
  refine wpAny_bind (wpAny_seqItems hol hdl ?_)
  simp only [Int.toNat_natCast, hx]
  refine wpAny_bind (wpAny_setField ho hd (by simp) (wpAny_pure ⟨x, rfl, wpAny_pure ⟨x, rfl, hQ _ ?_ (Heap.SameBut.update ..)⟩⟩))
  exact ⟨_, Heap.get?_update_self _ ho (Obj.isFreed_of_fields (Obj.data_mapFields hd _)), (Obj.cls_mapFields ..).trans hc, by
    rw [Obj.data_mapFields hd]; simp [rawInt]⟩
theorem iter_list {l : Addr} {items : Array Value} {Q : Value → Shared → Prop} (hl : s.heap.IsList l items)
    (hQ : Q (.ref s.heap.objs.size) { s with heap := s.heap.push { cls := .type "list_iterator", data := .fields #[.ref l, .int 0 0] } }) : wpAny (model prog w) A (call (.builtin "iter") [.ref l]) Q E s := by
  refine Calls.call_function_entry kind_iter plain_iter entry_iter (args_iter _) ?_
  unfold Builtin.«iter»
  refine wpAny_bind (m := someArgs "iter" 1 2 ⟨[.ref l], []⟩) (wpAny_pure ?_)
  show wpAny _ _ (pyIter (.ref l) >>= _) _ _ s
  exact wpAny_bind (wpAny_pyIter_list hl (wpAny_pure ⟨_, rfl, hQ⟩))
end

/-- the side's word: a list iterator, and what it will still hand out -/
noncomputable def Zit (I : Addr) (r : List D) (P : Addr → Prop) (h : Heap) : Prop := ∃ l us i ds, h.IsListIter I l i ∧ P l ∧ h.PlainList l us.toArray ∧ HasAll P h ds us ∧ ds.drop i = r
theorem zit_ok (I : Addr) : ZOk [I] (Zit I) := by
  rintro r P P' h h' k ⟨l, us, i, ds, ⟨o, ho, hr⟩, pl, ⟨m, hl⟩, hal, e⟩
  exact ⟨l, us, i, ds, ⟨o, (k I o ho).2 (by simp), hr⟩, ((k l _ hl).1 pl).1, ⟨m, ((k l _ hl).1 pl).2⟩, HasAll.mono (fun a o ho p => (k a o ho).1 p) _ _ hal, e⟩
section
variable {prog : Program} {w : World} {K : Frag} {n : Nat} {nm : List (Str × NameKind)} {sl : List (Option Str)} {own : Option Nat}
noncomputable def nextX (i k : Nat) (I : Addr) (ρ r : List D) : Option (Fl × List D × List D) := match r with
  | [] => none
  | d :: r' => if d.flat = true ∧ isAddr I (var k ρ) = true ∧ i < ρ.length then some (.next, ρ.set i d, r') else none
theorem x_next {I : Addr} {y it : Str} {py p p2 cp pos : Pos} (i k : Nat) (hy : nameAt nm sl none y = some i) (hk : varOkB sl k it = true) (hx : gOkB nm ("next" : Str) = true) (hg : nsIn K mainGlobals ("next" : Str) = some none)
    (hs : ∀ env, swapsWith (.Call (.Name ("next" : Str) p) [.Name it p2] [] cp) (some (.Name y py)) pos.line env = pure false) :
    DenX1 prog w K n nm sl none [I] (Zit I) (.Assign [.Name y py] (.Call (.Name ("next" : Str) p) [.Name it p2] [] cp) pos) (nextX i k I) := by
  first | refine denX1_of fun env A s ρ r T base P oa Q E c of z hG h => ?_ | refine denX_of fun env A s ρ r T base P oa Q E c of z hG h => ?_
  cases r with
  | nil => cases hG
  | cons d r0 =>
    replace hG := ifs hG
    refine byC fun G1 => ?_
    obtain ⟨hc, hG⟩ := hG
    cases hG
    obtain ⟨hfl, hI, hlt⟩ := hc
    refine G1 ?_
    clear G1
    have ny := nameAt_ok hy
    refine wpAny_Assign_Name ?_ (hs env)
    refine Call_Name rfl (bname c.eok (c.gd.ext c.eb) (gOk hx).1 hg (v := .builtin "next") (by decide +kernel) (gOk hx).2.2 (gOk hx).2.1 ?_)
    refine PyProof.Rows.callWith_builtin1 (args_cons (k_var (prog := prog) (w := w) (K := K) (n := n) (nm := nm) k hk env A s ρ (.addr I) _ _ _ c.cx (isAddr_of hI) fun v2 h2 tk2 e2 hv2 => args_nil ?_) rfl) rfl rfl
    have hv2' : v2 = .ref I := hv2
    refine byC fun G2 => ?_
    subst hv2'
    obtain ⟨l, us, m, ds, hit, pl, hl, hal, hdr⟩ : Zit I (d :: r0) P h2 := (zit_ok I).ext e2 z
    refine G2 ?_
    clear G2
    have hdm : ds[m]? = some d := by
      have : (ds.drop m)[0]? = some d := by rw [hdr]; rfl
      simpa using this
    have hdr' : ds.drop (m + 1) = r0 := by rw [← List.drop_drop, hdr]; rfl
    refine byC fun G3 => ?_
    obtain ⟨u, hu, hh⟩ := hal.get hdm
    refine G3 ?_
    clear G3
    refine next_list (s := { s with heap := h2, toks := tk2 }) hit hl.isList (by simpa using hu) fun h3 hit3 sb => ?_
    have c2 := c.ext e2
    have o2 := of.ext e2
    have oI := o2 I (by simp)
    have kb : KeepBut (fun a => a = I) h2 h3 := .of_same sb rfl
    have hPd : ∀ a, P a → ¬ a = I := fun a p q => oI.1 (q ▸ p)
    have hI3 : ∃ o, h3.get? I = some o := let ⟨o, ho, _⟩ := hit3; ⟨o, ho⟩
    have c3 : CxS K n nm sl none base (fun a => P a ∧ ¬ a = I) env.locals env A h3 ρ := by
      have c2' : CxS K n nm sl none base P env.locals env A h2 ρ := ⟨c2.eok, c2.room, c2.gd, c2.eb, c2.sto, c2.mub, fun a p q => c2.pmu a p (q.elim .inl fun z => absurd rfl z.1), c2.fresh, fun q => absurd rfl q, fun i x d hi hd => c2.slots i x d hi hd⟩
      exact c2'.keepB kb (fun a _ _ p => hPd a p) (fun a mu q => oI.2.1 (.inl (q ▸ mu))) (fun a q => q ▸ hI3) (fun a q => q ▸ oI.2.2.1) (fun _ _ q => oI.2.1 (.inl (.inl q.symm)))
    have c3' : CxS K n nm sl none base (fun a => P a ∧ ¬ a = I) oa env A h3 ρ := ⟨c3.eok, c3.room, c3.gd, c3.eb, c3.sto, c3.mub, fun a p q => c3.pmu a p (q.elim .inl fun z => absurd rfl z.1), c3.fresh, fun q => absurd rfl q, fun i x d hi hd => c3.slots i x d hi hd⟩
    have o3 : Off [I] (fun a => P a ∧ ¬ a = I) env none oa base h3 := fun a ha => by
      rw [List.mem_singleton.mp ha]
      exact ⟨fun p => oI.1 p.1, oI.2.1, oI.2.2.1, hI3⟩
    have z3 : Zit I r0 (fun a => P a ∧ ¬ a = I) h3 := ⟨l, us, m + 1, ds, hit3, ⟨pl, hPd l pl⟩, hl.at fun o ho => kb l o (hPd l pl) ho, HasAll.mono (fun a o ho p => ⟨⟨p, hPd a p⟩, kb a o (hPd a p) ho⟩) _ _ hal, hdr'⟩
    have a3 : AftX K n nm sl none [I] base P oa env A s.heap .next ρ .next h3 (fun a => P a ∧ ¬ a = I) oa :=
      ⟨fun b o nb ho => kb b o (fun q => nb (.inr (by simp [q]))) (e2 b o ho), c3.eb, fun a p => p.1, fun a o ho p => ⟨p, hPd a p⟩, .inl rfl, fun _ => c3', fun _ => o3, rfl⟩
    refine store1 (s := { s with heap := h3, toks := tk2 }) c3' ny.slot ny.once ny.own ny.kind (hh.flat hfl) hlt fun h4 tk4 kb4 a4 => ?_
    exact h _ _ _ _ _ (a3.trans c of (a4.toX o3)) fun _ => (zit_ok I).aft c3' o3 a4 z3
end
end Mine
end
section
open PySem PySem.W PyProof.Rows PySem.Calls
set_option Elab.async false
set_option maxRecDepth 100000
namespace Mine
open PySem.Builtin

theorem mro_filter : mroOf (.type "filter") = pure [.type "filter", .type "object"] := by rw [mroOf_type]; kernel_rfl
theorem lookup_filter_new : typeLookup (.type "filter") "__new__" = pure (some (.builtin "filter.__new__")) := by rw [typeLookup_type, builtinLookup_eq_fast]; kernel_rfl
theorem slot_filter_init : Slot "filter" "__init__" "object.__init__" :=
  .of (owner := "object") (n := "__init__") (by rw [typeLookup_type, builtinLookup_eq_fast]; kernel_rfl) (by decide +kernel) (by decide +kernel) (by decide +kernel)
    (by first | exact .inl (by decide +kernel) | exact .inr (by decide +kernel)) (by rw [isSubtype_type]; kernel_rfl)
theorem slot_filter_next : Slot "filter" "__next__" "filter.__next__" :=
  .of (owner := "filter") (n := "__next__") (by rw [typeLookup_type, builtinLookup_eq_fast]; kernel_rfl) (by decide +kernel) (by decide +kernel) (by decide +kernel)
    (by first | exact .inl (by decide +kernel) | exact .inr (by decide +kernel)) (by rw [isSubtype_type]; kernel_rfl)
theorem slot_filter_iter : Slot "filter" "__iter__" "filter.__iter__" :=
  .of (owner := "filter") (n := "__iter__") (by rw [typeLookup_type, builtinLookup_eq_fast]; kernel_rfl) (by decide +kernel) (by decide +kernel) (by decide +kernel)
    (by first | exact .inl (by decide +kernel) | exact .inr (by decide +kernel)) (by rw [isSubtype_type]; kernel_rfl)
theorem entry_filter_next : entryFor table "filter.__next__" = some Builtin.«filter.__next__» := entryFor_of_tree (by kernel_rfl)
theorem entry_filter_new : entryFor table "filter.__new__" = some Builtin.«filter.__new__» := entryFor_of_tree (by kernel_rfl)
theorem entry_filter_iter : entryFor table "filter.__iter__" = some Builtin.«dict_keyiterator.__iter__» :=
  entryFor_alias (id' := "dict_keyiterator.__iter__") (by kernel_rfl) (by first | rfl | decide +kernel | (unfold String.splitOn; simp +decide [String.splitOnAux])) (by decide +kernel) (by kernel_rfl)
theorem args_filter_next (a : Value) : argsOk "filter.__next__" ⟨[a], []⟩ := by unfold argsOk; kernel_rfl
theorem args_filter_iter (a : Value) : argsOk "filter.__iter__" ⟨[a], []⟩ := by unfold argsOk; kernel_rfl
theorem args_oinit (a b c : Value) : argsOk "object.__init__" ⟨[a, b, c], []⟩ := by unfold argsOk; kernel_rfl
theorem called_filter : TypeCalled "filter" "filter.__new__" "object.__init__" :=
  ⟨by decide +kernel, by decide +kernel, ⟨_, _, mro_filter⟩, madeBy_type mro_filter lookup_filter_new (by decide +kernel), by decide +kernel, by rw [isSubtype_type]; kernel_rfl, slot_filter_init⟩
theorem typeCall_filter (a b : Value) : checkTypeCall "filter" ⟨[a, b], []⟩ = pure () := by kernel_rfl
theorem newCall_filter (a b : Value) : checkBuiltinCall "filter.__new__" ⟨[.type "filter", a, b], []⟩ = pure () := by kernel_rfl
theorem sub_filter : isSubtype (.type "filter") (.type "filter") = pure true := by rw [isSubtype_type]; kernel_rfl
theorem isType_filter : isType (.type "filter") = pure true := by first | rfl | kernel_rfl | (unfold isType; kernel_rfl)
theorem hasDict_filter : typeHasDict (.type "filter") = false := by decide +kernel

section
variable {prog : Program} {w : World} {A : Around} {E : Value → Shared → Prop} {s : Shared} {d : Addr} {v : Value}

theorem map1_at {h : Heap} {d : Addr} {v : Value} (x : Map1 h d v) : ∃ ep, h.DictAt (intKind prog w) d [(0, v)] ep := by
  obtain ⟨o, e, ep, ho, hx, hd, hk, hh, hv⟩ := x
  refine ⟨ep, o, #[e], ho, hx, hd, fun e' he' => ?_, .cons hk hv .nil, by simp⟩
  simp at he'
  subst he'
  exact ⟨0, hk, hh⟩
theorem map1_of {h : Heap} {d : Addr} {v : Value} (x : h.DictOf (intKind prog w) d [(0, v)]) : Map1 h d v := by
  obtain ⟨o, es, ep, ho, hx, hd, hk, hp, _⟩ := x
  obtain ⟨l⟩ := es
  simp only at hp
  cases hp with
  | cons h1 h2 h3 =>
    cases h3
    rename_i e
    obtain ⟨k, hk1, hk2⟩ := hk e (by simp)
    have : k = 0 := (intKind prog w).inj _ _ _ hk1 h1
    subst this
    exact ⟨o, e, ep, ho, hx, hd, h1, hk2, h2⟩

/-- d.values() -/
theorem values_map1 {Q : Value → Shared → Prop} (hm : Map1 s.heap d v) (hd : (d == sysModules) = false) (h : Q (.ref s.heap.objs.size) { s with heap := s.heap.push { cls := .type "dict_values", data := .fields #[.ref d] } }) :
    wpAny (model prog w) A (call (.builtin "dict.values") [.ref d]) Q E s := by
  obtain ⟨ep, hm'⟩ := map1_at (prog := prog) (w := w) hm
  exact call_meetsIn PySem.F.slot_dict_values hm'.dictOf.typeIs PySem.F.entry_dict_values (PySem.F.args_dict_values_1 _) (meets_dict_values (intKind prog w) d hd) ⟨⟨_, hm'.dictOf⟩, h⟩

/-- filter(None, d.values()) -/
theorem filter_new {V : Addr} {Q : Value → Shared → Prop} (hv : s.heap.IsValuesView V d) {ep : Nat} (hm : s.heap.DictAt (intKind prog w) d [(0, v)] ep)
    (h : Q (.ref (s.heap.objs.size + 1)) { s with heap := (s.heap.push { cls := .type "dict_valueiterator", data := .fields #[.ref d, .int 0 0, .int 1 0, .int ep 0] }).push { cls := .type "filter", data := .fields #[.none, .ref s.heap.objs.size] } }) :
    wpAny (model prog w) A (call (.type "filter") [.none, .ref V]) Q E s := by
  refine callType_newIn called_filter (by decide) (typeCall_filter _ _) (newCall_filter _ _) (fun obj => args_oinit obj _ _) entry_filter_new
    (S := fun A R s' => s' = s ∧ R (.ok (.ret (.ref (s.heap.objs.size + 1)))) { s with heap := (s.heap.push { cls := .type "dict_valueiterator", data := .fields #[.ref d, .int 0 0, .int 1 0, .int ep 0] }).push { cls := .type "filter", data := .fields #[.none, .ref s.heap.objs.size] } })
    (.of_wp fun A R s' hs => ?_) ⟨rfl, ?_⟩
  · obtain ⟨rfl, h⟩ := hs
    unfold Builtin.«filter.__new__»
    have e1 : SmallTypes.newClass "filter" ⟨[.type "filter", .none, .ref V], []⟩ = pure (.type "filter", [.none, .ref V]) := by
      unfold SmallTypes.newClass
      dsimp only
      first | rw [isType_filter] | skip
      first | rw [sub_filter] | skip
      rfl
    refine wpAny_bind (wpAny_of_eq e1 ?_)
    refine wpAny_bind (wpAny_of_eq (a := ()) (by rfl) ?_)
    refine wpAny_bind (wpAny_of_eq (a := ()) (by rfl) ?_)
    show wpAny _ _ (pyIter (.ref V) >>= _) _ _ _
    refine wpAny_bind (wpAny_pyIter_values hv hm ?_)
    refine wpAny_bind ?_
    unfold SmallTypes.newRecord
    dsimp only
    refine wpAny_newObj_type (wpAny_pure ⟨_, rfl, ?_⟩)
    simpa using h
  · have : ((s.heap.push { cls := .type "dict_valueiterator", data := .fields #[.ref d, .int 0 0, .int 1 0, .int ep 0] }).push { cls := .type "filter", data := .fields #[.none, .ref s.heap.objs.size] }).get? (s.heap.push { cls := .type "dict_valueiterator", data := .fields #[.ref d, .int 0 0, .int 1 0, .int ep 0] }).objs.size = some { cls := .type "filter", data := .fields #[.none, .ref s.heap.objs.size] } := Heap.get?_push_size _ rfl
    rw [Heap.size_push] at this
    exact ⟨⟨_, this, rfl⟩, h⟩
end
end Mine
end
section
open PySem PySem.W PyProof.Rows PySem.Calls
set_option Elab.async false
set_option maxRecDepth 100000
namespace Mine
open PySem.Builtin

section
variable {prog : Program} {w : World} {A : Around} {E : Value → Shared → Prop} {s : Shared} {d : Addr} {v : Value}

theorem vnext_item {it d : Addr} {ep : Nat} {v : Value} {Q : Option Value → Shared → Prop} (hit : s.heap.IsValIter it d 0 1 ep) (hm : s.heap.DictAt (intKind prog w) d [(0, v)] ep)
    (hQ : ∀ h', h'.IsValIter it d 1 1 ep → Heap.SameBut it s.heap h' → Q (some v) { s with heap := h' }) : wpAny (model prog w) A (callSpecial? (.ref it) "__next__") Q E s := by
  refine byC fun G0 => ?_
  obtain ⟨o, ho, hc, hd⟩ := id hit
  obtain ⟨od, es, hod, hcd, hdd, hk, hp, hn⟩ := id hm
  refine G0 ?_
  clear G0
  refine wpAny_callSpecial?_slot (name := Str.ofString "__next__") hit.typeIs F.slot_dict_valueiterator_next
    (wpAny_call_entry F.slot_dict_valueiterator_next hit.typeIs F.entry_dict_valueiterator_next ?_ (F.args_dict_valueiterator_next_1 _))
  refine wpAny_bind (wpAny_pure ?_)
  refine wpAny_bind ?_
  refine wpAny_bind ?_
  first | refine wpAny_bind (wpAny_typeNameOfWhole_valiter hit.typeIs (wpAny_pure ?_)) | refine wpAny_bind (wpAny_typeNameOf_valiter hit.typeIs (wpAny_pure ?_))
  refine wpAny_bind (wpAny_fieldsOf ho hd ?_)
  have hown : Builtin.Dict_items.ownsTuple "dict_valueiterator" = false := by decide
  simp only [hown, Bool.false_eq_true, if_false]
  show wpAny _ _ (if (Value.ref d == Value.none) = true then _ else _) _ _ s
  rw [if_neg (show ¬ ((Value.ref d == Value.none) = true) from Bool.false_ne_true)]
  refine wpAny_bind (wpAny_pure ?_)
  refine wpAny_bind (wpAny_dictEntries hod hdd ?_)
  have hsz : es.size = 1 := by
    have := hp.length
    simpa using this
  rw [if_neg (by rw [hsz]; simp)]
  refine wpAny_bind (wpAny_pure ?_)
  refine wpAny_bind (wpAny_dictEpoch hod hdd ?_)
  rw [if_neg (by simp)]
  refine wpAny_pure ?_
  have hlt' : 0 < es.size := by rw [hsz]; decide
  have hval : es[0].val = v := (hp.get? (e := es[0]) (i := 0) (k := (0 : Int)) (v := v) (by simp [hlt']) rfl).2
  simp only [show ¬ ((((0 : Nat) : Int)) < 0) from by omega, if_false, Int.toNat_natCast, Array.getElem?_eq_getElem hlt']
  refine wpAny_bind ?_
  first | refine wpAny_bind (wpAny_typeNameOfWhole_valiter hit.typeIs (wpAny_pure ?_)) | refine wpAny_bind (wpAny_typeNameOf_valiter hit.typeIs (wpAny_pure ?_))
  refine wpAny_bind (wpAny_isOneOf_valiter hit.typeIs ?_)
  show wpAny _ _ (setField (.ref it) 1 (rawInt (((0 : Nat) : Int) + 1)) >>= _) _ _ s
  refine wpAny_bind (wpAny_setField ho hd (by simp) ?_)
  have hit' : (s.heap.update it (Obj.mapFields (·.setIfInBounds 1 (rawInt (((0 : Nat) : Int) + 1))))).IsValIter it d 1 1 ep :=
    ⟨_, Heap.get?_update_self _ ho (Obj.isFreed_of_fields (Obj.data_mapFields hd _)), (Obj.cls_mapFields ..).trans hc, by rw [Obj.data_mapFields hd]; simp [rawInt]⟩
  refine wpAny_bind (wpAny_holding ?_)
  refine wpAny_bind (wpAny_isOneOf_valiter (s := { s with heap := s.heap.update it (Obj.mapFields (·.setIfInBounds 1 (rawInt (((0 : Nat) : Int) + 1)))) }) hit'.typeIs ?_)
  refine wpAny_bind (wpAny_isOneOf_valiter (s := { s with heap := s.heap.update it (Obj.mapFields (·.setIfInBounds 1 (rawInt (((0 : Nat) : Int) + 1)))) }) hit'.typeIs ?_)
  show wpAny _ _ (pure es[0].val) _ _ _
  exact wpAny_pure (wpAny_pure ⟨_, rfl, hval ▸ hQ _ hit' (Heap.SameBut.update ..)⟩)

theorem vnext_end {it d : Addr} {ep : Nat} {v : Value} {Q : Option Value → Shared → Prop} (hh : A.handled = none) (hit : s.heap.IsValIter it d 1 1 ep) (hm : s.heap.DictAt (intKind prog w) d [(0, v)] ep)
    (hE : ∀ h' e, Heap.ExtBut it s.heap h' → (∃ o, h'.get? e = some o ∧ o.cls = .type "StopIteration") → E (.ref e) { s with heap := h' }) : wpAny (model prog w) A (callSpecial? (.ref it) "__next__") Q E s := by
  refine byC fun G1 => ?_
  obtain ⟨o, ho, hc, hd⟩ := id hit
  obtain ⟨od, es, hod, hcd, hdd, hk, hp, hn⟩ := id hm
  refine G1 ?_
  clear G1
  refine wpAny_callSpecial?_slot (name := Str.ofString "__next__") hit.typeIs F.slot_dict_valueiterator_next
    (wpAny_call_entry F.slot_dict_valueiterator_next hit.typeIs F.entry_dict_valueiterator_next ?_ (F.args_dict_valueiterator_next_1 _))
  refine wpAny_bind (wpAny_pure ?_)
  refine wpAny_bind ?_
  refine wpAny_bind ?_
  first | refine wpAny_bind (wpAny_typeNameOfWhole_valiter hit.typeIs (wpAny_pure ?_)) | refine wpAny_bind (wpAny_typeNameOf_valiter hit.typeIs (wpAny_pure ?_))
  refine wpAny_bind (wpAny_fieldsOf ho hd ?_)
  have hown : Builtin.Dict_items.ownsTuple "dict_valueiterator" = false := by decide
  simp only [hown, Bool.false_eq_true, if_false]
  show wpAny _ _ (if (Value.ref d == Value.none) = true then _ else _) _ _ s
  rw [if_neg (show ¬ ((Value.ref d == Value.none) = true) from Bool.false_ne_true)]
  refine wpAny_bind (wpAny_pure ?_)
  refine wpAny_bind (wpAny_dictEntries hod hdd ?_)
  have hsz : es.size = 1 := by
    have := hp.length
    simpa using this
  rw [if_neg (by rw [hsz]; simp)]
  refine wpAny_bind (wpAny_pure ?_)
  refine wpAny_bind (wpAny_dictEpoch hod hdd ?_)
  rw [if_neg (by simp)]
  refine wpAny_pure ?_
  have hge : es.size ≤ 1 := by rw [hsz]; decide
  simp only [show ¬ ((((1 : Nat) : Int)) < 0) from by omega, if_false, Int.toNat_natCast, Array.getElem?_eq_none hge]
  refine wpAny_bind ?_
  first | refine wpAny_bind (wpAny_typeNameOfWhole_valiter hit.typeIs (wpAny_pure ?_)) | refine wpAny_bind (wpAny_typeNameOf_valiter hit.typeIs (wpAny_pure ?_))
  show wpAny _ _ (setField (.ref it) 0 .none >>= _) _ _ s
  refine wpAny_bind (wpAny_setField ho hd (by simp) ?_)
  show wpAny _ _ (newExc (.type "StopIteration") [] >>= _) _ _ _
  refine wpAny_bind ?_
  simp only [newExc, newTuple]
  refine wpAny_bind (wpAny_newObj_type ?_ (by size_fits))
  refine wpAny_bind (m := firstArgMember _ _) (wpAny_of_eq (a := Value.none) (by first | rfl | (simp only [firstArgMember]; rfl)) ?_)
  refine wpAny_newObj_type ?_ (by size_fits)
  simp only [raiseNew]
  refine wpAny_bind (wpAny_handled ?_)
  rw [show A.in1.handled = none from hh]
  refine wpAny_bind (wpAny_pure (wpAny_throw ?_))
  exact hE _ _ (((Heap.SameBut.update ..).extBut.push _).push _) ⟨_, Heap.get?_push_size _ rfl, rfl⟩
end
end Mine
end
section
open PySem PySem.W PyProof.Rows PySem.Calls
set_option Elab.async false
set_option maxRecDepth 100000
namespace Mine
open PySem.Builtin

noncomputable def IsFilt (h : Heap) (f j : Addr) : Prop := ∃ o, h.get? f = some o ∧ o.cls = .type "filter" ∧ o.data = .fields #[.none, .ref j]
theorem IsFilt.typeIs {s : Shared} {f j : Addr} (x : IsFilt s.heap f j) : s.TypeIs (.ref f) "filter" := let ⟨o, ho, hc, _⟩ := x; ⟨o, ho, hc⟩
section
variable {prog : Program} {w : World} {A : Around} {E : Value → Shared → Prop} {s : Shared} {d f j : Addr} {v : Value}

theorem fbody {ep : Nat} {n : Int} {t : Tok} {Q : Fin → Shared → Prop} (hf : IsFilt s.heap f j) (hit : s.heap.IsValIter j d 0 1 ep) (hm : s.heap.DictAt (intKind prog w) d [(0, .int n t)] ep)
    (hQ : ∀ h', h'.IsValIter j d 1 1 ep → Heap.SameBut j s.heap h' → Q (if (n != 0) = true then .done (.ret (.int n t)) else .again (.builtin "filter.__next__" ⟨[.ref f], []⟩)) { s with heap := h' }) :
    wpAny (model prog w) A (Builtin.«filter.__next__» ⟨[.ref f], []⟩) Q E s := by
  refine byC fun G0 => ?_
  obtain ⟨o, ho, hc, hd⟩ := id hf
  refine G0 ?_
  clear G0
  unfold Builtin.«filter.__next__»
  refine wpAny_bind (m := slotArgs "__next__" 0 ⟨[.ref f], []⟩) (wpAny_pure ?_)
  refine wpAny_bind (wpAny_field ho hd (x := .none) rfl ?_)
  refine wpAny_bind (wpAny_field ho hd (x := .ref j) rfl ?_)
  refine wpAny_bind (vnext_item hit hm fun h' hit' sb => ?_)
  dsimp only
  refine wpAny_bind (wpAny_holding ?_)
  show wpAny _ _ (do rule "filter.__next__.own-truth"; truthy (.int n t)) _ _ _
  refine wpAny_bind (wpAny_rule (PyProof.Rows.truthy_int ?_))
  have := hQ h' hit' sb
  cases hn : (n != 0)
  · rw [hn] at this
    exact wpAny_pure this
  · rw [hn] at this
    exact wpAny_pure this
theorem fbody_end {ep : Nat} {Q : Fin → Shared → Prop} (hh : A.handled = none) (hf : IsFilt s.heap f j) (hit : s.heap.IsValIter j d 1 1 ep) (hm : s.heap.DictAt (intKind prog w) d [(0, v)] ep)
    (hE : ∀ h' e, Heap.ExtBut j s.heap h' → (∃ o, h'.get? e = some o ∧ o.cls = .type "StopIteration") → E (.ref e) { s with heap := h' }) : wpAny (model prog w) A (Builtin.«filter.__next__» ⟨[.ref f], []⟩) Q E s := by
  refine byC fun G1 => ?_
  obtain ⟨o, ho, hc, hd⟩ := id hf
  refine G1 ?_
  clear G1
  unfold Builtin.«filter.__next__»
  refine wpAny_bind (m := slotArgs "__next__" 0 ⟨[.ref f], []⟩) (wpAny_pure ?_)
  refine wpAny_bind (wpAny_field ho hd (x := .none) rfl ?_)
  refine wpAny_bind (wpAny_field ho hd (x := .ref j) rfl ?_)
  exact wpAny_bind (vnext_end hh hit hm hE)
theorem fpy {Q : Option Value → Shared → Prop} (hf : IsFilt s.heap f j)
    (h : wpAny (model prog w) A.in1 (Builtin.«filter.__next__» ⟨[.ref f], []⟩) (fun fin s' => match fin with
        | .done fl => wants (fun v s' => Q (some v) s') (fun e s' => (∃ a o, e = .ref a ∧ s'.heap.get? a = some o ∧ o.cls = .type "StopIteration") ∧ Q none s') (.ok fl) s'
        | .again c' => c'.quiet = true ∧ codeAny (model prog w) A c' (wants (fun v s' => Q (some v) s') (fun e s' => (∃ a o, e = .ref a ∧ s'.heap.get? a = some o ∧ o.cls = .type "StopIteration") ∧ Q none s')) s')
      (fun e s' => (∃ a o, e = .ref a ∧ s'.heap.get? a = some o ∧ o.cls = .type "StopIteration") ∧ Q none s') s) : wpAny (model prog w) A (pyNext (.ref f)) Q E s := by
  unfold pyNext
  refine wpAny_bind (wpAny_attempt (wpAny_callSpecial?_slot (name := Str.ofString "__next__") hf.typeIs slot_filter_next ?_))
  refine wpAny_mono (wpAny_call (codeAny_call_builtin slot_filter_next.plain entry_filter_next (slot_filter_next.check _ _ _ _ _ _ _ _ hf.typeIs (args_filter_next _) h))) (fun v s' hv => wpAny_pure hv) fun e s' he => ?_
  refine byC fun G2 => ?_
  obtain ⟨⟨a, o, rfl, ho, hc⟩, hq⟩ := he
  refine G2 ?_
  clear G2
  exact wpAny_bind (wpAny_isInstance (T := "StopIteration") (b := true) ⟨o, ho, hc⟩ isSubtype_stop (wpAny_pure hq))
theorem fpy_end {ep : Nat} {Q : Option Value → Shared → Prop} (hh : A.handled = none) (hf : IsFilt s.heap f j) (hit : s.heap.IsValIter j d 1 1 ep) (hm : s.heap.DictAt (intKind prog w) d [(0, v)] ep)
    (hQ : ∀ h', Heap.ExtBut j s.heap h' → Q none { s with heap := h' }) : wpAny (model prog w) A (pyNext (.ref f)) Q E s :=
  fpy hf (fbody_end (A := A.in1) hh hf hit hm fun h' e he ⟨o, ho, hc⟩ => ⟨⟨e, o, rfl, ho, hc⟩, hQ h' he⟩)
theorem fpy_item {ep : Nat} {n : Int} {t : Tok} {Q : Option Value → Shared → Prop} (hn : n ≠ 0) (hf : IsFilt s.heap f j) (hit : s.heap.IsValIter j d 0 1 ep) (hm : s.heap.DictAt (intKind prog w) d [(0, .int n t)] ep)
    (hQ : ∀ h', h'.IsValIter j d 1 1 ep → Heap.SameBut j s.heap h' → Q (some (.int n t)) { s with heap := h' }) : wpAny (model prog w) A (pyNext (.ref f)) Q E s :=
  fpy hf (fbody hf hit hm fun h' hit' sb => by
    have : (n != 0) = true := by simpa using hn
    rw [this]
    exact hQ h' hit' sb)
theorem fpy_skip {ep : Nat} {t : Tok} {Q : Option Value → Shared → Prop} (hh : A.handled = none) (hf : IsFilt s.heap f j) (hne : f ≠ j) (hdj : d ≠ j) (hit : s.heap.IsValIter j d 0 1 ep) (hm : s.heap.DictAt (intKind prog w) d [(0, .int 0 t)] ep)
    (hQ : ∀ h', Heap.ExtBut j s.heap h' → Q none { s with heap := h' }) : wpAny (model prog w) A (pyNext (.ref f)) Q E s :=
  fpy hf (fbody hf hit hm fun h' hit' sb => by
    have hf' : IsFilt h' f j := let ⟨o, ho, r⟩ := hf; ⟨o, (sb.2 f hne).trans ho, r⟩
    have hm' : h'.DictAt (intKind prog w) d [(0, .int 0 t)] ep := let ⟨o, es, ho, r⟩ := hm; ⟨o, es, (sb.2 d hdj).trans ho, r⟩
    refine ⟨Code.quiet_builtin _ (by decide +kernel), codeAny_builtin entry_filter_next ?_⟩
    rw [Around.under_plainId slot_filter_next.plain _]
    exact fbody_end (A := A.in1) (s := { s with heap := h' }) hh hf' hit' hm' fun h2 e he ⟨o, ho, hc⟩ => ⟨⟨e, o, rfl, ho, hc⟩, hQ h2 fun b o hb ho => he b o hb ((sb.2 b hb).trans ho)⟩)

theorem call_function_tree_kw {id : String} {b : Builtin} {args : List Value} {kw : List (Str × Value)} {Q : Value → Shared → Prop} (hk : builtinKind id = none) (hp : plainId id = true) (hb : entryFor table id = some b) (ha : argsOk id ⟨args, kw⟩)
    (hc : wpAny (model prog w) A.in1 (b ⟨args, kw⟩) (fun fin s' => match fin with
      | .done f => (match (Except.ok f : Result) with | .ok (.ret v) => Q v s' | .ok _ => False | .error e => E e s')
      | .again c' => c'.quiet = true ∧ codeAny (model prog w) A c' (fun r s' => match r with | .ok (.ret v) => Q v s' | .ok _ => False | .error e => E e s') s') E s) :
    wpAny (model prog w) A (call (.builtin id) args kw) Q E s := by
  refine wpAny_call (codeAny_call_builtin hp hb ?_)
  simp only [checkBuiltinCall, hk]
  cases hsig : Manifest.signature? id with
  | none => exact wpAny_pure hc
  | some sig =>
    have ha' : Bind.checkArgs id sig ⟨args, kw⟩ = pure () := by simpa only [argsOk, hsig] using ha
    simp only [ha']
    exact wpAny_pure hc
theorem args_maxd (a b : Value) : argsOk "max" ⟨[a], [("default", b)]⟩ := by unfold argsOk; kernel_rfl

/-- max(filter(None, {0: n}.values()), default=m) -/
theorem max_filt {ep : Nat} {n : Int} {t : Tok} {dv : Value} {Q : Value → Shared → Prop} (hh : A.handled = none) (hf : IsFilt s.heap f j) (hne : f ≠ j) (hdj : d ≠ j) (hit : s.heap.IsValIter j d 0 1 ep) (hm : s.heap.DictAt (intKind prog w) d [(0, .int n t)] ep)
    (hQ : ∀ h', Heap.ExtBut j s.heap h' → Q (if n = 0 then dv else .int n t) { s with heap := h' }) : wpAny (model prog w) A (call (.builtin "max") [.ref f] [("default", dv)]) Q E s := by
  have hname : (toString "max" ++ toString ".loop" : String) = "max.loop" := by decide
  refine call_function_tree_kw PySem.F.kind_max PySem.F.plain_max PySem.F.entry_max (args_maxd _ _) ?_
  show wpAny _ A.in1 (Builtin.Builtins.bindParams "max" ["key", "default"] 0 ⟨[], [("default", dv)]⟩ >>= _) _ _ s
  refine wpAny_bind (wpAny_of_eq (show Builtin.Builtins.bindParams "max" ["key", "default"] 0 ⟨[], [("default", dv)]⟩ = pure [none, some dv] from rfl) ?_)
  refine wpAny_bind (wpAny_pure ?_)
  refine wpAny_bind (wpAny_pyIter_slot hf.typeIs slot_filter_iter (wpAny_call_entry slot_filter_iter hf.typeIs entry_filter_iter ?_ (args_filter_iter _)))
  show wpAny _ _ (ret (.ref f)) _ _ s
  refine wpAny_pure ⟨_, rfl, "filter", _, hf.typeIs, slot_filter_next.lookup, ?_⟩
  refine wpAny_bind (wpAny_newObj_type ?_)
  rw [hname]
  refine wpAny_pure ⟨plainId_quiet PySem.F.plain_max_loop _, ?_⟩
  have hk : Ext s.heap (s.heap.push { cls := .type "list", data := .seq [].toArray }) := .push _
  have hf1 : IsFilt (s.heap.push { cls := .type "list", data := .seq [].toArray }) f j := let ⟨o, ho, r⟩ := hf; ⟨o, hk _ _ ho, r⟩
  have hit1 : (s.heap.push { cls := .type "list", data := .seq [].toArray }).IsValIter j d 0 1 ep := let ⟨o, ho, r⟩ := hit; ⟨o, hk _ _ ho, r⟩
  have hm1 : (s.heap.push { cls := .type "list", data := .seq [].toArray }).DictAt (intKind prog w) d [(0, .int n t)] ep := let ⟨o, es, ho, r⟩ := hm; ⟨o, es, hk _ _ ho, r⟩
  have hS : (s.heap.push { cls := .type "list", data := .seq [].toArray }).get? s.heap.objs.size = some { cls := .type "list", data := .seq [].toArray } := Heap.get?_push_size _ rfl
  have hSf : ∀ b o, s.heap.get? b = some o → b ≠ s.heap.objs.size := fun b o ho => Nat.ne_of_lt (Heap.lt_size ho)
  have hjS : j ≠ s.heap.objs.size := let ⟨o, ho, _⟩ := hit; hSf _ _ ho
  have hfS : f ≠ s.heap.objs.size := let ⟨o, ho, _⟩ := hf; hSf _ _ ho
  have hdS : d ≠ s.heap.objs.size := let ⟨o, es, ho, _⟩ := hm; hSf _ _ ho
  refine codeAny_builtin PySem.F.entry_max_loop ?_
  rw [Around.under_plainId PySem.F.plain_max_loop _]
  show wpAny _ A.in1 (seqItems? (.ref s.heap.objs.size) >>= _) _ _ _
  refine wpAny_bind (wpAny_seqItems hS rfl ?_)
  show wpAny _ A.in1 (tryCatch (pyNext (.ref f)) _ >>= _) _ _ _
  by_cases hn : n = 0
  · subst hn
    rw [if_pos rfl] at hQ
    refine wpAny_bind (wpAny_tryCatch (fpy_skip (A := A.in1) (s := { s with heap := _ }) hh hf1 hne hdj hit1 hm1 fun h' he => ?_))
    refine wpAny_bind (m := rule _) (wpAny_rule ?_)
    exact wpAny_pure (hQ h' fun b o hb ho => he b o hb (hk b o ho))
  · rw [if_neg hn] at hQ
    refine wpAny_bind (wpAny_tryCatch (fpy_item (A := A.in1) (s := { s with heap := _ }) hn hf1 hit1 hm1 fun h' hit' sb => ?_))
    have hS' := (sb.2 _ (Ne.symm hjS)).trans hS
    show wpAny _ A.in1 (updateSeq s.heap.objs.size (fun _ => #[.int n t, .int n t]) >>= _) _ _ _
    refine wpAny_bind ?_
    refine wpAny_updateSeq hS' rfl ?_
    rw [hname]
    refine wpAny_pure ⟨plainId_quiet PySem.F.plain_max_loop _, codeAny_builtin PySem.F.entry_max_loop ?_⟩
    rw [Around.under_plainId PySem.F.plain_max_loop _]
    have hS2 := Heap.get?_update_self (Obj.mapSeq (fun _ => #[Value.int n t, Value.int n t])) hS' rfl
    have k2 : ∀ b o, b ≠ j → b ≠ s.heap.objs.size → (s.heap.push { cls := .type "list", data := .seq [].toArray }).get? b = some o → (h'.update s.heap.objs.size (Obj.mapSeq (fun _ => #[Value.int n t, Value.int n t]))).get? b = some o :=
      fun b o hb hb' ho => (Heap.get?_update_other _ _ (Ne.symm hb')).trans ((sb.2 b hb).trans ho)
    have hf2 : IsFilt (h'.update s.heap.objs.size (Obj.mapSeq (fun _ => #[Value.int n t, Value.int n t]))) f j := let ⟨o, ho, r⟩ := hf1; ⟨o, k2 f o hne hfS ho, r⟩
    have hm2 : (h'.update s.heap.objs.size (Obj.mapSeq (fun _ => #[Value.int n t, Value.int n t]))).DictAt (intKind prog w) d [(0, .int n t)] ep := let ⟨o, es, ho, r⟩ := hm1; ⟨o, es, k2 d o hdj hdS ho, r⟩
    have hit2 : (h'.update s.heap.objs.size (Obj.mapSeq (fun _ => #[Value.int n t, Value.int n t]))).IsValIter j d 1 1 ep := let ⟨o, ho, r⟩ := hit'; ⟨o, (Heap.get?_update_other _ _ (Ne.symm hjS)).trans ho, r⟩
    show wpAny _ A.in1 (seqItems? (.ref s.heap.objs.size) >>= _) _ _ _
    refine wpAny_bind (wpAny_seqItems hS2 rfl ?_)
    show wpAny _ A.in1 (tryCatch (pyNext (.ref f)) _ >>= _) _ _ _
    refine wpAny_bind (wpAny_tryCatch (fpy_end (A := A.in1) (s := { s with heap := _ }) hh hf2 hit2 hm2 fun h3 he => ?_))
    have hS3 := he _ _ (Ne.symm hjS) hS2
    show wpAny _ A.in1 (updateSeq s.heap.objs.size (fun _ => #[]) >>= _) _ _ _
    refine wpAny_bind ?_
    refine wpAny_updateSeq hS3 rfl ?_
    refine wpAny_bind (wpAny_letGo (wpAny_pure (hQ _ fun b o hb ho => ?_)))
    exact (Heap.get?_update_other _ _ (Ne.symm (hSf b o ho))).trans (he b o hb (k2 b o hb (hSf b o ho) (hk b o ho)))
end
end Mine
end
section
open PySem PySem.W PyProof.Rows PySem.Calls
set_option Elab.async false
set_option maxRecDepth 100000
namespace Mine
open PySem.Builtin

theorem lookup_values_contains : typeLookup (.type "dict_values") "__contains__" = pure none := by rw [typeLookup_type, builtinLookup_eq_fast]; kernel_rfl
theorem entry_cit : entryFor table "proto.contains_iter" = some Builtin.«proto.contains_iter» := entryFor_of_tree (by kernel_rfl)
theorem plain_cit : plainId "proto.contains_iter" = true := by decide +kernel
section
variable {prog : Program} {w : World} {A : Around} {E : Value → Shared → Prop} {s : Shared} {d V : Addr} {v : Value}
theorem none_in {ep : Nat} {n : Int} {t : Tok} {Q : Bool → Shared → Prop} (hh : A.handled = none) (hv : s.heap.IsValuesView V d) (hm : s.heap.DictAt (intKind prog w) d [(0, .int n t)] ep)
    (hQ : ∀ h', Ext s.heap h' → Q false { s with heap := h' }) : wpAny (model prog w) A (contains (.ref V) .none) Q E s := by
  unfold contains
  refine wpAny_holding ?_
  rw [stdlibNamesSay?_of_typeIs hv.typeIs]
  refine wpAny_bind (wpAny_specialOf hv.typeIs lookup_values_contains ?_)
  show wpAny _ A (if ((none : Option Value) == some Value.none) = true then _ else _) Q E s
  rw [if_neg (by simp)]
  refine wpAny_bind ?_
  unfold callSpecialUnlessNone?
  refine wpAny_bind (wpAny_specialOf hv.typeIs lookup_values_contains ?_)
  refine wpAny_pure ?_
  refine wpAny_bind (wpAny_rule (wpAny_bind (wpAny_tryCatch (wpAny_pyIter_values hv hm ?_))))
  refine wpAny_bind (wpAny_runValue (codeAny_builtin entry_cit ?_))
  rw [Around.under_plainId plain_cit _]
  unfold Builtin.«proto.contains_iter»
  have hk : Ext s.heap (s.heap.push { cls := .type "dict_valueiterator", data := .fields #[.ref d, .int 0 0, .int ([((0 : Int), Value.int n t)].length : Nat) 0, .int ep 0] }) := .push _
  have hm1 : (s.heap.push { cls := .type "dict_valueiterator", data := .fields #[.ref d, .int 0 0, .int ([((0 : Int), Value.int n t)].length : Nat) 0, .int ep 0] }).DictAt (intKind prog w) d [(0, .int n t)] ep := let ⟨o, es, ho, r⟩ := hm; ⟨o, es, hk _ _ ho, r⟩
  have hit1 : (s.heap.push { cls := .type "dict_valueiterator", data := .fields #[.ref d, .int 0 0, .int ([((0 : Int), Value.int n t)].length : Nat) 0, .int ep 0] }).IsValIter s.heap.objs.size d 0 ([((0 : Int), Value.int n t)].length) ep := ⟨_, Heap.get?_push_size _ rfl, rfl, rfl⟩
  have hdj : d ≠ s.heap.objs.size := let ⟨o, es, ho, _⟩ := hm; Nat.ne_of_lt (Heap.lt_size ho)
  refine wpAny_bind (wpAny_pyNext_values_item (s := { s with heap := _ }) hit1 hm1 rfl fun h2 hit2 sb => ?_)
  refine wpAny_bind (SeqAt.EqAt.int_none n t prog w _ _ ?_)
  refine wpAny_pure ⟨plainId_quiet plain_cit _, codeAny_builtin entry_cit ?_⟩
  rw [Around.under_plainId plain_cit _]
  unfold Builtin.«proto.contains_iter»
  have hm2 : h2.DictAt (intKind prog w) d [(0, .int n t)] ep := let ⟨o, es, ho, r⟩ := hm1; ⟨o, es, (sb.2 d hdj).trans ho, r⟩
  refine wpAny_bind (wpAny_pyNext_values_end (A := A.in1) (s := { s with heap := h2 }) hh hit2 hm2 rfl fun h3 he => ?_)
  refine wpAny_bind (m := rule _) (wpAny_rule (wpAny_pure (wpAny_pure (hQ h3 fun b o ho => ?_))))
  have hb : b ≠ s.heap.objs.size := Nat.ne_of_lt (Heap.lt_size ho)
  exact he b o hb ((sb.2 b hb).trans (hk b o ho))
end
end Mine
end
section
open PySem PySem.W PyProof.Rows PySem.Calls
set_option Elab.async false
set_option maxRecDepth 100000
namespace Mine
section
variable {prog : Program} {w : World} {K : Frag} {n : Nat} {nm : List (Str × NameKind)} {sl : List (Option Str)} {own : Option Nat}

/-- {0: e} -/
noncomputable def map1C (f : FD) : FD := fun ρ => (f ρ).bind fun d => if d.flat then some (.map1 d) else none
theorem k_map1 {k : Nat} {kp pos : Pos} {e : Expr} {f : FD} (h1 : Den prog w K n nm sl e f) : Den prog w K n nm sl (.Dict [some (.Constant (.int 0) k kp)] [e] pos) (map1C f) := by
  intro env A s ρ d P Q E c hf h
  replace hf := bb1 hf
  refine byC fun G0 => ?_
  obtain ⟨d, hd, hf⟩ := hf
  replace hf := ifs hf
  obtain ⟨hfl, hf⟩ := hf
  cases hf
  refine G0 ?_
  clear G0
  refine wpAny_Dict_walk (knd := intKind prog w) rfl rfl (by simp) (Nat.le_of_ble_eq_true rfl) ?_
  have e0 : Ext s.heap (s.heap.push { cls := .type "dict", data := .dict #[] }) := .push _
  refine pairTrees_cons_walk (wpAny_Constant_int ?_)
  refine h1 env A { s with heap := s.heap.push _, toks := _ } ρ d P _ _ (c.ext e0) hd fun v h' tk e1 hv => pairTrees_nil_walk ?_
  refine ⟨[(0, v)], ⟨by simp [intKind, Value.isInt], rfl, trivial⟩, ⟨_, #[], _, e1 _ _ (Heap.get?_push_size _ rfl), ⟨rfl, rfl, rfl⟩, rfl, (fun e he => by simp at he), .nil, by simp⟩, fun h2 hm sb => ?_⟩
  have hm' : h2.DictOf (intKind prog w) s.heap.objs.size [(0, v)] := hm
  refine byC fun G1 => ?_
  obtain ⟨_, _, _, _, T⟩ := c.gd.T
  refine G1 ?_
  clear G1
  have hbig := modules_low T.nolimit
  refine h _ _ _ (fun b o ho => ?_) ⟨_, v, rfl, c.fresh _ (size_none _), ?_, map1_of hm', hv.flat hfl⟩
  · exact (sb.2 b (Nat.ne_of_lt (Heap.lt_size ho))).trans (e1 b o (e0 b o ho))
  · simp only [beq_eq_false_iff_ne, ne_eq]
    exact Nat.ne_of_gt hbig

/-- x.values(), of {0: n} -/
theorem vals {x : Str} {p ap pos : Pos} {i : Nat} {m : Int} (hi : varOkB sl i x = true) (hl : (ap.endLine == pos.line) = true) {env : Env} {A : Around} {s : Shared} {ρ : List D} {P : Addr → Prop} {Q E : Value → Shared → Prop} (c : Cx K n nm sl P env A s.heap ρ)
    (hv : var i ρ = some (.map1 (.int m))) (h : ∀ V d t ep h' tk, Ext s.heap h' → h'.IsValuesView V d → h'.DictAt (intKind prog w) d [(0, .int m t)] ep → Q (.ref V) { s with heap := h', toks := tk }) :
    wpAny (model prog w) A (eval (.Call (.Attribute (.Name x p) ("values" : Str) ap) [] [] pos) env) Q E s := by
  refine wpAny_Call_method_lateS rfl rfl hl (k_var (prog := prog) (w := w) i hi env A s ρ _ P _ _ c hv fun v h' tk e1 hh => ?_)
  refine byC fun G2 => ?_
  obtain ⟨a, u, rfl, pa, hs, hm, t, rfl⟩ := hh
  obtain ⟨ep, hm'⟩ := map1_at (prog := prog) (w := w) hm
  refine G2 ?_
  clear G2
  refine ⟨"dict", "dict.values", PySem.F.plainAttrs_dict, PySem.F.slot_dict_values, PySem.F.type_dict_values, hm'.dictOf.typeIs, ?_, ?_⟩
  · intro b hb
    refine byC fun G3 => ?_
    cases hb
    obtain ⟨o, _, ho, hx, _⟩ := hm'
    refine G3 ?_
    clear G3
    exact ⟨o, ho, hx.2.1⟩
  · refine callWith_method0 (values_map1 (s := { s with heap := h', toks := tk }) hm hs ?_)
    refine h _ a t ep _ _ (e1.trans (.push _)) ⟨_, Heap.get?_push_size _ rfl, rfl, rfl⟩ ?_
    refine byC fun G4 => ?_
    obtain ⟨o, es, ho, r⟩ := hm'
    refine G4 ?_
    clear G4
    exact ⟨o, es, Heap.get?_push_of_some _ ho, r⟩

/-- max(filter(None, x.values()), default=e) -/
noncomputable def maxfC (i : Nat) (f : FD) : FD := fun ρ => (var i ρ).bind fun a => (asM a).bind fun m0 => (asI m0).bind fun m => (f ρ).bind fun b => (intD b).bind fun z => some (.int (if m = 0 then z else m))
theorem k_maxf {x : Str} {k : Nat} {p0 p1 p2 p3 p ap vp kp pos : Pos} {e : Expr} {f : FD} (i : Nat) (hi : varOkB sl i x = true) (hl : (ap.endLine == vp.line) = true) (hx : gOkB nm ("max" : Str) = true) (hg : nsIn K mainGlobals ("max" : Str) = some none) (hx' : gOkB nm ("filter" : Str) = true) (hg' : nsIn K mainGlobals ("filter" : Str) = some none)
    (h1 : Den prog w K n nm sl e f) :
    Den prog w K n nm sl (.Call (.Name ("max" : Str) p0) [.Call (.Name ("filter" : Str) p1) [.Constant .none k p2, .Call (.Attribute (.Name x p) ("values" : Str) ap) [] [] vp] [] p3] [⟨some ("default" : Str), e, kp⟩] pos) (maxfC i f) := by
  intro env A s ρ d P Q E c hf h
  replace hf := bb4 hf
  refine byC fun G5 => ?_
  obtain ⟨a, ha, m0, hm0, m, hm, b, hb, hf⟩ := hf
  replace hf := bb1 hf
  obtain ⟨z, hz, hf⟩ := hf
  cases hf
  refine G5 ?_
  clear G5
  have ha' : var i ρ = some (.map1 (.int m)) := by
    rw [ha, asM_some hm0, asI_some hm]
  have he : eval (.Call (.Name ("max" : Str) p0) [.Call (.Name ("filter" : Str) p1) [.Constant .none k p2, .Call (.Attribute (.Name x p) ("values" : Str) ap) [] [] vp] [] p3] [⟨some ("default" : Str), e, kp⟩] pos) env =
      (do let fv ← eval (.Name ("max" : Str) p0) env
          callWith pos fv [] (backTo pos (starEach [.Call (.Name ("filter" : Str) p1) [.Constant .none k p2, .Call (.Attribute (.Name x p) ("values" : Str) ap) [] [] vp] [] p3] env)) (backToKw pos (keywordEach [⟨some ("default" : Str), e, kp⟩] env))) := rfl
  rw [he]
  refine wpAny_bind (bname c.eok c.gd (gOk hx).1 hg (v := .builtin "max") (by decide +kernel) (gOk hx).2.2 (gOk hx).2.1 ?_)
  refine callWith_kw (args_cons ?_ rfl)
  refine Call_Name rfl (bname c.eok c.gd (gOk hx').1 hg' (v := .type "filter") (by decide +kernel) (gOk hx').2.2 (gOk hx').2.1 ?_)
  refine PyProof.Rows.callWith_type1 (args_cons (wpAny_Constant_none (args_cons (vals hi hl c ha' fun V dd t ep h' tk e1 hV hD => args_nil ?_) rfl)) rfl) rfl rfl
  refine filter_new (s := { s with heap := h', toks := tk }) hV hD ?_
  refine args_nil ?_
  have k1 : Ext h' ((h'.push { cls := .type "dict_valueiterator", data := .fields #[.ref dd, .int 0 0, .int 1 0, .int ep 0] }).push { cls := .type "filter", data := .fields #[.none, .ref h'.objs.size] }) := (Ext.push _).trans (Ext.push _)
  have e2 := e1.trans k1
  have hF : ((h'.push { cls := .type "dict_valueiterator", data := .fields #[.ref dd, .int 0 0, .int 1 0, .int ep 0] }).push { cls := .type "filter", data := .fields #[.none, .ref h'.objs.size] }).get? (h'.objs.size + 1) = some { cls := .type "filter", data := .fields #[.none, .ref h'.objs.size] } := by heap_get
  have hJ : ((h'.push { cls := .type "dict_valueiterator", data := .fields #[.ref dd, .int 0 0, .int 1 0, .int ep 0] }).push { cls := .type "filter", data := .fields #[.none, .ref h'.objs.size] }).get? h'.objs.size = some { cls := .type "dict_valueiterator", data := .fields #[.ref dd, .int 0 0, .int 1 0, .int ep 0] } := by heap_get
  show wpAny _ A (evalAll [do let v ← eval e env; standAt pos; pure v]) _ _ _
  refine wpAny_evalAll_cons (wpAny_bind (h1 env A { s with heap := _, toks := tk } ρ b P _ _ (c.ext e2) hb fun v h3 tk3 e3 hv => wpAny_bind (wpAny_standAt (wpAny_pure (wpAny_evalAll_nil ?_)))))
  refine byC fun G6 => ?_
  obtain ⟨tz, rfl⟩ := hv.isInt hz
  refine G6 ?_
  clear G6
  have hD3 : h3.DictAt (intKind prog w) dd [(0, .int m t)] ep := let ⟨o, es, ho, r⟩ := hD; ⟨o, es, e3 _ _ (k1 _ _ ho), r⟩
  have hdn : dd ≠ h'.objs.size := let ⟨o, es, ho, _⟩ := hD; Nat.ne_of_lt (Heap.lt_size ho)
  show wpAny _ A (call (.builtin "max") [.ref (h'.objs.size + 1)] [("default", .int z tz)]) _ _ _
  refine max_filt (s := { s with heap := h3, toks := tk3 }) (f := h'.objs.size + 1) (j := h'.objs.size) (d := dd) c.room.handled ⟨_, e3 _ _ hF, rfl, rfl⟩ (Nat.succ_ne_self _) hdn ⟨_, e3 _ _ hJ, rfl, rfl⟩ hD3 fun h4 he4 => ?_
  refine h _ _ _ (fun q o ho => he4 q o (fun z => ?_) (e3 _ _ (e2 _ _ ho))) ?_
  · rw [z] at ho
    exact absurd (e1 _ _ ho) (by rw [size_none]; simp)
  · split <;> exact ⟨_, rfl⟩

/-- x is None -/
noncomputable def isMap (i : Nat) : FB := fun ρ => (var i ρ).bind fun a => (asM a).bind fun _ => some false
theorem t_isNone {x : Str} {k : Nat} {p p2 pos : Pos} (i : Nat) (hi : varOkB sl i x = true) : DenT prog w K n nm sl (.Compare (.Name x p) [.Is] [.Constant .none k p2] pos) (isMap i) := by
  intro env A s ρ r P Q E c hf h
  replace hf := bb2 hf
  refine byC fun G7 => ?_
  obtain ⟨a, ha, m, hm, hf⟩ := hf
  refine G7 ?_
  clear G7
  cases asM_some hm
  cases hf
  refine wpAny_isTrue_Compare1 (k_var (prog := prog) (w := w) i hi env A s ρ _ P _ _ c ha fun v h' tk e1 hv => ?_) rfl
  refine byC fun G8 => ?_
  obtain ⟨a, u, rfl, _⟩ := hv
  refine G8 ?_
  clear G8
  refine wpAny_Constant_none ?_
  show wpAny _ A (do return Value.bool (← isSame (.ref a) .none)) _ _ _
  refine wpAny_bind (wpAny_of_eq (rfl : isSame (.ref a) .none = pure false) (wpAny_pure ?_))
  exact wpAny_truthy_bool (h _ _ e1)
/-- None in x.values() -/
noncomputable def noneInC (i : Nat) : FB := fun ρ => (var i ρ).bind fun a => (asM a).bind fun m => (asI m).bind fun _ => some false
theorem t_noneIn {x : Str} {k : Nat} {p p2 ap vp pos : Pos} (i : Nat) (hi : varOkB sl i x = true) (hl : (ap.endLine == vp.line) = true) :
    DenT prog w K n nm sl (.Compare (.Constant .none k p2) [.In] [.Call (.Attribute (.Name x p) ("values" : Str) ap) [] [] vp] pos) (noneInC i) := by
  intro env A s ρ r P Q E c hf h
  replace hf := bb3 hf
  refine byC fun G9 => ?_
  obtain ⟨a, ha, m, hm, z, hz, hf⟩ := hf
  refine G9 ?_
  clear G9
  cases asM_some hm
  cases asI_some hz
  cases hf
  refine wpAny_isTrue_Compare1 (wpAny_Constant_none ?_) rfl
  refine vals hi hl c ha fun V dd t ep h' tk e1 hV hD => ?_
  show wpAny _ A (do return Value.bool (← contains (.ref V) .none)) _ _ _
  refine wpAny_bind (none_in (s := { s with heap := h', toks := tk }) c.room.handled hV hD fun h2 e2 => wpAny_pure ?_)
  exact wpAny_truthy_bool (h _ _ (e1.trans e2))

/-- str(e) -/
noncomputable def strOfC (f : FD) : FD := fun ρ => (f ρ).bind fun d => (intD d).bind fun i => if i.natAbs < 2 ^ 64 then some (.str (Str.ofString (toString i))) else none
theorem k_strOf {p pos : Pos} {e : Expr} {f : FD} (hx : gOkB nm ("str" : Str) = true) (hg : nsIn K mainGlobals ("str" : Str) = some none) (he : ∀ env, starEach [e] env = (false, eval e env) :: starEach [] env) (h1 : Den prog w K n nm sl e f) :
    Den prog w K n nm sl (.Call (.Name ("str" : Str) p) [e] [] pos) (strOfC f) := by
  intro env A s ρ d P Q E c hf h
  replace hf := bb2 hf
  refine byC fun G10 => ?_
  obtain ⟨a, ha, i, hi, hf⟩ := hf
  replace hf := ifs hf
  obtain ⟨hle, hf⟩ := hf
  cases hf
  refine G10 ?_
  clear G10
  refine Call_Name rfl (bname c.eok c.gd (gOk hx).1 hg (v := .type "str") (by decide +kernel) (gOk hx).2.2 (gOk hx).2.1 ?_)
  refine PyProof.Rows.callWith_type1 (args_cons (h1 env A s ρ _ P _ _ c ha fun v h' tk e1 hv => ?_) (he env)) (he env) rfl
  refine byC fun G11 => ?_
  obtain ⟨t, rfl⟩ := hv.isInt hi
  refine G11 ?_
  clear G11
  refine args_nil (PySem.P.str_of_int (s := { s with heap := h', toks := tk }) ?_ ?_)
  · by_cases h0 : i.natAbs = 0
    · rw [h0]; decide
    · exact Nat.lt_trans ((Nat.log2_lt h0).mpr hle) (by decide)
  · exact h _ _ _ e1 ⟨_, rfl⟩
end
end Mine
end
section
open PySem PySem.W PyProof.Rows PySem.Calls
set_option Elab.async false
set_option maxRecDepth 100000
namespace Mine
noncomputable section
set_option maxHeartbeats 4000000

noncomputable def G_vint (I : Addr) : List D → List D → Option (Fl × List D × List D) := (seqX (nextX 1 0 I)
  (seqX (liftX (asgS 2 (binC .BitAnd (var 1) (iC 63))))
  (seqX (whileXD (valT (binC .BitAnd (var 1) (iC 64))) (seqX (liftX (augS 2 .LShift (iC 6)))
  (seqX (nextX 1 0 I)
  (seqX (liftX (augS 2 .BitOr (binC .BitAnd (var 1) (iC 63))))
  skipX))) 9)
  (seqX (liftX (retS (var 2)))
  skipX))))
theorem d_vint (prog : Program) (w : World) (n : Nat) (I : Addr) : DenX prog w (KK w) n (nmOf w.params 36) [some "iterator", some "b", some "val"] none [I] (Zit I) (bodyOf w.params 36) (G_vint I) :=
  (x_cons (x_next 1 0 (by kernel_rfl) (by kernel_rfl) (by kernel_rfl) (by kernel_rfl) (fun _ => rfl))
  (x_cons (x_lift1 (zit_ok I) (s_asg 2 (by kernel_rfl) (fun _ => rfl) (k_bin (k_var 1 (by kernel_rfl)) k_int)))
  (x_cons (x_while (zit_ok I) 9 (t_val (fun _ _ => rfl) (k_bin (k_var 1 (by kernel_rfl)) k_int)) (x_cons (x_lift1 (zit_ok I) (s_aug 2 (by kernel_rfl) (by kernel_rfl) k_int))
  (x_cons (x_next 1 0 (by kernel_rfl) (by kernel_rfl) (by kernel_rfl) (by kernel_rfl) (fun _ => rfl))
  (x_cons (x_lift1 (zit_ok I) (s_aug 2 (by kernel_rfl) (by kernel_rfl) (k_bin (k_var 1 (by kernel_rfl)) k_int)))
  x_nil))))
  (x_cons (x_lift1 (zit_ok I) (s_ret (k_var 2 (by kernel_rfl))))
  x_nil))))

/-- what _parse_varint reads off a list -/
noncomputable def VintRes (ds : List D) (d : D) : Prop := d.flat = true ∧ ∀ I, ∃ ρ' r', G_vint I [.addr I, .undef, .undef] ds = some (.ret d, ρ', r')
open Classical in
noncomputable def F_vint (ds : List D) : Option D := if h : ∃ d, VintRes ds d then some h.choose else none
theorem F_vint_of {ds : List D} {d : D} (h : VintRes ds d) : F_vint ds = some d := by
  unfold F_vint
  have q : ∃ d, VintRes ds d := ⟨d, h⟩
  rw [dif_pos q]
  refine byC fun G0 => ?_
  obtain ⟨_, _, e1⟩ := q.choose_spec.2 0
  obtain ⟨_, _, e2⟩ := h.2 0
  refine G0 ?_
  clear G0
  rw [e1] at e2
  cases e2
  rfl
theorem def_vint (w : World) : DefOk (KK w) 36 (fnD w.params 36) (bodyOf w.params 36) ["iterator"] [some "b", some "val"] :=
  defOk_of ⟨_, _, _, rfl⟩ rfl (by kernel_rfl) (ar1 fun v0 => (by kernel_rfl)) (by kernel_rfl)
section
variable {prog : Program} {w : World} {n : Nat} {nm : List (Str × NameKind)} {sl : List (Option Str)}
noncomputable def vintC (f : FD) : FD := fun ρ => (f ρ).bind fun d => (asL d).bind fun ds => F_vint ds
theorem k_vint {p p1 p2 pos : Pos} {e : Expr} {f : FD} (hx : gOkB nm ("_parse_varint" : Str) = true) (hg : nsIn (KK w) mainGlobals ("_parse_varint" : Str) = some (some (.ref 36))) (hx' : gOkB nm ("iter" : Str) = true) (hg' : nsIn (KK w) mainGlobals ("iter" : Str) = some none)
    (h1 : Den prog w (KK w) (n + 1) nm sl e f) (he : ∀ env, starEach [e] env = (false, eval e env) :: starEach [] env) (hk : keepIn (KK w) (.ref 36) = true) : Den prog w (KK w) (n + 1) nm sl (.Call (.Name ("_parse_varint" : Str) p) [.Call (.Name ("iter" : Str) p1) [e] [] p2] [] pos) (vintC f) := by
  intro env A s ρ d P Q E c hf h
  replace hf := bb2 hf
  obtain ⟨a, ha, ds, hds, hf⟩ := hf
  cases asL_some hds
  unfold F_vint at hf
  split at hf
  · rename_i hq
    cases hf
    obtain ⟨qf, qm⟩ := hq.choose_spec
    generalize hq.choose = r at h qf qm
    refine Call_Name rfl (gname c.eok c.gd (gOk hx).1 hg (gOk hx).2.1 ?_)
    refine callWith_K (K := KK w) c.gd.X hk (args_cons ?_ rfl) rfl rfl
    refine Call_Name rfl (bname c.eok c.gd (gOk hx').1 hg' (v := .builtin "iter") (by decide +kernel) (gOk hx').2.2 (gOk hx').2.1 ?_)
    refine PyProof.Rows.callWith_builtin1 (args_cons (h1 env A s ρ _ P _ _ c ha fun v h' tk e1 hv => args_nil ?_) (he env)) (he env) rfl
    refine byC fun G1 => ?_
    obtain ⟨l, us, rfl, pl, hl, hal⟩ := hv
    refine G1 ?_
    clear G1
    refine iter_list (s := { s with heap := h', toks := tk }) hl.isList (args_nil ?_)
    have e2 : Ext h' (h'.push { cls := .type "list_iterator", data := .fields #[.ref l, .int 0 0] }) := .push _
    have hI : (h'.push { cls := .type "list_iterator", data := .fields #[.ref l, .int 0 0] }).get? h'.objs.size = some { cls := .type "list_iterator", data := .fields #[.ref l, .int 0 0] } := Heap.get?_push_size _ rfl
    have cg := c.gd.ext e1
    have hP := (c.ext e1).fresh
    have n1 := size_none h'
    refine ⟨(cg.ext e2).X, wpAny_call ?_⟩
    refine enter_of (s := { s with heap := _, toks := tk }) (own := none) (base := h') (P := fun b => P b ∧ ¬ b = h'.objs.size) (ds := [.addr h'.objs.size]) (def_vint w) (fun _ q => by cases q) c.room cg e2 ?_ ⟨_, _, rfl, rfl, rfl⟩ rfl fun env1 h1' tk1 E' c1 ek hmu => ?_
    · intro b hb
      exact ⟨hP b (none_of_ext e2 hb), fun q => by rw [q, hI] at hb; cases hb⟩
    · obtain ⟨ρ', r', hG⟩ := qm h'.objs.size
      have hnm : ¬ Mu env1 h'.objs.size := fun m => by have := hmu _ m; rw [hI] at this; cases this
      have hlne : ∀ b o, h'.get? b = some o → ¬ b = h'.objs.size := fun b o ho q => by rw [q, n1] at ho; cases ho
      obtain ⟨ml, hlo⟩ := id hl
      have hlm : ∀ b o, h'.get? b = some o → ¬ Mu env1 b := fun b o ho m => by have := hmu _ m; rw [e2 _ _ ho] at this; cases this
      refine d_vint prog w n h'.objs.size env1 _ { s with heap := h1', toks := tk1 } _ ds (.ret r) ρ' r' h' _ env1.locals _ _ c1 ?_ ?_ hG fun flow h2 tk2 P2 oa2 af az => ?_
      · intro b hb
        rw [List.mem_singleton.mp hb]
        exact ⟨fun q => q.1.2 rfl, fun q => q.elim hnm fun z => absurd rfl z.1, n1, _, ek _ _ hI⟩
      · refine ⟨l, us, 0, ds, ⟨_, ek _ _ hI, rfl, rfl⟩, ⟨⟨pl, hlne _ _ hlo⟩, hlm _ _ hlo⟩, ⟨ml, ek _ _ (e2 _ _ hlo)⟩, HasAll.mono (fun b o ho q => ⟨⟨⟨q, hlne _ _ ho⟩, hlm _ _ ho⟩, ek _ _ (e2 _ _ ho)⟩) _ _ hal, rfl⟩
      · obtain ⟨v, ev, hv⟩ := af.fl
        subst ev
        exact h _ _ _ (e1.trans af.eb) (hv.flat qf)
  · cases hf
end

noncomputable def g_line : FS := (seqS (ifS (isMap 0) (seqS (retS (iC 0))
  skipS) skipS)
  (seqS (asgS 1 (maxfC 0 (negC (iC 1))))
  (seqS (ifS (cmpT .Eq (var 1) (negC (iC 1))) (seqS (retS (iC 0))
  skipS) skipS)
  (seqS (asgS 2 (callC maxD (consA (iC 3) (consA (callC lenD (consA (strOfC (var 1)) nilA)) nilA))))
  (seqS (ifS (andT (cmpT .Lt (var 2) (callC lenD (consA (sC (Str.ofString "  --")) nilA))) (noneInC 0)) (seqS (asgS 2 (callC lenD (consA (sC (Str.ofString "  --")) nilA)))
  skipS) skipS)
  (seqS (retS (var 2))
  skipS))))))
theorem d_line (prog : Program) (w : World) (n : Nat) : DenS prog w (KK w) n (nmOf w.params 43) [some "linestarts", some "maxlineno", some "lineno_width"] none (bodyOf w.params 43) g_line :=
  (s_cons (s_if (t_isNone 0 (by kernel_rfl)) (s_cons (s_ret k_int)
  s_nil) s_nil)
  (s_cons (s_asg 1 (by kernel_rfl) (fun _ => rfl) (k_maxf 0 (by kernel_rfl) rfl (by kernel_rfl) (by kernel_rfl) (by kernel_rfl) (by kernel_rfl) (k_neg k_int)))
  (s_cons (s_if (t_cmp rfl (k_var 1 (by kernel_rfl)) (k_neg k_int)) (s_cons (s_ret k_int)
  s_nil) s_nil)
  (s_cons (s_asg 2 (by kernel_rfl) (fun _ => rfl) (k_callB (by kernel_rfl) (by kernel_rfl) bb_max (fun _ => rfl) (fun _ => rfl) ok_max (l_cons (fun _ => rfl) k_int (l_cons (fun _ => rfl) (k_callB (by kernel_rfl) (by kernel_rfl) bb_len (fun _ => rfl) (fun _ => rfl) ok_len (l_cons (fun _ => rfl) (k_strOf (by kernel_rfl) (by kernel_rfl) (fun _ => rfl) (k_var 1 (by kernel_rfl))) l_nil)) l_nil))))
  (s_cons (s_if (t_and (t_cmp rfl (k_var 2 (by kernel_rfl)) (k_callB (by kernel_rfl) (by kernel_rfl) bb_len (fun _ => rfl) (fun _ => rfl) ok_len (l_cons (fun _ => rfl) (k_gstr (by kernel_rfl) (by kernel_rfl)) l_nil))) (t_noneIn 0 (by kernel_rfl) rfl)) (s_cons (s_asg 2 (by kernel_rfl) (fun _ => rfl) (k_callB (by kernel_rfl) (by kernel_rfl) bb_len (fun _ => rfl) (fun _ => rfl) ok_len (l_cons (fun _ => rfl) (k_gstr (by kernel_rfl) (by kernel_rfl)) l_nil)))
  s_nil) s_nil)
  (s_cons (s_ret (k_var 2 (by kernel_rfl)))
  s_nil))))))
noncomputable def F_line : List D → Option D := resD g_line 1 2
theorem ok_line (prog : Program) (w : World) (n : Nat) : CallOk prog w (KK w) (n + 1) (.ref 43) F_line :=
  call_of (K := KK w) (f := 43) (fd := fnD w.params 43) (body := bodyOf w.params 43) (xs := ["linestarts"]) (rest := [some "maxlineno", some "lineno_width"]) (own := none) (defOk_of ⟨_, _, _, rfl⟩ rfl (by kernel_rfl)
    (ar1 fun v0 => (by kernel_rfl)) (by kernel_rfl)) (fun _ q => by cases q) (d_line prog w n)

end
end Mine
end
section
open PySem PySem.W PyProof.Rows PySem.Calls
set_option Elab.async false
set_option maxRecDepth 100000
namespace Mine

/-- lists of scalars at their places -/
inductive AnsAll (h : Heap) : List Addr → List (List D) → Prop
  | nil : AnsAll h [] []
  | cons (l : Addr) (ls : List Addr) (ds : List D) (ans : List (List D)) (vs : List Value) (hl : h.PlainList l vs.toArray) (hal : HasAll (fun _ => False) h ds vs) (r : AnsAll h ls ans) : AnsAll h (l :: ls) (ds :: ans)
theorem AnsAll.mono {h h' : Heap} {ls : List Addr} {ans : List (List D)} (k : ∀ l ∈ ls, ∀ o, h.get? l = some o → h'.get? l = some o) (x : AnsAll h ls ans) : AnsAll h' ls ans := by
  induction x with
  | nil => exact .nil
  | cons l ls ds ans vs hl hal r ih =>
    obtain ⟨m, hl⟩ := hl
    exact .cons l ls ds ans vs ⟨m, k l (.head _) _ hl⟩ (HasAll.mono (fun _ _ _ p => p.elim) _ _ hal) (ih fun l' hl' => k l' (.tail _ hl'))
theorem AnsAll.get {h : Heap} {ls : List Addr} {ans : List (List D)} {ds : List D} (x : AnsAll h ls ans) : ∀ {k : Nat}, ans[k]? = some ds → ∃ l vs, ls[k]? = some l ∧ h.PlainList l vs.toArray ∧ HasAll (fun _ => False) h ds vs := by
  induction x with
  | nil => intro k e; cases e
  | cons l ls ds' ans vs hl hal r ih =>
    intro k e
    cases k with
    | zero =>
      cases Option.some.inj e
      exact ⟨l, vs, rfl, hl, hal⟩
    | succ k => exact ih e
theorem AnsAll.upd {h h' : Heap} {ds' : List D} {vs' : List Value} {ls : List Addr} {ans : List (List D)} {l : Addr} (x : AnsAll h ls ans) (nd : ls.Nodup) (sb : Heap.SameBut l h h') (hl' : h'.PlainList l vs'.toArray) (hal' : HasAll (fun _ => False) h' ds' vs') : ∀ {k : Nat}, ls[k]? = some l → AnsAll h' ls (ans.set k ds') := by
  induction x with
  | nil => intro k e; cases e
  | cons l0 ls ds ans vs hl hal r ih =>
    intro k e
    rw [List.nodup_cons] at nd
    cases k with
    | zero =>
      cases Option.some.inj e
      exact .cons l ls ds' ans vs' hl' hal' (r.mono fun l' hl' o ho => (sb.2 l' fun q => nd.1 (q ▸ hl')).trans ho)
    | succ k =>
      have q : l0 ≠ l := fun q => nd.1 (q ▸ List.mem_of_getElem? e)
      obtain ⟨m, hl0⟩ := hl
      exact .cons l0 ls ds _ vs ⟨m, (sb.2 l0 q).trans hl0⟩ (HasAll.mono (fun _ _ _ p => p.elim) _ _ hal) (ih nd.2 e)
noncomputable def Zans (a0 : Addr) (ls : List Addr) (ans : List (List D)) (_P : Addr → Prop) (h : Heap) : Prop := h.PlainList a0 (ls.map Value.ref).toArray ∧ AnsAll h ls ans
theorem zans_ok (a0 : Addr) (ls : List Addr) : ZOk (a0 :: ls) (Zans a0 ls) := by
  rintro ans P P' h h' k ⟨⟨m, h1⟩, h2⟩
  exact ⟨⟨m, (k a0 _ h1).2 (.head _)⟩, h2.mono fun l hl o ho => (k l o ho).2 (.tail _ hl)⟩

section
variable {prog : Program} {w : World} {K : Frag} {n : Nat} {nm : List (Str × NameKind)} {sl : List (Option Str)} {own : Option Nat} {X : Type} {S : List Addr} {Z : X → (Addr → Prop) → Heap → Prop}

theorem sideStep {j : Nat} {base h h' : Heap} {P : Addr → Prop} {oa b : Addr} {env : Env} {A : Around} {ρ : List D} (c : CxS K n nm sl (some j) base P oa env A h ρ) (o : Off S P env (some j) oa base h) (hb : b ∈ S) (sb : Heap.SameBut b h h') (hx : ∃ ob, h'.get? b = some ob) :
    AftX K n nm sl (some j) S base P oa env A h .next ρ .next h' (fun a => P a ∧ ¬ a = b) oa := by
  have ob := o b hb
  have kb : KeepBut (fun a => a = b) h h' := .of_same sb rfl
  have hPd : ∀ a, P a → ¬ a = b := fun a p q => ob.1 (q ▸ p)
  have c3 : CxS K n nm sl (some j) base (fun a => P a ∧ ¬ a = b) oa env A h' ρ := c.keepB kb (fun a _ _ p => hPd a p) (fun a mu q => ob.2.1 (.inl (q ▸ mu))) (fun a q => q ▸ hx) (fun a q => q ▸ ob.2.2.1) (fun _ _ q => ob.2.1 (.inr ⟨by simp, q.symm⟩))
  refine ⟨fun b' o' nb ho => kb b' o' (fun q => nb (.inr (q ▸ hb))) ho, c3.eb, fun a p => p.1, fun a o ho p => ⟨p, hPd a p⟩, .inl rfl, fun _ => c3, fun _ a ha => ?_, rfl⟩
  refine byC fun G0 => ?_
  obtain ⟨q1, q2, q3, o', ho⟩ := o a ha
  refine G0 ?_
  clear G0
  refine ⟨fun p => q1 p.1, q2, q3, ?_⟩
  by_cases q : a = b
  · exact q ▸ hx
  · exact ⟨o', kb a o' q ho⟩

/-- x[k].append(e) -/
noncomputable def appX (k iA : Nat) (a0 : Addr) (f : FD) (ρ : List D) (ans : List (List D)) : Option (Fl × List D × List (List D)) :=
  (f ρ).bind fun d => (ans[k]?).bind fun ds => if d.flat = true ∧ isAddr a0 (var iA ρ) = true ∧ ds.length ≤ 100000 ∧ k < 1000000 then some (.next, ρ, ans.set k (ds ++ [d])) else none
theorem x_app {a0 : Addr} {ls : List Addr} {j k kc : Nat} {x : Str} {p kp ip ap cp pos : Pos} {e : Expr} {f : FD} (iA : Nat) (hnd : (a0 :: ls).Nodup) (hi : varOkB sl iA x = true) (hse : ∀ env, starEach [e] env = [(false, eval e env)]) (hline : (ap.endLine == cp.line) = true)
    (hb : ∀ env, attributeBase (.Subscript (.Name x p) (.Constant (.int (k : Int)) kc kp) ip) ("append" : Str) env (eval (.Subscript (.Name x p) (.Constant (.int (k : Int)) kc kp) ip) env) = eval (.Subscript (.Name x p) (.Constant (.int (k : Int)) kc kp) ip) env)
    (h1 : Den prog w K n nm sl e f) :
    DenX1 prog w K n nm sl (some j) (a0 :: ls) (Zans a0 ls) (.Expr (.Call (.Attribute (.Subscript (.Name x p) (.Constant (.int (k : Int)) kc kp) ip) ("append" : Str) ap) [e] [] cp) pos) (appX k iA a0 f) := by
  first | refine denX1_of fun env A s ρ ans T base P oa Q E c of z hG h => ?_ | refine denX_of fun env A s ρ ans T base P oa Q E c of z hG h => ?_
  replace hG := bb2 hG
  refine byC fun G1 => ?_
  obtain ⟨d, hd, ds, hds, hG⟩ := hG
  replace hG := ifs hG
  obtain ⟨hc, hG⟩ := hG
  cases hG
  obtain ⟨hfl, hA, hle, hk⟩ := hc
  refine G1 ?_
  clear G1
  refine wpAny_Expr ?_ (not_interactive c.eok) rfl
  refine wpAny_Call_append (hb env) ?_ hline ?_ ?_
  · rw [hse env]; rfl
  · rw [hse env]; rfl
  refine Subscript_ (k_var (prog := prog) (w := w) (K := K) (n := n) (nm := nm) iA hi env A s ρ (.addr a0) _ _ _ c.cx (isAddr_of hA) fun v2 h2 tk2 e2 hv2 => ?_)
  have hv2' : v2 = .ref a0 := hv2
  subst hv2'
  refine wpAny_Constant_int ?_
  refine byC fun G2 => ?_
  obtain ⟨z1, z2⟩ : Zans a0 ls ans P h2 := (zans_ok a0 ls).ext e2 z
  obtain ⟨l, vs, hl, hpl, hal⟩ := z2.get hds
  refine G2 ?_
  clear G2
  have hget : ((ls.map Value.ref).toArray)[((k : Int)).toNat]? = some (.ref l) := by simp [hl]
  refine tail_any (PySem.Heap.IsList.typeIs (s := { s with heap := h2, toks := _ }) z1.isList) slot_list_getitem.lookup (wpAny_getItem_list (s := { s with heap := h2, toks := _ }) z1.isList (by omega) (by omega) hget ?_) rfl
  refine ⟨l, vs.toArray, rfl, ?_, ?_⟩
  · obtain ⟨m, ho⟩ := hpl
    exact ⟨_, m, ho, rfl, rfl, rfl⟩
  refine h1 env A { s with heap := h2, toks := _ } ρ d _ _ _ (c.ext e2).cx hd fun v h' tk e1 hv => ?_
  have e12 := e2.trans e1
  obtain ⟨w1, w2⟩ : Zans a0 ls ans P h' := (zans_ok a0 ls).ext e12 z
  have hpl1 : h'.PlainList l vs.toArray := hpl.at fun o ho => e1 _ o ho
  have hlen := hal.length
  refine wpAny_list_append_plain (s := { s with heap := h', toks := tk }) hpl1 (fun h3 hl3 sb => ?_) (by rw [List.size_toArray, sizeLine_eq]; omega)
  have hlm : l ∈ ls := List.mem_of_getElem? hl
  have a3 := sideStep (c.ext e12) (of.ext e12) (b := l) (.tail _ hlm) sb (by obtain ⟨m, ho⟩ := hl3; exact ⟨_, ho⟩)
  rw [List.nodup_cons] at hnd
  have hne : a0 ≠ l := fun q => hnd.1 (q ▸ hlm)
  refine h _ _ _ _ _ ((AftX.ext c of e12).trans c of a3) fun _ => ⟨?_, ?_⟩
  · obtain ⟨m, ho⟩ := w1
    exact ⟨m, (sb.2 a0 hne).trans ho⟩
  · refine w2.upd (vs' := vs ++ [v]) hnd.2 sb (by simpa using hl3) ?_ hl
    exact (HasAll.mono (fun _ _ _ p => p.elim) _ _ hal).append (.one (hv.flat hfl))
end
end Mine
end
section
open PySem PySem.W PyProof.Rows PySem.Calls
set_option Elab.async false
set_option maxRecDepth 100000
namespace Mine
theorem AnsAll.has {P : Addr → Prop} {h : Heap} {ls : List Addr} {ans : List (List D)} (p : ∀ l ∈ ls, P l) (x : AnsAll h ls ans) : HasAll P h (ans.map .list) (ls.map Value.ref) := by
  induction x with
  | nil => rfl
  | cons l ls ds ans vs hl hal r ih => exact ⟨_, _, rfl, ⟨l, vs, rfl, p l (.head _), hl, HasAll.mono (fun _ _ _ q => q.elim) _ _ hal⟩, ih fun l' hl' => p l' (.tail _ hl')⟩
/-- the four lists made, the loop that fills them, and what reads them -/
noncomputable def AnsRun (iA : Nat) (gl : Addr → List D → List (List D) → Option (Fl × List D × List (List D))) (gr : FS) (ρ : List D) (d : D) : Prop :=
  iA < ρ.length ∧ ∀ a0 : Addr, ∃ fl ρ1 ans, gl a0 (ρ.set iA (.addr a0)) [[], [], [], []] = some (fl, ρ1, ans) ∧
    (fl = .ret d ∨ (fl = .next ∧ isAddr a0 (var iA ρ1) = true ∧ ∃ ρ2, gr (ρ1.set iA (.list (ans.map .list))) = some (.ret d, ρ2)))
open Classical in
noncomputable def ansS (iA : Nat) (gl : Addr → List D → List (List D) → Option (Fl × List D × List (List D))) (gr : FS) : FS := fun ρ => if h : ∃ d, AnsRun iA gl gr ρ d then some (.ret h.choose, ρ) else none
theorem AnsRun.unique {iA : Nat} {gl : Addr → List D → List (List D) → Option (Fl × List D × List (List D))} {gr : FS} {ρ : List D} {d d' : D} (x : AnsRun iA gl gr ρ d) (y : AnsRun iA gl gr ρ d') : d = d' := by
  obtain ⟨fl, ρ1, ans, e1, q1⟩ := x.2 0
  obtain ⟨fl', ρ1', ans', e2, q2⟩ := y.2 0
  rw [e1] at e2
  cases e2
  rcases q1 with q1 | ⟨q1, _, _, g1⟩ <;> rcases q2 with q2 | ⟨q2, _, _, g2⟩
  · rw [q1] at q2; cases q2; rfl
  · rw [q1] at q2; cases q2
  · rw [q1] at q2; cases q2
  · rw [g1] at g2; cases g2; rfl
theorem ansS_of {iA : Nat} {gl : Addr → List D → List (List D) → Option (Fl × List D × List (List D))} {gr : FS} {ρ : List D} {d : D} (x : AnsRun iA gl gr ρ d) : ansS iA gl gr ρ = some (.ret d, ρ) := by
  unfold ansS
  have q : ∃ d, AnsRun iA gl gr ρ d := ⟨d, x⟩
  rw [dif_pos q, q.choose_spec.unique x]
section
variable {prog : Program} {w : World} {K : Frag} {n : Nat} {nm : List (Str × NameKind)} {sl : List (Option Str)}
inductive FourAt (h h' : Heap) (a0 l0 l1 l2 l3 : Addr) : Prop
  | mk (h1 h2 h3 h4 : Heap) (e1 : Ext h h1) (e2 : Ext h1 h2) (e3 : Ext h2 h3) (e4 : Ext h3 h4) (e5 : Ext h4 h') (f0 : h.get? l0 = none) (f1 : h1.get? l1 = none) (f2 : h2.get? l2 = none) (f3 : h3.get? l3 = none) (f4 : h4.get? a0 = none)
    (q0 : h1.PlainList l0 #[]) (q1 : h2.PlainList l1 #[]) (q2 : h3.PlainList l2 #[]) (q3 : h4.PlainList l3 #[]) (q4 : h'.PlainList a0 ([l0, l1, l2, l3].map Value.ref).toArray)
structure FourIs (h h' : Heap) (a0 : Addr) (ls : List Addr) : Prop where
  ext : Ext h h'
  nd : (a0 :: ls).Nodup
  fresh : ∀ a ∈ (a0 :: ls), h.get? a = none
  here : ∀ a ∈ (a0 :: ls), ∃ o, h'.get? a = some o
  z : ∀ P, Zans a0 ls [[], [], [], []] P h'
theorem five {p : Addr → Prop} {a b c d e : Addr} (h : p a ∧ p b ∧ p c ∧ p d ∧ p e) : ∀ x ∈ [a, b, c, d, e], p x := by
  intro x hx
  simp only [List.mem_cons, List.not_mem_nil, or_false] at hx
  rcases hx with rfl | rfl | rfl | rfl | rfl
  · exact h.1
  · exact h.2.1
  · exact h.2.2.1
  · exact h.2.2.2.1
  · exact h.2.2.2.2
theorem FourAt.is {h h' : Heap} {a0 l0 l1 l2 l3 : Addr} (F : FourAt h h' a0 l0 l1 l2 l3) : FourIs h h' a0 [l0, l1, l2, l3] := by
  obtain ⟨h1, h2, h3, h4, e1, e2, e3, e4, e5, f0, f1, f2, f3, f4, q0, q1, q2, q3, q4⟩ := F
  have ex : ∀ {l : Addr} {hh hh' : Heap} {vs : Array Value}, hh.PlainList l vs → Ext hh hh' → ∃ o, hh'.get? l = some o := fun ⟨_, ho⟩ e => ⟨_, e _ _ ho⟩
  have ne : ∀ {l l' : Addr} {hh : Heap}, (∃ o, hh.get? l = some o) → hh.get? l' = none → l ≠ l' := fun ⟨_, ho⟩ hn q => by rw [q, hn] at ho; cases ho
  have pl : ∀ {l : Addr} {hh : Heap} {vs : Array Value}, hh.PlainList l vs → Ext hh h' → h'.PlainList l vs := fun ⟨m, ho⟩ e => ⟨m, e _ _ ho⟩
  refine ⟨(((e1.trans e2).trans e3).trans e4).trans e5, ?_, five ⟨none_of_ext e1 (none_of_ext e2 (none_of_ext e3 (none_of_ext e4 f4))), f0, none_of_ext e1 f1, none_of_ext e1 (none_of_ext e2 f2), none_of_ext e1 (none_of_ext e2 (none_of_ext e3 f3))⟩,
    five ⟨ex q4 .refl, ex q0 (((e2.trans e3).trans e4).trans e5), ex q1 ((e3.trans e4).trans e5), ex q2 (e4.trans e5), ex q3 e5⟩,
    fun P => ⟨q4, .cons _ _ _ _ [] (pl q0 (((e2.trans e3).trans e4).trans e5)) rfl (.cons _ _ _ _ [] (pl q1 ((e3.trans e4).trans e5)) rfl (.cons _ _ _ _ [] (pl q2 (e4.trans e5)) rfl (.cons _ _ _ _ [] (pl q3 e5) rfl .nil)))⟩⟩
  simp only [List.nodup_cons, List.mem_cons, List.not_mem_nil, or_false, not_or, List.nodup_nil, and_true, not_false_eq_true]
  exact ⟨⟨(ne (ex q0 ((e2.trans e3).trans e4)) f4).symm, (ne (ex q1 (e3.trans e4)) f4).symm, (ne (ex q2 e4) f4).symm, (ne (ex q3 .refl) f4).symm⟩, ⟨ne (ex q0 .refl) f1, ne (ex q0 e2) f2, ne (ex q0 (e2.trans e3)) f3⟩, ⟨ne (ex q1 .refl) f2, ne (ex q1 e3) f3⟩, ne (ex q2 .refl) f3⟩
theorem empty_list {env : Env} {A : Around} {s : Shared} {Q E : Value → Shared → Prop} {pp : Pos} (h : ∀ l h', Ext s.heap h' → s.heap.get? l = none → h'.PlainList l #[] → Q (.ref l) { s with heap := h' }) : wpAny (model prog w) A (eval (.List [] pp) env) Q E s :=
  wpAny_List (wpAny_items_nil ⟨by decide, h _ _ (.push _) (size_none _) ⟨0, Heap.get?_push_size _ rfl⟩⟩)
theorem four {env : Env} {A : Around} {s : Shared} {Q E : Value → Shared → Prop} {p0 p1 p2 p3 lp : Pos} (h : ∀ a0 l0 l1 l2 l3 h', FourAt s.heap h' a0 l0 l1 l2 l3 → Q (.ref a0) { s with heap := h' }) :
    wpAny (model prog w) A (eval (.List [.List [] p0, .List [] p1, .List [] p2, .List [] p3] lp) env) Q E s := by
  have he0 : starEach [.List [] p0, .List [] p1, .List [] p2, .List [] p3] env = (false, eval (.List [] p0) env) :: starEach [.List [] p1, .List [] p2, .List [] p3] env := rfl
  have he1 : starEach [.List [] p1, .List [] p2, .List [] p3] env = (false, eval (.List [] p1) env) :: starEach [.List [] p2, .List [] p3] env := rfl
  have he2 : starEach [.List [] p2, .List [] p3] env = (false, eval (.List [] p2) env) :: starEach [.List [] p3] env := rfl
  have he3 : starEach [.List [] p3] env = (false, eval (.List [] p3) env) :: starEach [] env := rfl
  refine wpAny_List ?_
  refine args_cons ?_ he0
  refine empty_list fun l0 h1 e1 f0 q0 => ?_
  refine args_cons ?_ he1
  refine empty_list fun l1 h2 e2 f1 q1 => ?_
  refine args_cons ?_ he2
  refine empty_list fun l2 h3 e3 f2 q2 => ?_
  refine args_cons ?_ he3
  refine empty_list fun l3 h4 e4 f3 q3 => ?_
  refine args_nil ⟨?_, ?_⟩
  · rw [sizeLine_eq]; exact Nat.le_of_ble_eq_true rfl
  exact h _ l0 l1 l2 l3 _ ⟨h1, h2, h3, h4, e1, e2, e3, e4, .push _, f0, f1, f2, f3, size_none _, q0, q1, q2, q3, ⟨0, Heap.get?_push_size _ rfl⟩⟩

theorem s_ans {x : Str} {p0 p1 p2 p3 px lp pos : Pos} {stF : Stmt} {rest : List Stmt} {j : Nat} {gl : Addr → List D → List (List D) → Option (Fl × List D × List (List D))} {gr : FS} (iA : Nat) (hA : nameAt nm sl (some j) x = some iA)
    (hs : ∀ env, swapsWith (.List [.List [] p0, .List [] p1, .List [] p2, .List [] p3] lp) (some (.Name x px)) pos.line env = pure false)
    (hl : ∀ a0 ls, (a0 :: ls).Nodup → DenX1 prog w K n nm sl (some j) (a0 :: ls) (Zans a0 ls) stF (gl a0)) (hr : DenS prog w K n nm sl none rest gr) :
    DenS prog w K n nm sl (some j) (.Assign [.Name x px] (.List [.List [] p0, .List [] p1, .List [] p2, .List [] p3] lp) pos :: stF :: rest) (ansS iA gl gr) := by
  intro env A s ρ fl ρ' base P oa Q E c hf h
  unfold ansS at hf
  split at hf
  · rename_i hq
    cases hf
    have run := hq.choose_spec
    generalize hq.choose = d at h run
    obtain ⟨hiA, run⟩ := run
    have nA := nameAt_ok hA
    refine wpAny_execs_cons (wpAny_Assign_Name ?_ (hs env))
    refine @four prog w env A s _ E p0 p1 p2 p3 lp ?_
    intro a0 l0 l1 l2 l3 h5 F
    replace F := F.is
    generalize [l0, l1, l2, l3] = ls at F
    obtain ⟨e15, hnd, fresh, here, z5⟩ := F
    replace z5 := z5 P
    have c5 : CxS K n nm sl (some j) base (fun a => P a ∧ ¬ a ∈ (a0 :: ls)) oa env A h5 ρ := c.keepB (B := fun a => a ∈ (a0 :: ls)) (.of_ext e15) (fun a o ho _ q => by exact noneS ((fresh a q).symm.trans ho)) (fun a m q => by obtain ⟨o, ho⟩ := c.sto.mu m; exact noneS ((fresh a q).symm.trans ho))
      here (fun a q => none_of_ext c.eb (fresh a q)) (fun o ho q => by exact noneS ((fresh _ q).symm.trans ho))
    have o5 : Off (a0 :: ls) (fun a => P a ∧ ¬ a ∈ (a0 :: ls)) env (some j) oa base h5 := fun a ha => by
      refine ⟨fun p => p.2 ha, fun b => ?_, none_of_ext c.eb (fresh a ha), here a ha⟩
      rcases b with b | b
      · obtain ⟨o, ho⟩ := c.sto.mu b; exact noneS ((fresh a ha).symm.trans ho)
      · obtain ⟨o, ho⟩ := c.oax (by simp); rw [← b.2, fresh a ha] at ho; cases ho
    have a5 : AftX K n nm sl (some j) (a0 :: ls) base P oa env A s.heap .next ρ .next h5 (fun a => P a ∧ ¬ a ∈ (a0 :: ls)) oa :=
      ⟨.of_ext e15, c5.eb, fun _ p => p.1, fun a o ho p => ⟨p, fun q => by exact noneS ((fresh a q).symm.trans ho)⟩, .inl rfl, fun _ => c5, fun _ => o5, rfl⟩
    refine store1 (s := { s with heap := h5, toks := _ }) (d := .addr a0) c5 nA.slot nA.once nA.own nA.kind rfl hiA fun h6 tk6 _ a6 => ?_
    have c6 := a6.cx rfl
    have o6 := (a6.toX o5).off rfl
    have z6 : Zans a0 ls [[], [], [], []] (fun a => P a ∧ ¬ a ∈ (a0 :: ls)) h6 := (zans_ok a0 ls).aft c5 o5 a6 z5
    have kb6 : KeepBut (fun a => Bd env (some j) oa a ∨ a ∈ (a0 :: ls)) s.heap h6 := fun b o nb ho => a6.keep b o (fun q => nb (.inl q)) (e15 b o ho)
    obtain ⟨fl1, ρ1, ans, hg, alt⟩ := run a0
    refine wpAny_execs_cons (hl a0 ls hnd env A { s with heap := h6, toks := tk6 } _ _ fl1 ρ1 ans base _ oa _ _ c6 o6 z6 hg fun flow h7 tk7 P7 oa7 a7 az7 => ?_)
    have k7 : KeepBut (Bd env (some j) oa) s.heap h7 := fun b o nb ho => by
      refine a7.keep b o (fun q => ?_) (kb6 b o (fun q => q.elim nb fun z => by exact noneS ((fresh b z).symm.trans ho)) ho)
      exact q.elim nb fun z => by exact noneS ((fresh b z).symm.trans ho)
    rcases alt with rfl | ⟨rfl, hisA, ρ2, hgr⟩
    · obtain ⟨v, e, hv⟩ := a7.fl
      subst e
      exact h _ _ _ P oa ⟨k7, a7.eb, fun _ p => p, fun _ _ _ p => p, .inl rfl, fun q => (by cases q), ⟨v, rfl, Has.mono (fun a o ho p => ⟨p.imp (fun z => z.1) id, ho⟩) _ _ hv⟩⟩
    · have e : flow = .next := a7.fl
      subst e
      have c7 := a7.cx rfl
      have o7 := a7.off rfl
      obtain ⟨z7, zl7⟩ := az7 rfl
      have hv1 := var_some (isAddr_of hisA)
      obtain ⟨vA, rA, sA⟩ := (c7.slots iA x _ nA.slot hv1.1).resolve_left hv1.2
      have hqA : ((some j : Option Nat) == some iA) = false := by simpa using nA.own
      rw [hqA] at sA
      have hvA : vA = .ref a0 := sA
      subst hvA
      have hlt : iA < ρ1.length := (List.getElem?_eq_some_iff.mp hv1.1).1
      have pS : ∀ a ∈ (a0 :: ls), P7 a ∨ (base.get? a = none ∧ ¬ Mu env a ∧ (a = oa7 ∨ a ∈ (a0 :: ls))) := fun a ha => .inr ⟨(o7 a ha).2.2.1, fun m => (o7 a ha).2.1 (.inl m), .inr ha⟩
      have c8 : CxS K n nm sl none base (fun a => P7 a ∨ (base.get? a = none ∧ ¬ Mu env a ∧ (a = oa7 ∨ a ∈ (a0 :: ls)))) oa7 env A h7 (ρ1.set iA (.list (ans.map .list))) := by
        refine ⟨c7.eok, c7.room, c7.gd, c7.eb, c7.sto, c7.mub, ?_, fun a ha => .inl (c7.fresh a ha), fun q => absurd rfl q, ?_⟩
        · rintro a (p | ⟨_, q, _⟩) z
          · rcases z with z | z
            · exact c7.pmu a p (.inl z)
            · exact z.1 rfl
          · rcases z with z | z
            · exact q z
            · exact z.1 rfl
        · intro i y dd hi hd
          have hq : ((none : Option Nat) == some i) = false := rfl
          rw [hq]
          by_cases hii : i = iA
          · subst hii
            rw [List.getElem?_set_self hlt] at hd
            cases hd
            rw [nA.slot] at hi
            cases hi
            exact .inr ⟨_, rA, a0, ls.map Value.ref, rfl, pS a0 (.head _), z7, zl7.has fun l hl => pS l (.tail _ hl)⟩
          · rw [List.getElem?_set_ne (Ne.symm hii)] at hd
            refine (c7.slots i y dd hi hd).imp id fun ⟨v, r, so⟩ => ⟨v, r, ?_⟩
            cases hq' : ((some j : Option Nat) == some i) with
            | true =>
              rw [hq'] at so
              obtain ⟨ds, vs, rfl, rfl, hl, hal, hb, hm⟩ := so
              exact ⟨oa7, vs, rfl, .inr ⟨hb, hm, .inl rfl⟩, hl, HasAll.mono (fun a o ho p => ⟨.inl p, ho⟩) _ _ hal⟩
            | false =>
              rw [hq'] at so
              exact Has.mono (P := P7) (fun a o ho p => ⟨.inl p, ho⟩) _ _ so
      refine hr env A { s with heap := h7, toks := tk7 } _ _ _ base _ oa7 _ _ c8 hgr fun flow h9 tk9 P9 oa9 a9 => ?_
      obtain ⟨v, e, hv⟩ := a9.fl
      subst e
      refine h _ _ _ P oa ⟨fun b o nb ho => a9.keep b o (fun q => q.elim (fun z => nb (.inl z)) fun z => absurd rfl z.1) (k7 b o nb ho), a9.eb, fun _ p => p, fun _ _ _ p => p, .inl rfl, fun q => (by cases q), ⟨v, rfl, Has.mono (fun a o ho p => ⟨?_, ho⟩) _ _ hv⟩⟩
      rcases p with (p | p) | p
      · exact .inl (a7.sub a p).1
      · exact .inr p.1
      · exact .inr p
  · cases hf
end
end Mine
end
section
open PySem PySem.W PyProof.Rows PySem.Calls
set_option Elab.async false
set_option maxRecDepth 100000
namespace Mine
section
variable {prog : Program} {w : World} {K : Frag} {n : Nat} {nm : List (Str × NameKind)} {sl : List (Option Str)} {own : Option Nat}
/-- a comprehension's list bound to a name that inner scopes see -/
theorem s_asgC {elt : Expr} {gens : List Comprehension} {scope : Scope} {cpos py pos : Pos} {y : Str} {f : FD} (i : Nat) (hy : nameAt nm sl own y = some i) (hk : (nm.lookup y == some .cell) = true) (h1 : Den prog w K n nm (hide own sl) (.ListComp elt gens scope cpos) f) :
    Den1 prog w K n nm sl own (.Assign [.Name y py] (.ListComp elt gens scope cpos) pos) (asgS i f) := by
  first | refine den1_of fun env A s ρ T base P oa Q E c hf h => ?_ | refine denS_of fun env A s ρ T base P oa Q E c hf h => ?_
  obtain ⟨d, hd, hf⟩ := Option.bind_eq_some_iff.mp hf
  unfold setS at hf
  replace hf := ifs hf
  obtain ⟨hl, hf⟩ := hf
  cases hf
  have hx := nameAt_ok hy
  refine wpAny_Assign_Name (h1 env A s ρ d P _ _ c.cxh hd fun v h' tk e1 hv => ?_) ?_
  · exact store1 (c.ext e1) hx.slot hx.once hx.own hx.kind hv hl fun h'' tk' _ af => h _ _ _ _ _ (af.pre c e1)
  · show (pure (env.blockKind == .function && env.kindOf y == some .local && py.line == cpos.line && !(scope.names.any fun p => p.1 == y && (p.2 == .local || p.2 == .cell))) : Sem Bool) = pure false
    rw [c.eok.kindOf y, beq_iff_eq.mp hk, show (some NameKind.cell == some NameKind.local) = false from by decide, Bool.and_false, Bool.false_and, Bool.false_and]
theorem l_int {i : Int} {k : Nat} {p : Pos} {es : List Expr} {g : FL} (h : DenL prog w K n nm sl es g) : DenL prog w K n nm sl (.Constant (.int i) k p :: es) (consA (iC i) g) := l_cons (fun _ => rfl) k_int h
end
noncomputable section
set_option maxHeartbeats 4000000

noncomputable abbrev slLaw : List (Option Str) := [some (Str.ofString "script"), some (Str.ofString "row"), some (Str.ofString "size"), some (Str.ofString "places"), some (Str.ofString "sign"), some (Str.ofString "first"), some (Str.ofString "second"), some (Str.ofString "front"), some (Str.ofString "back"), some (Str.ofString "wish"), some (Str.ofString "spots"), some (Str.ofString "wanted"), some (Str.ofString "shift"), some (Str.ofString "asked"), some (Str.ofString "figures"), some (Str.ofString "weights"), some (Str.ofString "answers"), some (Str.ofString "number"), some (Str.ofString "lead"), some (Str.ofString "column"), some (Str.ofString "fits"), some (Str.ofString "holds"), some (Str.ofString "octets"), some (Str.ofString "width"), some (Str.ofString "seen"), some (Str.ofString "weight"), some (Str.ofString "place"), some (Str.ofString "odds"), some (Str.ofString "sums"), some (Str.ofString "moved"), some (Str.ofString "i"), some (Str.ofString "j"), some (Str.ofString "both"), some (Str.ofString "gain"), some (Str.ofString "shared")]
-- cells: ['answers', 'figures', 'i', 'j', 'moved', 'number', 'places', 'seen', 'weights']
noncomputable def g_t16 (a0 : Addr) : List D → List (List D) → Option (Fl × List D × List (List D)) := (appX 3 16 a0 (var 23))
noncomputable def g_t15 (a0 : Addr) : List D → List (List D) → Option (Fl × List D × List (List D)) := (appX 2 16 a0 (ifC (valT (var 21)) (iC 1) (iC 0)))
noncomputable def g_t14 (a0 : Addr) : List D → List (List D) → Option (Fl × List D × List (List D)) := (appX 1 16 a0 (ifC (valT (var 20)) (ifC (cmpT .Eq (var 4) (sC (Str.ofString " "))) (negC (iC 1)) (iC 1)) (iC 0)))
noncomputable def g_t13 (a0 : Addr) : List D → List (List D) → Option (Fl × List D × List (List D)) := (appX 0 16 a0 (var 19))
noncomputable def g_t12 (a0 : Addr) : List D → List (List D) → Option (Fl × List D × List (List D)) := (liftX (appS 15 (var 25)))
noncomputable def g_t11 (a0 : Addr) : List D → List (List D) → Option (Fl × List D × List (List D)) := (liftX (forS 26 (rangeC (var 3)) (seqS (asgS 27 (ifC (valT (binC .BitAnd (binC .RShift (var 17) (var 26)) (iC 1))) (idxC (var 1) (binC .Add (iC 8) (var 26))) (binC .FloorDiv (idxC (var 1) (binC .Add (iC 8) (var 26))) (iC 5))))
  (seqS (asgS 25 (binC .Mult (var 25) (binC .Add (binC .Mod (var 27) (iC 5)) (iC 1))))
  skipS)) skipS))
noncomputable def g_t10 (a0 : Addr) : List D → List (List D) → Option (Fl × List D × List (List D)) := (liftX (asgS 25 (iC 1)))
noncomputable def g_t9 (a0 : Addr) : List D → List (List D) → Option (Fl × List D × List (List D)) := (liftX (ifS (cmpT .IsNot (var 21) (cmpC .Eq (binC .BitAnd (var 17) (var 11)) (var 11))) (seqS (retS (bC false))
  skipS) skipS))
noncomputable def g_t8 (a0 : Addr) : List D → List (List D) → Option (Fl × List D × List (List D)) := (liftX (ifS (cmpT .IsNot (var 20) (cmpC .NotEq (compC (iterC (var 10)) (cmpT .Eq (binC .BitAnd (var 25) (var 0)) (var 0)) (var 0)) (listC nilA))) (seqS (retS (bC false))
  skipS) skipS))
noncomputable def g_t7 (a0 : Addr) : List D → List (List D) → Option (Fl × List D × List (List D)) := (liftX (ifS (orT (cmpT .NotEq (var 19) (callC F_col (consA (var 17) (consA (var 3) (consA (var 2) nilA))))) (cmpT .NotEq (var 23) (callC F_wid (consA (var 17) (consA (var 14) nilA))))) (seqS (retS (bC false))
  skipS) skipS))
noncomputable def g_t6 (a0 : Addr) : List D → List (List D) → Option (Fl × List D × List (List D)) := (liftX (asgS 24 (ifC (cmpT .Eq (var 4) (sC (Str.ofString " "))) (binC .Sub (binC .Sub (binC .Pow (iC 2) (var 3)) (iC 1)) (var 17)) (var 17))))
noncomputable def g_t5 (a0 : Addr) : List D → List (List D) → Option (Fl × List D × List (List D)) := (liftX (asgS 23 (callC F_line (consA (map1C (vintC (var 22))) nilA))))
noncomputable def g_t4 (a0 : Addr) : List D → List (List D) → Option (Fl × List D × List (List D)) := (liftX (compS 22 (rangeC (binC .Add (var 3) (iC 1))) trueT (binC .Add (idxC (var 15) (var 0)) (binC .Mult (iC 64) (binC .BitAnd (binC .RShift (var 18) (var 0)) (iC 1))))))
noncomputable def g_t3 (a0 : Addr) : List D → List (List D) → Option (Fl × List D × List (List D)) := (liftX (asgS 21 (callC F_ell (consA (var 13) (consA (callC F_flags (consA (binC .LShift (var 17) (var 12)) nilA)) nilA)))))
noncomputable def g_t2 (a0 : Addr) : List D → List (List D) → Option (Fl × List D × List (List D)) := (liftX (asgS 20 (callC F_ell (consA (var 9) (consA (var 18) nilA)))))
noncomputable def g_t1 (a0 : Addr) : List D → List (List D) → Option (Fl × List D × List (List D)) := (liftX (asgS 19 (methC F_ind (callC F_ws (consA (binC .Add (var 18) (sC (Str.ofString "x"))) nilA)) (var 2))))
noncomputable def g_t0 (a0 : Addr) : List D → List (List D) → Option (Fl × List D × List (List D)) := (liftX (asgS 18 (joinC (sC (Str.ofString "")) (compC (rangeC (var 3)) trueT (ifC (valT (binC .BitAnd (binC .RShift (var 18) (var 0)) (iC 1))) (sC (Str.ofString "\t")) (sC (Str.ofString " ")))))))
noncomputable def g_p13 : FS := (newS 15 nilA)
noncomputable def g_p12 : FS := (asgS 14 (compC (iterC (cutC (var 1) (iC 3) (iC 8))) trueT (binC .Mod (var 0) (iC 64))))
noncomputable def g_p11 : FS := (asgS 13 (binC .Add (binC .Add (sC (Str.ofString "...")) (replC F_flags (var 11) (var 12) (Str.ofString ", ") (Str.ofString "..."))) (sC (Str.ofString "..."))))
noncomputable def g_p10 : FS := (asgS 12 (binC .Mod (binC .FloorDiv (idxC (var 1) (iC 2)) (iC 30)) (iC 5)))
noncomputable def g_p9 : FS := (asgS 11 (binC .Add (binC .Mod (binC .FloorDiv (idxC (var 1) (iC 2)) (iC 2)) (binC .Sub (binC .Pow (iC 2) (var 3)) (iC 1))) (iC 1)))
noncomputable def g_p8 : FS := (asgS 10 (callC F_spots (consA (var 3) (consA (var 5) (consA (var 6) (consA (var 7) (consA (var 8) nilA)))))))
noncomputable def g_p7 : FS := (asgS 9 (binC .Add (binC .Add (binC .Add (binC .Add (binC .Mult (sC (Str.ofString "...")) (var 7)) (binC .Mult (var 4) (var 5))) (sC (Str.ofString "..."))) (binC .Mult (var 4) (var 6))) (binC .Mult (sC (Str.ofString "...")) (var 8))))
noncomputable def g_p6 : FS := (tup2S 7 8 (binC .Mod (binC .FloorDiv (idxC (var 1) (iC 1)) (iC 18)) (iC 2)) (binC .Mod (binC .FloorDiv (idxC (var 1) (iC 1)) (iC 36)) (iC 2)))
noncomputable def g_p5 : FS := (tup2S 5 6 (binC .Mod (binC .FloorDiv (idxC (var 1) (iC 1)) (iC 2)) (iC 3)) (binC .Mod (binC .FloorDiv (idxC (var 1) (iC 1)) (iC 6)) (iC 3)))
noncomputable def g_p4 : FS := (asgS 4 (ifC (cmpT .Eq (binC .Mod (idxC (var 1) (iC 1)) (iC 2)) (iC 1)) (sC (Str.ofString " ")) (sC (Str.ofString "\t"))))
noncomputable def g_p3 : FS := (asgS 3 (binC .Add (iC 3) (binC .Mod (idxC (var 1) (iC 2)) (iC 2))))
noncomputable def g_p2 : FS := (asgS 2 (binC .Add (binC .Mod (idxC (var 1) (iC 0)) (iC 5)) (iC 1)))
noncomputable def g_p1 : FS := (asgS 1 (binC .Add (var 1) (cutFromC (listC (consA (iC 2) (consA (iC 2) (consA (iC 62) (consA (iC 5) (consA (iC 20) (consA (iC 0) (consA (iC 33) (consA (iC 7) (consA (iC 7) (consA (iC 0) (consA (iC 13) (consA (iC 9) nilA))))))))))))) (callC lenD (consA (var 1) nilA)))))
noncomputable def g_p0 : FS := (compS 1 (iterC (cutToC (var 0) (iC 12))) trueT (binC .Mod (var 0) (binC .Pow (iC 10) (iC 6))))

noncomputable def g_rest : FS := (seqS (compS 28 (iterC (var 16)) trueT (callC sumD (consA (compC (rangeC (callC lenD (consA (var 16) nilA))) trueT (binC .Mult (idxC (var 17) (var 0)) (idxC (var 1) (var 0)))) nilA)))
  (seqS (asgS 29 (compC (iterC (var 16)) trueT (callC F_moved (consA (var 0) (consA (var 4) nilA)))))
  (seqS (forS 30 (rangeC (iC 4)) (seqS (forS 31 (range2C (var 30) (iC 4)) (seqS (asgS 32 (callC sumD (consA (compC (rangeC (callC lenD (consA (var 15) nilA))) trueT (binC .Mult (binC .Mult (idxC (var 16) (var 0)) (idxC (idxC (var 17) (var 31)) (var 0))) (idxC (idxC (var 17) (var 32)) (var 0)))) nilA)))
  (seqS (asgS 33 (binC .Sub (binC .Mult (callC sumD (consA (var 15) nilA)) (var 32)) (binC .Mult (idxC (var 28) (var 30)) (idxC (var 28) (var 31)))))
  (seqS (asgS 34 (cmpC .NotEq (compC (iterC (idxC (var 29) (var 30))) (cmpT .In (var 0) (idxC (var 30) (var 32))) (var 0)) (listC nilA)))
  (seqS (ifS (orT (cmpT .Lt (var 33) (iC 0)) (cmpT .NotEq (var 34) (cmpC .Gt (var 33) (iC 0)))) (seqS (retS (bC false))
  skipS) skipS)
  skipS)))) skipS)
  skipS) skipS)
  (seqS (retS (bC true))
  skipS))))
theorem d_rest (prog : Program) (w : World) (n : Nat) : DenS prog w (KK w) (n + 2) (nmOf w.params 145) slLaw none ((bodyOf w.params 145).drop 16) g_rest :=
  (s_cons (s_comp 28 (by kernel_rfl) (by kernel_rfl) (by kernel_rfl) (fun _ _ => rfl) (i_list (k_var 16 (by kernel_rfl))) q_nil (k_callB (by kernel_rfl) (by kernel_rfl) bb_sum (fun _ => rfl) (fun _ => rfl) ok_sum (l_cons (fun _ => rfl) (k_comp (by kernel_rfl) (fun _ _ => rfl) (i_range (by kernel_rfl) (by kernel_rfl) (fun _ => rfl) (k_callB (by kernel_rfl) (by kernel_rfl) bb_len (fun _ => rfl) (fun _ => rfl) ok_len (l_cons (fun _ => rfl) (k_var 16 (by kernel_rfl)) l_nil))) q_nil (k_bin (k_idx (fun _ _ => rfl) (k_var 17 (by kernel_rfl)) (k_var 0 (by kernel_rfl))) (k_idx (fun _ _ => rfl) (k_var 1 (by kernel_rfl)) (k_var 0 (by kernel_rfl))))) l_nil)))
  (s_cons (s_asgC 29 (by kernel_rfl) (by kernel_rfl) (k_comp (by kernel_rfl) (fun _ _ => rfl) (i_list (k_var 16 (by kernel_rfl))) q_nil (k_callD (by kernel_rfl) (by kernel_rfl) (by kernel_rfl) (fun _ => rfl) (fun _ => rfl) (ok_moved prog w _) (l_cons (fun _ => rfl) (k_var 0 (by kernel_rfl)) (l_cons (fun _ => rfl) (k_var 4 (by kernel_rfl)) l_nil)))))
  (s_cons (s_for 30 (by kernel_rfl) (fun _ _ => rfl) (i_range (by kernel_rfl) (by kernel_rfl) (fun _ => rfl) k_int) (s_cons (s_for 31 (by kernel_rfl) (fun _ _ => rfl) (i_range2 (by kernel_rfl) (by kernel_rfl) (fun _ => rfl) (fun _ => rfl) (fun _ => rfl) (k_var 30 (by kernel_rfl)) k_int) (s_cons (s_asg 32 (by kernel_rfl) (fun _ => rfl) (k_callB (by kernel_rfl) (by kernel_rfl) bb_sum (fun _ => rfl) (fun _ => rfl) ok_sum (l_cons (fun _ => rfl) (k_comp (by kernel_rfl) (fun _ _ => rfl) (i_range (by kernel_rfl) (by kernel_rfl) (fun _ => rfl) (k_callB (by kernel_rfl) (by kernel_rfl) bb_len (fun _ => rfl) (fun _ => rfl) ok_len (l_cons (fun _ => rfl) (k_var 15 (by kernel_rfl)) l_nil))) q_nil (k_bin (k_bin (k_idx (fun _ _ => rfl) (k_var 16 (by kernel_rfl)) (k_var 0 (by kernel_rfl))) (k_idx (fun _ _ => rfl) (k_idx (fun _ _ => rfl) (k_var 17 (by kernel_rfl)) (k_var 31 (by kernel_rfl))) (k_var 0 (by kernel_rfl)))) (k_idx (fun _ _ => rfl) (k_idx (fun _ _ => rfl) (k_var 17 (by kernel_rfl)) (k_var 32 (by kernel_rfl))) (k_var 0 (by kernel_rfl))))) l_nil)))
  (s_cons (s_asg 33 (by kernel_rfl) (fun _ => rfl) (k_bin (k_bin (k_callB (by kernel_rfl) (by kernel_rfl) bb_sum (fun _ => rfl) (fun _ => rfl) ok_sum (l_cons (fun _ => rfl) (k_var 15 (by kernel_rfl)) l_nil)) (k_var 32 (by kernel_rfl))) (k_bin (k_idx (fun _ _ => rfl) (k_var 28 (by kernel_rfl)) (k_var 30 (by kernel_rfl))) (k_idx (fun _ _ => rfl) (k_var 28 (by kernel_rfl)) (k_var 31 (by kernel_rfl))))))
  (s_cons (s_asg 34 (by kernel_rfl) (fun _ => rfl) (k_cmp rfl (k_comp (by kernel_rfl) (fun _ _ => rfl) (i_list (k_idx (fun _ _ => rfl) (k_var 29 (by kernel_rfl)) (k_var 30 (by kernel_rfl)))) (q_one (t_cmp rfl (k_var 0 (by kernel_rfl)) (k_idx (fun _ _ => rfl) (k_var 30 (by kernel_rfl)) (k_var 32 (by kernel_rfl))))) (k_var 0 (by kernel_rfl))) (k_list l_nil)))
  (s_cons (s_if (t_or (t_cmp rfl (k_var 33 (by kernel_rfl)) k_int) (t_cmp rfl (k_var 34 (by kernel_rfl)) (k_cmp rfl (k_var 33 (by kernel_rfl)) k_int))) (s_cons (s_ret k_bool)
  s_nil) s_nil)
  s_nil)))) s_nil)
  s_nil) s_nil)
  (s_cons (s_ret k_bool)
  s_nil))))
noncomputable def g_turn (a0 : Addr) : List D → List (List D) → Option (Fl × List D × List (List D)) := (seqX (g_t0 a0) (seqX (g_t1 a0) (seqX (g_t2 a0) (seqX (g_t3 a0) (seqX (g_t4 a0) (seqX (g_t5 a0) (seqX (g_t6 a0) (seqX (g_t7 a0) (seqX (g_t8 a0) (seqX (g_t9 a0) (seqX (g_t10 a0) (seqX (g_t11 a0) (seqX (g_t12 a0) (seqX (g_t13 a0) (seqX (g_t14 a0) (seqX (g_t15 a0) (seqX (g_t16 a0) skipX)))))))))))))))))
noncomputable def g_loop (a0 : Addr) : List D → List (List D) → Option (Fl × List D × List (List D)) := (forX 17 (fun ρ _ => (rangeC (binC .Pow (iC 2) (var 3))) ρ) (g_turn a0))
theorem d_loop (prog : Program) (w : World) (n : Nat) (a0 : Addr) (ls : List Addr) (hnd : (a0 :: ls).Nodup) : DenX1 prog w (KK w) (n + 2) (nmOf w.params 145) slLaw (some 15) (a0 :: ls) (Zans a0 ls) ((bodyOf w.params 145)[15]?.getD default) (g_loop a0) :=
  (x_for (zans_ok a0 ls) 17 (nameAt_ok (by kernel_rfl)) (ix_lift (i_range (by kernel_rfl) (by kernel_rfl) (fun _ => rfl) (k_bin k_int (k_var 3 (by kernel_rfl))))) (x_cons (x_lift1 (zans_ok a0 ls) (s_asg 18 (by kernel_rfl) (fun _ => rfl) (k_join (fun _ => rfl) (fun _ => rfl) rfl k_str (k_comp (by kernel_rfl) (fun _ _ => rfl) (i_range (by kernel_rfl) (by kernel_rfl) (fun _ => rfl) (k_var 3 (by kernel_rfl))) q_nil (k_if (t_val (fun _ _ => rfl) (k_bin (k_bin (k_var 18 (by kernel_rfl)) (k_var 0 (by kernel_rfl))) k_int)) k_str k_str)))))
  (x_cons (x_lift1 (zans_ok a0 ls) (s_asg 19 (by kernel_rfl) (fun _ => rfl) (k_meth (by kernel_rfl) (by kernel_rfl) (by kernel_rfl) (by kernel_rfl) (fun _ => ⟨_, rfl⟩) (fun _ => rfl) (ok_ind prog w _) (k_callD (by kernel_rfl) (by kernel_rfl) (by kernel_rfl) (fun _ => rfl) (fun _ => rfl) (ok_ws prog w _) (l_cons (fun _ => rfl) (k_bin (k_var 18 (by kernel_rfl)) k_str) l_nil)) (k_var 2 (by kernel_rfl)))))
  (x_cons (x_lift1 (zans_ok a0 ls) (s_asg 20 (by kernel_rfl) (fun _ => rfl) (k_callD (by kernel_rfl) (by kernel_rfl) (by kernel_rfl) (fun _ => rfl) (fun _ => rfl) (ok_ell prog w _) (l_cons (fun _ => rfl) (k_var 9 (by kernel_rfl)) (l_cons (fun _ => rfl) (k_var 18 (by kernel_rfl)) l_nil)))))
  (x_cons (x_lift1 (zans_ok a0 ls) (s_asg 21 (by kernel_rfl) (fun _ => rfl) (k_callD (by kernel_rfl) (by kernel_rfl) (by kernel_rfl) (fun _ => rfl) (fun _ => rfl) (ok_ell prog w _) (l_cons (fun _ => rfl) (k_var 13 (by kernel_rfl)) (l_cons (fun _ => rfl) (k_callD (by kernel_rfl) (by kernel_rfl) (by kernel_rfl) (fun _ => rfl) (fun _ => rfl) (ok_flags prog w _) (l_cons (fun _ => rfl) (k_bin (k_var 17 (by kernel_rfl)) (k_var 12 (by kernel_rfl))) l_nil)) l_nil)))))
  (x_cons (x_lift1 (zans_ok a0 ls) (s_comp 22 (by kernel_rfl) (by kernel_rfl) (by kernel_rfl) (fun _ _ => rfl) (i_range (by kernel_rfl) (by kernel_rfl) (fun _ => rfl) (k_bin (k_var 3 (by kernel_rfl)) k_int)) q_nil (k_bin (k_idx (fun _ _ => rfl) (k_var 15 (by kernel_rfl)) (k_var 0 (by kernel_rfl))) (k_bin k_int (k_bin (k_bin (k_var 18 (by kernel_rfl)) (k_var 0 (by kernel_rfl))) k_int)))))
  (x_cons (x_lift1 (zans_ok a0 ls) (s_asg 23 (by kernel_rfl) (fun _ => rfl) (k_callD (by kernel_rfl) (by kernel_rfl) (by kernel_rfl) (fun _ => rfl) (fun _ => rfl) (ok_line prog w _) (l_cons (fun _ => rfl) (k_map1 (k_vint (by kernel_rfl) (by kernel_rfl) (by kernel_rfl) (by kernel_rfl) (k_var 22 (by kernel_rfl)) (fun _ => rfl) (by kernel_rfl))) l_nil))))
  (x_cons (x_lift1 (zans_ok a0 ls) (s_asg 24 (by kernel_rfl) (fun _ => rfl) (k_if (t_cmp rfl (k_var 4 (by kernel_rfl)) k_str) (k_bin (k_bin (k_bin k_int (k_var 3 (by kernel_rfl))) k_int) (k_var 17 (by kernel_rfl))) (k_var 17 (by kernel_rfl)))))
  (x_cons (x_lift1 (zans_ok a0 ls) (s_if (t_or (t_cmp rfl (k_var 19 (by kernel_rfl)) (k_callD (by kernel_rfl) (by kernel_rfl) (by kernel_rfl) (fun _ => rfl) (fun _ => rfl) (ok_col prog w _) (l_cons (fun _ => rfl) (k_var 17 (by kernel_rfl)) (l_cons (fun _ => rfl) (k_var 3 (by kernel_rfl)) (l_cons (fun _ => rfl) (k_var 2 (by kernel_rfl)) l_nil))))) (t_cmp rfl (k_var 23 (by kernel_rfl)) (k_callD (by kernel_rfl) (by kernel_rfl) (by kernel_rfl) (fun _ => rfl) (fun _ => rfl) (ok_wid prog w _) (l_cons (fun _ => rfl) (k_var 17 (by kernel_rfl)) (l_cons (fun _ => rfl) (k_var 14 (by kernel_rfl)) l_nil))))) (s_cons (s_ret k_bool)
  s_nil) s_nil))
  (x_cons (x_lift1 (zans_ok a0 ls) (s_if (t_cmp rfl (k_var 20 (by kernel_rfl)) (k_cmp rfl (k_comp (by kernel_rfl) (fun _ _ => rfl) (i_list (k_var 10 (by kernel_rfl))) (q_one (t_cmp rfl (k_bin (k_var 25 (by kernel_rfl)) (k_var 0 (by kernel_rfl))) (k_var 0 (by kernel_rfl)))) (k_var 0 (by kernel_rfl))) (k_list l_nil))) (s_cons (s_ret k_bool)
  s_nil) s_nil))
  (x_cons (x_lift1 (zans_ok a0 ls) (s_if (t_cmp rfl (k_var 21 (by kernel_rfl)) (k_cmp rfl (k_bin (k_var 17 (by kernel_rfl)) (k_var 11 (by kernel_rfl))) (k_var 11 (by kernel_rfl)))) (s_cons (s_ret k_bool)
  s_nil) s_nil))
  (x_cons (x_lift1 (zans_ok a0 ls) (s_asg 25 (by kernel_rfl) (fun _ => rfl) k_int))
  (x_cons (x_lift1 (zans_ok a0 ls) (s_for 26 (by kernel_rfl) (fun _ _ => rfl) (i_range (by kernel_rfl) (by kernel_rfl) (fun _ => rfl) (k_var 3 (by kernel_rfl))) (s_cons (s_asg 27 (by kernel_rfl) (fun _ => rfl) (k_if (t_val (fun _ _ => rfl) (k_bin (k_bin (k_var 17 (by kernel_rfl)) (k_var 26 (by kernel_rfl))) k_int)) (k_idx (fun _ _ => rfl) (k_var 1 (by kernel_rfl)) (k_bin k_int (k_var 26 (by kernel_rfl)))) (k_bin (k_idx (fun _ _ => rfl) (k_var 1 (by kernel_rfl)) (k_bin k_int (k_var 26 (by kernel_rfl)))) k_int)))
  (s_cons (s_asg 25 (by kernel_rfl) (fun _ => rfl) (k_bin (k_var 25 (by kernel_rfl)) (k_bin (k_bin (k_var 27 (by kernel_rfl)) k_int) k_int)))
  s_nil)) s_nil))
  (x_cons (x_lift1 (zans_ok a0 ls) (s_app (by kernel_rfl) (by kernel_rfl) (fun _ => rfl) rfl (k_var 25 (by kernel_rfl))))
  (x_cons (x_app (k := 0) 16 hnd (by kernel_rfl) (fun _ => rfl) rfl (fun _ => rfl) (k_var 19 (by kernel_rfl)))
  (x_cons (x_app (k := 1) 16 hnd (by kernel_rfl) (fun _ => rfl) rfl (fun _ => rfl) (k_if (t_val (fun _ _ => rfl) (k_var 20 (by kernel_rfl))) (k_if (t_cmp rfl (k_var 4 (by kernel_rfl)) k_str) (k_neg k_int) k_int) k_int))
  (x_cons (x_app (k := 2) 16 hnd (by kernel_rfl) (fun _ => rfl) rfl (fun _ => rfl) (k_if (t_val (fun _ _ => rfl) (k_var 21 (by kernel_rfl))) k_int k_int))
  (x_cons (x_app (k := 3) 16 hnd (by kernel_rfl) (fun _ => rfl) rfl (fun _ => rfl) (k_var 23 (by kernel_rfl)))
  x_nil))))))))))))))))) (fun _ _ => rfl))
noncomputable def g_law : FS := (seqS g_p0 (seqS g_p1 (seqS g_p2 (seqS g_p3 (seqS g_p4 (seqS g_p5 (seqS g_p6 (seqS g_p7 (seqS g_p8 (seqS g_p9 (seqS g_p10 (seqS g_p11 (seqS g_p12 (seqS g_p13 (ansS 16 g_loop g_rest)))))))))))))))
theorem d_law (prog : Program) (w : World) (n : Nat) : DenS prog w (KK w) (n + 2) (nmOf w.params 145) slLaw (some 15) (bodyOf w.params 145) g_law :=
  (s_cons (s_comp 1 (by kernel_rfl) (by kernel_rfl) (by kernel_rfl) (fun _ _ => rfl) (i_list (k_cutTo (k_var 0 (by kernel_rfl)) k_int)) q_nil (k_bin (k_var 0 (by kernel_rfl)) (k_bin k_int k_int)))
  (s_cons (s_asg 1 (by kernel_rfl) (fun _ => rfl) (k_bin (k_var 1 (by kernel_rfl)) (k_cutFrom (k_list (l_int (l_int (l_int (l_int (l_int (l_int (l_int (l_int (l_int (l_int (l_int (l_int l_nil))))))))))))) (k_callB (by kernel_rfl) (by kernel_rfl) bb_len (fun _ => rfl) (fun _ => rfl) ok_len (l_cons (fun _ => rfl) (k_var 1 (by kernel_rfl)) l_nil)))))
  (s_cons (s_asg 2 (by kernel_rfl) (fun _ => rfl) (k_bin (k_bin (k_idx (fun _ _ => rfl) (k_var 1 (by kernel_rfl)) k_int) k_int) k_int))
  (s_cons (s_asg 3 (by kernel_rfl) (fun _ => rfl) (k_bin k_int (k_bin (k_idx (fun _ _ => rfl) (k_var 1 (by kernel_rfl)) k_int) k_int)))
  (s_cons (s_asg 4 (by kernel_rfl) (fun _ => rfl) (k_if (t_cmp rfl (k_bin (k_idx (fun _ _ => rfl) (k_var 1 (by kernel_rfl)) k_int) k_int) k_int) k_str k_str))
  (s_cons (s_tup2 5 6 (by kernel_rfl) (by kernel_rfl) (by kernel_rfl) rfl rfl rfl (fun _ => rfl) (fun _ => rfl) (k_bin (k_bin (k_idx (fun _ _ => rfl) (k_var 1 (by kernel_rfl)) k_int) k_int) k_int) (k_bin (k_bin (k_idx (fun _ _ => rfl) (k_var 1 (by kernel_rfl)) k_int) k_int) k_int))
  (s_cons (s_tup2 7 8 (by kernel_rfl) (by kernel_rfl) (by kernel_rfl) rfl rfl rfl (fun _ => rfl) (fun _ => rfl) (k_bin (k_bin (k_idx (fun _ _ => rfl) (k_var 1 (by kernel_rfl)) k_int) k_int) k_int) (k_bin (k_bin (k_idx (fun _ _ => rfl) (k_var 1 (by kernel_rfl)) k_int) k_int) k_int))
  (s_cons (s_asg 9 (by kernel_rfl) (fun _ => rfl) (k_bin (k_bin (k_bin (k_bin (k_bin k_str (k_var 7 (by kernel_rfl))) (k_bin (k_var 4 (by kernel_rfl)) (k_var 5 (by kernel_rfl)))) k_str) (k_bin (k_var 4 (by kernel_rfl)) (k_var 6 (by kernel_rfl)))) (k_bin k_str (k_var 8 (by kernel_rfl)))))
  (s_cons (s_asg 10 (by kernel_rfl) (fun _ => rfl) (k_callD (by kernel_rfl) (by kernel_rfl) (by kernel_rfl) (fun _ => rfl) (fun _ => rfl) (ok_spots prog w _) (l_cons (fun _ => rfl) (k_var 3 (by kernel_rfl)) (l_cons (fun _ => rfl) (k_var 5 (by kernel_rfl)) (l_cons (fun _ => rfl) (k_var 6 (by kernel_rfl)) (l_cons (fun _ => rfl) (k_var 7 (by kernel_rfl)) (l_cons (fun _ => rfl) (k_var 8 (by kernel_rfl)) l_nil)))))))
  (s_cons (s_asg 11 (by kernel_rfl) (fun _ => rfl) (k_bin (k_bin (k_bin (k_idx (fun _ _ => rfl) (k_var 1 (by kernel_rfl)) k_int) k_int) (k_bin (k_bin k_int (k_var 3 (by kernel_rfl))) k_int)) k_int))
  (s_cons (s_asg 12 (by kernel_rfl) (fun _ => rfl) (k_bin (k_bin (k_idx (fun _ _ => rfl) (k_var 1 (by kernel_rfl)) k_int) k_int) k_int))
  (s_cons (s_asg 13 (by kernel_rfl) (fun _ => rfl) (k_bin (k_bin k_str (k_repl (by kernel_rfl) (by kernel_rfl) (by kernel_rfl) (by kernel_rfl) rfl (ok_flags prog w _) (k_var 11 (by kernel_rfl)) (k_var 12 (by kernel_rfl)))) k_str))
  (s_cons (s_asgC 14 (by kernel_rfl) (by kernel_rfl) (k_comp (by kernel_rfl) (fun _ _ => rfl) (i_list (k_cut (k_var 1 (by kernel_rfl)) k_int k_int)) q_nil (k_bin (k_var 0 (by kernel_rfl)) k_int)))
  (s_cons (s_new (by kernel_rfl) (fun _ => rfl) n_nil)
  (s_ans 16 (by kernel_rfl) (fun _ => rfl) (fun a0 ls hnd => d_loop prog w n a0 ls hnd) (d_rest prog w n))))))))))))))))
noncomputable def F_law : List D → Option D := resD g_law 1 34
theorem ok_law (prog : Program) (w : World) (n : Nat) : CallOk prog w (KK w) (n + 3) (.ref 145) F_law :=
  call_of (K := KK w) (f := 145) (fd := fnD w.params 145) (body := bodyOf w.params 145) (xs := ["script"]) (rest := [some (Str.ofString "row"), some (Str.ofString "size"), some (Str.ofString "places"), some (Str.ofString "sign"), some (Str.ofString "first"), some (Str.ofString "second"), some (Str.ofString "front"), some (Str.ofString "back"), some (Str.ofString "wish"), some (Str.ofString "spots"), some (Str.ofString "wanted"), some (Str.ofString "shift"), some (Str.ofString "asked"), some (Str.ofString "figures"), some (Str.ofString "weights"), some (Str.ofString "answers"), some (Str.ofString "number"), some (Str.ofString "lead"), some (Str.ofString "column"), some (Str.ofString "fits"), some (Str.ofString "holds"), some (Str.ofString "octets"), some (Str.ofString "width"), some (Str.ofString "seen"), some (Str.ofString "weight"), some (Str.ofString "place"), some (Str.ofString "odds"), some (Str.ofString "sums"), some (Str.ofString "moved"), some (Str.ofString "i"), some (Str.ofString "j"), some (Str.ofString "both"), some (Str.ofString "gain"), some (Str.ofString "shared")]) (own := (some 15)) (defOk_of ⟨_, _, _, rfl⟩ rfl (by kernel_rfl)
    (ar1 fun v0 => (by kernel_rfl)) (by kernel_rfl)) (fun _ q => by cases q; decide) (d_law prog w n)

end
end Mine
end
section
open PySem PySem.W PyProof.Rows PySem.Calls
set_option Elab.async false
set_option maxRecDepth 100000
namespace Mine
theorem hasAll_ints {P : Addr → Prop} {h : Heap} : ∀ {vs : List Value} {ns : List Int}, IntsAre vs ns → HasAll P h (ns.map D.int) vs
  | _, _, .nil => rfl
  | _, _, .cons k t r => ⟨_, _, rfl, ⟨t, rfl⟩, hasAll_ints r⟩
set_option maxHeartbeats 4000000 in
theorem fin_of (hF : ∀ ns : List Int, ns.length ≤ 63 → F_law [.flist (ns.map D.int)] = some (.bool true)) : PySem.Challenge.rw_re0121_01.Holds := by
  refine hd ?_
  intro w s₀ s₁ mg mb G Y fa o pm cd doc dV kV ho hdd hcd hD hmg hg args vals as hpre hlay hrd hwl hlo
  have KX := kIn_of Y
  refine Ground.open G ?_
  intro T B D TE TW
  have TR := topRead_of T
  have hfa : Value.ref fa = Value.ref 145 := by
    have h1 := mg_of KX T.g (n := Str.ofString "law") (v := .ref 145) (by kernel_rfl)
    exact Option.some.inj (hmg.symm.trans h1)
  cases hfa
  clear G Y ho hdd hcd hD hmg B D TE TW
  wrow_args hpre hlay hrd hwl hlo
  rename_i ns _ _ _ _ _ _ _ l vs _ hL _ _ _ hI _ hlen _
  refine ok_law _ w 0 callerA s₁ (fun _ => True) [.flist (ns.map D.int)] [.ref l] (.bool true) _ _ ?_ ⟨KX, _, _, _, _, TR⟩ (fun _ _ => trivial) ⟨_, _, rfl, ⟨l, vs, rfl, trivial, hL, hasAll_ints hI⟩, rfl⟩ (hF ns (by omega)) fun v h' tk e hv => ?_
  · exact ⟨rfl, by decide, by decide⟩
  · have hv' : v = .bool true := hv
    subst hv'
    refine GoodW.toG ⟨.inl ⟨.bool true, .bool true, [], rfl, fun cls => ?_, .bool true, ?_, fun _ => ⟨.nil, fun a ha => by cases ha⟩⟩, e, rfl, hg⟩
    · first | rfl | (cases cls <;> rfl) | kernel_rfl
    · first | rfl | kernel_rfl
end Mine
end
section
open PySem PySem.W PyProof.Rows PySem.Calls
set_option Elab.async false
set_option maxRecDepth 100000
namespace Mine
noncomputable section
/-! comprehensions, plainly -/
theorem compD_map {ft : FB} {fe : FD} {ρ : List D} {α : Type} (mk : α → D) (h : α → D) : ∀ (xs : List α), (∀ x ∈ xs, ft (mk x :: ρ) = some true ∧ fe (mk x :: ρ) = some (h x)) → compD ft fe ρ (xs.map mk) = some (xs.map h)
  | [], _ => rfl
  | x :: xs, H => by
    have h1 := H x (.head _)
    have ih := compD_map mk h xs fun y hy => H y (.tail _ hy)
    simp only [List.map_cons, compD, h1.1, h1.2, Option.bind_some, if_true, ih, Option.map_some]
/-- the row -/
noncomputable def rowOf (ns : List Int) : List Int := (ns.take 12).map (fun x => x.fmod 1000000) ++ ([2, 2, 62, 5, 20, 0, 33, 7, 7, 0, 13, 9] : List Int).drop (ns.take 12).length
theorem rowOf_len (ns : List Int) : (rowOf ns).length = 12 := by
  unfold rowOf
  rw [List.length_append, List.length_map, List.length_drop]
  exact Nat.add_sub_cancel' (by rw [List.length_take]; exact Nat.min_le_left _ _)
theorem rowOf_bound (ns : List Int) : ∀ x ∈ rowOf ns, 0 ≤ x ∧ x < 1000000 := by
  intro x hx
  unfold rowOf at hx
  rcases List.mem_append.mp hx with h | h
  · obtain ⟨y, _, rfl⟩ := List.mem_map.mp h
    exact ⟨Int.fmod_nonneg_of_pos _ (by decide), Int.fmod_lt_of_pos _ (by decide)⟩
  · have ha : (([2, 2, 62, 5, 20, 0, 33, 7, 7, 0, 13, 9] : List Int).all fun x => decide (0 ≤ x ∧ x < 1000000)) = true := by decide
    exact of_decide_eq_true (List.all_eq_true.mp ha x (List.mem_of_mem_drop h))
theorem seqS_next {g1 g2 : FS} {ρ ρ1 : List D} (h : g1 ρ = some (.next, ρ1)) : seqS g1 g2 ρ = g2 ρ1 := by unfold seqS; rw [h]; rfl
theorem p0_eq (ns : List Int) (h : ns.length ≤ 63) : g_p0 (.flist (ns.map D.int) :: List.replicate 34 .undef) = some (.next, .flist (ns.map D.int) :: .list ((ns.take 12).map fun x => D.int (x.fmod 1000000)) :: List.replicate 33 .undef) := by
  have e1 : iterC (cutToC (var 0) (iC 12)) (.flist (ns.map D.int) :: List.replicate 34 .undef) = some ((ns.take 12).map D.int) := by
    show (if (ns.map D.int).length ≤ 100000 then some (D.list ((ns.map D.int).take 12)) else none).bind listD = _
    rw [if_pos (by simp; omega), List.map_take]
    rfl
  have e2 : compD trueT (binC .Mod (var 0) (binC .Pow (iC 10) (iC 6))) (.flist (ns.map D.int) :: List.replicate 34 .undef) ((ns.take 12).map D.int) = some ((ns.take 12).map fun x => D.int (x.fmod 1000000)) :=
    compD_map D.int _ _ fun x _ => ⟨rfl, rfl⟩
  unfold g_p0 compS
  rw [e1]
  simp only [Option.bind_some]
  rw [if_pos (by simp; omega), e2]
  rfl
theorem p1_eq (ns : List Int) : g_p1 (.flist (ns.map D.int) :: .list ((ns.take 12).map fun x => D.int (x.fmod 1000000)) :: List.replicate 33 .undef) = some (.next, .flist (ns.map D.int) :: .list ((rowOf ns).map D.int) :: List.replicate 33 .undef) := by
  have hl : ((ns.take 12).map fun x => D.int (x.fmod 1000000)).length = (ns.take 12).length := by simp
  have e1 : callC lenD (consA (var 1) nilA) (.flist (ns.map D.int) :: .list ((ns.take 12).map fun x => D.int (x.fmod 1000000)) :: List.replicate 33 .undef) = some (.int ((ns.take 12).length : Nat)) := by
    show (if ((ns.take 12).map fun x => D.int (x.fmod 1000000)).length ≤ 100000 then some (D.int (((ns.take 12).map fun x => D.int (x.fmod 1000000)).length : Nat)) else none) = _
    rw [hl, if_pos (by simp; omega)]
  have e2 : ∀ k : Nat, natD (.int (k : Nat)) = some k := fun k => (if_pos (e := (none : Option Nat)) (Int.natCast_nonneg k)).trans (congrArg some (Int.toNat_natCast k))
  have e3 : cutFromC (listC (consA (iC 2) (consA (iC 2) (consA (iC 62) (consA (iC 5) (consA (iC 20) (consA (iC 0) (consA (iC 33) (consA (iC 7) (consA (iC 7) (consA (iC 0) (consA (iC 13) (consA (iC 9) nilA))))))))))))) (callC lenD (consA (var 1) nilA))
      (.flist (ns.map D.int) :: .list ((ns.take 12).map fun x => D.int (x.fmod 1000000)) :: List.replicate 33 .undef) = some (.list ((([2, 2, 62, 5, 20, 0, 33, 7, 7, 0, 13, 9] : List Int).drop (ns.take 12).length).map D.int)) := by
    unfold cutFromC
    rw [e1]
    show ((natD (.int ((ns.take 12).length : Nat))).bind fun k => some (D.list (([2, 2, 62, 5, 20, 0, 33, 7, 7, 0, 13, 9] : List Int).map D.int |>.drop k))) = _
    rw [e2, Option.bind_some, List.map_drop]
  have e4 : (rowOf ns).map D.int = ((ns.take 12).map fun x => D.int (x.fmod 1000000)) ++ ((([2, 2, 62, 5, 20, 0, 33, 7, 7, 0, 13, 9] : List Int).drop (ns.take 12).length).map D.int) := by
    unfold rowOf
    rw [List.map_append, List.map_map]
    rfl
  have hll := rowOf_len ns
  have hl2 : (((ns.take 12).map fun x => D.int (x.fmod 1000000)) ++ ((([2, 2, 62, 5, 20, 0, 33, 7, 7, 0, 13, 9] : List Int).drop (ns.take 12).length).map D.int)).length = 12 := by rw [← e4]; simpa using hll
  unfold g_p1 asgS binC
  rw [e3]
  show ((if ((ns.take 12).map fun x => D.int (x.fmod 1000000)).length + ((([2, 2, 62, 5, 20, 0, 33, 7, 7, 0, 13, 9] : List Int).drop (ns.take 12).length).map D.int).length ≤ 100000 then _ else none : Option D)).bind _ = _
  rw [if_pos (by rw [← List.length_append, hl2]; decide), ← e4]
  rfl
end
end Mine
end
section
open PySem PySem.W PyProof.Rows PySem.Calls
set_option Elab.async false
set_option maxRecDepth 100000
namespace Mine
noncomputable section
noncomputable def signOf (b : Bool) : Str := if b then Str.ofString " " else Str.ofString "\t"
end
end Mine
end
section
open PySem PySem.W PyProof.Rows PySem.Calls
set_option Elab.async false
set_option maxRecDepth 100000
namespace Mine
noncomputable section
/-! a quicker search -/
noncomputable def fndR (sub : List Nat) : List Nat → Option (List Nat)
  | [] => if sub = [] then some [] else none
  | c :: t => if sub.isPrefixOf (c :: t) then some ((c :: t).drop sub.length) else fndR sub t
theorem occ_full (s sub : Str) (hi : Nat) : ∀ (l : List Nat) (st : Array Nat × Nat), 1 ≤ st.fst.size → (forIn l st (StrLaws.occBody s sub hi 1)).run.fst = st.fst
  | [], st, h => rfl
  | a :: l, st, h => by
    rw [List.forIn_cons]
    unfold StrLaws.occBody
    rw [if_neg fun q => Nat.not_lt.mpr h q.1.1.1]
    exact occ_full s sub hi l (st.fst, st.snd) h
theorem sub_iff (s sub : Str) (i : Nat) (hi : i ≤ s.length) : (i + sub.length ≤ s.length ∧ Builtin.Str.subAt s sub i = true) ↔ sub.cps.toList.isPrefixOf (s.cps.toList.drop i) = true := by
  rw [StrLaws.subAt_eq, List.isPrefixOf_iff_prefix, beq_iff_eq]
  have hl : sub.length = sub.cps.toList.length := by simp [Str.length]
  have hs : s.length = s.cps.toList.length := by simp [Str.length]
  constructor
  · rintro ⟨h1, h2⟩
    exact List.prefix_iff_eq_take.mpr (by rw [← hl, h2])
  · intro h
    refine ⟨?_, ?_⟩
    · have := h.length_le
      rw [List.length_drop] at this
      omega
    · rw [hl]; exact (List.prefix_iff_eq_take.mp h).symm
theorem occ_one (s sub : Str) : ∀ (m lo free : Nat), lo + m = s.length + 1 → 1 ≤ m → free ≤ lo →
    match fndR sub.cps.toList (s.cps.toList.drop lo) with
    | some r => ∃ k : Nat, (forIn (List.range' lo m) ((#[] : Array Nat), free) (StrLaws.occBody s sub s.length 1)).run.fst = #[k] ∧ k + sub.length ≤ s.length ∧ s.cps.toList.drop (k + sub.length) = r
    | none => (forIn (List.range' lo m) ((#[] : Array Nat), free) (StrLaws.occBody s sub s.length 1)).run.fst = #[]
  | 0, _, _, _, h, _ => absurd h (by decide)
  | m + 1, lo, free, hm, _, hf => by
    have hs : s.length = s.cps.toList.length := by simp [Str.length]
    have hl : sub.length = sub.cps.toList.length := by simp [Str.length]
    have hm' : lo + m = s.length := Nat.succ.inj hm
    have key := sub_iff s sub lo (Nat.le.intro hm')
    rw [List.range'_succ, List.forIn_cons]
    unfold StrLaws.occBody
    by_cases hc : lo + sub.length ≤ s.length ∧ Builtin.Str.subAt s sub lo = true
    · have hp := key.mp hc
      have c1 : (((#[] : Array Nat), free).fst.size < 1 ∧ ((#[] : Array Nat), free).snd ≤ lo) ∧ lo + sub.length ≤ s.length := ⟨⟨Nat.zero_lt_one, hf⟩, hc.1⟩
      rw [if_pos ⟨c1, hc.2⟩]
      have hr : fndR sub.cps.toList (s.cps.toList.drop lo) = some ((s.cps.toList.drop lo).drop sub.length) := by
        cases hd : s.cps.toList.drop lo with
        | nil =>
          rw [hd] at hp
          have : sub.cps.toList = [] := by simpa using hp
          simp [fndR, this]
        | cons c t =>
          rw [hd] at hp
          rw [fndR, if_pos hp, hl]
      rw [hr]
      refine ⟨lo, ?_, hc.1, by rw [List.drop_drop]⟩
      exact occ_full s sub s.length _ _ (Nat.le_refl 1)
    · have hp : ¬ sub.cps.toList.isPrefixOf (s.cps.toList.drop lo) = true := fun h => hc (key.mpr h)
      rw [if_neg (fun h => hc ⟨h.1.2, h.2⟩)]
      by_cases hlast : m = 0
      · subst hlast
        have hd : s.cps.toList.drop lo = [] := List.drop_eq_nil_of_le (Nat.le_of_eq (hs.symm.trans hm'.symm))
        rw [hd] at hp ⊢
        have : sub.cps.toList ≠ [] := fun h => hp (by rw [h]; rfl)
        simp [fndR, this]
      · have ih := occ_one s sub m (lo + 1) free ((Nat.add_right_comm lo 1 m).trans (congrArg (· + 1) hm')) (Nat.one_le_iff_ne_zero.mpr hlast) (Nat.le_succ_of_le hf)
        have hlt : lo < s.cps.toList.length := by rw [← hs, ← hm']; exact Nat.lt_add_of_pos_right (Nat.pos_of_ne_zero hlast)
        have hd : s.cps.toList.drop lo = s.cps.toList[lo] :: s.cps.toList.drop (lo + 1) := List.drop_eq_getElem_cons hlt
        have hr : fndR sub.cps.toList (s.cps.toList.drop lo) = fndR sub.cps.toList (s.cps.toList.drop (lo + 1)) := by
          rw [hd, fndR, if_neg (by rw [← hd]; exact hp)]
        rw [hr]
        exact ih
theorem from_nat (n i : Nat) : fromIndex n (i : Int) = i := by
  show (max (0 : Int) (if (i : Int) < 0 then (i : Int) + n else (i : Int))).toNat = i
  rw [if_neg (Int.not_lt.mpr (Int.natCast_nonneg i)), Int.max_eq_right (Int.natCast_nonneg i), Int.toNat_natCast]
theorem find4_fast (x y : Str) (i : Nat) (hi : i ≤ x.length) :
    match fndR y.cps.toList (x.cps.toList.drop i) with
    | some r => ∃ p : Nat, find4 x y i x.length = p ∧ p + y.length ≤ x.length ∧ x.cps.toList.drop (p + y.length) = r
    | none => find4 x y i x.length = -1 := by
  have e : find4 x y i x.length = match Builtin.Str.occurrences x y i x.length 1 with | k :: _ => (k : Int) | [] => -1 := by
    unfold find4
    have h1 : fromIndex x.length (i : Int) = i := from_nat _ _
    have h2 : min (fromIndex x.length (x.length : Int)) x.length = x.length := by rw [from_nat]; exact Nat.min_self _
    (rw [h1, h2]) <;> rfl
  have h := occ_one x y (x.length + 1 - i) i i (Nat.add_sub_cancel' (Nat.le_succ_of_le hi)) (Nat.sub_pos_of_lt (Nat.lt_succ_of_le hi)) (Nat.le_refl i)
  rw [e, StrLaws.occ_eq]
  split at h
  · rename_i r hr
    refine byC fun G0 => ?_
    obtain ⟨k, h1, h2, h3⟩ := h
    refine G0 ?_
    clear G0
    refine ⟨k, ?_, h2, h3⟩
    rw [h1]
  · rename_i hr
    rw [h]
noncomputable def ellF : List (List Nat) → List Nat → Bool
  | [], _ => true
  | w :: ws, l => match fndR w l with
    | none => false
    | some r => ellF ws r
noncomputable def g_ellb : FS := (seqS (asgS 3 (findC (var 1) (var 5) (var 3) (var 4)))
  (seqS (ifS (cmpT .Lt (var 3) (iC 0)) (seqS (retS (bC false))
  skipS) skipS)
  (seqS (augS 3 .Add (callC lenD (consA (var 5) nilA)))
  skipS)))
theorem seqS_ret {g1 g2 : FS} {ρ ρ1 : List D} {d : D} (h : g1 ρ = some (.ret d, ρ1)) : seqS g1 g2 ρ = some (.ret d, ρ1) := by unfold seqS; rw [h]; rfl
theorem ellb_run (a c : D) (x : Str) (hx : x.length ≤ 100000) : ∀ (ws : List Str), (∀ w ∈ ws, w.length ≤ 100000) → ∀ (i : Nat) (j : D), i ≤ x.length →
    (ellF (ws.map fun w => w.cps.toList) (x.cps.toList.drop i) = true → ∃ i' j', forD 5 g_ellb skipS (ws.map D.str) [a, .str x, c, .int i, .int x.length, j] = some (.next, [a, .str x, c, .int (i' : Int), .int x.length, j'])) ∧
    (ellF (ws.map fun w => w.cps.toList) (x.cps.toList.drop i) = false → ∃ ρ', forD 5 g_ellb skipS (ws.map D.str) [a, .str x, c, .int i, .int x.length, j] = some (.ret (.bool false), ρ'))
  | [], _, i, j, hi => ⟨fun _ => ⟨_, _, rfl⟩, fun h => by cases h⟩
  | w :: ws, hw, i, j, hi => by
    have hf := find4_fast x w i hi
    have hwl := hw w (.head _)
    rw [List.map_cons, List.map_cons, forD, if_pos (by simp), ellF]
    split at hf
    · rename_i r hr
      refine byC fun G1 => ?_
      obtain ⟨p, h1, h2, h3⟩ := hf
      refine G1 ?_
      clear G1
      have hb : g_ellb [a, .str x, c, .int i, .int x.length, .str w] = some (.next, [a, .str x, c, .int ((p + w.length : Nat) : Int), .int x.length, .str w]) := by
        have e1 : asgS 3 (findC (var 1) (var 5) (var 3) (var 4)) [a, .str x, c, .int i, .int x.length, .str w] = some (.next, [a, .str x, c, .int p, .int x.length, .str w]) := by
          show some (Fl.next, [a, .str x, c, D.int (find4 x w i x.length), .int x.length, .str w]) = _
          rw [h1]
        have e2 : ifS (cmpT .Lt (var 3) (iC 0)) (seqS (retS (bC false)) skipS) skipS [a, .str x, c, .int p, .int x.length, .str w] = some (.next, [a, .str x, c, .int p, .int x.length, .str w]) := by
          show (if decide ((p : Int) < 0) then some (Fl.ret (.bool false), [a, .str x, c, .int p, .int x.length, .str w]) else some (Fl.next, [a, .str x, c, .int p, .int x.length, .str w])) = _
          rw [if_neg (by simp)]
        have e3 : augS 3 .Add (callC lenD (consA (var 5) nilA)) [a, .str x, c, .int p, .int x.length, .str w] = some (.next, [a, .str x, c, .int ((p + w.length : Nat) : Int), .int x.length, .str w]) := by
          show ((if w.length ≤ 100000 then some (D.int w.length) else none).bind fun b => (augD .Add (.int p) b).bind fun d => setS 3 [a, .str x, c, .int p, .int x.length, .str w] d) = _
          rw [if_pos hwl]
          show some (Fl.next, [a, .str x, c, .int ((p : Int) + (w.length : Int)), .int x.length, .str w]) = _
          rw [Int.natCast_add]
        unfold g_ellb
        rw [seqS_next e1, seqS_next e2, seqS_next e3]
        rfl
      rw [show ([a, .str x, c, .int i, .int x.length, j] : List D).set 5 (.str w) = [a, .str x, c, .int i, .int x.length, .str w] from rfl, hb, hr]
      have ih := ellb_run a c x hx ws (fun v hv => hw v (.tail _ hv)) (p + w.length) (.str w) h2
      rw [h3] at ih
      exact ih
    · rename_i hr
      have hb : g_ellb [a, .str x, c, .int i, .int x.length, .str w] = some (.ret (.bool false), [a, .str x, c, .int (-1), .int x.length, .str w]) := by
        have e1 : asgS 3 (findC (var 1) (var 5) (var 3) (var 4)) [a, .str x, c, .int i, .int x.length, .str w] = some (.next, [a, .str x, c, .int (-1), .int x.length, .str w]) := by
          show some (Fl.next, [a, .str x, c, D.int (find4 x w i x.length), .int x.length, .str w]) = _
          rw [hf]
        unfold g_ellb
        rw [seqS_next e1]
        rfl
      rw [show ([a, .str x, c, .int i, .int x.length, j] : List D).set 5 (.str w) = [a, .str x, c, .int i, .int x.length, .str w] from rfl, hb, hr]
      exact And.intro (fun h => by cases h) (fun _ => ⟨_, rfl⟩)
theorem resD_ret {g : FS} {k r : Nat} {ds : List D} {d : D} {ρ : List D} (hk : ds.length = k) (h : g (ds ++ List.replicate r .undef) = some (.ret d, ρ)) : resD g k r ds = some d := by
  unfold resD
  rw [if_pos hk, h]
theorem ell_ask {want got e : Str} {ws : List Str} (he : e.length = 0) (h0 : Txt.contains want (Str.ofString "...") = true) (h1 : splitL want (Str.ofString "...") = some (ws.map D.str)) (h2 : 2 ≤ ws.length ∧ ws.length ≤ 100000)
    (h3 : idxD (.list (ws.map D.str)) (.int 0) = some (.str e)) (h4 : idxD (.list (ws.map D.str)) (.int (-1)) = some (.str e)) (hw : ∀ w ∈ ws, w.length ≤ 100000) (hg : got.length ≤ 100000) :
    F_ell [.str want, .str got] = some (.bool (ellF (ws.map fun w => w.cps.toList) got.cps.toList)) := by
  have e1 : ifS (cmpT .NotIn (sC (Str.ofString "...")) (var 0)) (seqS (retS (cmpC .Eq (var 0) (var 1))) skipS) skipS [.str want, .str got, .undef, .undef, .undef, .undef] = some (.next, [.str want, .str got, .undef, .undef, .undef, .undef]) := by
    show (some (!Txt.contains want (Str.ofString "..."))).bind _ = _
    rw [h0]
    rfl
  have e2 : newS 2 (splitC (var 0) (sC (Str.ofString "..."))) [.str want, .str got, .undef, .undef, .undef, .undef] = some (.next, [.str want, .str got, .list (ws.map D.str), .undef, .undef, .undef]) := by
    show (splitL want (Str.ofString "...")).bind _ = _
    rw [h1]
    rfl
  have e3 : asrtS (cmpT .GtE (callC lenD (consA (var 2) nilA)) (iC 2)) [.str want, .str got, .list (ws.map D.str), .undef, .undef, .undef] = some (.next, [.str want, .str got, .list (ws.map D.str), .undef, .undef, .undef]) := by
    show (((if (ws.map D.str).length ≤ 100000 then some (D.int (ws.map D.str).length) else none).bind fun a => cmpD .GtE a (.int 2))).bind _ = _
    rw [List.length_map, if_pos h2.2]
    show (if decide ((2 : Int) ≤ (ws.length : Int)) then _ else none) = _
    rw [if_pos (by rw [decide_eq_true_eq]; omega)]
  have e4 : tup2S 3 4 (iC 0) (callC lenD (consA (var 1) nilA)) [.str want, .str got, .list (ws.map D.str), .undef, .undef, .undef] = some (.next, [.str want, .str got, .list (ws.map D.str), .int 0, .int got.length, .undef]) := by
    show ((if got.length ≤ 100000 then some (D.int got.length) else none).bind fun y => _) = _
    rw [if_pos hg]
    rfl
  have e5 : asgF 5 (idxC (var 2) (iC 0)) [.str want, .str got, .list (ws.map D.str), .int 0, .int got.length, .undef] = some (.next, [.str want, .str got, .list (ws.map D.str), .int 0, .int got.length, .str e]) := by
    show (idxD (.list (ws.map D.str)) (.int 0)).bind _ = _
    rw [h3]
    rfl
  have ht : truthD (.str e) = some false := by
    show (if e.length ≤ 100000 then some ((e.length : Int) != 0) else none) = _
    rw [he]
    rfl
  have e6 : ∀ {g}, ifS (valT (var 5)) g skipS [.str want, .str got, .list (ws.map D.str), .int 0, .int got.length, .str e] = some (.next, [.str want, .str got, .list (ws.map D.str), .int 0, .int got.length, .str e]) := by
    intro g
    show (truthD (.str e)).bind _ = _
    rw [ht]
    rfl
  have e7 : asgF 5 (idxC (var 2) (negC (iC 1))) [.str want, .str got, .list (ws.map D.str), .int 0, .int got.length, .str e] = some (.next, [.str want, .str got, .list (ws.map D.str), .int 0, .int got.length, .str e]) := by
    show (idxD (.list (ws.map D.str)) (.int (-1))).bind _ = _
    rw [h4]
    rfl
  have e9 : ∀ {g}, ifS (cmpT .Gt (var 3) (var 4)) g skipS [.str want, .str got, .list (ws.map D.str), .int 0, .int got.length, .str e] = some (.next, [.str want, .str got, .list (ws.map D.str), .int 0, .int got.length, .str e]) := by
    intro g
    show (some (decide ((got.length : Int) < 0))).bind _ = _
    rw [show decide ((got.length : Int) < 0) = false from by simp]
    rfl
  have hb := ellb_run (.str want) (.list (ws.map D.str)) got hg ws hw 0 (.str e) (Nat.zero_le _)
  rw [List.drop_zero] at hb
  unfold F_ell
  cases hv : ellF (ws.map fun w => w.cps.toList) got.cps.toList with
  | true =>
    refine byC fun G2 => ?_
    obtain ⟨i', j', h⟩ := hb.1 hv
    refine G2 ?_
    clear G2
    have e10 : forS 5 (iterC (var 2)) g_ellb skipS [.str want, .str got, .list (ws.map D.str), .int 0, .int got.length, .str e] = some (.next, [.str want, .str got, .list (ws.map D.str), .int (i' : Int), .int got.length, j']) := h
    have e11 : frzS (seqS (forS 5 (iterC (var 2)) g_ellb skipS) (seqS (retS (bC true)) skipS)) [.str want, .str got, .list (ws.map D.str), .int 0, .int got.length, .str e] = some (.ret (.bool true), [.str want, .str got, .list (ws.map D.str), .int (i' : Int), .int got.length, j']) := by
      unfold frzS
      rw [seqS_next e10]
      rfl
    unfold g_ellb at e11
    refine resD_ret (ρ := _) rfl (Eq.trans ?_ e11)
    show g_ell [.str want, .str got, .undef, .undef, .undef, .undef] = _
    unfold g_ell
    rw [seqS_next e1, seqS_next e2, seqS_next e3, seqS_next e4, seqS_next e5, seqS_next e6, seqS_next e7, seqS_next e6, seqS_next e9]
  | false =>
    obtain ⟨ρ', h⟩ := hb.2 hv
    have e10 : forS 5 (iterC (var 2)) g_ellb skipS [.str want, .str got, .list (ws.map D.str), .int 0, .int got.length, .str e] = some (.ret (.bool false), ρ') := h
    have e11 : frzS (seqS (forS 5 (iterC (var 2)) g_ellb skipS) (seqS (retS (bC true)) skipS)) [.str want, .str got, .list (ws.map D.str), .int 0, .int got.length, .str e] = some (.ret (.bool false), ρ') := by
      unfold frzS
      rw [seqS_ret e10]
      rfl
    unfold g_ellb at e11
    refine resD_ret (ρ := _) rfl (Eq.trans ?_ e11)
    show g_ell [.str want, .str got, .undef, .undef, .undef, .undef] = _
    unfold g_ell
    rw [seqS_next e1, seqS_next e2, seqS_next e3, seqS_next e4, seqS_next e5, seqS_next e6, seqS_next e7, seqS_next e6, seqS_next e9]
end
end Mine
end
section
open PySem PySem.W PyProof.Rows PySem.Calls
set_option Elab.async false
set_option maxRecDepth 100000
namespace Mine
noncomputable section
noncomputable def boolD (d : Option D) : Option Bool := d.bind asB
noncomputable def strD (d : Option D) : Option Str := d.bind asS
theorem boolD_some {d : Option D} {b : Bool} (h : boolD d = some b) : d = some (.bool b) := by
  obtain ⟨e, he, hb⟩ := bb1 h
  rw [he, asB_some hb]
theorem strD_some {d : Option D} {b : Str} (h : strD d = some b) : d = some (.str b) := by
  obtain ⟨e, he, hb⟩ := bb1 h
  rw [he, asS_some hb]
/-! the texts of flags -/
noncomputable def nmL : List (List Nat) := [[79, 80, 84, 73, 77, 73, 90, 69, 68], [78, 69, 87, 76, 79, 67, 65, 76, 83], [86, 65, 82, 65, 82, 71, 83], [86, 65, 82, 75, 69, 89, 87, 79, 82, 68, 83], [78, 69, 83, 84, 69, 68], [71, 69, 78, 69, 82, 65, 84, 79, 82], [78, 79, 70, 82, 69, 69], [67, 79, 82, 79, 85, 84, 73, 78, 69]]
noncomputable def bitsOf (m : Nat) : List Nat := (List.range 8).filter fun i => m.testBit i
noncomputable def namesOf (m : Nat) : List (List Nat) := (bitsOf m).map fun i => nmL.getD i []
noncomputable def flL (m : Nat) : List Nat := if m = 0 then [48, 120, 48] else [44, 32].intercalate (namesOf m)
noncomputable def askL (m : Nat) : List (List Nat) := [] :: (namesOf m ++ [[]])
noncomputable def flText (m : Nat) : Str := ⟨(flL m).toArray⟩
noncomputable def askText (m : Nat) : Str := ⟨([46, 46, 46].intercalate (askL m)).toArray⟩
noncomputable def askStrs (m : Nat) : List Str := (askL m).map fun l => ⟨l.toArray⟩
noncomputable def mA : List Nat := [1, 2, 3, 4, 5, 6, 7, 8]
noncomputable def mB : List Nat := [9, 10, 11, 12, 13, 14, 15, 16]
noncomputable def mC : List Nat := [18, 20, 22, 24, 26, 28, 30, 32]
noncomputable def mD : List Nat := [36, 40, 44, 48, 52, 56, 60, 64]
noncomputable def mE : List Nat := [72, 80, 88, 96, 104, 112, 120, 128]
noncomputable def mF : List Nat := [144, 160, 176, 192, 208, 224, 240]
noncomputable def mList : List Nat := mA ++ (mB ++ (mC ++ (mD ++ (mE ++ (mF)))))
theorem m_all {p : Nat → Bool} (hA : mA.all p = true) (hB : mB.all p = true) (hC : mC.all p = true) (hD : mD.all p = true) (hE : mE.all p = true) (hF : mF.all p = true) : mList.all p = true := by
  unfold mList
  simp only [List.all_append, hA, hB, hC, hD, hE, hF, Bool.and_self]
theorem tab_mem : ((List.range 15).all fun w => (List.range 5).all fun s => mList.contains ((w + 1) * 2 ^ s)) = true := by decide +kernel
theorem tab_fl0 : strD (F_flags [.int (0 : Int)]) = some (flText 0) := by decide +kernel
theorem tab_flA : (mA.all fun m => decide (strD (F_flags [.int (m : Int)]) = some (flText m))) = true := by decide +kernel
theorem tab_flB : (mB.all fun m => decide (strD (F_flags [.int (m : Int)]) = some (flText m))) = true := by decide +kernel
theorem tab_flC : (mC.all fun m => decide (strD (F_flags [.int (m : Int)]) = some (flText m))) = true := by decide +kernel
theorem tab_flD : (mD.all fun m => decide (strD (F_flags [.int (m : Int)]) = some (flText m))) = true := by decide +kernel
theorem tab_flE : (mE.all fun m => decide (strD (F_flags [.int (m : Int)]) = some (flText m))) = true := by decide +kernel
theorem tab_flF : (mF.all fun m => decide (strD (F_flags [.int (m : Int)]) = some (flText m))) = true := by decide +kernel
theorem tab_fl : (mList.all fun m => decide (strD (F_flags [.int (m : Int)]) = some (flText m))) = true := m_all tab_flA tab_flB tab_flC tab_flD tab_flE tab_flF
noncomputable def askOk (m : Nat) : Bool := Txt.contains (askText m) (Str.ofString "...") && (decide ((askText m).length ≤ 100000 ∧ (Str.ofString "...").length ≠ 0 ∧ (Builtin.Str.partsBetween (askText m) (Builtin.Str.occurrences (askText m) (Str.ofString "...") 0 (askText m).length ((askText m).length + 1)) (Str.ofString "...").length).length ≤ 100000) && decide (Txt.split (askText m) (Str.ofString "...") = askStrs m))
theorem tab_askA : (mA.all askOk) = true := by decide +kernel
theorem tab_askB : (mB.all askOk) = true := by decide +kernel
theorem tab_askC : (mC.all askOk) = true := by decide +kernel
theorem tab_askD : (mD.all askOk) = true := by decide +kernel
theorem tab_askE : (mE.all askOk) = true := by decide +kernel
theorem tab_askF : (mF.all askOk) = true := by decide +kernel
theorem tab_ask : (mList.all askOk) = true := m_all tab_askA tab_askB tab_askC tab_askD tab_askE tab_askF
noncomputable def askFrom (d : D) : Option D := (((F_flags [d]).bind fun r => (asS r).bind fun x => if x.length + (x.length + 1) * (Str.ofString "...").length ≤ 16777216 then some (D.str (Txt.replace x (Str.ofString ", ") (Str.ofString "..."))) else none).bind fun b => binD .Add (.str (Str.ofString "...")) b).bind fun a => binD .Add a (.str (Str.ofString "..."))
theorem tab_madeA : (mA.all fun m => decide (strD (askFrom (.int (m : Int))) = some (askText m))) = true := by decide +kernel
theorem tab_madeB : (mB.all fun m => decide (strD (askFrom (.int (m : Int))) = some (askText m))) = true := by decide +kernel
theorem tab_madeC : (mC.all fun m => decide (strD (askFrom (.int (m : Int))) = some (askText m))) = true := by decide +kernel
theorem tab_madeD : (mD.all fun m => decide (strD (askFrom (.int (m : Int))) = some (askText m))) = true := by decide +kernel
theorem tab_madeE : (mE.all fun m => decide (strD (askFrom (.int (m : Int))) = some (askText m))) = true := by decide +kernel
theorem tab_madeF : (mF.all fun m => decide (strD (askFrom (.int (m : Int))) = some (askText m))) = true := by decide +kernel
theorem tab_made : (mList.all fun m => decide (strD (askFrom (.int (m : Int))) = some (askText m))) = true := m_all tab_madeA tab_madeB tab_madeC tab_madeD tab_madeE tab_madeF
theorem tab_holds : ((List.range 5).all fun s => (List.range 16).all fun n => (List.range 15).all fun w => ellF (askL ((w + 1) * 2 ^ s)) (flL (n * 2 ^ s)) == (n &&& (w + 1) == w + 1)) = true := by decide +kernel
theorem tab_len : ((List.range 5).all fun s => (List.range 16).all fun n => decide ((flText (n * 2 ^ s)).length ≤ 100000)) = true := by decide +kernel
end
end Mine
end
section
open PySem PySem.W PyProof.Rows PySem.Calls
set_option Elab.async false
set_option maxRecDepth 100000
namespace Mine
noncomputable section
theorem all_get {α : Type} {l : List α} {p : α → Bool} (h : l.all p = true) {x : α} (hx : x ∈ l) : p x = true := List.all_eq_true.mp h x hx
theorem m_mem {w s : Nat} (hw : 1 ≤ w ∧ w ≤ 15) (hs : s < 5) : w * 2 ^ s ∈ mList := by
  have h := all_get (all_get tab_mem (List.mem_range.mpr (show w - 1 < 15 from Nat.lt_of_lt_of_le (Nat.sub_lt hw.1 Nat.zero_lt_one) hw.2))) (List.mem_range.mpr hs)
  rw [Nat.sub_add_cancel hw.1] at h
  simpa using h
theorem flags_eq {n s : Nat} (hn : n < 16) (hs : s < 5) : F_flags [.int ((n * 2 ^ s : Nat) : Int)] = some (.str (flText (n * 2 ^ s))) := by
  by_cases h0 : n = 0
  · subst h0
    rw [Nat.zero_mul]
    exact strD_some tab_fl0
  · exact strD_some (of_decide_eq_true (all_get tab_fl (m_mem (w := n) (s := s) ⟨Nat.pos_of_ne_zero h0, Nat.le_of_lt_succ hn⟩ hs)))
theorem made_eq {w s : Nat} (hw : 1 ≤ w ∧ w ≤ 15) (hs : s < 5) : askFrom (.int ((w * 2 ^ s : Nat) : Int)) = some (.str (askText (w * 2 ^ s))) :=
  strD_some (of_decide_eq_true (all_get tab_made (m_mem hw hs)))
theorem map_toList (l : List (List Nat)) : (l.map fun x => (⟨x.toArray⟩ : Str)).map (fun w => w.cps.toList) = l := by
  rw [List.map_map]
  exact (List.map_congr_left fun x _ => rfl).trans (List.map_id l)
theorem idx_last {ds : List D} {d : D} {k : Nat} (h : ds.length = k + 1) (hd : ds[k]? = some d) : idxD (.list ds) (.int (-1)) = some d := by
  show (if 0 ≤ (-1 : Int) ∧ (-1 : Int) < 1000000 then ds[(-1 : Int).toNat]? else if (-1 : Int) < 0 ∧ -(ds.length : Int) ≤ -1 ∧ -1000000 ≤ (-1 : Int) then ds[((-1 : Int) + ds.length).toNat]? else none) = _
  rw [if_neg (by decide), if_pos ⟨by decide, by rw [h]; exact Int.neg_le_neg (Int.ofNat_le.mpr (Nat.succ_le_succ (Nat.zero_le k))), by decide⟩, show ((-1 : Int) + ds.length).toNat = k by omega, hd]
theorem nm_len : (nmL.all fun l => decide (l.length ≤ 100)) = true := by decide +kernel
theorem holds_eq {n w s : Nat} (hw : 1 ≤ w ∧ w ≤ 15) (hn : n < 16) (hs : s < 5) : F_ell [.str (askText (w * 2 ^ s)), .str (flText (n * 2 ^ s))] = some (.bool (n &&& w == w)) := by
  have hm := m_mem hw hs
  have ha := all_get tab_ask hm
  unfold askOk at ha
  rw [Bool.and_eq_true, Bool.and_eq_true] at ha
  obtain ⟨h0, h1, h2⟩ := ha
  have h2 := of_decide_eq_true h2
  have h1 := of_decide_eq_true h1
  have hs1 : splitL (askText (w * 2 ^ s)) (Str.ofString "...") = some ((askStrs (w * 2 ^ s)).map D.str) := by
    unfold splitL
    rw [if_pos h1, h2]
  have hh := all_get (all_get (all_get tab_holds (List.mem_range.mpr hs)) (List.mem_range.mpr hn)) (List.mem_range.mpr (show w - 1 < 15 from Nat.lt_of_lt_of_le (Nat.sub_lt hw.1 Nat.zero_lt_one) hw.2))
  rw [Nat.sub_add_cancel hw.1] at hh
  have hnl : (namesOf (w * 2 ^ s)).length ≤ 8 := by
    unfold namesOf bitsOf
    rw [List.length_map]
    exact Nat.le_trans (List.length_filter_le _ _) (by simp)
  have hel : ∀ m, ∀ l ∈ namesOf m, l.length ≤ 100 := by
    intro m l hl
    obtain ⟨i, _, rfl⟩ := List.mem_map.mp hl
    rw [List.getD_eq_getElem?_getD]
    cases hq : nmL[i]? with
    | none => simp
    | some v => exact of_decide_eq_true (all_get nm_len (List.mem_of_getElem? hq))
  have hl : (askStrs (w * 2 ^ s)).length = (namesOf (w * 2 ^ s)).length + 2 := by unfold askStrs askL; simp
  have hfl : (flText (n * 2 ^ s)).length ≤ 100000 := by
    have hx := all_get (all_get tab_len (List.mem_range.mpr hs)) (List.mem_range.mpr hn)
    exact of_decide_eq_true hx
  have r := ell_ask (want := askText (w * 2 ^ s)) (got := flText (n * 2 ^ s)) (e := ⟨#[]⟩) (ws := askStrs (w * 2 ^ s)) rfl h0 hs1 ⟨by rw [hl]; exact Nat.le_add_left 2 _, by rw [hl]; exact Nat.le_trans (Nat.add_le_add_right hnl 2) (by decide)⟩ rfl (idx_last (k := (namesOf (w * 2 ^ s)).length + 1) (by rw [List.length_map, hl]) (by unfold askStrs askL; simp)) (by
    intro v hv
    unfold askStrs askL at hv
    obtain ⟨l, hl, rfl⟩ := List.mem_map.mp hv
    show l.toArray.size ≤ 100000
    rw [List.size_toArray]
    rcases List.mem_cons.mp hl with rfl | hl
    · simp
    · rcases List.mem_append.mp hl with hl | hl
      · have := hel _ l hl; omega
      · rw [List.mem_singleton.mp hl]; simp) hfl
  rw [r]
  unfold askStrs
  rw [map_toList]
  show some (D.bool (ellF (askL (w * 2 ^ s)) (flL (n * 2 ^ s)))) = _
  rw [eq_of_beq hh]
end
end Mine
end
section
open PySem PySem.W PyProof.Rows PySem.Calls
set_option Elab.async false
set_option maxRecDepth 100000
namespace Mine
noncomputable section
noncomputable def leadL (k n : Nat) : List Nat := (List.range k).map fun p => if n.testBit p then 9 else 32
noncomputable def leadText (k n : Nat) : Str := ⟨(leadL k n).toArray⟩
noncomputable def signC (sp : Bool) : Nat := if sp then 32 else 9
noncomputable def dotsL (b : Nat) : List Nat := if b = 0 then [] else [46, 46, 46]
noncomputable def wishL (sp : Bool) (fi se fr ba : Nat) : List Nat := dotsL fr ++ (List.replicate fi (signC sp) ++ ([46, 46, 46] ++ (List.replicate se (signC sp) ++ dotsL ba)))
noncomputable def wishText (sp : Bool) (fi se fr ba : Nat) : Str := ⟨(wishL sp fi se fr ba).toArray⟩
noncomputable def spotsN (k fi se fr ba : Nat) : List Nat := (List.range (k + 1 - fi)).flatMap fun i => ((List.range (k + 1 - se - (i + fi))).map (fun j => i + fi + j)).filterMap fun j =>
  if (fr = 1 ∨ i = 0) ∧ (ba = 1 ∨ j + se = k) then some ((2 ^ fi - 1) * 2 ^ i ||| (2 ^ se - 1) * 2 ^ j) else none
noncomputable def seenN (k : Nat) (sp : Bool) (n : Nat) : Nat := if sp then 2 ^ k - 1 - n else n
noncomputable def fitsB (k : Nat) (sp : Bool) (fi se fr ba n : Nat) : Bool := (spotsN k fi se fr ba).any fun s => seenN k sp n &&& s == s
noncomputable def fitsOk (k : Nat) (sp : Bool) (fi se fr ba : Nat) : Bool := (List.range (2 ^ k)).all fun n => boolD (F_ell [.str (wishText sp fi se fr ba), .str (leadText k n)]) == some (fitsB k sp fi se fr ba n)
noncomputable def intsOf (d : Option D) : Option (List Int) := (d.bind asL).bind intsD
noncomputable def spotsOk (k fi se fr ba : Nat) : Bool := decide (intsOf (F_spots [.int k, .int fi, .int se, .int fr, .int ba]) = some ((spotsN k fi se fr ba).map Int.ofNat))
theorem tab_s1 : ([3, 4].all fun k => (List.range 3).all fun fi => (List.range 3).all fun se => (List.range 2).all fun fr => (List.range 2).all fun ba => spotsOk k fi se fr ba) = true := by decide +kernel
noncomputable def fits8 (k fi se : Nat) : Bool := [true, false].all fun sp => (List.range 2).all fun fr => (List.range 2).all fun ba => fitsOk k sp fi se fr ba
theorem tab_f300 : fits8 3 0 0 = true := by decide +kernel
theorem tab_f301 : fits8 3 0 1 = true := by decide +kernel
theorem tab_f302 : fits8 3 0 2 = true := by decide +kernel
theorem tab_f310 : fits8 3 1 0 = true := by decide +kernel
theorem tab_f311 : fits8 3 1 1 = true := by decide +kernel
theorem tab_f312 : fits8 3 1 2 = true := by decide +kernel
theorem tab_f320 : fits8 3 2 0 = true := by decide +kernel
theorem tab_f321 : fits8 3 2 1 = true := by decide +kernel
theorem tab_f322 : fits8 3 2 2 = true := by decide +kernel
theorem tab_f400 : fits8 4 0 0 = true := by decide +kernel
theorem tab_f401 : fits8 4 0 1 = true := by decide +kernel
theorem tab_f402 : fits8 4 0 2 = true := by decide +kernel
theorem tab_f410 : fits8 4 1 0 = true := by decide +kernel
theorem tab_f411 : fits8 4 1 1 = true := by decide +kernel
theorem tab_f412 : fits8 4 1 2 = true := by decide +kernel
theorem tab_f420 : fits8 4 2 0 = true := by decide +kernel
theorem tab_f421 : fits8 4 2 1 = true := by decide +kernel
theorem tab_f422 : fits8 4 2 2 = true := by decide +kernel
theorem three_of {n : Nat} (h : n < 3) : n = 0 ∨ n = 1 ∨ n = 2 := by revert n; decide
theorem fits8_all {k fi se : Nat} (hk : k = 3 ∨ k = 4) (hfi : fi < 3) (hse : se < 3) : fits8 k fi se = true := by
  rcases hk with rfl | rfl <;> rcases three_of hfi with rfl | rfl | rfl <;> rcases three_of hse with rfl | rfl | rfl
  · exact tab_f300
  · exact tab_f301
  · exact tab_f302
  · exact tab_f310
  · exact tab_f311
  · exact tab_f312
  · exact tab_f320
  · exact tab_f321
  · exact tab_f322
  · exact tab_f400
  · exact tab_f401
  · exact tab_f402
  · exact tab_f410
  · exact tab_f411
  · exact tab_f412
  · exact tab_f420
  · exact tab_f421
  · exact tab_f422
theorem fits_eq {k fi se fr ba n : Nat} (sp : Bool) (hk : k = 3 ∨ k = 4) (hfi : fi < 3) (hse : se < 3) (hfr : fr < 2) (hba : ba < 2) (hn : n < 2 ^ k) :
    F_ell [.str (wishText sp fi se fr ba), .str (leadText k n)] = some (.bool (fitsB k sp fi se fr ba n)) := by
  have h := fits8_all hk hfi hse
  unfold fits8 at h
  have h := all_get (all_get (all_get h (show sp ∈ [true, false] by cases sp <;> simp)) (List.mem_range.mpr hfr)) (List.mem_range.mpr hba)
  unfold fitsOk at h
  exact boolD_some (eq_of_beq (all_get h (List.mem_range.mpr hn)))
theorem intsD_some : ∀ {ds : List D} {ns : List Int}, intsD ds = some ns → ds = ns.map D.int
  | [], ns, h => by cases h; rfl
  | d :: r, ns, h => by
    obtain ⟨i, ms, rfl, h1, rfl⟩ := intsD_cons h
    rw [intsD_some h1, List.map_cons]
theorem intsOf_some {d : Option D} {ns : List Int} (h : intsOf d = some ns) : d = some (.list (ns.map D.int)) := by
  obtain ⟨ds, hds, h⟩ := bb1 h
  obtain ⟨e, he, hl⟩ := bb1 hds
  rw [he, asL_some hl, intsD_some h]
theorem spots_eq {k fi se fr ba : Nat} (hk : k = 3 ∨ k = 4) (hfi : fi < 3) (hse : se < 3) (hfr : fr < 2) (hba : ba < 2) :
    F_spots [.int k, .int fi, .int se, .int fr, .int ba] = some (.list (((spotsN k fi se fr ba).map Int.ofNat).map D.int)) := by
  have h := all_get (all_get (all_get (all_get (all_get tab_s1 (show k ∈ [3, 4] by rcases hk with rfl | rfl <;> simp)) (List.mem_range.mpr hfi)) (List.mem_range.mpr hse)) (List.mem_range.mpr hfr)) (List.mem_range.mpr hba)
  exact intsOf_some (of_decide_eq_true h)
end
end Mine
end
section
open PySem PySem.W PyProof.Rows PySem.Calls
set_option Elab.async false
set_option maxRecDepth 100000
namespace Mine
noncomputable section
noncomputable def colN (k s n : Nat) : Nat := (List.range k).foldl (fun c p => if n.testBit p then (c / s + 1) * s else c + 1) 0
theorem isAddr_self (x : Addr) : isAddr x (some (.addr x)) = true := beq_self_eq_true (some x)
theorem seqX_next {X : Type} {g1 g2 : List D → X → Option (Fl × List D × X)} {ρ ρ1 : List D} {x x1 : X} (h : g1 ρ x = some (.next, ρ1, x1)) : seqX g1 g2 ρ x = g2 ρ1 x1 := by unfold seqX; rw [h]; rfl
theorem liftX_next {X : Type} {g : FS} {ρ ρ1 : List D} {x : X} (h : g ρ = some (.next, ρ1)) : liftX g ρ x = some (.next, ρ1, x) := by unfold liftX; rw [h]; rfl
theorem setX_eq {i j : Nat} {x : Addr} {name : Str} {f : FD} {ρ ds : List D} {d : D} (hf : f ρ = some d) (h1 : d.flat = true ∨ (d.noList = true ∧ (listAt j ρ).isSome = true)) (h2 : isAddr x (var i ρ) = true) (h3 : wsNames[ds.length]? = some name) :
    setX i j x name f ρ ds = some (.next, ρ, ds ++ [d]) := by
  unfold setX
  rw [hf]
  show (if _ then _ else _) = _
  rw [if_pos ⟨h1, h2, h3⟩]
theorem ws_of {t : Str} {cs : List D} {b n nt : Int} {d8 : D} (hl : ∀ x, forXD 8 (liftX g_wsb) (signs t) [.addr x, .str t, .str (Str.ofString " "), .str (Str.ofString "\t"), .list [], .int 0, .int 0, .int 0, .undef] [D.str t]
      = some (.next, [.addr x, .str t, .str (Str.ofString " "), .str (Str.ofString "\t"), .list cs, .int b, .int n, .int nt, d8], [D.str t])) (hc : cs.length ≤ 100000) (hn : (D.tup [.tup cs, .int b]).noList = true) :
    F_ws [.str t] = some (.inst [.str t, .int n, .int nt, .tup [.tup cs, .int b], .bool (decide ((cs.length : Int) ≤ 1))]) := by
  refine F_ws_of rfl fun x => ?_
  have e1 : setX 0 4 x (Str.ofString "raw") (var 1) [.addr x, .str t, .undef, .undef, .undef, .undef, .undef, .undef, .undef] [] = some (.next, [.addr x, .str t, .undef, .undef, .undef, .undef, .undef, .undef, .undef], [.str t]) :=
    setX_eq rfl (.inl rfl) (isAddr_self x) rfl
  have e5 : forX 8 (rawX 0 x) (liftX g_wsb) [.addr x, .str t, .str (Str.ofString " "), .str (Str.ofString "\t"), .list [], .int 0, .int 0, .int 0, .undef] [.str t] = some (.next, [.addr x, .str t, .str (Str.ofString " "), .str (Str.ofString "\t"), .list cs, .int b, .int n, .int nt, d8], [.str t]) := by
    unfold forX rawX
    rw [if_pos (show isAddr x (var 0 [.addr x, .str t, .str (Str.ofString " "), .str (Str.ofString "\t"), .list [], .int 0, .int 0, .int 0, .undef]) = true from isAddr_self x)]
    exact hl x
  have e6 : setX 0 4 x (Str.ofString "n") (var 6) [.addr x, .str t, .str (Str.ofString " "), .str (Str.ofString "\t"), .list cs, .int b, .int n, .int nt, d8] [.str t] = some (.next, [.addr x, .str t, .str (Str.ofString " "), .str (Str.ofString "\t"), .list cs, .int b, .int n, .int nt, d8], [.str t, .int n]) :=
    setX_eq rfl (.inl rfl) (isAddr_self x) rfl
  have e7 : setX 0 4 x (Str.ofString "nt") (var 7) [.addr x, .str t, .str (Str.ofString " "), .str (Str.ofString "\t"), .list cs, .int b, .int n, .int nt, d8] [.str t, .int n] = some (.next, [.addr x, .str t, .str (Str.ofString " "), .str (Str.ofString "\t"), .list cs, .int b, .int n, .int nt, d8], [.str t, .int n, .int nt]) :=
    setX_eq rfl (.inl rfl) (isAddr_self x) rfl
  have e8 : setX 0 4 x (Str.ofString "norm") (tup2C (tupOfC (var 4)) (var 5)) [.addr x, .str t, .str (Str.ofString " "), .str (Str.ofString "\t"), .list cs, .int b, .int n, .int nt, d8] [.str t, .int n, .int nt] = some (.next, [.addr x, .str t, .str (Str.ofString " "), .str (Str.ofString "\t"), .list cs, .int b, .int n, .int nt, d8], [.str t, .int n, .int nt, .tup [.tup cs, .int b]]) :=
    setX_eq (by
      show ((if cs.length ≤ 100000 then some (D.tup cs) else none).bind fun a => some (D.tup [a, .int b])) = _
      rw [if_pos hc]
      rfl) (.inr ⟨hn, rfl⟩) (isAddr_self x) rfl
  have e9 : setX 0 4 x (Str.ofString "is_simple") (cmpC .LtE (callC lenD (consA (var 4) nilA)) (iC 1)) [.addr x, .str t, .str (Str.ofString " "), .str (Str.ofString "\t"), .list cs, .int b, .int n, .int nt, d8] [.str t, .int n, .int nt, .tup [.tup cs, .int b]] = some (.next, [.addr x, .str t, .str (Str.ofString " "), .str (Str.ofString "\t"), .list cs, .int b, .int n, .int nt, d8], [.str t, .int n, .int nt, .tup [.tup cs, .int b], .bool (decide ((cs.length : Int) ≤ 1))]) :=
    setX_eq (by
      show ((if cs.length ≤ 100000 then some (D.int cs.length) else none).bind fun a => (cmpD .LtE a (.int 1)).map D.bool) = _
      rw [if_pos hc]
      rfl) (.inl rfl) (isAddr_self x) rfl
  unfold G_ws
  rw [seqX_next e1]
  refine ⟨[.addr x, .str t, .str (Str.ofString " "), .str (Str.ofString "\t"), .list cs, .int b, .int n, .int nt, d8], ?_⟩
  rw [seqX_next (ρ1 := [.addr x, .str t, .str (Str.ofString " "), .str (Str.ofString "\t"), .undef, .undef, .undef, .undef, .undef]) (x1 := [.str t]) (by rfl)]
  rw [seqX_next (ρ1 := [.addr x, .str t, .str (Str.ofString " "), .str (Str.ofString "\t"), .list [], .undef, .undef, .undef, .undef]) (x1 := [.str t]) (by rfl)]
  rw [seqX_next (ρ1 := [.addr x, .str t, .str (Str.ofString " "), .str (Str.ofString "\t"), .list [], .int 0, .int 0, .int 0, .undef]) (x1 := [.str t]) (by rfl)]
  rw [seqX_next e5, seqX_next e6, seqX_next e7, seqX_next e8, seqX_next e9]
  rfl
noncomputable def intOf (d : Option D) : Option Int := d.bind asI
theorem intOf_some {d : Option D} {b : Int} (h : intOf d = some b) : d = some (.int b) := by
  obtain ⟨e, he, hb⟩ := bb1 h
  rw [he, asI_some hb]
noncomputable def colText (k n : Nat) : Str := ⟨(leadL k n ++ [120]).toArray⟩
theorem ws_3_0 : F_ws [.str (colText 3 0)] = some (.inst [.str (colText 3 0), .int 3, .int 0, .tup [.tup [], .int 3], .bool true]) :=
  ws_of (d8 := .str (Str.ofString "x")) (fun x => by kernel_rfl) (by decide) (by decide)
theorem ind_3_0 : ((List.range 5).all fun s => decide (intOf (F_ind [.inst [.str (colText 3 0), .int 3, .int 0, .tup [.tup [], .int 3], .bool true], .int ((s + 1 : Nat) : Int)]) = some ((colN 3 (s + 1) 0 : Nat) : Int))) = true := by decide +kernel
theorem ws_3_1 : F_ws [.str (colText 3 1)] = some (.inst [.str (colText 3 1), .int 3, .int 1, .tup [.tup [.int 1], .int 2], .bool true]) :=
  ws_of (d8 := .str (Str.ofString "x")) (fun x => by kernel_rfl) (by decide) (by decide)
theorem ind_3_1 : ((List.range 5).all fun s => decide (intOf (F_ind [.inst [.str (colText 3 1), .int 3, .int 1, .tup [.tup [.int 1], .int 2], .bool true], .int ((s + 1 : Nat) : Int)]) = some ((colN 3 (s + 1) 1 : Nat) : Int))) = true := by decide +kernel
theorem ws_3_2 : F_ws [.str (colText 3 2)] = some (.inst [.str (colText 3 2), .int 3, .int 1, .tup [.tup [.int 0, .int 1], .int 1], .bool false]) :=
  ws_of (d8 := .str (Str.ofString "x")) (fun x => by kernel_rfl) (by decide) (by decide)
theorem ind_3_2 : ((List.range 5).all fun s => decide (intOf (F_ind [.inst [.str (colText 3 2), .int 3, .int 1, .tup [.tup [.int 0, .int 1], .int 1], .bool false], .int ((s + 1 : Nat) : Int)]) = some ((colN 3 (s + 1) 2 : Nat) : Int))) = true := by decide +kernel
theorem ws_3_3 : F_ws [.str (colText 3 3)] = some (.inst [.str (colText 3 3), .int 3, .int 2, .tup [.tup [.int 2], .int 1], .bool true]) :=
  ws_of (d8 := .str (Str.ofString "x")) (fun x => by kernel_rfl) (by decide) (by decide)
theorem ind_3_3 : ((List.range 5).all fun s => decide (intOf (F_ind [.inst [.str (colText 3 3), .int 3, .int 2, .tup [.tup [.int 2], .int 1], .bool true], .int ((s + 1 : Nat) : Int)]) = some ((colN 3 (s + 1) 3 : Nat) : Int))) = true := by decide +kernel
theorem ws_3_4 : F_ws [.str (colText 3 4)] = some (.inst [.str (colText 3 4), .int 3, .int 1, .tup [.tup [.int 0, .int 0, .int 1], .int 0], .bool false]) :=
  ws_of (d8 := .str (Str.ofString "x")) (fun x => by kernel_rfl) (by decide) (by decide)
theorem ind_3_4 : ((List.range 5).all fun s => decide (intOf (F_ind [.inst [.str (colText 3 4), .int 3, .int 1, .tup [.tup [.int 0, .int 0, .int 1], .int 0], .bool false], .int ((s + 1 : Nat) : Int)]) = some ((colN 3 (s + 1) 4 : Nat) : Int))) = true := by decide +kernel
theorem ws_3_5 : F_ws [.str (colText 3 5)] = some (.inst [.str (colText 3 5), .int 3, .int 2, .tup [.tup [.int 1, .int 1], .int 0], .bool false]) :=
  ws_of (d8 := .str (Str.ofString "x")) (fun x => by kernel_rfl) (by decide) (by decide)
theorem ind_3_5 : ((List.range 5).all fun s => decide (intOf (F_ind [.inst [.str (colText 3 5), .int 3, .int 2, .tup [.tup [.int 1, .int 1], .int 0], .bool false], .int ((s + 1 : Nat) : Int)]) = some ((colN 3 (s + 1) 5 : Nat) : Int))) = true := by decide +kernel
theorem ws_3_6 : F_ws [.str (colText 3 6)] = some (.inst [.str (colText 3 6), .int 3, .int 2, .tup [.tup [.int 1, .int 1], .int 0], .bool false]) :=
  ws_of (d8 := .str (Str.ofString "x")) (fun x => by kernel_rfl) (by decide) (by decide)
theorem ind_3_6 : ((List.range 5).all fun s => decide (intOf (F_ind [.inst [.str (colText 3 6), .int 3, .int 2, .tup [.tup [.int 1, .int 1], .int 0], .bool false], .int ((s + 1 : Nat) : Int)]) = some ((colN 3 (s + 1) 6 : Nat) : Int))) = true := by decide +kernel
theorem ws_3_7 : F_ws [.str (colText 3 7)] = some (.inst [.str (colText 3 7), .int 3, .int 3, .tup [.tup [.int 3], .int 0], .bool true]) :=
  ws_of (d8 := .str (Str.ofString "x")) (fun x => by kernel_rfl) (by decide) (by decide)
theorem ind_3_7 : ((List.range 5).all fun s => decide (intOf (F_ind [.inst [.str (colText 3 7), .int 3, .int 3, .tup [.tup [.int 3], .int 0], .bool true], .int ((s + 1 : Nat) : Int)]) = some ((colN 3 (s + 1) 7 : Nat) : Int))) = true := by decide +kernel
theorem ws_4_0 : F_ws [.str (colText 4 0)] = some (.inst [.str (colText 4 0), .int 4, .int 0, .tup [.tup [], .int 4], .bool true]) :=
  ws_of (d8 := .str (Str.ofString "x")) (fun x => by kernel_rfl) (by decide) (by decide)
theorem ind_4_0 : ((List.range 5).all fun s => decide (intOf (F_ind [.inst [.str (colText 4 0), .int 4, .int 0, .tup [.tup [], .int 4], .bool true], .int ((s + 1 : Nat) : Int)]) = some ((colN 4 (s + 1) 0 : Nat) : Int))) = true := by decide +kernel
theorem ws_4_1 : F_ws [.str (colText 4 1)] = some (.inst [.str (colText 4 1), .int 4, .int 1, .tup [.tup [.int 1], .int 3], .bool true]) :=
  ws_of (d8 := .str (Str.ofString "x")) (fun x => by kernel_rfl) (by decide) (by decide)
theorem ind_4_1 : ((List.range 5).all fun s => decide (intOf (F_ind [.inst [.str (colText 4 1), .int 4, .int 1, .tup [.tup [.int 1], .int 3], .bool true], .int ((s + 1 : Nat) : Int)]) = some ((colN 4 (s + 1) 1 : Nat) : Int))) = true := by decide +kernel
theorem ws_4_2 : F_ws [.str (colText 4 2)] = some (.inst [.str (colText 4 2), .int 4, .int 1, .tup [.tup [.int 0, .int 1], .int 2], .bool false]) :=
  ws_of (d8 := .str (Str.ofString "x")) (fun x => by kernel_rfl) (by decide) (by decide)
theorem ind_4_2 : ((List.range 5).all fun s => decide (intOf (F_ind [.inst [.str (colText 4 2), .int 4, .int 1, .tup [.tup [.int 0, .int 1], .int 2], .bool false], .int ((s + 1 : Nat) : Int)]) = some ((colN 4 (s + 1) 2 : Nat) : Int))) = true := by decide +kernel
theorem ws_4_3 : F_ws [.str (colText 4 3)] = some (.inst [.str (colText 4 3), .int 4, .int 2, .tup [.tup [.int 2], .int 2], .bool true]) :=
  ws_of (d8 := .str (Str.ofString "x")) (fun x => by kernel_rfl) (by decide) (by decide)
theorem ind_4_3 : ((List.range 5).all fun s => decide (intOf (F_ind [.inst [.str (colText 4 3), .int 4, .int 2, .tup [.tup [.int 2], .int 2], .bool true], .int ((s + 1 : Nat) : Int)]) = some ((colN 4 (s + 1) 3 : Nat) : Int))) = true := by decide +kernel
theorem ws_4_4 : F_ws [.str (colText 4 4)] = some (.inst [.str (colText 4 4), .int 4, .int 1, .tup [.tup [.int 0, .int 0, .int 1], .int 1], .bool false]) :=
  ws_of (d8 := .str (Str.ofString "x")) (fun x => by kernel_rfl) (by decide) (by decide)
theorem ind_4_4 : ((List.range 5).all fun s => decide (intOf (F_ind [.inst [.str (colText 4 4), .int 4, .int 1, .tup [.tup [.int 0, .int 0, .int 1], .int 1], .bool false], .int ((s + 1 : Nat) : Int)]) = some ((colN 4 (s + 1) 4 : Nat) : Int))) = true := by decide +kernel
theorem ws_4_5 : F_ws [.str (colText 4 5)] = some (.inst [.str (colText 4 5), .int 4, .int 2, .tup [.tup [.int 1, .int 1], .int 1], .bool false]) :=
  ws_of (d8 := .str (Str.ofString "x")) (fun x => by kernel_rfl) (by decide) (by decide)
theorem ind_4_5 : ((List.range 5).all fun s => decide (intOf (F_ind [.inst [.str (colText 4 5), .int 4, .int 2, .tup [.tup [.int 1, .int 1], .int 1], .bool false], .int ((s + 1 : Nat) : Int)]) = some ((colN 4 (s + 1) 5 : Nat) : Int))) = true := by decide +kernel
theorem ws_4_6 : F_ws [.str (colText 4 6)] = some (.inst [.str (colText 4 6), .int 4, .int 2, .tup [.tup [.int 1, .int 1], .int 1], .bool false]) :=
  ws_of (d8 := .str (Str.ofString "x")) (fun x => by kernel_rfl) (by decide) (by decide)
theorem ind_4_6 : ((List.range 5).all fun s => decide (intOf (F_ind [.inst [.str (colText 4 6), .int 4, .int 2, .tup [.tup [.int 1, .int 1], .int 1], .bool false], .int ((s + 1 : Nat) : Int)]) = some ((colN 4 (s + 1) 6 : Nat) : Int))) = true := by decide +kernel
theorem ws_4_7 : F_ws [.str (colText 4 7)] = some (.inst [.str (colText 4 7), .int 4, .int 3, .tup [.tup [.int 3], .int 1], .bool true]) :=
  ws_of (d8 := .str (Str.ofString "x")) (fun x => by kernel_rfl) (by decide) (by decide)
theorem ind_4_7 : ((List.range 5).all fun s => decide (intOf (F_ind [.inst [.str (colText 4 7), .int 4, .int 3, .tup [.tup [.int 3], .int 1], .bool true], .int ((s + 1 : Nat) : Int)]) = some ((colN 4 (s + 1) 7 : Nat) : Int))) = true := by decide +kernel
theorem ws_4_8 : F_ws [.str (colText 4 8)] = some (.inst [.str (colText 4 8), .int 4, .int 1, .tup [.tup [.int 0, .int 0, .int 0, .int 1], .int 0], .bool false]) :=
  ws_of (d8 := .str (Str.ofString "x")) (fun x => by kernel_rfl) (by decide) (by decide)
theorem ind_4_8 : ((List.range 5).all fun s => decide (intOf (F_ind [.inst [.str (colText 4 8), .int 4, .int 1, .tup [.tup [.int 0, .int 0, .int 0, .int 1], .int 0], .bool false], .int ((s + 1 : Nat) : Int)]) = some ((colN 4 (s + 1) 8 : Nat) : Int))) = true := by decide +kernel
theorem ws_4_9 : F_ws [.str (colText 4 9)] = some (.inst [.str (colText 4 9), .int 4, .int 2, .tup [.tup [.int 1, .int 0, .int 1], .int 0], .bool false]) :=
  ws_of (d8 := .str (Str.ofString "x")) (fun x => by kernel_rfl) (by decide) (by decide)
theorem ind_4_9 : ((List.range 5).all fun s => decide (intOf (F_ind [.inst [.str (colText 4 9), .int 4, .int 2, .tup [.tup [.int 1, .int 0, .int 1], .int 0], .bool false], .int ((s + 1 : Nat) : Int)]) = some ((colN 4 (s + 1) 9 : Nat) : Int))) = true := by decide +kernel
theorem ws_4_10 : F_ws [.str (colText 4 10)] = some (.inst [.str (colText 4 10), .int 4, .int 2, .tup [.tup [.int 0, .int 2], .int 0], .bool false]) :=
  ws_of (d8 := .str (Str.ofString "x")) (fun x => by kernel_rfl) (by decide) (by decide)
theorem ind_4_10 : ((List.range 5).all fun s => decide (intOf (F_ind [.inst [.str (colText 4 10), .int 4, .int 2, .tup [.tup [.int 0, .int 2], .int 0], .bool false], .int ((s + 1 : Nat) : Int)]) = some ((colN 4 (s + 1) 10 : Nat) : Int))) = true := by decide +kernel
theorem ws_4_11 : F_ws [.str (colText 4 11)] = some (.inst [.str (colText 4 11), .int 4, .int 3, .tup [.tup [.int 2, .int 1], .int 0], .bool false]) :=
  ws_of (d8 := .str (Str.ofString "x")) (fun x => by kernel_rfl) (by decide) (by decide)
theorem ind_4_11 : ((List.range 5).all fun s => decide (intOf (F_ind [.inst [.str (colText 4 11), .int 4, .int 3, .tup [.tup [.int 2, .int 1], .int 0], .bool false], .int ((s + 1 : Nat) : Int)]) = some ((colN 4 (s + 1) 11 : Nat) : Int))) = true := by decide +kernel
theorem ws_4_12 : F_ws [.str (colText 4 12)] = some (.inst [.str (colText 4 12), .int 4, .int 2, .tup [.tup [.int 1, .int 0, .int 1], .int 0], .bool false]) :=
  ws_of (d8 := .str (Str.ofString "x")) (fun x => by kernel_rfl) (by decide) (by decide)
theorem ind_4_12 : ((List.range 5).all fun s => decide (intOf (F_ind [.inst [.str (colText 4 12), .int 4, .int 2, .tup [.tup [.int 1, .int 0, .int 1], .int 0], .bool false], .int ((s + 1 : Nat) : Int)]) = some ((colN 4 (s + 1) 12 : Nat) : Int))) = true := by decide +kernel
theorem ws_4_13 : F_ws [.str (colText 4 13)] = some (.inst [.str (colText 4 13), .int 4, .int 3, .tup [.tup [.int 2, .int 1], .int 0], .bool false]) :=
  ws_of (d8 := .str (Str.ofString "x")) (fun x => by kernel_rfl) (by decide) (by decide)
theorem ind_4_13 : ((List.range 5).all fun s => decide (intOf (F_ind [.inst [.str (colText 4 13), .int 4, .int 3, .tup [.tup [.int 2, .int 1], .int 0], .bool false], .int ((s + 1 : Nat) : Int)]) = some ((colN 4 (s + 1) 13 : Nat) : Int))) = true := by decide +kernel
theorem ws_4_14 : F_ws [.str (colText 4 14)] = some (.inst [.str (colText 4 14), .int 4, .int 3, .tup [.tup [.int 2, .int 1], .int 0], .bool false]) :=
  ws_of (d8 := .str (Str.ofString "x")) (fun x => by kernel_rfl) (by decide) (by decide)
theorem ind_4_14 : ((List.range 5).all fun s => decide (intOf (F_ind [.inst [.str (colText 4 14), .int 4, .int 3, .tup [.tup [.int 2, .int 1], .int 0], .bool false], .int ((s + 1 : Nat) : Int)]) = some ((colN 4 (s + 1) 14 : Nat) : Int))) = true := by decide +kernel
theorem ws_4_15 : F_ws [.str (colText 4 15)] = some (.inst [.str (colText 4 15), .int 4, .int 4, .tup [.tup [.int 4], .int 0], .bool true]) :=
  ws_of (d8 := .str (Str.ofString "x")) (fun x => by kernel_rfl) (by decide) (by decide)
theorem ind_4_15 : ((List.range 5).all fun s => decide (intOf (F_ind [.inst [.str (colText 4 15), .int 4, .int 4, .tup [.tup [.int 4], .int 0], .bool true], .int ((s + 1 : Nat) : Int)]) = some ((colN 4 (s + 1) 15 : Nat) : Int))) = true := by decide +kernel
theorem col_made {k n s : Nat} (hk : k = 3 ∨ k = 4) (hn : n < 2 ^ k) (hs : 1 ≤ s ∧ s ≤ 5) : ∃ r, F_ws [.str (colText k n)] = some (.inst r) ∧ F_ind [.inst r, .int (s : Int)] = some (.int ((colN k s n : Nat) : Int)) := by
  have hm : s - 1 ∈ List.range 5 := List.mem_range.mpr (Nat.lt_of_lt_of_le (Nat.sub_lt hs.1 Nat.zero_lt_one) hs.2)
  have hs1 : s - 1 + 1 = s := Nat.sub_add_cancel hs.1
  rcases hk with rfl | rfl
  · match n, hn with
    | 0, _ => exact ⟨_, ws_3_0, by have h := of_decide_eq_true (all_get ind_3_0 hm); rw [hs1] at h; exact intOf_some h⟩
    | 1, _ => exact ⟨_, ws_3_1, by have h := of_decide_eq_true (all_get ind_3_1 hm); rw [hs1] at h; exact intOf_some h⟩
    | 2, _ => exact ⟨_, ws_3_2, by have h := of_decide_eq_true (all_get ind_3_2 hm); rw [hs1] at h; exact intOf_some h⟩
    | 3, _ => exact ⟨_, ws_3_3, by have h := of_decide_eq_true (all_get ind_3_3 hm); rw [hs1] at h; exact intOf_some h⟩
    | 4, _ => exact ⟨_, ws_3_4, by have h := of_decide_eq_true (all_get ind_3_4 hm); rw [hs1] at h; exact intOf_some h⟩
    | 5, _ => exact ⟨_, ws_3_5, by have h := of_decide_eq_true (all_get ind_3_5 hm); rw [hs1] at h; exact intOf_some h⟩
    | 6, _ => exact ⟨_, ws_3_6, by have h := of_decide_eq_true (all_get ind_3_6 hm); rw [hs1] at h; exact intOf_some h⟩
    | 7, _ => exact ⟨_, ws_3_7, by have h := of_decide_eq_true (all_get ind_3_7 hm); rw [hs1] at h; exact intOf_some h⟩
    | n + 8, hn => exact absurd hn (Nat.not_lt.mpr (Nat.le_add_left 8 n))
  · match n, hn with
    | 0, _ => exact ⟨_, ws_4_0, by have h := of_decide_eq_true (all_get ind_4_0 hm); rw [hs1] at h; exact intOf_some h⟩
    | 1, _ => exact ⟨_, ws_4_1, by have h := of_decide_eq_true (all_get ind_4_1 hm); rw [hs1] at h; exact intOf_some h⟩
    | 2, _ => exact ⟨_, ws_4_2, by have h := of_decide_eq_true (all_get ind_4_2 hm); rw [hs1] at h; exact intOf_some h⟩
    | 3, _ => exact ⟨_, ws_4_3, by have h := of_decide_eq_true (all_get ind_4_3 hm); rw [hs1] at h; exact intOf_some h⟩
    | 4, _ => exact ⟨_, ws_4_4, by have h := of_decide_eq_true (all_get ind_4_4 hm); rw [hs1] at h; exact intOf_some h⟩
    | 5, _ => exact ⟨_, ws_4_5, by have h := of_decide_eq_true (all_get ind_4_5 hm); rw [hs1] at h; exact intOf_some h⟩
    | 6, _ => exact ⟨_, ws_4_6, by have h := of_decide_eq_true (all_get ind_4_6 hm); rw [hs1] at h; exact intOf_some h⟩
    | 7, _ => exact ⟨_, ws_4_7, by have h := of_decide_eq_true (all_get ind_4_7 hm); rw [hs1] at h; exact intOf_some h⟩
    | 8, _ => exact ⟨_, ws_4_8, by have h := of_decide_eq_true (all_get ind_4_8 hm); rw [hs1] at h; exact intOf_some h⟩
    | 9, _ => exact ⟨_, ws_4_9, by have h := of_decide_eq_true (all_get ind_4_9 hm); rw [hs1] at h; exact intOf_some h⟩
    | 10, _ => exact ⟨_, ws_4_10, by have h := of_decide_eq_true (all_get ind_4_10 hm); rw [hs1] at h; exact intOf_some h⟩
    | 11, _ => exact ⟨_, ws_4_11, by have h := of_decide_eq_true (all_get ind_4_11 hm); rw [hs1] at h; exact intOf_some h⟩
    | 12, _ => exact ⟨_, ws_4_12, by have h := of_decide_eq_true (all_get ind_4_12 hm); rw [hs1] at h; exact intOf_some h⟩
    | 13, _ => exact ⟨_, ws_4_13, by have h := of_decide_eq_true (all_get ind_4_13 hm); rw [hs1] at h; exact intOf_some h⟩
    | 14, _ => exact ⟨_, ws_4_14, by have h := of_decide_eq_true (all_get ind_4_14 hm); rw [hs1] at h; exact intOf_some h⟩
    | 15, _ => exact ⟨_, ws_4_15, by have h := of_decide_eq_true (all_get ind_4_15 hm); rw [hs1] at h; exact intOf_some h⟩
    | n + 16, hn => exact absurd hn (Nat.not_lt.mpr (Nat.le_add_left 16 n))
theorem tab_c : ([3, 4].all fun k => (List.range (2 ^ k)).all fun n => (List.range 5).all fun s => decide (intOf (F_col [.int (n : Nat), .int (k : Nat), .int ((s + 1 : Nat) : Int)]) = some ((colN k (s + 1) n : Nat) : Int))) = true := by decide +kernel
theorem col_eq {k n s : Nat} (hk : k = 3 ∨ k = 4) (hn : n < 2 ^ k) (hs : 1 ≤ s ∧ s ≤ 5) : F_col [.int (n : Nat), .int (k : Nat), .int (s : Nat)] = some (.int ((colN k s n : Nat) : Int)) := by
  have h := all_get (all_get (all_get tab_c (show k ∈ [3, 4] by rcases hk with rfl | rfl <;> simp)) (List.mem_range.mpr hn)) (List.mem_range.mpr (show s - 1 < 5 from Nat.lt_of_lt_of_le (Nat.sub_lt hs.1 Nat.zero_lt_one) hs.2))
  rw [Nat.sub_add_cancel hs.1] at h
  exact intOf_some (of_decide_eq_true h)
end
end Mine
end
section
open PySem PySem.W PyProof.Rows PySem.Calls
set_option Elab.async false
set_option maxRecDepth 100000
namespace Mine
noncomputable section
/-! the width -/
noncomputable def bN (n p : Nat) : Nat := if n.testBit p then 1 else 0
theorem ifS_false {q : FB} {g1 g2 : FS} {ρ : List D} (h : q ρ = some false) : ifS q g1 g2 ρ = g2 ρ := by unfold ifS; rw [h]; rfl
theorem ifS_true {q : FB} {g1 g2 : FS} {ρ : List D} (h : q ρ = some true) : ifS q g1 g2 ρ = g1 ρ := by unfold ifS; rw [h]; rfl
theorem seqS_brk {g1 g2 : FS} {ρ ρ1 : List D} (h : g1 ρ = some (.brk, ρ1)) : seqS g1 g2 ρ = some (.brk, ρ1) := by unfold seqS; rw [h]; rfl
theorem compD_filter {ft : FB} {fe : FD} {ρ : List D} {α : Type} (mk : α → D) (q : α → Bool) (h : α → D) : ∀ (xs : List α), (∀ x ∈ xs, ft (mk x :: ρ) = some (q x) ∧ fe (mk x :: ρ) = some (h x)) → compD ft fe ρ (xs.map mk) = some ((xs.filter q).map h)
  | [], _ => rfl
  | x :: xs, H => by
    have h1 := H x (.head _)
    have ih := compD_filter mk q h xs fun y hy => H y (.tail _ hy)
    simp only [List.map_cons, compD, h1.1, h1.2, Option.bind_some, ih, Option.map_some]
    cases c : q x
    · rw [List.filter_cons_of_neg (by simp [c])]; rfl
    · rw [List.filter_cons_of_pos c]; rfl
theorem lt_th {n k : Nat} (h : n < k) (h16 : k ≤ 16) : n < 1000 := Nat.lt_of_lt_of_le h (Nat.le_trans h16 (by decide))
theorem le_th {k : Nat} (h16 : k ≤ 16) : k ≤ 1000 := Nat.le_trans h16 (by decide)
theorem le_mi {k : Nat} (h : k ≤ 1000) : k ≤ 1000000 := Nat.le_trans h (by decide)
theorem le_hu {k : Nat} (h : k ≤ 1000) : k ≤ 100000 := Nat.le_trans h (by decide)
theorem lt_mi {k : Nat} (h : k < 1000) : k < 1000000 := Nat.lt_trans h (by decide)
theorem lt_4 {k : Nat} (h : k < 4) : k < 1000 := Nat.lt_trans h (by decide)
theorem k34 {k : Nat} (h : k = 3 ∨ k = 4) : k ≤ 16 := by rcases h with rfl | rfl <;> decide
theorem len_range {α : Type} {f : Nat → α} {N : Nat} (h : N ≤ 1000) : ((List.range N).map f).length ≤ 1000000 := by rw [List.length_map, List.length_range]; exact le_mi h
theorem idx_list {ds : List D} {k : Int} : idxD (.list ds) (.int k) = if 0 ≤ k ∧ k < 1000000 then ds[k.toNat]? else if k < 0 ∧ -(ds.length : Int) ≤ k ∧ -1000000 ≤ k then ds[(k + ds.length).toNat]? else none := rfl
theorem idx_nat {ds : List D} {p : Nat} (h : p < 1000000) : idxD (.list ds) (.int ((p : Nat) : Int)) = ds[p]? := by
  rw [idx_list, if_pos ⟨Int.natCast_nonneg p, Int.ofNat_lt.mpr h⟩, Int.toNat_natCast]
theorem idxC_of {f g : FD} {ρ : List D} {a b : D} (h1 : f ρ = some a) (h2 : g ρ = some b) : idxC f g ρ = idxD a b := by unfold idxC; rw [h1, h2]; rfl
theorem binC_of {op : Operator} {f g : FD} {ρ : List D} {a b : D} (h1 : f ρ = some a) (h2 : g ρ = some b) : binC op f g ρ = binD op a b := by unfold binC; rw [h1, h2]; rfl
theorem cmpC_of {op : CmpOp} {f g : FD} {ρ : List D} {a b : D} (h1 : f ρ = some a) (h2 : g ρ = some b) : cmpC op f g ρ = (cmpD op a b).map .bool := by unfold cmpC; rw [h1, h2]; rfl
theorem cmpT_of {op : CmpOp} {f g : FD} {ρ : List D} {a b : D} (h1 : f ρ = some a) (h2 : g ρ = some b) : cmpT op f g ρ = cmpD op a b := by unfold cmpT; rw [h1, h2]; rfl
theorem consA_of {f : FD} {g : FL} {ρ : List D} {a : D} {ds : List D} (h1 : f ρ = some a) (h2 : g ρ = some ds) : consA f g ρ = some (a :: ds) := by unfold consA; rw [h1, h2]; rfl
theorem callC_of {F : List D → Option D} {g : FL} {ρ : List D} {ds : List D} (h : g ρ = some ds) : callC F g ρ = F ds := by unfold callC; rw [h]; rfl
theorem bitc (n p : Nat) : Builtin.bitAnd ((n : Int).fdiv (2 ^ p)) 1 = ((bN n p : Nat) : Int) := by
  rw [bitAnd_m1, Int.fdiv_eq_ediv_of_nonneg _ (Int.le_of_lt (Int.pow_pos (by decide))), ← kbt_cast, ← Int.natCast_ediv]
  rw [show (((n / 2 ^ p : Nat) : Int) % 2) = ((n / 2 ^ p % 2 : Nat) : Int) from rfl]
  unfold bN
  rw [Nat.testBit_eq_decide_div_mod_eq]
  rcases Nat.mod_two_eq_zero_or_one (n / 2 ^ p) with h | h <;> rw [h] <;> rfl
noncomputable def wl (f : Nat → Nat) (n : Nat) : Nat → List Nat → Nat
  | v, [] => v
  | v, p :: ps => if n.testBit p then wl f n (v * 64 + f p) ps else v * 64 + f p
theorem wl_step (f : Nat → Nat) (p v : Nat) : v ≤ v * 64 + f p := Nat.le_trans (Nat.le_mul_of_pos_right v (by decide)) (Nat.le_add_right _ _)
theorem wl_ge (f : Nat → Nat) (n : Nat) (ps : List Nat) : ∀ (v : Nat), v ≤ wl f n v ps := by
  induction ps with
  | nil => exact fun v => Nat.le_refl _
  | cons p ps ih =>
    intro v
    unfold wl
    split
    · exact Nat.le_trans (wl_step f p v) (ih _)
    · exact wl_step f p v
theorem wl_mono (f : Nat → Nat) {n m : Nat} (h : ∀ p, n.testBit p = true → m.testBit p = true) (ps : List Nat) : ∀ (v : Nat), wl f n v ps ≤ wl f m v ps := by
  induction ps with
  | nil => exact fun v => Nat.le_refl _
  | cons p ps ih =>
    intro v
    unfold wl
    by_cases c : n.testBit p = true
    · rw [if_pos c, if_pos (h p c)]; exact ih _
    · rw [if_neg c]
      split
      · exact wl_ge f m ps _
      · exact Nat.le_refl _
theorem wl_lt (f : Nat → Nat) (hf : ∀ p, f p < 64) (n : Nat) (ps : List Nat) : ∀ (v : Nat), wl f n v ps < (v + 1) * 64 ^ ps.length := by
  induction ps with
  | nil => exact fun v => Nat.lt_of_lt_of_eq (Nat.lt_succ_self v) (Nat.mul_one _).symm
  | cons p ps ih =>
    intro v
    have e : (v + 1) * 64 ^ (p :: ps).length = (v * 64 + 64) * 64 ^ ps.length := by
      rw [List.length_cons, Nat.pow_succ, Nat.mul_comm (64 ^ ps.length) 64, ← Nat.mul_assoc, Nat.add_mul]
    have q : (v * 64 + f p + 1) * 64 ^ ps.length ≤ (v * 64 + 64) * 64 ^ ps.length := Nat.mul_le_mul_right _ (Nat.add_le_add_left (hf p) _)
    rw [e]
    unfold wl
    split
    · exact Nat.lt_of_lt_of_le (ih _) q
    · exact Nat.lt_of_lt_of_le (Nat.lt_succ_self _) (Nat.le_trans (Nat.le_mul_of_pos_right _ (Nat.pow_pos (by decide))) q)
noncomputable def lineN (f : Nat → Nat) (n : Nat) : Nat := wl f n 0 [0, 1, 2, 3, 4]
noncomputable def tens (l : Nat) : Nat := ((List.range 10).filter fun k => decide (10 ^ k ≤ l)).length
noncomputable def widN (f : Nat → Nat) (n : Nat) : Nat := if lineN f n = 0 then 0 else if 3 < tens (lineN f n) then tens (lineN f n) else 3
theorem tens_mono {a b : Nat} (h : a ≤ b) : tens a ≤ tens b := by
  unfold tens
  rw [← List.countP_eq_length_filter, ← List.countP_eq_length_filter]
  refine List.countP_mono_left fun k _ q => ?_
  exact decide_eq_true (Nat.le_trans (of_decide_eq_true q) h)
theorem widN_mono (f : Nat → Nat) {n m : Nat} (h : ∀ p, n.testBit p = true → m.testBit p = true) : widN f n ≤ widN f m := by
  have hl : lineN f n ≤ lineN f m := wl_mono f h _ _
  have ht := tens_mono hl
  unfold widN
  by_cases a : lineN f n = 0
  · rw [if_pos a]; exact Nat.zero_le _
  · rw [if_neg a, if_neg fun b => a (Nat.le_zero.mp (Nat.le_trans hl (Nat.le_of_eq b)))]
    by_cases c : 3 < tens (lineN f n)
    · rw [if_pos c, if_pos (Nat.lt_of_lt_of_le c ht)]; exact ht
    · rw [if_neg c]
      by_cases d : 3 < tens (lineN f m)
      · rw [if_pos d]; exact Nat.le_of_lt d
      · rw [if_neg d]; exact Nat.le_refl _
theorem count_lt : ∀ d, d < 11 → ((List.range 10).filter fun k => decide (k < d)).length = d := by decide
theorem tens_len {l : Nat} (h0 : 0 < l) (h1 : l < 2 ^ 30) : (Str.ofString (toString ((l : Nat) : Int))).length = tens l := by
  have e : (Str.ofString (toString ((l : Nat) : Int))).length = l.repr.length := by
    rw [Str.ofString_eq_toList]
    show ((toString ((l : Nat) : Int)).toList.map Char.toNat).toArray.size = _
    rw [List.size_toArray, List.length_map, String.length_toList]
    rfl
  have hk := fun (k : Nat) (hk : 0 < k) => Nat.length_repr_le_iff (n := l) hk
  have hp := Nat.length_repr_pos (n := l)
  have h10 : l.repr.length ≤ 10 := (hk 10 (by decide)).mpr (Nat.lt_trans h1 (by decide))
  rw [e, ← count_lt l.repr.length (Nat.lt_succ_of_le h10)]
  unfold tens
  congr 1
  refine List.filter_congr fun k hkm => ?_
  by_cases c : k = 0
  · subst c
    rw [decide_eq_true hp, decide_eq_true (show 10 ^ 0 ≤ l from h0)]
  · rw [decide_eq_decide]
    exact Nat.not_le.symm.trans ((not_congr (hk k (Nat.pos_of_ne_zero c))).trans Nat.not_lt)
theorem len_small {l : Nat} : tens l ≤ 10 := by
  unfold tens
  exact Nat.le_trans (List.length_filter_le _ _) (by simp)
/-- the width of a line's number -/
theorem line_eq {l : Nat} (h1 : l < 2 ^ 30) : F_line [.map1 (.int ((l : Nat) : Int))] = some (.int ((if l = 0 then 0 else if 3 < tens l then tens l else 3 : Nat) : Int)) := by
  have e1 : ifS (isMap 0) (seqS (retS (iC 0)) skipS) skipS [.map1 (.int ((l : Nat) : Int)), .undef, .undef] = some (.next, [.map1 (.int ((l : Nat) : Int)), .undef, .undef]) := rfl
  have e2 : asgS 1 (maxfC 0 (negC (iC 1))) [.map1 (.int ((l : Nat) : Int)), .undef, .undef] = some (.next, [.map1 (.int ((l : Nat) : Int)), .int (if ((l : Nat) : Int) = 0 then -1 else ((l : Nat) : Int)), .undef]) := rfl
  by_cases h0 : l = 0
  · subst h0
    rfl
  · rw [if_neg (show ¬ ((l : Nat) : Int) = 0 from fun q => h0 (Int.natCast_inj.mp q))] at e2
    have ht := tens_len (Nat.pos_of_ne_zero h0) h1
    have hs := len_small (l := l)
    have e3 : ifS (cmpT .Eq (var 1) (negC (iC 1))) (seqS (retS (iC 0)) skipS) skipS [.map1 (.int ((l : Nat) : Int)), .int ((l : Nat) : Int), .undef] = some (.next, [.map1 (.int ((l : Nat) : Int)), .int ((l : Nat) : Int), .undef]) := by
      refine ifS_false ?_
      show some (((l : Nat) : Int) == -1) = some false
      rw [beq_eq_false_iff_ne.mpr (show ((l : Nat) : Int) ≠ -1 from Int.ne_of_gt (Int.lt_of_lt_of_le (by decide) (Int.natCast_nonneg l)))]
    have e4 : asgS 2 (callC maxD (consA (iC 3) (consA (callC lenD (consA (strOfC (var 1)) nilA)) nilA))) [.map1 (.int ((l : Nat) : Int)), .int ((l : Nat) : Int), .undef] = some (.next, [.map1 (.int ((l : Nat) : Int)), .int ((l : Nat) : Int), .int ((if 3 < tens l then tens l else 3 : Nat) : Int)]) := by
      have es : strOfC (var 1) [.map1 (.int ((l : Nat) : Int)), .int ((l : Nat) : Int), .undef] = some (.str (Str.ofString (toString ((l : Nat) : Int)))) := by
        show (if ((l : Nat) : Int).natAbs < 2 ^ 64 then _ else _) = _
        rw [if_pos (by rw [Int.natAbs_natCast]; exact Nat.lt_trans h1 (by decide))]
      have el : callC lenD (consA (strOfC (var 1)) nilA) [.map1 (.int ((l : Nat) : Int)), .int ((l : Nat) : Int), .undef] = some (.int ((tens l : Nat) : Int)) := by
        unfold callC consA
        rw [es]
        show (if (Str.ofString (toString ((l : Nat) : Int))).length ≤ 100000 then some (D.int (Str.ofString (toString ((l : Nat) : Int))).length) else none) = _
        rw [ht, if_pos (Nat.le_trans hs (by decide))]
      unfold asgS
      have ec : callC maxD (consA (iC 3) (consA (callC lenD (consA (strOfC (var 1)) nilA)) nilA)) [.map1 (.int ((l : Nat) : Int)), .int ((l : Nat) : Int), .undef] = some (.int ((if 3 < tens l then tens l else 3 : Nat) : Int)) := by
        have ec2 : consA (iC 3) (consA (callC lenD (consA (strOfC (var 1)) nilA)) nilA) [.map1 (.int ((l : Nat) : Int)), .int ((l : Nat) : Int), .undef] = some [.int 3, .int ((tens l : Nat) : Int)] := by
          unfold consA at el ⊢
          rw [el]
          rfl
        unfold callC
        unfold callC at ec2
        rw [ec2]
        show some (D.int (if ((tens l : Nat) : Int) > 3 then ((tens l : Nat) : Int) else 3)) = _
        by_cases c : 3 < tens l
        · rw [if_pos c, if_pos (show ((tens l : Nat) : Int) > 3 from Int.ofNat_lt.mpr c)]
        · rw [if_neg c, if_neg (show ¬ ((tens l : Nat) : Int) > 3 from fun q => c (Int.ofNat_lt.mp q))]; rfl
      rw [ec]
      rfl
    have e5 : ∀ {g}, ifS (andT (cmpT .Lt (var 2) (callC lenD (consA (sC (Str.ofString "  --")) nilA))) (noneInC 0)) g skipS [.map1 (.int ((l : Nat) : Int)), .int ((l : Nat) : Int), .int ((if 3 < tens l then tens l else 3 : Nat) : Int)] = some (.next, [.map1 (.int ((l : Nat) : Int)), .int ((l : Nat) : Int), .int ((if 3 < tens l then tens l else 3 : Nat) : Int)]) := by
      intro g
      generalize ((if 3 < tens l then tens l else 3 : Nat) : Int) = z
      have ec : cmpT .Lt (var 2) (callC lenD (consA (sC (Str.ofString "  --")) nilA)) [.map1 (.int ((l : Nat) : Int)), .int ((l : Nat) : Int), .int z] = some (decide (z < 4)) := rfl
      have ea : andT (cmpT .Lt (var 2) (callC lenD (consA (sC (Str.ofString "  --")) nilA))) (noneInC 0) [.map1 (.int ((l : Nat) : Int)), .int ((l : Nat) : Int), .int z] = some false := by
        unfold andT
        rw [ec]
        show (if decide (z < 4) = true then some false else some false) = _
        split <;> rfl
      unfold ifS
      rw [ea]
      rfl
    rw [if_neg h0]
    unfold F_line
    refine resD_ret (ρ := [.map1 (.int ((l : Nat) : Int)), .int ((l : Nat) : Int), .int ((if 3 < tens l then tens l else 3 : Nat) : Int)]) rfl ?_
    show g_line [.map1 (.int ((l : Nat) : Int)), .undef, .undef] = _
    unfold g_line
    rw [seqS_next e1, seqS_next e2, seqS_next e3, seqS_next e4, seqS_next e5]
    rfl
theorem wid_run (f : Nat → Nat) (fs : List D) (hf : ∀ p, p < 5 → fs[p]? = some (.int ((f p : Nat) : Int))) (n : Nat) : ∀ (ps : List Nat), (∀ p ∈ ps, p < 5) → ∀ (v : Nat) (j : D),
    ∃ j', forD 3 (seqS (asgS 2 (binC .Add (binC .Mult (var 2) (iC 64)) (idxC (var 1) (var 3)))) (seqS (ifS (cmpT .Eq (binC .BitAnd (binC .RShift (var 0) (var 3)) (iC 1)) (iC 0)) (seqS brkS skipS) skipS) skipS)) skipS
      (ps.map fun (p : Nat) => D.int (0 + (p : Int))) [.int n, .list fs, .int ((v : Nat) : Int), j] = some (.next, [.int n, .list fs, .int ((wl f n v ps : Nat) : Int), j'])
  | [], _, v, j => ⟨j, rfl⟩
  | p :: ps, hp, v, j => by
    have h5 := hp p (.head _)
    have ep : (0 + (p : Int)) = ((p : Nat) : Int) := Int.zero_add _
    have e1 : asgS 2 (binC .Add (binC .Mult (var 2) (iC 64)) (idxC (var 1) (var 3))) [.int n, .list fs, .int ((v : Nat) : Int), .int ((p : Nat) : Int)] = some (.next, [.int n, .list fs, .int ((v * 64 + f p : Nat) : Int), .int ((p : Nat) : Int)]) := by
      have ei : idxC (var 1) (var 3) [.int n, .list fs, .int ((v : Nat) : Int), .int ((p : Nat) : Int)] = some (.int ((f p : Nat) : Int)) := by
        rw [idxC_of (a := .list fs) (b := .int ((p : Nat) : Int)) rfl rfl, idx_nat (Nat.lt_trans h5 (by decide)), hf p h5]
      unfold asgS binC
      rw [ei]
      rfl
    have e2 : cmpT .Eq (binC .BitAnd (binC .RShift (var 0) (var 3)) (iC 1)) (iC 0) [.int n, .list fs, .int ((v * 64 + f p : Nat) : Int), .int ((p : Nat) : Int)] = some (!n.testBit p) := by
      have eb : binC .BitAnd (binC .RShift (var 0) (var 3)) (iC 1) [.int n, .list fs, .int ((v * 64 + f p : Nat) : Int), .int ((p : Nat) : Int)] = some (.int ((bN n p : Nat) : Int)) := by
        show (((if 0 ≤ ((p : Nat) : Int) then some (D.int ((n : Int).fdiv (2 ^ ((p : Nat) : Int).toNat))) else none)).bind fun a => (some (D.int 1)).bind fun b => binD .BitAnd a b) = _
        rw [if_pos (Int.natCast_nonneg p), Int.toNat_natCast, ← bitc]
        rfl
      unfold cmpT
      rw [eb]
      show some (((bN n p : Nat) : Int) == 0) = _
      unfold bN
      cases n.testBit p <;> rfl
    rw [List.map_cons, forD, if_pos (by simp), ep, show ([D.int n, D.list fs, D.int ((v : Nat) : Int), j] : List D).set 3 (.int ((p : Nat) : Int)) = [.int n, .list fs, .int ((v : Nat) : Int), .int ((p : Nat) : Int)] from rfl, seqS_next e1]
    unfold wl
    cases c : n.testBit p with
    | true =>
      rw [c] at e2
      have e3 : ifS (cmpT .Eq (binC .BitAnd (binC .RShift (var 0) (var 3)) (iC 1)) (iC 0)) (seqS brkS skipS) skipS [.int n, .list fs, .int ((v * 64 + f p : Nat) : Int), .int ((p : Nat) : Int)] = some (.next, [.int n, .list fs, .int ((v * 64 + f p : Nat) : Int), .int ((p : Nat) : Int)]) := ifS_false e2
      rw [seqS_next e3, if_pos rfl]
      exact wid_run f fs hf n ps (fun q hq => hp q (.tail _ hq)) _ _
    | false =>
      rw [c] at e2
      have e3 : ifS (cmpT .Eq (binC .BitAnd (binC .RShift (var 0) (var 3)) (iC 1)) (iC 0)) (seqS brkS skipS) skipS [.int n, .list fs, .int ((v * 64 + f p : Nat) : Int), .int ((p : Nat) : Int)] = some (.brk, [.int n, .list fs, .int ((v * 64 + f p : Nat) : Int), .int ((p : Nat) : Int)]) := ifS_true e2
      rw [seqS_brk e3, if_neg (by simp)]
      exact ⟨_, rfl⟩
theorem wid_eq (f : Nat → Nat) (fs : List D) (hf : ∀ p, p < 5 → fs[p]? = some (.int ((f p : Nat) : Int))) (h64 : ∀ p, f p < 64) (n : Nat) : F_wid [.int n, .list fs] = some (.int ((widN f n : Nat) : Int)) := by
  obtain ⟨j, e2⟩ := wid_run f fs hf n [0, 1, 2, 3, 4] (by simp) 0 .undef
  have hb : lineN f n < 2 ^ 30 := Nat.lt_of_lt_of_le (wl_lt f h64 n [0, 1, 2, 3, 4] 0) (by decide)
  have e1 : asgS 2 (iC 0) [.int n, .list fs, .undef, .undef] = some (.next, [.int n, .list fs, .int ((0 : Nat) : Int), .undef]) := rfl
  have e2' : forS 3 (rangeC (iC 5)) (seqS (asgS 2 (binC .Add (binC .Mult (var 2) (iC 64)) (idxC (var 1) (var 3)))) (seqS (ifS (cmpT .Eq (binC .BitAnd (binC .RShift (var 0) (var 3)) (iC 1)) (iC 0)) (seqS brkS skipS) skipS) skipS)) skipS [.int n, .list fs, .int ((0 : Nat) : Int), .undef]
      = some (.next, [.int n, .list fs, .int ((lineN f n : Nat) : Int), j]) := e2
  unfold F_wid
  by_cases h0 : lineN f n = 0
  · rw [h0] at e2'
    have e3 : ifS (cmpT .Eq (var 2) (iC 0)) (seqS (retS (iC 0)) skipS) skipS [.int n, .list fs, .int ((0 : Nat) : Int), j] = some (.ret (.int 0), [.int n, .list fs, .int ((0 : Nat) : Int), j]) := rfl
    refine resD_ret (ρ := [.int n, .list fs, .int ((0 : Nat) : Int), j]) rfl ?_
    show g_wid [.int n, .list fs, .undef, .undef] = _
    unfold g_wid
    rw [seqS_next e1, seqS_next e2', seqS_ret e3]
    unfold widN
    rw [if_pos h0]
    rfl
  · have e3 : ifS (cmpT .Eq (var 2) (iC 0)) (seqS (retS (iC 0)) skipS) skipS [.int n, .list fs, .int ((lineN f n : Nat) : Int), j] = some (.next, [.int n, .list fs, .int ((lineN f n : Nat) : Int), j]) := by
      refine ifS_false ?_
      show some (((lineN f n : Nat) : Int) == 0) = some false
      rw [beq_eq_false_iff_ne.mpr (show ((lineN f n : Nat) : Int) ≠ 0 from fun q => h0 (Int.natCast_inj.mp q))]
    have ec : compC (rangeC (iC 10)) (cmpT .GtE (var 3) (binC .Pow (iC 10) (var 0))) (var 0) [.int n, .list fs, .int ((lineN f n : Nat) : Int), j] = some (.list (((List.range 10).filter fun k => decide (10 ^ k ≤ lineN f n)).map fun k => .int ((k : Nat) : Int))) := by
      have er : rangeC (iC 10) [.int n, .list fs, .int ((lineN f n : Nat) : Int), j] = some ((List.range 10).map fun k => .int ((k : Nat) : Int)) := rfl
      unfold compC
      rw [er]
      rw [Option.bind_some, if_pos (by simp)]
      rw [compD_filter (fun k => D.int ((k : Nat) : Int)) (fun k => decide (10 ^ k ≤ lineN f n)) (fun k => D.int ((k : Nat) : Int))]
      · rfl
      · intro k hk
        have hk := List.mem_range.mp hk
        refine ⟨?_, rfl⟩
        show ((if 0 ≤ ((k : Nat) : Int) ∧ ((k : Nat) : Int) ≤ 1000 ∧ (10 : Int).natAbs < 2 ^ 64 then some (D.int (10 ^ ((k : Nat) : Int).toNat)) else none).bind fun b => cmpD .GtE (.int ((lineN f n : Nat) : Int)) b) = _
        rw [if_pos ⟨Int.natCast_nonneg k, Int.ofNat_le.mpr (Nat.le_of_lt (Nat.lt_trans hk (by decide))), by decide⟩, Int.toNat_natCast]
        show some (decide ((10 : Int) ^ k ≤ ((lineN f n : Nat) : Int))) = _
        rw [show ((10 : Int) ^ k) = ((10 ^ k : Nat) : Int) from by rw [Int.natCast_pow]; rfl]
        rw [decide_eq_decide.mpr (Int.ofNat_le)]
    have em : callC maxD (consA (iC 3) (consA (callC lenD (consA (compC (rangeC (iC 10)) (cmpT .GtE (var 3) (binC .Pow (iC 10) (var 0))) (var 0)) nilA)) nilA)) [.int n, .list fs, .int ((lineN f n : Nat) : Int), j] = some (.int ((widN f n : Nat) : Int)) := by
      have el : callC lenD (consA (compC (rangeC (iC 10)) (cmpT .GtE (var 3) (binC .Pow (iC 10) (var 0))) (var 0)) nilA) [.int n, .list fs, .int ((lineN f n : Nat) : Int), j] = some (.int ((tens (lineN f n) : Nat) : Int)) := by
        unfold callC consA
        rw [ec]
        show (if (((List.range 10).filter fun k => decide (10 ^ k ≤ lineN f n)).map fun k => D.int ((k : Nat) : Int)).length ≤ 100000 then some (D.int (((List.range 10).filter fun k => decide (10 ^ k ≤ lineN f n)).map fun k => D.int ((k : Nat) : Int)).length) else none) = _
        rw [List.length_map]
        have hs := len_small (l := lineN f n)
        unfold tens at hs ⊢
        rw [if_pos (Nat.le_trans hs (by decide))]
      have ec2 : consA (iC 3) (consA (callC lenD (consA (compC (rangeC (iC 10)) (cmpT .GtE (var 3) (binC .Pow (iC 10) (var 0))) (var 0)) nilA)) nilA) [.int n, .list fs, .int ((lineN f n : Nat) : Int), j] = some [.int 3, .int ((tens (lineN f n) : Nat) : Int)] := by
        unfold consA at el ⊢
        rw [el]
        rfl
      unfold callC
      unfold callC at ec2
      rw [ec2]
      show some (D.int (if ((tens (lineN f n) : Nat) : Int) > 3 then ((tens (lineN f n) : Nat) : Int) else 3)) = _
      unfold widN
      rw [if_neg h0]
      by_cases c : 3 < tens (lineN f n)
      · rw [if_pos c, if_pos (show ((tens (lineN f n) : Nat) : Int) > 3 from Int.ofNat_lt.mpr c)]
      · rw [if_neg c, if_neg (show ¬ ((tens (lineN f n) : Nat) : Int) > 3 from fun q => c (Int.ofNat_lt.mp q))]; rfl
    refine resD_ret (ρ := [.int n, .list fs, .int ((lineN f n : Nat) : Int), j]) rfl ?_
    show g_wid [.int n, .list fs, .undef, .undef] = _
    unfold g_wid
    rw [seqS_next e1, seqS_next e2', seqS_next e3]
    unfold seqS retS
    rw [em]
    rfl
/-! the octets -/
noncomputable def octD (q : Nat × Bool) : D := .int ((q.1 + 64 * (if q.2 then 1 else 0) : Nat) : Int)
noncomputable def vl : Nat → Bool → List (Nat × Bool) → Option Nat
  | v, false, _ => some v
  | _, true, [] => none
  | v, true, (f, c) :: r => vl (v * 64 + f) c r
noncomputable def vbody (I : Addr) : List D → List D → Option (Fl × List D × List D) := (seqX (liftX (augS 2 .LShift (iC 6)))
  (seqX (nextX 1 0 I)
  (seqX (liftX (augS 2 .BitOr (binC .BitAnd (var 1) (iC 63))))
  skipX)))
theorem tab_oct : ((List.range 64).all fun f => [true, false].all fun c => decide (Builtin.bitAnd ((f + 64 * (if c then 1 else 0) : Nat) : Int) 63 = ((f : Nat) : Int)) && decide (Builtin.bitAnd ((f + 64 * (if c then 1 else 0) : Nat) : Int) 64 = if c then 64 else 0)) = true := by decide +kernel
theorem oct_both (f : Nat) (c : Bool) (h : f < 64) : decide (Builtin.bitAnd ((f + 64 * (if c then 1 else 0) : Nat) : Int) 63 = ((f : Nat) : Int)) = true ∧ decide (Builtin.bitAnd ((f + 64 * (if c then 1 else 0) : Nat) : Int) 64 = if c then 64 else 0) = true := Bool.and_eq_true_iff.mp (all_get (all_get tab_oct (List.mem_range.mpr h)) (show c ∈ [true, false] by cases c; exact .tail _ (.head _); exact .head _))
theorem oct_low (f : Nat) (c : Bool) (h : f < 64) : Builtin.bitAnd ((f + 64 * (if c then 1 else 0) : Nat) : Int) 63 = ((f : Nat) : Int) := of_decide_eq_true (oct_both f c h).1
theorem oct_high (f : Nat) (c : Bool) (h : f < 64) : Builtin.bitAnd ((f + 64 * (if c then 1 else 0) : Nat) : Int) 64 = if c then 64 else 0 := of_decide_eq_true (oct_both f c h).2
theorem or_six (v f : Nat) (h : f < 64) : Builtin.bitOr ((v * 64 : Nat) : Int) ((f : Nat) : Int) = ((v * 64 + f : Nat) : Int) := by
  have e : Builtin.bitAnd ((v * 64 : Nat) : Int) ((f : Nat) : Int) = 0 := by
    rw [bitAnd_pp (Int.natCast_nonneg _) (Int.natCast_nonneg _), Int.toNat_natCast, Int.toNat_natCast]
    have h1 : v * 64 ||| f = v * 64 + f := by rw [Nat.mul_comm]; exact (Nat.two_pow_add_eq_or_of_lt (i := 6) h v).symm
    have h2 := nat_or_add_and (v * 64) f
    rw [h1] at h2
    rw [Nat.add_left_cancel (h2.trans (Nat.add_zero _).symm)]
    rfl
  rw [bitOr_and, e, Int.sub_zero, Int.natCast_add]
theorem vtest {I : Addr} {b : Nat} {v : D} {c : Bool} (h : Builtin.bitAnd ((b : Nat) : Int) 64 = if c then 64 else 0) : valT (binC .BitAnd (var 1) (iC 64)) [.addr I, .int ((b : Nat) : Int), v] = some c := by
  have e : binC .BitAnd (var 1) (iC 64) [.addr I, .int ((b : Nat) : Int), v] = some (.int (if c then 64 else 0)) := by
    rw [binC_of (a := .int ((b : Nat) : Int)) (b := .int 64) rfl rfl, ← h]
    rfl
  unfold valT
  rw [e]
  cases c <;> rfl
theorem nextX_eq {i k : Nat} {I : Addr} {ρ : List D} {d : D} {r : List D} (h1 : d.flat = true) (h2 : isAddr I (var k ρ) = true) (h3 : i < ρ.length) : nextX i k I ρ (d :: r) = some (.next, ρ.set i d, r) := by
  unfold nextX
  exact if_pos ⟨h1, h2, h3⟩
theorem vloop (I : Addr) : ∀ (r : List (Nat × Bool)) (m j v b : Nat) (c : Bool) (l : Nat), r.length < m → j + r.length ≤ 10 → v < 64 ^ j → (∀ q ∈ r, q.1 < 64) → (Builtin.bitAnd ((b : Nat) : Int) 64 = if c then 64 else 0) → vl v c r = some l →
    ∃ b' r', whileXD (valT (binC .BitAnd (var 1) (iC 64))) (vbody I) m [.addr I, .int ((b : Nat) : Int), .int ((v : Nat) : Int)] (r.map octD) = some (.next, [.addr I, b', .int ((l : Nat) : Int)], r')
  | r, 0, _, _, _, _, _, hm, _, _, _, _, _ => absurd hm (Nat.not_lt_zero _)
  | r, m + 1, j, v, b, false, l, _, _, _, _, hb, hl => by
    have hl' : v = l := by
      have : vl v false r = some v := by cases r <;> rfl
      exact Option.some.inj (this.symm.trans hl)
    subst hl'
    unfold whileXD
    rw [vtest hb]
    exact ⟨_, _, rfl⟩
  | [], m + 1, j, v, b, true, l, _, _, _, _, hb, hl => by cases hl
  | (f, c) :: r, m + 1, j, v, b, true, l, hm, hj, hv, hq, hb, hl => by
    have hf : f < 64 := hq _ (.head _)
    rw [List.length_cons] at hm hj
    have hv2 : v < 64 ^ 10 := Nat.lt_of_lt_of_le hv (Nat.pow_le_pow_right (by decide) (Nat.le_trans (Nat.le_add_right _ _) hj))
    have hv3 : v * 64 + f < 64 ^ (j + 1) := by rw [Nat.pow_succ]; exact Nat.lt_of_lt_of_le (Nat.add_lt_add_left hf _) (by rw [← Nat.succ_mul]; exact Nat.mul_le_mul_right 64 hv)
    have e1 : liftX (augS 2 .LShift (iC 6)) [.addr I, .int ((b : Nat) : Int), .int ((v : Nat) : Int)] (((f, c) :: r).map octD) = some (.next, [.addr I, .int ((b : Nat) : Int), .int ((v * 64 : Nat) : Int)], ((f, c) :: r).map octD) := by
      refine liftX_next ?_
      show (augD .LShift (.int ((v : Nat) : Int)) (.int 6)).bind _ = _
      have : augD .LShift (.int ((v : Nat) : Int)) (.int 6) = some (.int ((v * 64 : Nat) : Int)) := by
        show (if (0 : Int) ≤ 6 ∧ (6 : Int) ≤ 1000 ∧ ((v : Nat) : Int).natAbs < 2 ^ 64 then some (D.int (((v : Nat) : Int) * 2 ^ (6 : Int).toNat)) else none) = _
        rw [if_pos ⟨by decide, by decide, by rw [Int.natAbs_natCast]; exact Nat.lt_trans hv2 (by decide)⟩]
        rfl
      rw [this]
      rfl
    have e2 : nextX 1 0 I [.addr I, .int ((b : Nat) : Int), .int ((v * 64 : Nat) : Int)] (((f, c) :: r).map octD) = some (.next, [.addr I, octD (f, c), .int ((v * 64 : Nat) : Int)], r.map octD) :=
      nextX_eq rfl (isAddr_self I) (by simp)
    have e3 : liftX (augS 2 .BitOr (binC .BitAnd (var 1) (iC 63))) [.addr I, octD (f, c), .int ((v * 64 : Nat) : Int)] (r.map octD) = some (.next, [.addr I, octD (f, c), .int ((v * 64 + f : Nat) : Int)], r.map octD) := by
      refine liftX_next ?_
      have eb : binC .BitAnd (var 1) (iC 63) [.addr I, octD (f, c), .int ((v * 64 : Nat) : Int)] = some (.int ((f : Nat) : Int)) := by
        rw [binC_of (a := octD (f, c)) (b := .int 63) rfl rfl]
        show some (D.int (Builtin.bitAnd ((f + 64 * (if c then 1 else 0) : Nat) : Int) 63)) = _
        rw [oct_low f c hf]
      have ea : augD .BitOr (.int ((v * 64 : Nat) : Int)) (.int ((f : Nat) : Int)) = some (.int ((v * 64 + f : Nat) : Int)) := by
        show some (D.int (Builtin.bitOr ((v * 64 : Nat) : Int) ((f : Nat) : Int))) = _
        rw [or_six v f hf]
      show ((binC .BitAnd (var 1) (iC 63) [.addr I, octD (f, c), .int ((v * 64 : Nat) : Int)]).bind fun b => (augD .BitOr (.int ((v * 64 : Nat) : Int)) b).bind fun d => setS 2 [.addr I, octD (f, c), .int ((v * 64 : Nat) : Int)] d) = _
      rw [eb, Option.bind_some, ea]
      rfl
    unfold whileXD
    rw [vtest hb]
    simp only [Option.bind_some, if_true]
    unfold vbody
    rw [seqX_next e1, seqX_next e2, seqX_next e3]
    exact vloop I r m (j + 1) (v * 64 + f) (f + 64 * (if c then 1 else 0)) c l (Nat.lt_of_succ_lt_succ hm) (Nat.le_trans (Nat.le_of_eq (Nat.add_right_comm j 1 r.length)) hj) hv3 (fun q h => hq q (.tail _ h)) (oct_high f c hf) hl
theorem vint_eq {f : Nat} {c : Bool} {r : List (Nat × Bool)} {l : Nat} (hlen : r.length ≤ 8) (hq : ∀ q ∈ (f, c) :: r, q.1 < 64) (hl : vl f c r = some l) : F_vint (((f, c) :: r).map octD) = some (.int ((l : Nat) : Int)) := by
  refine F_vint_of ⟨rfl, fun I => ?_⟩
  have hf : f < 64 := hq _ (.head _)
  obtain ⟨b', r', e3⟩ := vloop I r 9 1 f (f + 64 * (if c then 1 else 0)) c l (Nat.lt_succ_of_le hlen) (Nat.le_trans (Nat.add_le_add_left hlen 1) (by decide)) (by simpa using hf) (fun q h => hq q (.tail _ h)) (oct_high f c hf) hl
  have e1 : nextX 1 0 I [.addr I, .undef, .undef] (((f, c) :: r).map octD) = some (.next, [.addr I, octD (f, c), .undef], r.map octD) := nextX_eq rfl (isAddr_self I) (by simp)
  have e2 : liftX (asgS 2 (binC .BitAnd (var 1) (iC 63))) [.addr I, octD (f, c), .undef] (r.map octD) = some (.next, [.addr I, octD (f, c), .int ((f : Nat) : Int)], r.map octD) := by
    refine liftX_next ?_
    unfold asgS
    rw [binC_of (a := octD (f, c)) (b := .int 63) rfl rfl]
    show setS 2 [.addr I, octD (f, c), .undef] (D.int (Builtin.bitAnd ((f + 64 * (if c then 1 else 0) : Nat) : Int) 63)) = _
    rw [oct_low f c hf]
    rfl
  unfold vbody at e3
  unfold G_vint
  refine ⟨[.addr I, b', .int ((l : Nat) : Int)], r', ?_⟩
  rw [seqX_next e1, seqX_next e2]
  have e3' : whileXD (valT (binC .BitAnd (var 1) (iC 64))) (seqX (liftX (augS 2 .LShift (iC 6))) (seqX (nextX 1 0 I) (seqX (liftX (augS 2 .BitOr (binC .BitAnd (var 1) (iC 63)))) skipX))) 9 [.addr I, octD (f, c), .int ((f : Nat) : Int)] (r.map octD) = some (.next, [.addr I, b', .int ((l : Nat) : Int)], r') := e3
  rw [seqX_next e3']
  rfl
/-- octets of a row -/
theorem vl_wl (f : Nat → Nat) (n : Nat) : ∀ (ps : List Nat) (p v : Nat), (∃ q ∈ p :: ps, n.testBit q = false) → vl (v * 64 + f p) (n.testBit p) (ps.map fun q => (f q, n.testBit q)) = some (wl f n v (p :: ps))
  | ps, p, v, h => by
    unfold wl
    cases c : n.testBit p with
    | false => cases ps <;> rfl
    | true =>
      rw [if_pos rfl]
      obtain ⟨q, hq, hb⟩ := h
      cases ps with
      | nil =>
        rw [List.mem_singleton.mp hq, c] at hb
        cases hb
      | cons p' ps =>
        rw [List.map_cons]
        show vl ((v * 64 + f p) * 64 + f p') (n.testBit p') _ = _
        refine vl_wl f n ps p' (v * 64 + f p) ⟨q, ?_, hb⟩
        rcases List.mem_cons.mp hq with rfl | hq
        · rw [c] at hb; cases hb
        · exact hq
theorem wl_stop (f : Nat → Nat) (n : Nat) (qs : List Nat) : ∀ (ps : List Nat) (v : Nat), (∃ q ∈ ps, n.testBit q = false) → wl f n v (ps ++ qs) = wl f n v ps
  | [], _, h => by obtain ⟨q, hq, _⟩ := h; cases hq
  | p :: ps, v, h => by
    rw [List.cons_append]
    unfold wl
    cases c : n.testBit p with
    | false => rfl
    | true =>
      rw [if_pos rfl, if_pos rfl]
      obtain ⟨q, hq, hb⟩ := h
      refine wl_stop f n qs ps _ ⟨q, ?_, hb⟩
      rcases List.mem_cons.mp hq with rfl | hq
      · rw [c] at hb; cases hb
      · exact hq
theorem width_eq (f : Nat → Nat) (h64 : ∀ p, f p < 64) {k n : Nat} (hk : k = 3 ∨ k = 4) (hn : n < 2 ^ k) : ∃ l : Nat, F_vint ((List.range (k + 1)).map fun p => octD (f p, n.testBit p)) = some (.int ((l : Nat) : Int)) ∧ F_line [.map1 (.int ((l : Nat) : Int))] = some (.int ((widN f n : Nat) : Int)) := by
  have hb : lineN f n < 2 ^ 30 := Nat.lt_of_lt_of_le (wl_lt f h64 n [0, 1, 2, 3, 4] 0) (by decide)
  have hk0 : n.testBit k = false := Nat.testBit_lt_two_pow hn
  refine ⟨lineN f n, ?_, (line_eq hb).trans rfl⟩
  rcases hk with rfl | rfl
  · have e : wl f n 0 ([0, 1, 2, 3] ++ [4]) = wl f n 0 [0, 1, 2, 3] := wl_stop f n [4] [0, 1, 2, 3] 0 ⟨3, by simp, hk0⟩
    have h := vl_wl f n [1, 2, 3] 0 0 ⟨3, by simp, hk0⟩
    rw [← e, Nat.zero_mul, Nat.zero_add] at h
    exact vint_eq (f := f 0) (c := n.testBit 0) (r := [1, 2, 3].map fun q => (f q, n.testBit q)) (by simp) (by intro q hq; rcases List.mem_cons.mp hq with rfl | hq; exact h64 0; obtain ⟨p, _, rfl⟩ := List.mem_map.mp hq; exact h64 p) h
  · have h := vl_wl f n [1, 2, 3, 4] 0 0 ⟨4, by simp, hk0⟩
    rw [Nat.zero_mul, Nat.zero_add] at h
    exact vint_eq (f := f 0) (c := n.testBit 0) (r := [1, 2, 3, 4].map fun q => (f q, n.testBit q)) (by simp) (by intro q hq; rcases List.mem_cons.mp hq with rfl | hq; exact h64 0; obtain ⟨p, _, rfl⟩ := List.mem_map.mp hq; exact h64 p) h
end
end Mine
end
section
open PySem PySem.W PyProof.Rows PySem.Calls
set_option Elab.async false
set_option maxRecDepth 100000
namespace Mine
noncomputable section
/-! whole numbers -/
theorem mod_nat {a m : Nat} (h0 : 0 < m) (h : m < 1073741824) : binD .Mod (.int ((a : Nat) : Int)) (.int ((m : Nat) : Int)) = some (.int ((a % m : Nat) : Int)) := by
  show (if 0 < ((m : Nat) : Int) ∧ ((m : Nat) : Int) < 1073741824 then some (D.int (((a : Nat) : Int).fmod ((m : Nat) : Int))) else none) = _
  rw [if_pos ⟨Int.natCast_pos.mpr h0, Int.ofNat_lt.mpr h⟩, Int.ofNat_fmod]
theorem div_nat {a m : Nat} (h0 : 0 < m) (h : m < 1073741824) : binD .FloorDiv (.int ((a : Nat) : Int)) (.int ((m : Nat) : Int)) = some (.int ((a / m : Nat) : Int)) := by
  show (if 0 < ((m : Nat) : Int) ∧ ((m : Nat) : Int) < 1073741824 then some (D.int (((a : Nat) : Int).fdiv ((m : Nat) : Int))) else none) = _
  rw [if_pos ⟨Int.natCast_pos.mpr h0, Int.ofNat_lt.mpr h⟩, Int.fdiv_eq_ediv_of_nonneg _ (Int.natCast_nonneg m), Int.natCast_ediv]
theorem add_nat {a b : Nat} : binD .Add (.int ((a : Nat) : Int)) (.int ((b : Nat) : Int)) = some (.int ((a + b : Nat) : Int)) := rfl
theorem mul_nat {a b : Nat} (h : b < 2 ^ 64) : binD .Mult (.int ((a : Nat) : Int)) (.int ((b : Nat) : Int)) = some (.int ((a * b : Nat) : Int)) := by
  show (if ((b : Nat) : Int).natAbs < 2 ^ 64 then some (D.int (((a : Nat) : Int) * ((b : Nat) : Int))) else none) = _
  rw [if_pos (by rw [Int.natAbs_natCast]; exact h), Int.natCast_mul]
theorem sub_nat {a b : Nat} (h : b ≤ a) : binD .Sub (.int ((a : Nat) : Int)) (.int ((b : Nat) : Int)) = some (.int ((a - b : Nat) : Int)) := by
  show some (D.int (((a : Nat) : Int) - ((b : Nat) : Int))) = _
  rw [Int.ofNat_sub h]
theorem pow_nat {k : Nat} (h : k ≤ 1000) : binD .Pow (.int ((2 : Nat) : Int)) (.int ((k : Nat) : Int)) = some (.int ((2 ^ k : Nat) : Int)) := by
  show (if 0 ≤ ((k : Nat) : Int) ∧ ((k : Nat) : Int) ≤ 1000 ∧ (((2 : Nat) : Int)).natAbs < 2 ^ 64 then some (D.int (((2 : Nat) : Int) ^ ((k : Nat) : Int).toNat)) else none) = _
  rw [if_pos ⟨Int.natCast_nonneg k, Int.ofNat_le.mpr h, by decide⟩, Int.toNat_natCast, Int.natCast_pow]
theorem shl_nat {a k : Nat} (ha : a < 2 ^ 64) (h : k ≤ 1000) : binD .LShift (.int ((a : Nat) : Int)) (.int ((k : Nat) : Int)) = some (.int ((a * 2 ^ k : Nat) : Int)) := by
  show (if 0 ≤ ((k : Nat) : Int) ∧ ((k : Nat) : Int) ≤ 1000 ∧ ((a : Nat) : Int).natAbs < 2 ^ 64 then some (D.int (((a : Nat) : Int) * 2 ^ ((k : Nat) : Int).toNat)) else none) = _
  rw [if_pos ⟨Int.natCast_nonneg k, Int.ofNat_le.mpr h, by rw [Int.natAbs_natCast]; exact ha⟩, Int.toNat_natCast, Int.natCast_mul, kbt_cast]
theorem and_nat {a b : Nat} : binD .BitAnd (.int ((a : Nat) : Int)) (.int ((b : Nat) : Int)) = some (.int ((a &&& b : Nat) : Int)) := by
  show some (D.int (Builtin.bitAnd ((a : Nat) : Int) ((b : Nat) : Int))) = _
  rw [bitAnd_pp (Int.natCast_nonneg a) (Int.natCast_nonneg b), Int.toNat_natCast, Int.toNat_natCast]
theorem or_nat {a b : Nat} : binD .BitOr (.int ((a : Nat) : Int)) (.int ((b : Nat) : Int)) = some (.int ((a ||| b : Nat) : Int)) := by
  show some (D.int (Builtin.bitOr ((a : Nat) : Int) ((b : Nat) : Int))) = _
  rw [bitOr_and, bitAnd_pp (Int.natCast_nonneg a) (Int.natCast_nonneg b), Int.toNat_natCast, Int.toNat_natCast]
  have := nat_or_add_and a b
  rw [show ((a : Nat) : Int) + ((b : Nat) : Int) - ((a &&& b : Nat) : Int) = ((a ||| b : Nat) : Int) from Int.sub_eq_iff_eq_add.mpr (by rw [← Int.natCast_add, ← Int.natCast_add, this])]
section
variable {f g : FD} {ρ : List D} {a b m k : Nat}
theorem modC (h1 : f ρ = some (.int ((a : Nat) : Int))) (h2 : g ρ = some (.int ((m : Nat) : Int))) (h0 : 0 < m) (h : m < 1073741824) : binC .Mod f g ρ = some (.int ((a % m : Nat) : Int)) := (binC_of h1 h2).trans (mod_nat h0 h)
theorem divC (h1 : f ρ = some (.int ((a : Nat) : Int))) (h2 : g ρ = some (.int ((m : Nat) : Int))) (h0 : 0 < m) (h : m < 1073741824) : binC .FloorDiv f g ρ = some (.int ((a / m : Nat) : Int)) := (binC_of h1 h2).trans (div_nat h0 h)
theorem addC (h1 : f ρ = some (.int ((a : Nat) : Int))) (h2 : g ρ = some (.int ((b : Nat) : Int))) : binC .Add f g ρ = some (.int ((a + b : Nat) : Int)) := (binC_of h1 h2).trans add_nat
theorem mulC (h1 : f ρ = some (.int ((a : Nat) : Int))) (h2 : g ρ = some (.int ((b : Nat) : Int))) (h : b < 2 ^ 64) : binC .Mult f g ρ = some (.int ((a * b : Nat) : Int)) := (binC_of h1 h2).trans (mul_nat h)
theorem subC (h1 : f ρ = some (.int ((a : Nat) : Int))) (h2 : g ρ = some (.int ((b : Nat) : Int))) (h : b ≤ a) : binC .Sub f g ρ = some (.int ((a - b : Nat) : Int)) := (binC_of h1 h2).trans (sub_nat h)
theorem powC (h1 : f ρ = some (.int ((2 : Nat) : Int))) (h2 : g ρ = some (.int ((k : Nat) : Int))) (h : k ≤ 1000) : binC .Pow f g ρ = some (.int ((2 ^ k : Nat) : Int)) := (binC_of h1 h2).trans (pow_nat h)
theorem shlC (h1 : f ρ = some (.int ((a : Nat) : Int))) (h2 : g ρ = some (.int ((k : Nat) : Int))) (ha : a < 2 ^ 64) (h : k ≤ 1000) : binC .LShift f g ρ = some (.int ((a * 2 ^ k : Nat) : Int)) := (binC_of h1 h2).trans (shl_nat ha h)
theorem andC (h1 : f ρ = some (.int ((a : Nat) : Int))) (h2 : g ρ = some (.int ((b : Nat) : Int))) : binC .BitAnd f g ρ = some (.int ((a &&& b : Nat) : Int)) := (binC_of h1 h2).trans and_nat
theorem bitC (h1 : f ρ = some (.int ((a : Nat) : Int))) (h2 : g ρ = some (.int ((k : Nat) : Int))) : binC .BitAnd (binC .RShift f g) (iC 1) ρ = some (.int ((bN a k : Nat) : Int)) := by
  have e1 : binC .RShift f g ρ = some (.int (((a : Nat) : Int).fdiv (2 ^ k))) := by
    rw [binC_of h1 h2]
    show (if 0 ≤ ((k : Nat) : Int) then some (D.int (((a : Nat) : Int).fdiv (2 ^ ((k : Nat) : Int).toNat))) else none) = _
    rw [if_pos (Int.natCast_nonneg k), Int.toNat_natCast]
  rw [binC_of e1 (b := .int 1) rfl, ← bitc]
  rfl
theorem asgS_of {i : Nat} {d : D} {ρ' : List D} (h : f ρ = some d) (hs : setS i ρ d = some (.next, ρ')) : asgS i f ρ = some (.next, ρ') := by unfold asgS; rw [h]; exact hs
theorem tup2S_of {i j : Nat} {x y : D} {ρ' : List D} (h1 : f ρ = some x) (h2 : g ρ = some y) (hx : x.flat = true) (hy : y.flat = true) (hi : i < ρ.length) (hj : j < ρ.length) (hs : (ρ.set j y).set i x = ρ') : tup2S i j f g ρ = some (.next, ρ') := by
  unfold tup2S
  rw [h1, h2]
  show (if _ then _ else _) = _
  rw [if_pos ⟨hx, hy, hi, hj⟩, hs]
end
/-! what the row says -/
noncomputable def sN (a : Nat → Nat) : Nat := a 0 % 5 + 1
noncomputable def kN (a : Nat → Nat) : Nat := 3 + a 2 % 2
noncomputable def spB (a : Nat → Nat) : Bool := a 1 % 2 == 1
noncomputable def fiN (a : Nat → Nat) : Nat := a 1 / 2 % 3
noncomputable def seN (a : Nat → Nat) : Nat := a 1 / 6 % 3
noncomputable def frN (a : Nat → Nat) : Nat := a 1 / 18 % 2
noncomputable def baN (a : Nat → Nat) : Nat := a 1 / 36 % 2
noncomputable def wN (a : Nat → Nat) : Nat := a 2 / 2 % (2 ^ kN a - 1) + 1
noncomputable def shN (a : Nat → Nat) : Nat := a 2 / 30 % 5
noncomputable def figN (a : Nat → Nat) (p : Nat) : Nat := a (3 + p) % 64
theorem kN_or (a : Nat → Nat) : kN a = 3 ∨ kN a = 4 := (Nat.mod_two_eq_zero_or_one (a 2)).imp (fun h => congrArg (3 + ·) h) fun h => congrArg (3 + ·) h
theorem sN_le (a : Nat → Nat) : 1 ≤ sN a ∧ sN a ≤ 5 := ⟨Nat.le_add_left 1 _, Nat.mod_lt _ (by decide)⟩
theorem fiN_lt (a : Nat → Nat) : fiN a < 3 := Nat.mod_lt _ (by decide)
theorem seN_lt (a : Nat → Nat) : seN a < 3 := Nat.mod_lt _ (by decide)
theorem frN_lt (a : Nat → Nat) : frN a < 2 := Nat.mod_lt _ (by decide)
theorem baN_lt (a : Nat → Nat) : baN a < 2 := Nat.mod_lt _ (by decide)
theorem shN_lt (a : Nat → Nat) : shN a < 5 := Nat.mod_lt _ (by decide)
theorem kN_pow (a : Nat → Nat) : 0 < 2 ^ kN a - 1 ∧ 2 ^ kN a ≤ 16 := by rcases kN_or a with h | h <;> rw [h] <;> decide
theorem wN_le (a : Nat → Nat) : 1 ≤ wN a ∧ wN a ≤ 15 := ⟨Nat.le_add_left 1 _, Nat.le_trans (Nat.succ_le_of_lt (Nat.mod_lt _ (kN_pow a).1)) (Nat.sub_le_sub_right (kN_pow a).2 1)⟩
theorem figN_lt (a : Nat → Nat) (p : Nat) : figN a p < 64 := Nat.mod_lt _ (by decide)
noncomputable def rowD (a : Nat → Nat) : List D := [.int (a 0 : Nat), .int (a 1 : Nat), .int (a 2 : Nat), .int (a 3 : Nat), .int (a 4 : Nat), .int (a 5 : Nat), .int (a 6 : Nat), .int (a 7 : Nat), .int (a 8 : Nat), .int (a 9 : Nat), .int (a 10 : Nat), .int (a 11 : Nat)]
noncomputable def figD (a : Nat → Nat) : List D := [.int (figN a 0 : Nat), .int (figN a 1 : Nat), .int (figN a 2 : Nat), .int (figN a 3 : Nat), .int (figN a 4 : Nat)]
noncomputable def spotD (a : Nat → Nat) : List D := ((spotsN (kN a) (fiN a) (seN a) (frN a) (baN a)).map Int.ofNat).map D.int
noncomputable def full (sc : D) (a : Nat → Nat) : List D := [sc, .list (rowD a), .int (sN a : Nat), .int (kN a : Nat), .str (signOf (spB a)), .int (fiN a : Nat), .int (seN a : Nat), .int (frN a : Nat), .int (baN a : Nat),
  .str (wishText (spB a) (fiN a) (seN a) (frN a) (baN a)), .list (spotD a), .int (wN a : Nat), .int (shN a : Nat), .str (askText (wN a * 2 ^ shN a)), .list (figD a), .list []]
noncomputable def pre (sc : D) (a : Nat → Nat) (m : Nat) : List D := (full sc a).take m ++ List.replicate (35 - m) .undef
noncomputable def wishFrom (sg fi se fr ba : D) : Option D := ((((binD .Mult (.str (Str.ofString "...")) fr).bind fun a => (binD .Mult sg fi).bind fun b => binD .Add a b).bind fun x => binD .Add x (.str (Str.ofString "..."))).bind fun x => (binD .Mult sg se).bind fun y => binD .Add x y).bind fun x => (binD .Mult (.str (Str.ofString "...")) ba).bind fun y => binD .Add x y
theorem tab_wish : ([true, false].all fun sp => (List.range 3).all fun fi => (List.range 3).all fun se => (List.range 2).all fun fr => (List.range 2).all fun ba => decide (strD (wishFrom (.str (signOf sp)) (.int (fi : Nat)) (.int (se : Nat)) (.int (fr : Nat)) (.int (ba : Nat))) = some (wishText sp fi se fr ba))) = true := by decide +kernel
theorem wish_eq {fi se fr ba : Nat} (sp : Bool) (hfi : fi < 3) (hse : se < 3) (hfr : fr < 2) (hba : ba < 2) : wishFrom (.str (signOf sp)) (.int (fi : Nat)) (.int (se : Nat)) (.int (fr : Nat)) (.int (ba : Nat)) = some (.str (wishText sp fi se fr ba)) := by
  have h := all_get (all_get (all_get (all_get (all_get tab_wish (show sp ∈ [true, false] by cases sp <;> simp)) (List.mem_range.mpr hfi)) (List.mem_range.mpr hse)) (List.mem_range.mpr hfr)) (List.mem_range.mpr hba)
  exact strD_some (of_decide_eq_true h)
section
variable (sc : D) (a : Nat → Nat)
theorem p2_eq : g_p2 (pre sc a 2) = some (.next, pre sc a 3) :=
  asgS_of (d := .int (sN a : Nat)) (addC (b := 1) (modC (a := a 0) (m := 5) rfl rfl (by decide) (by decide)) rfl) rfl
theorem p3_eq : g_p3 (pre sc a 3) = some (.next, pre sc a 4) :=
  asgS_of (d := .int (kN a : Nat)) (addC (a := 3) rfl (modC (a := a 2) (m := 2) rfl rfl (by decide) (by decide))) rfl
theorem p4_eq : g_p4 (pre sc a 4) = some (.next, pre sc a 5) := by
  refine asgS_of (d := .str (signOf (spB a))) ?_ rfl
  have e : cmpT .Eq (binC .Mod (idxC (var 1) (iC 1)) (iC 2)) (iC 1) (pre sc a 4) = some (spB a) := by
    rw [cmpT_of (modC (a := a 1) (m := 2) rfl rfl (by decide) (by decide)) (b := .int ((1 : Nat) : Int)) rfl]
    show some (((a 1 % 2 : Nat) : Int) == ((1 : Nat) : Int)) = some (a 1 % 2 == 1)
    rcases Nat.mod_two_eq_zero_or_one (a 1) with h | h <;> rw [h] <;> rfl
  unfold ifC
  rw [e]
  unfold signOf
  cases spB a <;> rfl
theorem p5_eq : g_p5 (pre sc a 5) = some (.next, pre sc a 7) :=
  tup2S_of (x := .int (fiN a : Nat)) (y := .int (seN a : Nat)) (modC (m := 3) (divC (a := a 1) (m := 2) rfl rfl (by decide) (by decide)) rfl (by decide) (by decide)) (modC (m := 3) (divC (a := a 1) (m := 6) rfl rfl (by decide) (by decide)) rfl (by decide) (by decide)) rfl rfl (Nat.lt_of_sub_eq_succ rfl) (Nat.lt_of_sub_eq_succ rfl) rfl
theorem p6_eq : g_p6 (pre sc a 7) = some (.next, pre sc a 9) :=
  tup2S_of (x := .int (frN a : Nat)) (y := .int (baN a : Nat)) (modC (m := 2) (divC (a := a 1) (m := 18) rfl rfl (by decide) (by decide)) rfl (by decide) (by decide)) (modC (m := 2) (divC (a := a 1) (m := 36) rfl rfl (by decide) (by decide)) rfl (by decide) (by decide)) rfl rfl (Nat.lt_of_sub_eq_succ rfl) (Nat.lt_of_sub_eq_succ rfl) rfl
theorem p7_eq : g_p7 (pre sc a 9) = some (.next, pre sc a 10) :=
  asgS_of (d := .str (wishText (spB a) (fiN a) (seN a) (frN a) (baN a))) (wish_eq (spB a) (fiN_lt a) (seN_lt a) (frN_lt a) (baN_lt a)) rfl
theorem p8_eq : g_p8 (pre sc a 10) = some (.next, pre sc a 11) :=
  asgS_of (d := .list (spotD a)) (spots_eq (kN_or a) (fiN_lt a) (seN_lt a) (frN_lt a) (baN_lt a)) rfl
theorem p9_eq : g_p9 (pre sc a 11) = some (.next, pre sc a 12) :=
  asgS_of (d := .int (wN a : Nat)) (addC (b := 1) (modC (m := 2 ^ kN a - 1) (divC (a := a 2) (m := 2) rfl rfl (by decide) (by decide)) (subC (b := 1) (powC (k := kN a) rfl rfl (le_th (k34 (kN_or a)))) rfl Nat.one_le_two_pow) (kN_pow a).1 (Nat.lt_of_le_of_lt (Nat.sub_le _ _) (Nat.lt_of_le_of_lt (kN_pow a).2 (by decide)))) rfl) rfl
theorem p10_eq : g_p10 (pre sc a 12) = some (.next, pre sc a 13) :=
  asgS_of (d := .int (shN a : Nat)) (modC (m := 5) (divC (a := a 2) (m := 30) rfl rfl (by decide) (by decide)) rfl (by decide) (by decide)) rfl
theorem p11_eq : g_p11 (pre sc a 13) = some (.next, pre sc a 14) := by
  have hw := wN_le a
  have hs := shN_lt a
  refine asgS_of (d := .str (askText (wN a * 2 ^ shN a))) ?_ rfl
  rw [← made_eq hw hs]
  have er : replC F_flags (var 11) (var 12) (Str.ofString ", ") (Str.ofString "...") (pre sc a 13) = ((F_flags [.int ((wN a * 2 ^ shN a : Nat) : Int)]).bind fun r => (asS r).bind fun x => if x.length + (x.length + 1) * (Str.ofString "...").length ≤ 16777216 then some (D.str (Txt.replace x (Str.ofString ", ") (Str.ofString "..."))) else none) := by
    unfold replC
    rw [show var 11 (pre sc a 13) = some (.int (wN a : Nat)) from rfl, show var 12 (pre sc a 13) = some (.int (shN a : Nat)) from rfl, Option.bind_some, Option.bind_some, shl_nat (by omega) (by omega)]
    rfl
  unfold binC
  rw [er]
  rfl
theorem p12_eq : g_p12 (pre sc a 14) = some (.next, pre sc a 15) := by
  refine asgS_of (d := .list (figD a)) ?_ rfl
  have e1 : iterC (cutC (var 1) (iC 3) (iC 8)) (pre sc a 14) = some ([a 3, a 4, a 5, a 6, a 7].map fun (x : Nat) => D.int (x : Nat)) := rfl
  unfold compC
  rw [e1, Option.bind_some, if_pos (by simp), compD_map (fun (x : Nat) => D.int (x : Nat)) (fun (x : Nat) => D.int ((x % 64 : Nat) : Int))]
  · rfl
  · intro x _
    exact ⟨rfl, modC (a := x) (m := 64) rfl rfl (by decide) (by decide)⟩
theorem p13_eq : g_p13 (pre sc a 15) = some (.next, pre sc a 16) := rfl
end
end
end Mine
end
section
open PySem PySem.W PyProof.Rows PySem.Calls
set_option Elab.async false
set_option maxRecDepth 100000
namespace Mine
noncomputable section
/-! one turn -/
noncomputable def loN (a : Nat → Nat) (p : Nat) : Int := ((a (8 + p) / 5 % 5 + 1 : Nat) : Int)
noncomputable def hiN (a : Nat → Nat) (p : Nat) : Int := ((a (8 + p) % 5 + 1 : Nat) : Int)
noncomputable def stL (sc : D) (a : Nat → Nat) (ws : List D) (y16 y17 y18 y19 y20 y21 y22 y23 y24 y25 y26 y27 : D) : List D :=
  [sc, .list (rowD a), .int (sN a : Nat), .int (kN a : Nat), .str (signOf (spB a)), .int (fiN a : Nat), .int (seN a : Nat), .int (frN a : Nat), .int (baN a : Nat),
  .str (wishText (spB a) (fiN a) (seN a) (frN a) (baN a)), .list (spotD a), .int (wN a : Nat), .int (shN a : Nat), .str (askText (wN a * 2 ^ shN a)), .list (figD a), .list ws,
  y16, y17, y18, y19, y20, y21, y22, y23, y24, y25, y26, y27, .undef, .undef, .undef, .undef, .undef, .undef, .undef]
/-- the answers -/
noncomputable def q0 (a : Nat → Nat) (n : Nat) : Int := ((colN (kN a) (sN a) n : Nat) : Int)
noncomputable def fitA (a : Nat → Nat) (n : Nat) : Bool := fitsB (kN a) (spB a) (fiN a) (seN a) (frN a) (baN a) n
noncomputable def q1 (a : Nat → Nat) (n : Nat) : Int := if fitA a n then (if spB a then -1 else 1) else 0
noncomputable def holdA (a : Nat → Nat) (n : Nat) : Bool := n &&& wN a == wN a
noncomputable def q2 (a : Nat → Nat) (n : Nat) : Int := if holdA a n then 1 else 0
noncomputable def q3 (a : Nat → Nat) (n : Nat) : Int := ((widN (figN a) n : Nat) : Int)
theorem tab_lead : ([3, 4].all fun k => (List.range (2 ^ k)).all fun n => decide (strD (joinD (Str.ofString "") ((List.range k).map fun p => .str (if n.testBit p then Str.ofString "\t" else Str.ofString " "))) = some (leadText k n))) = true := by decide +kernel
theorem lead_eq {k n : Nat} (hk : k = 3 ∨ k = 4) (hn : n < 2 ^ k) : joinD (Str.ofString "") ((List.range k).map fun p => .str (if n.testBit p then Str.ofString "\t" else Str.ofString " ")) = some (.str (leadText k n)) := by
  have h := all_get (all_get tab_lead (show k ∈ [3, 4] by rcases hk with rfl | rfl <;> simp)) (List.mem_range.mpr hn)
  exact strD_some (of_decide_eq_true h)
theorem tab_col : ([3, 4].all fun k => (List.range (2 ^ k)).all fun n => decide (strD (binD .Add (.str (leadText k n)) (.str (Str.ofString "x"))) = some (colText k n))) = true := by decide +kernel
theorem colt_eq {k n : Nat} (hk : k = 3 ∨ k = 4) (hn : n < 2 ^ k) : binD .Add (.str (leadText k n)) (.str (Str.ofString "x")) = some (.str (colText k n)) := by
  have h := all_get (all_get tab_col (show k ∈ [3, 4] by rcases hk with rfl | rfl <;> simp)) (List.mem_range.mpr hn)
  exact strD_some (of_decide_eq_true h)
section
variable (sc : D) (a : Nat → Nat)
theorem rangeC_nat {f : FD} {ρ : List D} {k : Nat} (h : f ρ = some (.int (k : Nat))) (hk : k ≤ 1000) : rangeC f ρ = some ((List.range k).map fun (p : Nat) => D.int (0 + (p : Int))) := by
  unfold rangeC
  rw [h]
  show (if -1000000 ≤ ((k : Nat) : Int) ∧ ((k : Nat) : Int) ≤ 1000000 then some (rangeD 0 ((k : Nat) : Int)) else none) = _
  rw [if_pos ⟨Int.le_trans (by decide) (Int.natCast_nonneg k), Int.ofNat_le.mpr (le_mi hk)⟩]
  unfold rangeD
  rw [Int.sub_zero, Int.toNat_natCast]
theorem nilA_eq {ρ : List D} : nilA ρ = some [] := rfl
theorem zero_add_cast (p : Nat) : (0 + (p : Int)) = ((p : Nat) : Int) := Int.zero_add _
theorem t0_eq (a0 : Addr) (ws : List D) (n : Nat) (hn : n < 2 ^ kN a) (y16 y18 y19 y20 y21 y22 y23 y24 y25 y26 y27 : D) (ans : List (List D)) :
    g_t0 a0 (stL sc a ws y16 (.int (n : Nat)) y18 y19 y20 y21 y22 y23 y24 y25 y26 y27) ans = some (.next, stL sc a ws y16 (.int (n : Nat)) (.str (leadText (kN a) n)) y19 y20 y21 y22 y23 y24 y25 y26 y27, ans) := by
  refine liftX_next (asgS_of (d := .str (leadText (kN a) n)) ?_ rfl)
  have hk := kN_or a
  rw [← lead_eq hk hn]
  have ec : compC (rangeC (var 3)) trueT (ifC (valT (binC .BitAnd (binC .RShift (var 18) (var 0)) (iC 1))) (sC (Str.ofString "\t")) (sC (Str.ofString " "))) (stL sc a ws y16 (.int (n : Nat)) y18 y19 y20 y21 y22 y23 y24 y25 y26 y27)
      = some (.list ((List.range (kN a)).map fun p => .str (if n.testBit p then Str.ofString "\t" else Str.ofString " "))) := by
    unfold compC
    rw [rangeC_nat (k := kN a) rfl (le_th (k34 hk)), Option.bind_some, if_pos (len_range (le_th (k34 hk))), compD_map (fun (p : Nat) => D.int (0 + (p : Int))) (fun p => .str (if n.testBit p then Str.ofString "\t" else Str.ofString " "))]
    · rfl
    · intro p _
      refine ⟨rfl, ?_⟩
      rw [zero_add_cast]
      have eb : binC .BitAnd (binC .RShift (var 18) (var 0)) (iC 1) (.int (p : Nat) :: stL sc a ws y16 (.int (n : Nat)) y18 y19 y20 y21 y22 y23 y24 y25 y26 y27) = some (.int ((bN n p : Nat) : Int)) := bitC rfl rfl
      have et : valT (binC .BitAnd (binC .RShift (var 18) (var 0)) (iC 1)) (.int (p : Nat) :: stL sc a ws y16 (.int (n : Nat)) y18 y19 y20 y21 y22 y23 y24 y25 y26 y27) = some (n.testBit p) := by
        unfold valT
        rw [eb]
        unfold bN
        cases n.testBit p <;> rfl
      unfold ifC
      rw [et]
      cases n.testBit p <;> rfl
  unfold joinC
  rw [ec]
  rfl
theorem t1_eq (a0 : Addr) (ws : List D) (n : Nat) (hn : n < 2 ^ kN a) (y16 y19 y20 y21 y22 y23 y24 y25 y26 y27 : D) (ans : List (List D)) :
    g_t1 a0 (stL sc a ws y16 (.int (n : Nat)) (.str (leadText (kN a) n)) y19 y20 y21 y22 y23 y24 y25 y26 y27) ans = some (.next, stL sc a ws y16 (.int (n : Nat)) (.str (leadText (kN a) n)) (.int (q0 a n)) y20 y21 y22 y23 y24 y25 y26 y27, ans) := by
  refine liftX_next (asgS_of (d := .int (q0 a n)) ?_ rfl)
  have hk := kN_or a
  obtain ⟨r, h1, h2⟩ := col_made hk hn (sN_le a)
  have ea : consA (binC .Add (var 18) (sC (Str.ofString "x"))) nilA (stL sc a ws y16 (.int (n : Nat)) (.str (leadText (kN a) n)) y19 y20 y21 y22 y23 y24 y25 y26 y27) = some [.str (colText (kN a) n)] :=
    consA_of ((binC_of rfl rfl).trans (colt_eq hk hn)) rfl
  unfold methC
  rw [callC_of ea, h1]
  exact h2
theorem t2_eq (a0 : Addr) (ws : List D) (n : Nat) (hn : n < 2 ^ kN a) (y16 y19 y20 y21 y22 y23 y24 y25 y26 y27 : D) (ans : List (List D)) :
    g_t2 a0 (stL sc a ws y16 (.int (n : Nat)) (.str (leadText (kN a) n)) y19 y20 y21 y22 y23 y24 y25 y26 y27) ans = some (.next, stL sc a ws y16 (.int (n : Nat)) (.str (leadText (kN a) n)) y19 (.bool (fitA a n)) y21 y22 y23 y24 y25 y26 y27, ans) := by
  refine liftX_next (asgS_of (d := .bool (fitA a n)) ?_ rfl)
  exact Eq.trans (callC_of (consA_of rfl (consA_of rfl nilA_eq))) (fits_eq (spB a) (kN_or a) (fiN_lt a) (seN_lt a) (frN_lt a) (baN_lt a) hn)
theorem n16 {n : Nat} (hn : n < 2 ^ kN a) : n < 16 := Nat.lt_of_lt_of_le hn (kN_pow a).2
theorem t3_eq (a0 : Addr) (ws : List D) (n : Nat) (hn : n < 2 ^ kN a) (y16 y18 y19 y20 y21 y22 y23 y24 y25 y26 y27 : D) (ans : List (List D)) :
    g_t3 a0 (stL sc a ws y16 (.int (n : Nat)) y18 y19 y20 y21 y22 y23 y24 y25 y26 y27) ans = some (.next, stL sc a ws y16 (.int (n : Nat)) y18 y19 y20 (.bool (holdA a n)) y22 y23 y24 y25 y26 y27, ans) := by
  refine liftX_next (asgS_of (d := .bool (holdA a n)) ?_ rfl)
  have h16 := n16 a hn
  have hs := shN_lt a
  have ef : callC F_flags (consA (binC .LShift (var 17) (var 12)) nilA) (stL sc a ws y16 (.int (n : Nat)) y18 y19 y20 y21 y22 y23 y24 y25 y26 y27) = some (.str (flText (n * 2 ^ shN a))) :=
    Eq.trans (callC_of (consA_of (shlC (a := n) (k := shN a) rfl rfl (Nat.lt_trans h16 (by decide)) (Nat.le_of_lt (Nat.lt_trans hs (by decide)))) nilA_eq)) (flags_eq h16 hs)
  exact Eq.trans (callC_of (consA_of (a := .str (askText (wN a * 2 ^ shN a))) rfl (consA_of ef nilA_eq))) (holds_eq (wN_le a) h16 hs)
theorem range_at {α : Type} {f : Nat → α} {N n : Nat} (h : n < N) : ((List.range N).map f)[n]? = some (f n) := by
  rw [List.getElem?_map, List.getElem?_range h]
  rfl
theorem figD_at {p : Nat} (hp : p < 5) : (figD a)[p]? = some (.int (figN a p : Nat)) := range_at (f := fun p => D.int (figN a p : Nat)) (N := 5) hp
theorem rowD_at {p : Nat} (hp : p < 12) : (rowD a)[p]? = some (.int (a p : Nat)) := range_at (f := fun p => D.int (a p : Nat)) (N := 12) hp
noncomputable def octsD (a : Nat → Nat) (n : Nat) : List D := (List.range (kN a + 1)).map fun p => octD (figN a p, n.testBit p)
theorem t4_eq (a0 : Addr) (ws : List D) (n : Nat) (y16 y18 y19 y20 y21 y22 y23 y24 y25 y26 y27 : D) (ans : List (List D)) :
    g_t4 a0 (stL sc a ws y16 (.int (n : Nat)) y18 y19 y20 y21 y22 y23 y24 y25 y26 y27) ans = some (.next, stL sc a ws y16 (.int (n : Nat)) y18 y19 y20 y21 (.list (octsD a n)) y23 y24 y25 y26 y27, ans) := by
  refine liftX_next ?_
  have hk := kN_or a
  unfold compS
  rw [rangeC_nat (k := kN a + 1) (addC (a := kN a) (b := 1) rfl rfl) (Nat.le_trans (Nat.succ_le_succ (k34 hk)) (by decide)), Option.bind_some, if_pos (len_range (Nat.le_trans (Nat.succ_le_succ (k34 hk)) (by decide))), compD_map (fun (p : Nat) => D.int (0 + (p : Int))) (fun p => octD (figN a p, n.testBit p))]
  · rfl
  · intro p hp
    have hp := List.mem_range.mp hp
    refine ⟨rfl, ?_⟩
    rw [zero_add_cast]
    have e1 : idxC (var 15) (var 0) (.int (p : Nat) :: stL sc a ws y16 (.int (n : Nat)) y18 y19 y20 y21 y22 y23 y24 y25 y26 y27) = some (.int (figN a p : Nat)) := by
      rw [idxC_of (a := .list (figD a)) (b := .int ((p : Nat) : Int)) rfl rfl, idx_nat (Nat.lt_of_lt_of_le hp (Nat.le_trans (Nat.succ_le_succ (k34 hk)) (by decide))), figD_at a (Nat.lt_of_lt_of_le hp (by rcases hk with h | h <;> rw [h] <;> decide))]
    have e2 : binC .BitAnd (binC .RShift (var 18) (var 0)) (iC 1) (.int (p : Nat) :: stL sc a ws y16 (.int (n : Nat)) y18 y19 y20 y21 y22 y23 y24 y25 y26 y27) = some (.int ((bN n p : Nat) : Int)) := bitC rfl rfl
    exact addC e1 (mulC (a := 64) rfl e2 (by split <;> decide))
theorem t5_eq (a0 : Addr) (ws : List D) (n : Nat) (hn : n < 2 ^ kN a) (y16 y17 y18 y19 y20 y21 y23 y24 y25 y26 y27 : D) (ans : List (List D)) :
    g_t5 a0 (stL sc a ws y16 y17 y18 y19 y20 y21 (.list (octsD a n)) y23 y24 y25 y26 y27) ans = some (.next, stL sc a ws y16 y17 y18 y19 y20 y21 (.list (octsD a n)) (.int (q3 a n)) y24 y25 y26 y27, ans) := by
  refine liftX_next (asgS_of (d := .int (q3 a n)) ?_ rfl)
  obtain ⟨l, h1, h2⟩ := width_eq (figN a) (figN_lt a) (kN_or a) hn
  have ev : vintC (var 22) (stL sc a ws y16 y17 y18 y19 y20 y21 (.list (octsD a n)) y23 y24 y25 y26 y27) = some (.int (l : Nat)) := h1
  have em : map1C (vintC (var 22)) (stL sc a ws y16 y17 y18 y19 y20 y21 (.list (octsD a n)) y23 y24 y25 y26 y27) = some (.map1 (.int (l : Nat))) := by
    unfold map1C
    rw [ev]
    rfl
  exact Eq.trans (callC_of (consA_of em nilA_eq)) h2
theorem t6_eq (a0 : Addr) (ws : List D) (n : Nat) (hn : n < 2 ^ kN a) (y16 y18 y19 y20 y21 y22 y23 y24 y25 y26 y27 : D) (ans : List (List D)) :
    g_t6 a0 (stL sc a ws y16 (.int (n : Nat)) y18 y19 y20 y21 y22 y23 y24 y25 y26 y27) ans = some (.next, stL sc a ws y16 (.int (n : Nat)) y18 y19 y20 y21 y22 y23 (.int (seenN (kN a) (spB a) n : Nat)) y25 y26 y27, ans) := by
  refine liftX_next (asgS_of (d := .int (seenN (kN a) (spB a) n : Nat)) ?_ rfl)
  have e : cmpT .Eq (var 4) (sC (Str.ofString " ")) (stL sc a ws y16 (.int (n : Nat)) y18 y19 y20 y21 y22 y23 y24 y25 y26 y27) = some (spB a) := by
    rw [cmpT_of (a := .str (signOf (spB a))) (b := .str (Str.ofString " ")) rfl rfl]
    show some (signOf (spB a) == Str.ofString " ") = _
    cases spB a <;> rfl
  unfold ifC
  rw [e]
  unfold seenN
  cases spB a with
  | true => exact subC (subC (b := 1) (powC (k := kN a) rfl rfl (le_th (k34 (kN_or a)))) rfl Nat.one_le_two_pow) rfl (Nat.le_sub_one_of_lt hn)
  | false => rfl
theorem orT_of {f g : FB} {ρ : List D} {b c : Bool} (h1 : f ρ = some b) (h2 : g ρ = some c) : orT f g ρ = some (b || c) := by
  unfold orT
  rw [h1, h2]
  cases b <;> rfl
theorem t7_eq (a0 : Addr) (ws : List D) (n : Nat) (hn : n < 2 ^ kN a) (y16 y18 y20 y21 y22 y24 y25 y26 y27 : D) (ans : List (List D)) :
    g_t7 a0 (stL sc a ws y16 (.int (n : Nat)) y18 (.int (q0 a n)) y20 y21 y22 (.int (q3 a n)) y24 y25 y26 y27) ans = some (.next, stL sc a ws y16 (.int (n : Nat)) y18 (.int (q0 a n)) y20 y21 y22 (.int (q3 a n)) y24 y25 y26 y27, ans) := by
  refine liftX_next ?_
  have ec : callC F_col (consA (var 17) (consA (var 3) (consA (var 2) nilA))) (stL sc a ws y16 (.int (n : Nat)) y18 (.int (q0 a n)) y20 y21 y22 (.int (q3 a n)) y24 y25 y26 y27) = some (.int (q0 a n)) :=
    Eq.trans (callC_of (consA_of rfl (consA_of rfl (consA_of rfl nilA_eq)))) (col_eq (kN_or a) hn (sN_le a))
  have ew : callC F_wid (consA (var 17) (consA (var 14) nilA)) (stL sc a ws y16 (.int (n : Nat)) y18 (.int (q0 a n)) y20 y21 y22 (.int (q3 a n)) y24 y25 y26 y27) = some (.int (q3 a n)) :=
    Eq.trans (callC_of (consA_of rfl (consA_of (a := .list (figD a)) rfl nilA_eq))) (wid_eq (figN a) (figD a) (fun p hp => figD_at a hp) (figN_lt a) n)
  have e1 : cmpT .NotEq (var 19) (callC F_col (consA (var 17) (consA (var 3) (consA (var 2) nilA)))) (stL sc a ws y16 (.int (n : Nat)) y18 (.int (q0 a n)) y20 y21 y22 (.int (q3 a n)) y24 y25 y26 y27) = some false := by
    rw [cmpT_of (a := .int (q0 a n)) rfl ec]
    show some (q0 a n != q0 a n) = _
    rw [bne_self_eq_false]
  have e2 : cmpT .NotEq (var 23) (callC F_wid (consA (var 17) (consA (var 14) nilA))) (stL sc a ws y16 (.int (n : Nat)) y18 (.int (q0 a n)) y20 y21 y22 (.int (q3 a n)) y24 y25 y26 y27) = some false := by
    rw [cmpT_of (a := .int (q3 a n)) rfl ew]
    show some (q3 a n != q3 a n) = _
    rw [bne_self_eq_false]
  exact ifS_false (orT_of e1 e2)
theorem intsD_nat : ∀ (l : List Nat), intsD (l.map fun (s : Nat) => D.int (s : Nat)) = some (l.map fun (s : Nat) => (s : Int))
  | [] => rfl
  | x :: l => by
    show (intsD (l.map fun (s : Nat) => D.int (s : Nat))).map (((x : Nat) : Int) :: ·) = _
    rw [intsD_nat l]
    rfl
theorem ne_empty (l : List Nat) : cmpD .NotEq (.list (l.map fun (s : Nat) => D.int (s : Nat))) (.list []) = some (!decide (l = [])) := by
  show ((intsD (l.map fun (s : Nat) => D.int (s : Nat))).bind fun m => (intsD []).bind fun n => some (!decide (m = n))) = _
  rw [show intsD (l.map fun (s : Nat) => D.int (s : Nat)) = some (l.map fun (s : Nat) => (s : Int)) from intsD_nat l]
  show some (!decide ((l.map fun (s : Nat) => (s : Int)) = [])) = _
  cases l <;> rfl
theorem tab_spl : ([3, 4].all fun k => (List.range 3).all fun fi => (List.range 3).all fun se => (List.range 2).all fun fr => (List.range 2).all fun ba => decide ((spotsN k fi se fr ba).length ≤ 1000)) = true := by decide +kernel
theorem spots_len {k fi se fr ba : Nat} (hk : k = 3 ∨ k = 4) (hfi : fi < 3) (hse : se < 3) (hfr : fr < 2) (hba : ba < 2) : (spotsN k fi se fr ba).length ≤ 1000 := by
  have h := all_get (all_get (all_get (all_get (all_get tab_spl (show k ∈ [3, 4] by rcases hk with rfl | rfl <;> simp)) (List.mem_range.mpr hfi)) (List.mem_range.mpr hse)) (List.mem_range.mpr hfr)) (List.mem_range.mpr hba)
  exact of_decide_eq_true h
theorem t8_eq (a0 : Addr) (ws : List D) (n : Nat) (y16 y17 y18 y19 y21 y22 y23 y25 y26 y27 : D) (ans : List (List D)) :
    g_t8 a0 (stL sc a ws y16 y17 y18 y19 (.bool (fitA a n)) y21 y22 y23 (.int (seenN (kN a) (spB a) n : Nat)) y25 y26 y27) ans = some (.next, stL sc a ws y16 y17 y18 y19 (.bool (fitA a n)) y21 y22 y23 (.int (seenN (kN a) (spB a) n : Nat)) y25 y26 y27, ans) := by
  refine liftX_next (ifS_false ?_)
  have hl : ((spotsN (kN a) (fiN a) (seN a) (frN a) (baN a)).filter fun s => seenN (kN a) (spB a) n &&& s == s).length ≤ (spotsN (kN a) (fiN a) (seN a) (frN a) (baN a)).length := List.length_filter_le _ _
  have hs : (spotsN (kN a) (fiN a) (seN a) (frN a) (baN a)).length ≤ 1000 := spots_len (kN_or a) (fiN_lt a) (seN_lt a) (frN_lt a) (baN_lt a)
  have ec : compC (iterC (var 10)) (cmpT .Eq (binC .BitAnd (var 25) (var 0)) (var 0)) (var 0) (stL sc a ws y16 y17 y18 y19 (.bool (fitA a n)) y21 y22 y23 (.int (seenN (kN a) (spB a) n : Nat)) y25 y26 y27)
      = some (.list (((spotsN (kN a) (fiN a) (seN a) (frN a) (baN a)).filter fun s => seenN (kN a) (spB a) n &&& s == s).map fun (s : Nat) => D.int (s : Nat))) := by
    have ei : iterC (var 10) (stL sc a ws y16 y17 y18 y19 (.bool (fitA a n)) y21 y22 y23 (.int (seenN (kN a) (spB a) n : Nat)) y25 y26 y27) = some ((spotsN (kN a) (fiN a) (seN a) (frN a) (baN a)).map fun (s : Nat) => D.int (s : Nat)) := by
      show some (spotD a) = _
      unfold spotD
      rw [List.map_map]
      rfl
    unfold compC
    rw [ei, Option.bind_some, if_pos (by rw [List.length_map]; exact le_mi hs), compD_filter (fun (s : Nat) => D.int (s : Nat)) (fun s => seenN (kN a) (spB a) n &&& s == s) (fun (s : Nat) => D.int (s : Nat))]
    · rfl
    · intro s _
      refine ⟨?_, rfl⟩
      rw [cmpT_of (andC (a := seenN (kN a) (spB a) n) (b := s) rfl rfl) (b := .int ((s : Nat) : Int)) rfl]
      show some (((seenN (kN a) (spB a) n &&& s : Nat) : Int) == ((s : Nat) : Int)) = _
      rw [Bool.eq_iff_iff.mpr (show ((((seenN (kN a) (spB a) n &&& s : Nat) : Int) == ((s : Nat) : Int)) = true ↔ (seenN (kN a) (spB a) n &&& s == s) = true) by rw [beq_iff_eq, beq_iff_eq]; exact Int.natCast_inj)]
  rw [cmpT_of (a := .bool (fitA a n)) rfl (b := .bool (fitA a n)) ?_]
  · show some (fitA a n != fitA a n) = _
    rw [bne_self_eq_false]
  · rw [cmpC_of ec (b := .list []) rfl]
    have ed : cmpD .NotEq (.list (((spotsN (kN a) (fiN a) (seN a) (frN a) (baN a)).filter fun s => seenN (kN a) (spB a) n &&& s == s).map fun (s : Nat) => D.int (s : Nat))) (.list []) = some (fitA a n) := by
      rw [ne_empty]
      unfold fitA fitsB
      rw [List.any_eq_not_all_not]
      generalize spotsN (kN a) (fiN a) (seN a) (frN a) (baN a) = l
      induction l with
      | nil => rfl
      | cons s l ih =>
        rw [List.filter_cons, List.all_cons]
        split
        · rename_i h
          rw [h]
          rfl
        · rename_i h
          rw [ih]
          simp [h]
    rw [ed]
    rfl
theorem t9_eq (a0 : Addr) (ws : List D) (n : Nat) (y16 y18 y19 y20 y22 y23 y24 y25 y26 y27 : D) (ans : List (List D)) :
    g_t9 a0 (stL sc a ws y16 (.int (n : Nat)) y18 y19 y20 (.bool (holdA a n)) y22 y23 y24 y25 y26 y27) ans = some (.next, stL sc a ws y16 (.int (n : Nat)) y18 y19 y20 (.bool (holdA a n)) y22 y23 y24 y25 y26 y27, ans) := by
  refine liftX_next (ifS_false ?_)
  have ec : cmpC .Eq (binC .BitAnd (var 17) (var 11)) (var 11) (stL sc a ws y16 (.int (n : Nat)) y18 y19 y20 (.bool (holdA a n)) y22 y23 y24 y25 y26 y27) = some (.bool (holdA a n)) := by
    rw [cmpC_of (andC (a := n) (b := wN a) rfl rfl) (b := .int (wN a : Nat)) rfl]
    show some (D.bool (((n &&& wN a : Nat) : Int) == ((wN a : Nat) : Int))) = _
    unfold holdA
    rw [Bool.eq_iff_iff.mpr (show ((((n &&& wN a : Nat) : Int) == ((wN a : Nat) : Int)) = true ↔ (n &&& wN a == wN a) = true) by rw [beq_iff_eq, beq_iff_eq]; exact Int.natCast_inj)]
  rw [cmpT_of (a := .bool (holdA a n)) rfl ec]
  show some (holdA a n != holdA a n) = _
  rw [bne_self_eq_false]
theorem t10_eq (a0 : Addr) (ws : List D) (y16 y17 y18 y19 y20 y21 y22 y23 y24 y25 y26 y27 : D) (ans : List (List D)) :
    g_t10 a0 (stL sc a ws y16 y17 y18 y19 y20 y21 y22 y23 y24 y25 y26 y27) ans = some (.next, stL sc a ws y16 y17 y18 y19 y20 y21 y22 y23 y24 (.int 1) y26 y27, ans) := rfl
end
end
end Mine
end
section
open PySem PySem.W PyProof.Rows PySem.Calls
set_option Elab.async false
set_option maxRecDepth 100000
namespace Mine
noncomputable section
section
variable (sc : D) (a : Nat → Nat)
theorem mulZ {z : Int} {b : Nat} (h : b < 2 ^ 64) : binD .Mult (.int z) (.int ((b : Nat) : Int)) = some (.int (z * ((b : Nat) : Int))) := by
  show (if ((b : Nat) : Int).natAbs < 2 ^ 64 then some (D.int (z * ((b : Nat) : Int))) else none) = _
  rw [if_pos (by rw [Int.natAbs_natCast]; exact h)]
theorem wt_step (ws : List D) (n m : Nat) (hm : m < 4) (z : Int) (y16 y18 y19 y20 y21 y22 y23 y24 y27 : D) :
    seqS (asgS 27 (ifC (valT (binC .BitAnd (binC .RShift (var 17) (var 26)) (iC 1))) (idxC (var 1) (binC .Add (iC 8) (var 26))) (binC .FloorDiv (idxC (var 1) (binC .Add (iC 8) (var 26))) (iC 5)))) (seqS (asgS 25 (binC .Mult (var 25) (binC .Add (binC .Mod (var 27) (iC 5)) (iC 1)))) skipS)
      (stL sc a ws y16 (.int (n : Nat)) y18 y19 y20 y21 y22 y23 y24 (.int z) (.int (m : Nat)) y27) = some (.next, stL sc a ws y16 (.int (n : Nat)) y18 y19 y20 y21 y22 y23 y24 (.int (z * (if n.testBit m then hiN a m else loN a m))) (.int (m : Nat)) (.int ((if n.testBit m then a (8 + m) else a (8 + m) / 5 : Nat) : Int))) := by
  have ei : idxC (var 1) (binC .Add (iC 8) (var 26)) (stL sc a ws y16 (.int (n : Nat)) y18 y19 y20 y21 y22 y23 y24 (.int z) (.int (m : Nat)) y27) = some (.int (a (8 + m) : Nat)) := by
    rw [idxC_of (a := .list (rowD a)) (b := .int ((8 + m : Nat) : Int)) rfl (addC (a := 8) (b := m) rfl rfl), idx_nat (by omega), rowD_at a (by omega)]
  have ed : binC .FloorDiv (idxC (var 1) (binC .Add (iC 8) (var 26))) (iC 5) (stL sc a ws y16 (.int (n : Nat)) y18 y19 y20 y21 y22 y23 y24 (.int z) (.int (m : Nat)) y27) = some (.int (a (8 + m) / 5 : Nat)) := divC (m := 5) ei rfl (by decide) (by decide)
  have et : valT (binC .BitAnd (binC .RShift (var 17) (var 26)) (iC 1)) (stL sc a ws y16 (.int (n : Nat)) y18 y19 y20 y21 y22 y23 y24 (.int z) (.int (m : Nat)) y27) = some (n.testBit m) := by
    have eb : binC .BitAnd (binC .RShift (var 17) (var 26)) (iC 1) (stL sc a ws y16 (.int (n : Nat)) y18 y19 y20 y21 y22 y23 y24 (.int z) (.int (m : Nat)) y27) = some (.int ((bN n m : Nat) : Int)) := bitC rfl rfl
    unfold valT
    rw [eb]
    unfold bN
    cases n.testBit m <;> rfl
  have e1 : asgS 27 (ifC (valT (binC .BitAnd (binC .RShift (var 17) (var 26)) (iC 1))) (idxC (var 1) (binC .Add (iC 8) (var 26))) (binC .FloorDiv (idxC (var 1) (binC .Add (iC 8) (var 26))) (iC 5))) (stL sc a ws y16 (.int (n : Nat)) y18 y19 y20 y21 y22 y23 y24 (.int z) (.int (m : Nat)) y27)
      = some (.next, stL sc a ws y16 (.int (n : Nat)) y18 y19 y20 y21 y22 y23 y24 (.int z) (.int (m : Nat)) (.int ((if n.testBit m then a (8 + m) else a (8 + m) / 5 : Nat) : Int))) := by
    refine asgS_of (d := .int ((if n.testBit m then a (8 + m) else a (8 + m) / 5 : Nat) : Int)) ?_ rfl
    unfold ifC
    rw [et, Option.bind_some]
    by_cases c : n.testBit m = true
    · rw [if_pos c, if_pos c]; exact ei
    · rw [if_neg c, if_neg c]; exact ed
  have e2 : asgS 25 (binC .Mult (var 25) (binC .Add (binC .Mod (var 27) (iC 5)) (iC 1))) (stL sc a ws y16 (.int (n : Nat)) y18 y19 y20 y21 y22 y23 y24 (.int z) (.int (m : Nat)) (.int ((if n.testBit m then a (8 + m) else a (8 + m) / 5 : Nat) : Int)))
      = some (.next, stL sc a ws y16 (.int (n : Nat)) y18 y19 y20 y21 y22 y23 y24 (.int (z * (if n.testBit m then hiN a m else loN a m))) (.int (m : Nat)) (.int ((if n.testBit m then a (8 + m) else a (8 + m) / 5 : Nat) : Int))) := by
    refine asgS_of (d := .int (z * (if n.testBit m then hiN a m else loN a m))) ?_ rfl
    have eo := addC (ρ := stL sc a ws y16 (.int (n : Nat)) y18 y19 y20 y21 y22 y23 y24 (.int z) (.int (m : Nat)) (.int ((if n.testBit m then a (8 + m) else a (8 + m) / 5 : Nat) : Int))) (f := binC .Mod (var 27) (iC 5)) (g := iC 1) (b := 1)
      (modC (a := if n.testBit m then a (8 + m) else a (8 + m) / 5) (m := 5) rfl rfl (by decide) (by decide)) rfl
    rw [binC_of (a := .int z) rfl eo]
    have hx : (if n.testBit m then hiN a m else loN a m) = (((if n.testBit m then a (8 + m) else a (8 + m) / 5) % 5 + 1 : Nat) : Int) := by
      unfold hiN loN
      split <;> rfl
    rw [hx]
    generalize (if n.testBit m then a (8 + m) else a (8 + m) / 5) = x
    exact mulZ (by omega)
  rw [seqS_next e1, seqS_next e2]
  rfl
theorem wt_run (ws : List D) (n : Nat) (y16 y18 y19 y20 y21 y22 y23 y24 : D) : ∀ (j m : Nat), m + j ≤ 4 → ∀ (y26 y27 : D), ∃ z26 z27,
    forD 26 (seqS (asgS 27 (ifC (valT (binC .BitAnd (binC .RShift (var 17) (var 26)) (iC 1))) (idxC (var 1) (binC .Add (iC 8) (var 26))) (binC .FloorDiv (idxC (var 1) (binC .Add (iC 8) (var 26))) (iC 5)))) (seqS (asgS 25 (binC .Mult (var 25) (binC .Add (binC .Mod (var 27) (iC 5)) (iC 1)))) skipS)) skipS
      ((List.range' m j).map fun (p : Nat) => D.int (0 + (p : Int))) (stL sc a ws y16 (.int (n : Nat)) y18 y19 y20 y21 y22 y23 y24 (.int (Wt (loN a) (hiN a) m n)) y26 y27)
    = some (.next, stL sc a ws y16 (.int (n : Nat)) y18 y19 y20 y21 y22 y23 y24 (.int (Wt (loN a) (hiN a) (m + j) n)) z26 z27)
  | 0, m, _, y26, y27 => ⟨y26, y27, rfl⟩
  | j + 1, m, hm, y26, y27 => by
    rw [List.range'_succ, List.map_cons, forD, zero_add_cast]
    rw [if_pos (show 26 < (stL sc a ws y16 (.int (n : Nat)) y18 y19 y20 y21 y22 y23 y24 (.int (Wt (loN a) (hiN a) m n)) y26 y27).length from Nat.lt_of_sub_eq_succ rfl)]
    rw [show (stL sc a ws y16 (.int (n : Nat)) y18 y19 y20 y21 y22 y23 y24 (.int (Wt (loN a) (hiN a) m n)) y26 y27).set 26 (.int (m : Nat)) = stL sc a ws y16 (.int (n : Nat)) y18 y19 y20 y21 y22 y23 y24 (.int (Wt (loN a) (hiN a) m n)) (.int (m : Nat)) y27 from rfl]
    rw [wt_step sc a ws n m (by omega)]
    have ih := wt_run ws n y16 y18 y19 y20 y21 y22 y23 y24 j (m + 1) (by omega) (.int (m : Nat)) (.int ((if n.testBit m then a (8 + m) else a (8 + m) / 5 : Nat) : Int))
    rw [show m + (j + 1) = m + 1 + j by omega]
    exact ih
theorem t11_eq (a0 : Addr) (ws : List D) (n : Nat) (y16 y18 y19 y20 y21 y22 y23 y24 y26 y27 : D) (ans : List (List D)) : ∃ z26 z27,
    g_t11 a0 (stL sc a ws y16 (.int (n : Nat)) y18 y19 y20 y21 y22 y23 y24 (.int 1) y26 y27) ans = some (.next, stL sc a ws y16 (.int (n : Nat)) y18 y19 y20 y21 y22 y23 y24 (.int (Wt (loN a) (hiN a) (kN a) n)) z26 z27, ans) := by
  have hk := kN_or a
  refine byC fun G0 => ?_
  obtain ⟨z26, z27, h⟩ := wt_run sc a ws n y16 y18 y19 y20 y21 y22 y23 y24 (kN a) 0 (by omega) y26 y27
  refine G0 ?_
  clear G0
  refine ⟨z26, z27, liftX_next ?_⟩
  unfold forS
  rw [rangeC_nat (k := kN a) rfl (by omega), List.range_eq_range']
  rw [Nat.zero_add] at h
  exact h
theorem t12_eq (a0 : Addr) (ws : List D) (hl : ws.length ≤ 1000) (z : Int) (y16 y17 y18 y19 y20 y21 y22 y23 y24 y26 y27 : D) (ans : List (List D)) :
    g_t12 a0 (stL sc a ws y16 y17 y18 y19 y20 y21 y22 y23 y24 (.int z) y26 y27) ans = some (.next, stL sc a (ws ++ [.int z]) y16 y17 y18 y19 y20 y21 y22 y23 y24 (.int z) y26 y27, ans) := by
  refine liftX_next ?_
  show (if (D.int z).flat = true ∧ ws.length ≤ 100000 then some (Fl.next, (stL sc a ws y16 y17 y18 y19 y20 y21 y22 y23 y24 (.int z) y26 y27).set 15 (.list (ws ++ [.int z]))) else none) = _
  rw [if_pos ⟨rfl, by omega⟩]
  rfl
theorem appX_of {k iA : Nat} {a0 : Addr} {f : FD} {ρ : List D} {ans : List (List D)} {d : D} {ds : List D} (h : f ρ = some d) (hd : ans[k]? = some ds) (hf : d.flat = true) (ha : isAddr a0 (var iA ρ) = true) (hl : ds.length ≤ 1000) (hk : k < 1000000) : appX k iA a0 f ρ ans = some (.next, ρ, ans.set k (ds ++ [d])) := by
  unfold appX
  rw [h, hd]
  show (if _ then _ else _) = _
  rw [if_pos ⟨hf, ha, by omega, hk⟩]
noncomputable def stF (sc : D) (a : Nat → Nat) (ws : List D) (y16 : D) (z : Nat → D) : List D := stL sc a ws y16 (z 17) (z 18) (z 19) (z 20) (z 21) (z 22) (z 23) (z 24) (z 25) (z 26) (z 27)
theorem turn_eq (a0 : Addr) (ws A0 A1 A2 A3 : List D) (hw : ws.length ≤ 1000) (h0 : A0.length ≤ 1000) (h1 : A1.length ≤ 1000) (h2 : A2.length ≤ 1000) (h3 : A3.length ≤ 1000) (n : Nat) (hn : n < 2 ^ kN a) (y18 y19 y20 y21 y22 y23 y24 y25 y26 y27 : D) : ∃ z : Nat → D,
    g_turn a0 (stL sc a ws (.addr a0) (.int (n : Nat)) y18 y19 y20 y21 y22 y23 y24 y25 y26 y27) [A0, A1, A2, A3]
      = some (.next, stF sc a (ws ++ [.int (Wt (loN a) (hiN a) (kN a) n)]) (.addr a0) z, [A0 ++ [.int (q0 a n)], A1 ++ [.int (q1 a n)], A2 ++ [.int (q2 a n)], A3 ++ [.int (q3 a n)]]) := by
  refine byC fun G1 => ?_
  obtain ⟨z26, z27, e11⟩ := t11_eq sc a a0 ws n (.addr a0) (.str (leadText (kN a) n)) (.int (q0 a n)) (.bool (fitA a n)) (.bool (holdA a n)) (.list (octsD a n)) (.int (q3 a n)) (.int (seenN (kN a) (spB a) n : Nat)) y26 y27 [A0, A1, A2, A3]
  refine G1 ?_
  clear G1
  refine ⟨fun i => [.int (n : Nat), .str (leadText (kN a) n), .int (q0 a n), .bool (fitA a n), .bool (holdA a n), .list (octsD a n), .int (q3 a n), .int (seenN (kN a) (spB a) n : Nat), .int (Wt (loN a) (hiN a) (kN a) n), z26, z27].getD (i - 17) .undef, ?_⟩
  unfold g_turn
  rw [seqX_next (t0_eq sc a a0 ws n hn _ _ _ _ _ _ _ _ _ _ _ _)]
  rw [seqX_next (t1_eq sc a a0 ws n hn _ _ _ _ _ _ _ _ _ _ _)]
  rw [seqX_next (t2_eq sc a a0 ws n hn _ _ _ _ _ _ _ _ _ _ _)]
  rw [seqX_next (t3_eq sc a a0 ws n hn _ _ _ _ _ _ _ _ _ _ _ _)]
  rw [seqX_next (t4_eq sc a a0 ws n _ _ _ _ _ _ _ _ _ _ _ _)]
  rw [seqX_next (t5_eq sc a a0 ws n hn _ _ _ _ _ _ _ _ _ _ _ _)]
  rw [seqX_next (t6_eq sc a a0 ws n hn _ _ _ _ _ _ _ _ _ _ _ _)]
  rw [seqX_next (t7_eq sc a a0 ws n hn _ _ _ _ _ _ _ _ _ _)]
  rw [seqX_next (t8_eq sc a a0 ws n _ _ _ _ _ _ _ _ _ _ _)]
  rw [seqX_next (t9_eq sc a a0 ws n _ _ _ _ _ _ _ _ _ _ _)]
  rw [seqX_next (t10_eq sc a a0 ws _ _ _ _ _ _ _ _ _ _ _ _ _)]
  rw [seqX_next e11]
  rw [seqX_next (t12_eq sc a a0 ws hw _ _ _ _ _ _ _ _ _ _ _ _ _)]
  have e13 : g_t13 a0 (stL sc a (ws ++ [.int (Wt (loN a) (hiN a) (kN a) n)]) (.addr a0) (.int (n : Nat)) (.str (leadText (kN a) n)) (.int (q0 a n)) (.bool (fitA a n)) (.bool (holdA a n)) (.list (octsD a n)) (.int (q3 a n)) (.int (seenN (kN a) (spB a) n : Nat)) (.int (Wt (loN a) (hiN a) (kN a) n)) z26 z27) [A0, A1, A2, A3]
      = some (.next, stL sc a (ws ++ [.int (Wt (loN a) (hiN a) (kN a) n)]) (.addr a0) (.int (n : Nat)) (.str (leadText (kN a) n)) (.int (q0 a n)) (.bool (fitA a n)) (.bool (holdA a n)) (.list (octsD a n)) (.int (q3 a n)) (.int (seenN (kN a) (spB a) n : Nat)) (.int (Wt (loN a) (hiN a) (kN a) n)) z26 z27, [A0 ++ [.int (q0 a n)], A1, A2, A3]) :=
    appX_of rfl rfl rfl (isAddr_self a0) h0 (by decide)
  have e14 : g_t14 a0 (stL sc a (ws ++ [.int (Wt (loN a) (hiN a) (kN a) n)]) (.addr a0) (.int (n : Nat)) (.str (leadText (kN a) n)) (.int (q0 a n)) (.bool (fitA a n)) (.bool (holdA a n)) (.list (octsD a n)) (.int (q3 a n)) (.int (seenN (kN a) (spB a) n : Nat)) (.int (Wt (loN a) (hiN a) (kN a) n)) z26 z27) [A0 ++ [.int (q0 a n)], A1, A2, A3]
      = some (.next, stL sc a (ws ++ [.int (Wt (loN a) (hiN a) (kN a) n)]) (.addr a0) (.int (n : Nat)) (.str (leadText (kN a) n)) (.int (q0 a n)) (.bool (fitA a n)) (.bool (holdA a n)) (.list (octsD a n)) (.int (q3 a n)) (.int (seenN (kN a) (spB a) n : Nat)) (.int (Wt (loN a) (hiN a) (kN a) n)) z26 z27, [A0 ++ [.int (q0 a n)], A1 ++ [.int (q1 a n)], A2, A3]) := by
    refine appX_of (d := .int (q1 a n)) ?_ rfl rfl (isAddr_self a0) h1 (by decide)
    have es : cmpT .Eq (var 4) (sC (Str.ofString " ")) (stL sc a (ws ++ [.int (Wt (loN a) (hiN a) (kN a) n)]) (.addr a0) (.int (n : Nat)) (.str (leadText (kN a) n)) (.int (q0 a n)) (.bool (fitA a n)) (.bool (holdA a n)) (.list (octsD a n)) (.int (q3 a n)) (.int (seenN (kN a) (spB a) n : Nat)) (.int (Wt (loN a) (hiN a) (kN a) n)) z26 z27) = some (spB a) := by
      rw [cmpT_of (a := .str (signOf (spB a))) (b := .str (Str.ofString " ")) rfl rfl]
      show some (signOf (spB a) == Str.ofString " ") = _
      cases spB a <;> rfl
    unfold q1 ifC
    rw [es]
    show (if fitA a n = true then _ else _) = _
    cases fitA a n with
    | true => cases spB a <;> rfl
    | false => rfl
  have e15 : g_t15 a0 (stL sc a (ws ++ [.int (Wt (loN a) (hiN a) (kN a) n)]) (.addr a0) (.int (n : Nat)) (.str (leadText (kN a) n)) (.int (q0 a n)) (.bool (fitA a n)) (.bool (holdA a n)) (.list (octsD a n)) (.int (q3 a n)) (.int (seenN (kN a) (spB a) n : Nat)) (.int (Wt (loN a) (hiN a) (kN a) n)) z26 z27) [A0 ++ [.int (q0 a n)], A1 ++ [.int (q1 a n)], A2, A3]
      = some (.next, stL sc a (ws ++ [.int (Wt (loN a) (hiN a) (kN a) n)]) (.addr a0) (.int (n : Nat)) (.str (leadText (kN a) n)) (.int (q0 a n)) (.bool (fitA a n)) (.bool (holdA a n)) (.list (octsD a n)) (.int (q3 a n)) (.int (seenN (kN a) (spB a) n : Nat)) (.int (Wt (loN a) (hiN a) (kN a) n)) z26 z27, [A0 ++ [.int (q0 a n)], A1 ++ [.int (q1 a n)], A2 ++ [.int (q2 a n)], A3]) := by
    refine appX_of (d := .int (q2 a n)) ?_ rfl rfl (isAddr_self a0) h2 (by decide)
    unfold q2 ifC
    show (if holdA a n = true then _ else _) = _
    cases holdA a n <;> rfl
  have e16 : g_t16 a0 (stL sc a (ws ++ [.int (Wt (loN a) (hiN a) (kN a) n)]) (.addr a0) (.int (n : Nat)) (.str (leadText (kN a) n)) (.int (q0 a n)) (.bool (fitA a n)) (.bool (holdA a n)) (.list (octsD a n)) (.int (q3 a n)) (.int (seenN (kN a) (spB a) n : Nat)) (.int (Wt (loN a) (hiN a) (kN a) n)) z26 z27) [A0 ++ [.int (q0 a n)], A1 ++ [.int (q1 a n)], A2 ++ [.int (q2 a n)], A3]
      = some (.next, stL sc a (ws ++ [.int (Wt (loN a) (hiN a) (kN a) n)]) (.addr a0) (.int (n : Nat)) (.str (leadText (kN a) n)) (.int (q0 a n)) (.bool (fitA a n)) (.bool (holdA a n)) (.list (octsD a n)) (.int (q3 a n)) (.int (seenN (kN a) (spB a) n : Nat)) (.int (Wt (loN a) (hiN a) (kN a) n)) z26 z27, [A0 ++ [.int (q0 a n)], A1 ++ [.int (q1 a n)], A2 ++ [.int (q2 a n)], A3 ++ [.int (q3 a n)]]) :=
    appX_of rfl rfl rfl (isAddr_self a0) h3 (by decide)
  rw [seqX_next e13, seqX_next e14, seqX_next e15, seqX_next e16]
  rfl
/-- all turns -/
noncomputable def wtD (a : Nat → Nat) (n : Nat) : D := .int (Wt (loN a) (hiN a) (kN a) n)
noncomputable def ansD (q : Nat → Int) (n : Nat) : D := .int (q n)
theorem loop_run (a0 : Addr) (ns : List Nat) : ∀ (ms : List Nat), ms.length + ns.length ≤ 1000 → (∀ n ∈ ns, n < 2 ^ kN a) → ∀ (z : Nat → D), ∃ z' : Nat → D,
    forXD 17 (g_turn a0) (ns.map fun (n : Nat) => D.int (0 + (n : Int))) (stF sc a (ms.map (wtD a)) (.addr a0) z) [ms.map (ansD (q0 a)), ms.map (ansD (q1 a)), ms.map (ansD (q2 a)), ms.map (ansD (q3 a))]
      = some (.next, stF sc a ((ms ++ ns).map (wtD a)) (.addr a0) z', [(ms ++ ns).map (ansD (q0 a)), (ms ++ ns).map (ansD (q1 a)), (ms ++ ns).map (ansD (q2 a)), (ms ++ ns).map (ansD (q3 a))]) := by
  induction ns with
  | nil =>
    intro ms _ _ z
    rw [List.append_nil]
    exact ⟨z, rfl⟩
  | cons n ns ih =>
    intro ms hl hn z
    have hl' : ms.length ≤ 1000 := Nat.le_trans (Nat.le_add_right _ _) hl
    refine byC fun G2 => ?_
    obtain ⟨z1, e⟩ := turn_eq sc a a0 (ms.map (wtD a)) (ms.map (ansD (q0 a))) (ms.map (ansD (q1 a))) (ms.map (ansD (q2 a))) (ms.map (ansD (q3 a))) (by rw [List.length_map]; exact hl') (by rw [List.length_map]; exact hl') (by rw [List.length_map]; exact hl') (by rw [List.length_map]; exact hl') (by rw [List.length_map]; exact hl') n (hn n (.head _)) (z 18) (z 19) (z 20) (z 21) (z 22) (z 23) (z 24) (z 25) (z 26) (z 27)
    obtain ⟨z', ih⟩ := ih (ms ++ [n]) (by rw [List.length_append, Nat.add_assoc, List.length_singleton, Nat.add_comm 1]; exact hl) (fun m hm => hn m (.tail _ hm)) z1
    refine G2 ?_
    clear G2
    simp only [List.map_append, List.map_cons, List.map_nil, List.append_assoc, List.singleton_append] at ih ⊢
    refine ⟨z', ?_⟩
    rw [forXD, forXE, zero_add_cast, if_pos (show 17 < (stF sc a (ms.map (wtD a)) (.addr a0) z).length from Nat.lt_of_sub_eq_succ rfl)]
    rw [show (stF sc a (ms.map (wtD a)) (.addr a0) z).set 17 (.int (n : Nat)) = stL sc a (ms.map (wtD a)) (.addr a0) (.int (n : Nat)) (z 18) (z 19) (z 20) (z 21) (z 22) (z 23) (z 24) (z 25) (z 26) (z 27) from rfl, e]
    exact ih
noncomputable def cubeL (a : Nat → Nat) : List Nat := List.range (2 ^ kN a)
theorem loop_eq (a0 : Addr) : ∃ z : Nat → D,
    g_loop a0 ((pre sc a 16).set 16 (.addr a0)) [[], [], [], []]
      = some (.next, stF sc a ((cubeL a).map (wtD a)) (.addr a0) z, [(cubeL a).map (ansD (q0 a)), (cubeL a).map (ansD (q1 a)), (cubeL a).map (ansD (q2 a)), (cubeL a).map (ansD (q3 a))]) := by
  have hp := (kN_pow a).2
  have hc : (cubeL a).length ≤ 1000 := by unfold cubeL; rw [List.length_range]; exact Nat.le_trans hp (by decide)
  obtain ⟨z, h⟩ := loop_run sc a a0 (cubeL a) [] (by rw [List.length_nil, Nat.zero_add]; exact hc) (fun n hn => List.mem_range.mp hn) fun _ => .undef
  refine ⟨z, ?_⟩
  unfold g_loop forX
  have er : rangeC (binC .Pow (iC 2) (var 3)) ((pre sc a 16).set 16 (.addr a0)) = some ((cubeL a).map fun (p : Nat) => D.int (0 + (p : Int))) :=
    rangeC_nat (k := 2 ^ kN a) (powC (k := kN a) rfl rfl (by have := kN_or a; omega)) (Nat.le_trans hp (by decide))
  show (rangeC (binC .Pow (iC 2) (var 3)) ((pre sc a 16).set 16 (.addr a0))).bind _ = _
  rw [er]
  exact h
end
end
end Mine
end
section
open PySem PySem.W PyProof.Rows PySem.Calls
set_option Elab.async false
set_option maxRecDepth 100000
namespace Mine
noncomputable section
/-! the answers go up with the tabs -/
theorem and_sub {x s : Nat} : (x &&& s == s) = true ↔ ∀ i, s.testBit i = true → x.testBit i = true := by
  rw [beq_iff_eq]
  constructor
  · intro h i hi
    rw [← h, Nat.testBit_and] at hi
    exact (Bool.and_eq_true_iff.mp hi).1
  · intro h
    refine Nat.eq_of_testBit_eq fun i => ?_
    rw [Nat.testBit_and]
    cases c : s.testBit i with
    | false => rw [Bool.and_false]
    | true => rw [h i c, Bool.true_and]
theorem or_bit {n p : Nat} (i : Nat) (h : n.testBit i = true) : (n ||| 2 ^ p).testBit i = true := by
  rw [Nat.testBit_or, h, Bool.true_or]
theorem and_up {n p s : Nat} (h : (n &&& s == s) = true) : ((n ||| 2 ^ p) &&& s == s) = true :=
  and_sub.mpr fun i hi => or_bit i (and_sub.mp h i hi)
theorem seen_bit {k n : Nat} (hn : n < 2 ^ k) (i : Nat) : (2 ^ k - 1 - n).testBit i = (decide (i < k) && !n.testBit i) := by
  rw [Nat.sub_sub, Nat.add_comm 1 n, Nat.testBit_two_pow_sub_succ hn i]
theorem seen_up {k n p s : Nat} (hp : p < k) (hn : n < 2 ^ k) (h : ((2 ^ k - 1 - (n ||| 2 ^ p)) &&& s == s) = true) : ((2 ^ k - 1 - n) &&& s == s) = true := by
  refine and_sub.mpr fun i hi => ?_
  have hb := and_sub.mp h i hi
  have hm : n ||| 2 ^ p < 2 ^ k := Nat.or_lt_two_pow hn (Nat.pow_lt_pow_right (by decide) hp)
  rw [seen_bit hm] at hb
  rw [seen_bit hn]
  cases c : n.testBit i with
  | false => rw [Bool.and_eq_true] at hb; rw [hb.1]; rfl
  | true => rw [or_bit i c] at hb; simp at hb
theorem tab_cmono : ([3, 4].all fun k => (List.range 5).all fun s => (List.range k).all fun p => (List.range (2 ^ k)).all fun n => decide (colN k (s + 1) n ≤ colN k (s + 1) (n ||| 2 ^ p)) && decide (colN k (s + 1) n ≤ 1000)) = true := by decide +kernel
section
variable (a : Nat → Nat)
theorem col_tab {p n : Nat} (hp : p < kN a) (hn : n < 2 ^ kN a) : colN (kN a) (sN a) n ≤ colN (kN a) (sN a) (n ||| 2 ^ p) ∧ colN (kN a) (sN a) n ≤ 1000 := by
  have hs := sN_le a
  have h := all_get (all_get (all_get (all_get tab_cmono (show kN a ∈ [3, 4] by rcases kN_or a with h | h <;> rw [h] <;> simp)) (List.mem_range.mpr (show sN a - 1 < 5 from Nat.lt_of_lt_of_le (Nat.sub_lt hs.1 Nat.zero_lt_one) hs.2))) (List.mem_range.mpr hp)) (List.mem_range.mpr hn)
  rw [Bool.and_eq_true, Nat.sub_add_cancel hs.1] at h
  exact ⟨of_decide_eq_true h.1, of_decide_eq_true h.2⟩
theorem q0_mono : FMono (kN a) (q0 a) := fun p hp n hn => Int.ofNat_le.mpr (col_tab a hp hn).1
theorem q1_mono : FMono (kN a) (q1 a) := fun p hp n hn => by
  unfold q1 fitA fitsB seenN
  generalize spotsN (kN a) (fiN a) (seN a) (frN a) (baN a) = l
  cases spB a with
  | true =>
    have h : (l.any fun s => (2 ^ kN a - 1 - (n ||| 2 ^ p)) &&& s == s) = true → (l.any fun s => (2 ^ kN a - 1 - n) &&& s == s) = true := by
      rw [List.any_eq_true, List.any_eq_true]
      rintro ⟨s, hs, hq⟩
      exact ⟨s, hs, seen_up hp hn hq⟩
    simp only [if_true]
    cases c1 : (l.any fun s => (2 ^ kN a - 1 - n) &&& s == s) <;> cases c2 : (l.any fun s => (2 ^ kN a - 1 - (n ||| 2 ^ p)) &&& s == s)
    · simp
    · rw [h c2] at c1; cases c1
    · simp
    · simp
  | false =>
    have h : (l.any fun s => n &&& s == s) = true → (l.any fun s => (n ||| 2 ^ p) &&& s == s) = true := by
      rw [List.any_eq_true, List.any_eq_true]
      rintro ⟨s, hs, hq⟩
      exact ⟨s, hs, and_up hq⟩
    simp only [Bool.false_eq_true, if_false]
    cases c1 : (l.any fun s => n &&& s == s) <;> cases c2 : (l.any fun s => (n ||| 2 ^ p) &&& s == s)
    · simp
    · simp
    · rw [h c1] at c2; cases c2
    · simp
theorem q2_mono : FMono (kN a) (q2 a) := fun p _ n _ => by
  unfold q2 holdA
  have h : (n &&& wN a == wN a) = true → ((n ||| 2 ^ p) &&& wN a == wN a) = true := and_up
  cases c1 : (n &&& wN a == wN a) <;> cases c2 : ((n ||| 2 ^ p) &&& wN a == wN a)
  · simp
  · simp
  · rw [h c1] at c2; cases c2
  · simp
theorem q3_mono : FMono (kN a) (q3 a) := fun p _ n _ => Int.ofNat_le.mpr (widN_mono (figN a) (n := n) (m := n ||| 2 ^ p) fun i hi => or_bit i hi)
noncomputable def Q : Nat → Nat → Int
  | 0 => q0 a
  | 1 => q1 a
  | 2 => q2 a
  | _ => q3 a
theorem Q_mono (i : Nat) : FMono (kN a) (Q a i) := by
  match i with
  | 0 => exact q0_mono a
  | 1 => exact q1_mono a
  | 2 => exact q2_mono a
  | _ + 3 => exact q3_mono a
theorem Q_abs (i : Nat) {n : Nat} (hn : n < 2 ^ kN a) : (Q a i n).natAbs ≤ 1000 := by
  match i with
  | 0 =>
    have := (col_tab a (p := 0) (by rcases kN_or a with h | h <;> rw [h] <;> decide) hn).2
    show ((colN (kN a) (sN a) n : Nat) : Int).natAbs ≤ 1000
    rw [Int.natAbs_natCast]
    exact this
  | 1 =>
    show (if fitA a n then (if spB a then (-1 : Int) else 1) else 0).natAbs ≤ 1000
    repeat' split
    all_goals decide
  | 2 =>
    show (if holdA a n then (1 : Int) else 0).natAbs ≤ 1000
    split <;> decide
  | _ + 3 =>
    show ((widN (figN a) n : Nat) : Int).natAbs ≤ 1000
    rw [Int.natAbs_natCast]
    unfold widN
    split
    · exact Nat.zero_le _
    · split
      · exact Nat.le_trans len_small (by decide)
      · decide
theorem lo_pos (i : Nat) : 0 < loN a i ∧ 0 < hiN a i := ⟨Int.natCast_pos.mpr (Nat.succ_pos _), Int.natCast_pos.mpr (Nat.succ_pos _)⟩
theorem lo_le (i : Nat) : loN a i ≤ 5 ∧ hiN a i ≤ 5 := ⟨Int.ofNat_le.mpr (Nat.mod_lt _ (by decide)), Int.ofNat_le.mpr (Nat.mod_lt _ (by decide))⟩
theorem Wt_pos : ∀ (k n : Nat), 0 < Wt (loN a) (hiN a) k n ∧ Wt (loN a) (hiN a) k n ≤ 5 ^ k
  | 0, _ => ⟨show (0 : Int) < 1 by decide, show (1 : Int) ≤ 1 by decide⟩
  | k + 1, n => by
    obtain ⟨h1, h2⟩ := Wt_pos k n
    have hl := lo_pos a k
    have hh := lo_le a k
    rw [Wt_succ, Int.pow_succ]
    have hx : 0 < (if n.testBit k then hiN a k else loN a k) ∧ (if n.testBit k then hiN a k else loN a k) ≤ 5 := by split <;> omega
    generalize (if n.testBit k then hiN a k else loN a k) = x at hx
    refine ⟨Int.mul_pos h1 hx.1, ?_⟩
    exact Int.mul_le_mul h2 hx.2 (Int.le_of_lt hx.1) (Int.le_trans (Int.le_of_lt h1) h2)
theorem Wt_abs (n : Nat) : (Wt (loN a) (hiN a) (kN a) n).natAbs ≤ 625 := by
  obtain ⟨h1, h2⟩ := Wt_pos a (kN a) n
  have h3 : (5 : Int) ^ kN a ≤ 625 := by rcases kN_or a with h | h <;> rw [h] <;> decide
  exact Int.ofNat_le.mp (by rw [Int.natAbs_of_nonneg (Int.le_of_lt h1)]; exact Int.le_trans h2 h3)
theorem sum_abs (f : Nat → Int) (B : Nat) : ∀ (l : List Nat), (∀ n ∈ l, (f n).natAbs ≤ B) → ((l.map f).sum).natAbs ≤ l.length * B
  | [], _ => by simp
  | x :: l, h => by
    have h1 := h x (.head _)
    have ih := sum_abs f B l fun n hn => h n (.tail _ hn)
    rw [List.map_cons, List.sum_cons, List.length_cons, Nat.succ_mul, Nat.add_comm]
    exact Nat.le_trans (Int.natAbs_add_le _ _) (Nat.add_le_add h1 ih)
theorem Sm_abs (q : Nat → Int) (B : Nat) (h : ∀ n, n < 2 ^ kN a → (q n).natAbs ≤ B) : (Sm (loN a) (hiN a) (kN a) q).natAbs ≤ 16 * (625 * B) := by
  have h1 := sum_abs (fun n => Wt (loN a) (hiN a) (kN a) n * q n) (625 * B) (List.range (2 ^ kN a)) fun n hn => by
    rw [Int.natAbs_mul]
    exact Nat.mul_le_mul (Wt_abs a n) (h n (List.mem_range.mp hn))
  rw [List.length_range] at h1
  exact Nat.le_trans h1 (Nat.mul_le_mul_right _ (kN_pow a).2)
end
end
end Mine
end
section
open PySem PySem.W PyProof.Rows PySem.Calls
set_option Elab.async false
set_option maxRecDepth 100000
namespace Mine
noncomputable section
/-! sums and lists -/
theorem intsD_ints : ∀ (l : List Int), intsD (l.map D.int) = some l
  | [] => rfl
  | x :: l => by
    show (intsD (l.map D.int)).map (x :: ·) = _
    rw [intsD_ints l]
    rfl
theorem sumD_ints (l : List Int) : sumD [.list (l.map D.int)] = some (.int l.sum) := by
  show (intsD (l.map D.int)).map (fun ns => D.int ns.sum) = _
  rw [intsD_ints]
  rfl
theorem lenC_of {f : FD} {ρ ds : List D} (h : f ρ = some (.list ds)) (hl : ds.length ≤ 1000) : callC lenD (consA f nilA) ρ = some (.int (ds.length : Nat)) := by
  rw [callC_of (consA_of h nilA_eq)]
  show (if ds.length ≤ 100000 then some (D.int ds.length) else none) = _
  rw [if_pos (le_hu hl)]
theorem sumC_of {r e : FD} {ρ : List D} {N : Nat} {g : Nat → Int} (hr : r ρ = some (.int (N : Nat))) (hN : N ≤ 1000) (he : ∀ n, n < N → e (.int (n : Nat) :: ρ) = some (.int (g n))) :
    callC sumD (consA (compC (rangeC r) trueT e) nilA) ρ = some (.int ((List.range N).map g).sum) := by
  have ec : compC (rangeC r) trueT e ρ = some (.list (((List.range N).map g).map D.int)) := by
    unfold compC
    rw [rangeC_nat hr hN, Option.bind_some, if_pos (len_range hN), compD_map (fun (p : Nat) => D.int (0 + (p : Int))) (fun n => D.int (g n))]
    · rw [List.map_map]; rfl
    · intro n hn
      refine ⟨rfl, ?_⟩
      rw [zero_add_cast]
      exact he n (List.mem_range.mp hn)
  rw [callC_of (consA_of ec nilA_eq), sumD_ints]
theorem mulI {f g : FD} {ρ : List D} {x y : Int} (h1 : f ρ = some (.int x)) (h2 : g ρ = some (.int y)) (h : y.natAbs < 2 ^ 64) : binC .Mult f g ρ = some (.int (x * y)) := by
  rw [binC_of h1 h2]
  show (if y.natAbs < 2 ^ 64 then some (D.int (x * y)) else none) = _
  rw [if_pos h]
theorem subI {f g : FD} {ρ : List D} {x y : Int} (h1 : f ρ = some (.int x)) (h2 : g ρ = some (.int y)) : binC .Sub f g ρ = some (.int (x - y)) := by
  rw [binC_of h1 h2]
  rfl
theorem idxI {f g : FD} {ρ ds : List D} {p : Nat} {d : D} (h1 : f ρ = some (.list ds)) (h2 : g ρ = some (.int (p : Nat))) (hp : p < 1000) (hd : ds[p]? = some d) : idxC f g ρ = some d := by
  rw [idxC_of h1 h2, idx_nat (lt_mi hp), hd]
/-! the places that move an answer -/
noncomputable def depB (k : Nat) (q : Nat → Int) (p : Nat) : Bool := (List.range (2 ^ k)).any fun n => q n != q (n ||| 2 ^ p)
theorem depB_iff {k : Nat} {q : Nat → Int} {p : Nat} : depB k q p = true ↔ FDep k q p := by
  unfold depB FDep
  rw [List.any_eq_true]
  constructor
  · rintro ⟨n, hn, h⟩
    exact ⟨n, List.mem_range.mp hn, bne_iff_ne.mp h⟩
  · rintro ⟨n, hn, h⟩
    exact ⟨n, List.mem_range.mpr hn, bne_iff_ne.mpr h⟩
theorem filter_any {α : Type} (q : α → Bool) : ∀ (l : List α), (!decide (l.filter q = [])) = l.any q
  | [] => rfl
  | x :: l => by
    have ih := filter_any q l
    rw [List.filter_cons, List.any_cons]
    split
    · rename_i h; rw [h]; rfl
    · rename_i h
      rw [ih]
      have : q x = false := by simpa using h
      rw [this]
      rfl
theorem moved_run (k : Nat) (hk : k = 3 ∨ k = 4) (q : Nat → Int) : ∀ (ps ms : List Nat), ms.length + ps.length ≤ 100 → (∀ p ∈ ps, p < k) → ∀ (j : D), ∃ j',
    forD 3 (seqS (ifS (cmpT .NotEq (compC (rangeC (callC lenD (consA (var 0) nilA))) (cmpT .NotEq (idxC (var 1) (var 0)) (idxC (var 1) (binC .BitOr (var 0) (binC .LShift (iC 1) (var 4))))) (var 0)) (listC nilA)) (seqS (appS 2 (var 3)) skipS) skipS) skipS) skipS
      (ps.map fun (p : Nat) => D.int (0 + (p : Int))) [.list ((List.range (2 ^ k)).map (ansD q)), .int (k : Nat), .list (ms.map fun (p : Nat) => D.int (p : Nat)), j]
    = some (.next, [.list ((List.range (2 ^ k)).map (ansD q)), .int (k : Nat), .list ((ms ++ ps.filter (depB k q)).map fun (p : Nat) => D.int (p : Nat)), j'])
  | [], ms, _, _, j => ⟨j, by rw [List.filter_nil, List.append_nil]; rfl⟩
  | p :: ps, ms, hl, hp, j => by
    rw [List.length_cons] at hl
    have hpk := hp p (.head _)
    have hlen : ((List.range (2 ^ k)).map (ansD q)).length = 2 ^ k := by rw [List.length_map, List.length_range]
    have h16 : 2 ^ k ≤ 16 := by rcases hk with rfl | rfl <;> decide
    rw [List.map_cons, forD, zero_add_cast, if_pos (show 3 < ([.list ((List.range (2 ^ k)).map (ansD q)), .int (k : Nat), .list (ms.map fun (p : Nat) => D.int (p : Nat)), j] : List D).length from Nat.lt_of_sub_eq_succ rfl)]
    rw [show ([.list ((List.range (2 ^ k)).map (ansD q)), .int (k : Nat), .list (ms.map fun (p : Nat) => D.int (p : Nat)), j] : List D).set 3 (.int (p : Nat)) = [.list ((List.range (2 ^ k)).map (ansD q)), .int (k : Nat), .list (ms.map fun (p : Nat) => D.int (p : Nat)), .int (p : Nat)] from rfl]
    have er : callC lenD (consA (var 0) nilA) [.list ((List.range (2 ^ k)).map (ansD q)), .int (k : Nat), .list (ms.map fun (p : Nat) => D.int (p : Nat)), .int (p : Nat)] = some (.int ((2 ^ k : Nat) : Int)) := by
      rw [lenC_of (ds := (List.range (2 ^ k)).map (ansD q)) rfl (by rw [hlen]; exact le_th h16), hlen]
    have ec : compC (rangeC (callC lenD (consA (var 0) nilA))) (cmpT .NotEq (idxC (var 1) (var 0)) (idxC (var 1) (binC .BitOr (var 0) (binC .LShift (iC 1) (var 4))))) (var 0) [.list ((List.range (2 ^ k)).map (ansD q)), .int (k : Nat), .list (ms.map fun (p : Nat) => D.int (p : Nat)), .int (p : Nat)]
        = some (.list (((List.range (2 ^ k)).filter fun n => q n != q (n ||| 2 ^ p)).map fun (s : Nat) => D.int (s : Nat))) := by
      unfold compC
      rw [rangeC_nat er (le_th h16), Option.bind_some, if_pos (len_range (le_th h16)), compD_filter (fun (p : Nat) => D.int (0 + (p : Int))) (fun n => q n != q (n ||| 2 ^ p)) (fun (s : Nat) => D.int (s : Nat))]
      · rfl
      · intro n hn
        have hn := List.mem_range.mp hn
        rw [zero_add_cast]
        refine ⟨?_, rfl⟩
        have hm : n ||| 2 ^ p < 2 ^ k := Nat.or_lt_two_pow hn (Nat.pow_lt_pow_right (by decide) hpk)
        have e1 : idxC (var 1) (var 0) (.int (n : Nat) :: [.list ((List.range (2 ^ k)).map (ansD q)), .int (k : Nat), .list (ms.map fun (p : Nat) => D.int (p : Nat)), .int (p : Nat)]) = some (.int (q n)) :=
          idxI (ds := (List.range (2 ^ k)).map (ansD q)) rfl rfl (lt_th hn h16) (range_at hn)
        have e2 : binC .BitOr (var 0) (binC .LShift (iC 1) (var 4)) (.int (n : Nat) :: [.list ((List.range (2 ^ k)).map (ansD q)), .int (k : Nat), .list (ms.map fun (p : Nat) => D.int (p : Nat)), .int (p : Nat)]) = some (.int ((n ||| 2 ^ p : Nat) : Int)) := by
          have es : binC .LShift (iC 1) (var 4) (.int (n : Nat) :: [.list ((List.range (2 ^ k)).map (ansD q)), .int (k : Nat), .list (ms.map fun (p : Nat) => D.int (p : Nat)), .int (p : Nat)]) = some (.int ((2 ^ p : Nat) : Int)) := by
            rw [shlC (a := 1) (k := p) rfl rfl (by decide) (Nat.le_of_lt (lt_th hpk (k34 hk))), Nat.one_mul]
          rw [binC_of rfl es, or_nat]
        have e3 : idxC (var 1) (binC .BitOr (var 0) (binC .LShift (iC 1) (var 4))) (.int (n : Nat) :: [.list ((List.range (2 ^ k)).map (ansD q)), .int (k : Nat), .list (ms.map fun (p : Nat) => D.int (p : Nat)), .int (p : Nat)]) = some (.int (q (n ||| 2 ^ p))) :=
          idxI (ds := (List.range (2 ^ k)).map (ansD q)) rfl e2 (lt_th hm h16) (range_at hm)
        rw [cmpT_of e1 e3]
        rfl
    have et : cmpT .NotEq (compC (rangeC (callC lenD (consA (var 0) nilA))) (cmpT .NotEq (idxC (var 1) (var 0)) (idxC (var 1) (binC .BitOr (var 0) (binC .LShift (iC 1) (var 4))))) (var 0)) (listC nilA) [.list ((List.range (2 ^ k)).map (ansD q)), .int (k : Nat), .list (ms.map fun (p : Nat) => D.int (p : Nat)), .int (p : Nat)] = some (depB k q p) := by
      rw [cmpT_of ec (b := .list []) rfl, ne_empty, filter_any]
      rfl
    rw [List.filter_cons]
    cases c : depB k q p with
    | true =>
      rw [c] at et
      have ea : seqS (appS 2 (var 3)) skipS [.list ((List.range (2 ^ k)).map (ansD q)), .int (k : Nat), .list (ms.map fun (p : Nat) => D.int (p : Nat)), .int (p : Nat)] = some (.next, [.list ((List.range (2 ^ k)).map (ansD q)), .int (k : Nat), .list ((ms ++ [p]).map fun (p : Nat) => D.int (p : Nat)), .int (p : Nat)]) := by
        have e0 : appS 2 (var 3) [.list ((List.range (2 ^ k)).map (ansD q)), .int (k : Nat), .list (ms.map fun (p : Nat) => D.int (p : Nat)), .int (p : Nat)] = some (.next, [.list ((List.range (2 ^ k)).map (ansD q)), .int (k : Nat), .list ((ms ++ [p]).map fun (p : Nat) => D.int (p : Nat)), .int (p : Nat)]) := by
          show (if (D.int (p : Nat)).flat = true ∧ (ms.map fun (p : Nat) => D.int (p : Nat)).length ≤ 100000 then some (Fl.next, ([.list ((List.range (2 ^ k)).map (ansD q)), .int (k : Nat), .list (ms.map fun (p : Nat) => D.int (p : Nat)), .int (p : Nat)] : List D).set 2 (.list ((ms.map fun (p : Nat) => D.int (p : Nat)) ++ [.int (p : Nat)]))) else none) = _
          rw [if_pos ⟨rfl, by rw [List.length_map]; exact Nat.le_trans (Nat.le_trans (Nat.le_add_right _ _) hl) (by decide)⟩, List.map_append]
          rfl
        rw [seqS_next e0]
        rfl
      rw [seqS_next ((ifS_true et).trans ea)]
      obtain ⟨j', ih⟩ := moved_run k hk q ps (ms ++ [p]) (by rw [List.length_append, Nat.add_assoc, List.length_singleton, Nat.add_comm 1]; exact hl) (fun r hr => hp r (.tail _ hr)) (.int (p : Nat))
      refine ⟨j', ?_⟩
      rw [if_pos rfl, show ms ++ p :: ps.filter (depB k q) = ms ++ [p] ++ ps.filter (depB k q) by simp]
      exact ih
    | false =>
      rw [c] at et
      rw [seqS_next (ifS_false et), if_neg (by simp)]
      exact moved_run k hk q ps ms (Nat.le_trans (Nat.add_le_add_left (Nat.le_succ _) _) hl) (fun r hr => hp r (.tail _ hr)) (.int (p : Nat))
noncomputable def movN (k : Nat) (q : Nat → Int) : List Nat := (List.range k).filter (depB k q)
theorem moved_eq {k : Nat} (hk : k = 3 ∨ k = 4) (q : Nat → Int) : F_moved [.list ((List.range (2 ^ k)).map (ansD q)), .int (k : Nat)] = some (.list ((movN k q).map fun (p : Nat) => D.int (p : Nat))) := by
  obtain ⟨j, h⟩ := moved_run k hk q (List.range k) [] (by rw [List.length_nil, Nat.zero_add, List.length_range]; exact Nat.le_trans (k34 hk) (by decide)) (fun p hp => List.mem_range.mp hp) .undef
  unfold F_moved
  refine resD_ret (ρ := [.list ((List.range (2 ^ k)).map (ansD q)), .int (k : Nat), .list ((movN k q).map fun (p : Nat) => D.int (p : Nat)), j]) rfl ?_
  show g_moved [.list ((List.range (2 ^ k)).map (ansD q)), .int (k : Nat), .undef, .undef] = _
  unfold g_moved
  have e1 : newS 2 nilA [.list ((List.range (2 ^ k)).map (ansD q)), .int (k : Nat), .undef, .undef] = some (.next, [.list ((List.range (2 ^ k)).map (ansD q)), .int (k : Nat), .list [], .undef]) := rfl
  have e2 : forS 3 (rangeC (var 1)) (seqS (ifS (cmpT .NotEq (compC (rangeC (callC lenD (consA (var 0) nilA))) (cmpT .NotEq (idxC (var 1) (var 0)) (idxC (var 1) (binC .BitOr (var 0) (binC .LShift (iC 1) (var 4))))) (var 0)) (listC nilA)) (seqS (appS 2 (var 3)) skipS) skipS) skipS) skipS [.list ((List.range (2 ^ k)).map (ansD q)), .int (k : Nat), .list [], .undef]
      = some (.next, [.list ((List.range (2 ^ k)).map (ansD q)), .int (k : Nat), .list ((movN k q).map fun (p : Nat) => D.int (p : Nat)), j]) := by
    unfold forS
    rw [rangeC_nat (k := k) rfl (le_th (k34 hk))]
    exact h
  rw [seqS_next e1, seqS_next e2]
  rfl
end
end Mine
end
section
open PySem PySem.W PyProof.Rows PySem.Calls
set_option Elab.async false
set_option maxRecDepth 100000
namespace Mine
noncomputable section
noncomputable def ansL (a : Nat → Nat) : List D := (List.range 4).map fun i => .list ((cubeL a).map (ansD (Q a i)))
noncomputable def smD (a : Nat → Nat) : List D := (List.range 4).map fun i => .int (Sm (loN a) (hiN a) (kN a) (Q a i))
noncomputable def mvD (a : Nat → Nat) : List D := (List.range 4).map fun i => .list ((movN (kN a) (Q a i)).map fun (p : Nat) => D.int (p : Nat))
noncomputable def stQ (sc : D) (a : Nat → Nat) (z : Nat → D) (s28 s29 s30 s31 s32 s33 s34 : D) : List D :=
  [sc, .list (rowD a), .int (sN a : Nat), .int (kN a : Nat), .str (signOf (spB a)), .int (fiN a : Nat), .int (seN a : Nat), .int (frN a : Nat), .int (baN a : Nat),
  .str (wishText (spB a) (fiN a) (seN a) (frN a) (baN a)), .list (spotD a), .int (wN a : Nat), .int (shN a : Nat), .str (askText (wN a * 2 ^ shN a)), .list (figD a), .list ((cubeL a).map (wtD a)),
  .list (ansL a), z 17, z 18, z 19, z 20, z 21, z 22, z 23, z 24, z 25, z 26, z 27, s28, s29, s30, s31, s32, s33, s34]
section
variable (sc : D) (a : Nat → Nat) (z : Nat → D)
theorem cube_len : (cubeL a).length = 2 ^ kN a := by unfold cubeL; rw [List.length_range]
theorem wt_at {n : Nat} (hn : n < 2 ^ kN a) : ((cubeL a).map (wtD a))[n]? = some (.int (Wt (loN a) (hiN a) (kN a) n)) := range_at hn
theorem ans_at {i n : Nat} (hn : n < 2 ^ kN a) : ((cubeL a).map (ansD (Q a i)))[n]? = some (.int (Q a i n)) := range_at hn
theorem h16 : 2 ^ kN a ≤ 16 := (kN_pow a).2
theorem r28 (s28 s29 s30 s31 s32 s33 s34 : D) :
    compS 28 (iterC (var 16)) trueT (callC sumD (consA (compC (rangeC (callC lenD (consA (var 16) nilA))) trueT (binC .Mult (idxC (var 17) (var 0)) (idxC (var 1) (var 0)))) nilA)) (stQ sc a z s28 s29 s30 s31 s32 s33 s34)
      = some (.next, stQ sc a z (.list (smD a)) s29 s30 s31 s32 s33 s34) := by
  have h16 := h16 a
  unfold compS
  rw [show iterC (var 16) (stQ sc a z s28 s29 s30 s31 s32 s33 s34) = some (ansL a) from rfl, Option.bind_some, if_pos (by unfold ansL; simp)]
  unfold ansL
  rw [compD_map (fun i => D.list ((cubeL a).map (ansD (Q a i)))) (fun i => D.int (Sm (loN a) (hiN a) (kN a) (Q a i)))]
  · rfl
  · intro i _
    refine ⟨rfl, ?_⟩
    unfold Sm
    refine sumC_of (N := 2 ^ kN a) (g := fun n => Wt (loN a) (hiN a) (kN a) n * Q a i n) ?_ (le_th h16) fun n hn => ?_
    · rw [lenC_of (ds := (cubeL a).map (wtD a)) rfl (by rw [List.length_map, cube_len]; exact le_th h16), List.length_map, cube_len]
    · exact mulI (idxI (ds := (cubeL a).map (wtD a)) rfl rfl (lt_th hn h16) (wt_at a hn)) (idxI (ds := (cubeL a).map (ansD (Q a i))) rfl rfl (lt_th hn h16) (ans_at a hn)) (Nat.lt_of_le_of_lt (Q_abs a i hn) (by decide))
theorem r29 (s28 s29 s30 s31 s32 s33 s34 : D) :
    asgS 29 (compC (iterC (var 16)) trueT (callC F_moved (consA (var 0) (consA (var 4) nilA)))) (stQ sc a z s28 s29 s30 s31 s32 s33 s34)
      = some (.next, stQ sc a z s28 (.list (mvD a)) s30 s31 s32 s33 s34) := by
  refine asgS_of (d := .list (mvD a)) ?_ rfl
  unfold compC
  rw [show iterC (var 16) (stQ sc a z s28 s29 s30 s31 s32 s33 s34) = some (ansL a) from rfl, Option.bind_some, if_pos (by unfold ansL; simp)]
  unfold ansL
  rw [compD_map (fun i => D.list ((cubeL a).map (ansD (Q a i)))) (fun i => D.list ((movN (kN a) (Q a i)).map fun (p : Nat) => D.int (p : Nat)))]
  · rfl
  · intro i _
    refine ⟨rfl, ?_⟩
    exact Eq.trans (callC_of (consA_of rfl (consA_of rfl nilA_eq))) (moved_eq (kN_or a) (Q a i))
noncomputable def bothZ (a : Nat → Nat) (i j : Nat) : Int := Sm (loN a) (hiN a) (kN a) fun n => Q a i n * Q a j n
theorem r32 {i j : Nat} (hi : i < 4) (hj : j < 4) (s32 s33 s34 : D) :
    asgS 32 (callC sumD (consA (compC (rangeC (callC lenD (consA (var 15) nilA))) trueT (binC .Mult (binC .Mult (idxC (var 16) (var 0)) (idxC (idxC (var 17) (var 31)) (var 0))) (idxC (idxC (var 17) (var 32)) (var 0)))) nilA)) (stQ sc a z (.list (smD a)) (.list (mvD a)) (.int (i : Nat)) (.int (j : Nat)) s32 s33 s34)
      = some (.next, stQ sc a z (.list (smD a)) (.list (mvD a)) (.int (i : Nat)) (.int (j : Nat)) (.int (bothZ a i j)) s33 s34) := by
  have h16 := h16 a
  refine asgS_of (d := .int (bothZ a i j)) ?_ rfl
  unfold bothZ Sm
  refine sumC_of (N := 2 ^ kN a) (g := fun n => Wt (loN a) (hiN a) (kN a) n * (Q a i n * Q a j n)) ?_ (le_th h16) fun n hn => ?_
  · rw [lenC_of (ds := (cubeL a).map (wtD a)) rfl (by rw [List.length_map, cube_len]; exact le_th h16), List.length_map, cube_len]
  · show _ = some (D.int (Wt (loN a) (hiN a) (kN a) n * (Q a i n * Q a j n)))
    rw [← Int.mul_assoc]
    refine mulI (mulI (idxI (ds := (cubeL a).map (wtD a)) rfl rfl (lt_th hn h16) (wt_at a hn)) ?_ (Nat.lt_of_le_of_lt (Q_abs a i hn) (by decide))) ?_ (Nat.lt_of_le_of_lt (Q_abs a j hn) (by decide))
    · exact idxI (ds := (cubeL a).map (ansD (Q a i))) (idxI (ds := ansL a) rfl rfl (lt_4 hi) (range_at hi)) rfl (lt_th hn h16) (ans_at a hn)
    · exact idxI (ds := (cubeL a).map (ansD (Q a j))) (idxI (ds := ansL a) rfl rfl (lt_4 hj) (range_at hj)) rfl (lt_th hn h16) (ans_at a hn)
noncomputable def gainZ (a : Nat → Nat) (i j : Nat) : Int := Sm (loN a) (hiN a) (kN a) (fun _ => 1) * bothZ a i j - Sm (loN a) (hiN a) (kN a) (Q a i) * Sm (loN a) (hiN a) (kN a) (Q a j)
theorem both_abs (i j : Nat) : (bothZ a i j).natAbs < 2 ^ 64 := by
  refine Nat.lt_of_le_of_lt (Sm_abs a _ (1000 * 1000) fun n hn => ?_) (by decide)
  rw [Int.natAbs_mul]
  exact Nat.mul_le_mul (Q_abs a i hn) (Q_abs a j hn)
theorem sum_abs' (j : Nat) : (Sm (loN a) (hiN a) (kN a) (Q a j)).natAbs < 2 ^ 64 :=
  Nat.lt_of_le_of_lt (Sm_abs a _ 1000 fun n hn => Q_abs a j hn) (by decide)
theorem r33 {i j : Nat} (hi : i < 4) (hj : j < 4) (s33 s34 : D) :
    asgS 33 (binC .Sub (binC .Mult (callC sumD (consA (var 15) nilA)) (var 32)) (binC .Mult (idxC (var 28) (var 30)) (idxC (var 28) (var 31)))) (stQ sc a z (.list (smD a)) (.list (mvD a)) (.int (i : Nat)) (.int (j : Nat)) (.int (bothZ a i j)) s33 s34)
      = some (.next, stQ sc a z (.list (smD a)) (.list (mvD a)) (.int (i : Nat)) (.int (j : Nat)) (.int (bothZ a i j)) (.int (gainZ a i j)) s34) := by
  refine asgS_of (d := .int (gainZ a i j)) ?_ rfl
  have hs : callC sumD (consA (var 15) nilA) (stQ sc a z (.list (smD a)) (.list (mvD a)) (.int (i : Nat)) (.int (j : Nat)) (.int (bothZ a i j)) s33 s34) = some (.int (Sm (loN a) (hiN a) (kN a) fun _ => 1)) := by
    rw [callC_of (consA_of (a := .list ((cubeL a).map (wtD a))) rfl nilA_eq)]
    have e : (cubeL a).map (wtD a) = ((cubeL a).map fun n => Wt (loN a) (hiN a) (kN a) n * 1).map D.int := by
      rw [List.map_map]
      refine List.map_congr_left fun n _ => ?_
      show D.int (Wt (loN a) (hiN a) (kN a) n) = D.int (Wt (loN a) (hiN a) (kN a) n * 1)
      rw [Int.mul_one]
    rw [e, sumD_ints]
    rfl
  unfold gainZ
  exact subI (mulI hs rfl (both_abs a i j)) (mulI (idxI (ds := smD a) rfl rfl (lt_4 hi) (range_at hi)) (idxI (ds := smD a) rfl rfl (lt_4 hj) (range_at hj)) (sum_abs' a j))
noncomputable def sharedB (a : Nat → Nat) (i j : Nat) : Bool := (movN (kN a) (Q a i)).any fun p => (movN (kN a) (Q a j)).any fun r => r == p
theorem in_nat (p : Nat) (l : List Nat) : cmpD .In (.int ((p : Nat) : Int)) (.list (l.map fun (s : Nat) => D.int (s : Nat))) = some (l.any fun r => r == p) := by
  show (intsD (l.map fun (s : Nat) => D.int (s : Nat))).map (fun ns => ns.any (· == ((p : Nat) : Int))) = _
  rw [intsD_nat]
  show some ((l.map fun (s : Nat) => (s : Int)).any (· == ((p : Nat) : Int))) = _
  rw [List.any_map]
  congr 2
  funext r
  show (((r : Nat) : Int) == ((p : Nat) : Int)) = (r == p)
  rw [Bool.eq_iff_iff, beq_iff_eq, beq_iff_eq]
  exact Int.natCast_inj
theorem mov_len (k : Nat) (q : Nat → Int) : (movN k q).length ≤ k := by
  unfold movN
  have := List.length_filter_le (depB k q) (List.range k)
  rw [List.length_range] at this
  exact this
theorem r34 {i j : Nat} (hi : i < 4) (hj : j < 4) (s32 s33 s34 : D) :
    asgS 34 (cmpC .NotEq (compC (iterC (idxC (var 29) (var 30))) (cmpT .In (var 0) (idxC (var 30) (var 32))) (var 0)) (listC nilA)) (stQ sc a z (.list (smD a)) (.list (mvD a)) (.int (i : Nat)) (.int (j : Nat)) s32 s33 s34)
      = some (.next, stQ sc a z (.list (smD a)) (.list (mvD a)) (.int (i : Nat)) (.int (j : Nat)) s32 s33 (.bool (sharedB a i j))) := by
  refine asgS_of (d := .bool (sharedB a i j)) ?_ rfl
  have hk := kN_or a
  have hl := mov_len (kN a) (Q a i)
  have ei : iterC (idxC (var 29) (var 30)) (stQ sc a z (.list (smD a)) (.list (mvD a)) (.int (i : Nat)) (.int (j : Nat)) s32 s33 s34) = some ((movN (kN a) (Q a i)).map fun (p : Nat) => D.int (p : Nat)) := by
    unfold iterC
    rw [idxI (ds := mvD a) (p := i) rfl rfl (lt_4 hi) (range_at hi)]
    rfl
  have ec : compC (iterC (idxC (var 29) (var 30))) (cmpT .In (var 0) (idxC (var 30) (var 32))) (var 0) (stQ sc a z (.list (smD a)) (.list (mvD a)) (.int (i : Nat)) (.int (j : Nat)) s32 s33 s34)
      = some (.list (((movN (kN a) (Q a i)).filter fun p => (movN (kN a) (Q a j)).any fun r => r == p).map fun (p : Nat) => D.int (p : Nat))) := by
    unfold compC
    rw [ei, Option.bind_some, if_pos (by rw [List.length_map]; exact le_mi (le_th (Nat.le_trans hl (k34 hk)))), compD_filter (fun (p : Nat) => D.int (p : Nat)) (fun p => (movN (kN a) (Q a j)).any fun r => r == p) (fun (p : Nat) => D.int (p : Nat))]
    · rfl
    · intro p _
      refine ⟨?_, rfl⟩
      rw [cmpT_of (a := .int (p : Nat)) rfl (idxI (ds := mvD a) (p := j) rfl rfl (lt_4 hj) (range_at hj))]
      exact in_nat p _
  rw [cmpC_of ec (b := .list []) rfl, ne_empty, filter_any]
  rfl
theorem gain_all (i j : Nat) : 0 ≤ gainZ a i j ∧ sharedB a i j = decide (0 < gainZ a i j) := by
  have h := harris_fun (lo := loN a) (hi := hiN a) (lo_pos a) (kN a) (Q a i) (Q a j) (Q_mono a i) (Q_mono a j)
  refine ⟨h.1, ?_⟩
  rw [Bool.eq_iff_iff, decide_eq_true_iff]
  refine Iff.trans ?_ h.2.symm
  unfold sharedB movN
  rw [List.any_eq_true]
  constructor
  · rintro ⟨p, hp, hq⟩
    refine byC fun G0 => ?_
    obtain ⟨r, hr, e⟩ := List.any_eq_true.mp hq
    have e := beq_iff_eq.mp e
    subst e
    obtain ⟨h1, h2⟩ := List.mem_filter.mp hp
    obtain ⟨_, h3⟩ := List.mem_filter.mp hr
    refine G0 ?_
    clear G0
    exact ⟨_, List.mem_range.mp h1, depB_iff.mp h2, depB_iff.mp h3⟩
  · rintro ⟨p, hp, h1, h2⟩
    exact ⟨p, List.mem_filter.mpr ⟨List.mem_range.mpr hp, depB_iff.mpr h1⟩, List.any_eq_true.mpr ⟨p, List.mem_filter.mpr ⟨List.mem_range.mpr hp, depB_iff.mpr h2⟩, beq_iff_eq.mpr rfl⟩⟩
theorem r35 (i j : Nat) (s28 s29 s30 s31 s32 : D) :
    ifS (orT (cmpT .Lt (var 33) (iC 0)) (cmpT .NotEq (var 34) (cmpC .Gt (var 33) (iC 0)))) (seqS (retS (bC false)) skipS) skipS (stQ sc a z s28 s29 s30 s31 s32 (.int (gainZ a i j)) (.bool (sharedB a i j)))
      = some (.next, stQ sc a z s28 s29 s30 s31 s32 (.int (gainZ a i j)) (.bool (sharedB a i j))) := by
  obtain ⟨h1, h2⟩ := gain_all a i j
  refine ifS_false ?_
  have e1 : cmpT .Lt (var 33) (iC 0) (stQ sc a z s28 s29 s30 s31 s32 (.int (gainZ a i j)) (.bool (sharedB a i j))) = some false := by
    rw [cmpT_of (a := .int (gainZ a i j)) (b := .int 0) rfl rfl]
    show some (decide (gainZ a i j < 0)) = _
    rw [decide_eq_false (Int.not_lt.mpr h1)]
  have e2 : cmpC .Gt (var 33) (iC 0) (stQ sc a z s28 s29 s30 s31 s32 (.int (gainZ a i j)) (.bool (sharedB a i j))) = some (.bool (decide (0 < gainZ a i j))) := by
    rw [cmpC_of (a := .int (gainZ a i j)) (b := .int 0) rfl rfl]
    rfl
  have e3 : cmpT .NotEq (var 34) (cmpC .Gt (var 33) (iC 0)) (stQ sc a z s28 s29 s30 s31 s32 (.int (gainZ a i j)) (.bool (sharedB a i j))) = some false := by
    rw [cmpT_of (a := .bool (sharedB a i j)) rfl e2]
    show some (sharedB a i j != decide (0 < gainZ a i j)) = _
    rw [h2, bne_self_eq_false]
  exact orT_of e1 e3
noncomputable def g_in : FS := (seqS (asgS 32 (callC sumD (consA (compC (rangeC (callC lenD (consA (var 15) nilA))) trueT (binC .Mult (binC .Mult (idxC (var 16) (var 0)) (idxC (idxC (var 17) (var 31)) (var 0))) (idxC (idxC (var 17) (var 32)) (var 0)))) nilA)))
  (seqS (asgS 33 (binC .Sub (binC .Mult (callC sumD (consA (var 15) nilA)) (var 32)) (binC .Mult (idxC (var 28) (var 30)) (idxC (var 28) (var 31)))))
  (seqS (asgS 34 (cmpC .NotEq (compC (iterC (idxC (var 29) (var 30))) (cmpT .In (var 0) (idxC (var 30) (var 32))) (var 0)) (listC nilA)))
  (seqS (ifS (orT (cmpT .Lt (var 33) (iC 0)) (cmpT .NotEq (var 34) (cmpC .Gt (var 33) (iC 0)))) (seqS (retS (bC false))
  skipS) skipS)
  skipS))))
theorem in_eq {i j : Nat} (hi : i < 4) (hj : j < 4) (s32 s33 s34 : D) : g_in (stQ sc a z (.list (smD a)) (.list (mvD a)) (.int (i : Nat)) (.int (j : Nat)) s32 s33 s34)
    = some (.next, stQ sc a z (.list (smD a)) (.list (mvD a)) (.int (i : Nat)) (.int (j : Nat)) (.int (bothZ a i j)) (.int (gainZ a i j)) (.bool (sharedB a i j))) := by
  unfold g_in
  rw [seqS_next (r32 sc a z hi hj _ _ _), seqS_next (r33 sc a z hi hj _ _), seqS_next (r34 sc a z hi hj _ _ _), seqS_next (r35 sc a z i j _ _ _ _ _)]
  rfl
theorem in_run {i : Nat} (hi : i < 4) : ∀ (js : List Nat), (∀ j ∈ js, j < 4) → ∀ (s31 s32 s33 s34 : D), ∃ t31 t32 t33 t34,
    forD 31 g_in skipS (js.map fun (j : Nat) => D.int (j : Nat)) (stQ sc a z (.list (smD a)) (.list (mvD a)) (.int (i : Nat)) s31 s32 s33 s34)
      = some (.next, stQ sc a z (.list (smD a)) (.list (mvD a)) (.int (i : Nat)) t31 t32 t33 t34)
  | [], _, s31, s32, s33, s34 => ⟨_, _, _, _, rfl⟩
  | j :: js, hj, s31, s32, s33, s34 => by
    rw [List.map_cons, forD, if_pos (show 31 < (stQ sc a z (.list (smD a)) (.list (mvD a)) (.int (i : Nat)) s31 s32 s33 s34).length from Nat.lt_of_sub_eq_succ rfl)]
    rw [show (stQ sc a z (.list (smD a)) (.list (mvD a)) (.int (i : Nat)) s31 s32 s33 s34).set 31 (.int (j : Nat)) = stQ sc a z (.list (smD a)) (.list (mvD a)) (.int (i : Nat)) (.int (j : Nat)) s32 s33 s34 from rfl, in_eq sc a z hi (hj j (.head _))]
    exact in_run hi js (fun r hr => hj r (.tail _ hr)) _ _ _ _
noncomputable def g_out : FS := (seqS (forS 31 (range2C (var 30) (iC 4)) g_in skipS) skipS)
theorem out_eq {i : Nat} (hi : i < 4) (s31 s32 s33 s34 : D) : ∃ t31 t32 t33 t34, g_out (stQ sc a z (.list (smD a)) (.list (mvD a)) (.int (i : Nat)) s31 s32 s33 s34)
    = some (.next, stQ sc a z (.list (smD a)) (.list (mvD a)) (.int (i : Nat)) t31 t32 t33 t34) := by
  refine byC fun G1 => ?_
  obtain ⟨t31, t32, t33, t34, h⟩ := in_run sc a z hi ((List.range (4 - i)).map fun r => i + r) (fun j hj => by obtain ⟨r, hr, rfl⟩ := List.mem_map.mp hj; rw [Nat.add_comm]; exact Nat.add_lt_of_lt_sub (List.mem_range.mp hr)) s31 s32 s33 s34
  refine G1 ?_
  clear G1
  refine ⟨t31, t32, t33, t34, ?_⟩
  have er : range2C (var 30) (iC 4) (stQ sc a z (.list (smD a)) (.list (mvD a)) (.int (i : Nat)) s31 s32 s33 s34) = some (((List.range (4 - i)).map fun r => i + r).map fun (j : Nat) => D.int (j : Nat)) := by
    show (if (-1000000 ≤ (4 : Int) ∧ (4 : Int) ≤ 1000000) ∧ -1000000 ≤ ((i : Nat) : Int) ∧ ((i : Nat) : Int) ≤ 1000000 then some (rangeD ((i : Nat) : Int) 4) else none) = _
    rw [if_pos ⟨by decide, Int.le_trans (by decide) (Int.natCast_nonneg i), Int.ofNat_le.mpr (Nat.le_trans (Nat.le_of_lt hi) (by decide))⟩, List.map_map]
    unfold rangeD
    rw [show ((4 : Int) - ((i : Nat) : Int)).toNat = 4 - i from Int.toNat_sub 4 i]
    congr 1
  have ef : forS 31 (range2C (var 30) (iC 4)) g_in skipS (stQ sc a z (.list (smD a)) (.list (mvD a)) (.int (i : Nat)) s31 s32 s33 s34) = some (.next, stQ sc a z (.list (smD a)) (.list (mvD a)) (.int (i : Nat)) t31 t32 t33 t34) := by
    unfold forS
    rw [er]
    exact h
  unfold g_out
  rw [seqS_next ef]
  rfl
theorem out_run : ∀ (is : List Nat), (∀ i ∈ is, i < 4) → ∀ (s30 s31 s32 s33 s34 : D), ∃ t30 t31 t32 t33 t34,
    forD 30 g_out skipS (is.map fun (i : Nat) => D.int (0 + (i : Int))) (stQ sc a z (.list (smD a)) (.list (mvD a)) s30 s31 s32 s33 s34)
      = some (.next, stQ sc a z (.list (smD a)) (.list (mvD a)) t30 t31 t32 t33 t34)
  | [], _, s30, s31, s32, s33, s34 => ⟨_, _, _, _, _, rfl⟩
  | i :: is, hi, s30, s31, s32, s33, s34 => by
    rw [List.map_cons, forD, zero_add_cast, if_pos (show 30 < (stQ sc a z (.list (smD a)) (.list (mvD a)) s30 s31 s32 s33 s34).length from Nat.lt_of_sub_eq_succ rfl)]
    refine byC fun G2 => ?_
    obtain ⟨t31, t32, t33, t34, h⟩ := out_eq sc a z (hi i (.head _)) s31 s32 s33 s34
    refine G2 ?_
    clear G2
    rw [show (stQ sc a z (.list (smD a)) (.list (mvD a)) s30 s31 s32 s33 s34).set 30 (.int (i : Nat)) = stQ sc a z (.list (smD a)) (.list (mvD a)) (.int (i : Nat)) s31 s32 s33 s34 from rfl, h]
    exact out_run is (fun r hr => hi r (.tail _ hr)) _ _ _ _ _
theorem rest_eq : ∃ ρ, g_rest (stQ sc a z .undef .undef .undef .undef .undef .undef .undef) = some (.ret (.bool true), ρ) := by
  refine byC fun G3 => ?_
  obtain ⟨t30, t31, t32, t33, t34, h⟩ := out_run sc a z (List.range 4) (fun i hi => List.mem_range.mp hi) .undef .undef .undef .undef .undef
  refine G3 ?_
  clear G3
  have ef : forS 30 (rangeC (iC 4)) g_out skipS (stQ sc a z (.list (smD a)) (.list (mvD a)) .undef .undef .undef .undef .undef) = some (.next, stQ sc a z (.list (smD a)) (.list (mvD a)) t30 t31 t32 t33 t34) := by
    unfold forS
    rw [rangeC_nat (k := 4) rfl (by decide)]
    exact h
  unfold g_out g_in at ef
  refine ⟨stQ sc a z (.list (smD a)) (.list (mvD a)) t30 t31 t32 t33 t34, ?_⟩
  unfold g_rest
  rw [seqS_next (r28 sc a z _ _ _ _ _ _ _), seqS_next (r29 sc a z _ _ _ _ _ _ _), seqS_next ef]
  rfl
end
end
end Mine
end
section
open PySem PySem.W PyProof.Rows PySem.Calls
set_option Elab.async false
set_option maxRecDepth 100000
namespace Mine
noncomputable section
theorem row_nat (ns : List Int) : ∃ a : Nat → Nat, (rowOf ns).map D.int = rowD a := by
  refine ⟨fun i => ((rowOf ns).getD i 0).toNat, ?_⟩
  show _ = (List.range 12).map fun i => D.int (((rowOf ns).getD i 0).toNat : Nat)
  refine List.ext_getElem (by rw [List.length_map, List.length_map, rowOf_len, List.length_range]) fun i h1 h2 => ?_
  rw [List.length_map] at h1
  rw [List.getElem_map, List.getElem_map, List.getElem_range, List.getD_eq_getElem?_getD, List.getElem?_eq_getElem h1]
  show D.int _ = D.int ((rowOf ns)[i].toNat : Nat)
  rw [Int.toNat_of_nonneg (rowOf_bound ns _ (List.getElem_mem h1)).1]
theorem run_of (sc : D) (a : Nat → Nat) : AnsRun 16 g_loop g_rest (pre sc a 16) (.bool true) := by
  refine ⟨Nat.lt_of_sub_eq_succ rfl, fun a0 => ?_⟩
  obtain ⟨z, h⟩ := loop_eq sc a a0
  refine ⟨.next, _, _, h, .inr ⟨rfl, isAddr_self a0, ?_⟩⟩
  exact rest_eq sc a z
theorem law_true (ns : List Int) (h : ns.length ≤ 63) : F_law [.flist (ns.map D.int)] = some (.bool true) := by
  obtain ⟨a, ha⟩ := row_nat ns
  have e0 := p0_eq ns h
  have e1 := p1_eq ns
  rw [ha] at e1
  unfold F_law
  refine resD_ret (ρ := pre (.flist (ns.map D.int)) a 16) rfl ?_
  show g_law (.flist (ns.map D.int) :: List.replicate 34 .undef) = _
  unfold g_law
  rw [seqS_next e0, seqS_next e1]
  rw [show (.flist (ns.map D.int) :: .list (rowD a) :: List.replicate 33 .undef : List D) = pre (.flist (ns.map D.int)) a 2 from rfl]
  rw [seqS_next (p2_eq _ a), seqS_next (p3_eq _ a), seqS_next (p4_eq _ a), seqS_next (p5_eq _ a), seqS_next (p6_eq _ a), seqS_next (p7_eq _ a), seqS_next (p8_eq _ a), seqS_next (p9_eq _ a), seqS_next (p10_eq _ a), seqS_next (p11_eq _ a), seqS_next (p12_eq _ a), seqS_next (p13_eq _ a)]
  exact ansS_of (run_of _ a)
end
end Mine
end
theorem PySem.Challenge.cw_re0121_01_holds : PySem.Challenge.rw_re0121_01.Holds :=
  Mine.fin_of Mine.law_true
