import PyProof.Rows.All
import Wide.All
import OpenK.AllK
import Wide.FinOn
import PySem.Challenge.RW_jk0005_01
open PySem PySem.W PyProof.Rows
set_option Elab.async false
set_option linter.unusedSimpArgs false
set_option linter.unusedVariables false
namespace Mine
set_option maxRecDepth 100000 in
set_option maxHeartbeats 0 in
open_top hd for PySem.Challenge.rw_jk0005_01
/-! the plain part: what the defs compute, and that it agrees; no program here -/
def isLeap (y : Int) : Bool := decide (y % 4 = 0) && (decide (y % 100 ≠ 0) || decide (y % 400 = 0))
def mdays (y m : Int) : Int := if m = 2 then (if isLeap y then 29 else 28) else if m = 4 ∨ m = 6 ∨ m = 9 ∨ m = 11 then 30 else 31
def gjd (y m d : Int) : Int := 1721426 - 1 + 365 * (y - 1) + (y - 1) / 4 + -((y - 1) / 100) + (y - 1) / 400 + ((367 * m - 362) / 12 + (if m ≤ 2 then 0 else if isLeap y then -1 else -2) + d)
def lawLong (way y : Int) : Bool :=
  if way = 0 then decide (y % 4 = 3)
  else if y < 13 then decide (y = 3 ∨ y = 7 ∨ y = 11)
  else if way = 1 then (decide (y % 400 = 0) || (decide (y % 4 = 0) && decide (y % 100 ≠ 0)))
  else if y < 20 then decide (y = 15)
  else (decide (y % 4 = 0) && decide (y % 128 ≠ 0))
def lawYear (way n : Int) : Int :=
  if way = 1 then (if (n % 4000) % 100 < 12 ∧ 0 < n % 4000 / 100 % 4 then n % 4000 + 13 else n % 4000 + 1)
  else (if way = 2 ∧ 16 ≤ n ∧ n % 128 < 16 then n + 17 else n + 1)
def jan (y : Int) : Int := 2451545 + 146097 * ((y - 2000) / 400) + 365 * ((y - 2000) % 400) + ((y - 2000) % 400 + 3) / 4 - max 0 ((y - 2000) % 400 - 1) / 100
def conJ (y : Int) : Int := 0 + 0 + 0 + y / 4 * 1461 + y % 4 * 365 + -365
def romJ (y : Int) : Int := (y - 13) / 4000 * 1460969 + (y - 13) % 4000 / 400 * 146097 + (y - 13) % 4000 % 400 / 100 * 36524 + (y - 13) % 4000 % 400 % 100 / 4 * 1461 + (y - 13) % 4000 % 400 % 100 % 4 * 365 + (365 * 12 + 3)
def madJ (y : Int) : Int := 0 + 0 + (y - 17) / 128 * 46751 + (y - 17) % 128 / 4 * 1461 + (y - 17) % 128 % 4 * 365 + (365 * 16 + 4)
def schJ (g y : Int) : Int := if g = 0 then conJ y else if g = 1 then (if y < 15 then conJ y else romJ y) else (if y < 17 then conJ y else madJ y)
/-- how many long years lie before y -/
def lawMore (g y : Int) : Int :=
  if y < 17 then (if g = 1 then min (y / 4) 3 else y / 4)
  else if g = 0 then y / 4 else if g = 1 then (y - 1) / 4 - (y - 1) / 100 + (y - 1) / 400 else (y - 1) / 4 - (y - 1) / 128
def lawFirst (g y : Int) : Int := 2375840 + 365 * (y - 1) + lawMore g y
/-- the years that the law asks of -/
def Okay (g y : Int) : Prop := 1 ≤ y ∧ (g = 1 → y ≤ 4000 ∧ (12 ≤ (y - 1) % 100 ∨ (y - 1) / 100 % 4 = 0)) ∧ (g = 2 → y ≤ 16 ∨ 16 ≤ (y - 1) % 128)
theorem okay_lawYear (g n : Int) (h0 : 0 ≤ n) (hg : g = 0 ∨ g = 1 ∨ g = 2) : Okay g (lawYear g n) := by
  obtain rfl | rfl | rfl := hg
  · refine ⟨?_, fun h => by simp at h, fun h => by simp at h⟩
    simp only [lawYear, Int.reduceEq, reduceIte, false_and]; (first | lia | omega)
  · simp only [Okay, lawYear, reduceIte]
    refine ⟨?_, fun _ => ?_, fun h => by simp at h⟩
    · split <;> (first | lia | omega)
    · split <;> (first | lia | omega)
  · simp only [Okay, lawYear, Int.reduceEq, reduceIte, true_and]
    refine ⟨?_, fun h => by simp at h, fun _ => ?_⟩
    · split <;> (first | lia | omega)
    · split <;> (first | lia | omega)
theorem sch_first (g y : Int) (hg : g = 0 ∨ g = 1 ∨ g = 2) (h : Okay g y) : 2375840 + schJ g y = lawFirst g y := by
  obtain ⟨h1, h2, h3⟩ := h
  obtain rfl | rfl | rfl := hg
  · simp only [schJ, lawFirst, lawMore, conJ, Int.reduceEq, reduceIte]; split <;> (first | lia | omega)
  · obtain ⟨h2, h4⟩ := h2 rfl
    by_cases hy : y < 15
    · simp only [schJ, lawFirst, lawMore, conJ, Int.reduceEq, reduceIte, hy]
      rw [if_pos (by (first | lia | omega))]; (first | lia | omega)
    · simp only [schJ, lawFirst, lawMore, romJ, Int.reduceEq, reduceIte, hy]
      obtain ⟨a, rfl⟩ : ∃ a, y = a + 13 := ⟨y - 13, by (first | lia | omega)⟩
      rw [show a + 13 - 13 = a by (first | lia | omega), show a % 4000 = a by (first | lia | omega), show a / 4000 = 0 by (first | lia | omega), show a + 13 - 1 = a + 12 by (first | lia | omega)]
      rw [show a + 13 - 1 = a + 12 by (first | lia | omega)] at h4
      split <;> (first | lia | omega)
  · replace h3 := h3 rfl
    by_cases hy : y < 17
    · simp only [schJ, lawFirst, lawMore, conJ, Int.reduceEq, reduceIte, hy]; (first | lia | omega)
    · simp only [schJ, lawFirst, lawMore, madJ, Int.reduceEq, reduceIte, hy]
      obtain ⟨a, rfl⟩ : ∃ a, y = a + 17 := ⟨y - 17, by (first | lia | omega)⟩
      rw [show a + 17 - 17 = a by (first | lia | omega), show a + 17 - 1 = a + 16 by (first | lia | omega)]
      rw [show a + 17 - 1 = a + 16 by (first | lia | omega)] at h3
      (first | lia | omega)
theorem more_nonneg (g y : Int) (h : 1 ≤ y) (hg : g = 0 ∨ g = 1 ∨ g = 2) : 0 ≤ lawMore g y := by
  obtain rfl | rfl | rfl := hg <;> simp only [lawMore, Int.reduceEq, reduceIte] <;> split <;> (first | lia | omega)
/-- the length of the year -/
def lawLen (g y : Int) : Int := if lawLong g y = true then 366 else 365
/-- _from_jd_schematic's reckoning by the plain rule -/
theorem con_core (k p r : Int) (k0 : 0 ≤ k) (k1 : k ≤ 3) (p0 : 0 ≤ p) (p1 : p ≤ 365) (hp : p = 365 → k = 3) (hr : r = 365 * k + p) :
    (r = 1460 → k = 3 ∧ p = 365) ∧ (r ≠ 1460 → r / 365 = k ∧ r % 365 = p) := by
  subst hr; (first | lia | omega)
/-- the plain four-year rule's reckoning -/
theorem from_con (g y p A r : Int) (hg : g = 0 ∨ (g = 1 ∧ y ≤ 13 ∧ (y = 13 → p = 0)) ∨ (g = 2 ∧ y ≤ 18 ∧ (y = 18 → p = 0))) (h : 1 ≤ y) (p0 : 0 ≤ p) (p1 : p < lawLen g y)
    (hA : (lawFirst g y + p - 2375840 + 365) / 1461 = A) (hr : (lawFirst g y + p - 2375840 + 365) % 1461 = r) :
    (r = 1460 → A * 4 + 2 = y - 1 ∧ p = 365) ∧ (r ≠ 1460 → A * 4 + r / 365 - 1 = y - 1 ∧ r % 365 = p) ∧ 0 ≤ A ∧ 0 ≤ r := by
  unfold lawLen at p1
  have h3 : lawFirst g y = 2375840 + 365 * (y - 1) + y / 4 := by
    obtain rfl | ⟨rfl, hy, -⟩ | ⟨rfl, hy, -⟩ := hg <;> simp only [lawFirst, lawMore, Int.reduceEq, reduceIte] <;> split <;> (first | lia | omega)
  have h4 : lawLong g y = true → y % 4 = 3 := by
    intro hl
    obtain rfl | ⟨rfl, hy, -⟩ | ⟨rfl, hy, -⟩ := hg <;> simp only [lawLong, Int.reduceEq, reduceIte] at hl
    · simpa using hl
    · split at hl
      · simp only [decide_eq_true_eq] at hl; (first | lia | omega)
      · simp only [decide_eq_true_eq, Bool.or_eq_true, Bool.and_eq_true, ne_eq] at hl; (first | lia | omega)
    · split at hl
      · simp only [decide_eq_true_eq] at hl; (first | lia | omega)
      · rw [if_pos (by (first | lia | omega))] at hl; simp only [decide_eq_true_eq] at hl; (first | lia | omega)
  have h5 : p = 365 → y % 4 = 3 := by
    intro hp; apply h4
    split at p1
    · assumption
    · (first | lia | omega)
  have h6 : p ≤ 365 := by split at p1 <;> (first | lia | omega)
  clear h4 p1
  have hk : A = y / 4 ∧ r = 365 * (y % 4) + p := by
    have : 365 * (y % 4) + p ≤ 1460 := by (first | lia | omega)
    (first | lia | omega)
  obtain ⟨rfl, e⟩ := hk
  have c := con_core (y % 4) p r (by (first | lia | omega)) (by (first | lia | omega)) p0 h6 h5 e
  (first | lia | omega)
theorem rom_count (a : Int) (ha : 0 ≤ a) (ho : 12 ≤ (a + 12) % 100 ∨ (a + 12) / 100 % 4 = 0) : (a + 12) / 4 - (a + 12) / 100 + (a + 12) / 400 = a / 4 - a / 100 + a / 400 + 3 := by (first | lia | omega)
theorem rom_split (a : Int) (ha : 0 ≤ a) : ∃ A B C k : Int, a = 400 * A + 100 * B + 4 * C + k ∧ 0 ≤ A ∧ 0 ≤ B ∧ B ≤ 3 ∧ 0 ≤ C ∧ C ≤ 24 ∧ 0 ≤ k ∧ k ≤ 3 ∧ a / 400 = A ∧ a / 100 = 4 * A + B ∧ a / 4 = 100 * A + 25 * B + C ∧ a % 100 = 4 * C + k :=
  ⟨a / 400, a % 400 / 100, a % 100 / 4, a % 4, by (first | lia | omega), by (first | lia | omega), by (first | lia | omega), by (first | lia | omega), by (first | lia | omega), by (first | lia | omega), by (first | lia | omega), by (first | lia | omega), by (first | lia | omega), by (first | lia | omega), by (first | lia | omega), by (first | lia | omega)⟩
theorem rom_div (A B C x : Int) (A0 : 0 ≤ A) (A1 : A ≤ 9) (B0 : 0 ≤ B) (B1 : B ≤ 3) (C0 : 0 ≤ C) (C1 : C ≤ 24) (x0 : 0 ≤ x) (x1 : x ≤ 1460) (hx : C = 24 → x ≤ 1459) :
    ∃ j2 j3 j4, (146097 * A + 36524 * B + 1461 * C + x) / 1460969 = 0 ∧ (146097 * A + 36524 * B + 1461 * C + x) % 1460969 = j2 ∧ j2 / 146097 = A ∧ j2 % 146097 = j3 ∧ j3 / 36524 = B ∧ j3 % 36524 = j4 ∧ j4 / 1461 = C ∧ j4 % 1461 = x ∧ 0 ≤ j2 ∧ 0 ≤ j3 ∧ 0 ≤ j4 := by
  have h1 : 1461 * C + x ≤ 36523 := by (first | lia | omega)
  refine ⟨146097 * A + 36524 * B + 1461 * C + x, 36524 * B + 1461 * C + x, 1461 * C + x, ?_, ?_, ?_, ?_, ?_, ?_, ?_, ?_, ?_, ?_, ?_⟩ <;> (first | lia | omega)
theorem rom_first (a : Int) (ha : 0 ≤ a) (ho : 12 ≤ (a + 12) % 100 ∨ (a + 12) / 100 % 4 = 0) : lawFirst 1 (a + 13) = 2375840 + 365 * (a + 12) + (a / 4 - a / 100 + a / 400 + 3) := by
  have hc := rom_count a ha ho
  simp only [lawFirst, lawMore, Int.reduceEq, reduceIte]
  rw [show a + 13 - 1 = a + 12 by (first | lia | omega)]
  split
  · clear hc ho; (first | lia | omega)
  · rw [hc]
theorem rom_last (a p : Int) (ha : 0 ≤ a) (ho : 12 ≤ (a + 12) % 100 ∨ (a + 12) / 100 % 4 = 0) (p1 : p < lawLen 1 (a + 13)) (hx : p = 365 → (a + 13) % 400 ≠ 12) : p ≤ 365 ∧ (p = 365 → a % 4 = 3 ∧ a % 100 ≠ 99) := by
  unfold lawLen at p1
  constructor
  · split at p1 <;> (first | lia | omega)
  · intro hp
    have hl : lawLong 1 (a + 13) = true := by
      split at p1
      · assumption
      · (first | lia | omega)
    simp only [lawLong, Int.reduceEq, reduceIte] at hl
    rw [if_neg (by (first | lia | omega))] at hl
    simp only [decide_eq_true_eq, Bool.or_eq_true, Bool.and_eq_true, ne_eq] at hl
    have := hx hp
    clear hx p1 hp
    (first | lia | omega)
theorem from_rom (y p q0 j2 q1 j3 q2 j4 q3 r : Int) (h : 13 ≤ y) (hp0 : y = 13 → 0 < p) (ho : Okay 1 y) (p0 : 0 ≤ p) (p1 : p < lawLen 1 y) (hx : p = 365 → y % 400 ≠ 12)
    (h0 : (lawFirst 1 y + p - 2375840 - 365 * 12 - 3) / 1460969 = q0) (h2 : (lawFirst 1 y + p - 2375840 - 365 * 12 - 3) % 1460969 = j2)
    (h1 : j2 / 146097 = q1) (h3 : j2 % 146097 = j3) (h4 : j3 / 36524 = q2) (h5 : j3 % 36524 = j4) (h6 : j4 / 1461 = q3) (h7 : j4 % 1461 = r) :
    ((r = 1460 → q0 * 4000 + q1 * 400 + q2 * 100 + q3 * 4 + 3 + 12 = y - 1 ∧ p = 365) ∧ (r ≠ 1460 → q0 * 4000 + q1 * 400 + q2 * 100 + q3 * 4 + r / 365 + 12 = y - 1 ∧ r % 365 = p))
    ∧ 0 < lawFirst 1 y + p - 2375840 - 365 * 12 - 3 ∧ 0 ≤ j2 ∧ 0 ≤ j3 ∧ 0 ≤ j4 ∧ 0 ≤ r := by
  obtain ⟨-, ho, -⟩ := ho
  obtain ⟨hy, ho⟩ := ho rfl
  obtain ⟨a, rfl⟩ : ∃ a, y = a + 13 := ⟨y - 13, by (first | lia | omega)⟩
  rw [show a + 13 - 1 = a + 12 by (first | lia | omega)] at ho
  have a0 : 0 ≤ a := by (first | lia | omega)
  have h8 := rom_first a a0 ho
  obtain ⟨h10, h9⟩ := rom_last a p a0 ho p1 hx
  clear p1 hx ho
  obtain ⟨A, B, C, k, ea, A0, B0, B1, C0, C1, k0, k1, e1, e2, e3, e4⟩ := rom_split a a0
  rw [e1, e2, e3] at h8
  have hk : p = 365 → k = 3 ∧ C ≠ 24 := by intro hp; have := h9 hp; clear h0 h2 h1 h3 h4 h5 h6 h7 h8; (first | lia | omega)
  have hJ : lawFirst 1 (a + 13) + p - 2375840 - 365 * 12 - 3 = 146097 * A + 36524 * B + 1461 * C + (365 * k + p) := by rw [h8]; clear h0 h2 h1 h3 h4 h5 h6 h7 h8 e1 e2 e3 e4 h9 hk; (first | lia | omega)
  rw [hJ] at h0 h2 ⊢
  obtain ⟨j2', j3', j4', d0, d1, d2, d3, d4, d5, d6, d7, d8, d9, d10⟩ := rom_div A B C (365 * k + p) A0 (by clear h0 h2 h1 h3 h4 h5 h6 h7 h8 e1 e2 e3 e4; (first | lia | omega)) B0 B1 C0 C1 (by (first | lia | omega)) (by clear h0 h2 h1 h3 h4 h5 h6 h7 h8 e1 e2 e3 e4; (first | lia | omega)) (by clear h0 h2 h1 h3 h4 h5 h6 h7 h8 e1 e2 e3 e4; (first | lia | omega))
  rw [d0] at h0; rw [d1] at h2; subst h2
  rw [d2] at h1; rw [d3] at h3; subst h3
  rw [d4] at h4; rw [d5] at h5; subst h5
  rw [d6] at h6; rw [d7] at h7
  subst h0 h1 h4 h6
  have c := con_core k p r k0 k1 p0 h10 (fun hp => (hk hp).1) h7.symm
  clear d0 d1 d2 d3 d4 d5 d6 d7 h8 h9 e1 e2 e3 e4
  refine ⟨⟨?_, ?_⟩, by (first | lia | omega), d8, d9, d10, by (first | lia | omega)⟩
  · intro hr; have := c.1 hr; (first | lia | omega)
  · intro hr; have := c.2 hr; (first | lia | omega)
theorem mad_split (a : Int) (ha : 0 ≤ a) : ∃ B C k : Int, a = 128 * B + 4 * C + k ∧ 0 ≤ B ∧ 0 ≤ C ∧ C ≤ 31 ∧ 0 ≤ k ∧ k ≤ 3 ∧ a / 128 = B ∧ a / 4 = 32 * B + C ∧ a % 128 = 4 * C + k :=
  ⟨a / 128, a % 128 / 4, a % 4, by (first | lia | omega), by (first | lia | omega), by (first | lia | omega), by (first | lia | omega), by (first | lia | omega), by (first | lia | omega), by (first | lia | omega), by (first | lia | omega), by (first | lia | omega)⟩
theorem from_mad (y p q2 j4 q3 r : Int) (h : 17 ≤ y) (ho : Okay 2 y) (p0 : 0 ≤ p) (p1 : p < lawLen 2 y) (hJ : 0 < lawFirst 2 y + p - 2375840 - 365 * 16 - 4)
    (h4 : (lawFirst 2 y + p - 2375840 - 365 * 16 - 4) / 46751 = q2) (h5 : (lawFirst 2 y + p - 2375840 - 365 * 16 - 4) % 46751 = j4) (h6 : j4 / 1461 = q3) (h7 : j4 % 1461 = r) :
    ((r = 1460 → q2 * 128 + q3 * 4 + 3 + 16 = y - 1 ∧ p = 365) ∧ (r ≠ 1460 → q2 * 128 + q3 * 4 + r / 365 + 16 = y - 1 ∧ r % 365 = p))
    ∧ 0 ≤ j4 ∧ 0 ≤ r := by
  unfold lawLen at p1
  obtain ⟨-, -, ho⟩ := ho
  replace ho := ho rfl
  obtain ⟨a, rfl⟩ : ∃ a, y = a + 17 := ⟨y - 17, by (first | lia | omega)⟩
  rw [show a + 17 - 1 = a + 16 by (first | lia | omega)] at ho
  have h8 : lawFirst 2 (a + 17) = 2375840 + 365 * (a + 16) + (a / 4 - a / 128 + 4) := by
    simp only [lawFirst, lawMore, Int.reduceEq, reduceIte]
    rw [show a + 17 - 1 = a + 16 by (first | lia | omega)]
    rw [if_neg (by (first | lia | omega))]; (first | lia | omega)
  have h9 : p = 365 → a % 4 = 3 := by
    intro hp
    have hl : lawLong 2 (a + 17) = true := by
      split at p1
      · assumption
      · (first | lia | omega)
    simp only [lawLong, Int.reduceEq, reduceIte] at hl
    rw [if_neg (by (first | lia | omega))] at hl
    split at hl
    · simp only [decide_eq_true_eq] at hl; (first | lia | omega)
    · simp only [decide_eq_true_eq, Bool.and_eq_true, ne_eq] at hl; (first | lia | omega)
  have h10 : p ≤ 365 := by split at p1 <;> (first | lia | omega)
  clear p1
  have hm : a % 128 ≤ 111 := by clear h8 h9 h4 h5 hJ; (first | lia | omega)
  obtain ⟨B, C, k, ea, B0, C0, C1, k0, k1, e2, e3, e4⟩ := mad_split a (by (first | lia | omega))
  rw [e2, e3] at h8
  rw [h8] at h4 h5 hJ
  have h9' : p = 365 → k = 3 := by intro hp; have := h9 hp; (first | lia | omega)
  have hC : C ≤ 27 := by (first | lia | omega)
  clear h9 h8 e2 e3 ho
  have s1 : 1461 * C + (365 * k + p) ≤ 46750 := by (first | lia | omega)
  have s3 : q2 = B ∧ j4 = 1461 * C + (365 * k + p) := by (first | lia | omega)
  have s4 : q3 = C ∧ r = 365 * k + p := by (first | lia | omega)
  obtain ⟨rfl, s3⟩ := s3
  obtain ⟨rfl, s4⟩ := s4
  have c := con_core k p r k0 k1 p0 h10 h9' s4
  refine ⟨?_, by (first | lia | omega), by (first | lia | omega)⟩
  constructor
  · intro hr; have := c.1 hr; (first | lia | omega)
  · intro hr; have := c.2 hr; (first | lia | omega)
/-! the Gregorian calendar -/
def IsDate (n y m d : Int) : Prop := 1 ≤ m ∧ m ≤ 12 ∧ 1 ≤ d ∧ d ≤ mdays y m ∧ gjd y m d = n
/-- the days before a month -/
def cum (L : Bool) (m : Int) : Int := (367 * m - 362) / 12 + (if m ≤ 2 then 0 else if L = true then -1 else -2)
def mlen (L : Bool) (m : Int) : Int := if m = 2 then (if L = true then 29 else 28) else if m = 4 ∨ m = 6 ∨ m = 9 ∨ m = 11 then 30 else 31
theorem mdays_mlen (y m : Int) : mdays y m = mlen (isLeap y) m := rfl
theorem gjd_base (y : Int) : gjd y 1 1 = 1721426 + 365 * (y - 1) + (y - 1) / 4 - (y - 1) / 100 + (y - 1) / 400 := by
  simp only [gjd, Int.reduceLE, reduceIte]; (first | lia | omega)
theorem gjd_cum (y m d : Int) : gjd y m d = gjd y 1 1 + cum (isLeap y) m + d - 1 := by
  rw [gjd_base]; simp only [gjd, cum]; (first | lia | omega)
theorem jan_gjd (y : Int) : jan y = gjd y 1 1 := by
  rw [gjd_base]
  obtain ⟨q, p, e, p0, p1⟩ : ∃ q p : Int, y = 400 * q + p + 2000 ∧ 0 ≤ p ∧ p < 400 := ⟨(y - 2000) / 400, (y - 2000) % 400, by (first | lia | omega), by (first | lia | omega), by (first | lia | omega)⟩
  subst e
  simp only [jan]
  rw [show (400 * q + p + 2000 - 2000) / 400 = q by (first | lia | omega), show (400 * q + p + 2000 - 2000) % 400 = p by (first | lia | omega), show (400 * q + p + 2000 - 1) / 4 = 100 * q + (p + 1999) / 4 by (first | lia | omega), show (400 * q + p + 2000 - 1) / 100 = 4 * q + (p + 1999) / 100 by (first | lia | omega), show (400 * q + p + 2000 - 1) / 400 = q + (p + 1999) / 400 by (first | lia | omega)]
  by_cases h : p = 0
  · subst h; (first | lia | omega)
  · rw [show max 0 (p - 1) = p - 1 by (first | lia | omega)]; (first | lia | omega)
theorem leap_iff (y : Int) : isLeap y = true ↔ (y % 4 = 0 ∧ (y % 100 ≠ 0 ∨ y % 400 = 0)) := by
  simp only [isLeap, Bool.and_eq_true, Bool.or_eq_true, decide_eq_true_eq, ne_eq]
theorem g_split (a : Int) : ∃ A B C k : Int, a = 400 * A + 100 * B + 4 * C + k ∧ 0 ≤ B ∧ B ≤ 3 ∧ 0 ≤ C ∧ C ≤ 24 ∧ 0 ≤ k ∧ k ≤ 3 ∧ a / 400 = A ∧ a / 100 = 4 * A + B ∧ a / 4 = 100 * A + 25 * B + C :=
  ⟨a / 400, a % 400 / 100, a % 100 / 4, a % 4, by (first | lia | omega), by (first | lia | omega), by (first | lia | omega), by (first | lia | omega), by (first | lia | omega), by (first | lia | omega), by (first | lia | omega), by (first | lia | omega), by (first | lia | omega), by (first | lia | omega)⟩
theorem greg_div (A B C D x : Int) (B0 : 0 ≤ B) (B1 : B ≤ 3) (C0 : 0 ≤ C) (C1 : C ≤ 24) (D0 : 0 ≤ D) (D1 : D ≤ 3) (x0 : 0 ≤ x) (x1 : x ≤ 365) (hx : x = 365 → D = 3 ∧ (C ≠ 24 ∨ B = 3))
    (n q r c dc k dk yi : Int) (hn : n = 146097 * A + (36524 * B + (1461 * C + (365 * D + x))))
    (h1 : n / 146097 = q) (h2 : n % 146097 = r) (h3 : r / 36524 = c) (h4 : r % 36524 = dc) (h5 : dc / 1461 = k) (h6 : dc % 1461 = dk) (h7 : dk / 365 = yi) :
    ((c = 4 ∨ yi = 4) ∧ q * 400 + c * 100 + k * 4 + yi = 400 * A + 100 * B + 4 * C + D + 1) ∨ ((c ≠ 4 ∧ yi ≠ 4) ∧ q * 400 + c * 100 + k * 4 + yi + 1 = 400 * A + 100 * B + 4 * C + D + 1) := by
  have e1 : 365 * D + x ≤ 1460 := by (first | lia | omega)
  have e2 : q = A ∧ r = 36524 * B + (1461 * C + (365 * D + x)) := by (first | lia | omega)
  obtain ⟨rfl, e2⟩ := e2
  clear h1 h2 hn
  by_cases hw : C = 24 ∧ 365 * D + x = 1460
  · have : B = 3 := by (first | lia | omega)
    have : D = 3 := by (first | lia | omega)
    have : c = 4 ∧ dc = 0 := by (first | lia | omega)
    (first | lia | omega)
  · have e3 : c = B ∧ dc = 1461 * C + (365 * D + x) := by (first | lia | omega)
    obtain ⟨rfl, e3⟩ := e3
    clear h3 h4 e2
    have e4 : k = C ∧ dk = 365 * D + x := by (first | lia | omega)
    (first | lia | omega)
theorem greg_chain (n y x q r c dc k dk yi : Int) (hn : n - 1721426 = 365 * (y - 1) + (y - 1) / 4 - (y - 1) / 100 + (y - 1) / 400 + x) (x0 : 0 ≤ x) (x1 : x ≤ 365) (hx : x = 365 → isLeap y = true)
    (h1 : (n - 1721426) / 146097 = q) (h2 : (n - 1721426) % 146097 = r) (h3 : r / 36524 = c) (h4 : r % 36524 = dc) (h5 : dc / 1461 = k) (h6 : dc % 1461 = dk) (h7 : dk / 365 = yi) :
    ((c = 4 ∨ yi = 4) ∧ q * 400 + c * 100 + k * 4 + yi = y) ∨ ((c ≠ 4 ∧ yi ≠ 4) ∧ q * 400 + c * 100 + k * 4 + yi + 1 = y) := by
  obtain ⟨A, B, C, D, e, B0, B1, C0, C1, D0, D1, e1, e2, e3⟩ := g_split (y - 1)
  have hl : x = 365 → D = 3 ∧ (C ≠ 24 ∨ B = 3) := by
    intro h
    have := (leap_iff y).mp (hx h)
    clear h1 h2 h3 h4 h5 h6 h7 hn e1 e2 e3
    have : y = 400 * A + 100 * B + 4 * C + D + 1 := by (first | lia | omega)
    (first | lia | omega)
  rw [e1, e2, e3] at hn
  have := greg_div A B C D x B0 B1 C0 C1 D0 D1 x0 x1 hl (n - 1721426) q r c dc k dk yi (by clear h1 h2 h3 h4 h5 h6 h7 e1 e2 e3; (first | lia | omega)) h1 h2 h3 h4 h5 h6 h7
  clear h1 h2 h3 h4 h5 h6 h7 hn e1 e2 e3 hl hx
  (first | lia | omega)
/-- what month_core says, as a test -/
def monthTest (L : Bool) (m d : Int) : Bool :=
  let x := cum L m + d - 1
  decide (0 ≤ x) && decide (x ≤ 365) && (decide (x ≠ 365) || L) &&
    (if x < 58 + (if L = true then 1 else 0) then decide ((x * 12 + 373) / 367 = m) else decide (((x + (if L = true then 1 else 2)) * 12 + 373) / 367 = m))
theorem month_tab : ∀ m : Fin 13, ∀ d : Fin 32, 1 ≤ m.val → 1 ≤ d.val → ((d.val : Int) ≤ mlen true m.val → monthTest true m.val d.val = true) ∧ ((d.val : Int) ≤ mlen false m.val → monthTest false m.val d.val = true) := by decide +kernel
theorem mlen_le (L : Bool) (m : Int) : mlen L m ≤ 31 := by unfold mlen; (repeat' split) <;> decide
theorem month_core (L : Bool) (m d doy : Int) (m1 : 1 ≤ m) (m2 : m ≤ 12) (d1 : 1 ≤ d) (d2 : d ≤ mlen L m) (e : doy = cum L m + d - 1) :
    0 ≤ doy ∧ doy ≤ 365 ∧ (doy = 365 → L = true) ∧
    (doy < 58 + (if L = true then 1 else 0) → (doy * 12 + 373) / 367 = m) ∧ (¬ doy < 58 + (if L = true then 1 else 0) → ((doy + (if L = true then 1 else 2)) * 12 + 373) / 367 = m) := by
  have h9 := mlen_le L m
  obtain ⟨t1, t2⟩ := month_tab ⟨m.toNat, by (first | lia | omega)⟩ ⟨d.toNat, by (first | lia | omega)⟩ (by show 1 ≤ m.toNat; (first | lia | omega)) (by show 1 ≤ d.toNat; (first | lia | omega))
  simp only [Int.toNat_of_nonneg (show 0 ≤ m by (first | lia | omega)), Int.toNat_of_nonneg (show 0 ≤ d by (first | lia | omega))] at t1 t2
  have t : monthTest L m d = true := by
    cases L
    · exact t2 d2
    · exact t1 d2
  clear t1 t2 h9
  simp only [monthTest, ← e, Bool.and_eq_true, Bool.or_eq_true, decide_eq_true_eq] at t
  obtain ⟨⟨⟨h1, h2⟩, h3⟩, h4⟩ := t
  refine ⟨h1, h2, fun h => h3.resolve_left fun q => q h, fun h => ?_, fun h => ?_⟩
  · rw [if_pos h] at h4; exact of_decide_eq_true h4
  · rw [if_neg h] at h4; exact of_decide_eq_true h4
/-- a day's month and day -/
def monthOf (L : Bool) (x : Int) : Int := ((x + (if x < 58 + (if L = true then 1 else 0) then 0 else if L = true then 1 else 2)) * 12 + 373) / 367
theorem doy_tab : ∀ x : Fin 366, (1 ≤ monthOf true x.val ∧ monthOf true x.val ≤ 12 ∧ cum true (monthOf true x.val) ≤ x.val ∧ (x.val : Int) < cum true (monthOf true x.val) + mlen true (monthOf true x.val)) ∧
    (x.val ≠ 365 → 1 ≤ monthOf false x.val ∧ monthOf false x.val ≤ 12 ∧ cum false (monthOf false x.val) ≤ x.val ∧ (x.val : Int) < cum false (monthOf false x.val) + mlen false (monthOf false x.val)) := by decide +kernel
theorem date_of_doy (L : Bool) (x : Int) (x0 : 0 ≤ x) (x1 : x ≤ 365) (hx : x = 365 → L = true) : ∃ m d : Int, 1 ≤ m ∧ m ≤ 12 ∧ 1 ≤ d ∧ d ≤ mlen L m ∧ x = cum L m + d - 1 := by
  obtain ⟨t1, t2⟩ := doy_tab ⟨x.toNat, by (first | lia | omega)⟩
  have e : ((x.toNat : Nat) : Int) = x := Int.toNat_of_nonneg x0
  have t : 1 ≤ monthOf L x ∧ monthOf L x ≤ 12 ∧ cum L (monthOf L x) ≤ x ∧ x < cum L (monthOf L x) + mlen L (monthOf L x) := by
    cases L
    · have := t2 (by intro h; have h : x.toNat = 365 := h; have := hx (by (first | lia | omega)); exact absurd this (by decide))
      simp only [e] at this; exact this
    · simp only [e] at t1; exact t1
  obtain ⟨a, b, c, d⟩ := t
  exact ⟨_, x - cum L (monthOf L x) + 1, a, b, by (first | lia | omega), by (first | lia | omega), by (first | lia | omega)⟩
theorem year_len (y : Int) : gjd (y + 1) 1 1 = gjd y 1 1 + 365 + (if isLeap y = true then 1 else 0) := by
  rw [gjd_base, gjd_base, show y + 1 - 1 = y by (first | lia | omega)]
  by_cases h : isLeap y = true
  · rw [if_pos h]; rw [leap_iff] at h; (first | lia | omega)
  · rw [if_neg h]; rw [leap_iff] at h; (first | lia | omega)
theorem exists_year (n : Int) : ∃ y, gjd y 1 1 ≤ n ∧ n - gjd y 1 1 ≤ 365 ∧ (n - gjd y 1 1 = 365 → isLeap y = true) := by
  have go : ∀ (k : Nat) (y : Int), gjd y 1 1 ≤ n → n - gjd y 1 1 ≤ 365 + k → ∃ y, gjd y 1 1 ≤ n ∧ n < gjd (y + 1) 1 1 := by
    intro k
    induction k with
    | zero =>
      intro y a b
      by_cases h : n < gjd (y + 1) 1 1
      · exact ⟨y, a, h⟩
      · refine ⟨y + 1, by (first | lia | omega), ?_⟩
        have h1 := year_len y
        have h2 := year_len (y + 1)
        have h3 : (0 : Int) ≤ if isLeap y = true then 1 else 0 := by split <;> decide
        have h4 : (0 : Int) ≤ if isLeap (y + 1) = true then 1 else 0 := by split <;> decide
        (first | lia | omega)
    | succ k ih =>
      intro y a b
      by_cases h : n < gjd (y + 1) 1 1
      · exact ⟨y, a, h⟩
      · refine ih (y + 1) (by (first | lia | omega)) ?_
        have h1 := year_len y
        have h3 : (0 : Int) ≤ if isLeap y = true then 1 else 0 := by split <;> decide
        (first | lia | omega)
  have h0 : gjd (min 1 (n - 1721426)) 1 1 ≤ n := by
    rw [gjd_base]
    generalize hz : min 1 (n - 1721426) - 1 = z
    have z0 : z ≤ 0 := by (first | lia | omega)
    have z1 : z + 1 + 1721426 ≤ n := by (first | lia | omega)
    clear hz
    (first | lia | omega)
  obtain ⟨y, a, b⟩ := go (n - gjd (min 1 (n - 1721426)) 1 1).toNat _ h0 (by (first | lia | omega))
  refine ⟨y, a, ?_⟩
  have h1 := year_len y
  split at h1
  · rename_i h; exact ⟨by (first | lia | omega), fun _ => h⟩
  · exact ⟨by (first | lia | omega), fun _ => by (first | lia | omega)⟩
theorem exists_date (n : Int) : ∃ y m d, IsDate n y m d := by
  obtain ⟨y, h1, h2, h3⟩ := exists_year n
  obtain ⟨m, d, m1, m2, d1, d2, e⟩ := date_of_doy (isLeap y) (n - gjd y 1 1) (by (first | lia | omega)) h2 h3
  exact ⟨y, m, d, m1, m2, d1, by rw [mdays_mlen]; exact d2, by rw [gjd_cum]; (first | lia | omega)⟩
theorem est_near (n y e j1 j2 : Int) (h1 : gjd y 1 1 = j1) (h2 : gjd (y + 1) 1 1 = j2) (a : j1 ≤ n) (b : n < j2) (he : (n - 2451545) * 400 / 146097 = e) : 2000 + e = y + 1 ∨ 2000 + e = y ∨ 2000 + e = y - 1 := by
  rw [gjd_base] at h1 h2
  rw [show y + 1 - 1 = y by (first | lia | omega)] at h2
  have b1 : 146097 * (y - 2000) - 396 ≤ 400 * (j1 - 2451545) := by (first | lia | omega)
  have b2 : 400 * (j2 - 2451545) ≤ 146097 * (y - 1999) + 699 := by (first | lia | omega)
  clear h1 h2
  (first | lia | omega)
theorem con_rom (y p : Int) (h : 1 ≤ y) (p0 : 0 ≤ p) (hJ : lawFirst 1 y + p - 2375840 ≤ 365 * 12 + 3) : y ≤ 13 ∧ (y = 13 → p = 0) := by
  simp only [lawFirst, lawMore, Int.reduceEq, reduceIte] at hJ
  split at hJ
  · (first | lia | omega)
  · have : 0 ≤ (y - 1) / 4 - (y - 1) / 100 + (y - 1) / 400 := by (first | lia | omega)
    (first | lia | omega)
theorem con_mad (y p : Int) (h : 1 ≤ y) (p0 : 0 ≤ p) (hJ : lawFirst 2 y + p - 2375840 ≤ 365 * 17 + 4) : y ≤ 18 ∧ (y = 18 → p = 0) := by
  simp only [lawFirst, lawMore, Int.reduceEq, reduceIte] at hJ
  split at hJ <;> (first | lia | omega)
theorem len_le (g y : Int) : lawLen g y ≤ 366 := by unfold lawLen; split <;> decide
theorem rom_con (y p : Int) (h : 1 ≤ y) (p0 : 0 ≤ p) (p1 : p < lawLen 1 y) (hJ : ¬ lawFirst 1 y + p - 2375840 ≤ 365 * 12 + 3) : 13 ≤ y ∧ (y = 13 → 0 < p) := by
  by_cases h12 : y ≤ 11
  · have := len_le 1 y
    simp only [lawFirst, lawMore, Int.reduceEq, reduceIte] at hJ
    rw [if_pos (by (first | lia | omega))] at hJ
    (first | lia | omega)
  · by_cases h13 : y = 12
    · subst h13
      have e : lawLen 1 12 = 365 := by decide
      rw [e] at p1
      simp [lawFirst, lawMore] at hJ
      (first | lia | omega)
    · refine ⟨by (first | lia | omega), fun e => ?_⟩
      subst e
      simp [lawFirst, lawMore] at hJ
      (first | lia | omega)
theorem mad_con (y p : Int) (h : 1 ≤ y) (p0 : 0 ≤ p) (p1 : p < lawLen 2 y) (hJ : ¬ lawFirst 2 y + p - 2375840 ≤ 365 * 17 + 4) : 17 ≤ y := by
  have := len_le 2 y
  by_cases h17 : y ≤ 16
  · simp only [lawFirst, lawMore, Int.reduceEq, reduceIte] at hJ
    rw [if_pos (by (first | lia | omega))] at hJ
    (first | lia | omega)
  · (first | lia | omega)
open PySem.SeqAt PySem.Calls
local macro_rules | `(tactic| walk_at $s:str) => `(tactic| k_extra $s)
/-- a call's claim: f on vs (and kw) answers R t, the ledger as it stood -/
abbrev Say (w : World) (f : Addr) (k : Nat) (vs : List Value) (kw : List (Str × Value)) (R : Tok → Value) : Prop :=
  ∀ (loose : List Str) (mean : ExcName → Option Value) (mg mb : Str → Option Value) (dp un : Nat) (gd : Option (List Code)) (cn : Str) (cs : Scope) (a : Addr) (ccd : Value) (cl : List (Str × Addr)) (outer : List Env) (A₀ : Around) (base h₀ : Heap) (L : Addr) (m : Str → Option Value) (news : List (Addr × Obj)) (s : Shared) (Q E : Value → Shared → Prop),
    Below A₀ base outer h₀ → Fr h₀ L s.heap m → (hd.heap_39 w.params).In h₀ → News h₀ L s.heap news → Top hd.view_39 loose mean mg mb h₀ → cs.kind = .function →
    dp + k < recursionLimit → un + 8 * k < cLine →
    (∀ (t : Tok) (h' : Heap) (tk' : Nat), Fr h₀ L h' m → News h₀ L h' news → Q (R t) { s with heap := h', toks := tk' }) →
    wpAny (model PySem.Challenge.rw_jk0005_01.row.prog w) (ktrTop dp un gd cn cs L a ccd cl outer) (call (.ref f) vs kw) Q E s
/-- the same, the answer a tuple of three ints that the call made -/
abbrev Say3 (w : World) (f : Addr) (k : Nat) (vs : List Value) (kw : List (Str × Value)) (r1 r2 r3 : Int) : Prop :=
  ∀ (loose : List Str) (mean : ExcName → Option Value) (mg mb : Str → Option Value) (dp un : Nat) (gd : Option (List Code)) (cn : Str) (cs : Scope) (a : Addr) (ccd : Value) (cl : List (Str × Addr)) (outer : List Env) (A₀ : Around) (base h₀ : Heap) (L : Addr) (m : Str → Option Value) (news : List (Addr × Obj)) (s : Shared) (Q E : Value → Shared → Prop),
    Below A₀ base outer h₀ → Fr h₀ L s.heap m → (hd.heap_39 w.params).In h₀ → News h₀ L s.heap news → Top hd.view_39 loose mean mg mb h₀ → cs.kind = .function →
    dp + k < recursionLimit → un + 8 * k < cLine →
    (∀ (D : Addr) (t1 t2 t3 : Tok) (c : Nat) (h' : Heap) (tk' : Nat), Fr h₀ L h' m → News h₀ L h' ((D, ({ cls := .type "tuple", data := .seq #[.int r1 t1, .int r2 t2, .int r3 t3] c } : Obj)) :: news) → Q (.ref D) { s with heap := h', toks := tk' }) →
    wpAny (model PySem.Challenge.rw_jk0005_01.row.prog w) (ktrTop dp un gd cn cs L a ccd cl outer) (call (.ref f) vs kw) Q E s
section
variable {w : World} {f : Addr} {k : Nat} {vs : List Value} {kw : List (Str × Value)} {R : Tok → Value} {r1 r2 r3 : Int}
    {loose : List Str} {mean : ExcName → Option Value} {mg mb : Str → Option Value} {dp un : Nat} {gd : Option (List Code)} {cn : Str} {cs : Scope} {a : Addr} {ccd : Value} {cl : List (Str × Addr)} {outer : List Env} {A₀ : Around} {base h₀ : Heap} {L : Addr} {m : Str → Option Value} {news : List (Addr × Obj)} {s : Shared} {Q E : Value → Shared → Prop}
theorem Say.use (C : Say w f k vs kw R)
    (B : Below A₀ base outer h₀) (F : Fr h₀ L s.heap m) (X : (hd.heap_39 w.params).In h₀) (N : News h₀ L s.heap news) (T : Top hd.view_39 loose mean mg mb h₀) (hk : cs.kind = .function)
    (hd : dp + k < recursionLimit) (hu : un + 8 * k < cLine)
    (hr : ∀ (t : Tok) (h' : Heap) (tk' : Nat), Fr h₀ L h' m → News h₀ L h' news → Q (R t) { s with heap := h', toks := tk' }) :
    wpAny (model PySem.Challenge.rw_jk0005_01.row.prog w) (ktrTop dp un gd cn cs L a ccd cl outer) (call (.ref f) vs kw) Q E s :=
  C loose mean mg mb dp un gd cn cs a ccd cl outer A₀ base h₀ L m news s Q E B F X N T hk hd hu hr
theorem Say3.use (C : Say3 w f k vs kw r1 r2 r3)
    (B : Below A₀ base outer h₀) (F : Fr h₀ L s.heap m) (X : (hd.heap_39 w.params).In h₀) (N : News h₀ L s.heap news) (T : Top hd.view_39 loose mean mg mb h₀) (hk : cs.kind = .function)
    (hd : dp + k < recursionLimit) (hu : un + 8 * k < cLine)
    (hr : ∀ (D : Addr) (t1 t2 t3 : Tok) (c : Nat) (h' : Heap) (tk' : Nat), Fr h₀ L h' m → News h₀ L h' ((D, ({ cls := .type "tuple", data := .seq #[.int r1 t1, .int r2 t2, .int r3 t3] c } : Obj)) :: news) → Q (.ref D) { s with heap := h', toks := tk' }) :
    wpAny (model PySem.Challenge.rw_jk0005_01.row.prog w) (ktrTop dp un gd cn cs L a ccd cl outer) (call (.ref f) vs kw) Q E s :=
  C loose mean mg mb dp un gd cn cs a ccd cl outer A₀ base h₀ L m news s Q E B F X N T hk hd hu hr
theorem Say3.end {t1 t2 t3 : Tok} {D : Addr} {c : Nat} {h : Heap} {tk : Nat} {x1 x2 x3 : Int}
    (hr : ∀ (D : Addr) (t1 t2 t3 : Tok) (c : Nat) (h' : Heap) (tk' : Nat), Fr h₀ L h' m → News h₀ L h' ((D, ({ cls := .type "tuple", data := .seq #[.int r1 t1, .int r2 t2, .int r3 t3] c } : Obj)) :: news) → Q (.ref D) { s with heap := h', toks := tk' })
    {news' : List (Addr × Obj)} (F : Fr h₀ L h m) (N : News h₀ L h news') (hm : (D, ({ cls := .type "tuple", data := .seq #[.int x1 t1, .int x2 t2, .int x3 t3] c } : Obj)) ∈ news') (hn : ∀ p ∈ news, p ∈ news')
    (e1 : x1 = r1) (e2 : x2 = r2) (e3 : x3 = r3) : Q (.ref D) { s with heap := h, toks := tk } := by
  subst e1; subst e2; subst e3
  refine hr D t1 t2 t3 c h tk F fun p hp => ?_
  rcases List.mem_cons.mp hp with rfl | hp
  · exact N _ hm
  · exact N p (hn p hp)
end
section
variable {prog : Program} {w : World} {A : Around} {E : Value → Shared → Prop} {s : Shared} {a b : Int} {t u : Tok} {Q : Value → Shared → Prop}
variable {hp : Heap} {gs : Array GenState} {dr : Drawn} {x : Nat} {os : OsState}
/-! rules upon the five parts of the state: no nested state arises -/
theorem c_int {i : Int} {k : Nat} {pos : Pos} {env : Env} (H : Q (.int i x) ⟨hp, gs, dr, x + 1, os⟩) : wpAny (model prog w) A (eval (.Constant (.int i) k pos) env) Q E ⟨hp, gs, dr, x, os⟩ := wpAny_Constant_int H
theorem c_str {i : Str} {k : Nat} {pos : Pos} {env : Env} (H : Q (.str i x) ⟨hp, gs, dr, x + 1, os⟩) : wpAny (model prog w) A (eval (.Constant (.str i) k pos) env) Q E ⟨hp, gs, dr, x, os⟩ := PySem.Calls.Constant_str H
theorem c_add (H : Q (.int (a + b) x) ⟨hp, gs, dr, x + 1, os⟩) : wpAny (model prog w) A (binaryOp .Add (.int a t) (.int b u)) Q E ⟨hp, gs, dr, x, os⟩ := PyProof.Rows.add_int H
theorem c_sub (H : Q (.int (a - b) x) ⟨hp, gs, dr, x + 1, os⟩) : wpAny (model prog w) A (binaryOp .Sub (.int a t) (.int b u)) Q E ⟨hp, gs, dr, x, os⟩ := PyProof.Rows.sub_int H
theorem c_mul (hm : IntMulOk a b) (H : Q (.int (a * b) x) ⟨hp, gs, dr, x + 1, os⟩) : wpAny (model prog w) A (binaryOp .Mult (.int a t) (.int b u)) Q E ⟨hp, gs, dr, x, os⟩ := PyProof.Rows.mul_int H hm
theorem c_iadd (H : Q (.int (a + b) x) ⟨hp, gs, dr, x + 1, os⟩) : wpAny (model prog w) A (inplaceOp .Add (.int a t) (.int b u)) Q E ⟨hp, gs, dr, x, os⟩ := PyProof.Rows.iadd_int H
theorem c_isub (H : Q (.int (a - b) x) ⟨hp, gs, dr, x + 1, os⟩) : wpAny (model prog w) A (inplaceOp .Sub (.int a t) (.int b u)) Q E ⟨hp, gs, dr, x, os⟩ := PyProof.Rows.isub_int H
theorem c_tup {h₀ : Heap} {L : Addr} {m : Str → Option Value} {news : List (Addr × Obj)} {vs : List Value} (F : Fr h₀ L hp m) (N : News h₀ L hp news)
    (H : ∀ D h', Fr h₀ L h' m → News h₀ L h' ((D, ({ cls := .type "tuple", data := .seq vs.toArray } : Obj)) :: news) → Q (.ref D) ⟨h', gs, dr, x, os⟩) (hz : vs.length ≤ sizeLine) : wpAny (model prog w) A (newTuple vs) Q E ⟨hp, gs, dr, x, os⟩ :=
  kup_newTuple (s := ⟨hp, gs, dr, x, os⟩) F N (fun D h' F N _ => H D h' F N) hz
theorem mod_e (hb : 0 < b) (h : Q (.int (a % b) x) ⟨hp, gs, dr, x + 1, os⟩) : wpAny (model prog w) A (binaryOp .Mod (.int a t) (.int b u)) Q E ⟨hp, gs, dr, x, os⟩ :=
  mod_int' (by omega) (by rw [Int.fmod_eq_emod_of_nonneg _ (by omega)]; exact h)
/-- n is the int's absolute value (kept apart from omega) -/
structure AbsIs (a n : Int) : Prop where
  out : (a.natAbs : Int) = n
theorem abs_e {n : Int} (hn : AbsIs a n) (h : ∀ u tk, Q (.int n u) { s with toks := tk }) : wpAny (model prog w) A (call (.builtin "abs") [.int a t]) Q E s := by
  refine call_abs_int fun u tk => ?_
  have e : (if a < 0 then -a else a) = n := by rw [← hn.out]; split <;> omega
  rw [e]; exact h u tk
/-- named values: quotient, rest, a sum's value -/
structure DivIs (a b c : Int) : Prop where
  out : a / b = c
structure ModIs (a b c : Int) : Prop where
  out : a % b = c
structure GIs (y m d v : Int) : Prop where
  out : gjd y m d = v
structure JanIs (y v : Int) : Prop where
  out : jan y = v
theorem div_e (hb : 0 < b) (hb9 : b < 1073741824) (h : Q (.int (a / b) x) ⟨hp, gs, dr, x + 1, os⟩) : wpAny (model prog w) A (binaryOp .FloorDiv (.int a t) (.int b u)) Q E ⟨hp, gs, dr, x, os⟩ :=
  floordiv_int (by omega) (by rw [Int.fdiv_eq_ediv_of_nonneg _ (by omega)]; exact h) (.inl (PyProof.noPylong_small (by omega)))
theorem div_n {c : Int} (hc : DivIs a b c) (hb : 0 < b) (hb9 : b < 1073741824) (h : Q (.int c x) ⟨hp, gs, dr, x + 1, os⟩) : wpAny (model prog w) A (binaryOp .FloorDiv (.int a t) (.int b u)) Q E ⟨hp, gs, dr, x, os⟩ :=
  div_e hb hb9 (by rw [hc.out]; exact h)
theorem mod_n {c : Int} (hc : ModIs a b c) (hb : 0 < b) (h : Q (.int c x) ⟨hp, gs, dr, x + 1, os⟩) : wpAny (model prog w) A (binaryOp .Mod (.int a t) (.int b u)) Q E ⟨hp, gs, dr, x, os⟩ :=
  mod_e hb (by rw [hc.out]; exact h)
end
section
variable {prog : Program} {w : World} {A : Around} {E : Value → Shared → Prop} {s : Shared} {x : Value} {l : Addr} {Q : Value → Shared → Prop} {K : Frag} {h₀ : Heap} {L : Addr} {m : Str → Option Value} {news : List (Addr × Obj)}
/-- an int or a str -/
def vPlain : Value → Bool
  | .int _ _ => true
  | .str _ _ => true
  | _ => false
/-- the two are equal (x is sought, y lies in the row) -/
def vEq (x y : Value) : Bool := match y, x with
  | .int a _, .int b _ => a == b
  | .str a _, .str b _ => a == b
  | _, _ => false
inductive VP : Value → Prop
  | int (a : Int) (t : Tok) : VP (.int a t)
  | str (a : Str) (t : Tok) : VP (.str a t)
theorem sub_refl {l : List (Addr × Obj)} : ∀ p ∈ l, p ∈ l := fun _ h => h
theorem sub_cons {l l' : List (Addr × Obj)} {x : Addr × Obj} (h : ∀ p ∈ l, p ∈ l') : ∀ p ∈ l, p ∈ x :: l' := fun p hp => .tail _ (h p hp)
theorem vp_of {v : Value} (h : vPlain v = true) : VP v := by
  cases v with
  | int a t => exact .int a t
  | str a t => exact .str a t
  | _ => cases h
theorem vEq_at {A : Around} {s : Shared} {y x : Value} (hy : vPlain y = true) (hx : vPlain x = true) : EqAt A s y x (vEq x y) := by
  obtain ⟨a, t⟩ | ⟨a, t⟩ := vp_of hy <;> obtain ⟨b, u⟩ | ⟨b, u⟩ := vp_of hx
  · exact EqAt.int_int a t b u
  · exact EqAt.int_str a t b u
  · exact EqAt.str_int a t b u
  · exact EqAt.str_str a t b u
theorem plain_all {items : List Value} (h : items.all vPlain = true) : ∀ y, y ∈ items.toArray → vPlain y = true := fun y hy => List.all_eq_true.mp h y (by simpa using hy)
theorem any_made {items : List Value} {b : Bool} (hb : items.any (vEq x) = b) : items.toArray.any (vEq x) = b := by simpa using hb
theorem in_tup_N {items : List Value} {c : Nat} {b : Bool} (N : News h₀ L s.heap news) (hm : (l, ({ cls := .type "tuple", data := .seq items.toArray c } : Obj)) ∈ news) (hi : items.all vPlain = true) (hx : vPlain x = true) (hb : items.any (vEq x) = b) (h : Q (.bool b) s) :
    wpAny (model prog w) A (compareOp .In x (.ref l)) Q E s :=
  in_tupleAt (vEq x) ⟨_, (N _ hm).1, rfl, _, rfl⟩ (fun y hy => vEq_at (plain_all hi y hy) hx) (by rw [any_made hb]; exact h)
theorem in_list_N {items : List Value} {c : Nat} {b : Bool} (N : News h₀ L s.heap news) (hm : (l, ({ cls := .type "list", data := .seq items.toArray c } : Obj)) ∈ news) (hi : items.all vPlain = true) (hx : vPlain x = true) (hb : items.any (vEq x) = b) (h : Q (.bool b) s) :
    wpAny (model prog w) A (compareOp .In x (.ref l)) Q E s :=
  in_listAt (vEq x) ⟨_, (N _ hm).1, rfl, _, rfl⟩ (fun y hy => vEq_at (plain_all hi y hy) hx) (by rw [any_made hb]; exact h)
theorem in_tup_K {items : List Value} {c : Nat} {od : Option Addr} {sl : Array (Option Value)} {b : Bool} (F : Fr h₀ L s.heap m) (X : K.In h₀) (ho : K.lookup l = some ⟨.type "tuple", od, .seq items.toArray c, sl⟩) (hi : items.all vPlain = true) (hx : vPlain x = true) (hb : items.any (vEq x) = b) (h : Q (.bool b) s) :
    wpAny (model prog w) A (compareOp .In x (.ref l)) Q E s :=
  in_tupleAt (vEq x) ⟨_, F.keep _ _ (X _ _ ho), rfl, _, rfl⟩ (fun y hy => vEq_at (plain_all hi y hy) hx) (by rw [any_made hb]; exact h)
theorem any3 {k a b c : Int} {t u v r : Tok} : [Value.int a u, .int b v, .int c r].any (vEq (.int k t)) = decide (k = a ∨ k = b ∨ k = c) := by
  simp only [List.any_cons, List.any_nil, Bool.or_false, vEq]
  rw [Bool.eq_iff_iff]
  simp only [Bool.or_eq_true, beq_iff_eq, decide_eq_true_eq]
  omega
end
section
variable {prog : Program} {w : World} {A : Around} {E : Value → Shared → Prop} {s : Shared} {h₀ : Heap} {L : Addr} {m : Str → Option Value} {news : List (Addr × Obj)}
/-- a test's worth, its state as it stood -/
def CutB (B : Bool) (h₀ : Heap) (L : Addr) (m : Str → Option Value) (news : List (Addr × Obj)) (s : Shared) (b : Bool) (s' : Shared) : Prop :=
  ∃ h tk, b = B ∧ s' = { s with heap := h, toks := tk } ∧ Fr h₀ L h m ∧ News h₀ L h news
/-- the mark that names a test's worth -/
structure TestIs (b : Bool) : Prop where
theorem cutB {B : Bool} {c : Sem Bool} {Q : Bool → Shared → Prop} (_ : TestIs B) (_F : Fr h₀ L s.heap m) (_N : News h₀ L s.heap news) (h2 : ∀ h tk, Fr h₀ L h m → News h₀ L h news → Q B { s with heap := h, toks := tk })
    (h1 : wpAny (model prog w) A c (fun b s' => CutB B h₀ L m news s b s') E s) : wpAny (model prog w) A c Q E s := by
  refine wpAny_mono h1 (fun b s' q => ?_) fun _ _ h => h
  obtain ⟨h, tk, rfl, rfl, F, N⟩ := q
  exact h2 h tk F N
theorem cutB_end {B b : Bool} {h : Heap} {tk : Nat} {news' : List (Addr × Obj)} (F : Fr h₀ L h m) (N : News h₀ L h news') (hn : ∀ p ∈ news, p ∈ news') (e : b = B) : CutB B h₀ L m news s b { s with heap := h, toks := tk } :=
  ⟨h, tk, e, rfl, F, fun p hp => N p (hn p hp)⟩
end
section
variable {prog : Program} {w : World} {A : Around} {E : Value → Shared → Prop} {s : Shared} {h₀ : Heap} {L : Addr} {m : Str → Option Value} {news : List (Addr × Obj)}
/-- a statement that goes on, the one name x now a value of which P holds -/
def CutV (x : Str) (P : Value → Prop) (h₀ : Heap) (L : Addr) (m : Str → Option Value) (news : List (Addr × Obj)) (s : Shared) (f : Flow) (s' : Shared) : Prop :=
  ∃ h tk v, P v ∧ f = .next ∧ s' = { s with heap := h, toks := tk } ∧ Fr h₀ L h (fun z => if z = x then some v else m z) ∧ News h₀ L h news
theorem cutV (x : Str) (P : Value → Prop) {c : Sem Flow} {Q : Flow → Shared → Prop} (_F : Fr h₀ L s.heap m) (_N : News h₀ L s.heap news)
    (h1 : wpAny (model prog w) A c (fun b s' => CutV x P h₀ L m news s b s') E s)
    (h2 : ∀ h tk v, P v → Fr h₀ L h (fun z => if z = x then some v else m z) → News h₀ L h news → Q .next { s with heap := h, toks := tk }) : wpAny (model prog w) A c Q E s := by
  refine wpAny_mono h1 (fun b s' q => ?_) fun _ _ h => h
  obtain ⟨h, tk, v, p, rfl, rfl, F, N⟩ := q
  exact h2 h tk v p F N
theorem cutV_end {x : Str} {P : Value → Prop} {v : Value} {h : Heap} {tk : Nat} {m' : Str → Option Value} {news' : List (Addr × Obj)} (F : Fr h₀ L h m') (N : News h₀ L h news') (hn : ∀ p ∈ news, p ∈ news') (hm : ∀ z, m' z = if z = x then some v else m z) (hv : P v) : CutV x P h₀ L m news s .next { s with heap := h, toks := tk } := by
  have e : m' = fun z => if z = x then some v else m z := funext hm
  exact ⟨h, tk, v, hv, rfl, rfl, e ▸ F, fun p hp => N p (hn p hp)⟩
/-- two names now ints -/
def CutW (x1 x2 : Str) (v1 v2 : Int) (h₀ : Heap) (L : Addr) (m : Str → Option Value) (news : List (Addr × Obj)) (s : Shared) (f : Flow) (s' : Shared) : Prop :=
  ∃ h tk t1 t2, f = .next ∧ s' = { s with heap := h, toks := tk } ∧ Fr h₀ L h (fun z => if z = x1 then some (.int v1 t1) else if z = x2 then some (.int v2 t2) else m z) ∧ News h₀ L h news
theorem cutW (x1 x2 : Str) (v1 v2 : Int) {c : Sem Flow} {Q : Flow → Shared → Prop} (_F : Fr h₀ L s.heap m) (_N : News h₀ L s.heap news)
    (h1 : wpAny (model prog w) A c (fun b s' => CutW x1 x2 v1 v2 h₀ L m news s b s') E s)
    (h2 : ∀ h tk t1 t2, Fr h₀ L h (fun z => if z = x1 then some (.int v1 t1) else if z = x2 then some (.int v2 t2) else m z) → News h₀ L h news → Q .next { s with heap := h, toks := tk }) : wpAny (model prog w) A c Q E s := by
  refine wpAny_mono h1 (fun b s' q => ?_) fun _ _ h => h
  obtain ⟨h, tk, t1, t2, rfl, rfl, F, N⟩ := q
  exact h2 h tk t1 t2 F N
theorem cutW_end {x1 x2 : Str} {v1 v2 w1 w2 : Int} {t1 t2 : Tok} {h : Heap} {tk : Nat} {m' : Str → Option Value} {news' : List (Addr × Obj)} (F : Fr h₀ L h m') (N : News h₀ L h news') (hn : ∀ p ∈ news, p ∈ news') (hm : ∀ z, m' z = if z = x1 then some (.int w1 t1) else if z = x2 then some (.int w2 t2) else m z) (e1 : w1 = v1) (e2 : w2 = v2) : CutW x1 x2 v1 v2 h₀ L m news s .next { s with heap := h, toks := tk } := by
  subst e1; subst e2
  have e : m' = fun z => if z = x1 then some (.int w1 t1) else if z = x2 then some (.int w2 t2) else m z := funext hm
  exact ⟨h, tk, t1, t2, rfl, rfl, e ▸ F, fun p hp => N p (hn p hp)⟩
/-- a frame of which K holds -/
def CutK (K : (Str → Option Value) → Prop) (h₀ : Heap) (L : Addr) (news : List (Addr × Obj)) (s : Shared) (f : Flow) (s' : Shared) : Prop :=
  ∃ h tk m', f = .next ∧ s' = { s with heap := h, toks := tk } ∧ K m' ∧ Fr h₀ L h m' ∧ News h₀ L h news
theorem cutK (K : (Str → Option Value) → Prop) {c : Sem Flow} {Q : Flow → Shared → Prop} (_F : Fr h₀ L s.heap m) (_N : News h₀ L s.heap news)
    (h1 : wpAny (model prog w) A c (fun b s' => CutK K h₀ L news s b s') E s)
    (h2 : ∀ h tk m', K m' → Fr h₀ L h m' → News h₀ L h news → Q .next { s with heap := h, toks := tk }) : wpAny (model prog w) A c Q E s := by
  refine wpAny_mono h1 (fun b s' q => ?_) fun _ _ h => h
  obtain ⟨h, tk, m', rfl, rfl, k, F, N⟩ := q
  exact h2 h tk m' k F N
theorem cutK_end {K : (Str → Option Value) → Prop} {h : Heap} {tk : Nat} {m' : Str → Option Value} {news' : List (Addr × Obj)} (F : Fr h₀ L h m') (N : News h₀ L h news') (hn : ∀ p ∈ news, p ∈ news') (hK : K m') : CutK K h₀ L news s .next { s with heap := h, toks := tk } :=
  ⟨h, tk, m', rfl, rfl, hK, F, fun p hp => N p (hn p hp)⟩
theorem retok {α : Type} {h : Heap} {g : Array GenState} {d : Drawn} {x : Nat} {o : OsState} {c : Sem α} {Q : α → Shared → Prop} (H : ∀ tk, wpAny (model prog w) A c Q E ⟨h, g, d, tk, o⟩) : wpAny (model prog w) A c Q E ⟨h, g, d, x, o⟩ := H x
theorem letAE {M : Model} {env : Env} {l : List Stmt} {Q : Flow → Shared → Prop} (H : let env9 := env; let A9 := A.deeper env9; wpAny M A9 (execs l env9) Q E s) : wpAny M (A.deeper env) (execs l env) Q E s := H
theorem storeX_T {cn : Str} {cs : Scope} {a : Addr} {ccd : Value} {cl : List (Str × Addr)} {x : Str} {v : Value} {Q : Unit → Shared → Prop} (F : Fr h₀ L s.heap m) (N : News h₀ L s.heap news)
    (h : ∀ h' tk, let m' := fun y => if y = x then some v else m y; Fr h₀ L h' m' → News h₀ L h' news → Q () { s with heap := h', toks := tk })
    (hk : cs.kind = .function := by rfl) (hx : (envX cn cs L a ccd cl).kindOf x = some .local := by rfl) : wpAny (model prog w) A (storeName (envX cn cs L a ccd cl) x v) Q E s :=
  storeX_L F N (fun h' F N => h h' _ F N) hk hx
/-- the name holds an int -/
def tokOf : Option Value → Tok
  | some (.int _ t) => t
  | _ => 0
def At (m : Str → Option Value) (x : Str) (v : Int) : Prop := m x = some (.int v (tokOf (m x)))
/-- a name that holds None, or a number by which a rest is taken, another by which the share is multiplied -/
inductive Opt (m : Str → Option Value) (yn dn : Str) (a b c : Int) : Prop
  | no (h : m yn = some .none) (e1 : b = a) (e2 : c = 0)
  | yes (q Y D : Int) (Y0 : 0 < Y ∧ Y < 1000000 ∧ 0 < D ∧ D < 2000000) (h1 : DivIs a Y q) (h2 : ModIs a Y b) (e : c = q * D) (hY : At m yn Y) (hD : At m dn D)
theorem Opt.on {m m' : Str → Option Value} {yn dn : Str} {a b c : Int} (O : Opt m yn dn a b c) (h1 : m' yn = m yn) (h2 : m' dn = m dn) : Opt m' yn dn a b c := by
  cases O with
  | no h e1 e2 => exact .no (h1.trans h) e1 e2
  | yes q Y D Y0 d1 d2 e hY hD => exact .yes q Y D Y0 d1 d2 e (by unfold At; rw [h1]; exact hY) (by unfold At; rw [h2]; exact hD)
/-- the names that the two schematic defs hold all along -/
structure SF (m : Str → Option Value) (x : Str) (a c0 c1 c2 c5 : Int) : Prop where
  a : At m x a
  y0 : At m (PySem.Str.ofString "y0") c0
  y1 : At m (PySem.Str.ofString "y1") c1
  y2 : At m (PySem.Str.ofString "y2") c2
  y5 : At m (PySem.Str.ofString "y5") c5
end
example : True := by
  k_with "eval Name" => (k_here; (fail_if_success (fail_if_success ((with_reducible show wpAny _ _ (eval (Expr.Name _ _) (envOf _ _ _ _ _)) _ _ _); name_kind "local"))); k_dflt (refine' ld ?k1 ?k2 ?_ ?k3 ?k4 ?k5; (case k1 => k_asm); (case k2 => exact rfl); (case k3 => kernel_rfl!); (case k4 => kernel_rfl!); (case k5 => kernel_rfl!); k_whole))
  trivial
example : True := by
  k_with "eval Name" => (k_here; (fail_if_success (fail_if_success ((with_reducible show wpAny _ _ (eval (Expr.Name _ _) (envOf _ _ _ _ _)) _ _ _); name_kind "globalImplicit"))); (with_reducible rename Fr _ _ _ _ => kF); k_dflt (refine' name_K kF ?k1 ?k2 ?k3 ?_ ?k4 ?k5 ?k6; (case k1 => k_asm); (case k2 => k_asm); (case k3 => k_is); (case k4 => kernel_rfl!); (case k5 => kernel_rfl!); (case k6 => kernel_rfl!); k_whole))
  trivial
example : True := by
  k_with "storeName" => (k_here; (try dsimp only); k_dflt (refine' storeX_T ?F ?N ?_ ?a ?b; (case F => k_asm); (case N => k_asm); (case a => kernel_rfl!); (case b => kernel_rfl!); k_whole); intro uh uk um uF uN; (try k_sweep))
  trivial
example : True := by
  k_with "execs cons" => (k_here; dsimp only)
  trivial
example : True := by
  k_with "execs cons" => (k_here; k_fold)
  trivial
example : True := by
  k_with "execs nil" => (k_here; dsimp only)
  trivial
example : True := by
  k_with "eval Call" => (k_here; first | ((with_reducible show wpAny _ _ (eval (Expr.Call (Expr.Name _ _) _ (_ :: _) _) _) _ _ _); k_dflt (refine wpAny_Call_Name_kw ?_)) | ((with_reducible show wpAny _ _ (eval (Expr.Call (Expr.Name _ _) _ [] _) _) _ _ _); k_dflt (refine Call_ ?_)))
  trivial
example : True := by
  k_with "exec If" => (k_here; refine wpAny_If ?_)
  trivial
example : True := by
  k_with "exec Assign" => (k_here; k_fold)
  trivial
example : True := by
  k_with "exec If" => (k_here; k_fold)
  trivial
example : True := by
  k_with "exec Return some" => (k_here; k_fold)
  trivial
example : True := by
  k_with "exec AugAssign" => (k_here; k_fold)
  trivial
example : True := by
  k_with "exec Expr" => (k_here; k_fold)
  trivial
example : True := by
  k_with "exec While Compare cons nil" => (k_here; k_fold)
  trivial
example : True := by
  k_with "exec For Name Tuple cons nil" => (k_here; k_fold)
  trivial
example : True := by
  k_with "eval Constant int" => (k_here; refine c_int ?_)
  trivial
example : True := by
  k_with "eval Constant str" => (k_here; refine c_str ?_)
  trivial
example : True := by
  k_with "binaryOp Add int int" => (k_here; refine c_add ?_)
  trivial
example : True := by
  k_with "binaryOp Sub int int" => (k_here; refine c_sub ?_)
  trivial
example : True := by
  k_with "binaryOp Mult int int" => (k_here; refine c_mul (by mul_fits) ?_)
  trivial
example : True := by
  k_with "inplaceOp Add int int" => (k_here; refine c_iadd ?_)
  trivial
example : True := by
  k_with "inplaceOp Sub int int" => (k_here; refine c_isub ?_)
  trivial
example : True := by
  k_with "newTuple" => (k_here; k_dflt (refine' c_tup ?F ?N ?_ ?z; (case F => k_asm); (case N => k_asm); (case z => kmk_size)); intro uD uh uF uN; (try k_sweep))
  trivial
example : True := by
  k_with "call builtin:abs" => (k_here; (refine abs_e (by with_reducible assumption) ?_); intro _ _; (try dsimp only))
  trivial
example : True := by
  k_with "binaryOp Mod int int" => (k_here; (first | refine mod_n (by with_reducible assumption) (by omega) ?_ | refine mod_e (by omega) ?_); (try dsimp only))
  trivial
example : True := by
  k_with "binaryOp FloorDiv int int" => (k_here; (first | refine div_n (by with_reducible assumption) (by omega) (by omega) ?_ | refine div_e (by omega) (by omega) ?_); (try dsimp only))
  trivial
example : True := by
  k_with "ite" => (k_here; (fail_if_success (have : KPfMark := by with_reducible assumption)); (fail_if_success (with_reducible show if true = true then _ else _)); (fail_if_success (with_reducible show if false = true then _ else _)); k_dflt (first
    | (k_closed; first | refine ite_pos (by decide) ?_ | refine ite_neg (by decide) ?_)
    | (refine ite_pos (by with_reducible assumption) ?_; walk_say "MINE")
    | (refine ite_isFalse (by with_reducible assumption) ?_; walk_say "MINE")
    | (refine ite_pos (by first | omega | (simp only [beq_iff_eq, bne_iff_ne, ne_eq, decide_eq_true_eq, Bool.not_eq_true', decide_eq_false_iff_not, beq_eq_false_iff_ne, Bool.false_eq_true, reduceIte]; first | done | omega)) ?_; walk_say "MINE +")
    | (refine ite_neg (by first | omega | (simp only [beq_iff_eq, bne_iff_ne, ne_eq, decide_eq_true_eq, Bool.not_eq_true', decide_eq_false_iff_not, beq_eq_false_iff_ne, Bool.false_eq_true, reduceIte]; first | done | omega)) ?_; walk_say "MINE -")
    | ((with_reducible refine split_ine ?_ ?_) <;> intro _) | ((with_reducible refine split_ieq ?_ ?_) <;> intro _) | ((with_reducible refine split_dec ?_ ?_) <;> intro _) | ((with_reducible refine split_bool ?_ ?_) <;> intro _)))
  trivial
example : True := by
  k_with "compareOp In int ref" => (k_here; (with_reducible show wpAny _ _ (compareOp CmpOp.In _ (Value.ref _)) _ _ _); k_dflt (first
    | (refine' in_tup_N (b := true) ?k1 ?k2 ?k4 rfl ?k3 ?_; (case k1 => k_asm); (case k2 => k_mem); (case k4 => rfl); (case k3 => rfl))
    | (refine' in_tup_N (b := false) ?k1 ?k2 ?k4 rfl ?k3 ?_; (case k1 => k_asm); (case k2 => k_mem); (case k4 => rfl); (case k3 => rfl))
    | (refine' in_tup_N (b := decide _) ?k1 ?k2 rfl rfl any3 ?_; (case k1 => k_asm); (case k2 => k_mem))
    | (refine' in_list_N (b := true) ?k1 ?k2 ?k4 rfl ?k3 ?_; (case k1 => k_asm); (case k2 => k_mem); (case k4 => rfl); (case k3 => rfl))
    | (refine' in_list_N (b := false) ?k1 ?k2 ?k4 rfl ?k3 ?_; (case k1 => k_asm); (case k2 => k_mem); (case k4 => rfl); (case k3 => rfl))
    | (refine' in_list_N (b := decide _) ?k1 ?k2 rfl rfl any3 ?_; (case k1 => k_asm); (case k2 => k_mem))
    | (refine' in_tup_K (b := true) ?k1 ?k2 ?k3 ?k4 rfl ?k5 ?_; (case k1 => k_asm); (case k2 => k_asm); (case k3 => k_is); (case k4 => rfl); (case k5 => rfl))
    | (refine' in_tup_K (b := false) ?k1 ?k2 ?k3 ?k4 rfl ?k5 ?_; (case k1 => k_asm); (case k2 => k_asm); (case k3 => k_is); (case k4 => rfl); (case k5 => rfl))))
  trivial
example : True := by
  k_with "compareOp In str ref" => (k_here; (with_reducible show wpAny _ _ (compareOp CmpOp.In _ (Value.ref _)) _ _ _); k_dflt (first
    | (refine' in_tup_N (b := true) ?k1 ?k2 ?k4 rfl ?k3 ?_; (case k1 => k_asm); (case k2 => k_mem); (case k4 => rfl); (case k3 => rfl))
    | (refine' in_tup_N (b := false) ?k1 ?k2 ?k4 rfl ?k3 ?_; (case k1 => k_asm); (case k2 => k_mem); (case k4 => rfl); (case k3 => rfl))
    | (refine' in_tup_N (b := decide _) ?k1 ?k2 rfl rfl any3 ?_; (case k1 => k_asm); (case k2 => k_mem))
    | (refine' in_list_N (b := true) ?k1 ?k2 ?k4 rfl ?k3 ?_; (case k1 => k_asm); (case k2 => k_mem); (case k4 => rfl); (case k3 => rfl))
    | (refine' in_list_N (b := false) ?k1 ?k2 ?k4 rfl ?k3 ?_; (case k1 => k_asm); (case k2 => k_mem); (case k4 => rfl); (case k3 => rfl))
    | (refine' in_list_N (b := decide _) ?k1 ?k2 rfl rfl any3 ?_; (case k1 => k_asm); (case k2 => k_mem))
    | (refine' in_tup_K (b := true) ?k1 ?k2 ?k3 ?k4 rfl ?k5 ?_; (case k1 => k_asm); (case k2 => k_asm); (case k3 => k_is); (case k4 => rfl); (case k5 => rfl))
    | (refine' in_tup_K (b := false) ?k1 ?k2 ?k3 ?k4 rfl ?k5 ?_; (case k1 => k_asm); (case k2 => k_asm); (case k3 => k_is); (case k4 => rfl); (case k5 => rfl))))
  trivial
set_option maxRecDepth 100000 in
set_option maxHeartbeats 1000000 in
theorem say_isleap (w : World) (y : Int) (t : Tok) : Say w 21 1 [.int y t] [] (fun _ => .bool (isLeap y)) := by
  unfold isLeap
  unfold Say
  k_fill
  intros
  rename_i hret
  refine wpAny_call ?_
  k_dflt (refine' code_def (binds := [((PySem.Str.ofString "year"), .int y t)]) ?k1 ?k2 ?k3 ?k4 ?k5 ?kA ?kF ?kK ?k6 ?k7 ?k8 ?k9 ?kB ?_ ?c2 ?c3 ?c4 ?c5; (case kA => exact rfl); (case kF => exact rfl); (case kK => assumption); (case k1 => k_asm); (case k2 => k_asm); (case k3 => k_asm); (case k4 => k_asm); (case k5 => k_asm); (case k6 => k_is); (case k7 => k_is); (case k8 => ktr_room); (case k9 => first | exact BindsTo.of_eq rfl | exact binds_K (by k_in) rfl (by k_is) rfl rfl rfl); (case c5 => decide); (case kB => exact locs rfl); (case c2 => exact rfl); (case c3 => exact rfl); (case c4 => exact rfl); k_whole; intro g' L' h' FG' F' N' B' X' T'; (try dsimp only); (try k_lift B'); (try k_fold))
  have F9 : Fr g' L' h' (fun z9 => List.lookup z9 [((PySem.Str.ofString "year"), .int y t)]) := F'
  clear F'
  refine retok ?_
  intro tk0
  refine letAE ?_
  intro env9 A9
  try dsimp only
  (repeat' (first | (k_unfold; (try dsimp only)) | walk1 | (dsimp only; walk1) | (leave1; (try dsimp only))))
  all_goals cb_end hret
theorem say_isleap_v (w : World) (y : Int) (t : Tok) {b : Bool} (h : isLeap y = b) : Say w 21 1 [.int y t] [] (fun _ => .bool b) := h ▸ say_isleap w y t
set_option maxRecDepth 100000 in
set_option maxHeartbeats 1000000 in
theorem say_trunc (w : World) (a b : Int) (t u : Tok) (ha : 0 ≤ a) (hb : 0 < b) (hb9 : b < 1000000000) : Say w 28 1 [.int a t, .int b u] [] (fun t => .int (a / b) t) := by
  unfold Say
  k_fill
  have e1 : AbsIs a a := ⟨by omega⟩
  have e2 : AbsIs b b := ⟨by omega⟩
  intros
  rename_i hret
  refine wpAny_call ?_
  k_dflt (refine' code_def (binds := [((PySem.Str.ofString "a"), .int a t), ((PySem.Str.ofString "b"), .int b u)]) ?k1 ?k2 ?k3 ?k4 ?k5 ?kA ?kF ?kK ?k6 ?k7 ?k8 ?k9 ?kB ?_ ?c2 ?c3 ?c4 ?c5; (case kA => exact rfl); (case kF => exact rfl); (case kK => assumption); (case k1 => k_asm); (case k2 => k_asm); (case k3 => k_asm); (case k4 => k_asm); (case k5 => k_asm); (case k6 => k_is); (case k7 => k_is); (case k8 => ktr_room); (case k9 => first | exact BindsTo.of_eq rfl | exact binds_K (by k_in) rfl (by k_is) rfl rfl rfl); (case c5 => decide); (case kB => exact locs rfl); (case c2 => exact rfl); (case c3 => exact rfl); (case c4 => exact rfl); k_whole; intro g' L' h' FG' F' N' B' X' T'; (try dsimp only); (try k_lift B'); (try k_fold))
  have F9 : Fr g' L' h' (fun z9 => List.lookup z9 [((PySem.Str.ofString "b"), .int b u), ((PySem.Str.ofString "a"), .int a t)]) := F'
  clear F'
  refine retok ?_
  intro tk0
  refine letAE ?_
  intro env9 A9
  try dsimp only
  (repeat' (first | (k_unfold; (try dsimp only)) | walk1 | (dsimp only; walk1) | (leave1; (try dsimp only))))
  all_goals cb_end hret
example : True := by
  k_with "call ref" => (k_here; (with_reducible show wpAny _ _ (call (Value.ref 21) _ _) _ _ _); k_dflt ((first | refine' Say.use (say_isleap_v _ _ _ (b := true) (by assumption)) ?k1 ?k2 ?k3 ?k4 ?k5 ?kK ?kd ?ku ?_ | refine' Say.use (say_isleap_v _ _ _ (b := false) (by assumption)) ?k1 ?k2 ?k3 ?k4 ?k5 ?kK ?kd ?ku ?_ | refine' Say.use (say_isleap _ _ _) ?k1 ?k2 ?k3 ?k4 ?k5 ?kK ?kd ?ku ?_); (case k1 => k_asm); (case k2 => k_asm); (case k3 => k_asm); (case k4 => k_asm); (case k5 => k_asm); (case kK => first | exact rfl | assumption); (case kd => ktr_room); (case ku => ktr_units)); intro ut uh uk uF uN; (try dsimp only); (try k_fold))
  trivial
example : True := by
  k_with "call ref" => (k_here; (with_reducible show wpAny _ _ (call (Value.ref 28) _ _) _ _ _); k_dflt ((first | refine' Say.use (say_trunc _ _ _ _ _ (by omega) (by omega) (by omega)) ?k1 ?k2 ?k3 ?k4 ?k5 ?kK ?kd ?ku ?_); (case k1 => k_asm); (case k2 => k_asm); (case k3 => k_asm); (case k4 => k_asm); (case k5 => k_asm); (case kK => first | exact rfl | assumption); (case kd => ktr_room); (case ku => ktr_units)); intro ut uh uk uF uN; (try dsimp only); (try k_fold))
  trivial
theorem any4 {k : Int} {t u v r q : Tok} : [Value.int 4 u, .int 6 v, .int 9 r, .int 11 q].any (vEq (.int k t)) = decide (k = 4 ∨ k = 6 ∨ k = 9 ∨ k = 11) := by
  simp only [List.any_cons, List.any_nil, Bool.or_false, vEq]
  rw [Bool.eq_iff_iff]
  simp only [Bool.or_eq_true, beq_iff_eq, decide_eq_true_eq]
  omega
example : True := by
  k_with "compareOp In int ref" => (k_here; (with_reducible show wpAny _ _ (compareOp CmpOp.In _ (Value.ref 29)) _ _ _); k_dflt (refine' in_tup_K (b := decide _) ?k1 ?k2 ?k3 rfl rfl any4 ?_; (case k1 => k_asm); (case k2 => k_asm); (case k3 => k_is)))
  trivial
set_option maxRecDepth 100000 in
set_option maxHeartbeats 4000000 in
theorem say_legal (w : World) (y m d : Int) (t u v : Tok) (m1 : 1 ≤ m) (m2 : m ≤ 12) (h1 : 1 ≤ d) (h2 : d ≤ mdays y m) : Say w 36 2 [.int y t, .int m u, .int d v] [] (fun _ => .bool true) := by
  unfold Say
  k_fill
  obtain ⟨M, hM⟩ : ∃ M, mdays y m = M := ⟨_, rfl⟩
  rw [hM] at h2
  intros
  rename_i hret
  refine wpAny_call ?_
  k_dflt (refine' code_def (binds := [((PySem.Str.ofString "year"), .int y t), ((PySem.Str.ofString "month"), .int m u), ((PySem.Str.ofString "day"), .int d v)]) ?k1 ?k2 ?k3 ?k4 ?k5 ?kA ?kF ?kK ?k6 ?k7 ?k8 ?k9 ?kB ?_ ?c2 ?c3 ?c4 ?c5; (case kA => exact rfl); (case kF => exact rfl); (case kK => assumption); (case k1 => k_asm); (case k2 => k_asm); (case k3 => k_asm); (case k4 => k_asm); (case k5 => k_asm); (case k6 => k_is); (case k7 => k_is); (case k8 => ktr_room); (case k9 => first | exact BindsTo.of_eq rfl | exact binds_K (by k_in) rfl (by k_is) rfl rfl rfl); (case c5 => decide); (case kB => exact locs rfl); (case c2 => exact rfl); (case c3 => exact rfl); (case c4 => exact rfl); k_whole; intro g' L' h' FG' F' N' B' X' T'; (try dsimp only); (try k_lift B'); (try k_fold))
  have F9 : Fr g' L' h' (fun z9 => List.lookup z9 [((PySem.Str.ofString "day"), .int d v), ((PySem.Str.ofString "month"), .int m u), ((PySem.Str.ofString "year"), .int y t)]) := F'
  clear F'
  refine retok ?_
  intro tk0
  refine letAE ?_
  intro env9 A9
  try dsimp only
  repeat' ((fail_if_success (with_reducible show wpAny _ _ (exec (Stmt.If _ _ _ _) _) _ _ _)); first | (k_unfold; (try dsimp only)) | walk1 | (dsimp only; walk1) | (leave1; (try dsimp only)))
  refine' cutV (PySem.Str.ofString "daysinmonth") (fun v => ∃ t, v = Value.int M t) ?a1 ?a2 ?a3 ?a4
  case a1 => k_asm
  case a2 => k_asm
  case a3 =>
    try k_fold
    by_cases hm : m = 2
    · cases hl : isLeap y
      · have hM : 28 = M := by simpa [mdays, hm, hl] using hM
        (repeat' (first | (k_unfold; (try dsimp only)) | walk1 | (dsimp only; walk1) | (leave1; (try dsimp only))))
        all_goals (refine' cutV_end ?e1 ?e2 ?e3 ?e4 ?e5; (case e1 => k_asm); (case e2 => assumption); (case e3 => with_reducible (repeat (first | exact sub_refl | refine sub_cons ?_))); (case e4 => (intro z; (try dsimp +zetaDelta only); try (by_cases hz1 : z = PySem.Str.ofString "daysinmonth"; { first | ((repeat rw [if_pos hz1]) <;> exact rfl) | (subst hz1; exact rfl) }; { (repeat rw [if_neg hz1]) <;> (try (exact rfl)) }))); (case e5 => exact ⟨_, congrArg (fun x => Value.int x _) (by first | omega | rfl)⟩))
      · have hM : 29 = M := by simpa [mdays, hm, hl] using hM
        (repeat' (first | (k_unfold; (try dsimp only)) | walk1 | (dsimp only; walk1) | (leave1; (try dsimp only))))
        all_goals (refine' cutV_end ?e1 ?e2 ?e3 ?e4 ?e5; (case e1 => k_asm); (case e2 => assumption); (case e3 => with_reducible (repeat (first | exact sub_refl | refine sub_cons ?_))); (case e4 => (intro z; (try dsimp +zetaDelta only); try (by_cases hz1 : z = PySem.Str.ofString "daysinmonth"; { first | ((repeat rw [if_pos hz1]) <;> exact rfl) | (subst hz1; exact rfl) }; { (repeat rw [if_neg hz1]) <;> (try (exact rfl)) }))); (case e5 => exact ⟨_, congrArg (fun x => Value.int x _) (by first | omega | rfl)⟩))
    · rw [mdays, if_neg hm] at hM
      by_cases h4 : m = 4 ∨ m = 6 ∨ m = 9 ∨ m = 11
      · rw [if_pos h4] at hM
        (repeat' (first | (k_unfold; (try dsimp only)) | walk1 | (dsimp only; walk1) | (leave1; (try dsimp only))))
        all_goals (refine' cutV_end ?e1 ?e2 ?e3 ?e4 ?e5; (case e1 => k_asm); (case e2 => assumption); (case e3 => with_reducible (repeat (first | exact sub_refl | refine sub_cons ?_))); (case e4 => (intro z; (try dsimp +zetaDelta only); try (by_cases hz1 : z = PySem.Str.ofString "daysinmonth"; { first | ((repeat rw [if_pos hz1]) <;> exact rfl) | (subst hz1; exact rfl) }; { (repeat rw [if_neg hz1]) <;> (try (exact rfl)) }))); (case e5 => exact ⟨_, congrArg (fun x => Value.int x _) (by first | omega | rfl)⟩))
      · rw [if_neg h4] at hM
        (repeat' (first | (k_unfold; (try dsimp only)) | walk1 | (dsimp only; walk1) | (leave1; (try dsimp only))))
        all_goals (refine' cutV_end ?e1 ?e2 ?e3 ?e4 ?e5; (case e1 => k_asm); (case e2 => assumption); (case e3 => with_reducible (repeat (first | exact sub_refl | refine sub_cons ?_))); (case e4 => (intro z; (try dsimp +zetaDelta only); try (by_cases hz1 : z = PySem.Str.ofString "daysinmonth"; { first | ((repeat rw [if_pos hz1]) <;> exact rfl) | (subst hz1; exact rfl) }; { (repeat rw [if_neg hz1]) <;> (try (exact rfl)) }))); (case e5 => exact ⟨_, congrArg (fun x => Value.int x _) (by first | omega | rfl)⟩))
  intro h9 tk9 v9 ⟨t9, hv⟩ F9 N9
  subst hv
  clear hM
  try dsimp only
  (repeat' (first | (k_unfold; (try dsimp only)) | walk1 | (dsimp only; walk1) | (leave1; (try dsimp only))))
  all_goals cb_end hret
example : True := by
  k_with "call ref" => (k_here; (with_reducible show wpAny _ _ (call (Value.ref 36) _ _) _ _ _); k_dflt ((first | refine' Say.use (say_legal _ _ _ _ _ _ _ (by assumption) (by assumption) (by assumption) (by assumption)) ?k1 ?k2 ?k3 ?k4 ?k5 ?kK ?kd ?ku ?_); (case k1 => k_asm); (case k2 => k_asm); (case k3 => k_asm); (case k4 => k_asm); (case k5 => k_asm); (case kK => first | exact rfl | assumption); (case kd => ktr_room); (case ku => ktr_units)); intro ut uh uk uF uN; (try dsimp only); (try k_fold))
  trivial
set_option maxRecDepth 100000 in
set_option maxHeartbeats 4000000 in
theorem say_gjd (w : World) (y m d : Int) (t u v : Tok) (m1 : 1 ≤ m) (m2 : m ≤ 12) (h1 : 1 ≤ d) (h2 : d ≤ mdays y m) : Say w 43 3 [.int y t, .int m u, .int d v] [] (fun t => .int (gjd y m d) t) := by
  obtain ⟨A, hA⟩ : ∃ A : Int, (if m ≤ 2 then 0 else if isLeap y = true then -1 else -2) = A := ⟨_, rfl⟩
  have e : gjd y m d = 1721426 - 1 + 365 * (y - 1) + (y - 1) / 4 + -((y - 1) / 100) + (y - 1) / 400 + ((367 * m - 362) / 12 + A + d) := by simp only [gjd, hA]
  rw [e]
  unfold Say
  k_fill
  intros
  rename_i hret
  refine wpAny_call ?_
  k_dflt (refine' code_def (binds := [((PySem.Str.ofString "year"), .int y t), ((PySem.Str.ofString "month"), .int m u), ((PySem.Str.ofString "day"), .int d v)]) ?k1 ?k2 ?k3 ?k4 ?k5 ?kA ?kF ?kK ?k6 ?k7 ?k8 ?k9 ?kB ?_ ?c2 ?c3 ?c4 ?c5; (case kA => exact rfl); (case kF => exact rfl); (case kK => assumption); (case k1 => k_asm); (case k2 => k_asm); (case k3 => k_asm); (case k4 => k_asm); (case k5 => k_asm); (case k6 => k_is); (case k7 => k_is); (case k8 => ktr_room); (case k9 => first | exact BindsTo.of_eq rfl | exact binds_K (by k_in) rfl (by k_is) rfl rfl rfl); (case c5 => decide); (case kB => exact locs rfl); (case c2 => exact rfl); (case c3 => exact rfl); (case c4 => exact rfl); k_whole; intro g' L' h' FG' F' N' B' X' T'; (try dsimp only); (try k_lift B'); (try k_fold))
  have F9 : Fr g' L' h' (fun z9 => List.lookup z9 [((PySem.Str.ofString "day"), .int d v), ((PySem.Str.ofString "month"), .int m u), ((PySem.Str.ofString "year"), .int y t)]) := F'
  clear F'
  refine retok ?_
  intro tk0
  refine letAE ?_
  intro env9 A9
  try dsimp only
  repeat' ((fail_if_success (with_reducible show wpAny _ _ (exec (Stmt.If _ _ _ _) _) _ _ _)); first | (k_unfold; (try dsimp only)) | walk1 | (dsimp only; walk1) | (leave1; (try dsimp only)))
  refine' cutV (PySem.Str.ofString "leap_adj") (fun v => ∃ t, v = Value.int A t) ?a1 ?a2 ?a3 ?a4
  case a1 => k_asm
  case a2 => k_asm
  case a3 =>
    try k_fold
    clear e
    by_cases hm : m ≤ 2
    · rw [if_pos hm] at hA
      (repeat' (first | (k_unfold; (try dsimp only)) | walk1 | (dsimp only; walk1) | (leave1; (try dsimp only))))
      all_goals (refine' cutV_end ?e1 ?e2 ?e3 ?e4 ?e5; (case e1 => k_asm); (case e2 => assumption); (case e3 => with_reducible (repeat (first | exact sub_refl | refine sub_cons ?_))); (case e4 => (intro z; (try dsimp +zetaDelta only); try (by_cases hz1 : z = PySem.Str.ofString "leap_adj"; { first | ((repeat rw [if_pos hz1]) <;> exact rfl) | (subst hz1; exact rfl) }; { (repeat rw [if_neg hz1]) <;> (try (exact rfl)) }))); (case e5 => exact ⟨_, congrArg (fun x => Value.int x _) (by first | omega | rfl)⟩))
    · rw [if_neg hm] at hA
      cases hl : isLeap y
      · have hA : -2 = A := by simpa [hl] using hA
        (repeat' (first | (k_unfold; (try dsimp only)) | walk1 | (dsimp only; walk1) | (leave1; (try dsimp only))))
        all_goals (refine' cutV_end ?e1 ?e2 ?e3 ?e4 ?e5; (case e1 => k_asm); (case e2 => assumption); (case e3 => with_reducible (repeat (first | exact sub_refl | refine sub_cons ?_))); (case e4 => (intro z; (try dsimp +zetaDelta only); try (by_cases hz1 : z = PySem.Str.ofString "leap_adj"; { first | ((repeat rw [if_pos hz1]) <;> exact rfl) | (subst hz1; exact rfl) }; { (repeat rw [if_neg hz1]) <;> (try (exact rfl)) }))); (case e5 => exact ⟨_, congrArg (fun x => Value.int x _) (by first | omega | rfl)⟩))
      · have hA : -1 = A := by simpa [hl] using hA
        (repeat' (first | (k_unfold; (try dsimp only)) | walk1 | (dsimp only; walk1) | (leave1; (try dsimp only))))
        all_goals (refine' cutV_end ?e1 ?e2 ?e3 ?e4 ?e5; (case e1 => k_asm); (case e2 => assumption); (case e3 => with_reducible (repeat (first | exact sub_refl | refine sub_cons ?_))); (case e4 => (intro z; (try dsimp +zetaDelta only); try (by_cases hz1 : z = PySem.Str.ofString "leap_adj"; { first | ((repeat rw [if_pos hz1]) <;> exact rfl) | (subst hz1; exact rfl) }; { (repeat rw [if_neg hz1]) <;> (try (exact rfl)) }))); (case e5 => exact ⟨_, congrArg (fun x => Value.int x _) (by first | omega | rfl)⟩))
  intro h9 tk9 v9 ⟨t9, hv⟩ F9 N9
  subst hv
  clear hA
  try dsimp only
  (repeat' (first | (k_unfold; (try dsimp only)) | walk1 | (dsimp only; walk1) | (leave1; (try dsimp only))))
  all_goals cb_end hret
set_option maxRecDepth 100000 in
set_option maxHeartbeats 4000000 in
theorem say_long (w : World) (g y : Int) (t u : Tok) : Say w 111 1 [.int g t, .int y u] [] (fun _ => .bool (lawLong g y)) := by
  unfold Say
  k_fill
  intros
  rename_i hret
  refine wpAny_call ?_
  k_dflt (refine' code_def (binds := [((PySem.Str.ofString "way"), .int g t), ((PySem.Str.ofString "year"), .int y u)]) ?k1 ?k2 ?k3 ?k4 ?k5 ?kA ?kF ?kK ?k6 ?k7 ?k8 ?k9 ?kB ?_ ?c2 ?c3 ?c4 ?c5; (case kA => exact rfl); (case kF => exact rfl); (case kK => assumption); (case k1 => k_asm); (case k2 => k_asm); (case k3 => k_asm); (case k4 => k_asm); (case k5 => k_asm); (case k6 => k_is); (case k7 => k_is); (case k8 => ktr_room); (case k9 => first | exact BindsTo.of_eq rfl | exact binds_K (by k_in) rfl (by k_is) rfl rfl rfl); (case c5 => decide); (case kB => exact locs rfl); (case c2 => exact rfl); (case c3 => exact rfl); (case c4 => exact rfl); k_whole; intro g' L' h' FG' F' N' B' X' T'; (try dsimp only); (try k_lift B'); (try k_fold))
  have F9 : Fr g' L' h' (fun z9 => List.lookup z9 [((PySem.Str.ofString "year"), .int y u), ((PySem.Str.ofString "way"), .int g t)]) := F'
  clear F'
  refine retok ?_
  intro tk0
  refine letAE ?_
  intro env9 A9
  try dsimp only
  (repeat' (first | (k_unfold; (try dsimp only)) | walk1 | (dsimp only; walk1) | (leave1; (try dsimp only))))
  all_goals (refine' cb_retB (Q := _) hret ?e1 ?e2 ?e3; (case e2 => k_asm); (case e3 => first | k_asm | (refine' cb_drop (by assumption) ?cbS; (case cbS => with_reducible (repeat (first | exact sub_refl | refine sub_cons ?_))))); (case e1 => law_clear; (try dsimp only); (try simp only [lawLong]); (repeat' split) <;> first | with_reducible rfl | omega | (rw [Bool.eq_iff_iff]; simp only [Bool.and_eq_true, Bool.or_eq_true, decide_eq_true_eq, beq_iff_eq, bne_iff_ne, ne_eq, Bool.not_eq_true', decide_eq_false_iff_not, beq_eq_false_iff_ne, Bool.false_eq_true, Bool.true_eq_false, eq_self, true_iff, iff_true, false_iff, iff_false, not_true_eq_false, not_false_eq_true, not_or, not_and] <;> omega)))
set_option maxRecDepth 100000 in
set_option maxHeartbeats 4000000 in
theorem say_lyear (w : World) (g y n : Int) (hn : AbsIs y n) (h0 : 0 ≤ n) (t u : Tok) : Say w 123 1 [.int g t, .int y u] [] (fun t => .int (lawYear g n) t) := by
  unfold Say
  k_fill
  intros
  rename_i hret
  refine wpAny_call ?_
  k_dflt (refine' code_def (binds := [((PySem.Str.ofString "way"), .int g t), ((PySem.Str.ofString "number"), .int y u)]) ?k1 ?k2 ?k3 ?k4 ?k5 ?kA ?kF ?kK ?k6 ?k7 ?k8 ?k9 ?kB ?_ ?c2 ?c3 ?c4 ?c5; (case kA => exact rfl); (case kF => exact rfl); (case kK => assumption); (case k1 => k_asm); (case k2 => k_asm); (case k3 => k_asm); (case k4 => k_asm); (case k5 => k_asm); (case k6 => k_is); (case k7 => k_is); (case k8 => ktr_room); (case k9 => first | exact BindsTo.of_eq rfl | exact binds_K (by k_in) rfl (by k_is) rfl rfl rfl); (case c5 => decide); (case kB => exact locs rfl); (case c2 => exact rfl); (case c3 => exact rfl); (case c4 => exact rfl); k_whole; intro g' L' h' FG' F' N' B' X' T'; (try dsimp only); (try k_lift B'); (try k_fold))
  have F9 : Fr g' L' h' (fun z9 => List.lookup z9 [((PySem.Str.ofString "number"), .int y u), ((PySem.Str.ofString "way"), .int g t)]) := F'
  clear F'
  refine retok ?_
  intro tk0
  refine letAE ?_
  intro env9 A9
  try dsimp only
  (repeat' (first | (k_unfold; (try dsimp only)) | walk1 | (dsimp only; walk1) | (leave1; (try dsimp only))))
  all_goals (refine' cb_retI (Q := _) hret ?e1 ?e2 ?e3; (case e2 => k_asm); (case e3 => first | k_asm | (refine' cb_drop (by assumption) ?cbS; (case cbS => with_reducible (repeat (first | exact sub_refl | refine sub_cons ?_))))); (case e1 => law_clear; (try dsimp only); (try simp only [lawYear]); (repeat' split) <;> first | with_reducible rfl | omega))
set_option maxRecDepth 100000 in
set_option maxHeartbeats 4000000 in
theorem say_jan (w : World) (y : Int) (t : Tok) : Say w 130 1 [.int y t] [] (fun t => .int (jan y) t) := by
  unfold Say
  k_fill
  have e1 : ∀ a : Int, a.fmod 400 = a % 400 := fun a => Int.fmod_eq_emod_of_nonneg a (by decide)
  have e2 : ∀ a : Int, a.fdiv 400 = a / 400 := fun a => Int.fdiv_eq_ediv_of_nonneg a (by decide)
  intros
  rename_i hret
  refine wpAny_call ?_
  k_dflt (refine' code_def (binds := [((PySem.Str.ofString "year"), .int y t)]) ?k1 ?k2 ?k3 ?k4 ?k5 ?kA ?kF ?kK ?k6 ?k7 ?k8 ?k9 ?kB ?_ ?c2 ?c3 ?c4 ?c5; (case kA => exact rfl); (case kF => exact rfl); (case kK => assumption); (case k1 => k_asm); (case k2 => k_asm); (case k3 => k_asm); (case k4 => k_asm); (case k5 => k_asm); (case k6 => k_is); (case k7 => k_is); (case k8 => ktr_room); (case k9 => first | exact BindsTo.of_eq rfl | exact binds_K (by k_in) rfl (by k_is) rfl rfl rfl); (case c5 => decide); (case kB => exact locs rfl); (case c2 => exact rfl); (case c3 => exact rfl); (case c4 => exact rfl); k_whole; intro g' L' h' FG' F' N' B' X' T'; (try dsimp only); (try k_lift B'); (try k_fold))
  have F9 : Fr g' L' h' (fun z9 => List.lookup z9 [((PySem.Str.ofString "year"), .int y t)]) := F'
  clear F'
  refine retok ?_
  intro tk0
  refine letAE ?_
  intro env9 A9
  try dsimp only
  (repeat' (first | (k_unfold; (try dsimp only)) | walk1 | (dsimp only; walk1) | (leave1; (try dsimp only))))
  all_goals (refine' cb_retI (Q := _) hret ?e1 ?e2 ?e3; (case e2 => k_asm); (case e3 => first | k_asm | (refine' cb_drop (by assumption) ?cbS; (case cbS => with_reducible (repeat (first | exact sub_refl | refine sub_cons ?_))))); (case e1 => (try dsimp only); (try simp only [jan, e1, e2]); (repeat' split) <;> first | with_reducible rfl | omega))
theorem say_long_v (w : World) (g y : Int) (t u : Tok) {b : Bool} (hb : lawLong g y = b) : Say w 111 1 [.int g t, .int y u] [] (fun _ => .bool b) := hb ▸ say_long w g y t u
section
variable {h₀ : Heap} {L I C D : Addr} {m : Str → Option Value} {s₁ : Shared} {oI oC oD : Obj} {S : List (Addr × Obj) → Prop} {y : Value} {h' : Heap} {tk : Nat} {all news0 : List (Addr × Obj)} {l l' : List Int}
theorem compEnd_el (F : Fr h₀ L h' m) (N : News h₀ L h' all) (sub : ∀ p ∈ (I, oI) :: (C, oC) :: (D, oD) :: news0, p ∈ all) (off : LCg.Off3 I C D news0) (hS : S news0) (r : KCiEl news0 l l' y news0) :
    LCg.CompEnd h₀ L m s₁ I oI C oC D oD S (fun y news' => KCiEl news0 l l' y news') y { s₁ with heap := h', toks := tk } := LCg.CompEnd.intro F N news0 sub off hS r
theorem compEnd_no (F : Fr h₀ L h' m) (N : News h₀ L h' all) (sub : ∀ p ∈ (I, oI) :: (C, oC) :: (D, oD) :: news0, p ∈ all) (off : LCg.Off3 I C D news0) (hS : S news0) (r : KCiNo news0 l l' news0) :
    LCg.CompEnd h₀ L m s₁ I oI C oC D oD S (fun _ news' => KCiNo news0 l l' news') y { s₁ with heap := h', toks := tk } := LCg.CompEnd.intro F N news0 sub off hS r
end
theorem lfold_tab : ∀ g : Fin 3, ∀ y : Fin 17, 1 ≤ y.val → ((List.foldl (fun l' k' => if lawLong g.val k' = true then l' ++ [k'] else if lawLong g.val k' = false then l' else l') [] (rangeKs 1 ((y.val : Int) - 1).toNat)).length : Int) = lawMore g.val y.val := by decide +kernel
theorem lfold (g y : Int) (hg : g = 0 ∨ g = 1 ∨ g = 2) (h : 1 ≤ y) (hy : y < 17) :
    ((List.foldl (fun l' k' => if lawLong g k' = true then l' ++ [k'] else if lawLong g k' = false then l' else l') [] (rangeKs 1 (y - 1).toNat)).length : Int) = lawMore g y := by
  have := lfold_tab ⟨g.toNat, by omega⟩ ⟨y.toNat, by omega⟩ (by show 1 ≤ y.toNat; omega)
  simp only [Int.toNat_of_nonneg (show 0 ≤ g by omega), Int.toNat_of_nonneg (show 0 ≤ y by omega)] at this
  exact this
example : True := by
  k_with "call ref" => (k_here; (with_reducible show wpAny _ _ (call (Value.ref 111) _ _) _ _ _); k_dflt ((first | refine' Say.use (say_long_v _ _ _ _ _ (by with_reducible assumption)) ?k1 ?k2 ?k3 ?k4 ?k5 ?kK ?kd ?ku ?_ | refine' Say.use (say_long _ _ _ _ _) ?k1 ?k2 ?k3 ?k4 ?k5 ?kK ?kd ?ku ?_); (case k1 => k_asm); (case k2 => k_asm); (case k3 => k_asm); (case k4 => k_asm); (case k5 => k_asm); (case kK => first | exact rfl | assumption); (case kd => ktr_room); (case ku => ktr_units)); intro ut uh uk uF uN; (try dsimp only); (try k_fold))
  trivial
example : True := by
  k_with "CompEnd" => (k_here; (try dsimp only); k_dflt (first
    | refine compEnd_el (by assumption) (by assumption) (by kcf_all) (by first | assumption | (simp only [LCg.Off3, and_true]; done) | (simp only [LCg.Off3, and_true]; assumption)) (by first | lcg_src | assumption | trivial) ?_
    | refine compEnd_no (by assumption) (by assumption) (by kcf_all) (by first | assumption | (simp only [LCg.Off3, and_true]; done) | (simp only [LCg.Off3, and_true]; assumption)) (by first | lcg_src | assumption | trivial) ?_))
  trivial
set_option maxRecDepth 100000 in
set_option maxHeartbeats 4000000 in
theorem say_lfirst (w : World) (g y : Int) (t u : Tok) (hg : g = 0 ∨ g = 1 ∨ g = 2) (h : 1 ≤ y) : Say w 116 3 [.int g t, .int y u] [] (fun t => .int (lawFirst g y) t) := by
  obtain ⟨M, hM⟩ : ∃ M, lawMore g y = M := ⟨_, rfl⟩
  have e : lawFirst g y = 2375840 + 365 * (y - 1) + M := by rw [← hM]; rfl
  rw [e]
  unfold Say
  k_fill
  intros
  rename_i hret
  refine wpAny_call ?_
  k_dflt (refine' code_defC ?k1 ?k2 ?k3 ?k4 ?k5 ?kA ?kF ?kK ?k6 ?k7 ?k8 ?k9 ?kB ?kD ?_ ?c2 ?c3 ?c4; (case kA => exact rfl); (case kF => exact rfl); (case kK => assumption); (case k1 => k_asm); (case k2 => k_asm); (case k3 => k_asm); (case k4 => k_asm); (case k5 => k_asm); (case k6 => k_is); (case k7 => k_is); (case k8 => ktr_room); (case k9 => first | exact BindsTo.of_eq rfl | exact binds_K (by k_in) rfl (by k_is) rfl rfl rfl); (case kB => exact rfl); (case kD => decide +kernel); (case c2 => exact rfl); (case c3 => exact rfl); (case c4 => exact rfl); k_whole; intro g' L' h' tk' cells' FG' F' N' Y' B' X' T' l1; (try k_lt l1); k_cells Y'; (try simp only [List.cons_append, List.nil_append] at N'); (try dsimp only); (try k_lift B'); (try k_fold))
  repeat' ((fail_if_success (with_reducible show wpAny _ _ (exec (Stmt.If _ _ _ _) _) _ _ _)); first | (k_unfold; (try dsimp only)) | walk1 | (dsimp only; walk1) | (leave1; (try dsimp only)))
  refine' cutV (PySem.Str.ofString "more") (fun v => ∃ t, v = Value.int M t) ?a1 ?a2 ?a3 ?a4
  case a1 => k_asm
  case a2 => k_asm
  case a3 =>
    try k_fold
    clear e
    by_cases hy : y < 17
    · (repeat' (first | (k_unfold; (try dsimp only)) | walk1 | (dsimp only; walk1) | (leave1; (try dsimp only))))
      all_goals (refine' cutV_end ?e1 ?e2 ?e3 ?e4 ?e5; (case e1 => k_asm); (case e2 => assumption); (case e3 => with_reducible (repeat (first | exact sub_refl | refine sub_cons ?_))); (case e4 => (intro z; (try dsimp +zetaDelta only); try (by_cases hz1 : z = PySem.Str.ofString "more"; { first | ((repeat rw [if_pos hz1]) <;> exact rfl) | (subst hz1; exact rfl) }; { (repeat rw [if_neg hz1]) <;> (try (exact rfl)) }))); (case e5 => exact ⟨_, congrArg (fun x => Value.int x _) ((lfold g y hg h hy).trans hM)⟩))
    · rw [lawMore, if_neg hy] at hM
      obtain rfl | rfl | rfl := hg
      all_goals
        simp only [Int.reduceEq, reduceIte] at hM
        (repeat' (first | (k_unfold; (try dsimp only)) | walk1 | (dsimp only; walk1) | (leave1; (try dsimp only))))
        all_goals (refine' cutV_end ?e1 ?e2 ?e3 ?e4 ?e5; (case e1 => k_asm); (case e2 => assumption); (case e3 => with_reducible (repeat (first | exact sub_refl | refine sub_cons ?_))); (case e4 => (intro z; (try dsimp +zetaDelta only); try (by_cases hz1 : z = PySem.Str.ofString "more"; { first | ((repeat rw [if_pos hz1]) <;> exact rfl) | (subst hz1; exact rfl) }; { (repeat rw [if_neg hz1]) <;> (try (exact rfl)) }))); (case e5 => exact ⟨_, congrArg (fun x => Value.int x _) hM⟩))
  intro h9 tk9 v9 ⟨t9, hv⟩ F9 N9
  subst hv
  clear hM
  try dsimp only
  (repeat' (first | (k_unfold; (try dsimp only)) | walk1 | (dsimp only; walk1) | (leave1; (try dsimp only))))
  all_goals cb_end hret
/-- the way and the value of the argument «method» that names it -/
inductive Meth : Int → Value → Prop
  | a (q : Tok) : Meth 0 (.int 4 q)
  | b (q : Tok) : Meth 0 (.str (PySem.Str.ofString "continuous") q)
  | c (q : Tok) : Meth 1 (.int 100 q)
  | d (q : Tok) : Meth 1 (.str (PySem.Str.ofString "romme") q)
  | e (q : Tok) : Meth 2 (.int 128 q)
  | f (q : Tok) : Meth 2 (.str (PySem.Str.ofString "madler") q)
theorem Meth.plain {g : Int} {v : Value} (h : Meth g v) : vPlain v = true := by cases h <;> rfl
theorem Meth.three {g : Int} {v : Value} (h : Meth g v) : g = 0 ∨ g = 1 ∨ g = 2 := by cases h <;> decide
theorem Meth.in1 {g : Int} {v : Value} (h : Meth g v) {t u : Tok} : [Value.int 4 t, .str (PySem.Str.ofString "continuous") u].any (vEq v) = decide (g = 0) := by cases h <;> rfl
theorem Meth.in2 {g : Int} {v : Value} (h : Meth g v) {t u : Tok} : [Value.int 100 t, .str (PySem.Str.ofString "romme") u].any (vEq v) = decide (g = 1) := by cases h <;> rfl
theorem Meth.in3 {g : Int} {v : Value} (h : Meth g v) {t u : Tok} : [Value.int 128 t, .str (PySem.Str.ofString "madler") u].any (vEq v) = decide (g = 2) := by cases h <;> rfl
theorem Meth.in4 {g : Int} {v : Value} (h : Meth g v) {t u t' u' : Tok} : [Value.int 128 t, .str (PySem.Str.ofString "madler") u, Value.int 4 t', .str (PySem.Str.ofString "continuous") u'].any (vEq v) = decide (g = 2 ∨ g = 0) := by cases h <;> rfl
theorem Meth.truthy {prog : Program} {w : World} {A : Around} {E : Value → Shared → Prop} {s : Shared} {g : Int} {v : Value} (hv : Meth g v) {Q : Bool → Shared → Prop} (h : ∀ tk, Q true { s with toks := tk }) : wpAny (model prog w) A (truthy v) Q E s := by
  cases hv <;> first | exact P.truthy_int (h s.toks) | exact P.truthy_str (by decide) (h _)
example : True := by
  k_with "truthy" => (k_here; k_dflt (refine Meth.truthy (by with_reducible assumption) ?_); intro _; (try dsimp only))
  trivial
example : True := by
  k_with "compareOp In" => (k_here; (with_reducible show wpAny _ _ (compareOp CmpOp.In _ (Value.ref _)) _ _ _); k_dflt (first
    | (refine' in_tup_N ?k1 ?k2 rfl (Meth.plain (by with_reducible assumption)) (Meth.in1 (by with_reducible assumption)) ?_; (case k1 => k_asm); (case k2 => k_mem))
    | (refine' in_tup_N ?k1 ?k2 rfl (Meth.plain (by with_reducible assumption)) (Meth.in2 (by with_reducible assumption)) ?_; (case k1 => k_asm); (case k2 => k_mem))
    | (refine' in_tup_N ?k1 ?k2 rfl (Meth.plain (by with_reducible assumption)) (Meth.in3 (by with_reducible assumption)) ?_; (case k1 => k_asm); (case k2 => k_mem))
    | (refine' in_tup_N ?k1 ?k2 rfl (Meth.plain (by with_reducible assumption)) (Meth.in4 (by with_reducible assumption)) ?_; (case k1 => k_asm); (case k2 => k_mem))))
  trivial
set_option maxRecDepth 100000 in
set_option maxHeartbeats 4000000 in
theorem say_leap (w : World) (g y : Int) (t : Tok) (mv : Value) (hM : Meth g mv) (h : 1 ≤ y) (vs : List Value) (kw : List (Str × Value)) (hv : (vs = [.int y t, mv] ∧ kw = []) ∨ (vs = [.int y t] ∧ kw = [(PySem.Str.ofString "method", mv)])) : Say w 58 1 vs kw (fun _ => .bool (lawLong g y)) := by
  unfold Say
  k_fill
  obtain rfl | rfl | rfl := hM.three
  · intros
    rename_i hret
    refine wpAny_call ?_
    k_dflt (refine' code_def (binds := [((PySem.Str.ofString "year"), .int y t), ((PySem.Str.ofString "method"), mv)]) ?k1 ?k2 ?k3 ?k4 ?k5 ?kA ?kF ?kK ?k6 ?k7 ?k8 ?k9 ?kB ?_ ?c2 ?c3 ?c4 ?c5; (case kA => exact rfl); (case kF => exact rfl); (case kK => assumption); (case k1 => k_asm); (case k2 => k_asm); (case k3 => k_asm); (case k4 => k_asm); (case k5 => k_asm); (case k6 => k_is); (case k7 => k_is); (case k8 => ktr_room); (case k9 => obtain ⟨rfl, rfl⟩ | ⟨rfl, rfl⟩ := hv <;> first | exact BindsTo.of_eq rfl | exact binds_K (by k_in) rfl (by k_is) rfl rfl rfl); (case c5 => decide); (case kB => exact locs rfl); (case c2 => exact rfl); (case c3 => exact rfl); (case c4 => exact rfl); k_whole; intro g' L' h' FG' F' N' B' X' T'; (try dsimp only); (try k_lift B'); (try k_fold))
    have F9 : Fr g' L' h' (fun z9 => List.lookup z9 [((PySem.Str.ofString "method"), mv), ((PySem.Str.ofString "year"), .int y t)]) := F'
    clear F'
    refine retok ?_
    intro tk0
    refine letAE ?_
    intro env9 A9
    try dsimp only
    (repeat' (first | (k_unfold; (try dsimp only)) | walk1 | (dsimp only; walk1) | (leave1; (try dsimp only))))
    all_goals (refine' cb_retB (Q := _) hret ?e1 ?e2 ?e3; (case e2 => k_asm); (case e3 => first | k_asm | (refine' cb_drop (by assumption) ?cbS; (case cbS => with_reducible (repeat (first | exact sub_refl | refine sub_cons ?_))))); (case e1 => law_clear; (try dsimp only); (try simp only [lawLong, reduceIte, Int.reduceEq]); (repeat' split) <;> first | with_reducible rfl | omega | (rw [Bool.eq_iff_iff]; simp only [Bool.and_eq_true, Bool.or_eq_true, decide_eq_true_eq, beq_iff_eq, bne_iff_ne, ne_eq, Bool.not_eq_true', decide_eq_false_iff_not, beq_eq_false_iff_ne, Bool.false_eq_true, Bool.true_eq_false, eq_self, true_iff, iff_true, false_iff, iff_false, not_true_eq_false, not_false_eq_true, not_or, not_and] <;> omega)))
  · intros
    rename_i hret
    refine wpAny_call ?_
    k_dflt (refine' code_def (binds := [((PySem.Str.ofString "year"), .int y t), ((PySem.Str.ofString "method"), mv)]) ?k1 ?k2 ?k3 ?k4 ?k5 ?kA ?kF ?kK ?k6 ?k7 ?k8 ?k9 ?kB ?_ ?c2 ?c3 ?c4 ?c5; (case kA => exact rfl); (case kF => exact rfl); (case kK => assumption); (case k1 => k_asm); (case k2 => k_asm); (case k3 => k_asm); (case k4 => k_asm); (case k5 => k_asm); (case k6 => k_is); (case k7 => k_is); (case k8 => ktr_room); (case k9 => obtain ⟨rfl, rfl⟩ | ⟨rfl, rfl⟩ := hv <;> first | exact BindsTo.of_eq rfl | exact binds_K (by k_in) rfl (by k_is) rfl rfl rfl); (case c5 => decide); (case kB => exact locs rfl); (case c2 => exact rfl); (case c3 => exact rfl); (case c4 => exact rfl); k_whole; intro g' L' h' FG' F' N' B' X' T'; (try dsimp only); (try k_lift B'); (try k_fold))
    have F9 : Fr g' L' h' (fun z9 => List.lookup z9 [((PySem.Str.ofString "method"), mv), ((PySem.Str.ofString "year"), .int y t)]) := F'
    clear F'
    refine retok ?_
    intro tk0
    refine letAE ?_
    intro env9 A9
    try dsimp only
    (repeat' (first | (k_unfold; (try dsimp only)) | walk1 | (dsimp only; walk1) | (leave1; (try dsimp only))))
    all_goals (refine' cb_retB (Q := _) hret ?e1 ?e2 ?e3; (case e2 => k_asm); (case e3 => first | k_asm | (refine' cb_drop (by assumption) ?cbS; (case cbS => with_reducible (repeat (first | exact sub_refl | refine sub_cons ?_))))); (case e1 => law_clear; (try dsimp only); (try simp only [lawLong, reduceIte, Int.reduceEq]); (repeat' split) <;> first | with_reducible rfl | omega | (rw [Bool.eq_iff_iff]; simp only [Bool.and_eq_true, Bool.or_eq_true, decide_eq_true_eq, beq_iff_eq, bne_iff_ne, ne_eq, Bool.not_eq_true', decide_eq_false_iff_not, beq_eq_false_iff_ne, Bool.false_eq_true, Bool.true_eq_false, eq_self, true_iff, iff_true, false_iff, iff_false, not_true_eq_false, not_false_eq_true, not_or, not_and] <;> omega)))
  · intros
    rename_i hret
    refine wpAny_call ?_
    k_dflt (refine' code_def (binds := [((PySem.Str.ofString "year"), .int y t), ((PySem.Str.ofString "method"), mv)]) ?k1 ?k2 ?k3 ?k4 ?k5 ?kA ?kF ?kK ?k6 ?k7 ?k8 ?k9 ?kB ?_ ?c2 ?c3 ?c4 ?c5; (case kA => exact rfl); (case kF => exact rfl); (case kK => assumption); (case k1 => k_asm); (case k2 => k_asm); (case k3 => k_asm); (case k4 => k_asm); (case k5 => k_asm); (case k6 => k_is); (case k7 => k_is); (case k8 => ktr_room); (case k9 => obtain ⟨rfl, rfl⟩ | ⟨rfl, rfl⟩ := hv <;> first | exact BindsTo.of_eq rfl | exact binds_K (by k_in) rfl (by k_is) rfl rfl rfl); (case c5 => decide); (case kB => exact locs rfl); (case c2 => exact rfl); (case c3 => exact rfl); (case c4 => exact rfl); k_whole; intro g' L' h' FG' F' N' B' X' T'; (try dsimp only); (try k_lift B'); (try k_fold))
    have F9 : Fr g' L' h' (fun z9 => List.lookup z9 [((PySem.Str.ofString "method"), mv), ((PySem.Str.ofString "year"), .int y t)]) := F'
    clear F'
    refine retok ?_
    intro tk0
    refine letAE ?_
    intro env9 A9
    try dsimp only
    (repeat' (first | (k_unfold; (try dsimp only)) | walk1 | (dsimp only; walk1) | (leave1; (try dsimp only))))
    all_goals (refine' cb_retB (Q := _) hret ?e1 ?e2 ?e3; (case e2 => k_asm); (case e3 => first | k_asm | (refine' cb_drop (by assumption) ?cbS; (case cbS => with_reducible (repeat (first | exact sub_refl | refine sub_cons ?_))))); (case e1 => law_clear; (try dsimp only); (try simp only [lawLong, reduceIte, Int.reduceEq]); (repeat' split) <;> first | with_reducible rfl | omega | (rw [Bool.eq_iff_iff]; simp only [Bool.and_eq_true, Bool.or_eq_true, decide_eq_true_eq, beq_iff_eq, bne_iff_ne, ne_eq, Bool.not_eq_true', decide_eq_false_iff_not, beq_eq_false_iff_ne, Bool.false_eq_true, Bool.true_eq_false, eq_self, true_iff, iff_true, false_iff, iff_false, not_true_eq_false, not_false_eq_true, not_or, not_and] <;> omega)))
theorem say_leap_v (w : World) (g y : Int) (t : Tok) (mv : Value) (hM : Meth g mv) (h : 1 ≤ y) {b : Bool} (hb : lawLong g y = b) (vs : List Value) (kw : List (Str × Value)) (hv : (vs = [.int y t, mv] ∧ kw = []) ∨ (vs = [.int y t] ∧ kw = [(PySem.Str.ofString "method", mv)])) : Say w 58 1 vs kw (fun _ => .bool b) := hb ▸ say_leap w g y t mv hM h vs kw hv
/-- the ways of _to_jd_schematic, its values named -/
theorem sch_facts (g y : Int) (hg : g = 0 ∨ g = 1 ∨ g = 2) (h : 1 ≤ y) : ∃ G y1 c5 y2 c0 y3 c1 y4 c2 : Int,
    ((G = 0 ∧ (g = 0 ∨ (g = 1 ∧ y < 15) ∨ (g = 2 ∧ y < 17)) ∧ y1 = y ∧ c5 = -365 ∧ y2 = y1 ∧ c0 = 0 ∧ y3 = y2 ∧ c1 = 0 ∧ y4 = y3 ∧ c2 = 0) ∨
     (G = 1 ∧ g = 1 ∧ ¬ y < 15 ∧ y1 = y - 13 ∧ c5 = 365 * 12 + 3 ∧ ∃ q0 q1 q2, DivIs y1 4000 q0 ∧ ModIs y1 4000 y2 ∧ c0 = q0 * 1460969 ∧ DivIs y2 400 q1 ∧ ModIs y2 400 y3 ∧ c1 = q1 * 146097 ∧ DivIs y3 100 q2 ∧ ModIs y3 100 y4 ∧ c2 = q2 * 36524) ∨
     (G = 2 ∧ g = 2 ∧ ¬ y < 17 ∧ y1 = y - 17 ∧ c5 = 365 * 16 + 4 ∧ y2 = y1 ∧ c0 = 0 ∧ y3 = y2 ∧ c1 = 0 ∧ ∃ q2, DivIs y3 128 q2 ∧ ModIs y3 128 y4 ∧ c2 = q2 * 46751)) ∧
    0 ≤ y1 ∧ 0 ≤ y2 ∧ 0 ≤ y3 ∧ 0 ≤ y4 ∧ schJ g y = c0 + c1 + c2 + y4 / 4 * 1461 + y4 % 4 * 365 + c5 := by
  by_cases hc : g = 0 ∨ (g = 1 ∧ y < 15) ∨ (g = 2 ∧ y < 17)
  · refine ⟨0, y, -365, y, 0, y, 0, y, 0, .inl ⟨rfl, hc, rfl, rfl, rfl, rfl, rfl, rfl, rfl, rfl⟩, by omega, by omega, by omega, by omega, ?_⟩
    obtain rfl | ⟨rfl, hq⟩ | ⟨rfl, hq⟩ := hc
    · simp only [schJ, conJ, reduceIte]
    · simp only [schJ, conJ, Int.reduceEq, reduceIte, hq]
    · simp only [schJ, conJ, Int.reduceEq, reduceIte, hq]
  · obtain rfl | rfl | rfl := hg
    · exact absurd (.inl rfl) hc
    · have hq : ¬ y < 15 := fun h => hc (.inr (.inl ⟨rfl, h⟩))
      refine ⟨1, _, _, _, _, _, _, _, _, .inr (.inl ⟨rfl, rfl, hq, rfl, rfl, _, _, _, ⟨rfl⟩, ⟨rfl⟩, rfl, ⟨rfl⟩, ⟨rfl⟩, rfl, ⟨rfl⟩, ⟨rfl⟩, rfl⟩), by omega, by omega, by omega, by omega, ?_⟩
      simp only [schJ, romJ, Int.reduceEq, reduceIte, hq]
    · have hq : ¬ y < 17 := fun h => hc (.inr (.inr ⟨rfl, h⟩))
      refine ⟨2, _, _, _, _, _, _, _, _, .inr (.inr ⟨rfl, rfl, hq, rfl, rfl, rfl, rfl, rfl, rfl, _, ⟨rfl⟩, ⟨rfl⟩, rfl⟩), by omega, by omega, by omega, by omega, ?_⟩
      simp only [schJ, madJ, Int.reduceEq, reduceIte, hq]
theorem say_trunc_v (w : World) (a b : Int) (t u : Tok) (ha : 0 ≤ a) (hb : 0 < b) (hb9 : b < 1000000000) {c : Int} (hc : DivIs a b c) : Say w 28 1 [.int a t, .int b u] [] (fun t => .int c t) := hc.out ▸ say_trunc w a b t u ha hb hb9
example : True := by
  k_with "call ref" => (k_here; (with_reducible show wpAny _ _ (call (Value.ref 28) _ _) _ _ _); k_dflt ((first | refine' Say.use (say_trunc_v _ _ _ _ _ (by omega) (by omega) (by omega) (by with_reducible assumption)) ?k1 ?k2 ?k3 ?k4 ?k5 ?kK ?kd ?ku ?_ | refine' Say.use (say_trunc _ _ _ _ _ (by omega) (by omega) (by omega)) ?k1 ?k2 ?k3 ?k4 ?k5 ?kK ?kd ?ku ?_); (case k1 => k_asm); (case k2 => k_asm); (case k3 => k_asm); (case k4 => k_asm); (case k5 => k_asm); (case kK => first | exact rfl | assumption); (case kd => ktr_room); (case ku => ktr_units)); intro ut uh uk uF uN; (try dsimp only); (try k_fold))
  trivial
example : True := by
  k_with "eval Name" => (k_here; (fail_if_success (fail_if_success ((with_reducible show wpAny _ _ (eval (Expr.Name _ _) (envOf _ _ _ _ _)) _ _ _); name_kind "local"))); k_dflt (refine' ld ?k1 ?k2 ?_ ?k3 ?k4 ?k5; (case k1 => k_asm); (case k2 => first | exact rfl | assumption | exact S9.a | exact S9.y0 | exact S9.y1 | exact S9.y2 | exact S9.y5); (case k3 => kernel_rfl!); (case k4 => kernel_rfl!); (case k5 => kernel_rfl!); k_whole))
  trivial
set_option maxRecDepth 100000 in
set_option maxHeartbeats 8000000 in
theorem say_sch (w : World) (g y m d : Int) (t u v : Tok) (mv : Value) (hM : Meth g mv) (h : 1 ≤ y) : Say w 73 2 [.int y t, .int m u, .int d v, mv] [] (fun t => .int (2375840 + schJ g y + (m - 1) * 30 + d - 1) t) := by
  unfold Say
  k_fill
  obtain ⟨G, y1, c5, y2, c0, y3, c1, y4, c2, hw, n1, n2, n3, n4, e⟩ := sch_facts g y hM.three h
  intros
  rename_i hret
  refine wpAny_call ?_
  k_dflt (refine' code_def (binds := [((PySem.Str.ofString "year"), .int y t), ((PySem.Str.ofString "month"), .int m u), ((PySem.Str.ofString "day"), .int d v), ((PySem.Str.ofString "method"), mv)]) ?k1 ?k2 ?k3 ?k4 ?k5 ?kA ?kF ?kK ?k6 ?k7 ?k8 ?k9 ?kB ?_ ?c2 ?c3 ?c4 ?c5; (case kA => exact rfl); (case kF => exact rfl); (case kK => assumption); (case k1 => k_asm); (case k2 => k_asm); (case k3 => k_asm); (case k4 => k_asm); (case k5 => k_asm); (case k6 => k_is); (case k7 => k_is); (case k8 => ktr_room); (case k9 => first | exact BindsTo.of_eq rfl | exact binds_K (by k_in) rfl (by k_is) rfl rfl rfl); (case c5 => decide); (case kB => exact locs rfl); (case c2 => exact rfl); (case c3 => exact rfl); (case c4 => exact rfl); k_whole; intro g' L' h' FG' F' N' B' X' T'; (try dsimp only); (try k_lift B'); (try k_fold))
  have F9 : Fr g' L' h' (fun z9 => List.lookup z9 [((PySem.Str.ofString "method"), mv), ((PySem.Str.ofString "day"), .int d v), ((PySem.Str.ofString "month"), .int m u), ((PySem.Str.ofString "year"), .int y t)]) := F'
  clear F'
  refine retok ?_
  intro tk0
  refine letAE ?_
  intro env9 A9
  try dsimp only
  repeat' ((fail_if_success (with_reducible show wpAny _ _ (exec (Stmt.If _ _ _ _) _) _ _ _)); first | (k_unfold; (try dsimp only)) | walk1 | (dsimp only; walk1) | (leave1; (try dsimp only)))
  refine' cutV (PySem.Str.ofString "method") (Meth G) ?a1 ?a2 ?a3 ?a4
  case a1 => k_asm
  case a2 => k_asm
  case a3 =>
    try k_fold
    clear e
    obtain ⟨rfl, rfl | ⟨rfl, hq⟩ | ⟨rfl, hq⟩, -⟩ | ⟨rfl, rfl, hq, -⟩ | ⟨rfl, rfl, hq, -⟩ := hw
    all_goals (repeat' (first | (k_unfold; (try dsimp only)) | walk1 | (dsimp only; walk1) | (leave1; (try dsimp only))))
    all_goals (refine' cutV_end ?e1 ?e2 ?e3 ?e4 ?e5; (case e1 => k_asm); (case e2 => assumption); (case e3 => with_reducible (repeat (first | exact sub_refl | refine sub_cons ?_))); (case e4 => (intro z; (try dsimp +zetaDelta only); try (by_cases hz1 : z = PySem.Str.ofString "method"; { first | ((repeat rw [if_pos hz1]) <;> exact rfl) | (subst hz1; exact rfl) }; { (repeat rw [if_neg hz1]) <;> (try (exact rfl)) }))); (case e5 => first | assumption | exact Meth.a _))
  clear hM
  intro h9 tk9 mv' hM F9 N9
  try dsimp only
  repeat' ((fail_if_success (with_reducible show wpAny _ _ (exec (Stmt.If _ _ _ _) _) _ _ _)); first | (k_unfold; (try dsimp only)) | walk1 | (dsimp only; walk1) | (leave1; (try dsimp only)))
  obtain ⟨K, hK⟩ : ∃ K : (Str → Option Value) → Prop, K = (fun m' => SF m' (PySem.Str.ofString "year") y1 0 0 0 c5 ∧ m' (PySem.Str.ofString "month") = some (.int m u) ∧ m' (PySem.Str.ofString "day") = some (.int d v) ∧ Opt m' (PySem.Str.ofString "over_cycle_yrs") (PySem.Str.ofString "over_cycle_days") y1 y2 c0 ∧ Opt m' (PySem.Str.ofString "intercal_cycle_yrs") (PySem.Str.ofString "intercal_cycle_days") y2 y3 c1 ∧ Opt m' (PySem.Str.ofString "leap_suppression_yrs") (PySem.Str.ofString "leap_suppression_days") y3 y4 c2) := ⟨_, rfl⟩
  refine' cutK K ?b1 ?b2 ?b3 ?b4
  case b1 => k_asm
  case b2 => k_asm
  case b3 =>
    try k_fold
    clear e
    obtain ⟨rfl, -, rfl, rfl, f2, rfl, f3, rfl, f4, rfl⟩ | ⟨rfl, rfl, -, rfl, rfl, q0, q1, q2, f1, f2, f3, f4, f5, f6, f7, f8, f9⟩ | ⟨rfl, rfl, -, rfl, rfl, f2, rfl, f3, rfl, q2, f4, f5, f6⟩ := hw
    · (repeat' (first | (k_unfold; (try dsimp only)) | walk1 | (dsimp only; walk1) | (leave1; (try dsimp only))))
      all_goals (refine' cutK_end ?e1 ?e2 ?e3 ?e4; (case e1 => k_asm); (case e2 => assumption); (case e3 => with_reducible (repeat (first | exact sub_refl | refine sub_cons ?_))); (case e4 => rw [hK]; exact ⟨⟨rfl, rfl, rfl, rfl, rfl⟩, rfl, rfl, .no rfl f2 (by first | rfl | trivial), .no rfl f3 (by first | rfl | trivial), .no rfl f4 (by first | rfl | trivial)⟩))
    · (repeat' (first | (k_unfold; (try dsimp only)) | walk1 | (dsimp only; walk1) | (leave1; (try dsimp only))))
      all_goals (refine' cutK_end ?e1 ?e2 ?e3 ?e4; (case e1 => k_asm); (case e2 => assumption); (case e3 => with_reducible (repeat (first | exact sub_refl | refine sub_cons ?_))); (case e4 => rw [hK]; exact ⟨⟨rfl, rfl, rfl, rfl, rfl⟩, rfl, rfl, .yes q0 4000 1460969 ⟨by decide, by decide, by decide, by decide⟩ f1 f2 f3 rfl rfl, .yes q1 400 146097 ⟨by decide, by decide, by decide, by decide⟩ f4 f5 f6 rfl rfl, .yes q2 100 36524 ⟨by decide, by decide, by decide, by decide⟩ f7 f8 f9 rfl rfl⟩))
    · (repeat' (first | (k_unfold; (try dsimp only)) | walk1 | (dsimp only; walk1) | (leave1; (try dsimp only))))
      all_goals (refine' cutK_end ?e1 ?e2 ?e3 ?e4; (case e1 => k_asm); (case e2 => assumption); (case e3 => with_reducible (repeat (first | exact sub_refl | refine sub_cons ?_))); (case e4 => rw [hK]; exact ⟨⟨rfl, rfl, rfl, rfl, rfl⟩, rfl, rfl, .no rfl f2 (by first | rfl | trivial), .no rfl f3 (by first | rfl | trivial), .yes q2 128 46751 ⟨by decide, by decide, by decide, by decide⟩ f4 f5 f6 rfl rfl⟩))
  clear hw hM
  intro h9 tk9 m9 K9 F9 N9
  rw [hK] at K9
  clear hK
  obtain ⟨S9, hm0, hd0, h0, h1, h2⟩ := K9
  try dsimp only
  repeat' ((fail_if_success (with_reducible show wpAny _ _ (exec (Stmt.If _ _ _ _) _) _ _ _)); first | (k_unfold; (try dsimp only)) | walk1 | (dsimp only; walk1) | (leave1; (try dsimp only)))
  obtain ⟨K, hK⟩ : ∃ K : (Str → Option Value) → Prop, K = (fun m' => SF m' (PySem.Str.ofString "year") y2 c0 0 0 c5 ∧ m' (PySem.Str.ofString "month") = some (.int m u) ∧ m' (PySem.Str.ofString "day") = some (.int d v) ∧ Opt m' (PySem.Str.ofString "intercal_cycle_yrs") (PySem.Str.ofString "intercal_cycle_days") y2 y3 c1 ∧ Opt m' (PySem.Str.ofString "leap_suppression_yrs") (PySem.Str.ofString "leap_suppression_days") y3 y4 c2) := ⟨_, rfl⟩
  refine' cutK K ?d1 ?d2 ?d3 ?d4
  case d1 => k_asm
  case d2 => k_asm
  case d3 =>
    try k_fold
    clear e
    obtain ⟨h0, rfl, rfl⟩ | ⟨q0, Y, D, ⟨b1, b2, b3, b4⟩, f1, f2, rfl, g1, g2⟩ := h0
    · (repeat' (first | (k_unfold; (try dsimp only)) | walk1 | (dsimp only; walk1) | (leave1; (try dsimp only))))
      all_goals (refine' cutK_end ?e1 ?e2 ?e3 ?e4; (case e1 => k_asm); (case e2 => assumption); (case e3 => with_reducible (repeat (first | exact sub_refl | refine sub_cons ?_))); (case e4 => rw [hK]; exact ⟨S9, hm0, hd0, h1, h2⟩))
    · (repeat' (first | (k_unfold; (try dsimp only)) | walk1 | (dsimp only; walk1) | (leave1; (try dsimp only))))
      all_goals (refine' cutK_end ?e1 ?e2 ?e3 ?e4; (case e1 => k_asm); (case e2 => assumption); (case e3 => with_reducible (repeat (first | exact sub_refl | refine sub_cons ?_))); (case e4 => rw [hK]; exact ⟨⟨rfl, rfl, S9.y1, S9.y2, S9.y5⟩, hm0, hd0, h1.on rfl rfl, h2.on rfl rfl⟩))
  clear h0 h1 h2 hm0 hd0 S9 F9 N9
  intro h9 tk9 m9 K9 F9 N9
  rw [hK] at K9
  clear hK
  obtain ⟨S9, hm0, hd0, h1, h2⟩ := K9
  try dsimp only
  repeat' ((fail_if_success (with_reducible show wpAny _ _ (exec (Stmt.If _ _ _ _) _) _ _ _)); first | (k_unfold; (try dsimp only)) | walk1 | (dsimp only; walk1) | (leave1; (try dsimp only)))
  obtain ⟨K, hK⟩ : ∃ K : (Str → Option Value) → Prop, K = (fun m' => SF m' (PySem.Str.ofString "year") y3 c0 c1 0 c5 ∧ m' (PySem.Str.ofString "month") = some (.int m u) ∧ m' (PySem.Str.ofString "day") = some (.int d v) ∧ Opt m' (PySem.Str.ofString "leap_suppression_yrs") (PySem.Str.ofString "leap_suppression_days") y3 y4 c2) := ⟨_, rfl⟩
  refine' cutK K ?f1 ?f2 ?f3 ?f4
  case f1 => k_asm
  case f2 => k_asm
  case f3 =>
    try k_fold
    clear e
    obtain ⟨h1, rfl, rfl⟩ | ⟨q0, Y, D, ⟨b1, b2, b3, b4⟩, f1, f2, rfl, g1, g2⟩ := h1
    · (repeat' (first | (k_unfold; (try dsimp only)) | walk1 | (dsimp only; walk1) | (leave1; (try dsimp only))))
      all_goals (refine' cutK_end ?e1 ?e2 ?e3 ?e4; (case e1 => k_asm); (case e2 => assumption); (case e3 => with_reducible (repeat (first | exact sub_refl | refine sub_cons ?_))); (case e4 => rw [hK]; exact ⟨S9, hm0, hd0, h2⟩))
    · (repeat' (first | (k_unfold; (try dsimp only)) | walk1 | (dsimp only; walk1) | (leave1; (try dsimp only))))
      all_goals (refine' cutK_end ?e1 ?e2 ?e3 ?e4; (case e1 => k_asm); (case e2 => assumption); (case e3 => with_reducible (repeat (first | exact sub_refl | refine sub_cons ?_))); (case e4 => rw [hK]; exact ⟨⟨rfl, S9.y0, rfl, S9.y2, S9.y5⟩, hm0, hd0, h2.on rfl rfl⟩))
  clear h1 h2 hm0 hd0 S9 F9 N9
  intro h9 tk9 m9 K9 F9 N9
  rw [hK] at K9
  clear hK
  obtain ⟨S9, hm0, hd0, h2⟩ := K9
  try dsimp only
  repeat' ((fail_if_success (with_reducible show wpAny _ _ (exec (Stmt.If _ _ _ _) _) _ _ _)); first | (k_unfold; (try dsimp only)) | walk1 | (dsimp only; walk1) | (leave1; (try dsimp only)))
  obtain ⟨K, hK⟩ : ∃ K : (Str → Option Value) → Prop, K = (fun m' => SF m' (PySem.Str.ofString "year") y4 c0 c1 c2 c5 ∧ m' (PySem.Str.ofString "month") = some (.int m u) ∧ m' (PySem.Str.ofString "day") = some (.int d v)) := ⟨_, rfl⟩
  refine' cutK K ?g1 ?g2 ?g3 ?g4
  case g1 => k_asm
  case g2 => k_asm
  case g3 =>
    try k_fold
    clear e
    obtain ⟨h2, rfl, rfl⟩ | ⟨q0, Y, D, ⟨b1, b2, b3, b4⟩, f1, f2, rfl, g1, g2⟩ := h2
    · (repeat' (first | (k_unfold; (try dsimp only)) | walk1 | (dsimp only; walk1) | (leave1; (try dsimp only))))
      all_goals (refine' cutK_end ?e1 ?e2 ?e3 ?e4; (case e1 => k_asm); (case e2 => assumption); (case e3 => with_reducible (repeat (first | exact sub_refl | refine sub_cons ?_))); (case e4 => rw [hK]; exact ⟨S9, hm0, hd0⟩))
    · (repeat' (first | (k_unfold; (try dsimp only)) | walk1 | (dsimp only; walk1) | (leave1; (try dsimp only))))
      all_goals (refine' cutK_end ?e1 ?e2 ?e3 ?e4; (case e1 => k_asm); (case e2 => assumption); (case e3 => with_reducible (repeat (first | exact sub_refl | refine sub_cons ?_))); (case e4 => rw [hK]; exact ⟨⟨rfl, S9.y0, S9.y1, rfl, S9.y5⟩, hm0, hd0⟩))
  clear h2 hm0 hd0 S9 F9 N9
  intro h9 tk9 m9 K9 F9 N9
  rw [hK] at K9
  clear hK
  obtain ⟨S9, hm0, hd0⟩ := K9
  try dsimp only
  (repeat' (first | (k_unfold; (try dsimp only)) | walk1 | (dsimp only; walk1) | (leave1; (try dsimp only))))
  all_goals (refine' cb_retI (Q := _) hret ?e1 ?e2 ?e3; (case e2 => k_asm); (case e3 => first | k_asm | (refine' cb_drop (by assumption) ?cbS; (case cbS => with_reducible (repeat (first | exact sub_refl | refine sub_cons ?_))))); (case e1 => law_clear; (try dsimp only); rw [e]))
example : True := by
  k_with "call ref" => (k_here; (with_reducible show wpAny _ _ (call (Value.ref 58) _ _) _ _ _); k_dflt ((first | refine' Say.use (say_leap_v _ _ _ _ _ (by first | with_reducible assumption | exact Meth.a _ | exact Meth.b _ | exact Meth.c _ | exact Meth.d _ | exact Meth.e _ | exact Meth.f _) (by assumption) (b := true) (by with_reducible assumption) _ _ (.inr ⟨rfl, rfl⟩)) ?k1 ?k2 ?k3 ?k4 ?k5 ?kK ?kd ?ku ?_ | refine' Say.use (say_leap_v _ _ _ _ _ (by first | with_reducible assumption | exact Meth.a _ | exact Meth.b _ | exact Meth.c _ | exact Meth.d _ | exact Meth.e _ | exact Meth.f _) (by assumption) (b := false) (by with_reducible assumption) _ _ (.inr ⟨rfl, rfl⟩)) ?k1 ?k2 ?k3 ?k4 ?k5 ?kK ?kd ?ku ?_ | refine' Say.use (say_leap_v _ _ _ _ _ (by first | with_reducible assumption | exact Meth.a _ | exact Meth.b _ | exact Meth.c _ | exact Meth.d _ | exact Meth.e _ | exact Meth.f _) (by assumption) (b := true) (by with_reducible assumption) _ _ (.inl ⟨rfl, rfl⟩)) ?k1 ?k2 ?k3 ?k4 ?k5 ?kK ?kd ?ku ?_ | refine' Say.use (say_leap_v _ _ _ _ _ (by first | with_reducible assumption | exact Meth.a _ | exact Meth.b _ | exact Meth.c _ | exact Meth.d _ | exact Meth.e _ | exact Meth.f _) (by assumption) (b := false) (by with_reducible assumption) _ _ (.inl ⟨rfl, rfl⟩)) ?k1 ?k2 ?k3 ?k4 ?k5 ?kK ?kd ?ku ?_); (case k1 => k_asm); (case k2 => k_asm); (case k3 => k_asm); (case k4 => k_asm); (case k5 => k_asm); (case kK => first | exact rfl | assumption); (case kd => ktr_room); (case ku => ktr_units)); intro ut uh uk uF uN; (try dsimp only); (try k_fold))
  trivial
example : True := by
  k_with "call ref" => (k_here; (with_reducible show wpAny _ _ (call (Value.ref 73) _ _) _ _ _); k_dflt ((first | refine' Say.use (say_sch _ _ _ _ _ _ _ _ _ (by first | with_reducible assumption | exact Meth.a _ | exact Meth.b _ | exact Meth.c _ | exact Meth.d _ | exact Meth.e _ | exact Meth.f _) (by assumption)) ?k1 ?k2 ?k3 ?k4 ?k5 ?kK ?kd ?ku ?_); (case k1 => k_asm); (case k2 => k_asm); (case k3 => k_asm); (case k4 => k_asm); (case k5 => k_asm); (case kK => first | exact rfl | assumption); (case kd => ktr_room); (case ku => ktr_units)); intro ut uh uk uF uN; (try dsimp only); (try k_fold))
  trivial
set_option maxRecDepth 100000 in
set_option maxHeartbeats 4000000 in
theorem say_tojd (w : World) (g y m d : Int) (t u v : Tok) (mv : Value) (hM : Meth g mv) (h : 1 ≤ y) (d1 : 1 ≤ d) (d2 : d ≤ 30) (hm : m < 13 ∨ (m = 13 ∧ d ≤ 5 + if lawLong g y = true then 1 else 0)) (vs : List Value) (kw : List (Str × Value)) (hv : (vs = [.int y t, .int m u, .int d v, mv] ∧ kw = []) ∨ (vs = [.int y t, .int m u, .int d v] ∧ kw = [(PySem.Str.ofString "method", mv)])) : Say w 66 4 vs kw (fun t => .int (2375840 + schJ g y + (m - 1) * 30 + d - 1) t) := by
  unfold Say
  k_fill
  obtain hm | ⟨hm, hd⟩ := hm
  · intros
    rename_i hret
    refine wpAny_call ?_
    k_dflt (refine' code_def (binds := [((PySem.Str.ofString "year"), .int y t), ((PySem.Str.ofString "month"), .int m u), ((PySem.Str.ofString "day"), .int d v), ((PySem.Str.ofString "method"), mv)]) ?k1 ?k2 ?k3 ?k4 ?k5 ?kA ?kF ?kK ?k6 ?k7 ?k8 ?k9 ?kB ?_ ?c2 ?c3 ?c4 ?c5; (case kA => exact rfl); (case kF => exact rfl); (case kK => assumption); (case k1 => k_asm); (case k2 => k_asm); (case k3 => k_asm); (case k4 => k_asm); (case k5 => k_asm); (case k6 => k_is); (case k7 => k_is); (case k8 => ktr_room); (case k9 => obtain ⟨rfl, rfl⟩ | ⟨rfl, rfl⟩ := hv <;> first | exact BindsTo.of_eq rfl | exact binds_K (by k_in) rfl (by k_is) rfl rfl rfl); (case c5 => decide); (case kB => exact locs rfl); (case c2 => exact rfl); (case c3 => exact rfl); (case c4 => exact rfl); k_whole; intro g' L' h' FG' F' N' B' X' T'; (try dsimp only); (try k_lift B'); (try k_fold))
    have F9 : Fr g' L' h' (fun z9 => List.lookup z9 [((PySem.Str.ofString "method"), mv), ((PySem.Str.ofString "day"), .int d v), ((PySem.Str.ofString "month"), .int m u), ((PySem.Str.ofString "year"), .int y t)]) := F'
    clear F'
    refine retok ?_
    intro tk0
    refine letAE ?_
    intro env9 A9
    try dsimp only
    (repeat' (first | (k_unfold; (try dsimp only)) | walk1 | (dsimp only; walk1) | (leave1; (try dsimp only))))
    all_goals (refine' cb_retI (Q := _) hret ?e1 ?e2 ?e3; (case e2 => k_asm); (case e3 => first | k_asm | (refine' cb_drop (by assumption) ?cbS; (case cbS => with_reducible (repeat (first | exact sub_refl | refine sub_cons ?_))))); (case e1 => with_reducible rfl))
  · cases hl : lawLong g y
    · replace hd : d ≤ 5 := by simpa [hl] using hd
      intros
      rename_i hret
      refine wpAny_call ?_
      k_dflt (refine' code_def (binds := [((PySem.Str.ofString "year"), .int y t), ((PySem.Str.ofString "month"), .int m u), ((PySem.Str.ofString "day"), .int d v), ((PySem.Str.ofString "method"), mv)]) ?k1 ?k2 ?k3 ?k4 ?k5 ?kA ?kF ?kK ?k6 ?k7 ?k8 ?k9 ?kB ?_ ?c2 ?c3 ?c4 ?c5; (case kA => exact rfl); (case kF => exact rfl); (case kK => assumption); (case k1 => k_asm); (case k2 => k_asm); (case k3 => k_asm); (case k4 => k_asm); (case k5 => k_asm); (case k6 => k_is); (case k7 => k_is); (case k8 => ktr_room); (case k9 => obtain ⟨rfl, rfl⟩ | ⟨rfl, rfl⟩ := hv <;> first | exact BindsTo.of_eq rfl | exact binds_K (by k_in) rfl (by k_is) rfl rfl rfl); (case c5 => decide); (case kB => exact locs rfl); (case c2 => exact rfl); (case c3 => exact rfl); (case c4 => exact rfl); k_whole; intro g' L' h' FG' F' N' B' X' T'; (try dsimp only); (try k_lift B'); (try k_fold))
      have F9 : Fr g' L' h' (fun z9 => List.lookup z9 [((PySem.Str.ofString "method"), mv), ((PySem.Str.ofString "day"), .int d v), ((PySem.Str.ofString "month"), .int m u), ((PySem.Str.ofString "year"), .int y t)]) := F'
      clear F'
      refine retok ?_
      intro tk0
      refine letAE ?_
      intro env9 A9
      try dsimp only
      (repeat' (first | (k_unfold; (try dsimp only)) | walk1 | (dsimp only; walk1) | (leave1; (try dsimp only))))
      all_goals (refine' cb_retI (Q := _) hret ?e1 ?e2 ?e3; (case e2 => k_asm); (case e3 => first | k_asm | (refine' cb_drop (by assumption) ?cbS; (case cbS => with_reducible (repeat (first | exact sub_refl | refine sub_cons ?_))))); (case e1 => with_reducible rfl))
    · replace hd : d ≤ 6 := by rw [hl] at hd; exact hd
      intros
      rename_i hret
      refine wpAny_call ?_
      k_dflt (refine' code_def (binds := [((PySem.Str.ofString "year"), .int y t), ((PySem.Str.ofString "month"), .int m u), ((PySem.Str.ofString "day"), .int d v), ((PySem.Str.ofString "method"), mv)]) ?k1 ?k2 ?k3 ?k4 ?k5 ?kA ?kF ?kK ?k6 ?k7 ?k8 ?k9 ?kB ?_ ?c2 ?c3 ?c4 ?c5; (case kA => exact rfl); (case kF => exact rfl); (case kK => assumption); (case k1 => k_asm); (case k2 => k_asm); (case k3 => k_asm); (case k4 => k_asm); (case k5 => k_asm); (case k6 => k_is); (case k7 => k_is); (case k8 => ktr_room); (case k9 => obtain ⟨rfl, rfl⟩ | ⟨rfl, rfl⟩ := hv <;> first | exact BindsTo.of_eq rfl | exact binds_K (by k_in) rfl (by k_is) rfl rfl rfl); (case c5 => decide); (case kB => exact locs rfl); (case c2 => exact rfl); (case c3 => exact rfl); (case c4 => exact rfl); k_whole; intro g' L' h' FG' F' N' B' X' T'; (try dsimp only); (try k_lift B'); (try k_fold))
      have F9 : Fr g' L' h' (fun z9 => List.lookup z9 [((PySem.Str.ofString "method"), mv), ((PySem.Str.ofString "day"), .int d v), ((PySem.Str.ofString "month"), .int m u), ((PySem.Str.ofString "year"), .int y t)]) := F'
      clear F'
      refine retok ?_
      intro tk0
      refine letAE ?_
      intro env9 A9
      try dsimp only
      (repeat' (first | (k_unfold; (try dsimp only)) | walk1 | (dsimp only; walk1) | (leave1; (try dsimp only))))
      all_goals (refine' cb_retI (Q := _) hret ?e1 ?e2 ?e3; (case e2 => k_asm); (case e3 => first | k_asm | (refine' cb_drop (by assumption) ?cbS; (case cbS => with_reducible (repeat (first | exact sub_refl | refine sub_cons ?_))))); (case e1 => with_reducible rfl))
theorem mdays_one (y m : Int) : 1 ≤ mdays y m := by unfold mdays; (repeat' split) <;> omega
theorem say_gjd_v (w : World) (y m d : Int) (t u v : Tok) (m1 : 1 ≤ m) (m2 : m ≤ 12) (h1 : 1 ≤ d) (h2 : d ≤ mdays y m) {j : Int} (hv : GIs y m d j) : Say w 43 3 [.int y t, .int m u, .int d v] [] (fun t => .int j t) := hv.out ▸ say_gjd w y m d t u v m1 m2 h1 h2
theorem say_jan_v (w : World) (y : Int) (t : Tok) {j : Int} (hv : JanIs y j) : Say w 130 1 [.int y t] [] (fun t => .int j t) := hv.out ▸ say_jan w y t
example : True := by
  k_with "call ref" => (k_here; (with_reducible show wpAny _ _ (call (Value.ref 43) _ _) _ _ _); k_dflt ((first | refine' Say.use (say_gjd_v _ _ _ _ _ _ _ (by omega) (by omega) (by omega) (mdays_one _ _) (by with_reducible assumption)) ?k1 ?k2 ?k3 ?k4 ?k5 ?kK ?kd ?ku ?_ | refine' Say.use (say_gjd _ _ _ _ _ _ _ (by omega) (by omega) (by omega) (by assumption)) ?k1 ?k2 ?k3 ?k4 ?k5 ?kK ?kd ?ku ?_); (case k1 => k_asm); (case k2 => k_asm); (case k3 => k_asm); (case k4 => k_asm); (case k5 => k_asm); (case kK => first | exact rfl | assumption); (case kd => ktr_room); (case ku => ktr_units)); intro ut uh uk uF uN; (try dsimp only); (try k_fold))
  trivial
example : True := by
  k_with "call ref" => (k_here; (with_reducible show wpAny _ _ (call (Value.ref 130) _ _) _ _ _); k_dflt ((first | refine' Say.use (say_jan_v _ _ _ (by with_reducible assumption)) ?k1 ?k2 ?k3 ?k4 ?k5 ?kK ?kd ?ku ?_); (case k1 => k_asm); (case k2 => k_asm); (case k3 => k_asm); (case k4 => k_asm); (case k5 => k_asm); (case kK => first | exact rfl | assumption); (case kd => ktr_room); (case ku => ktr_units)); intro ut uh uk uF uN; (try dsimp only); (try k_fold))
  trivial
example : True := by
  k_with "call ref" => (k_here; (with_reducible show wpAny _ _ (call (Value.ref 21) _ _) _ _ _); k_dflt ((first | refine' Say.use (say_isleap_v _ _ _ (by with_reducible assumption)) ?k1 ?k2 ?k3 ?k4 ?k5 ?kK ?kd ?ku ?_); (case k1 => k_asm); (case k2 => k_asm); (case k3 => k_asm); (case k4 => k_asm); (case k5 => k_asm); (case kK => first | exact rfl | assumption); (case kd => ktr_room); (case ku => ktr_units)); intro ut uh uk uF uN; (try dsimp only); (try k_fold))
  trivial
set_option maxRecDepth 100000 in
set_option maxHeartbeats 8000000 in
theorem say_fromjd (w : World) (n y m d : Int) (t : Tok) (h : IsDate n y m d) : Say3 w 50 5 [.int n t] [] y m d := by
  unfold Say3
  k_fill
  obtain ⟨m1, m2, d1, d2, hg⟩ := h
  rw [mdays_mlen] at d2
  rw [gjd_cum] at hg
  obtain ⟨j0, hj⟩ : ∃ j, gjd y 1 1 = j := ⟨_, rfl⟩
  obtain ⟨jm, hjm⟩ : ∃ j, gjd y m 1 = j := ⟨_, rfl⟩
  rw [hj] at hg
  obtain ⟨x0, x1, x2, c1, c2⟩ := month_core (isLeap y) m d (n - j0) m1 m2 d1 d2 (by omega)
  obtain ⟨q, hq⟩ : ∃ q, DivIs (n - 1721426) 146097 q := ⟨_, ⟨rfl⟩⟩
  obtain ⟨r, hr⟩ : ∃ q, ModIs (n - 1721426) 146097 q := ⟨_, ⟨rfl⟩⟩
  obtain ⟨c, hc⟩ : ∃ q, DivIs r 36524 q := ⟨_, ⟨rfl⟩⟩
  obtain ⟨dc, hdc⟩ : ∃ q, ModIs r 36524 q := ⟨_, ⟨rfl⟩⟩
  obtain ⟨k, hk⟩ : ∃ q, DivIs dc 1461 q := ⟨_, ⟨rfl⟩⟩
  obtain ⟨dk, hdk⟩ : ∃ q, ModIs dc 1461 q := ⟨_, ⟨rfl⟩⟩
  obtain ⟨yi, hyi⟩ : ∃ q, DivIs dk 365 q := ⟨_, ⟨rfl⟩⟩
  have ch := greg_chain n y (n - j0) q r c dc k dk yi (by rw [← hj, gjd_base]; omega) x0 x1 x2 hq.out hr.out hc.out hdc.out hk.out hdk.out hyi.out
  have hd : n - jm + 1 = d := by rw [gjd_cum, hj] at hjm; omega
  obtain ⟨b, hb⟩ : ∃ b, isLeap y = b := ⟨_, rfl⟩
  rw [hb] at c1 c2
  have g1 : GIs y 1 1 j0 := ⟨hj⟩
  have g2 : GIs y m 1 jm := ⟨hjm⟩
  obtain ⟨adj, ha, hm⟩ : ∃ adj : Int, (n - j0 < 58 + (if b = true then 1 else 0) ∧ adj = 0 ∨ ¬ n - j0 < 58 + (if b = true then 1 else 0) ∧ adj = if b = true then 1 else 2) ∧ DivIs ((n - j0 + adj) * 12 + 373) 367 m := by
    by_cases h : n - j0 < 58 + (if b = true then 1 else 0)
    · exact ⟨0, .inl ⟨h, rfl⟩, ⟨by rw [Int.add_zero]; exact c1 h⟩⟩
    · exact ⟨_, .inr ⟨h, rfl⟩, ⟨c2 h⟩⟩
  clear c1 c2 hg d2 x2 hj hjm
  intros
  rename_i hret
  refine wpAny_call ?_
  k_dflt (refine' code_def (binds := [((PySem.Str.ofString "jd"), .int n t)]) ?k1 ?k2 ?k3 ?k4 ?k5 ?kA ?kF ?kK ?k6 ?k7 ?k8 ?k9 ?kB ?_ ?c2 ?c3 ?c4 ?c5; (case kA => exact rfl); (case kF => exact rfl); (case kK => assumption); (case k1 => k_asm); (case k2 => k_asm); (case k3 => k_asm); (case k4 => k_asm); (case k5 => k_asm); (case k6 => k_is); (case k7 => k_is); (case k8 => ktr_room); (case k9 => first | exact BindsTo.of_eq rfl | exact binds_K (by k_in) rfl (by k_is) rfl rfl rfl); (case c5 => decide); (case kB => exact locs rfl); (case c2 => exact rfl); (case c3 => exact rfl); (case c4 => exact rfl); k_whole; intro g' L' h' FG' F' N' B' X' T'; (try dsimp only); (try k_lift B'); (try k_fold))
  have F9 : Fr g' L' h' (fun z9 => List.lookup z9 [((PySem.Str.ofString "jd"), .int n t)]) := F'
  clear F'
  refine retok ?_
  intro tk0
  refine letAE ?_
  intro env9 A9
  try dsimp only
  repeat' ((fail_if_success (with_reducible show wpAny _ _ (exec (Stmt.If _ _ _ _) _) _ _ _)); first | (k_unfold; (try dsimp only)) | walk1 | (dsimp only; walk1) | (leave1; (try dsimp only)))
  refine' cutV (PySem.Str.ofString "year") (fun v => ∃ t, v = Value.int y t) ?a1 ?a2 ?a3 ?a4
  case a1 => k_asm
  case a2 => k_asm
  case a3 =>
    try k_fold
    clear ha hm
    (repeat' (first | (k_unfold; (try dsimp only)) | walk1 | (dsimp only; walk1) | (leave1; (try dsimp only))))
    all_goals (refine' cutV_end ?e1 ?e2 ?e3 ?e4 ?e5; (case e1 => k_asm); (case e2 => assumption); (case e3 => with_reducible (repeat (first | exact sub_refl | refine sub_cons ?_))); (case e4 => (intro z; (try dsimp +zetaDelta only); try (by_cases hz1 : z = PySem.Str.ofString "year"; { first | ((repeat rw [if_pos hz1]) <;> exact rfl) | (subst hz1; exact rfl) }; { (repeat rw [if_neg hz1]) <;> (try (exact rfl)) }))); (case e5 => exact ⟨_, congrArg (fun x => Value.int x _) (by first | omega | rfl)⟩))
  intro h9 tk9 v9 ⟨t9, hv⟩ F9 N9
  subst hv
  clear ch
  try dsimp only
  repeat' ((fail_if_success (with_reducible show wpAny _ _ (exec (Stmt.If _ _ _ _) _) _ _ _)); first | (k_unfold; (try dsimp only)) | walk1 | (dsimp only; walk1) | (leave1; (try dsimp only)))
  refine' cutV (PySem.Str.ofString "leap_adj") (fun v => ∃ t, v = Value.int adj t) ?b1 ?b2 ?b3 ?b4
  case b1 => k_asm
  case b2 => k_asm
  case b3 =>
    try k_fold
    clear hm hb
    obtain ⟨h, rfl⟩ | ⟨h, rfl⟩ := ha
    all_goals
      cases b
      · replace h := (show (if (false : Bool) = true then (1 : Int) else 0) = 0 from rfl) ▸ h
        (repeat' (first | (k_unfold; (try dsimp only)) | walk1 | (dsimp only; walk1) | (leave1; (try dsimp only))))
        all_goals (refine' cutV_end ?e1 ?e2 ?e3 ?e4 ?e5; (case e1 => k_asm); (case e2 => assumption); (case e3 => with_reducible (repeat (first | exact sub_refl | refine sub_cons ?_))); (case e4 => (intro z; (try dsimp +zetaDelta only); try (by_cases hz1 : z = PySem.Str.ofString "leap_adj"; { first | ((repeat rw [if_pos hz1]) <;> exact rfl) | (subst hz1; exact rfl) }; { (repeat rw [if_neg hz1]) <;> (try (exact rfl)) }))); (case e5 => exact ⟨_, congrArg (fun x => Value.int x _) (by first | omega | rfl)⟩))
      · replace h := (show (if (true : Bool) = true then (1 : Int) else 0) = 1 from rfl) ▸ h
        (repeat' (first | (k_unfold; (try dsimp only)) | walk1 | (dsimp only; walk1) | (leave1; (try dsimp only))))
        all_goals (refine' cutV_end ?e1 ?e2 ?e3 ?e4 ?e5; (case e1 => k_asm); (case e2 => assumption); (case e3 => with_reducible (repeat (first | exact sub_refl | refine sub_cons ?_))); (case e4 => (intro z; (try dsimp +zetaDelta only); try (by_cases hz1 : z = PySem.Str.ofString "leap_adj"; { first | ((repeat rw [if_pos hz1]) <;> exact rfl) | (subst hz1; exact rfl) }; { (repeat rw [if_neg hz1]) <;> (try (exact rfl)) }))); (case e5 => exact ⟨_, congrArg (fun x => Value.int x _) (by first | omega | rfl)⟩))
  intro h9 tk9 v9 ⟨t9, hv⟩ F9 N9
  subst hv
  clear ha
  try dsimp only
  (repeat' (first | (k_unfold; (try dsimp only)) | walk1 | (dsimp only; walk1) | (leave1; (try dsimp only))))
  all_goals (refine' Say3.end (Q := _) hret ?e1 ?e2 ?e3 ?e4 ?e5 ?e6 ?e7; (case e1 => k_asm); (case e2 => assumption); (case e3 => k_mem); (case e4 => with_reducible (repeat (first | exact sub_refl | refine sub_cons ?_))); (case e5 => with_reducible rfl); (case e6 => with_reducible rfl); (case e7 => omega))
theorem cum_tab : ∀ k : Fin 12, 1 ≤ k.val → cum true ((k.val : Int) + 1) = cum true k.val + mlen true k.val ∧ cum false ((k.val : Int) + 1) = cum false k.val + mlen false k.val := by decide +kernel
theorem cum_step (L : Bool) (k : Int) (h1 : 1 ≤ k) (h2 : k < 12) : cum L (k + 1) = cum L k + mlen L k := by
  have t := cum_tab ⟨k.toNat, by omega⟩ (by show 1 ≤ k.toNat; omega)
  simp only [Int.toNat_of_nonneg (show 0 ≤ k by omega)] at t
  cases L
  · exact t.2
  · exact t.1
theorem mlen_pos (L : Bool) (k : Int) : 1 ≤ mlen L k := by unfold mlen; (repeat' split) <;> decide
theorem cum_mono (L : Bool) (k m : Int) (h1 : 1 ≤ k) (h : k < m) (h2 : m ≤ 12) : cum L k + mlen L k ≤ cum L m := by
  obtain ⟨j, rfl⟩ : ∃ j : Nat, m = k + 1 + j := ⟨(m - k - 1).toNat, by omega⟩
  clear h
  induction j with
  | zero => rw [show k + 1 + ((0 : Nat) : Int) = k + 1 by omega, cum_step L k h1 (by omega)]; exact Int.le_refl _
  | succ j ih =>
    have := ih (by omega)
    have h3 := mlen_pos L (k + 1 + j)
    rw [show k + 1 + ((j + 1 : Nat) : Int) = k + 1 + j + 1 by omega, cum_step L (k + 1 + j) (by omega) (by omega)]
    omega
theorem item_ml {prog : Program} {w : World} {A : Around} {E : Value → Shared → Prop} {s : Shared} {h₀ : Heap} {L l : Addr} {news : List (Addr × Obj)} {value slice : PySem.Expr} {c : Nat} {k F : Int} {u t1 t2 t3 t4 t5 t6 t7 t8 t9 t10 t11 t12 : Tok} {Q : Value → Shared → Prop}
    (N : News h₀ L s.heap news) (hm : (l, listOf #[.int 31 t1, .int F t2, .int 31 t3, .int 30 t4, .int 31 t5, .int 30 t6, .int 31 t7, .int 31 t8, .int 30 t9, .int 31 t10, .int 30 t11, .int 31 t12] c) ∈ news) {B : Bool} (hF : F = mlen B 2) (k1 : 1 ≤ k) (k2 : k ≤ 12) (h : ∀ t, Q (.int (mlen B k) t) s)
    (hs : subscripted slice false (.ref l) (.int (k - 1) u) = operate [.ref l, .int (k - 1) u] (getItem (.ref l) (.int (k - 1) u)) := by with_unfolding_all rfl) :
    wpAny (model prog w) A (subscriptTail value slice (.ref l) (.int (k - 1) u)) Q E s := by
  subst hF
  have go : ∀ v, #[Value.int 31 t1, .int (mlen B 2) t2, .int 31 t3, .int 30 t4, .int 31 t5, .int 30 t6, .int 31 t7, .int 31 t8, .int 30 t9, .int 31 t10, .int 30 t11, .int 31 t12][(k - 1).toNat]? = some v → Q v s → wpAny (model prog w) A (subscriptTail value slice (.ref l) (.int (k - 1) u)) Q E s := fun v hx hq =>
    have hl : s.heap.IsList l #[.int 31 t1, .int (mlen B 2) t2, .int 31 t3, .int 30 t4, .int 31 t5, .int 30 t6, .int 31 t7, .int 31 t8, .int 30 t9, .int 31 t10, .int 30 t11, .int 31 t12] := ⟨_, (N _ hm).1, rfl, _, rfl⟩
    tail_any hl.typeIs slot_list_getitem.lookup (wpAny_getItem_list hl (by omega) (by omega) hx hq) hs
  clear hs hm N
  obtain ⟨j, rfl⟩ : ∃ j : Nat, k = (j : Int) + 1 := ⟨(k - 1).toNat, by omega⟩
  rw [show ((j : Int) + 1 - 1).toNat = j by omega] at go
  have hj : j < 12 := by omega
  clear k1 k2
  rcases j with _ | _ | _ | _ | _ | _ | _ | _ | _ | _ | _ | _ | j
  rotate_right
  · exact absurd hj (by omega)
  all_goals exact go _ rfl (h _)
section
variable {prog : Program} {w : World} {A : Around} {E : Value → Shared → Prop} {s : Shared} {h₀ : Heap} {L : Addr} {m : Str → Option Value} {news : List (Addr × Obj)}
/-- a while that counts one name up and the other down, to where the first is e -/
theorem loop2 (x1 x2 : Str) {R : Shared → Prop} {e : Int} {D : Int → Int} {M : Str → Option Value} {k0 : Int} {t t' : Tok} (F : Fr h₀ L s.heap M) (N : News h₀ L s.heap news) (h1 : M x1 = some (.int k0 t)) {D0 : Int} (h2 : M x2 = some (.int D0 t')) (hD : D0 = D k0) (hk : k0 ≤ e)
    (turn : ∀ (k D' : Int) (t t' : Tok) (h : Heap) (tk : Nat), k0 ≤ k → k ≤ e → D' = D k → Fr h₀ L h (fun z => if z = x1 then some (.int k t) else if z = x2 then some (.int D' t') else M z) → News h₀ L h news →
      (∀ (k' D' : Int) (t t' : Tok) (h : Heap) (tk : Nat) (M' : Str → Option Value), k < e → k' = k + 1 → D' = D (k + 1) → Fr h₀ L h M' → (∀ z, M' z = if z = x1 then some (.int k' t) else if z = x2 then some (.int D' t') else M z) → News h₀ L h news → R { s with heap := h, toks := tk }) →
      R { s with heap := h, toks := tk }) : R s := by
  subst hD
  have go : ∀ (j : Nat) (k D' : Int) (t t' : Tok) (h : Heap) (tk : Nat), k0 ≤ k → k ≤ e → e - k = j → D' = D k → Fr h₀ L h (fun z => if z = x1 then some (.int k t) else if z = x2 then some (.int D' t') else M z) → News h₀ L h news → R { s with heap := h, toks := tk } := by
    intro j
    induction j with
    | zero =>
      intro k D' t t' h tk a b c d F N
      exact turn k D' t t' h tk a b d F N fun k' _ _ _ _ _ _ q => absurd q (by omega)
    | succ j ih =>
      intro k D' t t' h tk a b c d F N
      refine turn k D' t t' h tk a b d F N fun k' D'' t t' h tk M' q a' b' F hM N => ?_
      subst a'; subst b'
      have eM : M' = fun z => if z = x1 then some (.int (k + 1) t) else if z = x2 then some (.int (D (k + 1)) t') else M z := funext hM
      exact ih (k + 1) (D (k + 1)) t t' h tk (by omega) (by omega) (by omega) rfl (eM ▸ F) N
  refine go (e - k0).toNat k0 (D k0) t t' s.heap s.toks (Int.le_refl _) hk (by omega) rfl ?_ N
  have eM : (fun z => if z = x1 then some (.int k0 t) else if z = x2 then some (.int (D k0) t') else M z) = M := by
    funext z
    by_cases hz : z = x1
    · rw [if_pos hz, hz, h1]
    · rw [if_neg hz]
      by_cases hz : z = x2
      · rw [if_pos hz, hz, h2]
      · rw [if_neg hz]
  rw [eM]; exact F
end
theorem JanIs.of {y v j : Int} (h : gjd y 1 1 = j) (e : v = y) : JanIs v j := ⟨by rw [e, jan_gjd, h]⟩
example : True := by
  k_with "exec While" => (k_here; k_dflt (refine whl_start 14 ?_))
  trivial
example : True := by
  k_with "exec While Compare" => (k_here; k_dflt (refine whl_start 14 ?_))
  trivial
example : True := by
  k_with "exec While Compare cons nil" => (k_here; k_dflt (refine whl_start 14 ?_))
  trivial
example : True := by
  k_with "WhlIf" => (k_here; k_dflt (first
    | (refine WhlIf.yes (by first | with_reducible assumption | (simp only [beq_iff_eq, bne_iff_ne, ne_eq, decide_eq_true_eq]; first | done | omega)) ?_; walk_say "MINE +")
    | (refine WhlIf.no (by first | with_reducible assumption | (simp only [decide_eq_false_iff_not, beq_eq_false_iff_ne, ne_eq]; first | done | omega)) ?_; walk_say "MINE -")))
  trivial
example : True := by
  k_with "subscriptTail Name BinOp ref int" => (k_here; (with_reducible show wpAny _ _ (subscriptTail _ _ (Value.ref _) (Value.int _ _)) _ _ _); (with_unfolding_all refine' item_ml ?k1 ?k2 ?k3 ?k4 ?k5 ?_ ?k6; (case k1 => k_asm); (case k2 => k_mem); (case k3 => with_reducible assumption); (case k4 => with_reducible assumption); (case k5 => omega); (case k6 => with_unfolding_all rfl); k_whole); intro ut; (try dsimp only))
  trivial
set_option maxRecDepth 100000 in
set_option maxHeartbeats 4000000 in
theorem say_ldate (w : World) (n y m d : Int) (t : Tok) (h : IsDate n y m d) : Say3 w 137 3 [.int n t] [] y m d := by
  unfold Say3
  k_fill
  obtain ⟨m1, m2, d1, d2, hg⟩ := h
  rw [mdays_mlen] at d2
  rw [gjd_cum] at hg
  obtain ⟨j1, hj⟩ : ∃ j, gjd y 1 1 = j := ⟨_, rfl⟩
  obtain ⟨j2, hj2⟩ : ∃ j, gjd (y + 1) 1 1 = j := ⟨_, rfl⟩
  obtain ⟨j0, hj0⟩ : ∃ j, gjd (y - 1) 1 1 = j := ⟨_, rfl⟩
  rw [hj] at hg
  have hl := year_len y
  have hl0 := year_len (y - 1)
  rw [show y - 1 + 1 = y by omega, hj, hj0] at hl0
  replace hl0 : j0 < j1 := by split at hl0 <;> omega
  rw [hj, hj2] at hl
  obtain ⟨x0, x1, x2, -, -⟩ := month_core (isLeap y) m d (n - j1) m1 m2 d1 d2 (by omega)
  have y2 : n < j2 := by
    by_cases hx : n - j1 = 365
    · have := x2 hx; rw [this] at hl; simp at hl; omega
    · split at hl <;> omega
  have f2 : j2 - j1 - 337 = mlen (isLeap y) 2 := by
    rw [hl]; simp only [mlen, reduceIte]; split <;> omega
  obtain ⟨e, he⟩ : ∃ e, DivIs ((n - 2451545) * 400) 146097 e := ⟨_, ⟨rfl⟩⟩
  have hest := est_near n y e j1 j2 hj hj2 (by omega) y2 he.out
  clear hl x2
  obtain ⟨v, hv1, hv⟩ : ∃ v, (v = y ∨ v = y - 1) ∧ ((2000 + e = y + 1 ∧ v = y) ∨ (2000 + e ≠ y + 1 ∧ v = 2000 + e)) := by
    by_cases h : 2000 + e = y + 1
    · exact ⟨y, .inl rfl, .inl ⟨h, rfl⟩⟩
    · exact ⟨2000 + e, by omega, .inr ⟨h, rfl⟩⟩
  intros
  rename_i hret
  refine wpAny_call ?_
  k_dflt (refine' code_def (binds := [((PySem.Str.ofString "number"), .int n t)]) ?k1 ?k2 ?k3 ?k4 ?k5 ?kA ?kF ?kK ?k6 ?k7 ?k8 ?k9 ?kB ?_ ?c2 ?c3 ?c4 ?c5; (case kA => exact rfl); (case kF => exact rfl); (case kK => assumption); (case k1 => k_asm); (case k2 => k_asm); (case k3 => k_asm); (case k4 => k_asm); (case k5 => k_asm); (case k6 => k_is); (case k7 => k_is); (case k8 => ktr_room); (case k9 => first | exact BindsTo.of_eq rfl | exact binds_K (by k_in) rfl (by k_is) rfl rfl rfl); (case c5 => decide); (case kB => exact locs rfl); (case c2 => exact rfl); (case c3 => exact rfl); (case c4 => exact rfl); k_whole; intro g' L' h' FG' F' N' B' X' T'; (try dsimp only); (try k_lift B'); (try k_fold))
  have F9 : Fr g' L' h' (fun z9 => List.lookup z9 [((PySem.Str.ofString "number"), .int n t)]) := F'
  clear F'
  refine retok ?_
  intro tk0
  refine letAE ?_
  intro env9 A9
  try dsimp only
  repeat' ((fail_if_success (with_reducible show wpAny _ _ (exec (Stmt.While _ _ _ _) _) _ _ _)); first | (k_unfold; (try dsimp only)) | walk1 | (dsimp only; walk1) | (leave1; (try dsimp only)))
  refine' cutV (PySem.Str.ofString "year") (fun v9 => ∃ t, v9 = Value.int v t) ?a1 ?a2 ?a3 ?a4
  case a1 => k_asm
  case a2 => k_asm
  case a3 =>
    try k_fold
    obtain ⟨b1, b2⟩ | ⟨b1, b2⟩ := hv
    · have g1 : JanIs (2000 + e) j2 := .of hj2 b1
      have g2 : JanIs (2000 + e - 1) j1 := .of hj (by omega)
      (repeat' (first | (k_unfold; (try dsimp only)) | walk1 | (dsimp only; walk1) | (leave1; (try dsimp only))))
      all_goals (refine' cutV_end ?e1 ?e2 ?e3 ?e4 ?e5; (case e1 => k_asm); (case e2 => assumption); (case e3 => with_reducible (repeat (first | exact sub_refl | refine sub_cons ?_))); (case e4 => (intro z; (try dsimp +zetaDelta only); try (by_cases hz1 : z = PySem.Str.ofString "year"; { first | ((repeat rw [if_pos hz1]) <;> exact rfl) | (subst hz1; exact rfl) }; { (repeat rw [if_neg hz1]) <;> (try (exact rfl)) }))); (case e5 => exact ⟨_, congrArg (fun x => Value.int x _) (by first | omega | rfl)⟩))
    · obtain b3 | b3 : 2000 + e = y ∨ 2000 + e = y - 1 := by omega
      · have g1 : JanIs (2000 + e) j1 := .of hj b3
        (repeat' (first | (k_unfold; (try dsimp only)) | walk1 | (dsimp only; walk1) | (leave1; (try dsimp only))))
        all_goals (refine' cutV_end ?e1 ?e2 ?e3 ?e4 ?e5; (case e1 => k_asm); (case e2 => assumption); (case e3 => with_reducible (repeat (first | exact sub_refl | refine sub_cons ?_))); (case e4 => (intro z; (try dsimp +zetaDelta only); try (by_cases hz1 : z = PySem.Str.ofString "year"; { first | ((repeat rw [if_pos hz1]) <;> exact rfl) | (subst hz1; exact rfl) }; { (repeat rw [if_neg hz1]) <;> (try (exact rfl)) }))); (case e5 => exact ⟨_, congrArg (fun x => Value.int x _) (by first | omega | rfl)⟩))
      · have g1 : JanIs (2000 + e) j0 := .of hj0 b3
        (repeat' (first | (k_unfold; (try dsimp only)) | walk1 | (dsimp only; walk1) | (leave1; (try dsimp only))))
        all_goals (refine' cutV_end ?e1 ?e2 ?e3 ?e4 ?e5; (case e1 => k_asm); (case e2 => assumption); (case e3 => with_reducible (repeat (first | exact sub_refl | refine sub_cons ?_))); (case e4 => (intro z; (try dsimp +zetaDelta only); try (by_cases hz1 : z = PySem.Str.ofString "year"; { first | ((repeat rw [if_pos hz1]) <;> exact rfl) | (subst hz1; exact rfl) }; { (repeat rw [if_neg hz1]) <;> (try (exact rfl)) }))); (case e5 => exact ⟨_, congrArg (fun x => Value.int x _) (by first | omega | rfl)⟩))
  intro h9 tk9 v9 ⟨t9, hv9⟩ F9 N9
  subst hv9
  try dsimp only
  repeat' ((fail_if_success (with_reducible show wpAny _ _ (exec (Stmt.While _ _ _ _) _) _ _ _)); first | (k_unfold; (try dsimp only)) | walk1 | (dsimp only; walk1) | (leave1; (try dsimp only)))
  refine' cutV (PySem.Str.ofString "year") (fun v9 => ∃ t, v9 = Value.int y t) ?c1 ?c2 ?c3 ?c4
  case c1 => k_asm
  case c2 => k_asm
  case c3 =>
    try k_fold
    obtain b3 | b3 := hv1
    · have g1 : JanIs (v + 1) j2 := .of hj2 (by omega)
      (repeat' (first | (k_unfold; (try dsimp only)) | walk1 | (dsimp only; walk1) | (leave1; (try dsimp only))))
      all_goals (refine' cutV_end ?e1 ?e2 ?e3 ?e4 ?e5; (case e1 => k_asm); (case e2 => assumption); (case e3 => with_reducible (repeat (first | exact sub_refl | refine sub_cons ?_))); (case e4 => (intro z; (try dsimp +zetaDelta only); try (by_cases hz1 : z = PySem.Str.ofString "year"; { first | ((repeat rw [if_pos hz1]) <;> exact rfl) | (subst hz1; exact rfl) }; { (repeat rw [if_neg hz1]) <;> (try (exact rfl)) }))); (case e5 => exact ⟨_, congrArg (fun x => Value.int x _) (by first | omega | rfl)⟩))
    · have g1 : JanIs (v + 1) j1 := .of hj (by omega)
      have g2 : JanIs (v + 1 + 1) j2 := .of hj2 (by omega)
      (repeat' (first | (k_unfold; (try dsimp only)) | walk1 | (dsimp only; walk1) | (leave1; (try dsimp only))))
      all_goals (refine' cutV_end ?e1 ?e2 ?e3 ?e4 ?e5; (case e1 => k_asm); (case e2 => assumption); (case e3 => with_reducible (repeat (first | exact sub_refl | refine sub_cons ?_))); (case e4 => (intro z; (try dsimp +zetaDelta only); try (by_cases hz1 : z = PySem.Str.ofString "year"; { first | ((repeat rw [if_pos hz1]) <;> exact rfl) | (subst hz1; exact rfl) }; { (repeat rw [if_neg hz1]) <;> (try (exact rfl)) }))); (case e5 => exact ⟨_, congrArg (fun x => Value.int x _) (by first | omega | rfl)⟩))
  intro h9 tk9 v9 ⟨t9, hv9⟩ F9 N9
  subst hv9
  try dsimp only
  have g1 : JanIs y j1 := .of hj rfl
  have g2 : JanIs (y + 1) j2 := .of hj2 rfl
  repeat' ((fail_if_success (with_reducible show wpAny _ _ (exec (Stmt.While _ _ _ _) _) _ _ _)); first | (k_unfold; (try dsimp only)) | walk1 | (dsimp only; walk1) | (leave1; (try dsimp only)))
  refine whl_start 14 ?_
  refine' loop2 (PySem.Str.ofString "month") (PySem.Str.ofString "day") (R := fun s => WhlRest _ _ _ _ _ _ _ _ _ _ s) (e := m) (D := fun k => n - j1 + 1 - cum (isLeap y) k) ?d1 ?d2 ?d3 ?d4 ?d5 ?d6 ?d7
  case d1 => k_asm
  case d2 => k_asm
  case d3 => exact rfl
  case d4 => exact rfl
  case d5 => rw [show cum (isLeap y) 1 = 0 by cases isLeap y <;> rfl]; omega
  case d6 => exact m1
  intro k D' t8 t7 h8 tk8 k1 k2 hD F8 N8 ih
  try dsimp only
  have k3 : k ≤ 12 := by omega
  by_cases hk : k = m
  · subst hk
    have dd : D' = d := by omega
    clear ih
    (repeat' (first | (k_unfold; (try dsimp only)) | walk1 | (dsimp only; walk1) | (leave1; (try dsimp only))))
    all_goals (refine' Say3.end (Q := _) hret ?e1 ?e2 ?e3 ?e4 ?e5 ?e6 ?e7; (case e1 => k_asm); (case e2 => assumption); (case e3 => k_mem); (case e4 => with_reducible (repeat (first | exact sub_refl | refine sub_cons ?_))); (case e5 => with_reducible rfl); (case e6 => omega); (case e7 => omega))
  · have hc := cum_mono (isLeap y) k m k1 (by omega) m2
    have hs := cum_step (isLeap y) k k1 (by omega)
    have hlt : mlen (isLeap y) k < D' := by omega
    refine' whl_turn ?f1 ?f2
    case f1 => passes_own
    case f2 =>
    repeat' ((fail_if_success (with_reducible show WhlRest _ _ _ _ _ _ _ _ _ _ _)); first | (k_unfold; (try dsimp only)) | walk1 | (dsimp only; walk1) | (leave1; (try dsimp only)))
    refine' ih (k + 1) _ _ _ _ _ _ (by omega) rfl ?g1 ?g2 ?g3 ?g4
    case g2 => k_asm
    case g4 => k_asm
    case g3 => (intro z; (try dsimp +zetaDelta only); try (by_cases hz1 : z = PySem.Str.ofString "month"; { first | ((repeat rw [if_pos hz1]) <;> exact rfl) | (subst hz1; exact rfl) }; { (repeat rw [if_neg hz1]) <;> (try (by_cases hz2 : z = PySem.Str.ofString "day"; { first | ((repeat rw [if_pos hz2]) <;> exact rfl) | (subst hz2; exact rfl) }; { (repeat rw [if_neg hz2]) <;> (try (exact rfl)) })) }))
    case g1 => rw [hs]; omega
/-- the ways of _from_jd_schematic, its values named -/
theorem fsch_facts (g y p n : Int) (hg : g = 0 ∨ g = 1 ∨ g = 2) (ho : Okay g y) (p0 : 0 ≤ p) (p1 : p < lawLen g y) (hx : g = 1 → p = 365 → y % 400 ≠ 12) (hn : n = lawFirst g y + p) :
    0 ≤ n - 2375840 ∧ ∃ g' J2 c0 c1 c2 c5 j4 q3 r : Int,
      ((g' = 0 ∧ (g = 0 ∨ (g = 1 ∧ n - 2375840 ≤ 365 * 12 + 3) ∨ (g = 2 ∧ n - 2375840 ≤ 365 * 17 + 4)) ∧ J2 = n - 2375840 + 365 ∧ c0 = 0 ∧ c1 = 0 ∧ c2 = 0 ∧ c5 = -1 ∧ j4 = J2) ∨
       (g' = 1 ∧ g = 1 ∧ ¬ n - 2375840 ≤ 365 * 12 + 3 ∧ ∃ q0 j2 q1 q2, 0 < n - 2375840 - 365 * 12 - 3 ∧ 0 ≤ j2 ∧ 0 ≤ J2 ∧ DivIs (n - 2375840 - 365 * 12 - 3) 1460969 q0 ∧ ModIs (n - 2375840 - 365 * 12 - 3) 1460969 j2 ∧ DivIs j2 146097 q1 ∧ ModIs j2 146097 J2 ∧ DivIs J2 36524 q2 ∧ ModIs J2 36524 j4 ∧
          c0 = q0 * 4000 ∧ c1 = q1 * 400 ∧ c2 = q2 * 100 ∧ c5 = 12) ∨
       (g' = 2 ∧ g = 2 ∧ ¬ n - 2375840 ≤ 365 * 17 + 4 ∧ ∃ q2, 0 ≤ J2 ∧ J2 = n - 2375840 - 365 * 16 - 4 ∧ DivIs J2 46751 q2 ∧ ModIs J2 46751 j4 ∧ c0 = 0 ∧ c1 = 0 ∧ c2 = q2 * 128 ∧ c5 = 16)) ∧
      DivIs j4 1461 q3 ∧ ModIs j4 1461 r ∧ 0 ≤ j4 ∧ 0 ≤ r ∧ (r = 1460 → c0 + c1 + c2 + q3 * 4 + 3 + c5 + 1 = y ∧ p = 365) ∧ (r ≠ 1460 → c0 + c1 + c2 + q3 * 4 + r / 365 + c5 + 1 = y ∧ r % 365 = p) := by
  have y1 : 1 ≤ y := ho.1
  have hb : lawFirst g y = 2375840 + 365 * (y - 1) + lawMore g y := rfl
  have hJ0 : 0 ≤ n - 2375840 := by
    have mo := more_nonneg g y y1 hg
    (first | lia | omega)
  refine ⟨hJ0, ?_⟩
  have con : (g = 0 ∨ (g = 1 ∧ n - 2375840 ≤ 365 * 12 + 3) ∨ (g = 2 ∧ n - 2375840 ≤ 365 * 17 + 4)) → ∃ A r, DivIs (n - 2375840 + 365) 1461 A ∧ ModIs (n - 2375840 + 365) 1461 r ∧ (r = 1460 → A * 4 + 2 = y - 1 ∧ p = 365) ∧ (r ≠ 1460 → A * 4 + r / 365 - 1 = y - 1 ∧ r % 365 = p) ∧ 0 ≤ A ∧ 0 ≤ r := by
    intro hg
    refine ⟨_, _, ⟨rfl⟩, ⟨rfl⟩, ?_⟩
    have hg' : g = 0 ∨ (g = 1 ∧ y ≤ 13 ∧ (y = 13 → p = 0)) ∨ (g = 2 ∧ y ≤ 18 ∧ (y = 18 → p = 0)) := by
      obtain rfl | ⟨rfl, h⟩ | ⟨rfl, h⟩ := hg
      · exact .inl rfl
      · exact .inr (.inl ⟨rfl, con_rom y p y1 p0 (by rw [hn] at h; exact h)⟩)
      · exact .inr (.inr ⟨rfl, con_mad y p y1 p0 (by rw [hn] at h; exact h)⟩)
    have := from_con g y p _ _ hg' y1 p0 p1 rfl rfl
    rw [← hn] at this
    exact this
  by_cases hc : g = 0 ∨ (g = 1 ∧ n - 2375840 ≤ 365 * 12 + 3) ∨ (g = 2 ∧ n - 2375840 ≤ 365 * 17 + 4)
  · obtain ⟨A, r, hA, hr, c1, c2, A0, r0⟩ := con hc
    refine ⟨0, _, 0, 0, 0, -1, _, A, r, .inl ⟨rfl, hc, rfl, rfl, rfl, rfl, rfl, rfl⟩, hA, hr, by (first | lia | omega), r0, fun h => ?_, fun h => ?_⟩
    · have := c1 h; clear c1 c2 con; (first | lia | omega)
    · have := c2 h; clear c1 c2 con; (first | lia | omega)
  · clear con
    obtain rfl | rfl | rfl := hg
    · exact absurd (.inl rfl) hc
    · have hq : ¬ n - 2375840 ≤ 365 * 12 + 3 := fun h => hc (.inr (.inl ⟨rfl, h⟩))
      have hy := rom_con y p y1 p0 p1 (by rw [hn] at hq; exact hq)
      obtain ⟨⟨c1, c2⟩, k0, k1, k2, k3, k4⟩ := from_rom y p _ _ _ _ _ _ _ _ hy.1 hy.2 ho p0 p1 (hx rfl) rfl rfl rfl rfl rfl rfl rfl rfl
      rw [← hn] at c1 c2 k0 k1 k2 k3 k4
      refine ⟨1, _, _, _, _, 12, _, _, _, .inr (.inl ⟨rfl, rfl, hq, _, _, _, _, k0, k1, k2, ⟨rfl⟩, ⟨rfl⟩, ⟨rfl⟩, ⟨rfl⟩, ⟨rfl⟩, ⟨rfl⟩, rfl, rfl, rfl, rfl⟩), ⟨rfl⟩, ⟨rfl⟩, k3, k4, fun h => ?_, fun h => ?_⟩
      · have := c1 h; clear c1 c2; (first | lia | omega)
      · have := c2 h; clear c1 c2; (first | lia | omega)
    · have hq : ¬ n - 2375840 ≤ 365 * 17 + 4 := fun h => hc (.inr (.inr ⟨rfl, h⟩))
      have hy := mad_con y p y1 p0 p1 (by rw [hn] at hq; exact hq)
      obtain ⟨⟨c1, c2⟩, k3, k4⟩ := from_mad y p _ _ _ _ hy ho p0 p1 (by rw [← hn]; (first | lia | omega)) rfl rfl rfl rfl
      rw [← hn] at c1 c2 k3 k4
      refine ⟨2, _, 0, 0, _, 16, _, _, _, .inr (.inr ⟨rfl, rfl, hq, _, by (first | lia | omega), rfl, ⟨rfl⟩, ⟨rfl⟩, rfl, rfl, rfl, rfl⟩), ⟨rfl⟩, ⟨rfl⟩, k3, k4, fun h => ?_, fun h => ?_⟩
      · have := c1 h; clear c1 c2; (first | lia | omega)
      · have := c2 h; clear c1 c2; (first | lia | omega)
example : True := by
  k_with "call ref" => (k_here; (with_reducible show wpAny _ _ (call (Value.ref 28) _ _) _ _ _); k_dflt ((first | refine' Say.use (say_trunc_v _ _ _ _ _ (by omega) (by omega) (by omega) (by with_reducible assumption)) ?k1 ?k2 ?k3 ?k4 ?k5 ?kK ?kd ?ku ?_); (case k1 => k_asm); (case k2 => k_asm); (case k3 => k_asm); (case k4 => k_asm); (case k5 => k_asm); (case kK => first | exact rfl | assumption); (case kd => ktr_room); (case ku => ktr_units)); intro ut uh uk uF uN; (try dsimp only); (try k_fold))
  trivial
set_option maxRecDepth 100000 in
set_option maxHeartbeats 4000000 in
theorem say_fsch (w : World) (g y p n : Int) (t : Tok) (mv : Value) (hM : Meth g mv) (ho : Okay g y) (p0 : 0 ≤ p) (p1 : p < lawLen g y) (hx : g = 1 → p = 365 → y % 400 ≠ 12) (hn : n = lawFirst g y + p) : Say3 w 88 2 [.int n t, mv] [] y (p / 30 + 1) (p % 30 + 1) := by
  unfold Say3
  k_fill
  obtain ⟨hJ0, gm, J2, c0, c1, c2, c5, j4, q3, r, hw, h3, h4, k4, r0, e1, e2⟩ := fsch_facts g y p n hM.three ho p0 p1 hx hn
  have hJ2 : 0 ≤ J2 := by
    obtain ⟨-, -, e, -⟩ | ⟨-, -, -, _, _, _, _, -, -, e, -⟩ | ⟨-, -, -, _, e, -⟩ := hw <;> omega
  have p9 : p ≤ 365 := by unfold lawLen at p1; split at p1 <;> omega
  clear hx hn ho p1
  intros
  rename_i hret
  refine wpAny_call ?_
  k_dflt (refine' code_def (binds := [((PySem.Str.ofString "jd"), .int n t), ((PySem.Str.ofString "method"), mv)]) ?k1 ?k2 ?k3 ?k4 ?k5 ?kA ?kF ?kK ?k6 ?k7 ?k8 ?k9 ?kB ?_ ?c2 ?c3 ?c4 ?c5; (case kA => exact rfl); (case kF => exact rfl); (case kK => assumption); (case k1 => k_asm); (case k2 => k_asm); (case k3 => k_asm); (case k4 => k_asm); (case k5 => k_asm); (case k6 => k_is); (case k7 => k_is); (case k8 => ktr_room); (case k9 => first | exact BindsTo.of_eq rfl | exact binds_K (by k_in) rfl (by k_is) rfl rfl rfl); (case c5 => decide); (case kB => exact locs rfl); (case c2 => exact rfl); (case c3 => exact rfl); (case c4 => exact rfl); k_whole; intro g' L' h' FG' F' N' B' X' T'; (try dsimp only); (try k_lift B'); (try k_fold))
  have F9 : Fr g' L' h' (fun z9 => List.lookup z9 [((PySem.Str.ofString "method"), mv), ((PySem.Str.ofString "jd"), .int n t)]) := F'
  clear F'
  refine retok ?_
  intro tk0
  refine letAE ?_
  intro env9 A9
  try dsimp only
  repeat' ((fail_if_success (with_reducible show wpAny _ _ (exec (Stmt.If (Expr.BoolOp _ _ _) _ _ _) _) _ _ _)); first | (k_unfold; (try dsimp only)) | walk1 | (dsimp only; walk1) | (leave1; (try dsimp only)))
  refine' cutV (PySem.Str.ofString "method") (Meth gm) ?a1 ?a2 ?a3 ?a4
  case a1 => k_asm
  case a2 => k_asm
  case a3 =>
    try k_fold
    clear e1 e2 h3 h4
    obtain ⟨rfl, rfl | ⟨rfl, hq⟩ | ⟨rfl, hq⟩, -⟩ | ⟨rfl, rfl, hq, -⟩ | ⟨rfl, rfl, hq, -⟩ := hw
    all_goals (repeat' (first | (k_unfold; (try dsimp only)) | walk1 | (dsimp only; walk1) | (leave1; (try dsimp only))))
    all_goals (refine' cutV_end ?e1 ?e2 ?e3 ?e4 ?e5; (case e1 => k_asm); (case e2 => assumption); (case e3 => with_reducible (repeat (first | exact sub_refl | refine sub_cons ?_))); (case e4 => (intro z; (try dsimp +zetaDelta only); try (by_cases hz1 : z = PySem.Str.ofString "method"; { first | ((repeat rw [if_pos hz1]) <;> exact rfl) | (subst hz1; exact rfl) }; { (repeat rw [if_neg hz1]) <;> (try (exact rfl)) }))); (case e5 => first | assumption | exact Meth.a _))
  clear hM
  intro h9 tk9 mv' hM F9 N9
  try dsimp only
  repeat' ((fail_if_success (with_reducible show wpAny _ _ (exec (Stmt.If _ _ _ _) _) _ _ _)); first | (k_unfold; (try dsimp only)) | walk1 | (dsimp only; walk1) | (leave1; (try dsimp only)))
  obtain ⟨K, hK⟩ : ∃ K : (Str → Option Value) → Prop, K = (fun m' => SF m' (PySem.Str.ofString "J") J2 c0 c1 0 c5 ∧ (Opt m' (PySem.Str.ofString "leap_suppression_days") (PySem.Str.ofString "leap_suppression_yrs") J2 j4 c2)) := ⟨_, rfl⟩
  refine' cutK K ?b1 ?b2 ?b3 ?b4
  case b1 => k_asm
  case b2 => k_asm
  case b3 =>
    try k_fold
    clear e1 e2 h3 h4
    obtain ⟨rfl, -, rfl, rfl, rfl, rfl, rfl, e3⟩ | ⟨rfl, rfl, -, q0, j2, q1, q2, f1, f2, f3, f4, f5, f6, f7, f8, f9, rfl, rfl, e4, rfl⟩ | ⟨rfl, rfl, -, q2, f1, rfl, f2, f3, rfl, rfl, e4, rfl⟩ := hw
    · (repeat' (first | (k_unfold; (try dsimp only)) | walk1 | (dsimp only; walk1) | (leave1; (try dsimp only))))
      all_goals (refine' cutK_end ?e1 ?e2 ?e3 ?e4; (case e1 => k_asm); (case e2 => assumption); (case e3 => with_reducible (repeat (first | exact sub_refl | refine sub_cons ?_))); (case e4 => rw [hK]; exact ⟨⟨rfl, rfl, rfl, rfl, rfl⟩, .no rfl e3 (by first | rfl | trivial)⟩))
    · (repeat' (first | (k_unfold; (try dsimp only)) | walk1 | (dsimp only; walk1) | (leave1; (try dsimp only))))
      all_goals (refine' cutK_end ?e1 ?e2 ?e3 ?e4; (case e1 => k_asm); (case e2 => assumption); (case e3 => with_reducible (repeat (first | exact sub_refl | refine sub_cons ?_))); (case e4 => rw [hK]; exact ⟨⟨rfl, rfl, rfl, rfl, rfl⟩, .yes q2 36524 100 ⟨by decide, by decide, by decide, by decide⟩ f8 f9 e4 rfl rfl⟩))
    · (repeat' (first | (k_unfold; (try dsimp only)) | walk1 | (dsimp only; walk1) | (leave1; (try dsimp only))))
      all_goals (refine' cutK_end ?e1 ?e2 ?e3 ?e4; (case e1 => k_asm); (case e2 => assumption); (case e3 => with_reducible (repeat (first | exact sub_refl | refine sub_cons ?_))); (case e4 => rw [hK]; exact ⟨⟨rfl, rfl, rfl, rfl, rfl⟩, .yes q2 46751 128 ⟨by decide, by decide, by decide, by decide⟩ f2 f3 e4 rfl rfl⟩))
  clear hw hM
  intro h9 tk9 m9 K9 F9 N9
  rw [hK] at K9
  clear hK
  obtain ⟨S9, hl⟩ := K9
  have J0 : 0 ≤ J2 := hJ2
  try dsimp only
  repeat' ((fail_if_success (with_reducible show wpAny _ _ (exec (Stmt.If _ _ _ _) _) _ _ _)); first | (k_unfold; (try dsimp only)) | walk1 | (dsimp only; walk1) | (leave1; (try dsimp only)))
  obtain ⟨K, hK⟩ : ∃ K : (Str → Option Value) → Prop, K = (fun m' => SF m' (PySem.Str.ofString "J") j4 c0 c1 c2 c5) := ⟨_, rfl⟩
  refine' cutK K ?c1 ?c2 ?c3 ?c4
  case c1 => k_asm
  case c2 => k_asm
  case c3 =>
    try k_fold
    clear e1 e2 h3 h4
    obtain ⟨hl, rfl, rfl⟩ | ⟨q2, D, Y, ⟨D0, D1, Y0, Y1⟩, f1, f2, rfl, hD, hY⟩ := hl
    · (repeat' (first | (k_unfold; (try dsimp only)) | walk1 | (dsimp only; walk1) | (leave1; (try dsimp only))))
      all_goals (refine' cutK_end ?e1 ?e2 ?e3 ?e4; (case e1 => k_asm); (case e2 => assumption); (case e3 => with_reducible (repeat (first | exact sub_refl | refine sub_cons ?_))); (case e4 => rw [hK]; exact S9))
    · (repeat' (first | (k_unfold; (try dsimp only)) | walk1 | (dsimp only; walk1) | (leave1; (try dsimp only))))
      all_goals (refine' cutK_end ?e1 ?e2 ?e3 ?e4; (case e1 => k_asm); (case e2 => assumption); (case e3 => with_reducible (repeat (first | exact sub_refl | refine sub_cons ?_))); (case e4 => rw [hK]; exact ⟨rfl, S9.y0, S9.y1, rfl, S9.y5⟩))
  clear hl S9 F9 N9
  intro h9 tk9 m9 K9 F9 N9
  rw [hK] at K9
  clear hK
  have S9 := K9
  try dsimp only
  repeat' ((fail_if_success (with_reducible show wpAny _ _ (exec (Stmt.If _ _ _ _) _) _ _ _)); first | (k_unfold; (try dsimp only)) | walk1 | (dsimp only; walk1) | (leave1; (try dsimp only)))
  refine' cutV (PySem.Str.ofString "J") (fun v => ∃ t, v = Value.int r t) ?d1 ?d2 ?d3 ?d4
  case d1 => k_asm
  case d2 => k_asm
  case d3 =>
    try k_fold
    clear e1 e2
    (repeat' (first | (k_unfold; (try dsimp only)) | walk1 | (dsimp only; walk1) | (leave1; (try dsimp only))))
    all_goals (refine' cutV_end ?e1 ?e2 ?e3 ?e4 ?e5; (case e1 => k_asm); (case e2 => assumption); (case e3 => with_reducible (repeat (first | exact sub_refl | refine sub_cons ?_))); (case e4 => (intro z; (try dsimp +zetaDelta only); try (by_cases hz1 : z = PySem.Str.ofString "J"; { first | ((repeat rw [if_pos hz1]) <;> exact rfl) | (subst hz1; exact rfl) }; { (repeat rw [if_neg hz1]) <;> (try (exact rfl)) }))); (case e5 => exact ⟨_, congrArg (fun x => Value.int x _) (by omega)⟩))
  intro h9 tk9 v9 ⟨t9, hv⟩ F9 N9
  subst hv
  try dsimp only
  obtain ⟨z, hz, hz2⟩ : ∃ z, DivIs r 365 z ∧ z = r / 365 := ⟨_, ⟨rfl⟩, rfl⟩
  obtain ⟨k, f1, f2, f3⟩ : ∃ k, (r = 1460 → k = z - 1 ∧ p = 365) ∧ (r ≠ 1460 → k = z ∧ r % 365 = p) ∧ c0 + c1 + c2 + q3 * 4 + k + c5 + 1 = y := by
    by_cases h : r = 1460
    · exact ⟨3, fun _ => ⟨by omega, (e1 h).2⟩, fun h' => absurd h h', (e1 h).1⟩
    · exact ⟨z, fun h' => absurd h' h, fun _ => ⟨rfl, (e2 h).2⟩, by rw [hz2]; exact (e2 h).1⟩
  clear e1 e2
  repeat' ((fail_if_success (with_reducible show wpAny _ _ (exec (Stmt.If _ _ _ _) _) _ _ _)); first | (k_unfold; (try dsimp only)) | walk1 | (dsimp only; walk1) | (leave1; (try dsimp only)))
  refine' cutW (PySem.Str.ofString "J") (PySem.Str.ofString "y4") p k ?f1 ?f2 ?f3 ?f4
  case f1 => k_asm
  case f2 => k_asm
  case f3 =>
    try k_fold
    by_cases hr : r = 1460
    · obtain ⟨rfl, rfl⟩ := f1 hr
      (repeat' (first | (k_unfold; (try dsimp only)) | walk1 | (dsimp only; walk1) | (leave1; (try dsimp only))))
      all_goals (refine' cutW_end ?e1 ?e2 ?e3 ?e4 ?e5 ?e6; (case e1 => k_asm); (case e2 => assumption); (case e3 => with_reducible (repeat (first | exact sub_refl | refine sub_cons ?_))); (case e4 => (intro z; (try dsimp +zetaDelta only); try (by_cases hz1 : z = PySem.Str.ofString "J"; { first | ((repeat rw [if_pos hz1]) <;> exact rfl) | (subst hz1; exact rfl) }; { (repeat rw [if_neg hz1]) <;> (try (by_cases hz2 : z = PySem.Str.ofString "y4"; { first | ((repeat rw [if_pos hz2]) <;> exact rfl) | (subst hz2; exact rfl) }; { (repeat rw [if_neg hz2]) <;> (try (exact rfl)) })) }))); (case e5 => omega); (case e6 => omega))
    · obtain ⟨rfl, rfl⟩ := f2 hr
      (repeat' (first | (k_unfold; (try dsimp only)) | walk1 | (dsimp only; walk1) | (leave1; (try dsimp only))))
      all_goals (refine' cutW_end ?e1 ?e2 ?e3 ?e4 ?e5 ?e6; (case e1 => k_asm); (case e2 => assumption); (case e3 => with_reducible (repeat (first | exact sub_refl | refine sub_cons ?_))); (case e4 => (intro z; (try dsimp +zetaDelta only); try (by_cases hz1 : z = PySem.Str.ofString "J"; { first | ((repeat rw [if_pos hz1]) <;> exact rfl) | (subst hz1; exact rfl) }; { (repeat rw [if_neg hz1]) <;> (try (by_cases hz2 : z = PySem.Str.ofString "y4"; { first | ((repeat rw [if_pos hz2]) <;> exact rfl) | (subst hz2; exact rfl) }; { (repeat rw [if_neg hz2]) <;> (try (exact rfl)) })) }))); (case e5 => omega); (case e6 => omega))
  clear f1 f2 hz hz2
  intro h9 tk9 t8 t9 F9 N9
  try dsimp only
  (repeat' (first | (k_unfold; (try dsimp only)) | walk1 | (dsimp only; walk1) | (leave1; (try dsimp only))))
  all_goals (refine' Say3.end (Q := _) hret ?e1 ?e2 ?e3 ?e4 ?e5 ?e6 ?e7; (case e1 => k_asm); (case e2 => assumption); (case e3 => k_mem); (case e4 => with_reducible (repeat (first | exact sub_refl | refine sub_cons ?_))); (case e5 => omega); (case e6 => omega); (case e7 => omega))
example : True := by
  k_with "call ref" => (k_here; (with_reducible show wpAny _ _ (call (Value.ref 66) _ _) _ _ _); k_dflt ((first | refine' Say.use (say_tojd _ _ _ _ _ _ _ _ _ (by first | with_reducible assumption | exact Meth.a _ | exact Meth.b _ | exact Meth.c _ | exact Meth.d _ | exact Meth.e _ | exact Meth.f _) (by assumption) (by assumption) (by assumption) (by assumption) _ _ (.inr ⟨rfl, rfl⟩)) ?k1 ?k2 ?k3 ?k4 ?k5 ?kK ?kd ?ku ?_ | refine' Say.use (say_tojd _ _ _ _ _ _ _ _ _ (by first | with_reducible assumption | exact Meth.a _ | exact Meth.b _ | exact Meth.c _ | exact Meth.d _ | exact Meth.e _ | exact Meth.f _) (by assumption) (by assumption) (by assumption) (by assumption) _ _ (.inl ⟨rfl, rfl⟩)) ?k1 ?k2 ?k3 ?k4 ?k5 ?kK ?kd ?ku ?_); (case k1 => k_asm); (case k2 => k_asm); (case k3 => k_asm); (case k4 => k_asm); (case k5 => k_asm); (case kK => first | exact rfl | assumption); (case kd => ktr_room); (case ku => ktr_units)); intro ut uh uk uF uN; (try dsimp only); (try k_fold))
  trivial
example : True := by
  k_with "call ref" => (k_here; (with_reducible show wpAny _ _ (call (Value.ref 88) _ _) _ _ _); k_dflt ((first | refine' Say3.use (say_fsch _ _ _ _ _ _ _ (by first | with_reducible assumption | exact Meth.a _ | exact Meth.b _ | exact Meth.c _ | exact Meth.d _ | exact Meth.e _ | exact Meth.f _) (by assumption) (by assumption) (by assumption) (by assumption) (by assumption)) ?k1 ?k2 ?k3 ?k4 ?k5 ?kK ?kd ?ku ?_); (case k1 => k_asm); (case k2 => k_asm); (case k3 => k_asm); (case k4 => k_asm); (case k5 => k_asm); (case kK => first | exact rfl | assumption); (case kd => ktr_room); (case ku => ktr_units)); intro uD ut uu uv uc uh uk uF uN; (try dsimp only); (try k_fold))
  trivial
set_option maxRecDepth 100000 in
set_option maxHeartbeats 2000000 in
theorem say_fjd (w : World) (g y p n : Int) (t : Tok) (mv : Value) (hM : Meth g mv) (ho : Okay g y) (p0 : 0 ≤ p) (p1 : p < lawLen g y) (hx : g = 1 → p = 365 → y % 400 ≠ 12) (hn : n = lawFirst g y + p) (vs : List Value) (kw : List (Str × Value)) (hv : (vs = [.int n t, mv] ∧ kw = []) ∨ (vs = [.int n t] ∧ kw = [(PySem.Str.ofString "method", mv)])) : Say3 w 81 3 vs kw y (p / 30 + 1) (p % 30 + 1) := by
  unfold Say3
  k_fill
  intros
  rename_i hret
  refine wpAny_call ?_
  k_dflt (refine' code_def (binds := [((PySem.Str.ofString "jd"), .int n t), ((PySem.Str.ofString "method"), mv)]) ?k1 ?k2 ?k3 ?k4 ?k5 ?kA ?kF ?kK ?k6 ?k7 ?k8 ?k9 ?kB ?_ ?c2 ?c3 ?c4 ?c5; (case kA => exact rfl); (case kF => exact rfl); (case kK => assumption); (case k1 => k_asm); (case k2 => k_asm); (case k3 => k_asm); (case k4 => k_asm); (case k5 => k_asm); (case k6 => k_is); (case k7 => k_is); (case k8 => ktr_room); (case k9 => obtain ⟨rfl, rfl⟩ | ⟨rfl, rfl⟩ := hv <;> first | exact BindsTo.of_eq rfl | exact binds_K (by k_in) rfl (by k_is) rfl rfl rfl); (case c5 => decide); (case kB => exact locs rfl); (case c2 => exact rfl); (case c3 => exact rfl); (case c4 => exact rfl); k_whole; intro g' L' h' FG' F' N' B' X' T'; (try dsimp only); (try k_lift B'); (try k_fold))
  have F9 : Fr g' L' h' (fun z9 => List.lookup z9 [((PySem.Str.ofString "method"), mv), ((PySem.Str.ofString "jd"), .int n t)]) := F'
  clear F'
  refine retok ?_
  intro tk0
  refine letAE ?_
  intro env9 A9
  try dsimp only
  (repeat' (first | (k_unfold; (try dsimp only)) | walk1 | (dsimp only; walk1) | (leave1; (try dsimp only))))
  all_goals (refine' Say3.end (Q := _) hret ?e1 ?e2 ?e3 ?e4 ?e5 ?e6 ?e7; (case e1 => k_asm); (case e2 => assumption); (case e3 => k_mem); (case e4 => with_reducible (repeat (first | exact sub_refl | refine sub_cons ?_))); (case e5 => with_reducible rfl); (case e6 => with_reducible rfl); (case e7 => with_reducible rfl))
example : True := by
  k_with "call ref" => (k_here; (with_reducible show wpAny _ _ (call (Value.ref 81) _ _) _ _ _); k_dflt ((first | refine' Say3.use (say_fjd _ _ _ _ _ _ _ (by first | with_reducible assumption | exact Meth.a _ | exact Meth.b _ | exact Meth.c _ | exact Meth.d _ | exact Meth.e _ | exact Meth.f _) (by assumption) (by assumption) (by assumption) (by assumption) (by assumption) _ _ (.inr ⟨rfl, rfl⟩)) ?k1 ?k2 ?k3 ?k4 ?k5 ?kK ?kd ?ku ?_ | refine' Say3.use (say_fjd _ _ _ _ _ _ _ (by first | with_reducible assumption | exact Meth.a _ | exact Meth.b _ | exact Meth.c _ | exact Meth.d _ | exact Meth.e _ | exact Meth.f _) (by assumption) (by assumption) (by assumption) (by assumption) (by assumption) _ _ (.inl ⟨rfl, rfl⟩)) ?k1 ?k2 ?k3 ?k4 ?k5 ?kK ?kd ?ku ?_); (case k1 => k_asm); (case k2 => k_asm); (case k3 => k_asm); (case k4 => k_asm); (case k5 => k_asm); (case kK => first | exact rfl | assumption); (case kd => ktr_room); (case ku => ktr_units)); intro uD ut uu uv uc uh uk uF uN; (try dsimp only); (try k_fold))
  trivial
example : True := by
  k_with "call ref" => (k_here; (with_reducible show wpAny _ _ (call (Value.ref 43) _ _) _ _ _); k_dflt ((first | refine' Say.use (say_gjd_v _ _ _ _ _ _ _ (by omega) (by omega) (by omega) (by assumption) (by with_reducible assumption)) ?k1 ?k2 ?k3 ?k4 ?k5 ?kK ?kd ?ku ?_); (case k1 => k_asm); (case k2 => k_asm); (case k3 => k_asm); (case k4 => k_asm); (case k5 => k_asm); (case kK => first | exact rfl | assumption); (case kd => ktr_room); (case ku => ktr_units)); intro ut uh uk uF uN; (try dsimp only); (try k_fold))
  trivial
example : True := by
  k_with "call ref" => (k_here; (with_reducible show wpAny _ _ (call (Value.ref 50) _ _) _ _ _); k_dflt ((first | refine' Say3.use (say_fromjd _ _ _ _ _ _ (by assumption)) ?k1 ?k2 ?k3 ?k4 ?k5 ?kK ?kd ?ku ?_); (case k1 => k_asm); (case k2 => k_asm); (case k3 => k_asm); (case k4 => k_asm); (case k5 => k_asm); (case kK => first | exact rfl | assumption); (case kd => ktr_room); (case ku => ktr_units)); intro uD ut uu uv uc uh uk uF uN; (try dsimp only); (try k_fold))
  trivial
set_option maxRecDepth 100000 in
set_option maxHeartbeats 2000000 in
theorem say_tog (w : World) (g y m d Y M D : Int) (t u v : Tok) (mv : Value) (hM : Meth g mv) (h : 1 ≤ y) (d1 : 1 ≤ d) (d2 : d ≤ 30) (hm : m < 13 ∨ (m = 13 ∧ d ≤ 5 + if lawLong g y = true then 1 else 0)) (hd : IsDate (2375840 + schJ g y + (m - 1) * 30 + d - 1) Y M D) : Say3 w 104 6 [.int y t, .int m u, .int d v, mv] [] Y M D := by
  unfold Say3
  k_fill
  intros
  rename_i hret
  refine wpAny_call ?_
  k_dflt (refine' code_def (binds := [((PySem.Str.ofString "an"), .int y t), ((PySem.Str.ofString "mois"), .int m u), ((PySem.Str.ofString "jour"), .int d v), ((PySem.Str.ofString "method"), mv)]) ?k1 ?k2 ?k3 ?k4 ?k5 ?kA ?kF ?kK ?k6 ?k7 ?k8 ?k9 ?kB ?_ ?c2 ?c3 ?c4 ?c5; (case kA => exact rfl); (case kF => exact rfl); (case kK => assumption); (case k1 => k_asm); (case k2 => k_asm); (case k3 => k_asm); (case k4 => k_asm); (case k5 => k_asm); (case k6 => k_is); (case k7 => k_is); (case k8 => ktr_room); (case k9 => first | exact BindsTo.of_eq rfl | exact binds_K (by k_in) rfl (by k_is) rfl rfl rfl); (case c5 => decide); (case kB => exact locs rfl); (case c2 => exact rfl); (case c3 => exact rfl); (case c4 => exact rfl); k_whole; intro g' L' h' FG' F' N' B' X' T'; (try dsimp only); (try k_lift B'); (try k_fold))
  have F9 : Fr g' L' h' (fun z9 => List.lookup z9 [((PySem.Str.ofString "method"), mv), ((PySem.Str.ofString "jour"), .int d v), ((PySem.Str.ofString "mois"), .int m u), ((PySem.Str.ofString "an"), .int y t)]) := F'
  clear F'
  refine retok ?_
  intro tk0
  refine letAE ?_
  intro env9 A9
  try dsimp only
  (repeat' (first | (k_unfold; (try dsimp only)) | walk1 | (dsimp only; walk1) | (leave1; (try dsimp only))))
  all_goals (refine' Say3.end (Q := _) hret ?e1 ?e2 ?e3 ?e4 ?e5 ?e6 ?e7; (case e1 => k_asm); (case e2 => assumption); (case e3 => k_mem); (case e4 => with_reducible (repeat (first | exact sub_refl | refine sub_cons ?_))); (case e5 => with_reducible rfl); (case e6 => with_reducible rfl); (case e7 => with_reducible rfl))
set_option maxRecDepth 100000 in
set_option maxHeartbeats 2000000 in
theorem say_fog (w : World) (g y p n Y M D : Int) (t u v : Tok) (mv : Value) (hM : Meth g mv) (ho : Okay g y) (p0 : 0 ≤ p) (p1 : p < lawLen g y) (hx : g = 1 → p = 365 → y % 400 ≠ 12) (hn : n = lawFirst g y + p) (hd : IsDate n Y M D) : Say3 w 96 5 [.int Y t, .int M u, .int D v, mv] [] y (p / 30 + 1) (p % 30 + 1) := by
  unfold Say3
  k_fill
  obtain ⟨m1, m2, e1, e2, hg⟩ := hd
  have hG : GIs Y M D n := ⟨hg⟩
  intros
  rename_i hret
  refine wpAny_call ?_
  k_dflt (refine' code_def (binds := [((PySem.Str.ofString "year"), .int Y t), ((PySem.Str.ofString "month"), .int M u), ((PySem.Str.ofString "day"), .int D v), ((PySem.Str.ofString "method"), mv)]) ?k1 ?k2 ?k3 ?k4 ?k5 ?kA ?kF ?kK ?k6 ?k7 ?k8 ?k9 ?kB ?_ ?c2 ?c3 ?c4 ?c5; (case kA => exact rfl); (case kF => exact rfl); (case kK => assumption); (case k1 => k_asm); (case k2 => k_asm); (case k3 => k_asm); (case k4 => k_asm); (case k5 => k_asm); (case k6 => k_is); (case k7 => k_is); (case k8 => ktr_room); (case k9 => first | exact BindsTo.of_eq rfl | exact binds_K (by k_in) rfl (by k_is) rfl rfl rfl); (case c5 => decide); (case kB => exact locs rfl); (case c2 => exact rfl); (case c3 => exact rfl); (case c4 => exact rfl); k_whole; intro g' L' h' FG' F' N' B' X' T'; (try dsimp only); (try k_lift B'); (try k_fold))
  have F9 : Fr g' L' h' (fun z9 => List.lookup z9 [((PySem.Str.ofString "method"), mv), ((PySem.Str.ofString "day"), .int D v), ((PySem.Str.ofString "month"), .int M u), ((PySem.Str.ofString "year"), .int Y t)]) := F'
  clear F'
  refine retok ?_
  intro tk0
  refine letAE ?_
  intro env9 A9
  try dsimp only
  (repeat' (first | (k_unfold; (try dsimp only)) | walk1 | (dsimp only; walk1) | (leave1; (try dsimp only))))
  all_goals (refine' Say3.end (Q := _) hret ?e1 ?e2 ?e3 ?e4 ?e5 ?e6 ?e7; (case e1 => k_asm); (case e2 => assumption); (case e3 => k_mem); (case e4 => with_reducible (repeat (first | exact sub_refl | refine sub_cons ?_))); (case e5 => with_reducible rfl); (case e6 => with_reducible rfl); (case e7 => with_reducible rfl))
structure YearIs (g n y : Int) : Prop where
  out : lawYear g n = y
theorem say_lyear_v (w : World) (g y n : Int) (hn : AbsIs y n) (h0 : 0 ≤ n) (t u : Tok) {z : Int} (hz : YearIs g n z) : Say w 123 1 [.int g t, .int y u] [] (fun t => .int z t) := hz.out ▸ say_lyear w g y n hn h0 t u
theorem say_fjd_l (w : World) (g y p : Int) (t : Tok) (mv : Value) (hM : Meth g mv) (ho : Okay g y) (p0 : 0 ≤ p) (p1 : p < lawLen g y) (hx : g = 1 → p = 365 → y % 400 ≠ 12) : Say3 w 81 3 [.int (lawFirst g y + p) t, mv] [] y (p / 30 + 1) (p % 30 + 1) := say_fjd w g y p _ t mv hM ho p0 p1 hx rfl _ _ (.inl ⟨rfl, rfl⟩)
theorem say_fog_l (w : World) (g y p Y M D : Int) (t u v : Tok) (mv : Value) (hM : Meth g mv) (hd : IsDate (lawFirst g y + p) Y M D) (ho : Okay g y) (p0 : 0 ≤ p) (p1 : p < lawLen g y) (hx : g = 1 → p = 365 → y % 400 ≠ 12) : Say3 w 96 5 [.int Y t, .int M u, .int D v, mv] [] y (p / 30 + 1) (p % 30 + 1) := say_fog w g y p _ Y M D t u v mv hM ho p0 p1 hx rfl hd
/-- the values that the law reckons of its script, named -/
theorem ns_names {vs : List Value} {ns : List Int} (_ : IntsAre vs ns) : ∃ n0 g b a4 : Int, AbsIs ((List.take 5 ns ++ [0, 0, 0, 0, 0]).getD (Int.toNat 0) 0) n0 ∧ 0 ≤ n0 ∧ ModIs ((List.take 5 ns ++ [0, 0, 0, 0, 0]).getD (Int.toNat 1) 0) 3 g ∧ (g = 0 ∨ g = 1 ∨ g = 2) ∧
    ModIs ((List.take 5 ns ++ [0, 0, 0, 0, 0]).getD (Int.toNat 2) 0) 2 b ∧ (b = 0 ∨ b = 1) ∧ AbsIs ((List.take 5 ns ++ [0, 0, 0, 0, 0]).getD (Int.toNat 4) 0) a4 ∧ 1 ≤ a4 + 1 ∧
    (∀ L : Int, 0 < L → ∃ p, ModIs ((List.take 5 ns ++ [0, 0, 0, 0, 0]).getD (Int.toNat 3) 0) L p ∧ 0 ≤ p ∧ p < L) :=
  ⟨_, _, _, _, ⟨rfl⟩, by omega, ⟨rfl⟩, by omega, ⟨rfl⟩, by omega, ⟨rfl⟩, by omega, fun L h => ⟨_, ⟨rfl⟩, Int.emod_nonneg _ (by omega), Int.emod_lt_of_pos _ h⟩⟩
/-- what the law's turn asks of a place -/
theorem place_facts (g y p L : Int) (ho : Okay g y) (hg : g = 0 ∨ g = 1 ∨ g = 2) (hL : lawLen g y = L) (p0 : 0 ≤ p) (p1 : p < L) :
    2375840 + schJ g y = lawFirst g y ∧ p < lawLen g y ∧ (p / 30 + 1 < 13 ∨ (p / 30 + 1 = 13 ∧ p % 30 + 1 ≤ 5 + if lawLong g y = true then 1 else 0)) ∧
    ∃ Y M D, IsDate (lawFirst g y + p) Y M D ∧ IsDate (2375840 + schJ g y + (p / 30 + 1 - 1) * 30 + (p % 30 + 1) - 1) Y M D := by
  have hs := sch_first g y hg ho
  refine ⟨hs, by omega, ?_, ?_⟩
  · unfold lawLen at hL
    split at hL
    · rename_i h; rw [if_pos h]; omega
    · rename_i h; rw [if_neg h]; omega
  · obtain ⟨Y, M, D, h⟩ := exists_date (lawFirst g y + p)
    refine ⟨Y, M, D, h, ?_⟩
    rw [hs, show lawFirst g y + (p / 30 + 1 - 1) * 30 + (p % 30 + 1) - 1 = lawFirst g y + p by omega]
    exact h
section
variable {α : Type} {prog : Program} {w : World} {A : Around} {E : Value → Shared → Prop} {s : Shared} {h₀ : Heap} {L : Addr} {m : Str → Option Value} {news : List (Addr × Obj)}
/-- a result of which P holds, its state as it stood -/
def CutA (P : α → Prop) (h₀ : Heap) (L : Addr) (m : Str → Option Value) (news : List (Addr × Obj)) (s : Shared) (v : α) (s' : Shared) : Prop :=
  ∃ h tk, P v ∧ s' = { s with heap := h, toks := tk } ∧ Fr h₀ L h m ∧ News h₀ L h news
theorem cutA (P : α → Prop) {c : Sem α} {Q : α → Shared → Prop} (_F : Fr h₀ L s.heap m) (_N : News h₀ L s.heap news) (h2 : ∀ v h tk, P v → Fr h₀ L h m → News h₀ L h news → Q v { s with heap := h, toks := tk })
    (h1 : wpAny (model prog w) A c (fun b s' => CutA P h₀ L m news s b s') E s) : wpAny (model prog w) A c Q E s := by
  refine wpAny_mono h1 (fun b s' q => ?_) fun _ _ h => h
  obtain ⟨h, tk, p, rfl, F, N⟩ := q
  exact h2 b h tk p F N
theorem cutA_end {P : α → Prop} {b : α} {h : Heap} {tk : Nat} {news' : List (Addr × Obj)} (F : Fr h₀ L h m) (N : News h₀ L h news') (hn : ∀ p ∈ news, p ∈ news') (e : P b) : CutA P h₀ L m news s b { s with heap := h, toks := tk } :=
  ⟨h, tk, e, rfl, F, fun p hp => N p (hn p hp)⟩
theorem news_hd {p : Addr × Obj} {h : Heap} (N : News h₀ L h (p :: news)) : News h₀ L h [p] := fun q hq => N q (by rcases List.mem_cons.mp hq with rfl | hq; exact .head _; cases hq)
theorem news_tl {p : Addr × Obj} {h : Heap} (N : News h₀ L h (p :: news)) : News h₀ L h news := fun q hq => N q (.tail _ hq)
/-- a named difference -/
structure SubIs (a b c : Int) : Prop where
  out : a - b = c
theorem sub_v {a b c : Int} {t u : Tok} {Q : Value → Shared → Prop} {hp : Heap} {gs : Array GenState} {dr : Drawn} {x : Nat} {os : OsState} (hc : SubIs a b c) (h : Q (.int c x) ⟨hp, gs, dr, x + 1, os⟩) : wpAny (model prog w) A (binaryOp .Sub (.int a t) (.int b u)) Q E ⟨hp, gs, dr, x, os⟩ :=
  c_sub (by rw [hc.out]; exact h)
end
example : True := by
  k_with "call ref" => (k_here; (with_reducible show wpAny _ _ (call (Value.ref 123) _ _) _ _ _); k_dflt ((first | refine' Say.use (say_lyear_v _ _ _ _ (by with_reducible assumption) (by assumption) _ _ (by with_reducible assumption)) ?k1 ?k2 ?k3 ?k4 ?k5 ?kK ?kd ?ku ?_); (case k1 => k_asm); (case k2 => k_asm); (case k3 => k_asm); (case k4 => k_asm); (case k5 => k_asm); (case kK => first | exact rfl | assumption); (case kd => ktr_room); (case ku => ktr_units)); intro ut uh uk uF uN; (try dsimp only); (try k_fold))
  trivial
example : True := by
  k_with "call ref" => (k_here; (with_reducible show wpAny _ _ (call (Value.ref 116) _ _) _ _ _); k_dflt ((first | refine' Say.use (say_lfirst _ _ _ _ _ (by assumption) (by assumption)) ?k1 ?k2 ?k3 ?k4 ?k5 ?kK ?kd ?ku ?_); (case k1 => k_asm); (case k2 => k_asm); (case k3 => k_asm); (case k4 => k_asm); (case k5 => k_asm); (case kK => first | exact rfl | assumption); (case kd => ktr_room); (case ku => ktr_units)); intro ut uh uk uF uN; (try dsimp only); (try k_fold))
  trivial
example : True := by
  k_with "call ref" => (k_here; (with_reducible show wpAny _ _ (call (Value.ref 137) _ _) _ _ _); k_dflt ((first | refine' Say3.use (say_ldate _ _ _ _ _ _ (by with_reducible assumption)) ?k1 ?k2 ?k3 ?k4 ?k5 ?kK ?kd ?ku ?_); (case k1 => k_asm); (case k2 => k_asm); (case k3 => k_asm); (case k4 => k_asm); (case k5 => k_asm); (case kK => first | exact rfl | assumption); (case kd => ktr_room); (case ku => ktr_units)); intro uD ut uu uv uc uh uk uF uN; (try dsimp only); (try k_fold))
  trivial
example : True := by
  k_with "call ref" => (k_here; (with_reducible show wpAny _ _ (call (Value.ref 66) _ _) _ _ _); k_dflt ((first | refine' Say.use (say_tojd _ _ _ _ _ _ _ _ _ (by with_reducible assumption) (by assumption) (by omega) (by omega) (by with_reducible assumption) _ _ (.inl ⟨rfl, rfl⟩)) ?k1 ?k2 ?k3 ?k4 ?k5 ?kK ?kd ?ku ?_); (case k1 => k_asm); (case k2 => k_asm); (case k3 => k_asm); (case k4 => k_asm); (case k5 => k_asm); (case kK => first | exact rfl | assumption); (case kd => ktr_room); (case ku => ktr_units)); intro ut uh uk uF uN; (try dsimp only); (try k_fold))
  trivial
example : True := by
  k_with "call ref" => (k_here; (with_reducible show wpAny _ _ (call (Value.ref 104) _ _) _ _ _); k_dflt ((first | refine' Say3.use (say_tog _ _ _ _ _ _ _ _ _ _ _ _ (by with_reducible assumption) (by assumption) (by omega) (by omega) (by with_reducible assumption) (by with_reducible assumption)) ?k1 ?k2 ?k3 ?k4 ?k5 ?kK ?kd ?ku ?_); (case k1 => k_asm); (case k2 => k_asm); (case k3 => k_asm); (case k4 => k_asm); (case k5 => k_asm); (case kK => first | exact rfl | assumption); (case kd => ktr_room); (case ku => ktr_units)); intro uD ut uu uv uc uh uk uF uN; (try dsimp only); (try k_fold))
  trivial
example : True := by
  k_with "call ref" => (k_here; (with_reducible show wpAny _ _ (call (Value.ref 81) _ _) _ _ _); k_dflt ((first | refine' Say3.use (say_fjd_l _ _ _ _ _ _ (by with_reducible assumption) (by with_reducible assumption) (by with_reducible assumption) (by with_reducible assumption) (by with_reducible assumption)) ?k1 ?k2 ?k3 ?k4 ?k5 ?kK ?kd ?ku ?_); (case k1 => k_asm); (case k2 => k_asm); (case k3 => k_asm); (case k4 => k_asm); (case k5 => k_asm); (case kK => first | exact rfl | assumption); (case kd => ktr_room); (case ku => ktr_units)); intro uD ut uu uv uc uh uk uF uN; (try dsimp only); (try k_fold))
  trivial
example : True := by
  k_with "call ref" => (k_here; (with_reducible show wpAny _ _ (call (Value.ref 96) _ _) _ _ _); k_dflt ((first | refine' Say3.use (say_fog_l _ _ _ _ _ _ _ _ _ _ _ (by with_reducible assumption) (by with_reducible assumption) (by with_reducible assumption) (by with_reducible assumption) (by with_reducible assumption) (by with_reducible assumption)) ?k1 ?k2 ?k3 ?k4 ?k5 ?kK ?kd ?ku ?_); (case k1 => k_asm); (case k2 => k_asm); (case k3 => k_asm); (case k4 => k_asm); (case k5 => k_asm); (case kK => first | exact rfl | assumption); (case kd => ktr_room); (case ku => ktr_units)); intro uD ut uu uv uc uh uk uF uN; (try dsimp only); (try k_fold))
  trivial
example : True := by
  k_with "call ref" => (k_here; (with_reducible show wpAny _ _ (call (Value.ref 58) _ _) _ _ _); k_dflt ((first | refine' Say.use (say_leap _ _ _ _ _ (by with_reducible assumption) (by assumption) _ _ (.inl ⟨rfl, rfl⟩)) ?k1 ?k2 ?k3 ?k4 ?k5 ?kK ?kd ?ku ?_); (case k1 => k_asm); (case k2 => k_asm); (case k3 => k_asm); (case k4 => k_asm); (case k5 => k_asm); (case kK => first | exact rfl | assumption); (case kd => ktr_room); (case ku => ktr_units)); intro ut uh uk uF uN; (try dsimp only); (try k_fold))
  trivial
example : True := by
  k_with "binaryOp Sub int int" => (k_here; k_dflt (refine sub_v (by with_reducible assumption) ?_))
  trivial
example : True := by
  k_with "isTrue BoolOp" => (k_here; (with_reducible show wpAny _ _ (isTrue (Expr.BoolOp BoolOp.Or (Expr.Compare (Expr.Name _ _) _ _ _ :: _) _) _ _) _ _ _); k_dflt (refine' cutB ?k0 ?k1 ?k2 ?_ ?_; (case k0 => with_reducible assumption); (case k1 => k_asm); (case k2 => k_asm)); (intro uh uk uF uN; (try dsimp only)); rotate_left; (with_reducible rename TestIs _ => tiX); clear tiX; rotate_right)
  trivial
set_option maxRecDepth 100000 in
set_option maxHeartbeats 4000000 in
theorem law_holds : PySem.Challenge.rw_jk0005_01.Holds := hd (by
  k_go0
  all_goals try k_fold
  obtain ⟨n0, g, b, a4, hn0, n00, hg, hg3, hbm, hb, ha4, h14, p5⟩ := ns_names (by assumption)
  refine letAE ?_
  intro env9 A9
  k_fold
  dsimp only
  repeat' ((fail_if_success (with_reducible show wpAny _ _ (eval (Expr.Subscript (Expr.Subscript (Expr.List _ _) _ _) _ _) _) _ _ _)); first | (k_unfold; (try dsimp only)) | walk1 | (dsimp only; walk1) | (leave1; (try dsimp only)))
  (with_reducible rename News _ _ _ _ => xN)
  replace xN := news_hd xN
  refine' cutA (Meth g) ?n1 ?n2 ?n3 ?n4
  case n1 => k_asm
  case n2 => k_asm
  case n4 =>
    try k_fold
    repeat' ((fail_if_success (with_reducible show wpAny _ _ (subscriptTail _ _ (Value.ref _) (Value.int g _)) _ _ _)); first | (k_unfold; (try dsimp only)) | walk1 | (dsimp only; walk1) | (leave1; (try dsimp only)))
    clear hg
    obtain rfl | rfl | rfl := hg3
    all_goals
      repeat' ((fail_if_success (with_reducible show wpAny _ _ (subscriptTail _ _ (Value.ref _) (Value.int b _)) _ _ _)); first | (k_unfold; (try dsimp only)) | walk1 | (dsimp only; walk1) | (leave1; (try dsimp only)))
      clear hbm
      obtain rfl | rfl := hb
      all_goals (repeat' (first | (k_unfold; (try dsimp only)) | walk1 | (dsimp only; walk1) | (leave1; (try dsimp only))))
      all_goals (refine' cutA_end ?e1 ?e2 ?e3 ?e4; (case e1 => k_asm); (case e2 => assumption); (case e3 => with_reducible (repeat (first | exact sub_refl | refine sub_cons ?_))); (case e4 => first | exact Meth.a _ | exact Meth.b _ | exact Meth.c _ | exact Meth.d _ | exact Meth.e _ | exact Meth.f _))
  intro mv h9 tk9 hM F9 N9
  clear hbm hb
  try dsimp only
  obtain ⟨y, hy⟩ : ∃ y, YearIs g n0 y := ⟨_, ⟨rfl⟩⟩
  have ho : Okay g y := hy.out ▸ okay_lawYear g n0 n00 hg3
  have y1 : 1 ≤ y := ho.1
  obtain ⟨len, hl⟩ : ∃ l, lawLen g y = l := ⟨_, rfl⟩
  repeat' ((fail_if_success (with_reducible show wpAny _ _ (eval (Expr.IfExp _ _ _ _) _) _ _ _)); first | (k_unfold; (try dsimp only)) | walk1 | (dsimp only; walk1) | (leave1; (try dsimp only)))
  refine' cutA (fun v => ∃ t, v = Value.int len t) ?l1 ?l2 ?l3 ?l4
  case l1 => k_asm
  case l2 => k_asm
  case l4 =>
    try k_fold
    cases hL : lawLong g y
    · obtain rfl : len = 365 := by rw [← hl]; simp [lawLen, hL]
      (repeat' (first | (k_unfold; (try dsimp only)) | walk1 | (dsimp only; walk1) | (leave1; (try dsimp only))))
      all_goals (refine' cutA_end ?e1 ?e2 ?e3 ?e4; (case e1 => k_asm); (case e2 => assumption); (case e3 => with_reducible (repeat (first | exact sub_refl | refine sub_cons ?_))); (case e4 => exact ⟨_, rfl⟩))
    · obtain rfl : len = 366 := by rw [← hl]; simp [lawLen, hL]
      (repeat' (first | (k_unfold; (try dsimp only)) | walk1 | (dsimp only; walk1) | (leave1; (try dsimp only))))
      all_goals (refine' cutA_end ?e1 ?e2 ?e3 ?e4; (case e1 => k_asm); (case e2 => assumption); (case e3 => with_reducible (repeat (first | exact sub_refl | refine sub_cons ?_))); (case e4 => exact ⟨_, rfl⟩))
  intro v9 h9 tk9 e9 F9 N9
  obtain ⟨t9, e9⟩ := e9
  subst e9
  try dsimp only
  have l1 : 0 < len ∧ len ≤ 366 := by rw [← hl]; unfold lawLen; split <;> decide
  obtain ⟨l0, l1⟩ := l1
  obtain ⟨p, hp, p0, p1⟩ := p5 len l0
  obtain ⟨q, hq, q0, q1⟩ : ∃ q : Int, SubIs len 1 q ∧ 0 ≤ q ∧ q < len := ⟨_, ⟨rfl⟩, by omega, by omega⟩
  obtain ⟨hs, a1, a2, Y, M, D, a3, a4'⟩ := place_facts g y p len ho hg3 hl p0 p1
  obtain ⟨-, b1, b2, Y2, M2, D2, b3, b4⟩ := place_facts g y q len ho hg3 hl q0 q1
  repeat' ((fail_if_success (with_reducible show wpAny _ _ (exec (Stmt.If (Expr.BoolOp BoolOp.Or (Expr.Compare (Expr.Name _ _) _ _ _ :: _) _) _ _ _) _) _ _ _)); first | (k_unfold; (try dsimp only)) | walk1 | (dsimp only; walk1) | (leave1; (try dsimp only)))
  skip
  refine' cutA (fun f => f = Flow.next) ?cp1 ?cp2 ?cp3 ?cp4
  case cp1 => k_asm
  case cp2 => k_asm
  case cp4 =>
    try k_fold
    by_cases ht : g ≠ 1 ∨ p < 365 ∨ y % 400 ≠ 12
    · have hx : g = 1 → p = 365 → y % 400 ≠ 12 := by omega
      have ti : TestIs true := ⟨⟩
      (repeat' (first | (k_unfold; (try dsimp only)) | walk1 | (dsimp only; walk1) | (leave1; (try dsimp only))))
      all_goals first | (refine' cutB_end ?e1 ?e2 ?e3 ?e4; (case e1 => k_asm); (case e2 => assumption); (case e3 => with_reducible (repeat (first | exact sub_refl | refine sub_cons ?_))); (case e4 => first | rfl | (simp only [Bool.and_eq_true, Bool.or_eq_true, decide_eq_true_eq, beq_iff_eq, bne_iff_ne, ne_eq, Bool.not_eq_true', decide_eq_false_iff_not, beq_eq_false_iff_ne, Bool.false_eq_true, Bool.true_eq_false, eq_self, true_iff, iff_true, false_iff, iff_false, not_true_eq_false, not_false_eq_true, not_or, not_and]; omega))) | (refine' cutA_end ?e1 ?e2 ?e3 ?e4; (case e1 => k_asm); (case e2 => assumption); (case e3 => with_reducible (repeat (first | exact sub_refl | refine sub_cons ?_))); (case e4 => rfl))
    · have ti : TestIs false := ⟨⟩
      (repeat' (first | (k_unfold; (try dsimp only)) | walk1 | (dsimp only; walk1) | (leave1; (try dsimp only))))
      all_goals first | (refine' cutB_end ?e1 ?e2 ?e3 ?e4; (case e1 => k_asm); (case e2 => assumption); (case e3 => with_reducible (repeat (first | exact sub_refl | refine sub_cons ?_))); (case e4 => first | rfl | (simp only [Bool.and_eq_true, Bool.or_eq_true, decide_eq_true_eq, beq_iff_eq, bne_iff_ne, ne_eq, Bool.not_eq_true', decide_eq_false_iff_not, beq_eq_false_iff_ne, Bool.false_eq_true, Bool.true_eq_false, eq_self, true_iff, iff_true, false_iff, iff_false, not_true_eq_false, not_false_eq_true, not_or, not_and]; omega))) | (refine' cutA_end ?e1 ?e2 ?e3 ?e4; (case e1 => k_asm); (case e2 => assumption); (case e3 => with_reducible (repeat (first | exact sub_refl | refine sub_cons ?_))); (case e4 => rfl))
  intro f9 h9 tk9 e9 F9 N9
  subst e9
  try dsimp only
  repeat' ((fail_if_success (with_reducible show wpAny _ _ (exec (Stmt.If (Expr.BoolOp BoolOp.Or (Expr.Compare (Expr.Name _ _) _ _ _ :: _) _) _ _ _) _) _ _ _)); first | (k_unfold; (try dsimp only)) | walk1 | (dsimp only; walk1) | (leave1; (try dsimp only)))
  skip
  refine' cutA (fun f => f = Flow.next) ?cq1 ?cq2 ?cq3 ?cq4
  case cq1 => k_asm
  case cq2 => k_asm
  case cq4 =>
    try k_fold
    by_cases ht : g ≠ 1 ∨ q < 365 ∨ y % 400 ≠ 12
    · have hx : g = 1 → q = 365 → y % 400 ≠ 12 := by omega
      have ti : TestIs true := ⟨⟩
      (repeat' (first | (k_unfold; (try dsimp only)) | walk1 | (dsimp only; walk1) | (leave1; (try dsimp only))))
      all_goals first | (refine' cutB_end ?e1 ?e2 ?e3 ?e4; (case e1 => k_asm); (case e2 => assumption); (case e3 => with_reducible (repeat (first | exact sub_refl | refine sub_cons ?_))); (case e4 => first | rfl | (simp only [Bool.and_eq_true, Bool.or_eq_true, decide_eq_true_eq, beq_iff_eq, bne_iff_ne, ne_eq, Bool.not_eq_true', decide_eq_false_iff_not, beq_eq_false_iff_ne, Bool.false_eq_true, Bool.true_eq_false, eq_self, true_iff, iff_true, false_iff, iff_false, not_true_eq_false, not_false_eq_true, not_or, not_and]; omega))) | (refine' cutA_end ?e1 ?e2 ?e3 ?e4; (case e1 => k_asm); (case e2 => assumption); (case e3 => with_reducible (repeat (first | exact sub_refl | refine sub_cons ?_))); (case e4 => rfl))
    · have ti : TestIs false := ⟨⟩
      (repeat' (first | (k_unfold; (try dsimp only)) | walk1 | (dsimp only; walk1) | (leave1; (try dsimp only))))
      all_goals first | (refine' cutB_end ?e1 ?e2 ?e3 ?e4; (case e1 => k_asm); (case e2 => assumption); (case e3 => with_reducible (repeat (first | exact sub_refl | refine sub_cons ?_))); (case e4 => first | rfl | (simp only [Bool.and_eq_true, Bool.or_eq_true, decide_eq_true_eq, beq_iff_eq, bne_iff_ne, ne_eq, Bool.not_eq_true', decide_eq_false_iff_not, beq_eq_false_iff_ne, Bool.false_eq_true, Bool.true_eq_false, eq_self, true_iff, iff_true, false_iff, iff_false, not_true_eq_false, not_false_eq_true, not_or, not_and]; omega))) | (refine' cutA_end ?e1 ?e2 ?e3 ?e4; (case e1 => k_asm); (case e2 => assumption); (case e3 => with_reducible (repeat (first | exact sub_refl | refine sub_cons ?_))); (case e4 => rfl))
  intro f9 h9 tk9 e9 F9 N9
  subst e9
  try dsimp only
  k_steps)
end Mine
theorem PySem.Challenge.cw_jk0005_01_holds : PySem.Challenge.rw_jk0005_01.Holds := by
  exact Mine.law_holds
