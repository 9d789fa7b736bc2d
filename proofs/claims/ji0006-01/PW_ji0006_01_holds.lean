import PyProof.Rows.All
import Wide.All
import OpenK.AllK
import Wide.FinOn
import PySem.Challenge.RW_ji0006_01
open PySem PySem.W PyProof.Rows
set_option Elab.async false
set_option maxRecDepth 100000
namespace Mine
/-! ## The plain law: what the two roundings and the hints are worth, no program in sight -/
def rmod (r n : Int) : Int := if Int.fmod r n > Int.fdiv n 2 then Int.fmod r n - n else Int.fmod r n
def highB (r a q : Int) : Int := if Int.fmod r q - rmod (Int.fmod r q) a = q - 1 then 0 else Int.fdiv (Int.fmod r q - rmod (Int.fmod r q) a) a
def lowB (r a q : Int) : Int := if Int.fmod r q - rmod (Int.fmod r q) a = q - 1 then rmod (Int.fmod r q) a - 1 else rmod (Int.fmod r q) a
def mkH (z r a q : Int) : Int := if highB r a q ≠ highB (r + z) a q then 1 else 0
def mkO (z0 r1 a q : Int) : Int := if z0 ≤ Int.fdiv a 2 ∨ z0 > q - Int.fdiv a 2 ∨ (z0 = q - Int.fdiv a 2 ∧ r1 = 0) then 0 else 1
def useH (h r a q : Int) : Int := if h = 1 then (if lowB r a q > 0 then Int.fmod (highB r a q + 1) (Int.fdiv (q - 1) a) else Int.fmod (highB r a q - 1) (Int.fdiv (q - 1) a)) else highB r a q
def withinB (number most : Int) : Int := min most (max (0 - most) number)

theorem fmod_of {x q r k : Int} (e : x = r + k * q) (h0 : 0 ≤ r) (h1 : r < q) : Int.fmod x q = r := by
  rw [Int.fmod_eq_emod_of_nonneg _ (by omega), e, Int.add_mul_emod_self_right, Int.emod_eq_of_lt h0 h1]

theorem rmod_of {x a half l k : Int} (ha : a = 2 * half) (hh : 1 ≤ half) (e : x = l + k * a) (h0 : -half < l) (h1 : l ≤ half) : rmod x a = l := by
  have e2 : Int.fdiv a 2 = half := by rw [Int.fdiv_eq_ediv_of_nonneg _ (by omega)]; omega
  unfold rmod
  rw [e2]
  by_cases hl : 0 ≤ l
  · have := fmod_of (q := a) e hl (by omega)
    rw [this, if_neg (by omega)]
  · have e3 : x = (l + a) + (k - 1) * a := by rw [e, Int.sub_mul]; omega
    have := fmod_of (q := a) e3 (by omega) (by omega)
    rw [this, if_pos (by omega)]
    omega

theorem dec_of {x q a half m h l k : Int} (hq : q = m * a + 1) (ha : a = 2 * half) (hh : 1 ≤ half) (_hm : 2 ≤ m) (e : x = h * a + l + q * k) (h0 : 0 ≤ h) (h1 : h < m)
    (hl : (-half < l ∧ l ≤ half) ∨ (l = -half ∧ h = 0)) : highB x a q = h ∧ lowB x a q = l := by
  have ap : 0 < a := by omega
  have hma : (h + 1) * a ≤ m * a := Int.mul_le_mul_of_nonneg_right (by omega) (by omega)
  have h0a : 0 ≤ h * a := Int.mul_nonneg h0 (by omega)
  rw [Int.add_mul, Int.one_mul] at hma
  have key : (Int.fmod x q - rmod (Int.fmod x q) a = q - 1 → h = 0 ∧ l = rmod (Int.fmod x q) a - 1) ∧ (Int.fmod x q - rmod (Int.fmod x q) a ≠ q - 1 → Int.fmod x q - rmod (Int.fmod x q) a = h * a ∧ rmod (Int.fmod x q) a = l) := by
    by_cases hn : 0 ≤ h * a + l
    · have hb : h * a + l < q := by omega
      have hf : Int.fmod x q = h * a + l := fmod_of (k := k) (by rw [e, Int.mul_comm q k]) hn hb
      have hl2 : -half < l ∧ l ≤ half := by
        rcases hl with hl | ⟨hl, rfl⟩
        · exact hl
        · rw [Int.zero_mul] at hn; omega
      have hr : rmod (Int.fmod x q) a = l := rmod_of ha hh (k := h) (by rw [hf]; omega) hl2.1 hl2.2
      rw [hr, hf]
      constructor
      · intro hc; omega
      · intro _; exact ⟨by omega, rfl⟩
    · have hz : h = 0 := by
        rcases hl with hl | hl
        · by_cases hp : 1 ≤ h
          · have : 1 * a ≤ h * a := Int.mul_le_mul_of_nonneg_right hp (by omega)
            omega
          · omega
        · exact hl.2
      subst hz
      rw [Int.zero_mul] at hn h0a e
      have hf : Int.fmod x q = l + q := fmod_of (k := k - 1) (by rw [e, Int.sub_mul, Int.mul_comm q k]; omega) (by omega) (by omega)
      have hr : rmod (Int.fmod x q) a = l + 1 := rmod_of ha hh (k := m) (by rw [hf]; omega) (by omega) (by omega)
      rw [hr, hf]
      constructor
      · intro _; omega
      · intro hc; omega
  unfold highB lowB
  by_cases hc : Int.fmod x q - rmod (Int.fmod x q) a = q - 1
  · obtain ⟨h2, h3⟩ := key.1 hc
    rw [if_pos hc, if_pos hc]
    exact ⟨h2.symm, h3.symm⟩
  · obtain ⟨h2, h3⟩ := key.2 hc
    rw [if_neg hc, if_neg hc]
    exact ⟨by rw [h2]; exact Int.mul_fdiv_cancel _ (by omega), h3⟩

structure Rg (q a small m half : Int) : Prop where
  hq : q = m * a + 1
  ha : a = 2 * half
  hh : 1 ≤ half
  hm : 2 ≤ m
  s0 : 0 ≤ small
  s1 : small < half

theorem Rg.blocks {q a small m half : Int} (R : Rg q a small m half) : Int.fdiv (q - 1) a = m := by
  rw [R.hq, show m * a + 1 - 1 = m * a by omega]
  exact Int.mul_fdiv_cancel _ (by have := R.ha; have := R.hh; omega)
theorem Rg.half {q a small m half : Int} (R : Rg q a small m half) : Int.fdiv a 2 = half := by
  rw [Int.fdiv_eq_ediv_of_nonneg _ (by omega)]
  have := R.ha
  omega

def dueOf (half reach high : Int) : Int := if (-half < reach ∧ reach ≤ half) ∨ (reach = -half ∧ high = 0) then 0 else 1

/-- what stands at the pushed value -/
theorem pushed_at {q a small m half high reach k x : Int} (R : Rg q a small m half) (e : x = high * a + reach + q * k) (h0 : 0 ≤ high) (h1 : high < m) (r0 : -(2 * half) < reach) (r1 : reach < 2 * half) :
    (dueOf half reach high = 0 ∧ highB x a q = high) ∨
    (dueOf half reach high = 1 ∧ 0 < lowB x a q ∧ highB x a q ≠ high ∧ Int.fmod (highB x a q + 1) m = high) ∨
    (dueOf half reach high = 1 ∧ lowB x a q ≤ 0 ∧ highB x a q ≠ high ∧ Int.fmod (highB x a q - 1) m = high) := by
  obtain ⟨hq, ha, hh, hm, _, _⟩ := R
  unfold dueOf
  by_cases c : (-half < reach ∧ reach ≤ half) ∨ (reach = -half ∧ high = 0)
  · rw [if_pos c]
    exact .inl ⟨rfl, (dec_of hq ha hh hm e h0 h1 c).1⟩
  · rw [if_neg c]
    refine .inr ?_
    by_cases up : half < reach
    · refine .inr ?_
      by_cases last : high + 1 < m
      · have d := dec_of (x := x) (h := high + 1) (l := reach - a) (k := k) hq ha hh hm (by rw [e, Int.add_mul]; omega) (by omega) last (.inl ⟨by omega, by omega⟩)
        rw [d.1, d.2]
        exact ⟨rfl, by omega, by omega, fmod_of (k := 0) (by omega) (by omega) (by omega)⟩
      · have hl : m = high + 1 := by omega
        have e2 : x = 0 * a + (reach - a - 1) + q * (k + 1) := by
          rw [e, Int.mul_add, Int.mul_one, Int.zero_mul]
          rw [hl, Int.add_mul] at hq
          omega
        have d := dec_of (x := x) (h := 0) (l := reach - a - 1) (k := k + 1) hq ha hh hm e2 (by omega) (by omega) (by omega)
        rw [d.1, d.2]
        exact ⟨rfl, by omega, by omega, fmod_of (k := -1) (by omega) (by omega) (by omega)⟩
    · refine .inl ?_
      by_cases first : 1 ≤ high
      · have d := dec_of (x := x) (h := high - 1) (l := reach + a) (k := k) hq ha hh hm (by rw [e, Int.sub_mul]; omega) (by omega) (by omega) (.inl ⟨by omega, by omega⟩)
        rw [d.1, d.2]
        exact ⟨rfl, by omega, by omega, fmod_of (k := 0) (by omega) (by omega) (by omega)⟩
      · have hz : high = 0 := by omega
        subst hz
        have e2 : x = (m - 1) * a + (reach + 1 + a) + q * (k - 1) := by
          rw [e, Int.mul_sub, Int.mul_one, Int.zero_mul, Int.sub_mul]
          omega
        have d := dec_of (x := x) (h := m - 1) (l := reach + 1 + a) (k := k - 1) hq ha hh hm e2 (by omega) (by omega) (.inl ⟨by omega, by omega⟩)
        rw [d.1, d.2]
        exact ⟨rfl, by omega, by omega, fmod_of (k := 1) (by omega) (by omega) (by omega)⟩

theorem mkH_of {q a small m half high reach k x z : Int} (R : Rg q a small m half) (e : x = high * a + reach + q * k) (h0 : 0 ≤ high) (h1 : high < m) (r0 : -(2 * half) < reach) (r1 : reach < 2 * half)
    (l0 : -half < reach + z) (l1 : reach + z ≤ half) : mkH z x a q = dueOf half reach high := by
  have d := dec_of (x := x + z) (h := high) (l := reach + z) (k := k) R.hq R.ha R.hh R.hm (by omega) h0 h1 (.inl ⟨l0, l1⟩)
  unfold mkH
  rw [d.1]
  rcases pushed_at R e h0 h1 r0 r1 with p | p | p
  · rw [p.1, p.2, if_neg (by omega)]
  · rw [p.1, if_pos p.2.2.1]
  · rw [p.1, if_pos p.2.2.1]

theorem mkO_of {q a small m half high reach : Int} (R : Rg q a small m half) (h0 : 0 ≤ high) (r0 : -(2 * half) < reach) (r1 : reach < 2 * half) :
    mkO (Int.fmod reach q) high a q = dueOf half reach high := by
  have hb := R.half
  obtain ⟨hq, ha, hh, hm, _, _⟩ := R
  have h2 : 2 * a ≤ m * a := Int.mul_le_mul_of_nonneg_right hm (by omega)
  unfold mkO dueOf
  rw [hb]
  by_cases c : 0 ≤ reach
  · rw [fmod_of (x := reach) (q := q) (r := reach) (k := 0) (by omega) c (by omega)]
    by_cases d : reach ≤ half
    · rw [if_pos (.inl d), if_pos (by omega)]
    · rw [if_neg (by omega), if_neg (by omega)]
  · rw [fmod_of (x := reach) (q := q) (r := reach + q) (k := -1) (by omega) (by omega) (by omega)]
    by_cases d : (-half < reach ∧ reach ≤ half) ∨ (reach = -half ∧ high = 0)
    · rw [if_pos d, if_pos (by omega)]
    · rw [if_neg d, if_neg (by omega)]

theorem useH_of {q a small m half high reach k x : Int} (R : Rg q a small m half) (e : x = high * a + reach + q * k) (h0 : 0 ≤ high) (h1 : high < m) (r0 : -(2 * half) < reach) (r1 : reach < 2 * half) :
    useH (dueOf half reach high) x a q = high ∧ useH (1 - dueOf half reach high) x a q ≠ high := by
  have hb := R.blocks
  have hm := R.hm
  unfold useH
  rw [hb]
  rcases pushed_at R e h0 h1 r0 r1 with p | p | p
  · rw [p.1, p.2, if_neg (by omega), if_pos (by omega)]
    refine ⟨rfl, ?_⟩
    by_cases c : lowB x a q > 0
    · rw [if_pos c]
      intro f
      by_cases g : high + 1 < m
      · rw [fmod_of (k := 0) (r := high + 1) (by omega) (by omega) (by omega)] at f; omega
      · rw [fmod_of (k := 1) (r := 0) (by omega) (by omega) (by omega)] at f; omega
    · rw [if_neg c]
      intro f
      by_cases g : 0 ≤ high - 1
      · rw [fmod_of (k := 0) (r := high - 1) (by omega) (by omega) (by omega)] at f; omega
      · rw [fmod_of (k := -1) (r := m - 1) (by omega) (by omega) (by omega)] at f; omega
  · have n : ¬ ((1 : Int) - 1 = 1) := by omega
    have c : lowB x a q > 0 := p.2.1
    rw [p.1, if_pos rfl, if_pos c, if_neg n]
    exact ⟨p.2.2.2, p.2.2.1⟩
  · have n : ¬ ((1 : Int) - 1 = 1) := by omega
    have c : ¬ lowB x a q > 0 := by omega
    rw [p.1, if_pos rfl, if_neg c, if_neg n]
    exact ⟨p.2.2.2, p.2.2.1⟩

/-! ## Facts for the walk -/
theorem fmod_in {x n : Int} (h : 0 < n) : 0 ≤ Int.fmod x n ∧ Int.fmod x n < n := by
  rw [Int.fmod_eq_emod_of_nonneg _ (by omega)]
  exact ⟨Int.emod_nonneg _ (by omega), Int.emod_lt_of_pos _ h⟩
theorem within_in {x n : Int} (h : 0 ≤ n) : -n ≤ withinB x n ∧ withinB x n ≤ n := by
  unfold withinB
  omega
/-- small enough for any product -/
def Sm (x : Int) : Prop := -(2 ^ 400) < x ∧ x < 2 ^ 400
theorem Sm.ok {a b : Int} (ha : Sm a) (hb : Sm b) : IntMulOk a b := by
  have f : ∀ x : Int, Sm x → Builtin.Int.intBits x ≤ 2 ^ 20 := by
    intro x hx
    obtain ⟨h1, h2⟩ := hx
    refine Nat.le_trans (intBits_le (k := 400) ?_) (by decide)
    omega
  exact .of_bits (f a ha) (f b hb)
theorem Sm.of {a lo hi : Int} (h1 : lo ≤ a) (h2 : a ≤ hi) (s1 : Sm lo) (s2 : Sm hi) : Sm a := ⟨Int.lt_of_lt_of_le s1.1 h1, Int.lt_of_le_of_lt h2 s2.2⟩

/-- an item of a written menu of three -/
theorem menu_in {a b c : Int} {i : Nat} (hi : i < 3) (ha : 9 ≤ a ∧ a ≤ 10 ^ 30) (hb : 9 ≤ b ∧ b ≤ 10 ^ 30) (hc : 9 ≤ c ∧ c ≤ 10 ^ 30) : 9 ≤ [a, b, c].getD i 0 ∧ [a, b, c].getD i 0 ≤ 10 ^ 30 := by
  match i, hi with
  | 0, _ => exact ha
  | 1, _ => exact hb
  | 2, _ => exact hc
theorem menu12 {i : Nat} (hi : i < 3) : 9 ≤ [12, 12, (10 : Int) ^ Int.toNat 30].getD i 0 ∧ [12, 12, (10 : Int) ^ Int.toNat 30].getD i 0 ≤ 10 ^ 30 := menu_in hi (by decide) (by decide) (by decide)
theorem menu9 {i : Nat} (hi : i < 3) : 9 ≤ [9, 9, (10 : Int) ^ Int.toNat 30].getD i 0 ∧ [9, 9, (10 : Int) ^ Int.toNat 30].getD i 0 ≤ 10 ^ 30 := menu_in hi (by decide) (by decide) (by decide)
theorem kind_in {k : Int} (h : 0 ≤ k ∧ k < 6) (h3 : ¬ k < 3) : (k - 3).toNat < 3 := by omega

structure HalfR (v : Int) : Prop where
  lo : 1 ≤ v
  hi : v ≤ 10 ^ 30
theorem half_of {X : Int} {i : Nat} (hi : i < 3) : HalfR (1 + Int.fmod X ([12, 12, (10 : Int) ^ Int.toNat 30].getD i 0)) := by
  have h := menu12 hi
  have g := fmod_in (x := X) (n := [12, 12, (10 : Int) ^ Int.toNat 30].getD i 0) (by omega)
  constructor <;> omega
theorem blocks_of {X : Int} {i : Nat} (hi : i < 3) : 2 ≤ 2 + Int.fmod X ([9, 9, (10 : Int) ^ Int.toNat 30].getD i 0) ∧ 2 + Int.fmod X ([9, 9, (10 : Int) ^ Int.toNat 30].getD i 0) ≤ 2 * 10 ^ 30 := by
  have h := menu9 hi
  have g := fmod_in (x := X) (n := [9, 9, (10 : Int) ^ Int.toNat 30].getD i 0) (by omega)
  constructor <;> omega
theorem ring_mul {X half : Int} {i : Nat} (hi : i < 3) (hh : HalfR half) : IntMulOk ((2 + Int.fmod X ([9, 9, (10 : Int) ^ Int.toNat 30].getD i 0)) * 2) half := by
  have h := blocks_of (X := X) hi
  refine Sm.ok ⟨by omega, by omega⟩ ⟨?_, ?_⟩
  · have := hh.lo; omega
  · have := hh.hi; omega

/-- what is known of the ring -/
def RingR (q a small : Int) : Prop := ∃ m half, Rg q a small m half ∧ m ≤ 2 * 10 ^ 30 ∧ half ≤ 10 ^ 30
theorem ring_of {X Y half : Int} {i : Nat} (hi : i < 3) (hh : HalfR half) : RingR ((2 + Int.fmod X ([9, 9, (10 : Int) ^ Int.toNat 30].getD i 0)) * 2 * half + 1) (2 * half) (Int.fmod Y half) := by
  have h := blocks_of (X := X) hi
  have g := fmod_in (x := Y) (n := half) (by have := hh.lo; omega)
  exact ⟨_, half, ⟨by rw [Int.mul_assoc], rfl, hh.lo, h.1, g.1, g.2⟩, h.2, hh.hi⟩
theorem ring_set0 : RingR 8380417 190464 78 := ⟨44, 95232, ⟨by decide, by decide, by decide, by decide, by decide, by decide⟩, by decide, by decide⟩
theorem ring_set1 : RingR 8380417 523776 196 := ⟨16, 261888, ⟨by decide, by decide, by decide, by decide, by decide, by decide⟩, by decide, by decide⟩
theorem ring_set2 : RingR 8380417 523776 120 := ⟨16, 261888, ⟨by decide, by decide, by decide, by decide, by decide, by decide⟩, by decide, by decide⟩
theorem Rg.a0 {q a small m half : Int} (R : Rg q a small m half) : 0 < a := by
  have := R.ha
  have := R.hh
  omega
theorem Rg.aq {q a small m half : Int} (R : Rg q a small m half) : a < q := by
  have h2 : 2 * a ≤ m * a := Int.mul_le_mul_of_nonneg_right R.hm (by have := R.a0; omega)
  have := R.hq
  have := R.a0
  omega
theorem Rg.q0 {q a small m half : Int} (R : Rg q a small m half) : 0 < q := by
  have := R.aq
  have := R.a0
  omega

def meas (ns : List Int) : Nat := if ns.length = 0 then 4 else (4 - ns.length % 4) % 4
theorem quarter {n : Nat} (h : Int.fmod (n : Int) 4 = 0) : n = 4 * (n / 4) := by
  rw [Int.fmod_eq_emod_of_nonneg _ (by omega)] at h
  omega
theorem no_quarter {n : Nat} (h : Int.fmod (n : Int) 4 ≠ 0) : n % 4 ≠ 0 := by
  rw [Int.fmod_eq_emod_of_nonneg _ (by omega)] at h
  omega
theorem nil_len {ns : List Int} (h : decide (ns = []) = true) : ns.length = 0 := by
  rw [of_decide_eq_true h]
  rfl
theorem not_nil_len {ns : List Int} (h : decide (ns = []) = false) : ns.length ≠ 0 := by
  intro e
  exact of_decide_eq_false h (List.eq_nil_of_length_eq_zero e)
theorem grow_nil {ns : List Int} {x : Int} (h : decide (ns = []) = true) : (ns ++ [x]).length ≤ 36 := by
  have := nil_len h
  simp only [List.length_append, List.length_cons, List.length_nil]
  omega
theorem grow_rest {ns : List Int} {x : Int} (hp : ns.length ≤ 36) (h : Int.fmod (ns.length : Int) 4 ≠ 0) : (ns ++ [x]).length ≤ 36 := by
  have := no_quarter h
  simp only [List.length_append, List.length_cons, List.length_nil]
  omega
theorem meas_nil {ns : List Int} {x : Int} (h : decide (ns = []) = true) : meas (ns ++ [x]) < meas ns := by
  have := nil_len h
  unfold meas
  simp only [List.length_append, List.length_cons, List.length_nil]
  rw [if_neg (by omega), if_pos this]
  omega
theorem meas_rest {ns : List Int} {x : Int} (h0 : decide (ns = []) = false) (h : Int.fmod (ns.length : Int) 4 ≠ 0) : meas (ns ++ [x]) < meas ns := by
  have := no_quarter h
  have := not_nil_len h0
  unfold meas
  simp only [List.length_append, List.length_cons, List.length_nil]
  rw [if_neg (by omega), if_neg (by omega)]
  omega

theorem high_mul {q a small m half high : Int} (R : Rg q a small m half) (hm : m ≤ 2 * 10 ^ 30) (hh : half ≤ 10 ^ 30) (h : 0 ≤ high ∧ high < m) : IntMulOk high a := by
  have := R.ha
  have := R.a0
  exact Sm.ok ⟨by omega, by omega⟩ ⟨by omega, by omega⟩
theorem style_mul {q x : Int} : IntMulOk q (Int.fmod x 3 - 1) := by
  have := fmod_in (x := x) (n := 3) (by decide)
  exact .of_right (intBits_le_64 (by omega) (by omega))
theorem list4 {P : Int → Prop} {a b c d : Int} {i : Nat} (hi : i < 4) (ha : P a) (hb : P b) (hc : P c) (hd : P d) : P ([a, b, c, d].getD i 0) := by
  match i, hi with
  | 0, _ => exact ha
  | 1, _ => exact hb
  | 2, _ => exact hc
  | 3, _ => exact hd
theorem list3 {P : Int → Prop} {a b c : Int} {i : Nat} (hi : i < 3) (ha : P a) (hb : P b) (hc : P c) : P ([a, b, c].getD i 0) := by
  match i, hi with
  | 0, _ => exact ha
  | 1, _ => exact hb
  | 2, _ => exact hc
def Bd (b x : Int) : Prop := -b ≤ x ∧ x ≤ b
theorem in_mod {x b : Int} (h : 0 ≤ b) : Bd b (Int.fmod x (2 * b + 1) - b) := by
  have := fmod_in (x := x) (n := 2 * b + 1) (by omega)
  exact ⟨by omega, by omega⟩
theorem in_mod' {x b : Int} (h : 1 ≤ b) : Bd (b - 1) (Int.fmod x (2 * b - 1) - (b - 1)) := by
  have := fmod_in (x := x) (n := 2 * b - 1) (by omega)
  exact ⟨by omega, by omega⟩
theorem in_within {x b : Int} (h : 0 ≤ b) : Bd b (withinB x b) := within_in h
theorem idx_lt {x : Int} {n : Nat} (h : 0 < n) : (Int.fmod x n).toNat < n := by
  have := fmod_in (x := x) (n := n) (by omega)
  omega

theorem low_in {first style blocks room : Int} (h : 1 ≤ room) : Bd (room - 1) ([Int.fmod (Int.fdiv first blocks) (2 * room - 1) - (room - 1), room - 1, 1 - room, withinB (Int.fmod (Int.fdiv first blocks) 3 - 1) (room - 1)].getD (Int.fmod style 4).toNat 0) :=
  list4 (idx_lt (n := 4) (by decide)) (in_mod' h) ⟨by omega, by omega⟩ ⟨by omega, by omega⟩ (in_within (by omega))
theorem turn_in {push low near half : Int} {i : Nat} (hi : i < 3) (h : 0 ≤ half) : Bd half ([Int.fmod push (2 * half + 1) - half, withinB (half - low + near) half, withinB (near - half - low) half].getD i 0) :=
  list3 hi (in_mod h) (in_within h) (in_within h)

theorem facts {q a small m half high low shift turn ahead value pushed reach due : Int} (R : Rg q a small m half) (hHigh : 0 ≤ high ∧ high < m) (hLow : Bd (half - small - 1) low) (hShift : Bd small shift) (hTurn : Bd half turn)
    (hAhead : ∃ k, ahead = high * a + low + q * k) (hV : value = ahead + shift ∧ pushed = ahead + turn ∧ reach = low + turn) (hDue : due = dueOf half reach high) :
    highB ahead a q = high ∧ lowB ahead a q = low ∧ highB value a q = high ∧ lowB value a q = low + shift ∧ mkH (0 - turn) pushed a q = due ∧ mkO (Int.fmod reach q) high a q = due ∧ useH due pushed a q = high ∧ useH (1 - due) pushed a q ≠ high := by
  obtain ⟨k, hk⟩ := hAhead
  obtain ⟨hv, hp, hr⟩ := hV
  obtain ⟨h0, h1⟩ := hHigh
  obtain ⟨l0, l1⟩ := hLow
  obtain ⟨s0, s1⟩ := hShift
  obtain ⟨t0, t1⟩ := hTurn
  have z0 := R.s0
  have z1 := R.s1
  have d1 := dec_of (x := ahead) (h := high) (l := low) (k := k) R.hq R.ha R.hh R.hm hk h0 h1 (.inl ⟨by omega, by omega⟩)
  have d2 := dec_of (x := value) (h := high) (l := low + shift) (k := k) R.hq R.ha R.hh R.hm (by omega) h0 h1 (.inl ⟨by omega, by omega⟩)
  have e : pushed = high * a + reach + q * k := by omega
  have d3 := mkH_of (z := 0 - turn) R e h0 h1 (by omega) (by omega) (by omega) (by omega)
  have d4 := mkO_of (reach := reach) R h0 (by omega) (by omega)
  have d5 := useH_of R e h0 h1 (by omega) (by omega)
  rw [← hDue] at d3 d4 d5
  exact ⟨d1.1, d1.2, d2.1, d2.2, d3, d4, d5.1, d5.2⟩

theorem rmod_hi {x n : Int} (h : Int.fdiv n (2 ^ Int.toNat 1) < Int.fmod x n) : Int.fmod x n - n = rmod x n := by
  have e : (2 : Int) ^ Int.toNat 1 = 2 := by decide
  rw [e] at h
  unfold rmod
  rw [if_pos h]
theorem rmod_lo {x n : Int} (h : ¬ Int.fdiv n (2 ^ Int.toNat 1) < Int.fmod x n) : Int.fmod x n = rmod x n := by
  have e : (2 : Int) ^ Int.toNat 1 = 2 := by decide
  rw [e] at h
  unfold rmod
  rw [if_neg h]
theorem pair_last {r a q : Int} (h : Int.fmod r q - rmod (Int.fmod r q) a = q - 1) : 0 = highB r a q ∧ rmod (Int.fmod r q) a - 1 = lowB r a q := by
  unfold highB lowB
  rw [if_pos h, if_pos h]
  exact ⟨rfl, rfl⟩
theorem pair_rest {r a q : Int} (h : Int.fmod r q - rmod (Int.fmod r q) a ≠ q - 1) : Int.fdiv (Int.fmod r q - rmod (Int.fmod r q) a) a = highB r a q ∧ rmod (Int.fmod r q) a = lowB r a q := by
  unfold highB lowB
  rw [if_neg h, if_neg h]
  exact ⟨rfl, rfl⟩

theorem mkH_val {z r a q : Int} : (if (highB r a q != highB (r + z) a q) = true then (1 : Int) else 0) = mkH z r a q := by
  unfold mkH
  by_cases h : highB r a q = highB (r + z) a q
  · rw [if_neg (by rw [h]; simp), if_neg (by rw [h]; simp)]
  · rw [if_pos (by simpa using h), if_pos h]
section
variable {z r1 a q h r : Int}
theorem two_one : (2 : Int) ^ Int.toNat 1 = 2 := by decide
theorem mkO_1 (h1 : z ≤ Int.fdiv a (2 ^ Int.toNat 1)) : 0 = mkO z r1 a q := by
  rw [two_one] at h1
  unfold mkO
  rw [if_pos (.inl h1)]
theorem mkO_2 (h1 : q - Int.fdiv a (2 ^ Int.toNat 1) < z) : 0 = mkO z r1 a q := by
  rw [two_one] at h1
  unfold mkO
  rw [if_pos (.inr (.inl h1))]
theorem mkO_3 (h1 : z = q - Int.fdiv a (2 ^ Int.toNat 1)) (h2 : r1 = 0) : 0 = mkO z r1 a q := by
  rw [two_one] at h1
  unfold mkO
  rw [if_pos (.inr (.inr ⟨h1, h2⟩))]
theorem mkO_4 (h1 : ¬ z ≤ Int.fdiv a (2 ^ Int.toNat 1)) (h2 : ¬ q - Int.fdiv a (2 ^ Int.toNat 1) < z) (h3 : r1 ≠ 0) : 1 = mkO z r1 a q := by
  rw [two_one] at h1 h2
  unfold mkO
  rw [if_neg (by rintro (e | e | e); exact h1 e; exact h2 e; exact h3 e.2)]
theorem mkO_5 (h1 : ¬ z ≤ Int.fdiv a (2 ^ Int.toNat 1)) (h2 : ¬ q - Int.fdiv a (2 ^ Int.toNat 1) < z) (h3 : z ≠ q - Int.fdiv a (2 ^ Int.toNat 1)) : 1 = mkO z r1 a q := by
  rw [two_one] at h1 h2 h3
  unfold mkO
  rw [if_neg (by rintro (e | e | e); exact h1 e; exact h2 e; exact h3 e.1)]
theorem useH_1 (h1 : h = 1) (h2 : 0 < lowB r a q) : Int.fmod (highB r a q + 1) (Int.fdiv (q - 1) a) = useH h r a q := by
  have h3 : lowB r a q > 0 := h2
  unfold useH
  rw [if_pos h1, if_pos h3]
theorem useH_2 (h1 : h = 1) (h2 : ¬ 0 < lowB r a q) : Int.fmod (highB r a q - 1) (Int.fdiv (q - 1) a) = useH h r a q := by
  have h3 : ¬ lowB r a q > 0 := h2
  unfold useH
  rw [if_pos h1, if_neg h3]
theorem useH_3 (h1 : h ≠ 1) : highB r a q = useH h r a q := by
  unfold useH
  rw [if_neg h1]
end

/-! ## Rules for the walk: a statement's and a call's ways joined; a loop over range(0, n, 4) -/
section Rules
open PySem.Calls PyProof.V PySem.Spec
/-- the end of a statement whose ways meet: some letters, what is known of them, the names that bear them; what was made besides is dropped -/
def MSt {σ : Type} (h₀ : Heap) (L : Addr) (m : Str → Option Value) (news : List (Addr × Obj)) (s : Shared) (R : σ → Prop) (ps : σ → List (Str × Value)) (fl : Flow) (s' : Shared) : Prop :=
  fl = .next ∧ ∃ (c : σ) (h : Heap) (tk : Nat), s' = { s with heap := h, toks := tk } ∧ R c ∧ Fr h₀ L h (kstB m (ps c)) ∧ News h₀ L h news
theorem same_in {news : List (Addr × Obj)} : ∀ p ∈ news, p ∈ news := fun _ hp => hp
theorem tail_in {news r : List (Addr × Obj)} {x : Addr × Obj} (h : ∀ p ∈ news, p ∈ r) : ∀ p ∈ news, p ∈ x :: r := fun p hp => List.Mem.tail _ (h p hp)
theorem st_end {σ : Type} {h₀ h : Heap} {L : Addr} {m m' : Str → Option Value} {news news' : List (Addr × Obj)} {s : Shared} {R : σ → Prop} {ps : σ → List (Str × Value)} {tk : Nat} (c : σ)
    (F : Fr h₀ L h m') (N : News h₀ L h news') (hm : m' = kstB m (ps c)) (hn : ∀ p ∈ news, p ∈ news') (hr : R c) : MSt h₀ L m news s R ps .next { s with heap := h, toks := tk } :=
  ⟨rfl, c, h, tk, rfl, hr, hm ▸ F, fun p hp => N p (hn p hp)⟩
/-- the rest of the walk, put by -/
def PutBy (p : Prop) : Prop := p
theorem st_join {σ : Type} (R : σ → Prop) (ps : σ → List (Str × Value)) {M : Model} {A : Around} {E : Value → Shared → Prop} {Q : Flow → Shared → Prop} {s : Shared} {h₀ : Heap} {L : Addr} {m : Str → Option Value} {news : List (Addr × Obj)} {cm : Sem Flow}
    (_F : Fr h₀ L s.heap m) (_N : News h₀ L s.heap news) (hc : wpAny M A cm (MSt h₀ L m news s R ps) E s)
    (hk : PutBy (∀ c h tk, R c → Fr h₀ L h (kstB m (ps c)) → News h₀ L h news → Q .next { s with heap := h, toks := tk })) : wpAny M A cm Q E s := by
  unfold PutBy at hk
  refine wpAny_mono hc (fun fl s₂ hq => ?_) fun _ _ h => h
  obtain ⟨rfl, c, h, tk, rfl, hr, F, N⟩ := hq
  exact hk c h tk hr F N

/-- a call whose ways meet in an int that is known ahead -/
def Cv (h₀ : Heap) (L : Addr) (m : Str → Option Value) (news : List (Addr × Obj)) (s : Shared) (v : Int) (x : Value) (s' : Shared) : Prop :=
  ∃ (t : Tok) (h : Heap) (tk : Nat), x = .int v t ∧ s' = { s with heap := h, toks := tk } ∧ Fr h₀ L h m ∧ News h₀ L h news
theorem cv_end {h₀ h : Heap} {L : Addr} {m : Str → Option Value} {news news' : List (Addr × Obj)} {s : Shared} {v v' : Int} {t : Tok} {tk : Nat}
    (F : Fr h₀ L h m) (N : News h₀ L h news') (hn : ∀ p ∈ news, p ∈ news') (e : v' = v) : Cv h₀ L m news s v (.int v' t) { s with heap := h, toks := tk } :=
  ⟨t, h, tk, by rw [e], rfl, F, fun p hp => N p (hn p hp)⟩
/-- a call whose ways meet in a pair that is known ahead -/
def Cp (h₀ : Heap) (L : Addr) (m : Str → Option Value) (news : List (Addr × Obj)) (s : Shared) (v w : Int) (x : Value) (s' : Shared) : Prop :=
  ∃ (D : Addr) (t u : Tok) (c : Nat) (h : Heap) (tk : Nat), x = .ref D ∧ s' = { s with heap := h, toks := tk } ∧ Fr h₀ L h m ∧ News h₀ L h ((D, ({ cls := .type "tuple", data := .seq #[.int v t, .int w u] c } : Obj)) :: news)
theorem cp_end {h₀ h : Heap} {L D : Addr} {m : Str → Option Value} {news news' : List (Addr × Obj)} {s : Shared} {v w v' w' : Int} {t u : Tok} {c tk : Nat}
    (F : Fr h₀ L h m) (N : News h₀ L h ((D, ({ cls := .type "tuple", data := .seq #[.int v' t, .int w' u] c } : Obj)) :: news')) (hn : ∀ p ∈ news, p ∈ news') (e : v' = v ∧ w' = w) : Cp h₀ L m news s v w (.ref D) { s with heap := h, toks := tk } := by
  obtain ⟨rfl, rfl⟩ := e
  exact ⟨D, t, u, c, h, tk, rfl, rfl, F, fun p hp => (List.mem_cons.mp hp).elim (fun e => N p (e ▸ List.Mem.head _)) fun hp => N p (List.Mem.tail _ (hn p hp))⟩
section
variable {M : Model} {A : Around} {E : Value → Shared → Prop} {Q : Value → Shared → Prop} {s : Shared} {h₀ : Heap} {L f : Addr} {m : Str → Option Value} {news : List (Addr × Obj)}
theorem cv_join {cm : Sem Value} (v : Int) (hc : wpAny M A cm (Cv h₀ L m news s v) E s)
    (hk : ∀ t h tk, Fr h₀ L h m → News h₀ L h news → Q (.int v t) { s with heap := h, toks := tk }) : wpAny M A cm Q E s := by
  refine wpAny_mono hc (fun x s₂ hq => ?_) fun _ _ h => h
  obtain ⟨t, h, tk, rfl, rfl, F, N⟩ := hq
  exact hk t h tk F N
theorem cv_call2 (g : Int → Int → Int) {a b : Int} {ta tb : Tok} (_F : Fr h₀ L s.heap m) (_N : News h₀ L s.heap news) (hc : wpAny M A (call (.ref f) [.int a ta, .int b tb]) (Cv h₀ L m news s (g a b)) E s)
    (hk : ∀ t h tk, Fr h₀ L h m → News h₀ L h news → Q (.int (g a b) t) { s with heap := h, toks := tk }) : wpAny M A (call (.ref f) [.int a ta, .int b tb]) Q E s := cv_join _ hc hk
theorem cv_call3 (g : Int → Int → Int → Int) {a b c : Int} {ta tb tc : Tok} (_F : Fr h₀ L s.heap m) (_N : News h₀ L s.heap news) (hc : wpAny M A (call (.ref f) [.int a ta, .int b tb, .int c tc]) (Cv h₀ L m news s (g a b c)) E s)
    (hk : ∀ t h tk, Fr h₀ L h m → News h₀ L h news → Q (.int (g a b c) t) { s with heap := h, toks := tk }) : wpAny M A (call (.ref f) [.int a ta, .int b tb, .int c tc]) Q E s := cv_join _ hc hk
theorem cv_call4 (g : Int → Int → Int → Int → Int) {a b c d : Int} {ta tb tc td : Tok} (_F : Fr h₀ L s.heap m) (_N : News h₀ L s.heap news) (hc : wpAny M A (call (.ref f) [.int a ta, .int b tb, .int c tc, .int d td]) (Cv h₀ L m news s (g a b c d)) E s)
    (hk : ∀ t h tk, Fr h₀ L h m → News h₀ L h news → Q (.int (g a b c d) t) { s with heap := h, toks := tk }) : wpAny M A (call (.ref f) [.int a ta, .int b tb, .int c tc, .int d td]) Q E s := cv_join _ hc hk
theorem cp_call3 (g g' : Int → Int → Int → Int) {a b c : Int} {ta tb tc : Tok} (_F : Fr h₀ L s.heap m) (_N : News h₀ L s.heap news) (hc : wpAny M A (call (.ref f) [.int a ta, .int b tb, .int c tc]) (Cp h₀ L m news s (g a b c) (g' a b c)) E s)
    (hk : ∀ D t u n h tk, Fr h₀ L h m → News h₀ L h ((D, ({ cls := .type "tuple", data := .seq #[.int (g a b c) t, .int (g' a b c) u] n } : Obj)) :: news) → Q (.ref D) { s with heap := h, toks := tk }) : wpAny M A (call (.ref f) [.int a ta, .int b tb, .int c tc]) Q E s := by
  refine wpAny_mono hc (fun x s₂ hq => ?_) fun _ _ h => h
  obtain ⟨D, t, u, n, h, tk, rfl, rfl, F, N⟩ := hq
  exact hk D t u n h tk F N
end

theorem size4 {n : Nat} (k : Nat) (hk : n = 4 * k) : Builtin.Range.rangeSize 0 (n : Int) 4 = (k : Int) := by
  unfold Builtin.Range.rangeSize
  rw [if_pos (by decide)]
  by_cases h : (0 : Int) < (n : Int)
  · rw [if_pos h]
    omega
  · rw [if_neg h]
    omega

theorem small4 {n k : Nat} (hk : n = 4 * k) (hs : n < 1000) : Builtin.Range.small 0 (n : Int) 4 = true := by
  unfold Builtin.Range.small
  rw [size4 k hk]
  have f : ∀ z : Int, -10000 ≤ z → z ≤ 10000 → Builtin.Range.rangeFitsLong z = true := by
    intro z h1 h2
    unfold Builtin.Range.rangeFitsLong
    rw [Bool.and_eq_true]
    exact ⟨decide_eq_true (by omega), decide_eq_true (by omega)⟩
  rw [f 0 (by omega) (by omega), f n (by omega) (by omega), f 4 (by omega) (by omega), f k (by omega) (by omega), if_pos (by decide), f (n + (4 - 1)) (by omega) (by omega), Bool.or_true]
  rfl

section
variable {prog : Program} {w : World} {A : Around} {E : Value → Shared → Prop} {s : Shared} {env : Env} {h₀ : Heap} {x : Str} {body : List Stmt} {Q : Flow → Shared → Prop}

/-- a loop over range(0, n, 4) whose turns keep all but some names of the frame -/
theorem steps4 {r : Addr} {b₀ : Int} {t₀ u₀ v₀ : Tok} {n k : Nat} {m₀ : Str → Option Value} {news : List (Addr × Obj)} {L : Addr} (stored : List Str) (hL : env.locals = L) (hb : b₀ = (n : Int)) (hk : n = 4 * k) (hs : n < 1000)
    (hh : A.handled = none) (hr : IsRange s.heap r 0 b₀ 4 t₀ u₀ v₀) (F : Fr h₀ L s.heap m₀) (N : News h₀ L s.heap news)
    (turn : ∀ (i : Int) t (u : Str → Option Value) h tk own, 0 ≤ i → i + 3 < (n : Int) → OwnOff own (news.map (·.1)) →
      Fr h₀ L h (fun y => if y = x then some (.int i t) else if stored.contains y then u y else m₀ y) → News h₀ L h (news ++ own) →
      wpAny (model prog w) A (execs body env) (InvPostN h₀ L (KstS (fun _ : Unit => news) (fun _ => []) (fun _ => True) x stored m₀ (fun _ _ => True) []) own (news.map (·.1)) { s with heap := h, toks := tk } Q) E { s with heap := h, toks := tk })
    (done : ∀ (u : Str → Option Value) h tk, Fr h₀ L h (fun y => if y = x then u y else if stored.contains y then u y else m₀ y) → News h₀ L h news → Q .next { s with heap := h, toks := tk }) :
    wpAny (model prog w) A (pyIter (.ref r)) (fun it s₂ => LoopAtV prog w A h₀ env x body Q E it s₂) E s := by
  subst hL
  subst hb
  have hz := size4 k hk
  have hsm : Builtin.Range.small 0 (n : Int) 4 = true := small4 hk hs
  refine wpAny_pyIter_range hr hsm ?_
  have W : Walks prog w A s.heap.objs.size [s.heap.objs.size] [s.heap.objs.size] k (fun i v => i < k ∧ ∃ t, v = .int (0 + i * 4) t)
      (fun i h => IsRangeIter h s.heap.objs.size (0 + (i : Nat) * 4) ((k : Int) - (i : Nat)) 4) := (Walks.range hh _ 0 4 k).bound
  have old : ∀ p ∈ news, p.1 ∉ [s.heap.objs.size] := fun p hp hI => absurd (Heap.lt_size (N p hp).1) ((List.mem_singleton.mp hI) ▸ Nat.lt_irrefl _)
  have same : ∀ m₁ : Str → Option Value, (∀ z, z ≠ x → stored.contains z = false → m₁ z = m₀ z) → ∀ v : Option Value, (fun y => if y = x then v else m₁ y) = fun y => if y = x then v else if stored.contains y then m₁ y else m₀ y := by
    intro m₁ h2 v
    funext y
    by_cases h1 : y = x
    · rw [if_pos h1, if_pos h1]
    · rw [if_neg h1, if_neg h1]
      cases h3 : stored.contains y with
      | true => rw [if_pos rfl]
      | false => rw [if_neg Bool.false_ne_true]; exact h2 y h1 h3
  refine loop_invN (fun _ m nx => KstS (fun _ : Unit => news) (fun _ => []) (fun _ => True) x stored m₀ (fun _ _ => True) [] m nx) W ?_ ?_ old old (by show IsRangeIter _ _ _ _ _; rw [hz]; simpa using Heap.get?_push_size _ rfl) (F.push _) (fun p hp => ⟨Heap.get?_push_of_some _ (N p hp).1, (N p hp).2⟩) ⟨(), rfl, trivial, (fun _ hp => nomatch hp), fun _ _ _ _ => rfl, trivial⟩ ?_ ?_
  · exact fun hm => absurd F.ns.lt ((List.mem_singleton.mp hm) ▸ Nat.lt_irrefl _)
  · intro b hb
    rw [List.mem_singleton.mp hb]
    exact next_is_new F
  · rintro i v m₁ nx h tk own hi ⟨_, t, rfl⟩ _ hoff ⟨_, rfl, _, _, h2, _⟩ F₁ N₁
    refine turn (0 + (i : Int) * 4) t m₁ h tk own (by omega) (by omega) hoff ?_ N₁
    rw [← same m₁ (fun z h3 h4 => h2 z h3 (fun _ hp => nomatch hp) h4)]
    exact F₁
  · rintro m₁ nx h tk ⟨_, rfl, _, _, h2, _⟩ F₁ N₁
    refine done m₁ h tk ?_ N₁
    have e : (fun y => if y = x then m₁ y else if stored.contains y then m₁ y else m₀ y) = m₁ := by
      funext y
      by_cases h1 : y = x
      · rw [if_pos h1]
      · rw [if_neg h1]
        cases h3 : stored.contains y with
        | true => rw [if_pos rfl]
        | false => rw [if_neg Bool.false_ne_true]; exact (h2 y h1 (fun _ hp => nomatch hp) h3).symm
    rw [e]
    exact F₁
end
end Rules

/-! ## The head: the text's top, once -/
set_option maxHeartbeats 8000000 in
open_top hd for PySem.Challenge.rw_ji0006_01

end Mine

/-! ## The walk's own lines -/
local macro_rules | `(tactic| walk_at "exec Assign cons Call") => `(tactic| (k_here; k_dflt (k_extra "my assign")))
local macro_rules | `(tactic| walk_at "exec Assign cons BinOp") => `(tactic| (k_here; k_dflt (k_extra "my assign")))
local macro_rules | `(tactic| walk_at "exec Assign cons Tuple") => `(tactic| (k_here; k_dflt (k_extra "my assign")))
local macro_rules | `(tactic| walk_at "exec Assign cons Subscript") => `(tactic| (k_here; k_dflt (k_extra "my assign")))
local macro_rules | `(tactic| walk_at "exec Assign cons IfExp") => `(tactic| (k_here; k_dflt (k_extra "my assign")))
local macro_rules | `(tactic| walk_at "pyIter ref") => `(tactic| (k_here; k_dflt (k_extra "my iter")))
local macro_rules | `(tactic| walk_at "binaryOp FloorDiv int int") => `(tactic| (k_here; k_dflt (k_extra "my div")))
local macro_rules | `(tactic| walk_at "binaryOp Mod int int") => `(tactic| (k_here; k_dflt (k_extra "my mod")))
local macro_rules | `(tactic| walk_at "binaryOp Mult int int") => `(tactic| (k_here; k_dflt (k_extra "my mult")))
local macro_rules | `(tactic| walk_at "MSt") => `(tactic| (k_dflt (k_extra "my end")))
local macro_rules | `(tactic| k_steps) => `(tactic| repeat' (first | (k_unfold; (try dsimp only)) | (k_extra "early") | (k_end; wrow_close) | walk1 | (dsimp only; walk1) | (leave1; walk_say "STEP leave1"; try dsimp only) | fail "no step"))
local macro_rules | `(tactic| walk_at "eval Call Name cons nil") => `(tactic| (k_here; (with_reducible show wpAny _ _ (eval (Expr.Call (Expr.Name (Str.ofString "decompose") _) _ _ _) _) _ _ _); refine Call_ ?_))
local macro_rules | `(tactic| walk_at "call ref cons nil") => `(tactic| (k_here; k_dflt (k_extra "my call")))

open Mine in
set_option maxHeartbeats 40000000 in
theorem PySem.Challenge.cw_ji0006_01_holds : PySem.Challenge.rw_ji0006_01.Holds := by
  k_with "early" => ((with_reducible show MSt _ _ _ _ _ _ _ _ _); k_dflt (k_extra "my end"))
  k_with "early" => ((with_reducible show KCt2 _ _ _ _ _ _ _ _ _ _ _); walk1)
  k_with "tree" => simp only [withinB]
  k_with "call ref" => k_call_by "_law_within" withinB
  -- q, a, small = _law_ring(script)
  k_with "my assign" => (
    (with_reducible show wpAny _ _ (exec (Stmt.Assign [Expr.Tuple (Expr.Name (Str.ofString "q") _ :: _) _ _] _ _) _) _ _ _)
    (fail_if_success (with_reducible show wpAny _ _ _ (MSt _ _ _ _ _ _ _) _ _))
    refine' st_join (σ := Int × Int × Int × Tok × Tok × Tok) (fun c => RingR c.1 c.2.1 c.2.2.1) (fun c => [(Str.ofString "small", Value.int c.2.2.1 c.2.2.2.2.2), (Str.ofString "a", Value.int c.2.1 c.2.2.2.2.1), (Str.ofString "q", Value.int c.1 c.2.2.2.1)]) ?kF ?kN ?_ ?_
    (case kF => k_asm)
    (case kN => k_asm))
  k_with "my assign" => (
    (with_reducible show wpAny _ _ (exec (Stmt.Assign [Expr.Name (Str.ofString "kind") _] _ _) _) _ _ _)
    (fail_if_success (with_reducible show wpAny _ _ _ (MSt _ _ _ _ _ _ _) _ _))
    refine' st_join (σ := Int × Tok) (fun c => 0 ≤ c.1 ∧ c.1 < 6) (fun c => [(Str.ofString "kind", Value.int c.1 c.2)]) ?kF ?kN ?_ ?_
    (case kF => k_asm)
    (case kN => k_asm)
    rotate_left
    unfold PutBy; rintro ⟨kind, kt⟩ kh ktk hKind kF kN; dsimp only [kstB] at hKind kF kN; (try k_sweep)
    rotate_left)
  k_with "my assign" => (
    (with_reducible show wpAny _ _ (exec (Stmt.Assign [Expr.Name (Str.ofString "half") _] (Expr.BinOp _ Operator.Add _ _) _) _) _ _ _)
    (fail_if_success (with_reducible show wpAny _ _ _ (MSt _ _ _ _ _ _ _) _ _))
    refine' st_join (σ := Int × Tok) (fun c => HalfR c.1) (fun c => [(Str.ofString "half", Value.int c.1 c.2)]) ?kF ?kN ?_ ?_
    (case kF => k_asm)
    (case kN => k_asm)
    rotate_left
    unfold PutBy; rintro ⟨rhalf, kt⟩ kh ktk hHalf kF kN; dsimp only [kstB] at hHalf kF kN; have hHalfLo := hHalf.lo; (try k_sweep)
    rotate_left)
  k_with "my mod" => (
    (with_reducible show wpAny _ _ (binaryOp Operator.Mod (Value.int _ _) (Value.int _ _)) _ _ _)
    refine' mod_int' ?nz ?_
    (case nz => first
      | omega
      | (have hz := menu12 (kind_in (by assumption) (by assumption)); omega)
      | (have hz := menu9 (kind_in (by assumption) (by assumption)); omega)))
  k_with "my div" => (
    (with_reducible show wpAny _ _ (binaryOp Operator.FloorDiv (Value.int _ _) (Value.int _ _)) _ _ _)
    refine' floordiv_int ?nz ?_
    (case nz => omega))
  k_with "my mult" => (
    (with_reducible show wpAny _ _ (binaryOp Operator.Mult (Value.int _ _) (Value.int _ _)) _ _ _)
    refine' mul_int ?_ ?hm
    (case hm => first | assumption | exact style_mul | exact ring_mul (kind_in (by assumption) (by assumption)) (by assumption)))
  k_with "my end" => (
    refine' st_end ⟨_, _⟩ ?kF ?kN ?km ?kn ?kr
    (case kF => first | with_reducible assumption | assumption)
    (case kN => first | with_reducible assumption | assumption)
    (case km => with_unfolding_all rfl)
    (case kn => first | ((repeat' (first | with_reducible exact same_in | with_reducible refine tail_in ?_)); done) | kcj_all)
    (case kr => first | trivial | (dsimp only; first | exact low_in (by omega) | exact turn_in (idx_lt (n := 3) (by decide)) (by omega) | exact fmod_in (by omega) | exact in_mod (by omega) | exact ⟨_, rfl⟩ | exact half_of (kind_in (by assumption) (by assumption)) | (unfold dueOf; first | rw [if_pos (by omega)] | rw [if_neg (by omega)]))))
  k_with "my end" => (
    refine' st_end ⟨_, _, _, _, _, _⟩ ?kF ?kN ?km ?kn ?kr
    (case kF => first | with_reducible assumption | assumption)
    (case kN => first | with_reducible assumption | assumption)
    (case km => with_unfolding_all rfl)
    (case kn => first | ((repeat' (first | with_reducible exact same_in | with_reducible refine tail_in ?_)); done) | kcj_all)
    (case kr => dsimp only; first | exact ⟨rfl, rfl, rfl⟩ | exact ring_set0 | exact ring_set1 | exact ring_set2 | exact ring_of (kind_in (by assumption) (by assumption)) (by assumption)))
  k_with "my assign" => (
    (with_reducible show wpAny _ _ (exec (Stmt.Assign [Expr.Tuple (Expr.Name (Str.ofString "blocks") _ :: _) _ _] _ _) _) _ _ _)
    (fail_if_success (with_reducible show wpAny _ _ _ (MSt _ _ _ _ _ _ _) _ _))
    refine' st_join (σ := Int × Int × Tok × Tok) (fun c => c.1 = m ∧ c.2.1 = half) (fun c => [(Str.ofString "blocks", Value.int c.1 c.2.2.1), (Str.ofString "half", Value.int c.2.1 c.2.2.2)]) ?kF ?kN ?_ ?_
    (case kF => k_asm)
    (case kN => k_asm)
    rotate_left
    unfold PutBy; rintro ⟨blocks, bhalf, bt1, bt2⟩ kh ktk hBH kF kN; dsimp only [kstB] at hBH kF kN; obtain ⟨hBm, hBh⟩ := hBH; subst hBm; subst hBh; have hBl := hG.blocks; (try k_sweep)
    rotate_left)
  k_with "my end" => (
    refine' st_end ⟨_, _, _, _⟩ ?kF ?kN ?km ?kn ?kr
    (case kF => first | with_reducible assumption | assumption)
    (case kN => first | with_reducible assumption | assumption)
    (case km => with_unfolding_all rfl)
    (case kn => first | ((repeat' (first | with_reducible exact same_in | with_reducible refine tail_in ?_)); done) | kcj_all)
    (case kr => dsimp only; first | exact ⟨Rg.blocks (by assumption), Rg.half (by assumption)⟩))
  k_with "exec While BoolOp cons nil" => k_while (fun _ ns => ns.length ≤ 36) (fun _ ns => meas ns) "numbers"
  k_with "state" => first | exact grow_nil (by assumption) | exact grow_rest (by assumption) (by assumption)
  k_with "measure" => first | exact meas_nil (by assumption) | exact meas_rest (by assumption) (by assumption)
  k_with "my iter" => (
    (with_reducible show wpAny _ _ (pyIter (Value.ref _)) (fun it s₂ => LoopAtV _ _ _ _ _ _ _ _ _ it s₂) _ _)
    refine' steps4 [Str.ofString "first", Str.ofString "step", Str.ofString "push", Str.ofString "style", Str.ofString "high", Str.ofString "low", Str.ofString "shift", Str.ofString "near", Str.ofString "turn", Str.ofString "ahead", Str.ofString "value", Str.ofString "pushed", Str.ofString "reach", Str.ofString "due"] ?kL ?kb ?kk ?ks ?kh ?kr ?kF ?kN ?kt ?kd
    (case kF => k_asm)
    (case kN => k_asm)
    (case kL => exact rfl)
    (case kb => exact rfl)
    (case kk => exact quarter (by assumption))
    (case ks => omega)
    (case kh => exact rfl)
    (case kr => assumption)
    intro i it u kh ktk own hi0 hi3 hoff kF kN
    (try simp only [List.cons_append, List.nil_append] at kN)
    k_sweep
    rotate_left
    intro u kh ktk kF kN
    k_sweep
    rotate_left)
  k_with "my assign" => (
    (with_reducible show wpAny _ _ (exec (Stmt.Assign [Expr.Tuple (Expr.Name (Str.ofString "first") _ :: _) _ _] _ _) _) _ _ _)
    (fail_if_success (with_reducible show wpAny _ _ _ (MSt _ _ _ _ _ _ _) _ _))
    refine' st_join (σ := Int × Int × Int × Int × Tok × Tok × Tok × Tok) (fun _ => True) (fun c => [(Str.ofString "style", Value.int c.2.2.2.1 c.2.2.2.2.2.2.2), (Str.ofString "push", Value.int c.2.2.1 c.2.2.2.2.2.2.1), (Str.ofString "step", Value.int c.2.1 c.2.2.2.2.2.1), (Str.ofString "first", Value.int c.1 c.2.2.2.2.1)]) ?kF ?kN ?_ ?_
    (case kF => k_asm)
    (case kN => k_asm)
    rotate_left
    unfold PutBy; rintro ⟨first, step, push, style, bt1, bt2, bt3, bt4⟩ kh ktk hTriv kF kN; dsimp only [kstB] at kF kN; clear hTriv; (try k_sweep)
    rotate_left)
  k_with "my assign" => (
    (with_reducible show wpAny _ _ (exec (Stmt.Assign [Expr.Tuple (Expr.Name (Str.ofString "value") _ :: _) _ _] _ _) _) _ _ _)
    (fail_if_success (with_reducible show wpAny _ _ _ (MSt _ _ _ _ _ _ _) _ _))
    refine' st_join (σ := Int × Int × Int × Tok × Tok × Tok) (fun c => c.1 = ahead + shift ∧ c.2.1 = ahead + turn ∧ c.2.2.1 = low + turn) (fun c => [(Str.ofString "value", Value.int c.1 c.2.2.2.1), (Str.ofString "pushed", Value.int c.2.1 c.2.2.2.2.1), (Str.ofString "reach", Value.int c.2.2.1 c.2.2.2.2.2)]) ?kF ?kN ?_ ?_
    (case kF => k_asm)
    (case kN => k_asm)
    rotate_left
    unfold PutBy; rintro ⟨value, pushed, reach, bt1, bt2, bt3⟩ kh ktk hVPR kF kN; dsimp only [kstB] at hVPR kF kN; obtain ⟨e1, e2, e3, e4, e5, e6, e7, e8⟩ := facts hG hHigh hLow hShift hTurn hAhead hVPR rfl; clear hVPR hAhead hLow hShift hTurn hProd hNear; (try k_sweep)
    rotate_left)
  k_with "my assign" => (
    (with_reducible show wpAny _ _ (exec (Stmt.Assign [Expr.Name (Str.ofString "high") _] _ _) _) _ _ _)
    (fail_if_success (with_reducible show wpAny _ _ _ (MSt _ _ _ _ _ _ _) _ _))
    refine' st_join (σ := Int × Tok) (fun c => 0 ≤ c.1 ∧ c.1 < blocks) (fun c => [(Str.ofString "high", Value.int c.1 c.2)]) ?kF ?kN ?_ ?_
    (case kF => k_asm)
    (case kN => k_asm)
    rotate_left
    unfold PutBy; rintro ⟨high, kt⟩ kh ktk hHigh kF kN; dsimp only [kstB] at hHigh kF kN; have hProd := high_mul hG hm hh hHigh; (try k_sweep)
    rotate_left)
  k_with "my assign" => (
    (with_reducible show wpAny _ _ (exec (Stmt.Assign [Expr.Name (Str.ofString "low") _] _ _) _) _ _ _)
    (fail_if_success (with_reducible show wpAny _ _ _ (MSt _ _ _ _ _ _ _) _ _))
    refine' st_join (σ := Int × Tok) (fun c => Bd (bhalf - small - 1) c.1) (fun c => [(Str.ofString "low", Value.int c.1 c.2)]) ?kF ?kN ?_ ?_
    (case kF => k_asm)
    (case kN => k_asm)
    rotate_left
    unfold PutBy; rintro ⟨low, kt⟩ kh ktk hLow kF kN; dsimp only [kstB] at hLow kF kN; (try k_sweep)
    rotate_left)
  k_with "my assign" => (
    (with_reducible show wpAny _ _ (exec (Stmt.Assign [Expr.Name (Str.ofString "shift") _] _ _) _) _ _ _)
    (fail_if_success (with_reducible show wpAny _ _ _ (MSt _ _ _ _ _ _ _) _ _))
    refine' st_join (σ := Int × Tok) (fun c => Bd small c.1) (fun c => [(Str.ofString "shift", Value.int c.1 c.2)]) ?kF ?kN ?_ ?_
    (case kF => k_asm)
    (case kN => k_asm)
    rotate_left
    unfold PutBy; rintro ⟨shift, kt⟩ kh ktk hShift kF kN; dsimp only [kstB] at hShift kF kN; (try k_sweep)
    rotate_left)
  k_with "my assign" => (
    (with_reducible show wpAny _ _ (exec (Stmt.Assign [Expr.Name (Str.ofString "near") _] _ _) _) _ _ _)
    (fail_if_success (with_reducible show wpAny _ _ _ (MSt _ _ _ _ _ _ _) _ _))
    refine' st_join (σ := Int × Tok) (fun c => True) (fun c => [(Str.ofString "near", Value.int c.1 c.2)]) ?kF ?kN ?_ ?_
    (case kF => k_asm)
    (case kN => k_asm)
    rotate_left
    unfold PutBy; rintro ⟨near, kt⟩ kh ktk hNear kF kN; dsimp only [kstB] at hNear kF kN; (try k_sweep)
    rotate_left)
  k_with "my assign" => (
    (with_reducible show wpAny _ _ (exec (Stmt.Assign [Expr.Name (Str.ofString "turn") _] _ _) _) _ _ _)
    (fail_if_success (with_reducible show wpAny _ _ _ (MSt _ _ _ _ _ _ _) _ _))
    refine' st_join (σ := Int × Tok) (fun c => Bd bhalf c.1) (fun c => [(Str.ofString "turn", Value.int c.1 c.2)]) ?kF ?kN ?_ ?_
    (case kF => k_asm)
    (case kN => k_asm)
    rotate_left
    unfold PutBy; rintro ⟨turn, kt⟩ kh ktk hTurn kF kN; dsimp only [kstB] at hTurn kF kN; (try k_sweep)
    rotate_left)
  k_with "my assign" => (
    (with_reducible show wpAny _ _ (exec (Stmt.Assign [Expr.Name (Str.ofString "ahead") _] _ _) _) _ _ _)
    (fail_if_success (with_reducible show wpAny _ _ _ (MSt _ _ _ _ _ _ _) _ _))
    refine' st_join (σ := Int × Tok) (fun c => ∃ k, c.1 = high * a + low + q * k) (fun c => [(Str.ofString "ahead", Value.int c.1 c.2)]) ?kF ?kN ?_ ?_
    (case kF => k_asm)
    (case kN => k_asm)
    rotate_left
    unfold PutBy; rintro ⟨ahead, kt⟩ kh ktk hAhead kF kN; dsimp only [kstB] at hAhead kF kN; (try k_sweep)
    rotate_left)
  k_with "my assign" => (
    (with_reducible show wpAny _ _ (exec (Stmt.Assign [Expr.Name (Str.ofString "due") _] _ _) _) _ _ _)
    (fail_if_success (with_reducible show wpAny _ _ _ (MSt _ _ _ _ _ _ _) _ _))
    refine' st_join (σ := Int × Tok) (fun c => c.1 = dueOf bhalf reach high) (fun c => [(Str.ofString "due", Value.int c.1 c.2)]) ?kF ?kN ?_ ?_
    (case kF => k_asm)
    (case kN => k_asm)
    rotate_left
    unfold PutBy; rintro ⟨due, kt⟩ kh ktk hDue kF kN; dsimp only [kstB] at hDue kF kN; rw [← hDue] at e5 e6 e7 e8; clear hDue; (try k_sweep)
    rotate_left)
  k_with "my end" => (
    refine' st_end ⟨_, _, _, _, _, _, _, _⟩ ?kF ?kN ?km ?kn ?kr
    (case kF => first | with_reducible assumption | assumption)
    (case kN => first | with_reducible assumption | assumption)
    (case km => with_unfolding_all rfl)
    (case kn => first | ((repeat' (first | with_reducible exact same_in | with_reducible refine tail_in ?_)); done) | kcj_all)
    (case kr => trivial))
  k_with "my call" => (
    (with_reducible show wpAny _ _ (call (Value.ref 21) [Value.int _ _, Value.int _ _]) _ _ _)
    (fail_if_success (with_reducible show wpAny _ _ _ (Cv _ _ _ _ _ _) _ _))
    refine' cv_call2 rmod ?kF ?kN ?_ ?_
    (case kF => k_asm)
    (case kN => k_asm)
    rotate_left
    intro ct kh ktk kF kN; (try k_sweep)
    rotate_left)
  k_with "my call" => (
    (with_reducible show wpAny _ _ (call (Value.ref 28) [Value.int _ _, Value.int _ _, Value.int _ _]) _ _ _)
    (fail_if_success (with_reducible show wpAny _ _ _ (Cp _ _ _ _ _ _ _) _ _))
    refine' cp_call3 highB lowB ?kF ?kN ?_ ?_
    (case kF => k_asm)
    (case kN => k_asm)
    rotate_left
    intro cD ct cu cn kh ktk kF kN; (try k_sweep)
    rotate_left)
  k_with "my call" => (
    (with_reducible show wpAny _ _ (call (Value.ref 35) [Value.int _ _, Value.int _ _, Value.int _ _]) _ _ _)
    (fail_if_success (with_reducible show wpAny _ _ _ (Cv _ _ _ _ _ _) _ _))
    refine' cv_call3 highB ?kF ?kN ?_ ?_
    (case kF => k_asm)
    (case kN => k_asm)
    rotate_left
    intro ct kh ktk kF kN; (try k_sweep)
    rotate_left)
  k_with "my call" => (
    (with_reducible show wpAny _ _ (call (Value.ref 42) [Value.int _ _, Value.int _ _, Value.int _ _]) _ _ _)
    (fail_if_success (with_reducible show wpAny _ _ _ (Cv _ _ _ _ _ _) _ _))
    refine' cv_call3 lowB ?kF ?kN ?_ ?_
    (case kF => k_asm)
    (case kN => k_asm)
    rotate_left
    intro ct kh ktk kF kN; (try k_sweep)
    rotate_left)
  k_with "my call" => (
    (with_reducible show wpAny _ _ (call (Value.ref 49) [Value.int _ _, Value.int _ _, Value.int _ _, Value.int _ _]) _ _ _)
    (fail_if_success (with_reducible show wpAny _ _ _ (Cv _ _ _ _ _ _) _ _))
    refine' cv_call4 mkH ?kF ?kN ?_ ?_
    (case kF => k_asm)
    (case kN => k_asm)
    rotate_left
    intro ct kh ktk kF kN; (try k_sweep)
    rotate_left)
  k_with "my call" => (
    (with_reducible show wpAny _ _ (call (Value.ref 56) [Value.int _ _, Value.int _ _, Value.int _ _, Value.int _ _]) _ _ _)
    (fail_if_success (with_reducible show wpAny _ _ _ (Cv _ _ _ _ _ _) _ _))
    refine' cv_call4 mkO ?kF ?kN ?_ ?_
    (case kF => k_asm)
    (case kN => k_asm)
    rotate_left
    intro ct kh ktk kF kN; (try k_sweep)
    rotate_left)
  k_with "my call" => (
    (with_reducible show wpAny _ _ (call (Value.ref 63) [Value.int _ _, Value.int _ _, Value.int _ _, Value.int _ _]) _ _ _)
    (fail_if_success (with_reducible show wpAny _ _ _ (Cv _ _ _ _ _ _) _ _))
    refine' cv_call4 useH ?kF ?kN ?_ ?_
    (case kF => k_asm)
    (case kN => k_asm)
    rotate_left
    intro ct kh ktk kF kN; (try k_sweep)
    rotate_left)
  k_with "early" => (
    (with_reducible show Cv _ _ _ _ _ _ _ _)
    refine' cv_end ?kF ?kN ?kn ?ke
    (case kF => first | with_reducible assumption | assumption)
    (case kN => first | with_reducible assumption | assumption)
    (case kn => first | ((repeat' (first | with_reducible exact same_in | with_reducible refine tail_in ?_)); done) | kcj_all)
    (case ke => k_extra "my value"))
  k_with "early" => (
    (with_reducible show Cp _ _ _ _ _ _ _ _ _)
    refine' cp_end ?kF ?kN ?kn ?ke
    (case kF => first | with_reducible assumption | assumption)
    (case kN => first | with_reducible assumption | assumption)
    (case kn => first | ((repeat' (first | with_reducible exact same_in | with_reducible refine tail_in ?_)); done) | kcj_all)
    (case ke => k_extra "my pair"))
  k_with "early" => ((with_reducible show GoodW _ _ _ _ _ _ _); exfalso; omega)
  k_with "my pair" => first | exact pair_last (by assumption) | exact pair_rest (by assumption)
  k_with "my value" => first | exact mkH_val | exact mkO_1 (by assumption) | exact mkO_2 (by assumption) | exact mkO_3 (by assumption) (by assumption) | exact mkO_4 (by assumption) (by assumption) (by assumption) | exact mkO_5 (by assumption) (by assumption) (by assumption) | exact useH_1 (by assumption) (by assumption) | exact useH_2 (by assumption) (by assumption) | exact useH_3 (by assumption) | exact rfl | exact rmod_hi (by assumption) | exact rmod_lo (by assumption)
  refine Mine.hd ?_
  k_go0
  all_goals try k_fold
  k_steps
  unfold PutBy
  rintro ⟨q, a, small, qt1, qt2, qt3⟩ kh ktk hR kF kN
  dsimp only [kstB] at hR kF kN
  obtain ⟨m, half, hG, hm, hh⟩ := hR
  have hq0 := hG.q0
  have ha0 := hG.a0
  have haq := hG.aq
  have hs0 := hG.s0
  have hs1 := hG.s1
  have hm2 := hG.hm
  k_sweep
  k_steps
