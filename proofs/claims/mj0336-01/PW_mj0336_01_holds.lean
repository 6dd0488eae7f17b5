import PyProof.Rows.All
import Wide.All
import OpenK.AllK
import Wide.FinOn
import Lean
import PySem.Challenge.RW_mj0336_01
open PySem PySem.W PyProof.Rows
set_option Elab.async false
set_option maxRecDepth 100000
set_option maxHeartbeats 8000000
namespace Mine
/-! the pure model: bits of a mode, the ten signs -/
def bt (m : Int) (k : Nat) : Bool := decide (m / 2 ^ k % 2 = 1)
def ch (b : Bool) (c : Nat) : Nat := if b then c else 45
def ex (x sp : Bool) (lo up : Nat) : Nat := if sp then (if x then lo else up) else (if x then 120 else 45)
def signsA (m : Int) : Array Nat := #[if bt m 14 then 100 else 45, ch (bt m 8) 114, ch (bt m 7) 119, ex (bt m 6) (bt m 11) 115 83, ch (bt m 5) 114, ch (bt m 4) 119, ex (bt m 3) (bt m 10) 115 83, ch (bt m 2) 114, ch (bt m 1) 119, ex (bt m 0) (bt m 9) 116 84]
def signs (m : Int) : Str := ⟨signsA m⟩
theorem signs_length (m : Int) : (signs m).length = 10 := rfl
def nine (m : Int) : Str := ⟨#[ch (bt m 8) 114, ch (bt m 7) 119, ex (bt m 6) (bt m 11) 115 83, ch (bt m 5) 114, ch (bt m 4) 119, ex (bt m 3) (bt m 10) 115 83, ch (bt m 2) 114, ch (bt m 1) 119, ex (bt m 0) (bt m 9) 116 84]⟩

def OkM (m : Int) : Prop := (16384 ≤ m ∧ m < 20480) ∨ (32768 ≤ m ∧ m < 36864)
theorem OkM.nonneg {m : Int} (h : OkM m) : 0 ≤ m := by unfold OkM at h; omega

/-- a mode without its mark (bit k) -/
def unmk (m : Int) (k : Nat) : Int := if bt m k then m - 2 ^ k else m
theorem unmk_pos {m : Int} {k : Nat} (h : bt m k = true) (M : Int) (hM : M = 2 ^ k) : m - M = unmk m k := by unfold unmk; rw [if_pos h, hM]
theorem unmk_neg {m : Int} {k : Nat} (h : bt m k = false) : m = unmk m k := by unfold unmk; rw [h]; rfl
theorem bt_nat (n k : Nat) : bt (n : Int) k = n.testBit k := by
  rw [Nat.testBit_eq_decide_div_mod_eq]
  unfold bt
  have e : ((n : Int) / 2 ^ k % 2 = 1) ↔ (n / 2 ^ k % 2 = 1) := by
    rw [show ((2 : Int) ^ k) = ((2 ^ k : Nat) : Int) by simp, ← Int.natCast_ediv]; omega
  simp only [e]
theorem and_nat (n k : Nat) : Builtin.bitAnd (n : Int) (k : Int) = ((n &&& k : Nat) : Int) := by
  simp [Builtin.bitAnd]
theorem nat_and_pow (n k : Nat) : n &&& 2 ^ k = if n.testBit k then 2 ^ k else 0 := by
  apply Nat.eq_of_testBit_eq
  intro i
  rw [Nat.testBit_and, Nat.testBit_two_pow]
  by_cases h : k = i
  · subst h
    cases n.testBit k <;> simp
  · cases n.testBit k <;> simp [h]
theorem and_bit {m : Int} (h : 0 ≤ m) (k : Nat) : (Builtin.bitAnd m ((2 ^ k : Nat) : Int) != 0) = bt m k := by
  obtain ⟨n, rfl⟩ := Int.eq_ofNat_of_zero_le h
  rw [and_nat, bt_nat, nat_and_pow]
  cases n.testBit k
  · simp
  · have : (2 : Nat) ^ k ≠ 0 := Nat.ne_of_gt (Nat.two_pow_pos k)
    simp only [if_true, bne_iff_ne, ne_eq]; omega
theorem and_bit' {m : Int} (h : 0 ≤ m) (k : Nat) (M : Int) (hM : M = ((2 ^ k : Nat) : Int)) : (Builtin.bitAnd m M != 0) = bt m k := by rw [hM]; exact and_bit h k
theorem and_imode {m : Int} (h : 0 ≤ m) : Builtin.bitAnd m 4095 = m % 4096 := by
  obtain ⟨n, rfl⟩ := Int.eq_ofNat_of_zero_le h
  have := and_nat n 4095
  rw [show ((4095 : Nat) : Int) = 4095 from rfl] at this
  rw [this, show (4095 : Nat) = 2 ^ 12 - 1 from rfl, Nat.and_two_pow_sub_one_eq_mod]; simp
theorem land_hi (t r : Nat) (hr : r < 4096) : (t * 4096 + r) &&& 61440 = (t * 4096) &&& 61440 := by
  have e : t * 4096 + r = t * 4096 ||| r := by
    have := Nat.shiftLeft_add_eq_or_of_lt (i := 12) (b := r) hr t
    rw [Nat.shiftLeft_eq] at this; exact this
  have z : r &&& 61440 = 0 := by
    have q : r &&& 4095 = r := by
      rw [show (4095 : Nat) = 2 ^ 12 - 1 from rfl, Nat.and_two_pow_sub_one_eq_mod]; exact Nat.mod_eq_of_lt hr
    rw [← q, Nat.and_assoc, show (4095 &&& 61440 : Nat) = 0 from rfl, Nat.and_zero]
  rw [e, Nat.and_or_distrib_right, z, Nat.or_zero]
theorem and_ifmt {m : Int} (h : OkM m) : Builtin.bitAnd m 61440 = if bt m 14 then 16384 else 32768 := by
  obtain ⟨n, rfl⟩ := Int.eq_ofNat_of_zero_le h.nonneg
  have := and_nat n 61440
  rw [show ((61440 : Nat) : Int) = 61440 from rfl] at this
  rw [this]
  unfold OkM at h
  rcases h with h | h
  · have b : bt (n : Int) 14 = true := by unfold bt; exact decide_eq_true (by omega)
    obtain ⟨r, hr⟩ : ∃ r, n = 4 * 4096 + r := ⟨n - 16384, by omega⟩
    rw [b, if_pos rfl, hr, land_hi 4 r (by omega)]; rfl
  · have b : bt (n : Int) 14 = false := by unfold bt; exact decide_eq_false (by omega)
    obtain ⟨r, hr⟩ : ∃ r, n = 8 * 4096 + r := ⟨n - 32768, by omega⟩
    rw [b, hr, land_hi 8 r (by omega)]; rfl
theorem and_two {m : Int} (h : 0 ≤ m) (a b : Nat) (M : Nat) (hM : M = 2 ^ a ||| 2 ^ b) : (Builtin.bitAnd m (M : Int) == (M : Int)) = (bt m a && bt m b) := by
  obtain ⟨n, rfl⟩ := Int.eq_ofNat_of_zero_le h
  rw [and_nat, bt_nat, bt_nat]
  have e : (((n &&& M : Nat) : Int) == (M : Int)) = decide (n &&& M = M) := by
    by_cases q : n &&& M = M
    · simp [q]
    · rw [decide_eq_false q]; simp; omega
  rw [e]
  by_cases ha : n.testBit a = true
  · by_cases hb : n.testBit b = true
    · rw [ha, hb]
      refine decide_eq_true ?_
      subst hM
      rw [Nat.and_or_distrib_left, nat_and_pow, nat_and_pow, ha, hb]; simp
    · rw [ha, Bool.eq_false_iff.mpr hb]
      refine decide_eq_false fun q => ?_
      have : (n &&& M).testBit b = M.testBit b := by rw [q]
      rw [Nat.testBit_and, Bool.eq_false_iff.mpr hb, hM] at this
      simp [Nat.testBit_or, Nat.testBit_two_pow_self] at this
  · rw [Bool.eq_false_iff.mpr ha]
    refine decide_eq_false fun q => ?_
    have : (n &&& M).testBit a = M.testBit a := by rw [q]
    rw [Nat.testBit_and, Bool.eq_false_iff.mpr ha, hM] at this
    simp [Nat.testBit_or, Nat.testBit_two_pow_self] at this
theorem and_one {m : Int} (h : 0 ≤ m) (a : Nat) (M : Nat) (hM : M = 2 ^ a) : (Builtin.bitAnd m (M : Int) == (M : Int)) = bt m a := by
  obtain ⟨n, rfl⟩ := Int.eq_ofNat_of_zero_le h
  subst hM
  rw [and_nat, bt_nat, nat_and_pow]
  cases n.testBit a
  · have : (2 : Nat) ^ a ≠ 0 := Nat.ne_of_gt (Nat.two_pow_pos a)
    simp only [Bool.false_eq_true, if_false, beq_eq_false_iff_ne, ne_eq]; omega
  · simp
end Mine
namespace Mine
theorem bt_sub {x : Int} (j k : Nat) (J K : Int) (hJ : (2 : Int) ^ j = J) (hK : (2 : Int) ^ k = K) (e : (x - J) / K % 2 = x / K % 2) : bt (x - 2 ^ j) k = bt x k := by
  unfold bt; rw [hJ, hK, e]
/-- the bits below one that is added or taken away stay -/
theorem low_bit {x K c : Int} (m : Int) (h0 : K ≠ 0) (e : c = K * (2 * m)) : (x + c) / K % 2 = x / K % 2 := by
  rw [e, Int.add_mul_ediv_left _ _ h0, Int.add_mul_emod_self_left]
theorem bt_low {x : Int} (j k : Nat) (J K m : Int) (hJ : (2 : Int) ^ j = J) (hK : (2 : Int) ^ k = K) (h0 : K ≠ 0) (e : -J = K * (2 * m)) : bt (x - 2 ^ j) k = bt x k :=
  bt_sub j k J K hJ hK (by rw [Int.sub_eq_add_neg]; exact low_bit m h0 e)
theorem bt_iff (x : Int) (k : Nat) (K : Int) (hK : (2 : Int) ^ k = K) : bt x k = true ↔ x / K % 2 = 1 := by
  unfold bt; rw [hK]; exact decide_eq_true_iff
theorem signs_sub11 {x : Int} (h : OkM x) (hb : bt x 11 = true) : signs (x - 2 ^ 11) = ⟨#[if bt x 14 then 100 else 45, ch (bt x 8) 114, ch (bt x 7) 119, ch (bt x 6) 120, ch (bt x 5) 114, ch (bt x 4) 119, ex (bt x 3) (bt x 10) 115 83, ch (bt x 2) 114, ch (bt x 1) 119, ex (bt x 0) (bt x 9) 116 84]⟩ := by
  have q := (bt_iff x 11 2048 rfl).mp hb
  have e11 : bt (x - 2 ^ 11) 11 = false := by unfold bt; exact decide_eq_false (by rw [show (2 : Int) ^ 11 = 2048 from rfl]; omega)
  unfold OkM at h
  have e14 : bt (x - 2 ^ 11) 14 = bt x 14 := bt_sub _ _ _ _ rfl rfl (by omega)
  have e10 : bt (x - 2 ^ 11) 10 = bt x 10 := bt_low 11 10 2048 1024 (-1) rfl rfl (by decide) (by decide)
  have e9 : bt (x - 2 ^ 11) 9 = bt x 9 := bt_low 11 9 2048 512 (-2) rfl rfl (by decide) (by decide)
  have e8 : bt (x - 2 ^ 11) 8 = bt x 8 := bt_low 11 8 2048 256 (-4) rfl rfl (by decide) (by decide)
  have e7 : bt (x - 2 ^ 11) 7 = bt x 7 := bt_low 11 7 2048 128 (-8) rfl rfl (by decide) (by decide)
  have e6 : bt (x - 2 ^ 11) 6 = bt x 6 := bt_low 11 6 2048 64 (-16) rfl rfl (by decide) (by decide)
  have e5 : bt (x - 2 ^ 11) 5 = bt x 5 := bt_low 11 5 2048 32 (-32) rfl rfl (by decide) (by decide)
  have e4 : bt (x - 2 ^ 11) 4 = bt x 4 := bt_low 11 4 2048 16 (-64) rfl rfl (by decide) (by decide)
  have e3 : bt (x - 2 ^ 11) 3 = bt x 3 := bt_low 11 3 2048 8 (-128) rfl rfl (by decide) (by decide)
  have e2 : bt (x - 2 ^ 11) 2 = bt x 2 := bt_low 11 2 2048 4 (-256) rfl rfl (by decide) (by decide)
  have e1 : bt (x - 2 ^ 11) 1 = bt x 1 := bt_low 11 1 2048 2 (-512) rfl rfl (by decide) (by decide)
  have e0 : bt (x - 2 ^ 11) 0 = bt x 0 := bt_low 11 0 2048 1 (-1024) rfl rfl (by decide) (by decide)
  unfold signs signsA
  rw [e14, e11, e10, e9, e8, e7, e6, e5, e4, e3, e2, e1, e0]
  rfl
theorem signs_sub10 {x : Int} (h : OkM x) (hb : bt x 10 = true) : signs (x - 2 ^ 10) = ⟨#[if bt x 14 then 100 else 45, ch (bt x 8) 114, ch (bt x 7) 119, ex (bt x 6) (bt x 11) 115 83, ch (bt x 5) 114, ch (bt x 4) 119, ch (bt x 3) 120, ch (bt x 2) 114, ch (bt x 1) 119, ex (bt x 0) (bt x 9) 116 84]⟩ := by
  have q := (bt_iff x 10 1024 rfl).mp hb
  have e10 : bt (x - 2 ^ 10) 10 = false := by unfold bt; exact decide_eq_false (by rw [show (2 : Int) ^ 10 = 1024 from rfl]; omega)
  unfold OkM at h
  have e14 : bt (x - 2 ^ 10) 14 = bt x 14 := bt_sub _ _ _ _ rfl rfl (by omega)
  have e11 : bt (x - 2 ^ 10) 11 = bt x 11 := bt_sub _ _ _ _ rfl rfl (by omega)
  have e9 : bt (x - 2 ^ 10) 9 = bt x 9 := bt_low 10 9 1024 512 (-1) rfl rfl (by decide) (by decide)
  have e8 : bt (x - 2 ^ 10) 8 = bt x 8 := bt_low 10 8 1024 256 (-2) rfl rfl (by decide) (by decide)
  have e7 : bt (x - 2 ^ 10) 7 = bt x 7 := bt_low 10 7 1024 128 (-4) rfl rfl (by decide) (by decide)
  have e6 : bt (x - 2 ^ 10) 6 = bt x 6 := bt_low 10 6 1024 64 (-8) rfl rfl (by decide) (by decide)
  have e5 : bt (x - 2 ^ 10) 5 = bt x 5 := bt_low 10 5 1024 32 (-16) rfl rfl (by decide) (by decide)
  have e4 : bt (x - 2 ^ 10) 4 = bt x 4 := bt_low 10 4 1024 16 (-32) rfl rfl (by decide) (by decide)
  have e3 : bt (x - 2 ^ 10) 3 = bt x 3 := bt_low 10 3 1024 8 (-64) rfl rfl (by decide) (by decide)
  have e2 : bt (x - 2 ^ 10) 2 = bt x 2 := bt_low 10 2 1024 4 (-128) rfl rfl (by decide) (by decide)
  have e1 : bt (x - 2 ^ 10) 1 = bt x 1 := bt_low 10 1 1024 2 (-256) rfl rfl (by decide) (by decide)
  have e0 : bt (x - 2 ^ 10) 0 = bt x 0 := bt_low 10 0 1024 1 (-512) rfl rfl (by decide) (by decide)
  unfold signs signsA
  rw [e14, e11, e10, e9, e8, e7, e6, e5, e4, e3, e2, e1, e0]
  rfl
theorem OkM.unmk {m : Int} {k : Nat} (hk : k = 10 ∨ k = 11) (h : OkM m) : OkM (unmk m k) := by
  unfold Mine.unmk
  rcases hk with rfl | rfl
  · by_cases hb : bt m 10 = true
    · rw [if_pos hb]; have q := (bt_iff m 10 1024 rfl).mp hb; rw [show (2 : Int) ^ 10 = 1024 from rfl]; unfold OkM at *; omega
    · rw [if_neg hb]; exact h
  · by_cases hb : bt m 11 = true
    · rw [if_pos hb]; have q := (bt_iff m 11 2048 rfl).mp hb; rw [show (2 : Int) ^ 11 = 2048 from rfl]; unfold OkM at *; omega
    · rw [if_neg hb]; exact h
theorem idx4 : Builtin.Str.strSliceIndices (some 4) none 1 10 = [4, 5, 6, 7, 8, 9] := by decide +kernel
theorem idx7 : Builtin.Str.strSliceIndices (some 7) none 1 10 = [7, 8, 9] := by decide +kernel
theorem cut3 (a b c d e f g h i j : Nat) : Txt.slice ⟨#[a, b, c, d, e, f, g, h, i, j]⟩ none (some 3) = ⟨#[a, b, c]⟩ := by rfl
theorem cut6 (a b c d e f g h i j : Nat) : Txt.slice ⟨#[a, b, c, d, e, f, g, h, i, j]⟩ none (some 6) = ⟨#[a, b, c, d, e, f]⟩ := by rfl
theorem cut4 (a b c d e f g h i j : Nat) : Txt.slice ⟨#[a, b, c, d, e, f, g, h, i, j]⟩ (some 4) none = ⟨#[e, f, g, h, i, j]⟩ := by
  unfold Txt.slice
  rw [show (⟨#[a, b, c, d, e, f, g, h, i, j]⟩ : Str).length = 10 from rfl, idx4]; rfl
theorem cut7 (a b c d e f g h i j : Nat) : Txt.slice ⟨#[a, b, c, d, e, f, g, h, i, j]⟩ (some 7) none = ⟨#[h, i, j]⟩ := by
  unfold Txt.slice
  rw [show (⟨#[a, b, c, d, e, f, g, h, i, j]⟩ : Str).length = 10 from rfl, idx7]; rfl
theorem app (xs ys : List Nat) : (⟨xs.toArray⟩ ++ ⟨ys.toArray⟩ : Str) = ⟨(xs ++ ys).toArray⟩ := by
  show (⟨xs.toArray ++ ys.toArray⟩ : Str) = _; simp
theorem mark_sign (r : Bool) : (if r then Str.ofString "x" else Str.ofString "-") = (⟨[ch r 120].toArray⟩ : Str) := by cases r <;> decide
/-- the text of a mode whose mark is struck -/
theorem unmark_text11 {x : Int} {r : Bool} {X : Str} (hX : X = signs x) (h : OkM x) (hb : bt x 11 = true) (hr : bt x 6 = r) :
    Txt.slice X none (some 3) ++ (if r then Str.ofString "x" else Str.ofString "-") ++ Txt.slice X (some 4) none = signs (unmk x 11) := by
  subst hX
  unfold unmk
  rw [if_pos hb, signs_sub11 h hb, ← hr, mark_sign]
  unfold signs signsA
  rw [cut3, cut4, app, app]
  simp only [List.cons_append, List.nil_append]
theorem unmark_text10 {x : Int} {r : Bool} {X : Str} (hX : X = signs x) (h : OkM x) (hb : bt x 10 = true) (hr : bt x 3 = r) :
    Txt.slice X none (some 6) ++ (if r then Str.ofString "x" else Str.ofString "-") ++ Txt.slice X (some 7) none = signs (unmk x 10) := by
  subst hX
  unfold unmk
  rw [if_pos hb, signs_sub10 h hb, ← hr, mark_sign]
  unfold signs signsA
  rw [cut6, cut7, app, app]
  simp only [List.cons_append, List.nil_append]
theorem unmark_textN {x : Int} {k : Nat} {X : Str} (hX : X = signs x) (hb : bt x k = false) : X = signs (unmk x k) := by rw [hX, ← unmk_neg hb]
theorem isdir_eq {x : Int} (h : OkM x) : (Builtin.bitAnd x 61440 == 16384) = bt x 14 := by rw [and_ifmt h]; cases bt x 14 <;> rfl
theorem isreg_eq {x : Int} (h : OkM x) : (Builtin.bitAnd x 61440 == 32768) = !bt x 14 := by rw [and_ifmt h]; cases bt x 14 <;> rfl
theorem kind_d (x : Int) : (Txt.item (signs x) 0 == Str.ofString "d") = bt x 14 := by
  rw [show Txt.item (signs x) 0 = ⟨#[if bt x 14 then 100 else 45]⟩ from rfl]; cases bt x 14 <;> decide +kernel
theorem kind_p (x : Int) : (Txt.item (signs x) 0 == Str.ofString "-") = !bt x 14 := by
  rw [show Txt.item (signs x) 0 = ⟨#[if bt x 14 then 100 else 45]⟩ from rfl]; cases bt x 14 <;> decide +kernel
end Mine
namespace Mine
theorem item_r {a : Int} (h : a = 0 ∨ a = 1) : Txt.item (Str.ofString "-r") a = ⟨[ch (decide (a = 1)) 114].toArray⟩ := by rcases h with rfl | rfl <;> decide +kernel
theorem item_w {a : Int} (h : a = 0 ∨ a = 1) : Txt.item (Str.ofString "-w") a = ⟨[ch (decide (a = 1)) 119].toArray⟩ := by rcases h with rfl | rfl <;> decide +kernel
theorem item_s {d s : Int} (h : d = 0 ∨ d = 1) (hs : s = 0 ∨ s = 1) : Txt.item (if s = 0 then Str.ofString "-x" else Str.ofString "Ss") d = ⟨[ex (decide (d = 1)) (decide (s = 1)) 115 83].toArray⟩ := by
  rcases h with rfl | rfl <;> rcases hs with rfl | rfl <;> decide +kernel
theorem item_t {d s : Int} (h : d = 0 ∨ d = 1) (hs : s = 0 ∨ s = 1) : Txt.item (if s = 0 then Str.ofString "-x" else Str.ofString "Tt") d = ⟨[ex (decide (d = 1)) (decide (s = 1)) 116 84].toArray⟩ := by
  rcases h with rfl | rfl <;> rcases hs with rfl | rfl <;> decide +kernel
theorem empty_str : Str.ofString "" = (⟨[].toArray⟩ : Str) := by decide +kernel
theorem bt_of {r a : Int} (k : Nat) (K : Int) (hK : (2 : Int) ^ k = K) (h : a = r / K % 2) : decide (a = 1) = bt r k := by unfold bt; rw [hK, h]
theorem two_of {a z : Int} (h : a = z % 2) : a = 0 ∨ a = 1 := by omega
theorem nine_text {r a0 b0 d0 a1 b1 d1 a2 b2 d2 s0 s1 s2 : Int} {c0 c1 c2 : Str}
    (hc0 : c0 = if s0 = 0 then Str.ofString "-x" else Str.ofString "Ss") (hc1 : c1 = if s1 = 0 then Str.ofString "-x" else Str.ofString "Ss") (hc2 : c2 = if s2 = 0 then Str.ofString "-x" else Str.ofString "Tt")
    (ha0 : a0 = r / 256 % 2) (hb0 : b0 = r / 128 % 2) (hd0 : d0 = r / 64 % 2) (ha1 : a1 = r / 32 % 2) (hb1 : b1 = r / 16 % 2) (hd1 : d1 = r / 8 % 2) (ha2 : a2 = r / 4 % 2) (hb2 : b2 = r / 2 % 2) (hd2 : d2 = r / 1 % 2)
    (hs0 : s0 = r / 2048 % 2) (hs1 : s1 = r / 1024 % 2) (hs2 : s2 = r / 512 % 2) :
    Str.ofString "" ++ (Txt.item (Str.ofString "-r") a0 ++ Txt.item (Str.ofString "-w") b0 ++ Txt.item c0 d0) ++ (Txt.item (Str.ofString "-r") a1 ++ Txt.item (Str.ofString "-w") b1 ++ Txt.item c1 d1) ++ (Txt.item (Str.ofString "-r") a2 ++ Txt.item (Str.ofString "-w") b2 ++ Txt.item c2 d2) = nine r := by
  subst hc0 hc1 hc2
  rw [item_r (two_of ha0), item_r (two_of ha1), item_r (two_of ha2), item_w (two_of hb0), item_w (two_of hb1), item_w (two_of hb2), item_s (two_of hd0) (two_of hs0), item_s (two_of hd1) (two_of hs1), item_t (two_of hd2) (two_of hs2), empty_str]
  rw [bt_of 8 256 rfl ha0, bt_of 7 128 rfl hb0, bt_of 6 64 rfl hd0, bt_of 5 32 rfl ha1, bt_of 4 16 rfl hb1, bt_of 3 8 rfl hd1, bt_of 2 4 rfl ha2, bt_of 1 2 rfl hb2, bt_of 0 1 rfl hd2, bt_of 11 2048 rfl hs0, bt_of 10 1024 rfl hs1, bt_of 9 512 rfl hs2]
  simp only [app, List.cons_append, List.nil_append]
  rfl
theorem fig4 {a f y r K : Int} (K' : Int) (ha : a = f / 4) (hf : f = y % 8) (hy : y = r / K) (hK : K' = K * 4) (h0 : 0 ≤ K) : a = r / K' % 2 := by
  subst ha hf hy; rw [hK, ← Int.ediv_ediv_of_nonneg h0]; omega
theorem fig2 {b w f y r K : Int} (K' : Int) (hb : b = w % 2) (hw : w = f / 2) (hf : f = y % 8) (hy : y = r / K) (hK : K' = K * 2) (h0 : 0 ≤ K) : b = r / K' % 2 := by
  subst hb hw hf hy; rw [hK, ← Int.ediv_ediv_of_nonneg h0]; omega
theorem fig1 {d f y z : Int} (hd : d = f % 2) (hf : f = y % 8) (hy : y = z) : d = z % 2 := by omega
theorem nine_text2 {r a0 b0 d0 a1 b1 d1 a2 b2 d2 s0 s1 s2 f0 f1 f2 y0 y1 y2 w0 w1 w2 q0 q1 q2 : Int} {c0 c1 c2 : Str}
    (hc0 : c0 = if s0 = 0 then Str.ofString "-x" else Str.ofString "Ss") (hc1 : c1 = if s1 = 0 then Str.ofString "-x" else Str.ofString "Ss") (hc2 : c2 = if s2 = 0 then Str.ofString "-x" else Str.ofString "Tt")
    (ha0 : a0 = f0 / 4) (ha1 : a1 = f1 / 4) (ha2 : a2 = f2 / 4) (hb0 : b0 = w0 % 2) (hb1 : b1 = w1 % 2) (hb2 : b2 = w2 % 2) (hw0 : w0 = f0 / 2) (hw1 : w1 = f1 / 2) (hw2 : w2 = f2 / 2) (hd0 : d0 = f0 % 2) (hd1 : d1 = f1 % 2) (hd2 : d2 = f2 % 2)
    (hf0 : f0 = y0 % 8) (hf1 : f1 = y1 % 8) (hf2 : f2 = y2 % 8) (hy0 : y0 = r / 64) (hy1 : y1 = r / 8) (hy2 : y2 = r)
    (hs0 : s0 = q0 % 2) (hs1 : s1 = q1 % 2) (hs2 : s2 = q2 % 2) (hq0 : q0 = r / 2048) (hq1 : q1 = r / 1024) (hq2 : q2 = r / 512) :
    Str.ofString "" ++ (Txt.item (Str.ofString "-r") a0 ++ Txt.item (Str.ofString "-w") b0 ++ Txt.item c0 d0) ++ (Txt.item (Str.ofString "-r") a1 ++ Txt.item (Str.ofString "-w") b1 ++ Txt.item c1 d1) ++ (Txt.item (Str.ofString "-r") a2 ++ Txt.item (Str.ofString "-w") b2 ++ Txt.item c2 d2) = nine r :=
  have hy2' : y2 = r / 1 := hy2.trans (Int.ediv_one r).symm
  nine_text hc0 hc1 hc2 (fig4 256 ha0 hf0 hy0 rfl (by decide)) (fig2 128 hb0 hw0 hf0 hy0 rfl (by decide)) (fig1 hd0 hf0 hy0) (fig4 32 ha1 hf1 hy1 rfl (by decide)) (fig2 16 hb1 hw1 hf1 hy1 rfl (by decide)) (fig1 hd1 hf1 hy1) (fig4 4 ha2 hf2 hy2' rfl (by decide)) (fig2 2 hb2 hw2 hf2 hy2' rfl (by decide)) (fig1 hd2 hf2 hy2')
    (hs0.trans (congrArg (· % 2) hq0)) (hs1.trans (congrArg (· % 2) hq1)) (hs2.trans (congrArg (· % 2) hq2))
/-- the ten signs: the kind's and the nine -/
theorem signs_dir {r : Int} (hr : 0 ≤ r ∧ r < 4096) : Str.ofString "d" ++ nine r = signs (16384 + r) := by
  rw [show Str.ofString "d" = (⟨[100].toArray⟩ : Str) from by decide +kernel]
  have e14 : bt (16384 + r) 14 = true := by unfold bt; rw [show (2 : Int) ^ 14 = 16384 from rfl]; exact decide_eq_true (by omega)
  have e : ∀ k K, (2 : Int) ^ k = K → (16384 + r) / K % 2 = r / K % 2 → bt (16384 + r) k = bt r k := fun k K hK h => by unfold bt; rw [hK, h]
  unfold nine signs signsA
  rw [e14, e 11 2048 rfl (by rw [Int.add_comm]; exact low_bit 4 (by decide) (by decide)), e 10 1024 rfl (by rw [Int.add_comm]; exact low_bit 8 (by decide) (by decide)), e 9 512 rfl (by rw [Int.add_comm]; exact low_bit 16 (by decide) (by decide)), e 8 256 rfl (by rw [Int.add_comm]; exact low_bit 32 (by decide) (by decide)), e 7 128 rfl (by rw [Int.add_comm]; exact low_bit 64 (by decide) (by decide)), e 6 64 rfl (by rw [Int.add_comm]; exact low_bit 128 (by decide) (by decide)), e 5 32 rfl (by rw [Int.add_comm]; exact low_bit 256 (by decide) (by decide)), e 4 16 rfl (by rw [Int.add_comm]; exact low_bit 512 (by decide) (by decide)), e 3 8 rfl (by rw [Int.add_comm]; exact low_bit 1024 (by decide) (by decide)), e 2 4 rfl (by rw [Int.add_comm]; exact low_bit 2048 (by decide) (by decide)), e 1 2 rfl (by rw [Int.add_comm]; exact low_bit 4096 (by decide) (by decide)), e 0 1 rfl (by rw [Int.add_comm]; exact low_bit 8192 (by decide) (by decide)), app]
  simp only [List.cons_append, List.nil_append, if_true]
theorem signs_reg {r : Int} (hr : 0 ≤ r ∧ r < 4096) : Str.ofString "-" ++ nine r = signs (32768 + r) := by
  rw [show Str.ofString "-" = (⟨[45].toArray⟩ : Str) from by decide +kernel]
  have e14 : bt (32768 + r) 14 = false := by unfold bt; rw [show (2 : Int) ^ 14 = 16384 from rfl]; exact decide_eq_false (by omega)
  have e : ∀ k K, (2 : Int) ^ k = K → (32768 + r) / K % 2 = r / K % 2 → bt (32768 + r) k = bt r k := fun k K hK h => by unfold bt; rw [hK, h]
  unfold nine signs signsA
  rw [e14, e 11 2048 rfl (by rw [Int.add_comm]; exact low_bit 8 (by decide) (by decide)), e 10 1024 rfl (by rw [Int.add_comm]; exact low_bit 16 (by decide) (by decide)), e 9 512 rfl (by rw [Int.add_comm]; exact low_bit 32 (by decide) (by decide)), e 8 256 rfl (by rw [Int.add_comm]; exact low_bit 64 (by decide) (by decide)), e 7 128 rfl (by rw [Int.add_comm]; exact low_bit 128 (by decide) (by decide)), e 6 64 rfl (by rw [Int.add_comm]; exact low_bit 256 (by decide) (by decide)), e 5 32 rfl (by rw [Int.add_comm]; exact low_bit 512 (by decide) (by decide)), e 4 16 rfl (by rw [Int.add_comm]; exact low_bit 1024 (by decide) (by decide)), e 3 8 rfl (by rw [Int.add_comm]; exact low_bit 2048 (by decide) (by decide)), e 2 4 rfl (by rw [Int.add_comm]; exact low_bit 4096 (by decide) (by decide)), e 1 2 rfl (by rw [Int.add_comm]; exact low_bit 8192 (by decide) (by decide)), e 0 1 rfl (by rw [Int.add_comm]; exact low_bit 16384 (by decide) (by decide)), app]
  simp only [List.cons_append, List.nil_append, Bool.false_eq_true, if_false]
end Mine
namespace Mine
/-! who may -/
def homeOf (user : Int) : Int := [0, 1, 1, 2].getD user.toNat 0
def mayB (ow gr x user need : Int) : Bool :=
  if user = 0 then (decide (need < 2) || bt x 14 || (bt x (8 - need.toNat) || bt x (5 - need.toNat) || bt x (2 - need.toNat)))
  else if user = ow then bt x (8 - need.toNat)
  else if gr = homeOf user then bt x (5 - need.toNat) else bt x (2 - need.toNat)
section
variable {ow gr x user need : Int}
theorem may_1 (hu : user = 0) (h : need < 2) : decide (need < 2) = mayB ow gr x user need := by unfold mayB; rw [if_pos hu, decide_eq_true h]; rfl
theorem may_2 (hu : user = 0) (h : ¬need < 2) (hb : bt x 14 = true) : bt x 14 = mayB ow gr x user need := by unfold mayB; rw [if_pos hu, decide_eq_false h, hb]; rfl
theorem may_3 (hu : user = 0) (h : ¬need < 2) (hb : bt x 14 = false) : (bt x (8 - 3 * (0 + ((0 : Nat) : Int)).toNat - need.toNat) || bt x (8 - 3 * (0 + ((0 + 1 : Nat) : Int)).toNat - need.toNat) || bt x (8 - 3 * (0 + ((0 + 1 + 1 : Nat) : Int)).toNat - need.toNat)) = mayB ow gr x user need := by unfold mayB; rw [if_pos hu, decide_eq_false h, hb]; rfl
theorem may_4 (hu : user ≠ 0) (h : user = ow) : bt x (8 - 3 * (0 + ((0 : Nat) : Int)).toNat - need.toNat) = mayB ow gr x user need := by unfold mayB; rw [if_neg hu, if_pos h]; rfl
theorem may_5 (hu : user ≠ 0) (h : user ≠ ow) (hg : gr = [0, 1, 1, 2].getD user.toNat 0) : bt x (8 - 3 * (0 + ((0 + 1 : Nat) : Int)).toNat - need.toNat) = mayB ow gr x user need := by unfold mayB; rw [if_neg hu, if_neg h, if_pos (show gr = homeOf user from hg)]; rfl
theorem may_6 (hu : user ≠ 0) (h : user ≠ ow) (hg : gr ≠ [0, 1, 1, 2].getD user.toNat 0) : bt x (8 - 3 * (0 + ((0 + 1 + 1 : Nat) : Int)).toNat - need.toNat) = mayB ow gr x user need := by unfold mayB; rw [if_neg hu, if_neg h, if_neg (show gr ≠ homeOf user from hg)]; rfl
end
end Mine
namespace Mine
/-- a thing: what it lies in, its owner, its group, its mode -/
structure St where
  ab : Int
  ow : Int
  gr : Int
  x : Int
def Wf (sts : List St) : Prop := ∀ (k : Nat) (st : St), sts[k]? = some st → OkM st.x ∧ (st.ab = -2 ∨ st.ab = -1 ∨ (0 ≤ st.ab ∧ st.ab < (k : Int)))
/-- may he go through all that lies above -/
def upF (sts : List St) (user : Int) : Nat → Int → Bool
  | 0, _ => true
  | f + 1, ab => if ab < 0 then true else match sts[ab.toNat]? with
    | none => true
    | some st => mayB st.ow st.gr st.x user 2 && upF sts user f st.ab
def up (sts : List St) (user ab : Int) : Bool := upF sts user (ab.toNat + 1) ab
theorem upF_any {sts : List St} (h : Wf sts) (user : Int) : ∀ (f g : Nat) (ab : Int), ab < f → ab < g → upF sts user f ab = upF sts user g ab := by
  intro f
  induction f with
  | zero =>
    intro g ab hf _
    have hn : ab < 0 := by omega
    cases g with
    | zero => rfl
    | succ g => simp only [upF, if_pos hn]
  | succ f ih =>
    intro g ab hf hg
    by_cases hn : ab < 0
    · cases g with
      | zero => simp only [upF, if_pos hn]
      | succ g => simp only [upF, if_pos hn]
    · cases g with
      | zero => omega
      | succ g =>
        simp only [upF, if_neg hn]
        cases e : sts[ab.toNat]? with
        | none => rfl
        | some st =>
          have w := (h _ _ e).2
          have t : (ab.toNat : Int) = ab := Int.toNat_of_nonneg (by omega)
          simp only []
          rw [ih g st.ab (by omega) (by omega)]
theorem up_neg (sts : List St) (user : Int) {ab : Int} (h : ab < 0) : up sts user ab = true := by unfold up; simp only [upF, if_pos h]
theorem up_pos {sts : List St} (hw : Wf sts) (user : Int) {ab : Int} (h : 0 ≤ ab) {st : St} (e : sts[ab.toNat]? = some st) : up sts user ab = (mayB st.ow st.gr st.x user 2 && up sts user st.ab) := by
  unfold up
  have w := (hw _ _ e).2
  have t : (ab.toNat : Int) = ab := Int.toNat_of_nonneg (by omega)
  rw [upF, if_neg (by omega), e]
  simp only []
  rw [upF_any hw user ab.toNat (st.ab.toNat + 1) st.ab (by omega) (by omega)]
end Mine
namespace Mine
/-! a deed, plainly -/
def deedOf (n : Int) : Int := [0, 1, 2, 3, 4, 5, 0, 1, 2, 5].getD (n % 10).toNat 0
def maskOf (user : Int) : Int := [493, 488, 509, 448].getD user.toNat 0
def no : Dat := .str (Str.ofString "no")
/-- what a deed answers and what it leaves, of the user, the thing's number, the rights -/
def act (sts : List St) (deed user k rights : Int) (st : St) : Dat × List St :=
  if st.ab = -2 ∨ up sts user st.ab = false then (no, sts)
  else if deed < 2 then
    if bt st.x 14 = false ∨ mayB st.ow st.gr st.x user 1 = false ∨ mayB st.ow st.gr st.x user 2 = false then (no, sts)
    else (.str (Str.ofString "made"), sts ++ [⟨k, user, if bt st.x 10 then st.gr else homeOf user, (if deed = 0 then 16384 else 32768) + (Builtin.bitAnd (rights % 512) (maskOf user) + if bt st.x 10 then 1024 * (1 - deed) else 0)⟩])
  else if deed = 2 then
    if user ≠ 0 ∧ user ≠ st.ow then (no, sts)
    else (.str (Str.ofString "set"), sts.set k.toNat ⟨st.ab, st.ow, st.gr, if user ≠ 0 ∧ st.gr ≠ homeOf user then unmk (st.x - st.x % 4096 + rights) 10 else st.x - st.x % 4096 + rights⟩)
  else if deed = 3 then
    if user ≠ 0 then (no, sts)
    else (.str (Str.ofString "given"), sts.set k.toNat ⟨st.ab, rights % 4, rights / 4 % 3, if bt st.x 14 then st.x else if bt (unmk st.x 11) 3 then unmk (unmk st.x 11) 10 else unmk st.x 11⟩)
  else if deed = 4 then
    if st.ab < 0 ∨ k ∈ sts.map St.ab then (no, sts)
    else match sts[st.ab.toNat]? with
      | none => (no, sts)
      | some u =>
        if mayB u.ow u.gr u.x user 1 = false ∨ mayB u.ow u.gr u.x user 2 = false then (no, sts)
        else if bt u.x 9 = true ∧ ¬(user = 0 ∨ user = st.ow ∨ user = u.ow) then (no, sts)
        else (.str (Str.ofString "gone"), sts.set k.toNat ⟨-2, st.ow, st.gr, st.x⟩)
  else if bt st.x 14 = true ∨ mayB st.ow st.gr st.x user 2 = false then (no, sts)
  else (.list [.int (if bt st.x 11 then st.ow else user), .int (if bt st.x 10 && bt st.x 3 then st.gr else homeOf user)], sts)
def deedP (sts : List St) (n : Int) : Dat × List St :=
  match sts[(n / 100 % 10 % (sts.length : Int)).toNat]? with
  | none => (no, sts)
  | some st => act sts (deedOf n) (n / 10 % 10 % 4) (n / 100 % 10 % (sts.length : Int)) (n / 1000 % 4096) st
section
variable {sts : List St} {d u k r ab ow gr x : Int}
theorem deed_eq {n d1 u1 u2 k1 k2 r1 : Int} {st : St} (e1 : d1 = n % 10) (e2 : d = [0, 1, 2, 3, 4, 5, 0, 1, 2, 5].getD d1.toNat 0) (e3 : u1 = n / 10) (e4 : u2 = u1 % 10) (e5 : u = u2 % 4) (e6 : k1 = n / 100) (e7 : k2 = k1 % 10) (e8 : k = k2 % (sts.length : Int)) (e9 : r1 = n / 1000) (e10 : r = r1 % 4096)
    (ek : sts[k.toNat]? = some st) : deedP sts n = act sts d u k r st := by
  subst e1 e2 e3 e4 e5 e6 e7 e8 e9 e10
  unfold deedP
  rw [ek]
  rfl
theorem act_n1 (h : ab = -2) : act sts d u k r ⟨ab, ow, gr, x⟩ = (no, sts) := by simp [act, h]
theorem act_n2 (h : up sts u ab = false) : act sts d u k r ⟨ab, ow, gr, x⟩ = (no, sts) := by simp [act, h]
theorem act_go (h : ab ≠ -2) (h2 : up sts u ab = true) : ¬((⟨ab, ow, gr, x⟩ : St).ab = -2 ∨ up sts u (⟨ab, ow, gr, x⟩ : St).ab = false) := by simp [h, h2]
theorem act_n3 (a1 : ab ≠ -2) (a2 : up sts u ab = true) (hd : d < 2) (h : bt x 14 = false) : act sts d u k r ⟨ab, ow, gr, x⟩ = (no, sts) := by
  unfold act; rw [if_neg (act_go a1 a2), if_pos hd, if_pos (Or.inl h)]
theorem act_n4 (a1 : ab ≠ -2) (a2 : up sts u ab = true) (hd : d < 2) (h : mayB ow gr x u 1 = false) : act sts d u k r ⟨ab, ow, gr, x⟩ = (no, sts) := by
  unfold act; rw [if_neg (act_go a1 a2), if_pos hd, if_pos (Or.inr (Or.inl h))]
theorem act_n5 (a1 : ab ≠ -2) (a2 : up sts u ab = true) (hd : d < 2) (h : mayB ow gr x u 2 = false) : act sts d u k r ⟨ab, ow, gr, x⟩ = (no, sts) := by
  unfold act; rw [if_neg (act_go a1 a2), if_pos hd, if_pos (Or.inr (Or.inr h))]
theorem act_n6 (a1 : ab ≠ -2) (a2 : up sts u ab = true) (h0 : ¬d < 2) (hd : d = 2) (h : u ≠ 0) (h' : u ≠ ow) : act sts d u k r ⟨ab, ow, gr, x⟩ = (no, sts) := by
  unfold act; rw [if_neg (act_go a1 a2), if_neg h0, if_pos hd, if_pos ⟨h, h'⟩]
theorem act_n7 (a1 : ab ≠ -2) (a2 : up sts u ab = true) (h0 : ¬d < 2) (hd : d = 3) (h : u ≠ 0) : act sts d u k r ⟨ab, ow, gr, x⟩ = (no, sts) := by
  unfold act; rw [if_neg (act_go a1 a2), if_neg h0, if_neg (by omega), if_pos hd, if_pos h]
theorem act_n8 (a1 : ab ≠ -2) (a2 : up sts u ab = true) (h0 : ¬d < 2) (hd : d = 4) (h : ab < 0) : act sts d u k r ⟨ab, ow, gr, x⟩ = (no, sts) := by
  unfold act; rw [if_neg (act_go a1 a2), if_neg h0, if_neg (by omega), if_neg (by omega), if_pos hd, if_pos (Or.inl h)]
theorem any_mem {ns : List Int} {k : Int} : (ns.any (· == k)) = true ↔ k ∈ ns := by
  rw [List.any_eq_true]
  constructor
  · rintro ⟨y, hy, e⟩
    have := eq_of_beq e
    exact this ▸ hy
  · intro h
    exact ⟨k, h, beq_self_eq_true k⟩
theorem act_n9 (a1 : ab ≠ -2) (a2 : up sts u ab = true) (h0 : ¬d < 2) (hd : d = 4) (h : (sts.map St.ab).any (· == k) = true) : act sts d u k r ⟨ab, ow, gr, x⟩ = (no, sts) := by
  unfold act; rw [if_neg (act_go a1 a2), if_neg h0, if_neg (by omega), if_neg (by omega), if_pos hd, if_pos (Or.inr (any_mem.mp h))]
theorem act_4 {a' o' g' x' : Int} (a1 : ab ≠ -2) (a2 : up sts u ab = true) (h0 : ¬d < 2) (hd : d = 4) (ha : ¬ab < 0) (h : (sts.map St.ab).any (· == k) = false) (eu : sts[ab.toNat]? = some ⟨a', o', g', x'⟩) : act sts d u k r ⟨ab, ow, gr, x⟩ =
    (if mayB o' g' x' u 1 = false ∨ mayB o' g' x' u 2 = false then (no, sts)
        else if bt x' 9 = true ∧ ¬(u = 0 ∨ u = ow ∨ u = o') then (no, sts)
        else (.str (Str.ofString "gone"), sts.set k.toNat ⟨-2, ow, gr, x⟩)) := by
  have hm : k ∉ sts.map St.ab := fun q => by rw [any_mem.mpr q] at h; exact Bool.noConfusion h
  unfold act; rw [if_neg (act_go a1 a2), if_neg h0, if_neg (by omega), if_neg (by omega), if_pos hd, if_neg (fun q => q.elim ha hm)]
  simp only [eu]
theorem in3 {u ow o' : Int} : ([0, ow, o'].any (· == u)) = true ↔ (u = 0 ∨ u = ow ∨ u = o') := by rw [any_mem]; simp
theorem act_n10 {a' o' g' x' : Int} (a1 : ab ≠ -2) (a2 : up sts u ab = true) (h0 : ¬d < 2) (hd : d = 4) (ha : ¬ab < 0) (h : (sts.map St.ab).any (· == k) = false) (eu : sts[ab.toNat]? = some ⟨a', o', g', x'⟩) (hm : mayB o' g' x' u 1 = false) : act sts d u k r ⟨ab, ow, gr, x⟩ = (no, sts) := by
  rw [act_4 a1 a2 h0 hd ha h eu, if_pos (Or.inl hm)]
theorem act_n11 {a' o' g' x' : Int} (a1 : ab ≠ -2) (a2 : up sts u ab = true) (h0 : ¬d < 2) (hd : d = 4) (ha : ¬ab < 0) (h : (sts.map St.ab).any (· == k) = false) (eu : sts[ab.toNat]? = some ⟨a', o', g', x'⟩) (hm : mayB o' g' x' u 2 = false) : act sts d u k r ⟨ab, ow, gr, x⟩ = (no, sts) := by
  rw [act_4 a1 a2 h0 hd ha h eu, if_pos (Or.inr hm)]
theorem act_n12 {a' o' g' x' : Int} (a1 : ab ≠ -2) (a2 : up sts u ab = true) (h0 : ¬d < 2) (hd : d = 4) (ha : ¬ab < 0) (h : (sts.map St.ab).any (· == k) = false) (eu : sts[ab.toNat]? = some ⟨a', o', g', x'⟩) (m1 : mayB o' g' x' u 1 = true) (m2 : mayB o' g' x' u 2 = true)
    (hb : bt x' (11 - Int.toNat 2) = true) (hi : ([0, ow, o'].any (· == u)) = false) : act sts d u k r ⟨ab, ow, gr, x⟩ = (no, sts) := by
  rw [act_4 a1 a2 h0 hd ha h eu, if_neg (by simp [m1, m2]), if_pos ⟨hb, fun q => by rw [in3.mpr q] at hi; exact Bool.noConfusion hi⟩]
theorem act_gone1 {a' o' g' x' : Int} (a1 : ab ≠ -2) (a2 : up sts u ab = true) (h0 : ¬d < 2) (hd : d = 4) (ha : ¬ab < 0) (h : (sts.map St.ab).any (· == k) = false) (eu : sts[ab.toNat]? = some ⟨a', o', g', x'⟩) (m1 : mayB o' g' x' u 1 = true) (m2 : mayB o' g' x' u 2 = true)
    (hb : bt x' (11 - Int.toNat 2) = false) : act sts d u k r ⟨ab, ow, gr, x⟩ = (.str (Str.ofString "gone"), sts.set k.toNat ⟨-2, ow, gr, x⟩) := by
  rw [act_4 a1 a2 h0 hd ha h eu, if_neg (by simp [m1, m2]), if_neg (fun q => by have q1 := q.1; rw [show bt x' 9 = false from hb] at q1; exact Bool.noConfusion q1)]
theorem act_gone2 {a' o' g' x' : Int} (a1 : ab ≠ -2) (a2 : up sts u ab = true) (h0 : ¬d < 2) (hd : d = 4) (ha : ¬ab < 0) (h : (sts.map St.ab).any (· == k) = false) (eu : sts[ab.toNat]? = some ⟨a', o', g', x'⟩) (m1 : mayB o' g' x' u 1 = true) (m2 : mayB o' g' x' u 2 = true)
    (hi : ([0, ow, o'].any (· == u)) = true) : act sts d u k r ⟨ab, ow, gr, x⟩ = (.str (Str.ofString "gone"), sts.set k.toNat ⟨-2, ow, gr, x⟩) := by
  rw [act_4 a1 a2 h0 hd ha h eu, if_neg (by simp [m1, m2]), if_neg (fun q => q.2 (in3.mp hi))]
theorem act_n13 (a1 : ab ≠ -2) (a2 : up sts u ab = true) (h0 : ¬d < 2) (h2 : d ≠ 2) (h3 : d ≠ 3) (h4 : d ≠ 4) (h : bt x 14 = true) : act sts d u k r ⟨ab, ow, gr, x⟩ = (no, sts) := by
  unfold act; rw [if_neg (act_go a1 a2), if_neg h0, if_neg h2, if_neg h3, if_neg h4, if_pos (Or.inl h)]
theorem act_n14 (a1 : ab ≠ -2) (a2 : up sts u ab = true) (h0 : ¬d < 2) (h2 : d ≠ 2) (h3 : d ≠ 3) (h4 : d ≠ 4) (h : mayB ow gr x u 2 = false) : act sts d u k r ⟨ab, ow, gr, x⟩ = (no, sts) := by
  unfold act; rw [if_neg (act_go a1 a2), if_neg h0, if_neg h2, if_neg h3, if_neg h4, if_pos (Or.inr h)]
theorem act_run (a1 : ab ≠ -2) (a2 : up sts u ab = true) (h0 : ¬d < 2) (h2 : d ≠ 2) (h3 : d ≠ 3) (h4 : d ≠ 4) (h : bt x 14 = false) (hm : mayB ow gr x u 2 = true) : act sts d u k r ⟨ab, ow, gr, x⟩ =
    (.list [.int (if bt x 11 then ow else u), .int (if bt x 10 && bt x 3 then gr else homeOf u)], sts) := by
  unfold act; rw [if_neg (act_go a1 a2), if_neg h0, if_neg h2, if_neg h3, if_neg h4, if_neg (by simp [h, hm])]
theorem act_made1 {z m w1 w2 w : Int} (a1 : ab ≠ -2) (a2 : up sts u ab = true) (hd : d < 2) (h : bt x 14 = true) (m1 : mayB ow gr x u 1 = true) (m2 : mayB ow gr x u 2 = true) (e1 : w1 = r % 512) (e2 : w2 = [493, 488, 509, 448].getD u.toNat 0) (e3 : w = Builtin.bitAnd w1 w2) (hb : bt x (11 - Int.toNat 1) = true)
    (ez : z = (if (d == 0) = true then 16384 else 32768) + (w + 1024 * (1 - d))) (em : m = gr) : act sts d u k r ⟨ab, ow, gr, x⟩ = (.str (Str.ofString "made"), sts ++ [⟨k, u, m, z⟩]) := by
  subst e1 e2 e3 ez em
  have hb' : bt x 10 = true := hb
  unfold act; rw [if_neg (act_go a1 a2), if_pos hd, if_neg (by simp [h, m1, m2])]
  simp [hb', maskOf]
theorem act_made2 {z m w1 w2 w : Int} (a1 : ab ≠ -2) (a2 : up sts u ab = true) (hd : d < 2) (h : bt x 14 = true) (m1 : mayB ow gr x u 1 = true) (m2 : mayB ow gr x u 2 = true) (e1 : w1 = r % 512) (e2 : w2 = [493, 488, 509, 448].getD u.toNat 0) (e3 : w = Builtin.bitAnd w1 w2) (hb : bt x (11 - Int.toNat 1) = false)
    (ez : z = (if (d == 0) = true then 16384 else 32768) + w) (em : m = [0, 1, 1, 2].getD u.toNat 0) : act sts d u k r ⟨ab, ow, gr, x⟩ = (.str (Str.ofString "made"), sts ++ [⟨k, u, m, z⟩]) := by
  subst e1 e2 e3 ez em
  have hb' : bt x 10 = false := hb
  unfold act; rw [if_neg (act_go a1 a2), if_pos hd, if_neg (by simp [h, m1, m2])]
  simp [hb', maskOf, homeOf]
theorem act_set {z : Int} (a1 : ab ≠ -2) (a2 : up sts u ab = true) (h0 : ¬d < 2) (hd : d = 2) (hu : u = 0 ∨ u = ow) (ez : z = if u ≠ 0 ∧ gr ≠ homeOf u then unmk (x - x % 4096 + r) 10 else x - x % 4096 + r) : act sts d u k r ⟨ab, ow, gr, x⟩ = (.str (Str.ofString "set"), sts.set k.toNat ⟨ab, ow, gr, z⟩) := by
  subst ez
  unfold act; rw [if_neg (act_go a1 a2), if_neg h0, if_pos hd, if_neg (fun q => hu.elim q.1 q.2)]
theorem set_z1 (h : u ≠ 0) (hg : gr ≠ homeOf u) : unmk (x - x % 4096 + r) (11 - Int.toNat 1) = if u ≠ 0 ∧ gr ≠ homeOf u then unmk (x - x % 4096 + r) 10 else x - x % 4096 + r := by rw [if_pos ⟨h, hg⟩]; rfl
theorem set_z2 (h : gr = homeOf u) : x - x % 4096 + r = if u ≠ 0 ∧ gr ≠ homeOf u then unmk (x - x % 4096 + r) 10 else x - x % 4096 + r := by rw [if_neg (fun q => q.2 h)]
theorem set_z3 (h : u = 0) : x - x % 4096 + r = if u ≠ 0 ∧ gr ≠ homeOf u then unmk (x - x % 4096 + r) 10 else x - x % 4096 + r := by rw [if_neg (fun q => q.1 h)]
theorem act_given {z o g : Int} (a1 : ab ≠ -2) (a2 : up sts u ab = true) (h0 : ¬d < 2) (hd : d = 3) (hu : u = 0) (eo : o = r % 4) (eg : g = r / 4 % 3) (ez : z = if bt x 14 then x else if bt (unmk x 11) 3 then unmk (unmk x 11) 10 else unmk x 11) : act sts d u k r ⟨ab, ow, gr, x⟩ = (.str (Str.ofString "given"), sts.set k.toNat ⟨ab, o, g, z⟩) := by
  subst ez eo eg
  unfold act; rw [if_neg (act_go a1 a2), if_neg h0, if_neg (by omega), if_pos hd, if_neg (fun q => q hu)]
theorem given_z1 (h : bt x 14 = true) : x = if bt x 14 then x else if bt (unmk x 11) 3 then unmk (unmk x 11) 10 else unmk x 11 := by rw [h]; rfl
theorem given_z2 (h : bt x 14 = false) (h' : bt (unmk x (11 - Int.toNat 0)) (8 - 3 * Int.toNat 1 - Int.toNat 2) = true) : unmk (unmk x (11 - Int.toNat 0)) (11 - Int.toNat 1) = if bt x 14 then x else if bt (unmk x 11) 3 then unmk (unmk x 11) 10 else unmk x 11 := by rw [h, show bt (unmk x 11) 3 = true from h']; rfl
theorem given_z3 (h : bt x 14 = false) (h' : bt (unmk x (11 - Int.toNat 0)) (8 - 3 * Int.toNat 1 - Int.toNat 2) = false) : unmk x (11 - Int.toNat 0) = if bt x 14 then x else if bt (unmk x 11) 3 then unmk (unmk x 11) 10 else unmk x 11 := by rw [h, show bt (unmk x 11) 3 = false from h']; rfl
theorem act_run' {p q : Int} (a1 : ab ≠ -2) (a2 : up sts u ab = true) (h0 : ¬d < 2) (h2 : d ≠ 2) (h3 : d ≠ 3) (h4 : d ≠ 4) (h : bt x 14 = false) (hm : mayB ow gr x u 2 = true) (ep : p = if bt x 11 then ow else u) (eq : q = if bt x 10 && bt x 3 then gr else homeOf u) : act sts d u k r ⟨ab, ow, gr, x⟩ =
    (.list [.int p, .int q], sts) := by rw [ep, eq]; exact act_run a1 a2 h0 h2 h3 h4 h hm
theorem run_p1 (h : bt x (11 - Int.toNat 0) = true) : ow = if bt x 11 then ow else u := by rw [show bt x 11 = true from h]; rfl
theorem run_p2 (h : bt x (11 - Int.toNat 0) = false) : u = if bt x 11 then ow else u := by rw [show bt x 11 = false from h]; rfl
theorem run_q1 (h : bt x (11 - Int.toNat 1) = true) (h' : bt x (8 - 3 * Int.toNat 1 - Int.toNat 2) = true) : gr = if bt x 10 && bt x 3 then gr else homeOf u := by rw [show bt x 10 = true from h, show bt x 3 = true from h']; rfl
theorem run_q2 {z : Int} (e : z = [0, 1, 1, 2].getD u.toNat 0) (h : bt x (11 - Int.toNat 1) = false) : z = if bt x 10 && bt x 3 then gr else homeOf u := by rw [show bt x 10 = false from h]; exact e
theorem run_q3 {z : Int} (e : z = [0, 1, 1, 2].getD u.toNat 0) (h : bt x (8 - 3 * Int.toNat 1 - Int.toNat 2) = false) : z = if bt x 10 && bt x 3 then gr else homeOf u := by rw [show bt x 3 = false from h, Bool.and_false]; exact e
theorem set_y1 {z : Int} (e : z = [0, 1, 1, 2].getD u.toNat 0) (h : u ≠ 0) (hg : gr ≠ z) : unmk (x - x % 4096 + r) (11 - Int.toNat 1) = if u ≠ 0 ∧ gr ≠ homeOf u then unmk (x - x % 4096 + r) 10 else x - x % 4096 + r := set_z1 h (fun q => hg (q.trans e.symm))
theorem set_y2 {z : Int} (e : z = [0, 1, 1, 2].getD u.toNat 0) (h : gr = z) : x - x % 4096 + r = if u ≠ 0 ∧ gr ≠ homeOf u then unmk (x - x % 4096 + r) 10 else x - x % 4096 + r := set_z2 (h.trans e)
theorem giv_g {g1 g : Int} (e1 : g1 = r / 4) (e : g = g1 % 3) : g = r / 4 % 3 := by rw [e, e1]
end
end Mine
namespace Mine
open_top hd for PySem.Challenge.rw_mj0336_01
/-- open_top leaves the walk in its mode for tops: off again -/
theorem top_off : True := by
  w_top off
  trivial
end Mine
namespace Mine

abbrev Led := List (Addr × Obj)
noncomputable abbrev Lo : List Str := looseW hd.view_39 [Str.ofString "_filemode_table"]

/-- a call of the def at f with the arguments vs, over the ledger news: it comes back, and Post tells the ledger and the value -/
def Tell (w : World) (d : Nat) (f : Addr) (vs : List Value) (news : Led) (Post : Led → Value → Prop) : Prop :=
  ∀ (mean : ExcName → Option Value) (mg mb : Str → Option Value) (dp un : Nat) (gd : Option (List Code)) (cn : Str) (cs : Scope) (a : Addr) (ccd : Value) (cl : List (Str × Addr)) (outer : List Env) (A₀ : Around) (base h₀ : Heap) (L : Addr) (m : Str → Option Value) (s : Shared) (Q E : Value → Shared → Prop),
    Below A₀ base outer h₀ → Fr h₀ L s.heap m → (hd.heap_39 w.params).In h₀ → News h₀ L s.heap news → Top hd.view_39 Lo mean mg mb h₀ → cs.kind = .function →
    dp + d < recursionLimit → un + 8 * d + 100 < cLine →
    (∀ (v : Value) (news' : Led) (h' : Heap) (tk' : Nat), Post news' v → Fr h₀ L h' m → News h₀ L h' news' → Q v { s with heap := h', toks := tk' }) →
    wpAny (model PySem.Challenge.rw_mj0336_01.row.prog w) (ktrTop dp un gd cn cs L a ccd cl outer) (call (.ref f) vs) Q E s
/-- the same, of a call that leaves no trace -/
def TellV (w : World) (d : Nat) (f : Addr) (vs : List Value) (R : Tok → Value) : Prop :=
  ∀ (mean : ExcName → Option Value) (mg mb : Str → Option Value) (dp un : Nat) (gd : Option (List Code)) (cn : Str) (cs : Scope) (a : Addr) (ccd : Value) (cl : List (Str × Addr)) (outer : List Env) (A₀ : Around) (base h₀ : Heap) (L : Addr) (m : Str → Option Value) (s : Shared) (news : Led) (Q E : Value → Shared → Prop),
    Below A₀ base outer h₀ → Fr h₀ L s.heap m → (hd.heap_39 w.params).In h₀ → News h₀ L s.heap news → Top hd.view_39 Lo mean mg mb h₀ → cs.kind = .function →
    dp + d < recursionLimit → un + 8 * d + 100 < cLine →
    (∀ (t : Tok) (h' : Heap) (tk' : Nat), Fr h₀ L h' m → News h₀ L h' news → Q (R t) { s with heap := h', toks := tk' }) →
    wpAny (model PySem.Challenge.rw_mj0336_01.row.prog w) (ktrTop dp un gd cn cs L a ccd cl outer) (call (.ref f) vs) Q E s

section
variable {w : World} {d : Nat} {f : Addr} {vs : List Value} {news : Led} {mean : ExcName → Option Value} {mg mb : Str → Option Value} {dp un : Nat} {gd : Option (List Code)} {cn : Str} {cs : Scope} {a : Addr} {ccd : Value} {cl : List (Str × Addr)} {outer : List Env} {A₀ : Around} {base h₀ : Heap} {L : Addr} {m : Str → Option Value} {s : Shared} {Q E : Value → Shared → Prop}
theorem Tell.use {Post : Led → Value → Prop} (C : Tell w d f vs news Post) (B : Below A₀ base outer h₀) (F : Fr h₀ L s.heap m) (X : (hd.heap_39 w.params).In h₀) (N : News h₀ L s.heap news) (T : Top hd.view_39 Lo mean mg mb h₀) (hk : cs.kind = .function)
    (hd : dp + d < recursionLimit) (hu : un + 8 * d + 100 < cLine)
    (ret : ∀ (v : Value) (news' : Led) (h' : Heap) (tk' : Nat), Post news' v → Fr h₀ L h' m → News h₀ L h' news' → Q v { s with heap := h', toks := tk' }) :
    wpAny (model PySem.Challenge.rw_mj0336_01.row.prog w) (ktrTop dp un gd cn cs L a ccd cl outer) (call (.ref f) vs) Q E s := C _ _ _ _ _ _ _ _ _ _ _ _ _ _ _ _ _ _ _ _ B F X N T hk hd hu ret
theorem TellV.use {R : Tok → Value} (C : TellV w d f vs R) (B : Below A₀ base outer h₀) (F : Fr h₀ L s.heap m) (X : (hd.heap_39 w.params).In h₀) (N : News h₀ L s.heap news) (T : Top hd.view_39 Lo mean mg mb h₀) (hk : cs.kind = .function)
    (hd : dp + d < recursionLimit) (hu : un + 8 * d + 100 < cLine)
    (ret : ∀ (t : Tok) (h' : Heap) (tk' : Nat), Fr h₀ L h' m → News h₀ L h' news → Q (R t) { s with heap := h', toks := tk' }) :
    wpAny (model PySem.Challenge.rw_mj0336_01.row.prog w) (ktrTop dp un gd cn cs L a ccd cl outer) (call (.ref f) vs) Q E s := C _ _ _ _ _ _ _ _ _ _ _ _ _ _ _ _ _ _ _ _ _ B F X N T hk hd hu ret
end

theorem gen_toks {α : Type} {M : Model} {A : Around} {t : Sem α} {Q : α → Shared → Prop} {E : Value → Shared → Prop} {hp : Heap} {g : Array GenState} {d : Drawn} {o : OsState} {k : Nat} (h : ∀ k, wpAny M A t Q E ⟨hp, g, d, k, o⟩) : wpAny M A t Q E ⟨hp, g, d, k, o⟩ := h k

theorem room2 {dp d x b : Nat} (h : dp + d < recursionLimit) (a : Nat) (hx : x = dp + a) (hk : a + b ≤ d) : x + b < recursionLimit := by
  subst hx; rw [Nat.add_assoc]; exact Nat.lt_of_le_of_lt (Nat.add_le_add_left hk dp) h
theorem room1 {dp d x : Nat} (h : dp + d < recursionLimit) (a : Nat) (hx : x = dp + a) (hk : a ≤ d) : x < recursionLimit := by
  subst hx; exact Nat.lt_of_le_of_lt (Nat.add_le_add_left hk dp) h
theorem units2 {un U W x : Nat} (h : un + U + 100 < cLine) (a : Nat) (hx : x = un + a) (hk : a + W ≤ U) : x + W + 100 < cLine := by
  subst hx; rw [Nat.add_assoc un]; exact Nat.lt_of_le_of_lt (Nat.add_le_add_right (Nat.add_le_add_left hk un) 100) h
theorem ne_fst {a b : Nat} {P : Prop} (h : b < a ∧ P) : a ≠ b := Nat.ne_of_gt h.1
theorem ne_snd {a b : Nat} {P R : Prop} (h : R ∧ b < a ∧ P) : a ≠ b := Nat.ne_of_gt h.2.1
theorem ne_thd {a b : Nat} {P R S : Prop} (h : S ∧ R ∧ b < a ∧ P) : a ≠ b := Nat.ne_of_gt h.2.2.1
theorem sub_cons {a l : Led} {x : Addr × Obj} (h : ∀ p ∈ a, p ∈ l) : ∀ p ∈ a, p ∈ x :: l := fun p q => List.mem_cons_of_mem _ (h p q)
/-- what bears a mode: an int in the first run, its ten signs in the second -/
def xV (hand m : Int) (t : Tok) : Value := if hand = 0 then .int m t else .str (signs m) t
theorem xV_zero (m : Int) (t : Tok) : xV 0 m t = .int m t := rfl
theorem xV_one (m : Int) (t : Tok) : xV 1 m t = .str (signs m) t := rfl
end Mine
namespace Mine

theorem item_signs (x : Int) : Txt.item (signs x) 2 = ⟨#[ch (bt x 7) 119]⟩ ∧ Txt.item (signs x) 3 = ⟨#[ex (bt x 6) (bt x 11) 115 83]⟩ ∧ Txt.item (signs x) 5 = ⟨#[ch (bt x 4) 119]⟩ ∧ Txt.item (signs x) 6 = ⟨#[ex (bt x 3) (bt x 10) 115 83]⟩ ∧ Txt.item (signs x) 8 = ⟨#[ch (bt x 1) 119]⟩ ∧ Txt.item (signs x) 9 = ⟨#[ex (bt x 0) (bt x 9) 116 84]⟩ := ⟨rfl, rfl, rfl, rfl, rfl, rfl⟩
theorem right_one (x c need : Int) (hc : c = 0 ∨ c = 1 ∨ c = 2) (hn : need = 1 ∨ need = 2) :
    (!(Builtin.Str.occurrences (Str.ofString "rwxst") (Txt.item (signs x) (1 + 3 * c + need)) 0 (Str.ofString "rwxst").length 1).isEmpty) = bt x (8 - 3 * c.toNat - need.toNat) := by
  obtain ⟨i2, i3, i5, i6, i8, i9⟩ := item_signs x
  rcases hc with rfl | rfl | rfl <;> rcases hn with rfl | rfl
  · rw [show (1 + 3 * 0 + 1 : Int) = 2 from rfl, i2, show (8 - 3 * (0 : Int).toNat - (1 : Int).toNat) = 7 from rfl]; cases bt x 7 <;> decide +kernel
  · rw [show (1 + 3 * 0 + 2 : Int) = 3 from rfl, i3, show (8 - 3 * (0 : Int).toNat - (2 : Int).toNat) = 6 from rfl]; cases bt x 6 <;> cases bt x 11 <;> decide +kernel
  · rw [show (1 + 3 * 1 + 1 : Int) = 5 from rfl, i5, show (8 - 3 * (1 : Int).toNat - (1 : Int).toNat) = 4 from rfl]; cases bt x 4 <;> decide +kernel
  · rw [show (1 + 3 * 1 + 2 : Int) = 6 from rfl, i6, show (8 - 3 * (1 : Int).toNat - (2 : Int).toNat) = 3 from rfl]; cases bt x 3 <;> cases bt x 10 <;> decide +kernel
  · rw [show (1 + 3 * 2 + 1 : Int) = 8 from rfl, i8, show (8 - 3 * (2 : Int).toNat - (1 : Int).toNat) = 1 from rfl]; cases bt x 1 <;> decide +kernel
  · rw [show (1 + 3 * 2 + 2 : Int) = 9 from rfl, i9, show (8 - 3 * (2 : Int).toNat - (2 : Int).toNat) = 0 from rfl]; cases bt x 0 <;> cases bt x 9 <;> decide +kernel
local macro_rules | `(tactic| walk_at $s:str) => `(tactic| k_extra $s)
theorem t_right1 (w : World) (x : Int) (t t1 t2 t3 : Tok) (c need : Int) (hc : c = 0 ∨ c = 1 ∨ c = 2) (hn : need = 1 ∨ need = 2) : TellV w 2 110 [.int 1 t1, .str (signs x) t, .int c t2, .int need t3] (fun t => .bool (bt x (8 - 3 * c.toNat - need.toNat))) := by
  k_with_none
  k_with "subscriptTail" => ((k_here; (with_reducible show wpAny _ _ (subscriptTail _ _ (Value.str (signs _) _) (Value.int _ _)) _ _ _); (refine KXi.item (signs_length _) (by omega) (by omega) (by decide) ?_); intro kxiE))
  k_with "subscriptTail" => ((k_here; (with_reducible show wpAny _ _ (subscriptTail _ (Expr.Name _ _) (Value.ref _) (Value.int _ _)) _ _ _); (with_reducible rename _ = (1 : Int) ∨ _ = (2 : Int) => hC); rcases hC with hC | hC <;> subst hC))
  k_with "subscriptTail" => ((k_here; (with_reducible show wpAny _ _ (subscriptTail _ (Expr.Name _ _) (Value.ref _) (Value.int _ _)) _ _ _); (with_reducible rename _ = (0 : Int) ∨ _ = (1 : Int) ∨ _ = (2 : Int) => hC); rcases hC with hC | hC | hC <;> subst hC))
  unfold TellV
  k_fill
  intro mean mg mb dp un gd cn cs a ccd cl outer A₀ base h₀ L m s news Q E B F X N T hk hdp hun hret
  refine wpAny_call ?_
  k_dflt (refine' code_def (binds := [(Str.ofString "hand", .int 1 t1), (Str.ofString "x", .str (signs x) t), (Str.ofString "c", .int c t2), (Str.ofString "need", .int need t3)]) ?k1 ?k2 ?k3 ?k4 ?k5 ?kA ?kF ?kK ?k6 ?k7 ?k8 ?k9 ?kB ?_ ?c2 ?c3 ?c4 ?c5; (case kA => exact rfl); (case kF => exact rfl); (case kK => assumption); (case k1 => k_asm); (case k2 => k_asm); (case k3 => k_asm); (case k4 => k_asm); (case k5 => k_asm); (case k6 => k_is); (case k7 => k_is); (case k8 => first | exact room1 hdp 0 rfl (by decide) | ktr_room); (case k9 => exact BindsTo.of_eq rfl); (case c5 => decide); (case kB => exact locs rfl); (case c2 => exact rfl); (case c3 => exact rfl); (case c4 => exact rfl); k_whole; intro g' L' h' FG' F' N' B' X' T'; (try dsimp only); (try k_lift B'); (try k_fold))
  k_steps
  all_goals exact cb_retB hret (right_one x c need hc hn) (by k_asm) (by k_asm)
theorem t_right0 (w : World) (x : Int) (t t1 t2 t3 : Tok) (c need : Int) (hc : c = 0 ∨ c = 1 ∨ c = 2) (hn : need = 1 ∨ need = 2) (h0 : 0 ≤ x) : TellV w 2 110 [.int 0 t1, .int x t, .int c t2, .int need t3] (fun t => .bool (bt x (8 - 3 * c.toNat - need.toNat))) := by
  unfold TellV
  k_fill
  intro mean mg mb dp un gd cn cs a ccd cl outer A₀ base h₀ L m s news Q E B F X N T hk hdp hun hret
  refine wpAny_call ?_
  k_dflt (refine' code_def (binds := [(Str.ofString "hand", .int 0 t1), (Str.ofString "x", .int x t), (Str.ofString "c", .int c t2), (Str.ofString "need", .int need t3)]) ?k1 ?k2 ?k3 ?k4 ?k5 ?kA ?kF ?kK ?k6 ?k7 ?k8 ?k9 ?kB ?_ ?c2 ?c3 ?c4 ?c5; (case kA => exact rfl); (case kF => exact rfl); (case kK => assumption); (case k1 => k_asm); (case k2 => k_asm); (case k3 => k_asm); (case k4 => k_asm); (case k5 => k_asm); (case k6 => k_is); (case k7 => k_is); (case k8 => first | exact room1 hdp 0 rfl (by decide) | ktr_room); (case k9 => exact BindsTo.of_eq rfl); (case c5 => decide); (case kB => exact locs rfl); (case c2 => exact rfl); (case c3 => exact rfl); (case c4 => exact rfl); k_whole; intro g' L' h' FG' F' N' B' X' T'; (try dsimp only); (try k_lift B'); (try k_fold))
  k_steps
  · exact cb_retB hret (and_bit' h0 7 _ rfl) (by k_asm) (cb_drop (by assumption) (by kcj_all))
  · exact cb_retB hret (and_bit' h0 6 _ rfl) (by k_asm) (cb_drop (by assumption) (by kcj_all))
  · exact cb_retB hret (and_bit' h0 4 _ rfl) (by k_asm) (cb_drop (by assumption) (by kcj_all))
  · exact cb_retB hret (and_bit' h0 3 _ rfl) (by k_asm) (cb_drop (by assumption) (by kcj_all))
  · exact cb_retB hret (and_bit' h0 1 _ rfl) (by k_asm) (cb_drop (by assumption) (by kcj_all))
  · exact cb_retB hret (and_bit' h0 0 _ rfl) (by k_asm) (cb_drop (by assumption) (by kcj_all))
theorem t_right (w : World) (hand : Int) (hh : hand = 0 ∨ hand = 1) (x : Int) (h0 : 0 ≤ x) (t t1 t2 t3 : Tok) (c need : Int) (hc : c = 0 ∨ c = 1 ∨ c = 2) (hn : need = 1 ∨ need = 2) :
    TellV w 2 110 [.int hand t1, xV hand x t, .int c t2, .int need t3] (fun _ => .bool (bt x (8 - 3 * c.toNat - need.toNat))) := by
  rcases hh with rfl | rfl
  · exact t_right0 w x t t1 t2 t3 c need hc hn h0
  · exact t_right1 w x t t1 t2 t3 c need hc hn

theorem mark_one (x c : Int) (hc : c = 0 ∨ c = 1 ∨ c = 2) :
    (!(Builtin.Str.occurrences (Str.ofString "sStT") (Txt.item (signs x) (3 + 3 * c)) 0 (Str.ofString "sStT").length 1).isEmpty) = bt x (11 - c.toNat) := by
  obtain ⟨i2, i3, i5, i6, i8, i9⟩ := item_signs x
  rcases hc with rfl | rfl | rfl
  · rw [show (3 + 3 * 0 : Int) = 3 from rfl, i3, show (11 - (0 : Int).toNat) = 11 from rfl]; cases bt x 6 <;> cases bt x 11 <;> decide +kernel
  · rw [show (3 + 3 * 1 : Int) = 6 from rfl, i6, show (11 - (1 : Int).toNat) = 10 from rfl]; cases bt x 3 <;> cases bt x 10 <;> decide +kernel
  · rw [show (3 + 3 * 2 : Int) = 9 from rfl, i9, show (11 - (2 : Int).toNat) = 9 from rfl]; cases bt x 0 <;> cases bt x 9 <;> decide +kernel
theorem t_mark1 (w : World) (x : Int) (t t1 t2 : Tok) (c : Int) (hc : c = 0 ∨ c = 1 ∨ c = 2) : TellV w 2 117 [.int 1 t1, .str (signs x) t, .int c t2] (fun t => .bool (bt x (11 - c.toNat))) := by
  unfold TellV
  k_fill
  intro mean mg mb dp un gd cn cs a ccd cl outer A₀ base h₀ L m s news Q E B F X N T hk hdp hun hret
  refine wpAny_call ?_
  k_dflt (refine' code_def (binds := [(Str.ofString "hand", .int 1 t1), (Str.ofString "x", .str (signs x) t), (Str.ofString "c", .int c t2)]) ?k1 ?k2 ?k3 ?k4 ?k5 ?kA ?kF ?kK ?k6 ?k7 ?k8 ?k9 ?kB ?_ ?c2 ?c3 ?c4 ?c5; (case kA => exact rfl); (case kF => exact rfl); (case kK => assumption); (case k1 => k_asm); (case k2 => k_asm); (case k3 => k_asm); (case k4 => k_asm); (case k5 => k_asm); (case k6 => k_is); (case k7 => k_is); (case k8 => first | exact room1 hdp 0 rfl (by decide) | ktr_room); (case k9 => exact BindsTo.of_eq rfl); (case c5 => decide); (case kB => exact locs rfl); (case c2 => exact rfl); (case c3 => exact rfl); (case c4 => exact rfl); k_whole; intro g' L' h' FG' F' N' B' X' T'; (try dsimp only); (try k_lift B'); (try k_fold))
  k_steps
  all_goals exact cb_retB hret (mark_one x c hc) (by k_asm) (by k_asm)
theorem t_mark0 (w : World) (x : Int) (t t1 t2 : Tok) (c : Int) (hc : c = 0 ∨ c = 1 ∨ c = 2) (h0 : 0 ≤ x) : TellV w 2 117 [.int 0 t1, .int x t, .int c t2] (fun t => .bool (bt x (11 - c.toNat))) := by
  unfold TellV
  k_fill
  intro mean mg mb dp un gd cn cs a ccd cl outer A₀ base h₀ L m s news Q E B F X N T hk hdp hun hret
  refine wpAny_call ?_
  k_dflt (refine' code_def (binds := [(Str.ofString "hand", .int 0 t1), (Str.ofString "x", .int x t), (Str.ofString "c", .int c t2)]) ?k1 ?k2 ?k3 ?k4 ?k5 ?kA ?kF ?kK ?k6 ?k7 ?k8 ?k9 ?kB ?_ ?c2 ?c3 ?c4 ?c5; (case kA => exact rfl); (case kF => exact rfl); (case kK => assumption); (case k1 => k_asm); (case k2 => k_asm); (case k3 => k_asm); (case k4 => k_asm); (case k5 => k_asm); (case k6 => k_is); (case k7 => k_is); (case k8 => first | exact room1 hdp 0 rfl (by decide) | ktr_room); (case k9 => exact BindsTo.of_eq rfl); (case c5 => decide); (case kB => exact locs rfl); (case c2 => exact rfl); (case c3 => exact rfl); (case c4 => exact rfl); k_whole; intro g' L' h' FG' F' N' B' X' T'; (try dsimp only); (try k_lift B'); (try k_fold))
  k_steps
  · exact cb_retB hret (and_bit' h0 11 _ rfl) (by k_asm) (cb_drop (by assumption) (by kcj_all))
  · exact cb_retB hret (and_bit' h0 10 _ rfl) (by k_asm) (cb_drop (by assumption) (by kcj_all))
  · exact cb_retB hret (and_bit' h0 9 _ rfl) (by k_asm) (cb_drop (by assumption) (by kcj_all))
theorem t_mark (w : World) (hand : Int) (hh : hand = 0 ∨ hand = 1) (x : Int) (h0 : 0 ≤ x) (t t1 t2 : Tok) (c : Int) (hc : c = 0 ∨ c = 1 ∨ c = 2) :
    TellV w 2 117 [.int hand t1, xV hand x t, .int c t2] (fun _ => .bool (bt x (11 - c.toNat))) := by
  rcases hh with rfl | rfl
  · exact t_mark0 w x t t1 t2 c hc h0
  · exact t_mark1 w x t t1 t2 c hc
end Mine
namespace Mine

local macro_rules | `(tactic| walk_at $s:str) => `(tactic| k_extra $s)

theorem t_unmark0 (w : World) (x : Int) (t t1 t2 : Tok) (c : Int) (hc : c = 0 ∨ c = 1) (h0 : 0 ≤ x) : TellV w 5 124 [.int 0 t1, .int x t, .int c t2] (fun t => .int (unmk x (11 - c.toNat)) t) := by
  k_with_none
  k_with "subscriptTail" => ((k_here; (with_reducible show wpAny _ _ (subscriptTail _ (Expr.Slice none (some _) none _) (Value.str _ _) (Value.ref _)) _ _ _); (with_reducible rename Fr _ _ _ _ => F'); (with_reducible rename News _ _ _ _ => N'); (refine slice_strN_ns_len (hsz := ?hsz) (s := ⟨_, _, _, _, _⟩) F' N' ?_); (case hsz => (rw [sizeLine_eq]; omega)); intro _ _ _ _ _ sl9))
  k_with "subscriptTail" => ((k_here; (with_reducible show wpAny _ _ (subscriptTail _ (Expr.Slice (some _) none none _) (Value.str _ _) (Value.ref _)) _ _ _); (with_reducible rename Fr _ _ _ _ => F'); (with_reducible rename News _ _ _ _ => N'); (refine slice_strN_sn_len (hsz := ?hsz) (s := ⟨_, _, _, _, _⟩) F' N' ?_); (case hsz => (rw [sizeLine_eq]; omega)); intro _ _ _ _ _ sl9))
  k_with "binaryOp Add str str" => ((k_here; (with_reducible show wpAny _ _ (binaryOp Operator.Add (Value.str _ _) (Value.str _ _)) _ _ _); (refine PyProof.Rows.add_str (hsz := ?hsz) ?_); (case hsz => ((have q1 : (Str.ofString "x").length = 1 := rfl); (have q2 : (Str.ofString "-").length = 1 := rfl); (have q2 : (Str.ofString "d").length = 1 := rfl); (try simp only [Str.length_append]); rw [sizeLine_eq]; omega)); intro _ _))
  k_with "call ref" => ((k_here; (with_reducible show wpAny _ _ (call (Value.ref 110) _ _) _ _ _); k_dflt (refine' TellV.use (t_right _ _ (by first | assumption | omega) _ (by assumption) _ _ _ _ _ _ (by first | assumption | omega) (by first | assumption | omega)) ?k1 ?k2 ?k3 ?k4 ?k5 ?kK ?kd ?ku ?_; (case k1 => k_asm); (case k2 => k_asm); (case k3 => k_asm); (case k4 => k_asm); (case k5 => k_asm); (case kK => first | exact rfl | assumption); (case kd => first | exact room2 hdp 1 rfl (by decide) | ktr_room); (case ku => first | exact units2 hun 0 rfl (by decide) | ktr_units); k_whole; intro t9 h9 tk9 F9 N9; (try dsimp only); (try k_sweep); (try k_fold))))
  k_with "call ref" => ((k_here; (with_reducible show wpAny _ _ (call (Value.ref 117) _ _) _ _ _); k_dflt (refine' TellV.use (t_mark _ _ (by first | assumption | omega) _ (by assumption) _ _ _ _ (by first | assumption | omega)) ?k1 ?k2 ?k3 ?k4 ?k5 ?kK ?kd ?ku ?_; (case k1 => k_asm); (case k2 => k_asm); (case k3 => k_asm); (case k4 => k_asm); (case k5 => k_asm); (case kK => first | exact rfl | assumption); (case kd => first | exact room2 hdp 1 rfl (by decide) | ktr_room); (case ku => first | exact units2 hun 0 rfl (by decide) | ktr_units); k_whole; intro t9 h9 tk9 F9 N9; (try dsimp only); (try k_sweep); (try k_fold))))
  k_with "call ref" => ((k_here; (with_reducible show wpAny _ _ (call (Value.ref 110) [Value.int _ _, Value.int _ _, _, _] _) _ _ _); k_dflt (refine' TellV.use (t_right0 _ _ _ _ _ _ _ _ (by first | assumption | omega) (by first | assumption | omega) (by assumption)) ?k1 ?k2 ?k3 ?k4 ?k5 ?kK ?kd ?ku ?_; (case k1 => k_asm); (case k2 => k_asm); (case k3 => k_asm); (case k4 => k_asm); (case k5 => k_asm); (case kK => first | exact rfl | assumption); (case kd => first | exact room2 hdp 1 rfl (by decide) | ktr_room); (case ku => first | exact units2 hun 0 rfl (by decide) | ktr_units); k_whole; intro t9 h9 tk9 F9 N9; (try dsimp only); (try k_sweep); (try k_fold))))
  k_with "call ref" => ((k_here; (with_reducible show wpAny _ _ (call (Value.ref 110) [Value.int _ _, Value.str _ _, _, _] _) _ _ _); k_dflt (refine' TellV.use (t_right1 _ _ _ _ _ _ _ _ (by first | assumption | omega) (by first | assumption | omega)) ?k1 ?k2 ?k3 ?k4 ?k5 ?kK ?kd ?ku ?_; (case k1 => k_asm); (case k2 => k_asm); (case k3 => k_asm); (case k4 => k_asm); (case k5 => k_asm); (case kK => first | exact rfl | assumption); (case kd => first | exact room2 hdp 1 rfl (by decide) | ktr_room); (case ku => first | exact units2 hun 0 rfl (by decide) | ktr_units); k_whole; intro t9 h9 tk9 F9 N9; (try dsimp only); (try k_sweep); (try k_fold))))
  k_with "call ref" => ((k_here; (with_reducible show wpAny _ _ (call (Value.ref 117) [Value.int _ _, Value.int _ _, _] _) _ _ _); k_dflt (refine' TellV.use (t_mark0 _ _ _ _ _ _ (by first | assumption | omega) (by assumption)) ?k1 ?k2 ?k3 ?k4 ?k5 ?kK ?kd ?ku ?_; (case k1 => k_asm); (case k2 => k_asm); (case k3 => k_asm); (case k4 => k_asm); (case k5 => k_asm); (case kK => first | exact rfl | assumption); (case kd => first | exact room2 hdp 1 rfl (by decide) | ktr_room); (case ku => first | exact units2 hun 0 rfl (by decide) | ktr_units); k_whole; intro t9 h9 tk9 F9 N9; (try dsimp only); (try k_sweep); (try k_fold))))
  k_with "call ref" => ((k_here; (with_reducible show wpAny _ _ (call (Value.ref 117) [Value.int _ _, Value.str _ _, _] _) _ _ _); k_dflt (refine' TellV.use (t_mark1 _ _ _ _ _ _ (by first | assumption | omega)) ?k1 ?k2 ?k3 ?k4 ?k5 ?kK ?kd ?ku ?_; (case k1 => k_asm); (case k2 => k_asm); (case k3 => k_asm); (case k4 => k_asm); (case k5 => k_asm); (case kK => first | exact rfl | assumption); (case kd => first | exact room2 hdp 1 rfl (by decide) | ktr_room); (case ku => first | exact units2 hun 0 rfl (by decide) | ktr_units); k_whole; intro t9 h9 tk9 F9 N9; (try dsimp only); (try k_sweep); (try k_fold))))
  k_with "subscriptTail" => ((k_here; (with_reducible show wpAny _ _ (subscriptTail _ (Expr.Name _ _) (Value.ref _) (Value.int _ _)) _ _ _); (with_reducible rename _ = (0 : Int) ∨ _ = (1 : Int) => hC); rcases hC with hC | hC <;> subst hC))
  unfold TellV
  k_fill
  intro mean mg mb dp un gd cn cs a ccd cl outer A₀ base h₀ L m s news Q E B F X N T hk hdp hun hret
  refine wpAny_call ?_
  k_dflt (refine' code_def (binds := [(Str.ofString "hand", .int 0 t1), (Str.ofString "x", .int x t), (Str.ofString "c", .int c t2)]) ?k1 ?k2 ?k3 ?k4 ?k5 ?kA ?kF ?kK ?k6 ?k7 ?k8 ?k9 ?kB ?_ ?c2 ?c3 ?c4 ?c5; (case kA => exact rfl); (case kF => exact rfl); (case kK => assumption); (case k1 => k_asm); (case k2 => k_asm); (case k3 => k_asm); (case k4 => k_asm); (case k5 => k_asm); (case k6 => k_is); (case k7 => k_is); (case k8 => first | exact room1 hdp 0 rfl (by decide) | ktr_room); (case k9 => exact BindsTo.of_eq rfl); (case c5 => decide); (case kB => exact locs rfl); (case c2 => exact rfl); (case c3 => exact rfl); (case c4 => exact rfl); k_whole; intro g' L' h' FG' F' N' B' X' T'; (try dsimp only); (try k_lift B'); (try k_fold))
  k_steps
  · exact cb_retI hret (unmk_pos (by assumption) _ rfl) (by k_asm) (cb_drop (by assumption) (by kcj_all))
  · exact cb_retI hret (unmk_pos (by assumption) _ rfl) (by k_asm) (cb_drop (by assumption) (by kcj_all))
  · exact cb_retI hret (unmk_neg (by assumption)) (by k_asm) (cb_drop (by assumption) (by kcj_all))
theorem t_right1X (w : World) (x : Int) (t t1 t2 t3 : Tok) (c need : Int) (hc : c = 0 ∨ c = 1 ∨ c = 2) (hn : need = 1 ∨ need = 2) {X : Str} (hX : X = signs x) :
    TellV w 2 110 [.int 1 t1, .str X t, .int c t2, .int need t3] (fun _ => .bool (bt x (8 - 3 * c.toNat - need.toNat))) := by subst hX; exact t_right1 w x t t1 t2 t3 c need hc hn
theorem t_mark1X (w : World) (x : Int) (t t1 t2 : Tok) (c : Int) (hc : c = 0 ∨ c = 1 ∨ c = 2) {X : Str} (hX : X = signs x) :
    TellV w 2 117 [.int 1 t1, .str X t, .int c t2] (fun _ => .bool (bt x (11 - c.toNat))) := by subst hX; exact t_mark1 w x t t1 t2 c hc
theorem t_unmark10 (w : World) (x : Int) (t t1 t2 : Tok) (h0 : OkM x) {Xs : Str} (hX : Xs = signs x) (hL : Xs.length = 10) : TellV w 5 124 [.int 1 t1, .str Xs t, .int 0 t2] (fun t => .str (signs (unmk x 11)) t) := by
  k_with "call ref" => ((k_here; (with_reducible show wpAny _ _ (call (Value.ref 110) [Value.int _ _, Value.str _ _, _, _] _) _ _ _); k_dflt (refine' TellV.use (t_right1X _ _ _ _ _ _ _ _ (by first | assumption | omega) (by first | assumption | omega) (by assumption)) ?k1 ?k2 ?k3 ?k4 ?k5 ?kK ?kd ?ku ?_; (case k1 => k_asm); (case k2 => k_asm); (case k3 => k_asm); (case k4 => k_asm); (case k5 => k_asm); (case kK => first | exact rfl | assumption); (case kd => first | exact room2 hdp 1 rfl (by decide) | ktr_room); (case ku => first | exact units2 hun 0 rfl (by decide) | ktr_units); k_whole; intro t9 h9 tk9 F9 N9; (try dsimp only); (try k_sweep); (try k_fold))))
  k_with "call ref" => ((k_here; (with_reducible show wpAny _ _ (call (Value.ref 117) [Value.int _ _, Value.str _ _, _] _) _ _ _); k_dflt (refine' TellV.use (t_mark1X _ _ _ _ _ _ (by first | assumption | omega) (by assumption)) ?k1 ?k2 ?k3 ?k4 ?k5 ?kK ?kd ?ku ?_; (case k1 => k_asm); (case k2 => k_asm); (case k3 => k_asm); (case k4 => k_asm); (case k5 => k_asm); (case kK => first | exact rfl | assumption); (case kd => first | exact room2 hdp 1 rfl (by decide) | ktr_room); (case ku => first | exact units2 hun 0 rfl (by decide) | ktr_units); k_whole; intro t9 h9 tk9 F9 N9; (try dsimp only); (try k_sweep); (try k_fold))))
  unfold TellV
  k_fill
  intro mean mg mb dp un gd cn cs a ccd cl outer A₀ base h₀ L m s news Q E B F X N T hk hdp hun hret
  refine wpAny_call ?_
  k_dflt (refine' code_def (binds := [(Str.ofString "hand", .int 1 t1), (Str.ofString "x", .str Xs t), (Str.ofString "c", .int 0 t2)]) ?k1 ?k2 ?k3 ?k4 ?k5 ?kA ?kF ?kK ?k6 ?k7 ?k8 ?k9 ?kB ?_ ?c2 ?c3 ?c4 ?c5; (case kA => exact rfl); (case kF => exact rfl); (case kK => assumption); (case k1 => k_asm); (case k2 => k_asm); (case k3 => k_asm); (case k4 => k_asm); (case k5 => k_asm); (case k6 => k_is); (case k7 => k_is); (case k8 => first | exact room1 hdp 0 rfl (by decide) | ktr_room); (case k9 => exact BindsTo.of_eq rfl); (case c5 => decide); (case kB => exact locs rfl); (case c2 => exact rfl); (case c3 => exact rfl); (case c4 => exact rfl); k_whole; intro g' L' h' FG' F' N' B' X' T'; (try dsimp only); (try k_lift B'); (try k_fold))
  k_steps
  · exact cb_retS hret (unmark_text11 (r := true) hX h0 (by assumption) (by assumption)) (by k_asm) (cb_drop (by assumption) (by kcj_all))
  · exact cb_retS hret (unmark_text11 (r := false) hX h0 (by assumption) (by assumption)) (by k_asm) (cb_drop (by assumption) (by kcj_all))
  · exact cb_retS hret (unmark_textN hX (by assumption)) (by k_asm) (cb_drop (by assumption) (by kcj_all))
theorem t_unmark11 (w : World) (x : Int) (t t1 t2 : Tok) (h0 : OkM x) {Xs : Str} (hX : Xs = signs x) (hL : Xs.length = 10) : TellV w 5 124 [.int 1 t1, .str Xs t, .int 1 t2] (fun t => .str (signs (unmk x 10)) t) := by
  unfold TellV
  k_fill
  intro mean mg mb dp un gd cn cs a ccd cl outer A₀ base h₀ L m s news Q E B F X N T hk hdp hun hret
  refine wpAny_call ?_
  k_dflt (refine' code_def (binds := [(Str.ofString "hand", .int 1 t1), (Str.ofString "x", .str Xs t), (Str.ofString "c", .int 1 t2)]) ?k1 ?k2 ?k3 ?k4 ?k5 ?kA ?kF ?kK ?k6 ?k7 ?k8 ?k9 ?kB ?_ ?c2 ?c3 ?c4 ?c5; (case kA => exact rfl); (case kF => exact rfl); (case kK => assumption); (case k1 => k_asm); (case k2 => k_asm); (case k3 => k_asm); (case k4 => k_asm); (case k5 => k_asm); (case k6 => k_is); (case k7 => k_is); (case k8 => first | exact room1 hdp 0 rfl (by decide) | ktr_room); (case k9 => exact BindsTo.of_eq rfl); (case c5 => decide); (case kB => exact locs rfl); (case c2 => exact rfl); (case c3 => exact rfl); (case c4 => exact rfl); k_whole; intro g' L' h' FG' F' N' B' X' T'; (try dsimp only); (try k_lift B'); (try k_fold))
  k_steps
  · exact cb_retS hret (unmark_text10 (r := true) hX h0 (by assumption) (by assumption)) (by k_asm) (cb_drop (by assumption) (by kcj_all))
  · exact cb_retS hret (unmark_text10 (r := false) hX h0 (by assumption) (by assumption)) (by k_asm) (cb_drop (by assumption) (by kcj_all))
  · exact cb_retS hret (unmark_textN hX (by assumption)) (by k_asm) (cb_drop (by assumption) (by kcj_all))
theorem t_unmark (w : World) (hand : Int) (hh : hand = 0 ∨ hand = 1) (x : Int) (h0 : OkM x) (t t1 t2 : Tok) (c : Int) (hc : c = 0 ∨ c = 1) :
    TellV w 5 124 [.int hand t1, xV hand x t, .int c t2] (fun t => xV hand (unmk x (11 - c.toNat)) t) := by
  rcases hh with rfl | rfl
  · exact t_unmark0 w x t t1 t2 c hc h0.nonneg
  · rcases hc with rfl | rfl
    · exact t_unmark10 w x t t1 t2 h0 rfl (signs_length x)
    · exact t_unmark11 w x t t1 t2 h0 rfl (signs_length x)
end Mine
namespace Mine

section
variable {prog : Program} {w : World} {A : Around} {E : Value → Shared → Prop} {s : Shared}
theorem l_item {value slice : PySem.Expr} {l : Addr} {its : Array Value} {k : Int} {u : Tok} {v : Value} {Q : Value → Shared → Prop}
    (hl : s.heap.IsList l its) (h0 : 0 ≤ k) (hhi : k < 2 ^ 63) (hx : its[k.toNat]? = some v) (h : Q v s)
    (hs : subscripted slice false (.ref l) (.int k u) = operate [.ref l, .int k u] (getItem (.ref l) (.int k u)) := by with_unfolding_all rfl) :
    wpAny (model prog w) A (subscriptTail value slice (.ref l) (.int k u)) Q E s :=
  tail_any hl.typeIs slot_list_getitem.lookup (wpAny_getItem_list hl h0 hhi hx h) hs
end
theorem t_ifmt (w : World) (x : Int) (t0 : Tok) : TellV w 2 28 [.int x t0] (fun t => .int (Builtin.bitAnd x 61440) t) := by
  k_with_none
  unfold TellV
  k_fill
  intro mean mg mb dp un gd cn cs a ccd cl outer A₀ base h₀ L m s news Q E B F X N T hk hdp hun hret
  refine wpAny_call ?_
  k_dflt (refine' code_def (binds := [(Str.ofString "mode", .int x t0)]) ?k1 ?k2 ?k3 ?k4 ?k5 ?kA ?kF ?kK ?k6 ?k7 ?k8 ?k9 ?kB ?_ ?c2 ?c3 ?c4 ?c5; (case kA => exact rfl); (case kF => exact rfl); (case kK => assumption); (case k1 => k_asm); (case k2 => k_asm); (case k3 => k_asm); (case k4 => k_asm); (case k5 => k_asm); (case k6 => k_is); (case k7 => k_is); (case k8 => first | exact room1 hdp 0 rfl (by decide) | ktr_room); (case k9 => exact BindsTo.of_eq rfl); (case c5 => decide); (case kB => exact locs rfl); (case c2 => exact rfl); (case c3 => exact rfl); (case c4 => exact rfl); k_whole; intro g' L' h' FG' F' N' B' X' T'; (try dsimp only); (try k_lift B'); (try k_fold))
  k_steps
  exact cb_retI hret rfl (by k_asm) (by k_asm)
local macro_rules | `(tactic| walk_at $s:str) => `(tactic| k_extra $s)
theorem t_isdir (w : World) (x : Int) (t0 : Tok) (h0 : OkM x) : TellV w 4 35 [.int x t0] (fun t => .bool (bt x 14)) := by
  k_with "call ref" => ((k_here; (with_reducible show wpAny _ _ (call (Value.ref 28) [Value.int _ _] _) _ _ _); k_dflt (refine' TellV.use (t_ifmt _ _ _) ?k1 ?k2 ?k3 ?k4 ?k5 ?kK ?kd ?ku ?_; (case k1 => k_asm); (case k2 => k_asm); (case k3 => k_asm); (case k4 => k_asm); (case k5 => k_asm); (case kK => first | exact rfl | assumption); (case kd => first | exact room2 hdp 1 rfl (by decide) | ktr_room); (case ku => first | exact units2 hun 0 rfl (by decide) | ktr_units); k_whole; intro t9 h9 tk9 F9 N9; (try dsimp only); (try k_fold))))
  unfold TellV
  k_fill
  intro mean mg mb dp un gd cn cs a ccd cl outer A₀ base h₀ L m s news Q E B F X N T hk hdp hun hret
  refine wpAny_call ?_
  k_dflt (refine' code_def (binds := [(Str.ofString "mode", .int x t0)]) ?k1 ?k2 ?k3 ?k4 ?k5 ?kA ?kF ?kK ?k6 ?k7 ?k8 ?k9 ?kB ?_ ?c2 ?c3 ?c4 ?c5; (case kA => exact rfl); (case kF => exact rfl); (case kK => assumption); (case k1 => k_asm); (case k2 => k_asm); (case k3 => k_asm); (case k4 => k_asm); (case k5 => k_asm); (case k6 => k_is); (case k7 => k_is); (case k8 => first | exact room1 hdp 0 rfl (by decide) | ktr_room); (case k9 => exact BindsTo.of_eq rfl); (case c5 => decide); (case kB => exact locs rfl); (case c2 => exact rfl); (case c3 => exact rfl); (case c4 => exact rfl); k_whole; intro g' L' h' FG' F' N' B' X' T'; (try dsimp only); (try k_lift B'); (try k_fold))
  k_steps
  exact cb_retB hret (isdir_eq h0) (by k_asm) (by k_asm)
theorem t_isreg (w : World) (x : Int) (t0 : Tok) (h0 : OkM x) : TellV w 4 42 [.int x t0] (fun t => .bool (!bt x 14)) := by
  unfold TellV
  k_fill
  intro mean mg mb dp un gd cn cs a ccd cl outer A₀ base h₀ L m s news Q E B F X N T hk hdp hun hret
  refine wpAny_call ?_
  k_dflt (refine' code_def (binds := [(Str.ofString "mode", .int x t0)]) ?k1 ?k2 ?k3 ?k4 ?k5 ?kA ?kF ?kK ?k6 ?k7 ?k8 ?k9 ?kB ?_ ?c2 ?c3 ?c4 ?c5; (case kA => exact rfl); (case kF => exact rfl); (case kK => assumption); (case k1 => k_asm); (case k2 => k_asm); (case k3 => k_asm); (case k4 => k_asm); (case k5 => k_asm); (case k6 => k_is); (case k7 => k_is); (case k8 => first | exact room1 hdp 0 rfl (by decide) | ktr_room); (case k9 => exact BindsTo.of_eq rfl); (case c5 => decide); (case kB => exact locs rfl); (case c2 => exact rfl); (case c3 => exact rfl); (case c4 => exact rfl); k_whole; intro g' L' h' FG' F' N' B' X' T'; (try dsimp only); (try k_lift B'); (try k_fold))
  k_steps
  exact cb_retB hret (isreg_eq h0) (by k_asm) (by k_asm)

/-- what _law_kind leaves: a new list of two bools -/
def KindPost (news : Led) (x : Int) (n : Led) (v : Value) : Prop := ∃ a, v = .ref a ∧ n = (a, listOf #[.bool (bt x 14), .bool (!bt x 14)] 0) :: news ∧ ∀ p ∈ news, p.1 < a
theorem t_kind0 (w : World) (news : Led) (x : Int) (t t1 : Tok) (h0 : OkM x) : Tell w 6 103 [.int 0 t1, .int x t] news (KindPost news x) := by
  k_with "call ref" => ((k_here; (with_reducible show wpAny _ _ (call (Value.ref 35) [Value.int _ _] _) _ _ _); k_dflt (refine' TellV.use (t_isdir _ _ _ (by assumption)) ?k1 ?k2 ?k3 ?k4 ?k5 ?kK ?kd ?ku ?_; (case k1 => k_asm); (case k2 => k_asm); (case k3 => k_asm); (case k4 => k_asm); (case k5 => k_asm); (case kK => first | exact rfl | assumption); (case kd => first | exact room2 hdp 1 rfl (by decide) | ktr_room); (case ku => first | exact units2 hun 0 rfl (by decide) | ktr_units); k_whole; intro t9 h9 tk9 F9 N9; (try dsimp only); (try k_fold))))
  k_with "call ref" => ((k_here; (with_reducible show wpAny _ _ (call (Value.ref 42) [Value.int _ _] _) _ _ _); k_dflt (refine' TellV.use (t_isreg _ _ _ (by assumption)) ?k1 ?k2 ?k3 ?k4 ?k5 ?kK ?kd ?ku ?_; (case k1 => k_asm); (case k2 => k_asm); (case k3 => k_asm); (case k4 => k_asm); (case k5 => k_asm); (case kK => first | exact rfl | assumption); (case kd => first | exact room2 hdp 1 rfl (by decide) | ktr_room); (case ku => first | exact units2 hun 0 rfl (by decide) | ktr_units); k_whole; intro t9 h9 tk9 F9 N9; (try dsimp only); (try k_fold))))
  k_with "subscriptTail" => ((k_here; (with_reducible show wpAny _ _ (subscriptTail _ _ (Value.str (signs _) _) (Value.int _ _)) _ _ _); (refine KXi.item (signs_length _) (by omega) (by omega) (by decide) ?_); intro kxiE))
  unfold Tell
  k_fill
  intro mean mg mb dp un gd cn cs a ccd cl outer A₀ base h₀ L m s Q E B F X N T hk hdp hun hret
  refine wpAny_call ?_
  k_dflt (refine' code_def (binds := [(Str.ofString "hand", .int 0 t1), (Str.ofString "x", .int x t)]) ?k1 ?k2 ?k3 ?k4 ?k5 ?kA ?kF ?kK ?k6 ?k7 ?k8 ?k9 ?kB ?_ ?c2 ?c3 ?c4 ?c5; (case kA => exact rfl); (case kF => exact rfl); (case kK => assumption); (case k1 => k_asm); (case k2 => k_asm); (case k3 => k_asm); (case k4 => k_asm); (case k5 => k_asm); (case k6 => k_is); (case k7 => k_is); (case k8 => first | exact room1 hdp 0 rfl (by decide) | ktr_room); (case k9 => exact BindsTo.of_eq rfl); (case c5 => decide); (case kB => exact locs rfl); (case c2 => exact rfl); (case c3 => exact rfl); (case c4 => exact rfl); k_whole; intro g' L' h' FG' F' N' B' X' T'; (try dsimp only); (try k_lift B'); (try k_fold))
  k_steps
  exact hret _ _ _ _ ⟨_, rfl, rfl, by assumption⟩ (by k_asm) (by k_asm)
theorem t_kind1 (w : World) (news : Led) (x : Int) (t t1 : Tok) (h0 : OkM x) : Tell w 6 103 [.int 1 t1, .str (signs x) t] news (KindPost news x) := by
  unfold Tell
  k_fill
  intro mean mg mb dp un gd cn cs a ccd cl outer A₀ base h₀ L m s Q E B F X N T hk hdp hun hret
  refine wpAny_call ?_
  k_dflt (refine' code_def (binds := [(Str.ofString "hand", .int 1 t1), (Str.ofString "x", .str (signs x) t)]) ?k1 ?k2 ?k3 ?k4 ?k5 ?kA ?kF ?kK ?k6 ?k7 ?k8 ?k9 ?kB ?_ ?c2 ?c3 ?c4 ?c5; (case kA => exact rfl); (case kF => exact rfl); (case kK => assumption); (case k1 => k_asm); (case k2 => k_asm); (case k3 => k_asm); (case k4 => k_asm); (case k5 => k_asm); (case k6 => k_is); (case k7 => k_is); (case k8 => first | exact room1 hdp 0 rfl (by decide) | ktr_room); (case k9 => exact BindsTo.of_eq rfl); (case c5 => decide); (case kB => exact locs rfl); (case c2 => exact rfl); (case c3 => exact rfl); (case c4 => exact rfl); k_whole; intro g' L' h' FG' F' N' B' X' T'; (try dsimp only); (try k_lift B'); (try k_fold))
  k_steps
  simp only [kind_d, kind_p] at *
  exact hret _ _ _ _ ⟨_, rfl, rfl, by assumption⟩ (by k_asm) (by k_asm)
theorem t_kind (w : World) (hand : Int) (hh : hand = 0 ∨ hand = 1) (news : Led) (x : Int) (h0 : OkM x) (t t1 : Tok) : Tell w 6 103 [.int hand t1, xV hand x t] news (KindPost news x) := by
  rcases hh with rfl | rfl
  · exact t_kind0 w news x t t1 h0
  · exact t_kind1 w news x t t1 h0
end Mine
namespace Mine

local macro_rules | `(tactic| walk_at $s:str) => `(tactic| k_extra $s)


section
variable {prog : Program} {w : World} {A : Around} {E : Value → Shared → Prop} {s : Shared} {a b : Int} {t u : Tok} {Q : Value → Shared → Prop}
theorem my_div (hb : 0 < b) (hp : Builtin.divisionGoesByPylong a b = false ∨ PySem.PylongRoom (model prog w) A s) (h : ∀ z, z = a / b → Q (.int z s.toks) { s with toks := s.toks + 1 }) : wpAny (model prog w) A (binaryOp .FloorDiv (.int a t) (.int b u)) Q E s :=
  floordiv_int (by omega) (h _ (Int.fdiv_eq_ediv_of_nonneg a (by omega))) hp
theorem my_mod (hb : 0 < b) (h : ∀ z, 0 ≤ z → z < b → z = a % b → Q (.int z s.toks) { s with toks := s.toks + 1 }) : wpAny (model prog w) A (binaryOp .Mod (.int a t) (.int b u)) Q E s :=
  mod_int' (by omega) (h _ (fmod_lo a hb) (fmod_hi a hb) (Int.fmod_eq_emod_of_nonneg a (by omega)))
theorem my_pick {value slice : PySem.Expr} {l : Addr} {X Y : Str} {tx ty : Tok} {n : Nat} {i : Int} (hl : s.heap.IsList l #[.str X tx, .str Y ty]) (hX : X.length = n) (hY : Y.length = n) (h0 : 0 ≤ i) (h1 : i < 2)
    (h : ∀ (c : Str) (tc : Tok), c.length = n → c = (if i = 0 then X else Y) → Q (.str c tc) s)
    (hs : subscripted slice false (.ref l) (.int i u) = operate [.ref l, .int i u] (getItem (.ref l) (.int i u)) := by with_unfolding_all rfl) :
    wpAny (model prog w) A (subscriptTail value slice (.ref l) (.int i u)) Q E s := by
  rcases (by omega : i = 0 ∨ i = 1) with rfl | rfl
  · exact l_item hl (by decide) (by decide) rfl (h X tx hX rfl) hs
  · exact l_item hl (by decide) (by decide) rfl (h Y ty hY rfl) hs
theorem pick_sign {x : Str} {value slice : PySem.Expr} {i : Int} (hk : x.length = 2) (h0 : 0 ≤ i) (h1 : i < 2) (h : (Txt.item x i).length = 1 → Q (.str (Txt.item x i) s.toks) { s with toks := s.toks + 1 })
    (hs : subscripted slice false (.str x t) (.int i u) = operate [.str x t, .int i u] (getItem (.str x t) (.int i u)) := by with_unfolding_all rfl)
    (ht : ∀ r, letTemporaryGo value (.str x t) r = pure () := by intro _; with_unfolding_all rfl) : wpAny (model prog w) A (subscriptTail value slice (.str x t) (.int i u)) Q E s :=
  KXi.item (n := 2) hk (by omega) (by omega) (by decide) h hs ht
theorem addS {x y : Str} {a b : Nat} (hx : x.length = a) (hy : y.length = b) (hab : a + b ≤ 100) (h : ∀ t' tk, (x ++ y).length = a + b → Q (.str (x ++ y) t') { s with toks := tk }) : wpAny (model prog w) A (binaryOp .Add (.str x t) (.str y u)) Q E s :=
  PyProof.Rows.add_str (fun t' tk => h t' tk (by rw [Str.length_append, hx, hy])) (by rw [sizeLine_eq, hx, hy]; omega)
theorem addI {x y : Str} {a b : Nat} (hx : x.length = a) (hy : y.length = b) (hab : a + b ≤ 100) (h : ∀ t' tk, (x ++ y).length = a + b → Q (.str (x ++ y) t') { s with toks := tk }) : wpAny (model prog w) A (inplaceOp .Add (.str x t) (.str y u)) Q E s :=
  iadd_str (fun t' tk => h t' tk (by rw [Str.length_append, hx, hy])) (by rw [sizeLine_eq, hx, hy]; omega)
end
theorem q4a {z f : Int} (e : z = f / 4) (h : 0 ≤ f) : 0 ≤ z := by omega
theorem q4b {z f : Int} (e : z = f / 4) (h : f < 8) : z < 2 := by omega
theorem len_nil : (Str.ofString "").length = 0 := rfl
theorem unr_end {h₀ : Heap} {L I : Addr} {it : Obj} {rest : (Str → Option Value) → List (Addr × Obj) → Prop} {s₁ : Shared} {h' : Heap} {tk : Nat} {m' : Str → Option Value} {all news' : List (Addr × Obj)} (F : Fr h₀ L h' m') (N : News h₀ L h' all)
    (off : ∀ p ∈ news', p.1 < I) (sub : ∀ p ∈ (I, it) :: news', p ∈ all) (r : rest m' news') : UnrEnd h₀ L s₁ I it rest { s₁ with heap := h', toks := tk } := UnrEnd.intro F N news' sub (fun p hp => Nat.ne_of_lt (off p hp)) r
local macro_rules | `(tactic| kcj_all) => `(tactic| ((repeat first | (with_reducible exact fun _ h => h) | (with_reducible refine sub_cons ?_)); done))
local macro_rules | `(tactic| k_mem) => `(tactic| ((repeat first | (with_reducible exact List.mem_cons_self) | (with_reducible refine List.mem_cons_of_mem _ ?_)); first | done | with_reducible assumption))
theorem t_nine (w : World) (r : Int) (t1 : Tok) (hr : 0 ≤ r ∧ r < 4096) : TellV w 2 89 [.int r t1] (fun t => .str (nine r) t) := by
  k_with_none
  k_with "execs cons" => (((with_reducible refine wpAny_execs_cons ?_); try dsimp only))
  k_with "execs cons" => (((with_reducible show wpAny _ _ (execs (_ :: _) _) _ _ (Shared.mk _ _ _ (_ + 1 + 1) _)); (with_reducible refine gen_toks ?_); intro tk))
  k_with "subscriptTail" => ((k_here; (with_reducible show wpAny _ _ (subscriptTail _ (Expr.Slice none (some _) none _) (Value.str _ _) (Value.ref _)) _ _ _); (with_reducible rename Fr _ _ _ _ => F'); (with_reducible rename News _ _ _ _ => N'); (refine slice_strN_ns_len (hsz := ?hsz) (s := ⟨_, _, _, _, _⟩) F' N' ?_); (case hsz => (rw [sizeLine_eq]; omega)); intro _ _ _ _ _ sl9))
  k_with "subscriptTail" => ((k_here; (with_reducible show wpAny _ _ (subscriptTail _ (Expr.Slice (some _) none none _) (Value.str _ _) (Value.ref _)) _ _ _); (with_reducible rename Fr _ _ _ _ => F'); (with_reducible rename News _ _ _ _ => N'); (refine slice_strN_sn_len (hsz := ?hsz) (s := ⟨_, _, _, _, _⟩) F' N' ?_); (case hsz => (rw [sizeLine_eq]; omega)); intro _ _ _ _ _ sl9))
  k_with "binaryOp Add str str" => ((k_here; (with_reducible show wpAny _ _ (binaryOp Operator.Add (Value.str _ _) (Value.str _ _)) _ _ _); (refine PyProof.Rows.add_str (hsz := ?hsz) ?_); (case hsz => ((have q1 : (Str.ofString "x").length = 1 := rfl); (have q2 : (Str.ofString "-").length = 1 := rfl); (have q2 : (Str.ofString "d").length = 1 := rfl); (try simp only [Str.length_append]); rw [sizeLine_eq]; omega)); intro _ _))
  k_with "binaryOp FloorDiv int int" => ((k_here; (fail_if_success (with_reducible show wpAny _ _ (binaryOp _ (Value.int (OfNat.ofNat _) _) _) _ _ _)); refine my_div (by decide) (Or.inl (PyProof.noPylong_small (by decide))) ?_; intro z9 e9; (try simp at e9)))
  k_with "binaryOp Mod int int" => ((k_here; (fail_if_success (with_reducible show wpAny _ _ (binaryOp _ (Value.int (OfNat.ofNat _) _) _) _ _ _)); refine my_mod (by decide) ?_; intro z9 lo9 hi9 e9; (try simp at e9)))
  k_with "subscriptTail" => ((k_here; (with_reducible show wpAny _ _ (subscriptTail _ _ (Value.str (Str.ofString _) _) (Value.int _ _)) _ _ _); (refine pick_sign rfl (by first | with_reducible assumption | exact q4a (by with_reducible assumption) (by with_reducible assumption)) (by first | with_reducible assumption | exact q4b (by with_reducible assumption) (by with_reducible assumption)) ?_); intro l9))
  k_with "subscriptTail" => ((k_here; (with_reducible show wpAny _ _ (subscriptTail _ _ (Value.str _ _) (Value.int _ _)) _ _ _); (refine pick_sign (by with_reducible assumption) (by first | with_reducible assumption | exact q4a (by with_reducible assumption) (by with_reducible assumption)) (by first | with_reducible assumption | exact q4b (by with_reducible assumption) (by with_reducible assumption)) ?_); intro l9))
  k_with "subscriptTail Name BinOp str int" => ((k_here; (with_reducible show wpAny _ _ (subscriptTail _ _ (Value.str _ _) (Value.int _ _)) _ _ _); (refine pick_sign (by with_reducible assumption) (by first | with_reducible assumption | exact q4a (by with_reducible assumption) (by with_reducible assumption)) (by first | with_reducible assumption | exact q4b (by with_reducible assumption) (by with_reducible assumption)) ?_); intro l9))
  k_with "subscriptTail" => ((k_here; (with_reducible show wpAny _ _ (subscriptTail _ _ (Value.ref _) (Value.int _ _)) _ _ _); k_dflt (refine' my_pick (n := 2) (News.isList (by k_asm) (by k_mem)) ?kl ?kl2 ?k0 ?k1 ?_; (case kl => exact rfl); (case kl2 => exact rfl); (case k0 => first | with_reducible assumption | omega); (case k1 => first | with_reducible assumption | omega); intro c9 tc9 l9 e9)))
  k_with "subscriptTail" => ((k_here; (with_reducible show wpAny _ _ (subscriptTail _ _ (Value.ref _) (Value.int (OfNat.ofNat _) _)) _ _ _); k_dflt (refine' l_item (News.isList (by k_asm) (by k_mem)) (by decide) (by decide) rfl ?_)))
  k_with "binaryOp Add str str" => ((k_here; (with_reducible show wpAny _ _ (binaryOp Operator.Add (Value.str _ _) (Value.str _ _)) _ _ _); (refine addS (by first | with_reducible assumption | exact len_nil) (by first | with_reducible assumption | exact len_nil) (by decide) ?_); intro _ _ l9))
  k_with "inplaceOp Add str str" => ((k_here; (with_reducible show wpAny _ _ (inplaceOp Operator.Add (Value.str _ _) (Value.str _ _)) _ _ _); (refine addI (by first | with_reducible assumption | exact len_nil) (by first | with_reducible assumption | exact len_nil) (by decide) ?_); intro _ _ l9))
  k_with "UnrEnd" => ((k_here; k_dflt (refine' unr_end ?F ?N ?l ?sb ?_; (case l => with_reducible assumption); (case F => k_asm); (case N => k_asm); (case sb => kcj_all)); (try dsimp only)))
  unfold TellV
  k_fill
  intro mean mg mb dp un gd cn cs a ccd cl outer A₀ base h₀ L m s news Q E B F X N T hk hdp hun hret
  refine wpAny_call ?_
  k_dflt (refine' code_def (binds := [(Str.ofString "rights", .int r t1)]) ?k1 ?k2 ?k3 ?k4 ?k5 ?kA ?kF ?kK ?k6 ?k7 ?k8 ?k9 ?kB ?_ ?c2 ?c3 ?c4 ?c5; (case kA => exact rfl); (case kF => exact rfl); (case kK => assumption); (case k1 => k_asm); (case k2 => k_asm); (case k3 => k_asm); (case k4 => k_asm); (case k5 => k_asm); (case k6 => k_is); (case k7 => k_is); (case k8 => first | exact room1 hdp 0 rfl (by decide) | ktr_room); (case k9 => exact BindsTo.of_eq rfl); (case c5 => decide); (case kB => exact locs rfl); (case c2 => exact rfl); (case c3 => exact rfl); (case c4 => exact rfl); k_whole; intro g' L' h' FG' F' N' B' X' T'; (try dsimp only); (try k_lift B'); (try k_fold))
  k_steps
  exact cb_retS hret (nine_text2 (by with_reducible assumption) (by with_reducible assumption) (by with_reducible assumption) (by with_reducible assumption) (by with_reducible assumption) (by with_reducible assumption) (by with_reducible assumption) (by with_reducible assumption) (by with_reducible assumption) (by with_reducible assumption) (by with_reducible assumption) (by with_reducible assumption) (by with_reducible assumption) (by with_reducible assumption) (by with_reducible assumption) (by with_reducible assumption) (by with_reducible assumption) (by with_reducible assumption) (by with_reducible assumption) (by with_reducible assumption) (by with_reducible assumption) (by with_reducible assumption) (by with_reducible assumption) (by with_reducible assumption) (by with_reducible assumption) (by with_reducible assumption) (by with_reducible assumption)) (by k_asm) (cb_drop (by k_asm) (by kcj_all))
theorem nine_length (r : Int) : (nine r).length = 9 := rfl
theorem t_fresh0true (w : World) (r : Int) (t1 t2 : Tok) (hr : 0 ≤ r ∧ r < 4096) : TellV w 4 96 [.int 0 t1, .bool true, .int r t2] (fun t => .int (16384 + r) t) := by
  k_with "call ref" => ((k_here; (with_reducible show wpAny _ _ (call (Value.ref 89) [Value.int _ _] _) _ _ _); k_dflt (refine' TellV.use (t_nine _ _ _ (by assumption)) ?k1 ?k2 ?k3 ?k4 ?k5 ?kK ?kd ?ku ?_; (case k1 => k_asm); (case k2 => k_asm); (case k3 => k_asm); (case k4 => k_asm); (case k5 => k_asm); (case kK => first | exact rfl | assumption); (case kd => first | exact room2 hdp 1 rfl (by decide) | ktr_room); (case ku => first | exact units2 hun 0 rfl (by decide) | ktr_units); k_whole; intro t9 h9 tk9 F9 N9; (try dsimp only); (try k_fold))))
  unfold TellV
  k_fill
  intro mean mg mb dp un gd cn cs a ccd cl outer A₀ base h₀ L m s news Q E B F X N T hk hdp hun hret
  refine wpAny_call ?_
  k_dflt (refine' code_def (binds := [(Str.ofString "hand", .int 0 t1), (Str.ofString "folder", .bool true), (Str.ofString "rights", .int r t2)]) ?k1 ?k2 ?k3 ?k4 ?k5 ?kA ?kF ?kK ?k6 ?k7 ?k8 ?k9 ?kB ?_ ?c2 ?c3 ?c4 ?c5; (case kA => exact rfl); (case kF => exact rfl); (case kK => assumption); (case k1 => k_asm); (case k2 => k_asm); (case k3 => k_asm); (case k4 => k_asm); (case k5 => k_asm); (case k6 => k_is); (case k7 => k_is); (case k8 => first | exact room1 hdp 0 rfl (by decide) | ktr_room); (case k9 => exact BindsTo.of_eq rfl); (case c5 => decide); (case kB => exact locs rfl); (case c2 => exact rfl); (case c3 => exact rfl); (case c4 => exact rfl); k_whole; intro g' L' h' FG' F' N' B' X' T'; (try dsimp only); (try k_lift B'); (try k_fold))
  k_steps
  exact cb_retI hret rfl (by k_asm) (by k_asm)
theorem t_fresh1true (w : World) (r : Int) (t1 t2 : Tok) (hr : 0 ≤ r ∧ r < 4096) : TellV w 4 96 [.int 1 t1, .bool true, .int r t2] (fun t => .str (signs (16384 + r)) t) := by
  unfold TellV
  k_fill
  intro mean mg mb dp un gd cn cs a ccd cl outer A₀ base h₀ L m s news Q E B F X N T hk hdp hun hret
  refine wpAny_call ?_
  k_dflt (refine' code_def (binds := [(Str.ofString "hand", .int 1 t1), (Str.ofString "folder", .bool true), (Str.ofString "rights", .int r t2)]) ?k1 ?k2 ?k3 ?k4 ?k5 ?kA ?kF ?kK ?k6 ?k7 ?k8 ?k9 ?kB ?_ ?c2 ?c3 ?c4 ?c5; (case kA => exact rfl); (case kF => exact rfl); (case kK => assumption); (case k1 => k_asm); (case k2 => k_asm); (case k3 => k_asm); (case k4 => k_asm); (case k5 => k_asm); (case k6 => k_is); (case k7 => k_is); (case k8 => first | exact room1 hdp 0 rfl (by decide) | ktr_room); (case k9 => exact BindsTo.of_eq rfl); (case c5 => decide); (case kB => exact locs rfl); (case c2 => exact rfl); (case c3 => exact rfl); (case c4 => exact rfl); k_whole; intro g' L' h' FG' F' N' B' X' T'; (try dsimp only); (try k_lift B'); (try k_fold))
  have hl := nine_length r
  k_steps
  exact cb_retS hret (signs_dir hr) (by k_asm) (by k_asm)
theorem t_fresh0false (w : World) (r : Int) (t1 t2 : Tok) (hr : 0 ≤ r ∧ r < 4096) : TellV w 4 96 [.int 0 t1, .bool false, .int r t2] (fun t => .int (32768 + r) t) := by
  unfold TellV
  k_fill
  intro mean mg mb dp un gd cn cs a ccd cl outer A₀ base h₀ L m s news Q E B F X N T hk hdp hun hret
  refine wpAny_call ?_
  k_dflt (refine' code_def (binds := [(Str.ofString "hand", .int 0 t1), (Str.ofString "folder", .bool false), (Str.ofString "rights", .int r t2)]) ?k1 ?k2 ?k3 ?k4 ?k5 ?kA ?kF ?kK ?k6 ?k7 ?k8 ?k9 ?kB ?_ ?c2 ?c3 ?c4 ?c5; (case kA => exact rfl); (case kF => exact rfl); (case kK => assumption); (case k1 => k_asm); (case k2 => k_asm); (case k3 => k_asm); (case k4 => k_asm); (case k5 => k_asm); (case k6 => k_is); (case k7 => k_is); (case k8 => first | exact room1 hdp 0 rfl (by decide) | ktr_room); (case k9 => exact BindsTo.of_eq rfl); (case c5 => decide); (case kB => exact locs rfl); (case c2 => exact rfl); (case c3 => exact rfl); (case c4 => exact rfl); k_whole; intro g' L' h' FG' F' N' B' X' T'; (try dsimp only); (try k_lift B'); (try k_fold))
  k_steps
  exact cb_retI hret rfl (by k_asm) (by k_asm)
theorem t_fresh1false (w : World) (r : Int) (t1 t2 : Tok) (hr : 0 ≤ r ∧ r < 4096) : TellV w 4 96 [.int 1 t1, .bool false, .int r t2] (fun t => .str (signs (32768 + r)) t) := by
  unfold TellV
  k_fill
  intro mean mg mb dp un gd cn cs a ccd cl outer A₀ base h₀ L m s news Q E B F X N T hk hdp hun hret
  refine wpAny_call ?_
  k_dflt (refine' code_def (binds := [(Str.ofString "hand", .int 1 t1), (Str.ofString "folder", .bool false), (Str.ofString "rights", .int r t2)]) ?k1 ?k2 ?k3 ?k4 ?k5 ?kA ?kF ?kK ?k6 ?k7 ?k8 ?k9 ?kB ?_ ?c2 ?c3 ?c4 ?c5; (case kA => exact rfl); (case kF => exact rfl); (case kK => assumption); (case k1 => k_asm); (case k2 => k_asm); (case k3 => k_asm); (case k4 => k_asm); (case k5 => k_asm); (case k6 => k_is); (case k7 => k_is); (case k8 => first | exact room1 hdp 0 rfl (by decide) | ktr_room); (case k9 => exact BindsTo.of_eq rfl); (case c5 => decide); (case kB => exact locs rfl); (case c2 => exact rfl); (case c3 => exact rfl); (case c4 => exact rfl); k_whole; intro g' L' h' FG' F' N' B' X' T'; (try dsimp only); (try k_lift B'); (try k_fold))
  have hl := nine_length r
  k_steps
  exact cb_retS hret (signs_reg hr) (by k_asm) (by k_asm)
theorem t_fresh (w : World) (hand : Int) (hh : hand = 0 ∨ hand = 1) (folder : Bool) (r : Int) (t1 t2 : Tok) (hr : 0 ≤ r ∧ r < 4096) :
    TellV w 4 96 [.int hand t1, .bool folder, .int r t2] (fun t => xV hand ((if folder then 16384 else 32768) + r) t) := by
  rcases hh with rfl | rfl <;> cases folder
  · exact t_fresh0false w r t1 t2 hr
  · exact t_fresh0true w r t1 t2 hr
  · exact t_fresh1false w r t1 t2 hr
  · exact t_fresh1true w r t1 t2 hr
end Mine
namespace Mine

local macro_rules | `(tactic| walk_at $s:str) => `(tactic| k_extra $s)

local macro_rules | `(tactic| k_mem) => `(tactic| first | with_reducible assumption | assumption)
theorem all_ne {news : Led} {b c : Nat} (h : ∀ p ∈ news, p.1 < b) (hb : b ≤ c) : ∀ p ∈ news, p.1 ≠ c := fun p hp => Nat.ne_of_lt (Nat.lt_of_lt_of_le (h p hp) hb)
theorem all_ne' {news : Led} {b c : Nat} (h : AllLt b news) (hb : b ≤ c) : ∀ p ∈ news, p.1 ≠ c := all_ne (ktn_ltOf h) hb
local macro_rules | `(tactic| k_all) => `(tactic| first | exact all_ne (by with_reducible assumption) (by omega) | exact all_ne' (by with_reducible assumption) (by omega))
theorem comp_end {h₀ : Heap} {L I C D : Addr} {m : Str → Option Value} {s₁ : Shared} {oI oC oD : Obj} {S : List (Addr × Obj) → Prop} {rest : Value → List (Addr × Obj) → Prop} {y : Value} {h' : Heap} {tk : Nat} {all news' : List (Addr × Obj)}
    (off : LCg.Off3 I C D news') (F : Fr h₀ L h' m) (N : News h₀ L h' all) (sub : ∀ p ∈ (I, oI) :: (C, oC) :: (D, oD) :: news', p ∈ all) (hS : S news') (r : rest y news') :
    LCg.CompEnd h₀ L m s₁ I oI C oC D oD S rest y { s₁ with heap := h', toks := tk } := LCg.CompEnd.intro F N news' sub off hS r

section
variable {prog : Program} {w : World} {A : Around} {E : Value → Shared → Prop} {s : Shared} {h₀ : Heap} {L a : Addr} {news : Led} {Q : Value → Shared → Prop}
theorem in_bools {b0 b1 b2 : Bool} (N : News h₀ L s.heap news) (hm : (a, LCg.lst [.bool b0, .bool b1, .bool b2]) ∈ news) (hu : A.units + 64 < cLine) (h : Q (.bool (b0 || b1 || b2)) s) : wpAny (model prog w) A (compareOp .In (.bool true) (.ref a)) Q E s := by
  refine SeqAt.in_list_reads (xs := [.bool b0, .bool b1, .bool b2]) (d := .bool true) (reads_list_at (N.get hm) rfl rfl (ReadsAll.cons (Reads.bool b0) (ReadsAll.cons (Reads.bool b1) (ReadsAll.cons (Reads.bool b2) ReadsAll.nil)))) (Reads.bool true) rfl rfl ?_ ?_
  · show A.units + 1 + 0 < cLine; omega
  · rw [show ([PyData.bool b0, PyData.bool b1, PyData.bool b2].any fun y => PyData.eqv y (.bool true)) = (b0 || b1 || b2) from by cases b0 <;> cases b1 <;> cases b2 <;> rfl]; exact h
end
theorem may_ret {h₀ : Heap} {L : Addr} {m : Str → Option Value} {news : Led} {s : Shared} {Q : Value → Shared → Prop} {b c : Bool} {h' : Heap} {tk' : Nat} {all : Led} (hret : ∀ (v : Value) (news' : Led) (h' : Heap) (tk' : Nat), (news' = news ∧ v = .bool c) → Fr h₀ L h' m → News h₀ L h' news' → Q v { s with heap := h', toks := tk' })
    (e : b = c) (F : Fr h₀ L h' m) (N : News h₀ L h' all) (hs : ∀ p ∈ news, p ∈ all) : Q (.bool b) { s with heap := h', toks := tk' } := by
  subst e
  exact hret _ _ _ _ ⟨rfl, rfl⟩ F (cb_drop N hs)
local macro_rules | `(tactic| kcj_all) => `(tactic| ((repeat first | (with_reducible exact fun _ h => h) | (with_reducible refine sub_cons ?_)); done))
local macro_rules | `(tactic| k_mem) => `(tactic| ((repeat first | (with_reducible exact List.mem_cons_self) | (with_reducible refine List.mem_cons_of_mem _ ?_)); first | done | with_reducible assumption))
theorem t_may (w : World) (hand : Int) (hh : hand = 0 ∨ hand = 1) (news : Led) (th : Addr) (n : Nat) (ab ow gr x : Int) (tx tA tO tG t1 t2 t3 : Tok) (h0 : OkM x) (h1 : 0 ≤ x) (user : Int) (hu : 0 ≤ user ∧ user < 4) (need : Int) (hn : need = 1 ∨ need = 2) (hm : (th, listOf #[.int ab tA, .int ow tO, .int gr tG, xV hand x tx] n) ∈ news) : Tell w 8 129 [.int hand t1, .ref th, .int user t2, .int need t3] news (fun n v => n = news ∧ v = .bool (mayB ow gr x user need)) := by
  k_with_none
  k_with "execs cons" => (((with_reducible refine wpAny_execs_cons ?_); try dsimp only))
  k_with "execs cons" => (((with_reducible show wpAny _ _ (execs (_ :: _) _) _ _ (Shared.mk _ _ _ (_ + 1 + 1) _)); (with_reducible refine gen_toks ?_); intro tk))
  k_with "call ref" => ((k_here; (with_reducible show wpAny _ _ (call (Value.ref 110) _ _) _ _ _); k_dflt (refine' TellV.use (t_right _ _ (by first | assumption | omega) _ (by assumption) _ _ _ _ _ _ (by first | assumption | omega) (by first | assumption | omega)) ?k1 ?k2 ?k3 ?k4 ?k5 ?kK ?kd ?ku ?_; (case k1 => k_asm); (case k2 => k_asm); (case k3 => k_asm); (case k4 => k_asm); (case k5 => k_asm); (case kK => first | exact rfl | assumption); (case kd => first | exact room2 hdp 1 rfl (by decide) | ktr_room); (case ku => first | exact units2 hun 0 rfl (by decide) | ktr_units); k_whole; intro t9 h9 tk9 F9 N9; (try dsimp only); (try k_fold))))
  k_with "call ref" => ((k_here; (with_reducible show wpAny _ _ (call (Value.ref 117) _ _) _ _ _); k_dflt (refine' TellV.use (t_mark _ _ (by first | assumption | omega) _ (by assumption) _ _ _ _ (by first | assumption | omega)) ?k1 ?k2 ?k3 ?k4 ?k5 ?kK ?kd ?ku ?_; (case k1 => k_asm); (case k2 => k_asm); (case k3 => k_asm); (case k4 => k_asm); (case k5 => k_asm); (case kK => first | exact rfl | assumption); (case kd => first | exact room2 hdp 1 rfl (by decide) | ktr_room); (case ku => first | exact units2 hun 0 rfl (by decide) | ktr_units); k_whole; intro t9 h9 tk9 F9 N9; (try dsimp only); (try k_fold))))
  k_with "call ref" => ((k_here; (with_reducible show wpAny _ _ (call (Value.ref 103) _ _) _ _ _); k_dflt (refine' Tell.use (t_kind _ _ (by first | assumption | omega) _ _ (by assumption) _ _) ?k1 ?k2 ?k3 ?k4 ?k5 ?kK ?kd ?ku ?_; (case k1 => k_asm); (case k2 => k_asm); (case k3 => k_asm); (case k4 => k_asm); (case k5 => k_asm); (case kK => first | exact rfl | assumption); (case kd => first | exact room2 hdp 1 rfl (by decide) | ktr_room); (case ku => first | exact units2 hun 0 rfl (by decide) | ktr_units); k_whole; intro v9 n9 h9 tk9 P9 F9 N9; obtain ⟨a9, e9, e8, l9⟩ := P9; subst e9 e8; (try k_lt l9); (try dsimp only); (try k_fold))))
  k_with "CompSrc" => ((k_here; k_dflt (refine LCg.CompSrc.range (by rfl) (by k_asm) (by k_asm) (by assumption) (by first | decide | rfl) (by first | rfl | decide) (by first | size_fits | exact Nat.le_of_ble_eq_true rfl) ?_; intro g'; lcg_lit)))
  k_with "CompRest" => ((with_unfolding_all first | (refine LCg.CompRest.succ ?_; intro v' I' oI' C' oC' D' m' h' tk' E' hv' hC' hx' F' N' off' ne'; obtain ⟨t9', hv9'⟩ := hv'; subst hv9') | refine LCg.CompRest.zero ?_))
  k_with "CompEnd" => ((k_here; k_dflt (refine' comp_end ?o ?F ?N ?sb ?S ?_; (case o => with_reducible assumption); (case F => k_asm); (case N => k_asm); (case sb => first | exact fun _ h => h | kcj_all); (case S => lcg_src))))
  k_with "assign Tuple" => ((k_here; (with_reducible show wpAny _ _ (assign (Expr.Tuple _ _ _) _ (Value.ref _)) _ _ _); k_dflt (refine' kun_list ?k1 ?k2 ?k3 ?k4 ?k5 ?k6 ?_; (case k1 => k_asm); (case k2 => k_asm); (case k3 => exact News.isList (by k_asm) (by k_mem)); (case k4 => exact rfl); (case k5 => exact rfl); (case k6 => exact rfl); k_whole; intro h9 F9 N9; (try dsimp only))))
  k_with "compareOp In bool ref" => ((k_here; k_dflt (refine' in_bools ?k1 ?k2 ?k3 ?_; (case k1 => k_asm); (case k2 => k_mem); (case k3 => ktr_units))))
  k_with "subscriptTail Name Constant ref int" => ((k_here; (with_reducible show wpAny _ _ (subscriptTail _ _ (Value.ref _) (Value.int (OfNat.ofNat _) _)) _ _ _); k_dflt (refine' l_item (News.isList (by k_asm) (by k_mem)) (by decide) (by decide) rfl ?_)))
  unfold Tell
  k_fill
  intro mean mg mb dp un gd cn cs a ccd cl outer A₀ base h₀ L m s Q E B F X N T hk hdp hun hret
  refine wpAny_call ?_
  k_dflt (refine' code_defC (binds := [(Str.ofString "hand", .int hand t1), (Str.ofString "thing", .ref th), (Str.ofString "user", .int user t2), (Str.ofString "need", .int need t3)]) ?k1 ?k2 ?k3 ?k4 ?k5 ?kA ?kF ?kK ?k6 ?k7 ?k8 ?k9 ?kB ?kD ?_ ?c2 ?c3 ?c4; (case kA => exact rfl); (case kF => exact rfl); (case kK => assumption); (case k1 => k_asm); (case k2 => k_asm); (case k3 => k_asm); (case k4 => k_asm); (case k5 => k_asm); (case k6 => k_is); (case k7 => k_is); (case k8 => first | exact room1 hdp 0 rfl (by decide) | ktr_room); (case k9 => exact BindsTo.of_eq rfl); (case kB => exact rfl); (case kD => decide +kernel); (case c2 => exact rfl); (case c3 => exact rfl); (case c4 => exact rfl); k_whole; intro g' L' h' tk' cells' FG' F' N' Y' B' X' T' l1; (try k_lt l1); k_cells Y'; (try simp only [List.cons_append, List.nil_append] at N'); (try dsimp only); (try k_lift B'); (try k_fold))
  k_steps
  all_goals first
    | exact may_ret hret (may_4 (by with_reducible assumption) (by with_reducible assumption)) (by k_asm) (by k_asm) (by kcj_all)
    | exact may_ret hret (may_5 (by with_reducible assumption) (by with_reducible assumption) (by with_reducible assumption)) (by k_asm) (by k_asm) (by kcj_all)
    | exact may_ret hret (may_6 (by with_reducible assumption) (by with_reducible assumption) (by with_reducible assumption)) (by k_asm) (by k_asm) (by kcj_all)
    | exact may_ret hret (may_1 (by with_reducible assumption) (by with_reducible assumption)) (by k_asm) (by k_asm) (by kcj_all)
    | exact may_ret hret (may_2 (by with_reducible assumption) (by with_reducible assumption) (by with_reducible assumption)) (by k_asm) (by k_asm) (by kcj_all)
    | exact may_ret hret (may_3 (by with_reducible assumption) (by with_reducible assumption) (by with_reducible assumption)) (by k_asm) (by k_asm) (by kcj_all)
    | omega
end Mine
namespace Mine

local macro_rules | `(tactic| walk_at $s:str) => `(tactic| k_extra $s)

/-- the thing st at v -/
def ThIn (hand : Int) (news : Led) (v : Value) (st : St) : Prop := ∃ (a : Addr) (n : Nat) (tA tO tG tx : Tok), v = .ref a ∧ (a, listOf #[.int st.ab tA, .int st.ow tO, .int st.gr tG, xV hand st.x tx] n) ∈ news
def ThsIn (hand : Int) (news : Led) (vs : List Value) (sts : List St) : Prop := vs.length = sts.length ∧ ∀ (k : Nat) (st : St), sts[k]? = some st → ∃ v, vs[k]? = some v ∧ ThIn hand news v st
theorem ThIn.mono {hand : Int} {news news' : Led} {v : Value} {st : St} (h : ThIn hand news v st) (hs : ∀ p ∈ news, p ∈ news') : ThIn hand news' v st := by
  obtain ⟨a, n, tA, tO, tG, tx, e, hm⟩ := h
  exact ⟨a, n, tA, tO, tG, tx, e, hs _ hm⟩
theorem ThsIn.mono {hand : Int} {news news' : Led} {vs : List Value} {sts : List St} (h : ThsIn hand news vs sts) (hs : ∀ p ∈ news, p ∈ news') : ThsIn hand news' vs sts :=
  ⟨h.1, fun k st e => let ⟨v, e', t⟩ := h.2 k st e; ⟨v, e', t.mono hs⟩⟩
section
variable {prog : Program} {w : World} {A : Around} {E : Value → Shared → Prop} {s : Shared} {h₀ : Heap} {L : Addr} {news : Led} {Q : Value → Shared → Prop}
theorem th_item {hand : Int} {value slice : PySem.Expr} {T : Addr} {vs : List Value} {n : Nat} {sts : List St} {k : Int} {u : Tok} {r : Led} (hT : (T, listOf vs.toArray n) ∈ news) (N : News h₀ L s.heap news) (D : ThsIn hand r vs sts) (hW : Wf sts)
    (h0 : 0 ≤ k) (h1 : k < (sts.length : Int)) (hl : sts.length < 100)
    (h : ∀ (a : Addr) (n : Nat) (st : St) (tA tO tG tx : Tok), (a, listOf #[.int st.ab tA, .int st.ow tO, .int st.gr tG, xV hand st.x tx] n) ∈ r → sts[k.toNat]? = some st → OkM st.x → (-2 ≤ st.ab ∧ st.ab < k) → Q (.ref a) s)
    (hs : subscripted slice false (.ref T) (.int k u) = operate [.ref T, .int k u] (getItem (.ref T) (.int k u)) := by with_unfolding_all rfl) :
    wpAny (model prog w) A (subscriptTail value slice (.ref T) (.int k u)) Q E s := by
  have hk : k.toNat < sts.length := by omega
  obtain ⟨v, ev, a, n', tA, tO, tG, tx, rfl, hm⟩ := D.2 k.toNat sts[k.toNat] (by simp [hk])
  have o := hW k.toNat sts[k.toNat] (by simp [hk])
  exact l_item (News.isList N hT) h0 (by omega) (by simpa using ev) (h a n' _ tA tO tG tx hm (by simp [hk]) o.1 (by omega)) hs
theorem th_itemE {hand : Int} {value slice : PySem.Expr} {T : Addr} {vs : List Value} {n : Nat} {sts : List St} {k : Int} {u : Tok} {st : St} {r : Led} (hT : (T, listOf vs.toArray n) ∈ news) (e : sts[k.toNat]? = some st) (N : News h₀ L s.heap news) (D : ThsIn hand r vs sts) (hW : Wf sts)
    (h0 : 0 ≤ k) (h1 : k < (sts.length : Int)) (hl : sts.length < 100)
    (h : ∀ (a : Addr) (n : Nat) (tA tO tG tx : Tok), (a, listOf #[.int st.ab tA, .int st.ow tO, .int st.gr tG, xV hand st.x tx] n) ∈ r → OkM st.x → (-2 ≤ st.ab ∧ st.ab < k) → Q (.ref a) s)
    (hs : subscripted slice false (.ref T) (.int k u) = operate [.ref T, .int k u] (getItem (.ref T) (.int k u)) := by with_unfolding_all rfl) :
    wpAny (model prog w) A (subscriptTail value slice (.ref T) (.int k u)) Q E s := by
  refine th_item hT N D hW h0 h1 hl (fun a n st' tA tO tG tx hm e' o b => ?_) hs
  rw [e] at e'
  cases e'
  exact h a n tA tO tG tx hm o b
end
theorem ksw_one {m : Str → Option Value} {n : Str} {v : Value} (h : m n = some v) : ∀ p ∈ [(n, v)], m p.1 = some p.2 := by
  intro p hp
  rw [List.mem_singleton.mp hp]; exact h

local macro_rules | `(tactic| k_mem) => `(tactic| first | with_reducible assumption | assumption)
local macro_rules | `(tactic| k_all) => `(tactic| first | exact all_ne (by with_reducible assumption) (by omega) | exact all_ne' (by with_reducible assumption) (by omega))


theorem up_step {sts : List St} (hw : Wf sts) {user ab : Int} (h : ¬ab < 0) {ab' ow gr x : Int} {R : Bool} (e : sts[ab.toNat]? = some ⟨ab', ow, gr, x⟩) (hm : mayB ow gr x user 2 = true) (hR : up sts user ab = R) : up sts user ab' = R := by
  rw [← hR, up_pos hw user (by omega) e, hm, Bool.true_and]
theorem up_stop {sts : List St} (hw : Wf sts) {user ab : Int} (h : ¬ab < 0) {ab' ow gr x : Int} {R : Bool} (e : sts[ab.toNat]? = some ⟨ab', ow, gr, x⟩) (hm : mayB ow gr x user 2 = false) (hR : up sts user ab = R) : false = R := by
  rw [← hR, up_pos hw user (by omega) e, hm, Bool.false_and]
theorem up_done {sts : List St} {user ab : Int} {R : Bool} (h : ab < 0) (hR : up sts user ab = R) : true = R := by rw [← hR, up_neg sts user h]

theorem t_reach (w : World) (hand : Int) (hh : hand = 0 ∨ hand = 1) (news : Led) (tT : Addr) (vs : List Value) (n : Nat) (sts : List St) (t1 t2 t3 : Tok) (hT : (tT, listOf vs.toArray n) ∈ news) (D : ThsIn hand news vs sts) (hW : Wf sts) (hl : sts.length < 100) (user : Int) (hu : 0 ≤ user ∧ user < 4) (k : Int) (h0 : 0 ≤ k) (h1 : k < (sts.length : Int)) (ab ow gr x : Int) (ek : sts[k.toNat]? = some ⟨ab, ow, gr, x⟩) : Tell w 10 136 [.int hand t1, .ref tT, .int k t3, .int user t2] news (fun n v => n = news ∧ v = .bool (up sts user ab)) := by
  k_with_none
  k_with "execs cons" => (((with_reducible refine wpAny_execs_cons ?_); try dsimp only))
  k_with "execs cons" => (((with_reducible show wpAny _ _ (execs (_ :: _) _) _ _ (Shared.mk _ _ _ (_ + 1 + 1) _)); (with_reducible refine gen_toks ?_); intro tk))
  k_with "call ref" => ((k_here; (with_reducible show wpAny _ _ (call (Value.ref 129) _ _) _ _ _); k_dflt (refine' Tell.use (t_may _ _ (by first | assumption | omega) _ _ _ _ _ _ _ _ _ _ _ _ _ _ (by assumption) (by exact OkM.nonneg (by assumption)) _ (by assumption) _ (by first | exact Or.inl rfl | exact Or.inr rfl) (by assumption)) ?k1 ?k2 ?k3 ?k4 ?k5 ?kK ?kd ?ku ?_; (case k1 => k_asm); (case k2 => k_asm); (case k3 => k_asm); (case k4 => k_asm); (case k5 => k_asm); (case kK => first | exact rfl | assumption); (case kd => first | exact room2 hdp 1 rfl (by decide) | ktr_room); (case ku => first | exact units2 hun 0 rfl (by decide) | ktr_units); k_whole; intro v9 n9 h9 tk9 P9 F9 N9; obtain ⟨e9, e8⟩ := P9; replace e9 := Eq.symm e9; subst e9 e8; (try dsimp only); (try k_fold))))
  k_with "subscriptTail" => ((k_here; (with_reducible show wpAny _ _ (subscriptTail _ _ (Value.ref _) (Value.int (OfNat.ofNat _) _)) _ _ _); k_dflt (refine' l_item (News.isList (by k_asm) (by k_mem)) (by decide) (by decide) rfl ?_)))
  k_with "subscriptTail" => ((k_here; (with_reducible show wpAny _ _ (subscriptTail _ (Expr.Name _ _) (Value.ref _) (Value.int _ _)) _ _ _); k_dflt (refine' th_item ?hT ?N ?D ?hW ?h0 ?h1 ?hl ?_; (case hT => k_mem); (case D => assumption); (case hW => assumption); (case N => k_asm); (case h0 => omega); (case h1 => omega); (case hl => omega); k_whole; intro a9 n9 st9 tA9 tO9 tG9 tx9 hm9 e9 o9 w9; obtain ⟨ab9, ow9, gr9, x9⟩ := st9; dsimp only at hm9 o9 w9)))
  k_with "subscriptTail" => ((k_here; (with_reducible show wpAny _ _ (subscriptTail _ (Expr.Name _ _) (Value.ref _) (Value.int _ _)) _ _ _); k_dflt (refine' th_itemE ?hT ?e ?N ?D ?hW ?h0 ?h1 ?hl ?_; (case hT => k_mem); (case e => assumption); (case D => assumption); (case hW => assumption); (case N => k_asm); (case h0 => omega); (case h1 => omega); (case hl => omega); k_whole; intro a9 n9 tA9 tO9 tG9 tx9 hm9 o9 w9; dsimp only at hm9 o9 w9)))
  k_with "exec While Compare cons nil" => (k_extra "mywhile")
  k_with "KswEnd" => (k_extra "myend")
  unfold Tell
  k_fill
  intro mean mg mb dp un gd cn cs a ccd cl outer A₀ base h₀ L m s Q E B F X N T hk hdp hun hret
  refine wpAny_call ?_
  k_dflt (refine' code_def (binds := [(Str.ofString "hand", .int hand t1), (Str.ofString "things", .ref tT), (Str.ofString "k", .int k t3), (Str.ofString "user", .int user t2)]) ?k1 ?k2 ?k3 ?k4 ?k5 ?kA ?kF ?kK ?k6 ?k7 ?k8 ?k9 ?kB ?_ ?c2 ?c3 ?c4 ?c5; (case kA => exact rfl); (case kF => exact rfl); (case kK => assumption); (case k1 => k_asm); (case k2 => k_asm); (case k3 => k_asm); (case k4 => k_asm); (case k5 => k_asm); (case k6 => k_is); (case k7 => k_is); (case k8 => first | exact room1 hdp 0 rfl (by decide) | ktr_room); (case k9 => exact BindsTo.of_eq rfl); (case c5 => decide); (case kB => exact locs rfl); (case c2 => exact rfl); (case c3 => exact rfl); (case c4 => exact rfl); k_whole; intro g' L' h' FG' F' N' B' X' T'; (try dsimp only); (try k_lift B'); (try k_fold))
  k_with "mywhile" => (k_here; (rename Fr _ _ _ _ => lF'); (rename News _ _ _ _ => lN'); (with_unfolding_all refine' ksw_while (σ := Int × Tok) (fun _ => news) (fun c => [(Str.ofString "above", .int c.1 c.2)]) (fun _ => True) [] (fun c => -2 ≤ c.1 ∧ c.1 < (sts.length : Int) ∧ up sts user c.1 = up sts user ab) (fun c => (c.1 + 2).toNat) ⟨_, _⟩ lF' ?kn ?kf ?kk ?kp ?_); (case kn => exact lN'); (case kf => trivial); (case kk => kst_all); (case kp => exact ⟨by omega, by omega, rfl⟩); clear lF' lN'; intro c u h tk hf hP F9 N9; obtain ⟨ab1, ta1⟩ := c; obtain ⟨lo1, hi1, eq1⟩ := hP; (try dsimp only [kstB] at F9); (try k_fold))
  k_steps
  · rename sts[_]? = some _ => e1
    rename mayB _ _ _ user 2 = true => b1
    exact ksw_end ⟨_, _⟩ (by assumption) (by k_asm) (fun _ h => h) trivial (by kst_all) (by ksw_same) ⟨by dsimp only; omega, by dsimp only; omega, up_step hW (by omega) e1 b1 eq1⟩ (by dsimp only; omega)
  · rename sts[_]? = some _ => e1
    rename mayB _ _ _ user 2 = false => b1
    exact may_ret hret (up_stop hW (by omega) e1 b1 eq1) (by k_asm) (by assumption) (fun _ h => h)
  · exact may_ret hret (up_done (by omega) eq1) (by k_asm) (by assumption) (fun _ h => h)
end Mine
namespace Mine
section
variable {prog : Program} {w : World} {A : Around} {h₀ : Heap} {L : Addr} {m : Str → Option Value} {env : Env} {s : Shared}
theorem compEnd_mono {s₁ s₂ : Shared} {I C D : Addr} {oI oC oD : Obj} {S : Led → Prop} {R R' : Value → Led → Prop} {y : Value} (hR : ∀ n, R y n → R' y n) (h : LCg.CompEnd h₀ L m s₁ I oI C oC D oD S R y s₂) : LCg.CompEnd h₀ L m s₁ I oI C oC D oD S R' y s₂ := by
  obtain ⟨h', tk, news', e, F, N, off, hS, r⟩ := h
  exact ⟨h', tk, news', e, F, N, off, hS, hR _ r⟩
/-- the turns of a comprehension of any length, by what holds between them -/
theorem compRest_inv {elt : Expr} {x : Str} {scope : Scope} {cl : List (Str × Addr)} {S : Led → Prop} {P : Nat → Value → Prop} {Fin : List Value → Led → Prop} (J : Nat → List Value → Led → Prop) {n : Nat} {news : Led} (h0 : J 0 [] news)
    (turn : ∀ i ys nw v I oI C oC D m₂ h tk (E' : Value → Shared → Prop), i < n → J i ys nw → P i v → LCg.NsObj oC m₂ → m₂ x = some v → Fr h₀ L h m → News h₀ L h ((I, oI) :: (C, oC) :: (D, LCg.lst ys) :: nw) → LCg.Off3 I C D nw → ((@Ne Nat I C) ∧ (@Ne Nat I D) ∧ (@Ne Nat C D)) →
      wpAny (model prog w) A (eval elt (compEnvC scope cl C env)) (LCg.CompEnd h₀ L m { s with heap := h, toks := tk } I oI C oC D (LCg.lst ys) S (fun y nw' => J (i + 1) (ys ++ [y]) nw')) E' { s with heap := h, toks := tk })
    (fin : ∀ ys nw, J n ys nw → Fin ys nw) : LCg.CompRest prog w A h₀ L m env elt x scope cl s S P Fin n 0 [] news := by
  suffices h : ∀ k i ys nw, i + k = n → J i ys nw → LCg.CompRest prog w A h₀ L m env elt x scope cl s S P Fin k i ys nw from h n 0 [] news (by omega) h0
  intro k
  induction k with
  | zero =>
    intro i ys nw e hj
    have : i = n := by omega
    subst this
    exact fin ys nw hj
  | succ k ih =>
    intro i ys nw e hj
    refine LCg.CompRest.succ ?_
    intro v I oI C oC D m₂ h tk E' hP hC hx F N off ne
    refine wpAny_mono (turn i ys nw v I oI C oC D m₂ h tk E' (by omega) hj hP hC hx F N off ne) (fun y s₂ q => compEnd_mono (fun n' q' => ih (i + 1) (ys ++ [y]) n' (by omega) q') q) (fun _ _ q => q)
end
end Mine
namespace Mine

local macro_rules | `(tactic| walk_at $s:str) => `(tactic| k_extra $s)

theorem okm_set {x r : Int} (h : OkM x) (hr : 0 ≤ r ∧ r < 4096) : OkM (x - x % 4096 + r) := by unfold OkM at *; omega
theorem ints_app {vs ws : List Value} {ns ms : List Int} (h : IntsAre vs ns) (k : IntsAre ws ms) : IntsAre (vs ++ ws) (ns ++ ms) := by
  induction h with
  | nil => exact k
  | cons i t _ ih => exact .cons i t ih
theorem set_int {x r : Int} (h : OkM x) : x - Builtin.bitAnd x 4095 + r = x - x % 4096 + r := by rw [and_imode h.nonneg]
theorem set_size (x r : Int) : (Txt.item (signs x) 0).length + (nine r).length ≤ sizeLine := by rw [sizeLine_eq, show (Txt.item (signs x) 0).length = 1 from rfl, nine_length]; decide
theorem set_str {x r z : Int} (h : OkM x) (e : r = z % 4096) : Txt.item (signs x) 0 ++ nine r = signs (x - x % 4096 + r) := by
  rw [show Txt.item (signs x) 0 = ⟨#[if bt x 14 then 100 else 45]⟩ from rfl]
  unfold OkM at h
  rcases h with h | h
  · have b : bt x 14 = true := by unfold bt; rw [show (2 : Int) ^ 14 = 16384 from rfl]; exact decide_eq_true (by omega)
    rw [b, show x - x % 4096 + r = 16384 + r by omega, ← signs_dir (by omega)]; rfl
  · have b : bt x 14 = false := by unfold bt; rw [show (2 : Int) ^ 14 = 16384 from rfl]; exact decide_eq_false (by omega)
    rw [b, show x - x % 4096 + r = 32768 + r by omega, ← signs_reg (by omega)]; rfl
theorem and_lo {a b : Int} (ha : 0 ≤ a) (hb : 0 ≤ b) : 0 ≤ Builtin.bitAnd a b ∧ Builtin.bitAnd a b ≤ a := by
  obtain ⟨n, rfl⟩ := Int.eq_ofNat_of_zero_le ha
  obtain ⟨m, rfl⟩ := Int.eq_ofNat_of_zero_le hb
  rw [and_nat]
  have : n &&& m ≤ n := Nat.and_le_left
  omega
theorem t_imode (w : World) (x : Int) (t0 : Tok) : TellV w 2 21 [.int x t0] (fun t => .int (Builtin.bitAnd x 4095) t) := by
  k_with_none
  k_with "execs cons" => (((with_reducible refine wpAny_execs_cons ?_); try dsimp only))
  k_with "execs cons" => (((with_reducible show wpAny _ _ (execs (_ :: _) _) _ _ (Shared.mk _ _ _ (_ + 1 + 1) _)); (with_reducible refine gen_toks ?_); intro tk))
  unfold TellV
  k_fill
  intro mean mg mb dp un gd cn cs a ccd cl outer A₀ base h₀ L m s news Q E B F X N T hk hdp hun hret
  refine wpAny_call ?_
  k_dflt (refine' code_def (binds := [(Str.ofString "mode", .int x t0)]) ?k1 ?k2 ?k3 ?k4 ?k5 ?kA ?kF ?kK ?k6 ?k7 ?k8 ?k9 ?kB ?_ ?c2 ?c3 ?c4 ?c5; (case kA => exact rfl); (case kF => exact rfl); (case kK => assumption); (case k1 => k_asm); (case k2 => k_asm); (case k3 => k_asm); (case k4 => k_asm); (case k5 => k_asm); (case k6 => k_is); (case k7 => k_is); (case k8 => first | exact room1 hdp 0 rfl (by decide) | ktr_room); (case k9 => exact BindsTo.of_eq rfl); (case c5 => decide); (case kB => exact locs rfl); (case c2 => exact rfl); (case c3 => exact rfl); (case c4 => exact rfl); k_whole; intro g' L' h' FG' F' N' B' X' T'; (try dsimp only); (try k_lift B'); (try k_fold))
  k_steps
  exact cb_retI hret rfl (by k_asm) (by k_asm)

theorem t_mayH (w : World) {hand : Int} {news r : Led} {th : Addr} {n : Nat} {ab ow gr x user need : Int} {tx tA tO tG t1 t2 t3 : Tok} (hm : (th, listOf #[.int ab tA, .int ow tO, .int gr tG, xV hand x tx] n) ∈ r) (sub : ∀ p ∈ r, p ∈ news) (hh : hand = 0 ∨ hand = 1) (h0 : OkM x) (hu : 0 ≤ user ∧ user < 4) (hn : need = 1 ∨ need = 2) :
    Tell w 8 129 [.int hand t1, .ref th, .int user t2, .int need t3] news (fun n v => n = news ∧ v = .bool (mayB ow gr x user need)) := t_may w hand hh news th n ab ow gr x tx tA tO tG t1 t2 t3 h0 h0.nonneg user hu need hn (sub _ hm)

theorem mem_in {l l' : Led} {q : Addr × Obj} (h : q ∈ l) (s : ∀ p ∈ l, p ∈ l') : q ∈ l' := s q h
theorem isListOf {h₀ h : Heap} {L a : Addr} {news : Led} {its : Array Value} {n : Nat} (N : News h₀ L h news) (hm : (a, listOf its n) ∈ news) : h.IsList a its := News.isList N hm
local macro_rules | `(tactic| k_mem) => `(tactic| exact mem_in (by with_reducible assumption) (by kcj_all))
local macro_rules | `(tactic| k_all) => `(tactic| first | with_reducible assumption | exact all_ne (by with_reducible assumption) (by omega) | exact all_ne' (by with_reducible assumption) (by omega))


section
variable {prog : Program} {w : World} {A : Around} {E : Value → Shared → Prop} {s : Shared} {h₀ : Heap} {L : Addr} {m : Str → Option Value} {news news' : Led}
theorem news_tl {h₀ h : Heap} {L : Addr} {p : Addr × Obj} {r : Led} (N : News h₀ L h (p :: r)) : News h₀ L h r := fun q hq => N q (List.mem_cons_of_mem _ hq)
theorem menu_pick {value slice : PySem.Expr} {l : Addr} {its : List Value} {ns : List Int} {k : Int} {u : Tok} {Q : Value → Shared → Prop} (hl : s.heap.IsList l its.toArray) (hi : IntsAre its ns) (h0 : 0 ≤ k) (h1 : k < (ns.length : Int)) (hz : ns.length < 100 ∧ ∀ x ∈ ns, 0 ≤ x ∧ x ≤ 512)
    (h : ∀ z t, 0 ≤ z → z ≤ 512 → z = ns.getD k.toNat 0 → Q (.int z t) s)
    (hs : subscripted slice false (.ref l) (.int k u) = operate [.ref l, .int k u] (getItem (.ref l) (.int k u)) := by with_unfolding_all rfl) :
    wpAny (model prog w) A (subscriptTail value slice (.ref l) (.int k u)) Q E s := by
  have hk : k.toNat < ns.length := by omega
  obtain ⟨t, ht⟩ := hi.get k.toNat ns[k.toNat] (by simp [hk])
  have b := hz.2 ns[k.toNat] (List.getElem_mem hk)
  exact l_item hl h0 (by omega) (by simpa using ht) (h _ t b.1 b.2 (by simp [List.getD, hk])) hs
theorem th_len {T : Addr} {vs : List Value} {n : Nat} {sts : List St} {hand : Int} {r : Led} {Q : Value → Shared → Prop} (hT : (T, listOf vs.toArray n) ∈ news) (N : News h₀ L s.heap news) (D : ThsIn hand r vs sts) (hl : sts.length < 100)
    (h : Q (.int (sts.length : Int) (s.toks + 1)) { s with toks := s.toks + 1 + 1 }) : wpAny (model prog w) A (call (.builtin "len") [.ref T]) Q E s :=
  kun_lenL (News.isList N hT) (by simp [D.1]) (by omega) h
theorem th_set {T : Addr} {vs : List Value} {n : Nat} {k : Int} {t : Tok} {a : Addr} {Q : Unit → Shared → Prop} (F : Fr h₀ L s.heap m) (N : News h₀ L s.heap news) (U : Upd T (listOf vs.toArray n) (listOf (vs.set k.toNat (.ref a)).toArray n) news news') (h0 : 0 ≤ k) (h1 : k < (vs.length : Int)) (hz : vs.length < 100)
    (h : ∀ h', Fr h₀ L h' m → News h₀ L h' news' → Q () { s with heap := h' }) : wpAny (model prog w) A (setItem (.ref T) (.int k t) (.ref a)) Q E s := by
  obtain ⟨pre, post, rfl, rfl, a', b⟩ := U.split
  have z := N (T, listOf vs.toArray n) (List.mem_append.mpr (.inr (.head _)))
  refine ki_setAt z.1 h0 (by omega) (by simp; omega) (h _ (F.change (Heap.SameBut.update ..) z.2.1 z.2.2) (ki_turn _ N a' b ?_ ?_))
  · apply Array.toList_inj.mp
    simp
  · simp
end
section
variable {prog : Program} {w : World} {A : Around} {E : Value → Shared → Prop} {h₀ : Heap} {L : Addr} {m : Str → Option Value} {news : Led} {env : Env}
/-- a value told, the frame and the ledger as they were -/
def JV (R : Tok → Value) (h₀ : Heap) (L : Addr) (m : Str → Option Value) (news : Led) (hp : Heap) (g : Array GenState) (d : Drawn) (o : OsState) (v : Value) (s' : Shared) : Prop := ∃ (t : Tok) (h' : Heap) (tk' : Nat), v = R t ∧ s' = ⟨h', g, d, tk', o⟩ ∧ Fr h₀ L h' m ∧ News h₀ L h' news
theorem jv_cut {hp : Heap} {g : Array GenState} {d : Drawn} {k : Nat} {o : OsState} {t : Sem Value} {Q : Value → Shared → Prop} (R : Tok → Value) (_F : Fr h₀ L hp m) (_N : News h₀ L hp news) (H : wpAny (model prog w) A t (JV R h₀ L m news hp g d o) E ⟨hp, g, d, k, o⟩)
    (rest : ∀ t h' tk', Fr h₀ L h' m → News h₀ L h' news → Q (R t) ⟨h', g, d, tk', o⟩) : wpAny (model prog w) A t Q E ⟨hp, g, d, k, o⟩ := by
  refine wpAny_mono H (fun v s' q => ?_) fun _ _ q => q
  obtain ⟨t, h', tk', rfl, rfl, F, N⟩ := q
  exact rest t h' tk' F N
theorem jv_int {hp h' : Heap} {g : Array GenState} {d : Drawn} {k : Nat} {o : OsState} {a b : Int} {t : Tok} {all : Led} (e : a = b) (F : Fr h₀ L h' m) (N : News h₀ L h' all) (sb : ∀ p ∈ news, p ∈ all) : JV (fun t => .int b t) h₀ L m news hp g d o (.int a t) ⟨h', g, d, k, o⟩ := by
  subst e
  exact ⟨t, h', k, rfl, rfl, F, fun p hp => N p (sb p hp)⟩
theorem jv_str {hp h' : Heap} {g : Array GenState} {d : Drawn} {k : Nat} {o : OsState} {a b : Str} {t : Tok} {all : Led} (e : a = b) (F : Fr h₀ L h' m) (N : News h₀ L h' all) (sb : ∀ p ∈ news, p ∈ all) : JV (fun t => .str b t) h₀ L m news hp g d o (.str a t) ⟨h', g, d, k, o⟩ := by
  subst e
  exact ⟨t, h', k, rfl, rfl, F, fun p hp => N p (sb p hp)⟩
theorem jv_set {hand x r z : Int} {hp : Heap} {g : Array GenState} {d : Drawn} {k : Nat} {o : OsState} {t : Sem Value} {Q : Value → Shared → Prop} (hh : hand = 0 ∨ hand = 1) (_o : OkM x) (_e : r = z % 4096) (F : Fr h₀ L hp m) (N : News h₀ L hp news)
    (H0 : hand = 0 → wpAny (model prog w) A t (JV (fun t => .int (x - x % 4096 + r) t) h₀ L m news hp g d o) E ⟨hp, g, d, k, o⟩) (H1 : hand = 1 → wpAny (model prog w) A t (JV (fun t => .str (signs (x - x % 4096 + r)) t) h₀ L m news hp g d o) E ⟨hp, g, d, k, o⟩)
    (rest : ∀ t h' tk', Fr h₀ L h' m → News h₀ L h' news → Q (xV hand (x - x % 4096 + r) t) ⟨h', g, d, tk', o⟩) : wpAny (model prog w) A t Q E ⟨hp, g, d, k, o⟩ := by
  rcases hh with rfl | rfl
  · exact jv_cut _ F N (H0 rfl) rest
  · exact jv_cut _ F N (H1 rfl) rest
theorem th_comp {hand : Int} {elt : Expr} {x : Str} {scope : Scope} {cl : List (Str × Addr)} {Fin : Shared → List Value → Led → Prop} {T : Addr} {vs : List Value} {nn : Nat} {sts : List St} {r : Led} {s₁ : Shared}
    (hh : A.handled = none) (F : Fr h₀ L s₁.heap m) (N : News h₀ L s₁.heap news) (hT : (T, listOf vs.toArray nn) ∈ news) (D : ThsIn hand r vs sts) (hl : sts.length < 100)
    (turn : ∀ (g : Heap) (ys : List Value) (a : Addr) (n : Nat) (st : St) (tA tO tG tx : Tok) I oI C oC D m₂ h tk (E' : Value → Shared → Prop), (a, listOf #[.int st.ab tA, .int st.ow tO, .int st.gr tG, xV hand st.x tx] n) ∈ r → LCg.NsObj oC m₂ → m₂ x = some (.ref a) → Fr h₀ L h m → News h₀ L h ((I, oI) :: (C, oC) :: (D, LCg.lst ys) :: news) → LCg.Off3 I C D news → ((@Ne Nat I C) ∧ (@Ne Nat I D) ∧ (@Ne Nat C D)) →
      wpAny (model prog w) A (eval elt (compEnvC scope cl C env)) (LCg.CompEnd h₀ L m { s₁ with heap := h, toks := tk } I oI C oC D (LCg.lst ys) (LCg.SrcAt h₀ T vs.toArray) (fun y nw' => nw' = news ∧ ∃ t, y = .int st.ab t)) E' { s₁ with heap := h, toks := tk })
    (fin : ∀ g ys, IntsAre ys (sts.map St.ab) → Fin { s₁ with heap := g } ys news) : LCg.CompSrc prog w A h₀ L m env elt x scope cl Fin (.ref T) s₁ := by
  refine LCg.CompSrc.ledger hh F N hT (by rw [List.size_toArray, D.1]; exact Nat.le_trans (Nat.le_of_lt hl) (by decide)) fun g => ?_
  refine compRest_inv (fun i ys nw => nw = news ∧ IntsAre ys ((sts.take i).map St.ab)) ⟨rfl, by simpa using IntsAre.nil⟩ ?_ ?_
  · rintro i ys nw v I oI C oC D' m₂ h tk E' hi ⟨rfl, hj⟩ hP hC hx F' N' off ne
    have hi' : i < sts.length := by rw [List.size_toArray, D.1] at hi; exact hi
    have es : sts[i]? = some sts[i] := by simp [hi']
    obtain ⟨v', ev, a, n, tA, tO, tG, tx, rfl, hm⟩ := D.2 i sts[i] es
    have : v = .ref a := by
      have hP' : vs[i]? = some v := by simpa using hP
      rw [ev] at hP'; exact (Option.some.inj hP').symm
    subst this
    refine wpAny_mono (turn h ys a n sts[i] tA tO tG tx I oI C oC D' m₂ h tk E' hm hC hx F' N' off ne) (fun y s₂ q => compEnd_mono (fun n' q' => ?_) q) fun _ _ q => q
    obtain ⟨rfl, t, rfl⟩ := q'
    refine ⟨rfl, ?_⟩
    rw [List.take_add_one, es]
    simp only [Option.toList_some, List.map_append, List.map_cons, List.map_nil]
    exact ints_app hj (.cons _ _ .nil)
  · rintro ys nw ⟨rfl, hj⟩
    refine fin g ys ?_
    rw [List.size_toArray, D.1, List.take_length] at hj
    exact hj
end
section
variable {prog : Program} {w : World} {A : Around} {E : Value → Shared → Prop} {hp : Heap} {gs : Array GenState} {d : Drawn} {o : OsState} {k : Nat} {a b : Int} {t u : Tok} {Q : Value → Shared → Prop}
theorem d_div (hb : 0 < b) (hp' : Builtin.divisionGoesByPylong a b = false) (h : ∀ z tk tk', z = a / b → Q (.int z tk) ⟨hp, gs, d, tk', o⟩) : wpAny (model prog w) A (binaryOp .FloorDiv (.int a t) (.int b u)) Q E ⟨hp, gs, d, k, o⟩ :=
  my_div hb (Or.inl hp') (fun z e => h z _ _ e)
theorem d_and (ha : 0 ≤ a) (hb : 0 ≤ b) (h : ∀ z tk tk', 0 ≤ z → z ≤ a → z = Builtin.bitAnd a b → Q (.int z tk) ⟨hp, gs, d, tk', o⟩) : wpAny (model prog w) A (binaryOp .BitAnd (.int a t) (.int b u)) Q E ⟨hp, gs, d, k, o⟩ :=
  and_int (h _ _ _ (and_lo ha hb).1 (and_lo ha hb).2 rfl)
theorem d_mod (hb : 0 < b) (h : ∀ z tk tk', 0 ≤ z → z < b → z = a % b → Q (.int z tk) ⟨hp, gs, d, tk', o⟩) : wpAny (model prog w) A (binaryOp .Mod (.int a t) (.int b u)) Q E ⟨hp, gs, d, k, o⟩ :=
  my_mod hb (fun z e1 e2 e => h z _ _ e1 e2 e)
end

def DeedPost (hand : Int) (r : Led) (tT : Addr) (res : Dat × List St) (n' : Led) (v : Value) : Prop :=
  ∃ (add : Led) (vs' : List Value) (nn : Nat), n' = (tT, listOf vs'.toArray nn) :: (add ++ r) ∧ (∀ p ∈ add, tT < p.1 ∧ ∀ q ∈ r, q.1 < p.1) ∧ ThsIn hand (add ++ r) vs' res.2 ∧ DatIn (add ++ r) v res.1

section
variable {hand : Int} {r all : Led} {tT a : Addr} {vs : List Value} {nn n' : Nat} {sts : List St} {n : Int} {h₀ h' : Heap} {L : Addr} {m : Str → Option Value} {s : Shared} {Q : Value → Shared → Prop} {tk' : Nat} {t tA tO tG tx : Tok} {A : Str}
theorem post_no (D : ThsIn hand r vs sts) (hret : ∀ (v : Value) (news' : Led) (h' : Heap) (tk' : Nat), DeedPost hand r tT (deedP sts n) news' v → Fr h₀ L h' m → News h₀ L h' news' → Q v { s with heap := h', toks := tk' })
    (F : Fr h₀ L h' m) (N : News h₀ L h' all) (mT : (tT, listOf vs.toArray nn) ∈ all) (sr : ∀ p ∈ r, p ∈ all) (e : deedP sts n = (no, sts)) : Q (.str (Str.ofString "no") t) { s with heap := h', toks := tk' } := by
  refine hret _ ((tT, listOf vs.toArray nn) :: ([] ++ r)) _ _ ⟨[], vs, nn, rfl, (fun x h => absurd h List.not_mem_nil), ?_, ?_⟩ F (fun p hp => ?_)
  · rw [e]; exact D
  · rw [e]; exact DatIn.str _ _
  · rcases List.mem_cons.mp hp with rfl | hp
    · exact N _ mT
    · exact N _ (sr _ hp)
theorem post_run {p q : Int} {tp tq : Tok} (D : ThsIn hand r vs sts) (hret : ∀ (v : Value) (news' : Led) (h' : Heap) (tk' : Nat), DeedPost hand r tT (deedP sts n) news' v → Fr h₀ L h' m → News h₀ L h' news' → Q v { s with heap := h', toks := tk' })
    (F : Fr h₀ L h' m) (N : News h₀ L h' all) (ma : (a, listOf #[.int p tp, .int q tq] n') ∈ all) (mT : (tT, listOf vs.toArray nn) ∈ all) (sr : ∀ p ∈ r, p ∈ all) (fr : tT < a ∧ AllLt a r) (e : deedP sts n = (.list [.int p, .int q], sts)) : Q (.ref a) { s with heap := h', toks := tk' } := by
  refine hret _ ((tT, listOf vs.toArray nn) :: ([(a, listOf #[.int p tp, .int q tq] n')] ++ r)) _ _ ⟨[(a, listOf #[.int p tp, .int q tq] n')], vs, nn, rfl, fun x h => ?_, ?_, ?_⟩ F (fun x hx => ?_)
  · rw [List.mem_singleton.mp h]; exact ⟨fr.1, ktn_ltOf fr.2⟩
  · rw [e]; exact D.mono fun _ h => List.mem_cons_of_mem _ h
  · rw [e]; exact DatIn.list (vs := [.int p tp, .int q tq]) List.mem_cons_self (.cons (.int _ _) (.cons (.int _ _) .nil))
  · rcases List.mem_cons.mp hx with rfl | hx
    · exact N _ mT
    · rcases List.mem_cons.mp hx with rfl | hx
      · exact N _ ma
      · exact N _ (sr _ hx)
theorem ths_set {k : Nat} {st : St} {a : Addr} {r' : Led} (D : ThsIn hand r vs sts) (hr : ∀ p ∈ r, p ∈ r') (h : ThIn hand r' (.ref a) st) : ThsIn hand r' (vs.set k (.ref a)) (sts.set k st) := by
  refine ⟨by rw [List.length_set, List.length_set]; exact D.1, fun j st' e => ?_⟩
  by_cases hj : k = j
  · subst hj
    have hlt : k < sts.length := by
      have := List.length_set (as := sts) (i := k) (a := st)
      rw [← this]
      exact (List.getElem?_eq_some_iff.mp e).1
    rw [List.getElem?_set_self hlt] at e
    cases e
    exact ⟨.ref a, by rw [List.getElem?_set_self (by rw [D.1]; exact hlt)], h⟩
  · rw [List.getElem?_set_ne hj] at e
    obtain ⟨v, ev, t⟩ := D.2 j st' e
    exact ⟨v, by rw [List.getElem?_set_ne hj]; exact ev, t.mono hr⟩
theorem ths_app {st : St} {a : Addr} {r' : Led} (D : ThsIn hand r vs sts) (hr : ∀ p ∈ r, p ∈ r') (h : ThIn hand r' (.ref a) st) : ThsIn hand r' (vs ++ [.ref a]) (sts ++ [st]) := by
  refine ⟨by rw [List.length_append, List.length_append, D.1]; rfl, fun j st' e => ?_⟩
  by_cases hj : j < sts.length
  · rw [List.getElem?_append_left hj] at e
    obtain ⟨v, ev, t⟩ := D.2 j st' e
    exact ⟨v, by rw [List.getElem?_append_left (by rw [D.1]; exact hj)]; exact ev, t.mono hr⟩
  · have hj' : sts.length ≤ j := by omega
    rw [List.getElem?_append_right hj'] at e
    have h0 : j - sts.length = 0 := by
      have := (List.getElem?_eq_some_iff.mp e).1
      simp at this; omega
    rw [h0] at e
    cases e
    exact ⟨.ref a, by rw [List.getElem?_append_right (by rw [D.1]; exact hj'), D.1, h0]; rfl, h⟩
theorem post_set {k ab ow gr z : Int} (D : ThsIn hand r vs sts) (hret : ∀ (v : Value) (news' : Led) (h' : Heap) (tk' : Nat), DeedPost hand r tT (deedP sts n) news' v → Fr h₀ L h' m → News h₀ L h' news' → Q v { s with heap := h', toks := tk' })
    (F : Fr h₀ L h' m) (N : News h₀ L h' all) (mT : (tT, listOf (vs.set k.toNat (.ref a)).toArray nn) ∈ all) (ma : (a, listOf #[.int ab tA, .int ow tO, .int gr tG, xV hand z tx] n') ∈ all) (sr : ∀ p ∈ r, p ∈ all) (fr : tT < a ∧ AllLt a r) (e : deedP sts n = (.str A, sts.set k.toNat ⟨ab, ow, gr, z⟩)) : Q (.str A t) { s with heap := h', toks := tk' } := by
  refine hret _ ((tT, listOf (vs.set k.toNat (.ref a)).toArray nn) :: ([(a, listOf #[.int ab tA, .int ow tO, .int gr tG, xV hand z tx] n')] ++ r)) _ _ ⟨[(a, listOf #[.int ab tA, .int ow tO, .int gr tG, xV hand z tx] n')], _, nn, rfl, fun x h => ?_, ?_, ?_⟩ F (fun x hx => ?_)
  · rw [List.mem_singleton.mp h]; exact ⟨fr.1, ktn_ltOf fr.2⟩
  · rw [e]; exact ths_set D (fun _ h => List.mem_cons_of_mem _ h) ⟨a, n', tA, tO, tG, tx, rfl, List.mem_cons_self⟩
  · rw [e]; exact DatIn.str _ _
  · rcases List.mem_cons.mp hx with rfl | hx
    · exact N _ mT
    · rcases List.mem_cons.mp hx with rfl | hx
      · exact N _ ma
      · exact N _ (sr _ hx)
theorem post_made {ab ow gr z : Int} (D : ThsIn hand r vs sts) (hret : ∀ (v : Value) (news' : Led) (h' : Heap) (tk' : Nat), DeedPost hand r tT (deedP sts n) news' v → Fr h₀ L h' m → News h₀ L h' news' → Q v { s with heap := h', toks := tk' })
    (F : Fr h₀ L h' m) (N : News h₀ L h' all) (mT : (tT, listOf (vs.toArray.push (.ref a)) nn) ∈ all) (ma : (a, listOf #[.int ab tA, .int ow tO, .int gr tG, xV hand z tx] n') ∈ all) (sr : ∀ p ∈ r, p ∈ all) (fr : tT < a ∧ AllLt a r) (e : deedP sts n = (.str A, sts ++ [⟨ab, ow, gr, z⟩])) : Q (.str A t) { s with heap := h', toks := tk' } := by
  rw [List.push_toArray] at mT
  refine hret _ ((tT, listOf (vs ++ [Value.ref a]).toArray nn) :: ([(a, listOf #[.int ab tA, .int ow tO, .int gr tG, xV hand z tx] n')] ++ r)) _ _ ⟨[(a, listOf #[.int ab tA, .int ow tO, .int gr tG, xV hand z tx] n')], _, nn, rfl, fun x h => ?_, ?_, ?_⟩ F (fun x hx => ?_)
  · rw [List.mem_singleton.mp h]; exact ⟨fr.1, ktn_ltOf fr.2⟩
  · rw [e]; exact ths_app D (fun _ h => List.mem_cons_of_mem _ h) ⟨a, n', tA, tO, tG, tx, rfl, List.mem_cons_self⟩
  · rw [e]; exact DatIn.str _ _
  · rcases List.mem_cons.mp hx with rfl | hx
    · exact N _ mT
    · rcases List.mem_cons.mp hx with rfl | hx
      · exact N _ ma
      · exact N _ (sr _ hx)
end
local macro_rules | `(tactic| k_ne) => `(tactic| first | exact ne_fst (by with_reducible assumption) | exact ne_snd (by with_reducible assumption) | exact ne_thd (by with_reducible assumption))
local macro_rules | `(tactic| kcj_all) => `(tactic| ((repeat first | (with_reducible exact fun _ h => h) | (with_reducible refine sub_cons ?_)); done))
local macro_rules | `(tactic| k_mem) => `(tactic| ((repeat first | (with_reducible exact List.mem_cons_self) | (with_reducible refine List.mem_cons_of_mem _ ?_)); first | done | with_reducible assumption))
theorem t_deed (w : World) (hand : Int) (hh : hand = 0 ∨ hand = 1) (r : Led) (tT : Addr) (vs : List Value) (nn : Nat) (sts : List St) (t1 t2 : Tok) (hT : ∀ p ∈ r, p.1 ≠ tT) (D : ThsIn hand r vs sts) (hW : Wf sts) (hl : sts.length < 50) (hp : 0 < sts.length) (n : Int) (hn : 0 ≤ n) : Tell w 12 141 [.int hand t1, .ref tT, .int n t2] ((tT, listOf vs.toArray nn) :: r) (DeedPost hand r tT (deedP sts n)) := by
  k_with "call ref" => ((k_here; (with_reducible show wpAny _ _ (call (Value.ref 21) [Value.int _ _] _) _ _ _); k_dflt (refine' TellV.use (t_imode _ _ _) ?k1 ?k2 ?k3 ?k4 ?k5 ?kK ?kd ?ku ?_; (case k1 => k_asm); (case k2 => k_asm); (case k3 => k_asm); (case k4 => k_asm); (case k5 => k_asm); (case kK => first | exact rfl | assumption); (case kd => first | exact room2 hdp 1 rfl (by decide) | ktr_room); (case ku => first | exact units2 hun 0 rfl (by decide) | ktr_units); k_whole; intro t9 h9 tk9 F9 N9; (try dsimp only); (try k_sweep); (try k_fold))))
  k_with "call ref" => ((k_here; (with_reducible show wpAny _ _ (call (Value.ref 89) [Value.int _ _] _) _ _ _); k_dflt (refine' TellV.use (t_nine _ _ _ ⟨by omega, by omega⟩) ?k1 ?k2 ?k3 ?k4 ?k5 ?kK ?kd ?ku ?_; (case k1 => k_asm); (case k2 => k_asm); (case k3 => k_asm); (case k4 => k_asm); (case k5 => k_asm); (case kK => first | exact rfl | assumption); (case kd => first | exact room2 hdp 1 rfl (by decide) | ktr_room); (case ku => first | exact units2 hun 0 rfl (by decide) | ktr_units); k_whole; intro t9 h9 tk9 F9 N9; (try dsimp only); (try k_sweep); (try k_fold))))
  k_with "call ref" => ((k_here; (with_reducible show wpAny _ _ (call (Value.ref 110) _ _) _ _ _); k_dflt (refine' TellV.use (t_right _ _ (by assumption) _ (OkM.nonneg (by first | assumption | (exact okm_set (by assumption) ⟨by omega, by omega⟩) | (refine OkM.unmk (by decide) ?_; first | assumption | exact okm_set (by assumption) ⟨by omega, by omega⟩ | (refine OkM.unmk (by decide) ?_; assumption)))) _ _ _ _ _ _ (by decide) (by decide)) ?k1 ?k2 ?k3 ?k4 ?k5 ?kK ?kd ?ku ?_; (case k1 => k_asm); (case k2 => k_asm); (case k3 => k_asm); (case k4 => k_asm); (case k5 => k_asm); (case kK => first | exact rfl | assumption); (case kd => first | exact room2 hdp 1 rfl (by decide) | ktr_room); (case ku => first | exact units2 hun 0 rfl (by decide) | ktr_units); k_whole; intro t9 h9 tk9 F9 N9; (try dsimp only); (try k_sweep); (try k_fold))))
  k_with "call ref" => ((k_here; (with_reducible show wpAny _ _ (call (Value.ref 117) _ _) _ _ _); k_dflt (refine' TellV.use (t_mark _ _ (by assumption) _ (OkM.nonneg (by first | assumption | (exact okm_set (by assumption) ⟨by omega, by omega⟩) | (refine OkM.unmk (by decide) ?_; first | assumption | exact okm_set (by assumption) ⟨by omega, by omega⟩ | (refine OkM.unmk (by decide) ?_; assumption)))) _ _ _ _ (by decide)) ?k1 ?k2 ?k3 ?k4 ?k5 ?kK ?kd ?ku ?_; (case k1 => k_asm); (case k2 => k_asm); (case k3 => k_asm); (case k4 => k_asm); (case k5 => k_asm); (case kK => first | exact rfl | assumption); (case kd => first | exact room2 hdp 1 rfl (by decide) | ktr_room); (case ku => first | exact units2 hun 0 rfl (by decide) | ktr_units); k_whole; intro t9 h9 tk9 F9 N9; (try dsimp only); (try k_sweep); (try k_fold))))
  k_with "call ref" => ((k_here; (with_reducible show wpAny _ _ (call (Value.ref 124) _ _) _ _ _); k_dflt (refine' TellV.use (t_unmark _ _ (by assumption) _ (by first | assumption | (exact okm_set (by assumption) ⟨by omega, by omega⟩) | (refine OkM.unmk (by decide) ?_; first | assumption | exact okm_set (by assumption) ⟨by omega, by omega⟩ | (refine OkM.unmk (by decide) ?_; assumption))) _ _ _ _ (by decide)) ?k1 ?k2 ?k3 ?k4 ?k5 ?kK ?kd ?ku ?_; (case k1 => k_asm); (case k2 => k_asm); (case k3 => k_asm); (case k4 => k_asm); (case k5 => k_asm); (case kK => first | exact rfl | assumption); (case kd => first | exact room2 hdp 1 rfl (by decide) | ktr_room); (case ku => first | exact units2 hun 0 rfl (by decide) | ktr_units); k_whole; intro t9 h9 tk9 F9 N9; (try dsimp only); (try k_sweep); (try k_fold))))
  k_with "call ref" => ((k_here; (with_reducible show wpAny _ _ (call (Value.ref 96) _ _) _ _ _); k_dflt (refine' TellV.use (t_fresh _ _ (by assumption) _ _ _ _ (by first | assumption | omega)) ?k1 ?k2 ?k3 ?k4 ?k5 ?kK ?kd ?ku ?_; (case k1 => k_asm); (case k2 => k_asm); (case k3 => k_asm); (case k4 => k_asm); (case k5 => k_asm); (case kK => first | exact rfl | assumption); (case kd => first | exact room2 hdp 1 rfl (by decide) | ktr_room); (case ku => first | exact units2 hun 0 rfl (by decide) | ktr_units); k_whole; intro t9 h9 tk9 F9 N9; (try dsimp only); (try k_sweep); (try k_fold))))
  k_with "call ref" => ((k_here; (with_reducible show wpAny _ _ (call (Value.ref 103) _ _) _ _ _); k_dflt (refine' Tell.use (t_kind _ _ (by assumption) _ _ (by assumption) _ _) ?k1 ?k2 ?k3 ?k4 ?k5 ?kK ?kd ?ku ?_; (case k1 => k_asm); (case k2 => k_asm); (case k3 => k_asm); (case k4 => k_asm); (case k5 => k_asm); (case kK => first | exact rfl | assumption); (case kd => first | exact room2 hdp 1 rfl (by decide) | ktr_room); (case ku => first | exact units2 hun 0 rfl (by decide) | ktr_units); k_whole; intro v9 n9 h9 tk9 P9 F9 N9; obtain ⟨a9, e9, e8, l9⟩ := P9; subst e9 e8; (try k_lt l9); (try dsimp only); (try k_sweep); (try k_fold))))
  k_with "call ref" => ((k_here; (with_reducible show wpAny _ _ (call (Value.ref 129) _ _) _ _ _); (with_reducible rename News _ _ _ _ => nN9); k_dflt (refine' Tell.use (t_mayH _ (by with_reducible assumption) (by kcj_all) (by assumption) (by with_reducible assumption) ⟨by omega, by omega⟩ (by first | exact Or.inl rfl | exact Or.inr rfl)) ?k1 ?k2 ?k3 nN9 ?k5 ?kK ?kd ?ku ?_; (case k1 => k_asm); (case k2 => k_asm); (case k3 => k_asm); (case k5 => k_asm); (case kK => first | exact rfl | assumption); (case kd => first | exact room2 hdp 1 rfl (by decide) | ktr_room); (case ku => first | exact units2 hun 0 rfl (by decide) | ktr_units); k_whole; intro v9 n9 h9 tk9 P9 F9 N9; obtain ⟨e9, e8⟩ := P9; replace e9 := Eq.symm e9; subst e9 e8; (try dsimp only); (try k_sweep); (try k_fold))))
  k_with "call ref" => ((k_here; (with_reducible show wpAny _ _ (call (Value.ref 136) _ _) _ _ _); (with_reducible rename News _ _ _ _ => nN9); k_dflt (refine' Tell.use (t_reach _ _ (by assumption) _ _ _ _ _ _ _ _ (by k_mem) (ThsIn.mono (by assumption) (by kcj_all)) (by assumption) (by omega) _ ⟨by omega, by omega⟩ _ (by omega) (by omega) _ _ _ _ (by assumption)) ?k1 ?k2 ?k3 nN9 ?k5 ?kK ?kd ?ku ?_; (case k1 => k_asm); (case k2 => k_asm); (case k3 => k_asm); (case k5 => k_asm); (case kK => first | exact rfl | assumption); (case kd => first | exact room2 hdp 1 rfl (by decide) | ktr_room); (case ku => first | exact units2 hun 0 rfl (by decide) | ktr_units); k_whole; intro v9 n9 h9 tk9 P9 F9 N9; obtain ⟨e9, e8⟩ := P9; replace e9 := Eq.symm e9; subst e9 e8; (try dsimp only); (try k_sweep); (try k_fold))))
  k_with "subscriptTail Name Constant ref int" => ((k_here; (with_reducible show wpAny _ _ (subscriptTail _ _ (Value.ref _) (Value.int (OfNat.ofNat _) _)) _ _ _); k_dflt (refine' l_item (isListOf (by k_asm) (by k_mem)) (by decide) (by decide) rfl ?_)))
  k_with "subscriptTail Name Name ref int" => ((k_here; (with_reducible show wpAny _ _ (subscriptTail _ (Expr.Name _ _) (Value.ref _) (Value.int _ _)) _ _ _); k_dflt (refine' th_item ?hT ?N ?D ?hW ?h0 ?h1 ?hl ?_; (case N => k_asm); (case hT => k_mem); (case D => assumption); (case hW => assumption); (case h0 => omega); (case h1 => omega); (case hl => omega); k_whole; intro a9 n9 st9 tA9 tO9 tG9 tx9 hm9 e9 o9 w9; obtain ⟨ab9, ow9, gr9, x9⟩ := st9; dsimp only at hm9 o9 w9; (try k_extra "deedE"))))
  k_with "subscriptTail Name Name ref int" => ((k_here; (with_reducible show wpAny _ _ (subscriptTail _ (Expr.Name _ _) (Value.ref _) (Value.int _ _)) _ _ _); k_dflt (refine' th_itemE ?hT ?e ?N ?D ?hW ?h0 ?h1 ?hl ?_; (case N => k_asm); (case hT => k_mem); (case e => assumption); (case D => assumption); (case hW => assumption); (case h0 => omega); (case h1 => omega); (case hl => omega); k_whole; intro a9 n9 tA9 tO9 tG9 tx9 hm9 o9 w9; dsimp only at hm9 o9 w9)))
  k_with "subscriptTail List cons Name ref int" => ((k_here; (with_reducible show wpAny _ _ (subscriptTail _ _ (Value.ref _) (Value.int _ _)) _ _ _); k_dflt (refine' menu_pick ?hL ?hi ?h0 ?h1 ?hz ?_; (case hL => exact isListOf (by k_asm) (by k_mem)); (case hi => (first | exact IntsAre.cons _ _ (IntsAre.cons _ _ (IntsAre.cons _ _ (IntsAre.cons _ _ (IntsAre.nil)))) | exact IntsAre.cons _ _ (IntsAre.cons _ _ (IntsAre.cons _ _ (IntsAre.cons _ _ (IntsAre.cons _ _ (IntsAre.cons _ _ (IntsAre.cons _ _ (IntsAre.cons _ _ (IntsAre.cons _ _ (IntsAre.cons _ _ (IntsAre.nil)))))))))) | exact IntsAre.cons _ _ (IntsAre.cons _ _ (IntsAre.cons _ _ (IntsAre.nil))))); (case hz => decide); (case h0 => omega); (case h1 => (first | omega | (simp only [List.length_cons, List.length_nil]; omega))); k_whole; intro z9 t9 lo9 hi9 e9; (with_reducible rename News _ _ _ _ => nN9); replace nN9 := news_tl nN9)))
  k_with "subscriptTail List cons BinOp ref int" => ((k_here; (with_reducible show wpAny _ _ (subscriptTail _ _ (Value.ref _) (Value.int _ _)) _ _ _); k_dflt (refine' menu_pick ?hL ?hi ?h0 ?h1 ?hz ?_; (case hL => exact isListOf (by k_asm) (by k_mem)); (case hi => (first | exact IntsAre.cons _ _ (IntsAre.cons _ _ (IntsAre.cons _ _ (IntsAre.cons _ _ (IntsAre.nil)))) | exact IntsAre.cons _ _ (IntsAre.cons _ _ (IntsAre.cons _ _ (IntsAre.cons _ _ (IntsAre.cons _ _ (IntsAre.cons _ _ (IntsAre.cons _ _ (IntsAre.cons _ _ (IntsAre.cons _ _ (IntsAre.cons _ _ (IntsAre.nil)))))))))) | exact IntsAre.cons _ _ (IntsAre.cons _ _ (IntsAre.cons _ _ (IntsAre.nil))))); (case hz => decide); (case h0 => omega); (case h1 => (first | omega | (simp only [List.length_cons, List.length_nil]; omega))); k_whole; intro z9 t9 lo9 hi9 e9; (with_reducible rename News _ _ _ _ => nN9); replace nN9 := news_tl nN9)))
  k_with "eval IfExp Compare BinOp BinOp" => ((k_here; (with_reducible rename OkM _ => oX9); (with_reducible rename _ = _ % 4096 => eR9); (with_reducible rename Fr _ _ _ _ => fF9); (with_reducible rename News _ _ _ _ => nN9); (with_reducible rename _ = (0 : Int) ∨ _ = (1 : Int) => hH9); k_dflt ((refine' jv_set hH9 oX9 eR9 fF9 nN9 ?_ ?_ ?_) <;> first | (intro z9; subst z9; simp only [xV_zero] at fF9; (try dsimp only)) | (intro z9; subst z9; simp only [xV_one] at fF9; (try dsimp only)) | (intro tz9 hz9 kz9 Fz9 Nz9; (try k_sweep)))))
  k_with "JV" => ((k_here; first | exact jv_int (set_int (by assumption)) (by k_asm) (by k_asm) (fun _ h => h) | exact jv_str (set_str (by assumption) (by assumption)) (by k_asm) (by k_asm) (fun _ h => h)))
  k_with "binaryOp Add str str" => ((k_here; (refine PyProof.Rows.add_str (hsz := ?hsz) ?_); (case hsz => exact set_size _ _); intro _ _))
  k_with "subscriptTail Name Constant str int" => ((k_here; (with_reducible show wpAny _ _ (subscriptTail _ _ (Value.str (signs _) _) (Value.int _ _)) _ _ _); (refine KXi.item (signs_length _) (by omega) (by omega) (by decide) ?_); intro kxiE))
  k_with "CompSrc" => ((k_here; k_dflt ((refine' th_comp ?hh ?F ?N ?hT ?D ?hl ?_ ?_); (case hh => rfl); (case F => k_asm); (case N => k_asm); (case hT => k_mem); (case D => assumption); (case hl => omega); all_goals (first | (intro g9 ys9 a9 n9 st9 tA9 tO9 tG9 tx9 I9 oI9 C9 oC9 D9 m9 h9 tk9 E9 hm9 hC9 hx9 F9 N9 off9 ne9; (try k_sweep)) | (intro g9 ys9 hi9)))))
  k_with "CompEnd" => ((k_here; k_dflt (refine' comp_end ?o ?F ?N ?sb ?S ?_; (case o => with_reducible assumption); (case F => k_asm); (case N => k_asm); (case sb => first | exact fun _ h => h | kcj_all); (case S => lcg_src); exact ⟨rfl, _, rfl⟩)))
  k_with "compareOp In int ref" => ((k_here; k_dflt (refine' in_list_ints ?hl ?hi ?_; (case hl => exact News.isList (by k_asm) (by exact List.mem_cons_self)); (case hi => assumption))))
  k_with "compareOp NotIn int ref" => ((k_here; k_dflt (refine' notin_list_ints ?hl ?hi ?_; (case hl => exact News.isList (by k_asm) (by exact List.mem_cons_self)); (case hi => (first | exact IntsAre.cons _ _ (IntsAre.cons _ _ (IntsAre.cons _ _ (IntsAre.cons _ _ (IntsAre.nil)))) | exact IntsAre.cons _ _ (IntsAre.cons _ _ (IntsAre.cons _ _ (IntsAre.cons _ _ (IntsAre.cons _ _ (IntsAre.cons _ _ (IntsAre.cons _ _ (IntsAre.cons _ _ (IntsAre.cons _ _ (IntsAre.cons _ _ (IntsAre.nil)))))))))) | exact IntsAre.cons _ _ (IntsAre.cons _ _ (IntsAre.cons _ _ (IntsAre.nil))))))))
  k_with "setItem ref int" => ((k_here; (with_reducible show wpAny _ _ (setItem (Value.ref _) (Value.int _ _) (Value.ref _)) _ _ _); k_dflt (refine' th_set ?k1 ?k2 ?k3 ?k4 ?k5 ?k6 ?_; (case k1 => k_asm); (case k2 => k_asm); (case k3 => k_upd); (case k4 => omega); (case k5 => omega); (case k6 => omega); k_whole); intro h' F' N'; (try k_sweep)))
  k_with "call builtin:len" => ((k_here; (with_reducible show wpAny _ _ (call (Value.builtin "len") [Value.ref _]) _ _ _); k_dflt (refine' th_len ?hT ?N ?D ?hl ?_; (case N => k_asm); (case hT => k_mem); (case D => assumption); (case hl => omega))))
  k_with "assign Tuple" => ((k_here; (with_reducible show wpAny _ _ (assign (Expr.Tuple _ _ _) _ (Value.ref _)) _ _ _); k_dflt (refine' kun_list ?k1 ?k2 ?k3 ?k4 ?k5 ?k6 ?_; (case k1 => k_asm); (case k2 => k_asm); (case k3 => exact isListOf (by k_asm) (by k_mem)); (case k4 => exact rfl); (case k5 => exact rfl); (case k6 => exact rfl); k_whole; intro h9 F9 N9; (try dsimp only); (try k_sweep))))
  k_with "binaryOp FloorDiv int int" => ((k_here; refine d_div (by decide) (PyProof.noPylong_small (by decide)) ?_; intro z9 tz9 tk9 e9))
  k_with "binaryOp BitAnd int int" => ((k_here; refine d_and (by omega) (by omega) ?_; intro z9 tz9 tk9 lo9 hi9 e9))
  k_with "binaryOp Mod int int" => ((k_here; refine d_mod (by first | decide | omega) ?_; intro z9 tz9 tk9 lo9 hi9 e9))
  unfold Tell
  k_fill
  intro mean mg mb dp un gd cn cs a ccd cl outer A₀ base h₀ L m s Q E B F X N T hk hdp hun hret
  have hlen := D.1
  refine wpAny_call ?_
  k_dflt (refine' code_def (binds := [(Str.ofString "hand", .int hand t1), (Str.ofString "things", .ref tT), (Str.ofString "n", .int n t2)]) ?k1 ?k2 ?k3 ?k4 ?k5 ?kA ?kF ?kK ?k6 ?k7 ?k8 ?k9 ?kB ?_ ?c2 ?c3 ?c4 ?c5; (case kA => exact rfl); (case kF => exact rfl); (case kK => assumption); (case k1 => k_asm); (case k2 => k_asm); (case k3 => k_asm); (case k4 => k_asm); (case k5 => k_asm); (case k6 => k_is); (case k7 => k_is); (case k8 => first | exact room1 hdp 0 rfl (by decide) | ktr_room); (case k9 => exact BindsTo.of_eq rfl); (case c5 => decide); (case kB => exact locs rfl); (case c2 => exact rfl); (case c3 => exact rfl); (case c4 => exact rfl); k_whole; intro g' L' h' FG' F' N' B' X' T'; (try dsimp only); (try k_lift B'); (try k_fold))
  k_with "deedE" => (have dE := deed_eq (n := n) (sts := sts) (by with_reducible assumption) (by with_reducible assumption) (by with_reducible assumption) (by with_reducible assumption) (by with_reducible assumption) (by with_reducible assumption) (by with_reducible assumption) (by with_reducible assumption) (by with_reducible assumption) (by with_reducible assumption) (by with_reducible assumption))
  k_steps
  all_goals first
    | ((with_reducible show Q (Value.str (Str.ofString "no") _) _); first
      | (have e9 := dE.trans (act_n1 (by with_reducible assumption)); exact post_no D hret (by k_asm) (by k_asm) (by k_mem) (by kcj_all) e9)
      | (have e9 := dE.trans (act_n2 (by with_reducible assumption)); exact post_no D hret (by k_asm) (by k_asm) (by k_mem) (by kcj_all) e9)
      | (have e9 := dE.trans (act_n3 (by with_reducible assumption) (by with_reducible assumption) (by with_reducible assumption) (by with_reducible assumption)); exact post_no D hret (by k_asm) (by k_asm) (by k_mem) (by kcj_all) e9)
      | (have e9 := dE.trans (act_n4 (by with_reducible assumption) (by with_reducible assumption) (by with_reducible assumption) (by with_reducible assumption)); exact post_no D hret (by k_asm) (by k_asm) (by k_mem) (by kcj_all) e9)
      | (have e9 := dE.trans (act_n5 (by with_reducible assumption) (by with_reducible assumption) (by with_reducible assumption) (by with_reducible assumption)); exact post_no D hret (by k_asm) (by k_asm) (by k_mem) (by kcj_all) e9)
      | (have e9 := dE.trans (act_n6 (by with_reducible assumption) (by with_reducible assumption) (by with_reducible assumption) (by with_reducible assumption) (by with_reducible assumption) (by with_reducible assumption)); exact post_no D hret (by k_asm) (by k_asm) (by k_mem) (by kcj_all) e9)
      | (have e9 := dE.trans (act_n7 (by with_reducible assumption) (by with_reducible assumption) (by with_reducible assumption) (by with_reducible assumption) (by with_reducible assumption)); exact post_no D hret (by k_asm) (by k_asm) (by k_mem) (by kcj_all) e9)
      | (have e9 := dE.trans (act_n8 (by with_reducible assumption) (by with_reducible assumption) (by with_reducible assumption) (by with_reducible assumption) (by with_reducible assumption)); exact post_no D hret (by k_asm) (by k_asm) (by k_mem) (by kcj_all) e9)
      | (have e9 := dE.trans (act_n9 (by with_reducible assumption) (by with_reducible assumption) (by with_reducible assumption) (by with_reducible assumption) (by with_reducible assumption)); exact post_no D hret (by k_asm) (by k_asm) (by k_mem) (by kcj_all) e9)
      | (have e9 := dE.trans (act_n10 (by with_reducible assumption) (by with_reducible assumption) (by with_reducible assumption) (by with_reducible assumption) (by with_reducible assumption) (by with_reducible assumption) (by with_reducible assumption) (by with_reducible assumption)); exact post_no D hret (by k_asm) (by k_asm) (by k_mem) (by kcj_all) e9)
      | (have e9 := dE.trans (act_n11 (by with_reducible assumption) (by with_reducible assumption) (by with_reducible assumption) (by with_reducible assumption) (by with_reducible assumption) (by with_reducible assumption) (by with_reducible assumption) (by with_reducible assumption)); exact post_no D hret (by k_asm) (by k_asm) (by k_mem) (by kcj_all) e9)
      | (have e9 := dE.trans (act_n12 (by with_reducible assumption) (by with_reducible assumption) (by with_reducible assumption) (by with_reducible assumption) (by with_reducible assumption) (by with_reducible assumption) (by with_reducible assumption) (by with_reducible assumption) (by with_reducible assumption) (by with_reducible assumption) (by with_reducible assumption)); exact post_no D hret (by k_asm) (by k_asm) (by k_mem) (by kcj_all) e9)
      | (have e9 := dE.trans (act_n13 (by with_reducible assumption) (by with_reducible assumption) (by with_reducible assumption) (by with_reducible assumption) (by with_reducible assumption) (by with_reducible assumption) (by with_reducible assumption)); exact post_no D hret (by k_asm) (by k_asm) (by k_mem) (by kcj_all) e9)
      | (have e9 := dE.trans (act_n14 (by with_reducible assumption) (by with_reducible assumption) (by with_reducible assumption) (by with_reducible assumption) (by with_reducible assumption) (by with_reducible assumption) (by with_reducible assumption)); exact post_no D hret (by k_asm) (by k_asm) (by k_mem) (by kcj_all) e9))
    | ((with_reducible show Q (Value.ref _) _); exact post_run D hret (by k_asm) (by k_asm) (by k_mem) (by k_mem) (by kcj_all) (by first | exact (by with_reducible assumption : _ ∧ tT < _ ∧ AllLt _ r).2 | exact (by with_reducible assumption : _ ∧ _ ∧ tT < _ ∧ AllLt _ r).2.2 | exact (by with_reducible assumption : _ ∧ _ ∧ _ ∧ tT < _ ∧ AllLt _ r).2.2.2 | exact (by with_reducible assumption : _ ∧ _ ∧ _ ∧ _ ∧ tT < _ ∧ AllLt _ r).2.2.2.2 | exact (by with_reducible assumption : _ ∧ _ ∧ _ ∧ _ ∧ _ ∧ tT < _ ∧ AllLt _ r).2.2.2.2.2) (dE.trans (act_run' (by with_reducible assumption) (by with_reducible assumption) (by with_reducible assumption) (by with_reducible assumption) (by with_reducible assumption) (by with_reducible assumption) (by with_reducible assumption) (by with_reducible assumption) (by first | exact run_p1 (by with_reducible assumption) | exact run_p2 (by with_reducible assumption)) (by first | exact run_q1 (by with_reducible assumption) (by with_reducible assumption) | exact run_q2 (by with_reducible assumption) (by with_reducible assumption) | exact run_q3 (by with_reducible assumption) (by with_reducible assumption)))))
    | ((with_reducible show Q (Value.str (Str.ofString "set") _) _); exact post_set D hret (by k_asm) (by k_asm) (by k_mem) (by k_mem) (by kcj_all) (by first | exact (by with_reducible assumption : _ ∧ tT < _ ∧ AllLt _ r).2 | exact (by with_reducible assumption : _ ∧ _ ∧ tT < _ ∧ AllLt _ r).2.2 | exact (by with_reducible assumption : _ ∧ _ ∧ _ ∧ tT < _ ∧ AllLt _ r).2.2.2 | exact (by with_reducible assumption : _ ∧ _ ∧ _ ∧ _ ∧ tT < _ ∧ AllLt _ r).2.2.2.2 | exact (by with_reducible assumption : _ ∧ _ ∧ _ ∧ _ ∧ _ ∧ tT < _ ∧ AllLt _ r).2.2.2.2.2) (dE.trans (act_set (by with_reducible assumption) (by with_reducible assumption) (by with_reducible assumption) (by with_reducible assumption) (by first | exact Or.inl (by with_reducible assumption) | exact Or.inr (by with_reducible assumption)) (by first | exact set_y1 (by with_reducible assumption) (by with_reducible assumption) (by with_reducible assumption) | exact set_y2 (by with_reducible assumption) (by with_reducible assumption) | exact set_z3 (by with_reducible assumption)))))
    | ((with_reducible show Q (Value.str (Str.ofString "given") _) _); exact post_set D hret (by k_asm) (by k_asm) (by k_mem) (by k_mem) (by kcj_all) (by first | exact (by with_reducible assumption : _ ∧ tT < _ ∧ AllLt _ r).2 | exact (by with_reducible assumption : _ ∧ _ ∧ tT < _ ∧ AllLt _ r).2.2 | exact (by with_reducible assumption : _ ∧ _ ∧ _ ∧ tT < _ ∧ AllLt _ r).2.2.2 | exact (by with_reducible assumption : _ ∧ _ ∧ _ ∧ _ ∧ tT < _ ∧ AllLt _ r).2.2.2.2 | exact (by with_reducible assumption : _ ∧ _ ∧ _ ∧ _ ∧ _ ∧ tT < _ ∧ AllLt _ r).2.2.2.2.2) (dE.trans (act_given (by with_reducible assumption) (by with_reducible assumption) (by with_reducible assumption) (by with_reducible assumption) (by with_reducible assumption) (by with_reducible assumption) (giv_g (by with_reducible assumption) (by with_reducible assumption)) (by first | exact given_z1 (by with_reducible assumption) | exact given_z2 (by with_reducible assumption) (by with_reducible assumption) | exact given_z3 (by with_reducible assumption) (by with_reducible assumption)))))
    | ((with_reducible show Q (Value.str (Str.ofString "gone") _) _); exact post_set D hret (by k_asm) (by k_asm) (by k_mem) (by k_mem) (by kcj_all) (by first | exact (by with_reducible assumption : _ ∧ tT < _ ∧ AllLt _ r).2 | exact (by with_reducible assumption : _ ∧ _ ∧ tT < _ ∧ AllLt _ r).2.2 | exact (by with_reducible assumption : _ ∧ _ ∧ _ ∧ tT < _ ∧ AllLt _ r).2.2.2 | exact (by with_reducible assumption : _ ∧ _ ∧ _ ∧ _ ∧ tT < _ ∧ AllLt _ r).2.2.2.2 | exact (by with_reducible assumption : _ ∧ _ ∧ _ ∧ _ ∧ _ ∧ tT < _ ∧ AllLt _ r).2.2.2.2.2) (dE.trans (act_gone1 (by with_reducible assumption) (by with_reducible assumption) (by with_reducible assumption) (by with_reducible assumption) (by with_reducible assumption) (by with_reducible assumption) (by with_reducible assumption) (by with_reducible assumption) (by with_reducible assumption) (by with_reducible assumption))))
    | ((with_reducible show Q (Value.str (Str.ofString "gone") _) _); exact post_set D hret (by k_asm) (by k_asm) (by k_mem) (by k_mem) (by kcj_all) (by first | exact (by with_reducible assumption : _ ∧ tT < _ ∧ AllLt _ r).2 | exact (by with_reducible assumption : _ ∧ _ ∧ tT < _ ∧ AllLt _ r).2.2 | exact (by with_reducible assumption : _ ∧ _ ∧ _ ∧ tT < _ ∧ AllLt _ r).2.2.2 | exact (by with_reducible assumption : _ ∧ _ ∧ _ ∧ _ ∧ tT < _ ∧ AllLt _ r).2.2.2.2 | exact (by with_reducible assumption : _ ∧ _ ∧ _ ∧ _ ∧ _ ∧ tT < _ ∧ AllLt _ r).2.2.2.2.2) (dE.trans (act_gone2 (by with_reducible assumption) (by with_reducible assumption) (by with_reducible assumption) (by with_reducible assumption) (by with_reducible assumption) (by with_reducible assumption) (by with_reducible assumption) (by with_reducible assumption) (by with_reducible assumption) (by with_reducible assumption))))
    | ((with_reducible show Q (Value.str (Str.ofString "made") _) _); exact post_made D hret (by k_asm) (by k_asm) (by k_mem) (by k_mem) (by kcj_all) (by first | exact (by with_reducible assumption : _ ∧ tT < _ ∧ AllLt _ r).2 | exact (by with_reducible assumption : _ ∧ _ ∧ tT < _ ∧ AllLt _ r).2.2 | exact (by with_reducible assumption : _ ∧ _ ∧ _ ∧ tT < _ ∧ AllLt _ r).2.2.2 | exact (by with_reducible assumption : _ ∧ _ ∧ _ ∧ _ ∧ tT < _ ∧ AllLt _ r).2.2.2.2 | exact (by with_reducible assumption : _ ∧ _ ∧ _ ∧ _ ∧ _ ∧ tT < _ ∧ AllLt _ r).2.2.2.2.2) (dE.trans (act_made1 (by with_reducible assumption) (by with_reducible assumption) (by with_reducible assumption) (by with_reducible assumption) (by with_reducible assumption) (by with_reducible assumption) (by with_reducible assumption) (by with_reducible assumption) (by with_reducible assumption) (by with_reducible assumption) rfl rfl)))
    | ((with_reducible show Q (Value.str (Str.ofString "made") _) _); exact post_made D hret (by k_asm) (by k_asm) (by k_mem) (by k_mem) (by kcj_all) (by first | exact (by with_reducible assumption : _ ∧ tT < _ ∧ AllLt _ r).2 | exact (by with_reducible assumption : _ ∧ _ ∧ tT < _ ∧ AllLt _ r).2.2 | exact (by with_reducible assumption : _ ∧ _ ∧ _ ∧ tT < _ ∧ AllLt _ r).2.2.2 | exact (by with_reducible assumption : _ ∧ _ ∧ _ ∧ _ ∧ tT < _ ∧ AllLt _ r).2.2.2.2 | exact (by with_reducible assumption : _ ∧ _ ∧ _ ∧ _ ∧ _ ∧ tT < _ ∧ AllLt _ r).2.2.2.2.2) (dE.trans (act_made2 (by with_reducible assumption) (by with_reducible assumption) (by with_reducible assumption) (by with_reducible assumption) (by with_reducible assumption) (by with_reducible assumption) (by with_reducible assumption) (by with_reducible assumption) (by with_reducible assumption) (by with_reducible assumption) rfl (by with_reducible assumption))))
    | (exfalso; omega)
end Mine
namespace Mine
/-! filemode's signs -/
def sg (c : Nat) : Str := ⟨#[c]⟩
def signsL (x : Int) : List Str := [sg (if bt x 14 then 100 else 45), sg (ch (bt x 8) 114), sg (ch (bt x 7) 119), sg (ex (bt x 6) (bt x 11) 115 83), sg (ch (bt x 5) 114), sg (ch (bt x 4) 119), sg (ex (bt x 3) (bt x 10) 115 83), sg (ch (bt x 2) 114), sg (ch (bt x 1) 119), sg (ex (bt x 0) (bt x 9) 116 84)]
theorem join_ten (a b c d e f g h i j : Nat) : Txt.join (Str.ofString "") [sg a, sg b, sg c, sg d, sg e, sg f, sg g, sg h, sg i, sg j] = ⟨#[a, b, c, d, e, f, g, h, i, j]⟩ := by
  show Builtin.Str.glued (Str.ofString "") _ = _
  rw [StrLaws.glued_eq_join, show Str.ofString "" = (⟨[].toArray⟩ : Str) from empty_str]
  simp only [Str.join, sg]
  simp only [show ∀ x : Nat, (⟨#[x]⟩ : Str) = ⟨[x].toArray⟩ from fun _ => rfl, app, List.append_nil, List.nil_append, List.cons_append]
theorem join_signs (x : Int) : Txt.join (Str.ofString "") (signsL x) = signs x := join_ten _ _ _ _ _ _ _ _ _ _
section
variable {x : Int} (h : 0 ≤ x)
include h
theorem has1 (a : Nat) (M : Int) (hM : M = ((2 ^ a : Nat) : Int)) : (Builtin.bitAnd x M = M) ↔ bt x a = true := by
  have := and_one h a (2 ^ a) rfl
  rw [← hM] at this
  rw [← this, beq_iff_eq]
theorem has2 (a b M : Nat) (hM : M = 2 ^ a ||| 2 ^ b) : (Builtin.bitAnd x (M : Int) = (M : Int)) ↔ (bt x a = true ∧ bt x b = true) := by
  have := and_two h a b M hM
  rw [← Bool.and_eq_true, ← this, beq_iff_eq]
end
theorem sg_yes {b : Bool} {c : Nat} (hb : b = true) : sg (ch b c) = sg c := by rw [hb]; rfl
theorem sg_no {b : Bool} {c : Nat} (hb : ¬b = true) : sg (ch b c) = sg 45 := by rw [Bool.eq_false_iff.mpr hb]; rfl
theorem ex_1 {b s : Bool} {lo up : Nat} (h : b = true ∧ s = true) : sg (ex b s lo up) = sg lo := by rw [h.1, h.2]; rfl
theorem ex_2 {b s : Bool} {lo up : Nat} (h : ¬(b = true ∧ s = true)) (hs : s = true) : sg (ex b s lo up) = sg up := by
  have : b = false := by cases b; rfl; exact absurd ⟨rfl, hs⟩ h
  rw [this, hs]; rfl
theorem ex_3 {b s : Bool} {lo up : Nat} (hs : ¬s = true) (hb : b = true) : sg (ex b s lo up) = sg 120 := by rw [Bool.eq_false_iff.mpr hs, hb]; rfl
theorem ex_4 {b s : Bool} {lo up : Nat} (hs : ¬s = true) (hb : ¬b = true) : sg (ex b s lo up) = sg 45 := by rw [Bool.eq_false_iff.mpr hs, Bool.eq_false_iff.mpr hb]; rfl
end Mine
namespace Mine
/-! enumerate over a tuple -/
open AutoSeq1 (wpAny_loadPart')
theorem isTupleOf {h : Heap} {a : Addr} {its : Array Value} (x : IsTup h a its) : h.IsTuple a its := x
set_option maxHeartbeats 1000000 in
theorem et_new (l : Addr) (items : Array Value) (n : Nat) (dct : Option Addr) (sl : Array (Option Value)) :
    Meets (Builtin.«enumerate.__new__» ⟨[.type "enumerate", .ref l], []⟩) (fun _ R s => s.heap.get? l = some { cls := .type "tuple", dict := dct, data := .seq items n, slots := sl } ∧
      R (.ok (.ret (.ref (s.heap.push { cls := .type "tuple_iterator", data := .fields #[.ref l, .int 0 0] }).objs.size)))
        { s with heap := (s.heap.push { cls := .type "tuple_iterator", data := .fields #[.ref l, .int 0 0] }).push { cls := .type "enumerate", data := .fields #[.none, .bool false, .ref s.heap.objs.size, rawInt 0, .none, .none] } }) :=
  .of_wp fun prog w A R s h => by
    obtain ⟨hp, g, d, tk, os⟩ := s; obtain ⟨hl, h⟩ := h
    have hsub := sub_enumerate
    have hL : Heap.IsTuple (Shared.heap ⟨hp, g, d, tk, os⟩) l items := ⟨_, hl, rfl, n, rfl⟩
    wp_walk using wpAny_loadPart' hl
    refine wpAny_stack_any fun st => wpAny_pure ?_
    split
    · rename_i c _ _ _ _ _
      cases (c == Value.type "enumerate")
      · wp_walk using wpAny_loadPart' hl, wpAny_pyIter_tuple hL
        exact ⟨_, rfl, h⟩
      · wp_walk using wpAny_loadPart' hl, wpAny_pyIter_tuple hL
        exact ⟨_, rfl, h⟩
    · wp_walk using wpAny_loadPart' hl, wpAny_pyIter_tuple hL
      exact ⟨_, rfl, h⟩
section
variable {prog : Program} {w : World} {A : Around} {E : Value → Shared → Prop} {s : Shared}
theorem et_call {l : Addr} {items : Array Value} {Q : Value → Shared → Prop} (hL : s.heap.IsTuple l items)
    (h : ∀ h', IsEnum h' (s.heap.objs.size + 1) s.heap.objs.size 0 .none → h'.IsTupleIter s.heap.objs.size l 0 → h'.objs.size = s.heap.objs.size + 2 →
      (∀ b o, s.heap.get? b = some o → h'.get? b = some o) → Q (.ref (s.heap.objs.size + 1)) { s with heap := h' }) :
    wpAny (model prog w) A (call (.type "enumerate") [.ref l]) Q E s := by
  obtain ⟨⟨c, dct, dt, sl⟩, hl, hc, n, hd⟩ := hL
  replace hc : c = .type "tuple" := hc
  replace hd : dt = .seq items n := hd
  subst hc hd
  refine callType_new F.called_enumerate (by decide) (F.typeCall_enumerate_1 _) (F.newCall_enumerate_1 _) (fun obj => F.args_object_init_2 obj _) F.entry_enumerate_new
    (et_new l items n dct sl) ⟨hl, ?_⟩
  have hz : (s.heap.push { cls := .type "tuple_iterator", data := .fields #[.ref l, .int 0 0] }).objs.size = s.heap.objs.size + 1 := Heap.size_push ..
  show _ ∧ _
  rw [hz]
  have he : IsEnum ((s.heap.push { cls := .type "tuple_iterator", data := .fields #[.ref l, .int 0 0] }).push
      { cls := .type "enumerate", data := .fields #[.none, .bool false, .ref s.heap.objs.size, rawInt 0, .none, .none] }) (s.heap.objs.size + 1) s.heap.objs.size 0 .none := by
    have := Heap.get?_push_size (s.heap.push { cls := .type "tuple_iterator", data := .fields #[.ref l, .int 0 0] })
      (o := { cls := .type "enumerate", data := .fields #[.none, .bool false, .ref s.heap.objs.size, rawInt 0, .none, .none] }) rfl
    rw [hz] at this; exact this
  refine ⟨⟨_, he, rfl⟩, h _ he ⟨_, Heap.get?_push_of_some _ (Heap.get?_push_size _ rfl), rfl, rfl⟩ (by rw [Heap.size_push, hz]) fun b o x => Heap.get?_push_of_some _ (Heap.get?_push_of_some _ x)⟩
/-- one draw from a tuple's iterator, as enumerate does it -/
theorem et_nextOf {it t : Addr} {i : Nat} {items : Array Value} {x : Value} {Q : Value → Shared → Prop} (hit : s.heap.IsTupleIter it t i) (ht : s.heap.IsTuple t items) (hx : items[i]? = some x)
    (hQ : ∀ h', h'.IsTupleIter it t (i + 1) → Heap.SameBut it s.heap h' → Q x { s with heap := h' }) : wpAny (model prog w) A (Builtin.SmallTypes.nextOf (.ref it)) Q E s := by
  obtain ⟨o, ho, hc, hd⟩ := id hit
  obtain ⟨ol, hol, _, nl, hdl⟩ := ht
  unfold Builtin.SmallTypes.nextOf
  refine wpAny_bind (wpAny_callSpecial?_slot (name := Str.ofString "__next__") hit.typeIs F.slot_tuple_iterator_next
    (wpAny_call_entry F.slot_tuple_iterator_next hit.typeIs F.entry_tuple_iterator_next ?_ (F.args_tuple_iterator_next_1 _)))
  show wpAny _ _ (field (.ref it) 0 >>= _) _ _ s
  refine wpAny_bind (wpAny_field ho hd (x := .ref t) rfl ?_)
  show wpAny _ _ (if (Value.ref t == Value.none) = true then _ else _) _ _ s
  rw [if_neg (show ¬ ((Value.ref t == Value.none) = true) from Bool.false_ne_true)]
  show wpAny _ _ (field (.ref it) 1 >>= _) _ _ s
  refine wpAny_bind (wpAny_field ho hd (x := .int i 0) rfl ?_)
  show wpAny _ _ (seqItems? (.ref t) >>= _) _ _ s
  refine wpAny_bind (wpAny_seqItems hol hdl ?_)
  simp only [Int.toNat_natCast, hx]
  refine wpAny_bind (wpAny_setField ho hd (by simp) (wpAny_pure ⟨x, rfl, wpAny_pure (hQ _ ?_ (Heap.SameBut.update ..))⟩))
  exact ⟨_, Heap.get?_update_self _ ho (Obj.isFreed_of_fields (Obj.data_mapFields hd _)), (Obj.cls_mapFields ..).trans hc, by
    rw [Obj.data_mapFields hd]; simp [rawInt]⟩
theorem et_nextOf_end {it t : Addr} {i : Nat} {items : Array Value} {Q : Value → Shared → Prop} (hh : A.handled = none) (hit : s.heap.IsTupleIter it t i) (ht : s.heap.IsTuple t items) (hx : items[i]? = none)
    (hE : ∀ h' e, Heap.ExtBut it s.heap h' → (∃ o, h'.get? e = some o ∧ o.cls = .type "StopIteration") → E (.ref e) { s with heap := h' }) : wpAny (model prog w) A (Builtin.SmallTypes.nextOf (.ref it)) Q E s := by
  obtain ⟨o, ho, hc, hd⟩ := id hit
  obtain ⟨ol, hol, _, nl, hdl⟩ := ht
  unfold Builtin.SmallTypes.nextOf
  refine wpAny_bind (wpAny_callSpecial?_slot (name := Str.ofString "__next__") hit.typeIs F.slot_tuple_iterator_next
    (wpAny_call_entry F.slot_tuple_iterator_next hit.typeIs F.entry_tuple_iterator_next ?_ (F.args_tuple_iterator_next_1 _)))
  show wpAny _ _ (field (.ref it) 0 >>= _) _ _ s
  refine wpAny_bind (wpAny_field ho hd (x := .ref t) rfl ?_)
  show wpAny _ _ (if (Value.ref t == Value.none) = true then _ else _) _ _ s
  rw [if_neg (show ¬ ((Value.ref t == Value.none) = true) from Bool.false_ne_true)]
  show wpAny _ _ (field (.ref it) 1 >>= _) _ _ s
  refine wpAny_bind (wpAny_field ho hd (x := .int i 0) rfl ?_)
  show wpAny _ _ (seqItems? (.ref t) >>= _) _ _ s
  refine wpAny_bind (wpAny_seqItems hol hdl ?_)
  simp only [Int.toNat_natCast, hx]
  refine wpAny_bind (wpAny_rule (wpAny_bind (wpAny_setField ho hd (by simp) ?_)))
  show wpAny _ _ (newExc (.type "StopIteration") [] >>= _) _ _ _
  refine wpAny_bind ?_
  simp only [newExc, newTuple]
  refine wpAny_bind (wpAny_newObj_type ?_ (by size_fits))
  refine wpAny_bind (m := firstArgMember _ _) (wpAny_of_eq (a := Value.none) (by first | rfl | (simp only [firstArgMember]; rfl)) ?_)
  refine wpAny_newObj_type ?_ (by size_fits)
  simp only [raiseNew]
  refine wpAny_bind (wpAny_handled ?_)
  first | rw [show A.in1.handled = none from hh] | rw [hh]
  refine wpAny_bind (wpAny_pure (wpAny_throw ?_))
  exact hE _ _ (((Heap.SameBut.update ..).extBut.push _).push _) ⟨_, Heap.get?_push_size _ rfl, rfl⟩
/-- one turn of enumerate over a tuple: a new pair -/
theorem et_next {e it l : Addr} {i : Nat} {items : Array Value} {x old : Value} {Q : Option Value → Shared → Prop}
    (he : IsEnum s.heap e it i old) (hit : s.heap.IsTupleIter it l i) (hl : s.heap.IsTuple l items) (hx : items[i]? = some x) (hne : e ≠ it)
    (hQ : ∀ h', IsEnumOut h' e it ((i : Int) + 1) x s.heap.objs.size → h'.IsTupleIter it l (i + 1) →
      h'.get? s.heap.objs.size = some { cls := .type "tuple", data := .seq #[.int i s.toks, x] } → h'.objs.size = s.heap.objs.size + 1 →
      (∀ b o, b ≠ e → b ≠ it → s.heap.get? b = some o → h'.get? b = some o) → Q (some (.ref s.heap.objs.size)) { s with heap := h', toks := s.toks + 1 }) :
    wpAny (model prog w) A (pyNext (.ref e)) Q E s := by
  have hT : s.TypeIs (.ref e) "enumerate" := ⟨_, he, rfl⟩
  unfold pyNext
  refine wpAny_bind (wpAny_attempt (wpAny_callSpecial?_slot (name := Str.ofString "__next__") hT F.slot_enumerate_next
    (wpAny_call_entry F.slot_enumerate_next hT F.entry_enumerate_next ?_ (F.args_enumerate_next_1 _))))
  obtain ⟨hp, g, d, tk, os⟩ := s
  show wpAny _ _ (field (.ref e) 2 >>= _) _ _ _
  refine wpAny_bind (wpAny_field he rfl (x := .ref it) rfl ?_)
  refine wpAny_bind (et_nextOf hit hl hx fun h₁ hit₁ hs₁ => ?_)
  replace hs₁ : Heap.SameBut it hp h₁ := hs₁
  have he₁ : IsEnum h₁ e it i old := (hs₁.2 e hne).trans he
  show wpAny _ _ (field (.ref e) 3 >>= _) _ _ ⟨h₁, g, d, tk, os⟩
  refine wpAny_bind (wpAny_field he₁ rfl (x := rawInt i) rfl ?_)
  show wpAny _ _ (field (.ref e) 4 >>= _) _ _ ⟨h₁, g, d, tk, os⟩
  refine wpAny_bind (wpAny_field he₁ rfl (x := .none) rfl ?_)
  show wpAny _ _ (mkInt i >>= _) _ _ ⟨h₁, g, d, tk, os⟩
  refine wpAny_bind (wpAny_mkInt ?_)
  show wpAny _ _ (setField (.ref e) 3 (rawInt ((i : Int) + 1)) >>= _) _ _ ⟨h₁, g, d, tk + 1, os⟩
  refine wpAny_bind (wpAny_setField_rec he₁ (by simp) fun h₂ he₂ hs₂ => ?_)
  replace hs₂ : Heap.SameBut e h₁ h₂ := hs₂
  replace he₂ : IsEnum h₂ e it ((i : Int) + 1) old := he₂
  show wpAny _ _ (setField (.ref e) 4 .none >>= _) _ _ ⟨h₂, g, d, tk + 1, os⟩
  refine wpAny_bind (wpAny_setField_rec he₂ (by simp) fun h₃ he₃ hs₃ => ?_)
  replace hs₃ : Heap.SameBut e h₂ h₃ := hs₃
  replace he₃ : IsEnum h₃ e it ((i : Int) + 1) old := he₃
  show wpAny _ _ (newTuple [.int i tk, x] >>= _) _ _ ⟨h₃, g, d, tk + 1, os⟩
  refine wpAny_bind (wpAny_newTuple ?_)
  have he₄ : IsEnum (h₃.push { cls := .type "tuple", data := .seq #[.int i tk, x] }) e it ((i : Int) + 1) old := Heap.get?_push_of_some _ he₃
  generalize hh₄ : h₃.push { cls := .type "tuple", data := .seq #[.int i tk, x] } = h₄ at he₄
  have hsz : h₃.objs.size = hp.objs.size := by rw [hs₃.1, hs₂.1, hs₁.1]
  have hel : e < hp.objs.size := Heap.lt_size he
  have ht₄ : h₄.get? hp.objs.size = some { cls := .type "tuple", data := .seq #[.int i tk, x] } := by rw [← hh₄, ← hsz]; exact Heap.get?_push_size _ rfl
  have hz₄ : h₄.objs.size = hp.objs.size + 1 := by rw [← hh₄, Heap.size_push, hsz]
  have hk₄ : ∀ b o, b ≠ e → b ≠ it → hp.get? b = some o → h₄.get? b = some o := fun b o hbe hbi hb => by
    rw [← hh₄]; exact Heap.get?_push_of_some _ (hs₃.extBut b o hbe (hs₂.extBut b o hbe (hs₁.extBut b o hbi hb)))
  have hit₄ : h₄.IsTupleIter it l (i + 1) := by
    rw [← hh₄]; obtain ⟨o, ho, r⟩ := (hit₁.extBut hs₂.extBut (Ne.symm hne)).extBut hs₃.extBut (Ne.symm hne); exact ⟨o, Heap.get?_push_of_some _ ho, r⟩
  show wpAny _ _ (Builtin.SmallTypes.ownedTupleIsFree (.ref e) >>= _) _ _ ⟨h₄, g, d, tk + 1, os⟩
  rw [hsz]
  clear hh₄ he₃ hs₃ he₂ hs₂ he₁ hs₁ hit₁ hsz h₃ h₂ h₁
  refine wpAny_bind ?_
  unfold Builtin.SmallTypes.ownedTupleIsFree
  refine wpAny_bind (wpAny_field he₄ rfl (x := .none) rfl (wpAny_pure ?_))
  simp only [if_true]
  refine wpAny_bind (wpAny_rule ?_)
  refine wpAny_bind (wpAny_field he₄ rfl (x := old) rfl ?_)
  refine wpAny_bind (wpAny_setField_rec he₄ (by simp) fun h₅ he₅ hs₅ => ?_)
  replace hs₅ : Heap.SameBut e h₄ h₅ := hs₅
  replace he₅ : IsEnum h₅ e it ((i : Int) + 1) x := he₅
  show wpAny _ _ (Builtin.SmallTypes.ownedTupleHandOut (.ref e) (.ref hp.objs.size) >>= _) _ _ ⟨h₅, g, d, tk + 1, os⟩
  refine wpAny_bind ?_
  unfold Builtin.SmallTypes.ownedTupleHandOut
  refine wpAny_bind (wpAny_setField_rec he₅ (by simp) fun h₆ he₆ hs₆ => ?_)
  replace hs₆ : Heap.SameBut e h₅ h₆ := hs₆
  replace he₆ : IsEnumOut h₆ e it ((i : Int) + 1) x hp.objs.size := he₆
  refine wpAny_setField_rec he₆ (by simp) fun h₇ he₇ hs₇ => ?_
  replace hs₇ : Heap.SameBut e h₆ h₇ := hs₇
  replace he₇ : IsEnumOut h₇ e it ((i : Int) + 1) x hp.objs.size := he₇
  refine wpAny_bind (wpAny_letGo (wpAny_pure ⟨_, rfl, wpAny_pure (hQ h₇ he₇ ?_ ?_ ?_ ?_)⟩))
  · exact ((hit₄.extBut hs₅.extBut (Ne.symm hne)).extBut hs₆.extBut (Ne.symm hne)).extBut hs₇.extBut (Ne.symm hne)
  · exact hs₇.extBut _ _ (Nat.ne_of_gt hel) (hs₆.extBut _ _ (Nat.ne_of_gt hel) (hs₅.extBut _ _ (Nat.ne_of_gt hel) ht₄))
  · rw [hs₇.1, hs₆.1, hs₅.1, hz₄]
  · exact fun b o hbe hbi hb => hs₇.extBut b o hbe (hs₆.extBut b o hbe (hs₅.extBut b o hbe (hk₄ b o hbe hbi hb)))
theorem et_end {e it l : Addr} {i : Nat} {items : Array Value} {old : Value} {Q : Option Value → Shared → Prop} (hh : A.handled = none)
    (he : IsEnum s.heap e it i old) (hit : s.heap.IsTupleIter it l i) (hl : s.heap.IsTuple l items) (hx : items[i]? = none)
    (hQ : ∀ h', Heap.ExtBut it s.heap h' → Q none { s with heap := h' }) : wpAny (model prog w) A (pyNext (.ref e)) Q E s := by
  have hT : s.TypeIs (.ref e) "enumerate" := ⟨_, he, rfl⟩
  unfold pyNext
  refine wpAny_bind (wpAny_attempt (wpAny_callSpecial?_slot (name := Str.ofString "__next__") hT F.slot_enumerate_next
    (wpAny_call_entry F.slot_enumerate_next hT F.entry_enumerate_next ?_ (F.args_enumerate_next_1 _))))
  show wpAny _ _ (field (.ref e) 2 >>= _) _ _ _
  refine wpAny_bind (wpAny_field he rfl (x := .ref it) rfl ?_)
  refine wpAny_bind (et_nextOf_end hh hit hl hx fun h' x he' hx' => ?_)
  obtain ⟨o, ho, hc⟩ := hx'
  refine wpAny_bind (wpAny_isInstance (T := "StopIteration") (b := true) ⟨o, ho, hc⟩ isSubtype_stop ?_)
  exact wpAny_pure (hQ _ he')
def EtSt (e it l : Addr) (items : Array Value) (i : Nat) (h : Heap) : Prop := (∃ old, IsEnum h e it i old) ∧ h.IsTupleIter it l i ∧ h.IsTuple l items
def EtMd (e it l : Addr) (items : Array Value) (i : Nat) (v : Value) (h : Heap) : Prop := ∃ (T : Addr) (t : Tok) (x : Value), v = .ref T ∧ items[i]? = some x ∧ h.IsTuple T #[.int i t, x] ∧ (∃ y, IsEnumOut h e it ((i : Int) + 1) y T) ∧ h.IsTupleIter it l (i + 1) ∧ h.IsTuple l items ∧ T ≠ e ∧ T ≠ it
def EtP (items : Array Value) (i : Nat) (v : Value) (h : Heap) : Prop := ∃ (T : Addr) (t : Tok) (x : Value), v = .ref T ∧ items[i]? = some x ∧ h.IsTuple T #[.int i t, x]
theorem tup_at {h h' : Heap} {a : Addr} {its : Array Value} (x : h.IsTuple a its) (e : ∀ o, h.get? a = some o → h'.get? a = some o) : h'.IsTuple a its := let ⟨o, ho, r⟩ := x; ⟨o, e _ ho, r⟩
theorem tupi_at {h h' : Heap} {a t : Addr} {i : Nat} (x : h.IsTupleIter a t i) (e : ∀ o, h.get? a = some o → h'.get? a = some o) : h'.IsTupleIter a t i := let ⟨o, ho, r⟩ := x; ⟨o, e _ ho, r⟩
theorem et_kturns {elts : List Expr} {k : Nat} {pos : Pos} (hh : A.handled = none) (e it l : Addr) (hei : e ≠ it) (hle : l ≠ e) (hli : l ≠ it) (items : Array Value) :
    KTurns prog w A (.Tuple elts k pos) e [e, it, l] [e, it] items.size (EtP items) (EtMd e it l items) (EtSt e it l items) where
  sub := fun b hb => by
    simp only [List.mem_cons, List.not_mem_nil, or_false] at hb ⊢
    rcases hb with rfl | rfl <;> simp
  frame := fun i h h' hst hk => by
    obtain ⟨⟨old, he⟩, hit, hl⟩ := hst
    exact ⟨⟨old, hk e (by simp) _ he⟩, tupi_at hit fun o x => hk it (by simp) o x, tup_at hl fun o x => hk l (by simp) o x⟩
  item := fun i s Q E hi hst hQ => by
    obtain ⟨⟨old, he⟩, hit, hl⟩ := hst
    have hx : items[i]? = some items[i] := Array.getElem?_eq_getElem hi
    refine et_next he hit hl hx hei fun h' ho hit' hT hsz hk => ?_
    have helt : e < s.heap.objs.size := Heap.lt_size he
    have hilt : it < s.heap.objs.size := by obtain ⟨_, x, _⟩ := hit; exact Heap.lt_size x
    exact hQ _ h' (s.toks + 1) ⟨_, _, _, rfl, hx, ⟨_, hT, rfl, _, rfl⟩, ⟨_, ho⟩, hit', tup_at hl fun o x => hk l o hle hli x, Nat.ne_of_gt helt, Nat.ne_of_gt hilt⟩
      fun b o hb x => hk b o (fun e' => hb (by simp [e'])) (fun e' => hb (by simp [e'])) x
  go := fun i v s Q E hm hQ => by
    obtain ⟨T, t, x, rfl, hx, hT, ⟨y, ho⟩, hit, hl, hTe, hTi⟩ := hm
    refine wpAny_letOwnedTupleGo_enum ho fun h' he' hs' => hQ h' ⟨T, t, x, rfl, hx, tup_at hT fun o q => (hs'.2 T hTe).trans q⟩ ⟨⟨y, by simpa using he'⟩, tupi_at hit fun o q => (hs'.2 it hei.symm).trans q, tup_at hl fun o q => (hs'.2 l hle).trans q⟩ fun b o hb q => ?_
    exact (hs'.2 b fun e' => hb (by simp [e'])).trans q
  done := fun s Q E hst hQ => by
    obtain ⟨⟨old, he⟩, hit, hl⟩ := hst
    exact et_end hh he hit hl (Array.getElem?_eq_none (Nat.le_refl _)) fun h' hx => hQ h' s.toks fun b o hb y => hx b o (fun e' => hb (by simp [e'])) y
/-- for index, x in enumerate(a tuple of the top), by what holds between the turns -/
theorem et_turns {elts : List Expr} {k : Nat} {pos : Pos} {env : Env} {body : List Stmt} {Q : Flow → Shared → Prop} {h₀ : Heap} {l : Addr} {items : Array Value} {m₀ : Str → Option Value} {news : Led} (J : Nat → (Str → Option Value) → Led → Prop)
    (hh : A.handled = none) (F : Fr h₀ env.locals s.heap m₀) (N : News h₀ env.locals s.heap news) (hl : h₀.IsTuple l items) (h0 : J 0 m₀ news)
    (turn : ∀ i T t x m₁ nx own h tk, items[i]? = some x → J i m₁ nx → nx.map (·.1) = news.map (·.1) → OwnOff own (news.map (·.1)) → IsTup h T #[.int (i : Nat) t, x] → Fr h₀ env.locals h m₁ → News h₀ env.locals h (nx ++ own) →
      wpAny (model prog w) A (assign (.Tuple elts k pos) env (.ref T)) (fun _ s₃ => wpAny (model prog w) A (execs body env) (InvPostN h₀ env.locals (J (i + 1)) own (news.map (·.1)) { s with heap := h, toks := tk } Q) E s₃) E { s with heap := h, toks := tk })
    (done : ∀ m₁ nx h tk, J items.size m₁ nx → Fr h₀ env.locals h m₁ → News h₀ env.locals h nx → Q .next { s with heap := h, toks := tk }) :
    wpAny (model prog w) A (call (.type "enumerate") [.ref l]) (fun xv s₁ => wpAny (model prog w) A (pyIter xv) (fun it s₂ => TurnsAt prog w A h₀ env (.Tuple elts k pos) body Q E it s₂) E s₁) E s := by
  have hls : s.heap.IsTuple l items := tup_at hl fun o e => F.keep l o e
  have hl₀ : ∃ o, h₀.get? l = some o := let ⟨o, e, _⟩ := hl; ⟨o, e⟩
  have hlt : l < h₀.objs.size := let ⟨o, e⟩ := hl₀; Heap.lt_size e
  have hLs : env.locals < s.heap.objs.size := F.ns.lt
  have hll : l < env.locals := Nat.lt_of_lt_of_le hlt F.above
  have hlsz : l < s.heap.objs.size := Nat.lt_trans hll hLs
  refine et_call hls fun h' hE hI hsz hk => ?_
  refine wpAny_pyIter_enum hE ?_
  have hne : s.heap.objs.size + 1 ≠ s.heap.objs.size := Nat.succ_ne_self _
  refine ⟨_, _, _, items.size, _, _, _, m₀, news, fun i m₁ nx => nx.map (·.1) = news.map (·.1) ∧ J i m₁ nx, rfl, et_kturns hh (s.heap.objs.size + 1) s.heap.objs.size l hne (Nat.ne_of_lt (Nat.lt_succ_of_lt hlsz)) (Nat.ne_of_lt hlsz) items, ?_, ?_, ?_, ⟨⟨_, hE⟩, hI, tup_at hls fun o e => hk l o e⟩, F.keeps hk, N.grown hk, ⟨rfl, h0⟩, ?_, ?_⟩
  · intro hm
    simp only [List.mem_cons, List.not_mem_nil, or_false] at hm
    rcases hm with e | e | e
    · exact Nat.lt_irrefl _ (Nat.lt_trans (e ▸ hLs) (Nat.lt_succ_self _))
    · exact Nat.lt_irrefl _ (e ▸ hLs)
    · exact Nat.lt_irrefl _ (e ▸ hll)
  · intro b hb
    simp only [List.mem_cons, List.not_mem_nil, or_false] at hb
    rcases hb with rfl | rfl
    · exact ktu_new F (Nat.le_succ _)
    · exact ktu_new F (Nat.le_refl _)
  · intro p hp hb
    have q := Heap.lt_size (N p hp).1
    simp only [List.mem_cons, List.not_mem_nil, or_false] at hb
    rcases hb with e | e
    · rw [e] at q; exact Nat.lt_irrefl _ (Nat.lt_trans q (Nat.lt_succ_self _))
    · rw [e] at q; exact Nat.lt_irrefl _ q
  · rintro i v m₁ nx h₁ tk₁ own hi ⟨T, t, x, rfl, hx, hT⟩ ⟨hadr, hJ⟩ hnw hown hog hall _ F₁ N₁
    have hsep : OwnOff own (news.map (·.1)) := by
      intro p hp b hb eb
      rw [← hadr] at hb
      obtain ⟨q, hq, rfl⟩ := List.mem_map.mp hb
      have h1 := hown p hp
      simp only [List.mem_cons, List.not_mem_nil, or_false] at h1
      have h2 := hnw q hq
      simp only [List.mem_cons, List.not_mem_nil, or_false, not_or] at h2
      rcases h1 with h1 | h1 | h1
      · exact h2.1 (eb ▸ h1)
      · exact h2.2 (eb ▸ h1)
      · have h3 := (N₁ q (List.mem_append_right _ hq)).2.2
        rw [← eb, h1] at h3
        obtain ⟨o, e⟩ := hl₀
        rw [e] at h3; cases h3
    have N₂ : News h₀ env.locals h₁ (nx ++ own) := fun p hp => N₁ p (by rcases List.mem_append.mp hp with q | q; exact List.mem_append_right _ q; exact List.mem_append_left _ q)
    refine wpAny_mono (turn i T t x m₁ nx own h₁ tk₁ hx hJ hadr hsep hT F₁ N₂) (fun _ s₃ q => wpAny_mono q (fun f s₄ q' => ?_) fun _ _ e => e) fun _ _ e => e
    have fin : InvEndN h₀ env.locals (J (i + 1)) own (news.map (·.1)) { s with heap := h₁, toks := tk₁ } s₄ → LoopStepU h₀ env.locals [s.heap.objs.size + 1, s.heap.objs.size] own (fun m₁ nx => nx.map (·.1) = news.map (·.1) ∧ J (i + 1) m₁ nx) { s with heap := h₁, toks := tk₁ } .next s₄ := by
      rintro ⟨h₂, tk₂, m₂, all, nx₂, e, F₂, N₂, hnx, hown₂, hadr₂, hJ₂⟩
      refine ⟨rfl, h₂, tk₂, m₂, nx₂, e, F₂, fun p hp => ?_, fun p hp => ?_, hadr₂, hJ₂⟩
      · rcases List.mem_append.mp hp with q | q
        · exact N₂ p (hown₂ p q)
        · exact N₂ p (hnx p q)
      · have hb : p.1 ∈ nx.map (·.1) := by rw [hadr, ← hadr₂]; exact List.mem_map.mpr ⟨p, hp, rfl⟩
        obtain ⟨q, hq, e⟩ := List.mem_map.mp hb
        exact e ▸ hnw q hq
    cases f with
    | ret v => exact .ret q'
    | brk => exact .brk q'
    | next => exact .next (fin q')
    | cont => exact .cont (fin q')
  · rintro h₂ tk₂ m₂ nx F₂ N₂ _ ⟨_, hJ⟩
    exact done m₂ nx h₂ tk₂ hJ F₂ N₂
end
end Mine
namespace Mine
/-! for a, b in (a tuple of pairs of the top): .. else: .., turn by turn -/
def InPost (h₀ : Heap) (L : Addr) (own news : Led) (rest : (Str → Option Value) → Prop) (Q : Flow → Shared → Prop) (s : Shared) (f : Flow) (s₂ : Shared) : Prop :=
  match f with
  | .ret v => Q (.ret v) s₂
  | .brk => Q .next s₂
  | _ => ∃ (h' : Heap) (tk' : Nat) (m' : Str → Option Value) (all : Led), s₂ = { s with heap := h', toks := tk' } ∧ Fr h₀ L h' m' ∧ News h₀ L h' all ∧ (∀ p ∈ news ++ own, p ∈ all) ∧ rest m'
def InRest (prog : Program) (w : World) (A : Around) (E : Value → Shared → Prop) (h₀ : Heap) (env : Env) (x1 x2 : Str) (body orelse : List Stmt) (Q : Flow → Shared → Prop) (s : Shared) (news : Led) : List (Value × Value) → (Str → Option Value) → Prop
  | [], m => ∀ h tk, Fr h₀ env.locals h m → News h₀ env.locals h news → wpAny (model prog w) A (execs orelse env) Q E { s with heap := h, toks := tk }
  | (a, b) :: r, m => ∀ (I : Addr) (oI : Obj) h tk, (∀ p ∈ news, p.1 < I) → Fr h₀ env.locals h (fun y => if y = x2 then some b else if y = x1 then some a else m y) → News h₀ env.locals h (news ++ [(I, oI)]) →
      wpAny (model prog w) A (execs body env) (InPost h₀ env.locals [(I, oI)] news (InRest prog w A E h₀ env x1 x2 body orelse Q s news r) Q { s with heap := h, toks := tk }) E { s with heap := h, toks := tk }
section
variable {prog : Program} {w : World} {A : Around} {E : Value → Shared → Prop} {s : Shared} {h₀ : Heap} {env : Env} {x1 x2 : Str} {body orelse : List Stmt} {Q : Flow → Shared → Prop} {news : Led}
theorem InRest.zero {m : Str → Option Value} (h : ∀ h tk, Fr h₀ env.locals h m → News h₀ env.locals h news → wpAny (model prog w) A (execs orelse env) Q E { s with heap := h, toks := tk }) : InRest prog w A E h₀ env x1 x2 body orelse Q s news [] m := h
theorem InRest.succ {m : Str → Option Value} {a b : Value} {r : List (Value × Value)} (h : ∀ (I : Addr) (oI : Obj) h tk, (∀ p ∈ news, p.1 < I) → Fr h₀ env.locals h (fun y => if y = x2 then some b else if y = x1 then some a else m y) → News h₀ env.locals h (news ++ [(I, oI)]) →
      wpAny (model prog w) A (execs body env) (InPost h₀ env.locals [(I, oI)] news (InRest prog w A E h₀ env x1 x2 body orelse Q s news r) Q { s with heap := h, toks := tk }) E { s with heap := h, toks := tk }) :
    InRest prog w A E h₀ env x1 x2 body orelse Q s news ((a, b) :: r) m := h
theorem in_iter {p1 p2 pt : Pos} {kt : Nat} {l : Addr} {items : Array Value} {ps : List (Value × Value)} {m₀ : Str → Option Value}
    (hh : A.handled = none) (hx1 : env.kindOf x1 = some .local) (hx2 : env.kindOf x2 = some .local) (hp : (env.scope.kind == .class || (env.scope.kind == .module && env.locals != env.globals)) = false)
    (hl : h₀.IsTuple l items) (hi : ∀ (j : Nat) (v : Value), items[j]? = some v → ∃ (T : Addr) (a b : Value), v = .ref T ∧ ps[j]? = some (a, b) ∧ IsTup h₀ T #[a, b]) (hn : ps.length = items.size)
    (F : Fr h₀ env.locals s.heap m₀) (N : News h₀ env.locals s.heap news) (rest : InRest prog w A E h₀ env x1 x2 body orelse Q s news ps m₀) (hE : PassesOwn (model prog w) A env E) :
    wpAny (model prog w) A (pyIter (.ref l)) (fun it s₂ => codeAny (model prog w) A (.forLoop (.Tuple [.Name x1 p1, .Name x2 p2] kt pt) it body orelse env) (fun r s' => match r with | .ok f => Q f s' | .error e => cameBackBy (model prog w) A env E e s') s₂) E s := by
  have hls : s.heap.IsTuple l items := tup_at hl fun o e => F.keep l o e
  have hLs : env.locals < s.heap.objs.size := F.ns.lt
  have hI₀ : h₀.get? s.heap.objs.size = none := ktu_new F (Nat.le_refl _)
  have hIL : s.heap.objs.size ≠ env.locals := Nat.ne_of_gt hLs
  have hoff : ∀ p ∈ news, p.1 < s.heap.objs.size := fun p hp => Heap.lt_size (N p hp).1
  refine wpAny_pyIter_tuple hls ?_
  refine codeAny_forLoop_any (fun k s' => ∃ (h' : Heap) (tk : Nat) (m' : Str → Option Value) (i : Nat), s' = { s with heap := h', toks := tk } ∧ h'.IsTupleIter s.heap.objs.size l i ∧ Fr h₀ env.locals h' m' ∧ News h₀ env.locals h' news ∧
      InRest prog w A E h₀ env x1 x2 body orelse Q s news (ps.drop i) m' ∧ i ≤ items.size ∧ k = items.size + 1 - i) ?_ (items.size + 1)
    ⟨_, s.toks, m₀, 0, rfl, ⟨_, Heap.get?_push_size _ rfl, rfl, rfl⟩, F.push _, fun p hp => ⟨Heap.get?_push_of_some _ (N p hp).1, (N p hp).2⟩, by rw [List.drop_zero]; exact rest, Nat.zero_le _, rfl⟩
  rintro k s' ⟨h', tk, m', i, rfl, hit, F', N', R, hle, rfl⟩
  have hl' : h'.IsTuple l items := tup_at hl fun o e => F'.keep l o e
  by_cases hlt : i < items.size
  · have hx : items[i]? = some items[i] := Array.getElem?_eq_getElem hlt
    obtain ⟨T, a, b, hv, hps, hT⟩ := hi i _ hx
    have hdrop : ps.drop i = (a, b) :: ps.drop (i + 1) := by
      have hlt' : i < ps.length := by omega
      rw [List.drop_eq_getElem_cons hlt']
      congr 1
      exact Option.some.inj ((List.getElem?_eq_getElem hlt').symm.trans hps)
    rw [hdrop] at R
    refine wpAny_pyNext_tuple_item hit hl' hx fun h₁ hit₁ hs₁ => ?_
    replace hs₁ : Heap.SameBut s.heap.objs.size h' h₁ := hs₁
    have F₁ : Fr h₀ env.locals h₁ m' := F'.change hs₁ hIL hI₀
    have N₁ : News h₀ env.locals h₁ news := fun p hp => ⟨hs₁.extBut _ _ (Nat.ne_of_lt (hoff p hp)) (N' p hp).1, (N' p hp).2⟩
    refine letGo_tupleiter hit₁ ?_
    rw [hv]
    have hT₁ : IsTup h₁ T #[a, b] := let ⟨o, e, r⟩ := hT; ⟨o, F₁.keep _ _ e, r⟩
    refine wpAny_passesOwn hE ?_
    refine assign_Tuple_tuple hh hT₁ rfl rfl fun h₂ he₂ => ?_
    have he' : ∀ c o, h₁.get? c = some o → h₂.get? c = some o := fun c o e => he₂ c o (Nat.ne_of_lt (Heap.lt_size e)) e
    have F₂ : Fr h₀ env.locals h₂ m' := F₁.keeps he'
    refine assignInOrder_cons (wpAny_assign_Name (wpAny_storeName_local hx1 F₂.ns (fun h₃ hn₃ hs₃ => ?_) hp))
    replace hs₃ : Heap.SameBut env.locals h₂ h₃ := hs₃
    have F₃ := F₂.set hn₃ hs₃
    refine assignInOrder_cons (wpAny_assign_Name (wpAny_storeName_local hx2 hn₃ (fun h₄ hn₄ hs₄ => ?_) hp))
    replace hs₄ : Heap.SameBut env.locals h₃ h₄ := hs₄
    have F₄ := F₃.set hn₄ hs₄
    refine assignInOrder_nil ?_
    have keep4 : ∀ c o, c ≠ env.locals → h₁.get? c = some o → h₄.get? c = some o := fun c o hc e => hs₄.extBut c o hc (hs₃.extBut c o hc (he' c o e))
    have N₄ : News h₀ env.locals h₄ news := fun p hp => ⟨keep4 _ _ (N p hp).2.1 (N₁ p hp).1, (N p hp).2⟩
    obtain ⟨oI, hoI, hcI, hdI⟩ := hit₁
    have hoI₄ : h₄.get? s.heap.objs.size = some oI := keep4 _ _ hIL hoI
    have NI : News h₀ env.locals h₄ (news ++ [(s.heap.objs.size, oI)]) := fun p hp => by
      rcases List.mem_append.mp hp with q | q
      · exact N₄ p q
      · rw [List.mem_singleton.mp q]; exact ⟨hoI₄, hIL, hI₀⟩
    refine wpAny_passesOwn hE (wpAny_mono (R s.heap.objs.size oI h₄ _ hoff F₄ NI) (fun f s₅ q => ?_) fun _ _ e => e)
    have fin : (∃ (h' : Heap) (tk' : Nat) (m' : Str → Option Value) (all : Led), s₅ = { s with heap := h', toks := tk' } ∧ Fr h₀ env.locals h' m' ∧ News h₀ env.locals h' all ∧ (∀ p ∈ news ++ [(s.heap.objs.size, oI)], p ∈ all) ∧ InRest prog w A E h₀ env x1 x2 body orelse Q s news (ps.drop (i + 1)) m') →
        ∃ m, m < items.size + 1 - i ∧ ∃ (h' : Heap) (tk : Nat) (m' : Str → Option Value) (i : Nat), s₅ = { s with heap := h', toks := tk } ∧ h'.IsTupleIter s.heap.objs.size l i ∧ Fr h₀ env.locals h' m' ∧ News h₀ env.locals h' news ∧ InRest prog w A E h₀ env x1 x2 body orelse Q s news (ps.drop i) m' ∧ i ≤ items.size ∧ m = items.size + 1 - i := by
      rintro ⟨h₆, tk₆, m₆, all, rfl, F₆, N₆, sb, R₆⟩
      exact ⟨items.size + 1 - (i + 1), by omega, h₆, tk₆, m₆, i + 1, rfl, ⟨oI, (N₆ _ (sb _ (List.mem_append_right _ (List.mem_singleton.mpr rfl)))).1, hcI, hdI⟩, F₆, fun p hp => N₆ p (sb p (List.mem_append_left _ hp)), R₆, hlt, rfl⟩
    cases f with
    | ret v => exact q
    | brk => exact q
    | next => exact fin q
    | cont => exact fin q
  · have hin : i = items.size := by omega
    subst hin
    have hd : ps.drop items.size = [] := by rw [← hn]; exact List.drop_length
    rw [hd] at R
    refine wpAny_pyNext_tuple_end hh hit hl' (Array.getElem?_eq_none (Nat.le_refl _)) fun h₁ hs₁ => ?_
    have F₁ : Fr h₀ env.locals h₁ m' := ⟨F'.ns.at' fun o e => hs₁ _ o (Ne.symm hIL) e, fun c o e => hs₁ c o (fun q => by rw [q, hI₀] at e; cases e) (F'.keep c o e), F'.above⟩
    have N₁ : News h₀ env.locals h₁ news := fun p hp => ⟨hs₁ _ _ (Nat.ne_of_lt (hoff p hp)) (N' p hp).1, (N' p hp).2⟩
    exact wpAny_passesOwn hE (R h₁ _ F₁ N₁)
end
end Mine
namespace Mine

local macro_rules | `(tactic| walk_at $s:str) => `(tactic| k_extra $s)

/-! filemode -/
inductive PairsAt (h₀ : Heap) : List Value → List (Value × Value) → Prop
  | nil : PairsAt h₀ [] []
  | cons {T : Addr} {a b : Value} {vs : List Value} {ps : List (Value × Value)} : IsTup h₀ T #[a, b] → PairsAt h₀ vs ps → PairsAt h₀ (.ref T :: vs) ((a, b) :: ps)
theorem PairsAt.len {h₀ : Heap} {vs : List Value} {ps : List (Value × Value)} (h : PairsAt h₀ vs ps) : ps.length = vs.toArray.size := by
  induction h with
  | nil => rfl
  | cons _ _ ih => simpa using ih
theorem PairsAt.at {h₀ : Heap} {vs : List Value} {ps : List (Value × Value)} (h : PairsAt h₀ vs ps) : ∀ (j : Nat) (v : Value), vs.toArray[j]? = some v → ∃ (T : Addr) (a b : Value), v = .ref T ∧ ps[j]? = some (a, b) ∧ IsTup h₀ T #[a, b] := by
  induction h with
  | nil => intro j v e; simp at e
  | cons ht _ ih =>
    intro j v e
    cases j with
    | zero => simp at e; subst e; exact ⟨_, _, _, rfl, rfl, ht⟩
    | succ j => exact ih j v (by simpa using e)
def FmJ (x : Int) (t1 : Tok) (news : Led) (i : Nat) (m : Str → Option Value) (nx : Led) : Prop :=
  ∃ (perm : Addr) (vs : List Value) (n : Nat), m (Str.ofString "perm") = some (.ref perm) ∧ m (Str.ofString "mode") = some (.int x t1) ∧ nx = (perm, listOf vs.toArray n) :: news ∧ (∀ p ∈ news, p.1 < perm) ∧ StrsAre vs ((signsL x).take i)
theorem fr_two {h₀ h : Heap} {L : Addr} {m : Str → Option Value} {a b : Str} {v u : Value} (F : Fr h₀ L h m) (h1 : m a = some v) (h2 : m b = some u) : Fr h₀ L h (fun y => if y = a then some v else if y = b then some u else m y) := by
  have e : (fun y => if y = a then some v else if y = b then some u else m y) = m := by
    funext y
    by_cases q : y = a
    · subst q; simp [h1]
    · rw [if_neg q]
      by_cases q' : y = b
      · subst q'; simp [h2]
      · rw [if_neg q']
  rw [e]; exact F
theorem strs_len {vs : List Value} {ys : List Str} (h : StrsAre vs ys) : vs.length = ys.length := by
  induction h with
  | nil => rfl
  | cons _ _ _ ih => simp [ih]
theorem strs_snoc {vs : List Value} {ys : List Str} {c : Str} {t : Tok} (h : StrsAre vs ys) : StrsAre (vs ++ [.str c t]) (ys ++ [c]) := by
  induction h with
  | nil => exact .cons _ _ .nil
  | cons _ _ _ ih => exact .cons _ _ ih
theorem strs_short {x : Int} {i : Nat} {vs : List Value} (h : StrsAre vs ((signsL x).take i)) : vs.length ≤ 10 := by
  rw [strs_len h, List.length_take]
  have : (signsL x).length = 10 := rfl
  omega
theorem off_snoc {Y : Led} {perm I : Addr} {o oI : Obj} (h : ∀ p ∈ Y, p.1 ≠ perm) (lt : ∀ p ∈ (perm, o) :: Y, p.1 < I) : ∀ p ∈ Y ++ [(I, oI)], p.1 ≠ perm := by
  intro p hp
  rcases List.mem_append.mp hp with q | q
  · exact h p q
  · rw [List.mem_singleton.mp q]
    exact Nat.ne_of_gt (lt _ List.mem_cons_self)
theorem off_own {news own : Led} {perm : Addr} {o : Obj} (h : ∀ p ∈ news, p.1 < perm) (ho : OwnOff own (((perm, o) :: news).map (·.1))) : ∀ p ∈ news ++ own, p.1 ≠ perm := by
  intro p hp
  rcases List.mem_append.mp hp with q | q
  · exact Nat.ne_of_lt (h p q)
  · exact ho p q perm List.mem_cons_self
section
variable {prog : Program} {w : World} {A : Around} {E : Value → Shared → Prop} {s : Shared} {h₀ : Heap} {env : Env} {m : Str → Option Value} {news : Led}
theorem as_pair {x1 x2 : Str} {p1 p2 pt : Pos} {kt : Nat} {T : Addr} {a b : Value} {Q : Unit → Shared → Prop} (hh : A.handled = none) (hT : IsTup s.heap T #[a, b]) (hx1 : env.kindOf x1 = some .local) (hx2 : env.kindOf x2 = some .local)
    (hp : (env.scope.kind == .class || (env.scope.kind == .module && env.locals != env.globals)) = false) (F : Fr h₀ env.locals s.heap m) (N : News h₀ env.locals s.heap news)
    (h : ∀ h' tk', Fr h₀ env.locals h' (fun y => if y = x2 then some b else if y = x1 then some a else m y) → News h₀ env.locals h' news → Q () { s with heap := h', toks := tk' }) :
    wpAny (model prog w) A (assign (.Tuple [.Name x1 p1, .Name x2 p2] kt pt) env (.ref T)) Q E s := by
  refine assign_Tuple_tuple hh hT rfl rfl fun h₂ he₂ => ?_
  have he' : ∀ c o, s.heap.get? c = some o → h₂.get? c = some o := fun c o e => he₂ c o (Nat.ne_of_lt (Heap.lt_size e)) e
  have F₂ : Fr h₀ env.locals h₂ m := F.keeps he'
  refine assignInOrder_cons (wpAny_assign_Name (wpAny_storeName_local hx1 F₂.ns (fun h₃ hn₃ hs₃ => ?_) hp))
  replace hs₃ : Heap.SameBut env.locals h₂ h₃ := hs₃
  have F₃ := F₂.set hn₃ hs₃
  refine assignInOrder_cons (wpAny_assign_Name (wpAny_storeName_local hx2 hn₃ (fun h₄ hn₄ hs₄ => ?_) hp))
  replace hs₄ : Heap.SameBut env.locals h₃ h₄ := hs₄
  refine assignInOrder_nil (h h₄ _ (F₃.set hn₄ hs₄) fun p hp => ⟨hs₄.extBut _ _ (N p hp).2.1 (hs₃.extBut _ _ (N p hp).2.1 (he' _ _ (N p hp).1)), (N p hp).2⟩)
theorem in_iterP {x1 x2 : Str} {body orelse : List Stmt} {Q : Flow → Shared → Prop} {p1 p2 pt : Pos} {kt : Nat} {l : Addr} {vs : List Value} {ps : List (Value × Value)} {m₀ : Str → Option Value}
    (hh : A.handled = none) (hx1 : env.kindOf x1 = some .local) (hx2 : env.kindOf x2 = some .local) (hp : (env.scope.kind == .class || (env.scope.kind == .module && env.locals != env.globals)) = false)
    (hl : IsTup h₀ l vs.toArray) (hi : PairsAt h₀ vs ps) (F : Fr h₀ env.locals s.heap m₀) (N : News h₀ env.locals s.heap news) (rest : InRest prog w A E h₀ env x1 x2 body orelse Q s news ps m₀) (hE : PassesOwn (model prog w) A env E) :
    wpAny (model prog w) A (pyIter (.ref l)) (fun it s₂ => codeAny (model prog w) A (.forLoop (.Tuple [.Name x1 p1, .Name x2 p2] kt pt) it body orelse env) (fun r s' => match r with | .ok f => Q f s' | .error e => cameBackBy (model prog w) A env E e s') s₂) E s :=
  in_iter hh hx1 hx2 hp (isTupleOf hl) hi.at hi.len F N rest hE
theorem in_next {x1 x2 : Str} {body orelse : List Stmt} {Q : Flow → Shared → Prop} {own all : Led} {r : List (Value × Value)} {L : Addr} {hp h' : Heap} {g : Array GenState} {d : Drawn} {o : OsState} {tk tk' : Nat} {m' : Str → Option Value} {S : Shared} (F : Fr h₀ L h' m') (N : News h₀ L h' all) (sb : ∀ p ∈ news ++ own, p ∈ all) (R : InRest prog w A E h₀ env x1 x2 body orelse Q S news r m') :
    InPost h₀ L own news (InRest prog w A E h₀ env x1 x2 body orelse Q S news r) Q ⟨hp, g, d, tk, o⟩ .next ⟨h', g, d, tk', o⟩ := ⟨h', tk', m', all, rfl, F, N, sb, R⟩
end
theorem fm_end {x : Int} {t1 : Tok} {news own all : Led} {i : Nat} {perm : Addr} {vs : List Value} {n' : Nat} {L : Addr} {h₀ h' hp : Heap} {m' : Str → Option Value} {g : Array GenState} {d : Drawn} {o : OsState} {tk tk' : Nat} {c : Str} {t : Tok} {ob : Obj}
    (hs : StrsAre vs ((signsL x).take i)) (hne : ∀ p ∈ news, p.1 < perm) (F : Fr h₀ L h' m') (N : News h₀ L h' all) (ma : (perm, listOf (vs.toArray.push (.str c t)) n') ∈ all) (s1 : ∀ p ∈ news, p ∈ all) (s2 : ∀ p ∈ own, p ∈ all)
    (m1 : m' (Str.ofString "perm") = some (.ref perm)) (m2 : m' (Str.ofString "mode") = some (.int x t1)) (hc : (signsL x)[i]? = some c) :
    InvEndN h₀ L (FmJ x t1 news (i + 1)) own (((perm, ob) :: news).map (·.1)) ⟨hp, g, d, tk, o⟩ ⟨h', g, d, tk', o⟩ := by
  rw [List.push_toArray] at ma
  refine ⟨h', tk', m', all, (perm, listOf (vs ++ [Value.str c t]).toArray n') :: news, rfl, F, N, fun p hp => ?_, s2, rfl, perm, _, n', m1, m2, rfl, hne, ?_⟩
  · rcases List.mem_cons.mp hp with rfl | hp
    · exact ma
    · exact s1 p hp
  · rw [List.take_add_one, hc]
    exact strs_snoc hs

section
variable {x : Int} (h0 : OkM x)
include h0
theorem fs_y (k : Nat) (M : Int) {c : Nat} (hM : M = ((2 ^ k : Nat) : Int)) (h : Builtin.bitAnd x M = M) : some (sg (ch (bt x k) c)) = some (sg c) := by rw [sg_yes ((has1 h0.nonneg k M hM).mp h)]
theorem fs_n (k : Nat) (M : Int) {c : Nat} (hM : M = ((2 ^ k : Nat) : Int)) (h : Builtin.bitAnd x M ≠ M) : some (sg (ch (bt x k) c)) = some (sg 45) := by rw [sg_no (fun q => h ((has1 h0.nonneg k M hM).mpr q))]
theorem fx_1 (b s M : Nat) {lo up : Nat} (hM : M = 2 ^ b ||| 2 ^ s) (h : Builtin.bitAnd x (M : Int) = (M : Int)) : some (sg (ex (bt x b) (bt x s) lo up)) = some (sg lo) := by rw [ex_1 ((has2 h0.nonneg b s M hM).mp h)]
theorem fx_2 (b s M : Nat) (S : Int) {lo up : Nat} (hM : M = 2 ^ b ||| 2 ^ s) (hS : S = ((2 ^ s : Nat) : Int)) (h : Builtin.bitAnd x (M : Int) ≠ (M : Int)) (h' : Builtin.bitAnd x S = S) : some (sg (ex (bt x b) (bt x s) lo up)) = some (sg up) := by
  rw [ex_2 (fun q => h ((has2 h0.nonneg b s M hM).mpr q)) ((has1 h0.nonneg s S hS).mp h')]
theorem fx_3 (b s : Nat) (S B : Int) {lo up : Nat} (hS : S = ((2 ^ s : Nat) : Int)) (hB : B = ((2 ^ b : Nat) : Int)) (h : Builtin.bitAnd x S ≠ S) (h' : Builtin.bitAnd x B = B) : some (sg (ex (bt x b) (bt x s) lo up)) = some (sg 120) := by
  rw [ex_3 (fun q => h ((has1 h0.nonneg s S hS).mpr q)) ((has1 h0.nonneg b B hB).mp h')]
theorem fx_4 (b s : Nat) (S B : Int) {lo up : Nat} (hS : S = ((2 ^ s : Nat) : Int)) (hB : B = ((2 ^ b : Nat) : Int)) (h : Builtin.bitAnd x S ≠ S) (h' : Builtin.bitAnd x B ≠ B) : some (sg (ex (bt x b) (bt x s) lo up)) = some (sg 45) := by
  rw [ex_4 (fun q => h ((has1 h0.nonneg s S hS).mpr q)) (fun q => h' ((has1 h0.nonneg b B hB).mpr q))]
theorem fk_d (h : Builtin.bitAnd x 61440 = 16384) : some (sg (if bt x 14 then 100 else 45)) = some (sg 100) := by
  rw [and_ifmt h0] at h
  cases hb : bt x 14
  · rw [hb] at h; exact absurd h (by decide)
  · rfl
theorem fk_r (h : Builtin.bitAnd x 61440 = 32768) : some (sg (if bt x 14 then 100 else 45)) = some (sg 45) := by
  rw [and_ifmt h0] at h
  cases hb : bt x 14
  · rfl
  · rw [hb] at h; exact absurd h (by decide)
theorem fs0r (h : Builtin.bitAnd x 61440 = 32768) : (signsL x)[0]? = some (Str.ofString "-") := by rw [show Str.ofString "-" = sg 45 from by decide +kernel]; exact fk_r h0 h
theorem fs0d (h : Builtin.bitAnd x 61440 = 16384) : (signsL x)[0]? = some (Str.ofString "d") := by rw [show Str.ofString "d" = sg 100 from by decide +kernel]; exact fk_d h0 h
theorem fs1y (h : Builtin.bitAnd x 256 = 256) : (signsL x)[1]? = some (Str.ofString "r") := by rw [show Str.ofString "r" = sg 114 from by decide +kernel]; exact fs_y h0 8 256 rfl h
theorem fs1n (h : Builtin.bitAnd x 256 ≠ 256) : (signsL x)[1]? = some (Str.ofString "-") := by rw [show Str.ofString "-" = sg 45 from by decide +kernel]; exact fs_n h0 8 256 rfl h
theorem fs2y (h : Builtin.bitAnd x 128 = 128) : (signsL x)[2]? = some (Str.ofString "w") := by rw [show Str.ofString "w" = sg 119 from by decide +kernel]; exact fs_y h0 7 128 rfl h
theorem fs2n (h : Builtin.bitAnd x 128 ≠ 128) : (signsL x)[2]? = some (Str.ofString "-") := by rw [show Str.ofString "-" = sg 45 from by decide +kernel]; exact fs_n h0 7 128 rfl h
theorem fs4y (h : Builtin.bitAnd x 32 = 32) : (signsL x)[4]? = some (Str.ofString "r") := by rw [show Str.ofString "r" = sg 114 from by decide +kernel]; exact fs_y h0 5 32 rfl h
theorem fs4n (h : Builtin.bitAnd x 32 ≠ 32) : (signsL x)[4]? = some (Str.ofString "-") := by rw [show Str.ofString "-" = sg 45 from by decide +kernel]; exact fs_n h0 5 32 rfl h
theorem fs5y (h : Builtin.bitAnd x 16 = 16) : (signsL x)[5]? = some (Str.ofString "w") := by rw [show Str.ofString "w" = sg 119 from by decide +kernel]; exact fs_y h0 4 16 rfl h
theorem fs5n (h : Builtin.bitAnd x 16 ≠ 16) : (signsL x)[5]? = some (Str.ofString "-") := by rw [show Str.ofString "-" = sg 45 from by decide +kernel]; exact fs_n h0 4 16 rfl h
theorem fs7y (h : Builtin.bitAnd x 4 = 4) : (signsL x)[7]? = some (Str.ofString "r") := by rw [show Str.ofString "r" = sg 114 from by decide +kernel]; exact fs_y h0 2 4 rfl h
theorem fs7n (h : Builtin.bitAnd x 4 ≠ 4) : (signsL x)[7]? = some (Str.ofString "-") := by rw [show Str.ofString "-" = sg 45 from by decide +kernel]; exact fs_n h0 2 4 rfl h
theorem fs8y (h : Builtin.bitAnd x 2 = 2) : (signsL x)[8]? = some (Str.ofString "w") := by rw [show Str.ofString "w" = sg 119 from by decide +kernel]; exact fs_y h0 1 2 rfl h
theorem fs8n (h : Builtin.bitAnd x 2 ≠ 2) : (signsL x)[8]? = some (Str.ofString "-") := by rw [show Str.ofString "-" = sg 45 from by decide +kernel]; exact fs_n h0 1 2 rfl h
theorem fs3a (h : Builtin.bitAnd x 2112 = 2112) : (signsL x)[3]? = some (Str.ofString "s") := by rw [show Str.ofString "s" = sg 115 from by decide +kernel]; exact fx_1 h0 6 11 2112 rfl h
theorem fs3b (h : Builtin.bitAnd x 2112 ≠ 2112) (h2 : Builtin.bitAnd x 2048 = 2048) : (signsL x)[3]? = some (Str.ofString "S") := by rw [show Str.ofString "S" = sg 83 from by decide +kernel]; exact fx_2 h0 6 11 2112 2048 rfl rfl h h2
theorem fs3c (h : Builtin.bitAnd x 2048 ≠ 2048) (h2 : Builtin.bitAnd x 64 = 64) : (signsL x)[3]? = some (Str.ofString "x") := by rw [show Str.ofString "x" = sg 120 from by decide +kernel]; exact fx_3 h0 6 11 2048 64 rfl rfl h h2
theorem fs3d (h : Builtin.bitAnd x 2048 ≠ 2048) (h2 : Builtin.bitAnd x 64 ≠ 64) : (signsL x)[3]? = some (Str.ofString "-") := by rw [show Str.ofString "-" = sg 45 from by decide +kernel]; exact fx_4 h0 6 11 2048 64 rfl rfl h h2
theorem fs6a (h : Builtin.bitAnd x 1032 = 1032) : (signsL x)[6]? = some (Str.ofString "s") := by rw [show Str.ofString "s" = sg 115 from by decide +kernel]; exact fx_1 h0 3 10 1032 rfl h
theorem fs6b (h : Builtin.bitAnd x 1032 ≠ 1032) (h2 : Builtin.bitAnd x 1024 = 1024) : (signsL x)[6]? = some (Str.ofString "S") := by rw [show Str.ofString "S" = sg 83 from by decide +kernel]; exact fx_2 h0 3 10 1032 1024 rfl rfl h h2
theorem fs6c (h : Builtin.bitAnd x 1024 ≠ 1024) (h2 : Builtin.bitAnd x 8 = 8) : (signsL x)[6]? = some (Str.ofString "x") := by rw [show Str.ofString "x" = sg 120 from by decide +kernel]; exact fx_3 h0 3 10 1024 8 rfl rfl h h2
theorem fs6d (h : Builtin.bitAnd x 1024 ≠ 1024) (h2 : Builtin.bitAnd x 8 ≠ 8) : (signsL x)[6]? = some (Str.ofString "-") := by rw [show Str.ofString "-" = sg 45 from by decide +kernel]; exact fx_4 h0 3 10 1024 8 rfl rfl h h2
theorem fs9a (h : Builtin.bitAnd x 513 = 513) : (signsL x)[9]? = some (Str.ofString "t") := by rw [show Str.ofString "t" = sg 116 from by decide +kernel]; exact fx_1 h0 0 9 513 rfl h
theorem fs9b (h : Builtin.bitAnd x 513 ≠ 513) (h2 : Builtin.bitAnd x 512 = 512) : (signsL x)[9]? = some (Str.ofString "T") := by rw [show Str.ofString "T" = sg 84 from by decide +kernel]; exact fx_2 h0 0 9 513 512 rfl rfl h h2
theorem fs9c (h : Builtin.bitAnd x 512 ≠ 512) (h2 : Builtin.bitAnd x 1 = 1) : (signsL x)[9]? = some (Str.ofString "x") := by rw [show Str.ofString "x" = sg 120 from by decide +kernel]; exact fx_3 h0 0 9 512 1 rfl rfl h h2
theorem fs9d (h : Builtin.bitAnd x 512 ≠ 512) (h2 : Builtin.bitAnd x 1 ≠ 1) : (signsL x)[9]? = some (Str.ofString "-") := by rw [show Str.ofString "-" = sg 45 from by decide +kernel]; exact fx_4 h0 0 9 512 1 rfl rfl h h2

theorem fm_bad {M : Int} (h1 : M ≠ 16384) (h2 : M ≠ 32768) : ¬(Builtin.bitAnd x 61440 = M) := by
  rw [and_ifmt h0]
  cases bt x 14
  · exact fun q => h2 q.symm
  · exact fun q => h1 q.symm
end
theorem sg_weight (x : Int) : ((signsL x).map (·.length)).sum + (signsL x).length ≤ 1048576 := by rw [show ((signsL x).map (·.length)).sum = 10 from rfl, show (signsL x).length = 10 from rfl]; decide
theorem fk_end {x : Int} (h0 : OkM x) (h1 : Builtin.bitAnd x 61440 ≠ 16384) (h2 : Builtin.bitAnd x 61440 ≠ 32768) : False := by
  rw [and_ifmt h0] at h1 h2
  cases hb : bt x 14
  · rw [hb] at h2; exact h2 rfl
  · rw [hb] at h1; exact h1 rfl


theorem t_filemode (w : World) (x : Int) (t1 : Tok) (h0 : OkM x) : TellV w 6 82 [.int x t1] (fun t => .str (signs x) t) := by
  k_with_none
  k_with "execs cons" => (((with_reducible refine wpAny_execs_cons ?_); try dsimp only))
  k_with "execs cons" => (((with_reducible show wpAny _ _ (execs (_ :: _) _) _ _ (Shared.mk _ _ _ (_ + 1 + 1) _)); (with_reducible refine gen_toks ?_); intro tk))
  k_with "call ref" => ((k_here; (with_reducible show wpAny _ _ (call (Value.ref 28) [Value.int _ _] _) _ _ _); k_dflt (refine' TellV.use (t_ifmt _ _ _) ?k1 ?k2 ?k3 ?k4 ?k5 ?kK ?kd ?ku ?_; (case k1 => k_asm); (case k2 => k_asm); (case k3 => k_asm); (case k4 => k_asm); (case k5 => k_asm); (case kK => first | exact rfl | assumption); (case kd => first | exact room2 hdp 1 rfl (by decide) | ktr_room); (case ku => first | exact units2 hun 0 rfl (by decide) | ktr_units); k_whole; intro t9 h9 tk9 F9 N9; (try dsimp only); (try k_sweep); (try k_fold))))
  k_with "call builtin:str.join" => ((k_here; k_dflt (refine' join_listW (ys := signsL _) ?hl ?hi ?hs ?hw ?_; (case hl => exact News.isList (by k_asm) (by exact List.mem_cons_self)); (case hi => assumption); (case hs => decide); (case hw => exact sg_weight _); intro t9 k9)))
  k_with "exec For Tuple Call cons nil" => ((k_here; (rename Fr _ _ _ _ => lF'); (with_unfolding_all refine' For_turns lF' ?_; k_whole)))
  k_with "exec For Tuple Name" => ((k_here; refine wpAny_For ?_))
  k_with "exec For Tuple Name cons cons" => ((k_here; refine wpAny_For ?_))
  k_with "pyIter ref" => ((k_here; (with_reducible show wpAny _ _ (pyIter (Value.ref _)) (fun it s₂ => codeAny _ _ _ _ s₂) _ _);  k_dflt (refine' in_iterP rfl rfl rfl rfl ?t1 ?t2 ?F ?N ?_ ?E; (case t1 => exact (tupK (by k_asm) (by k_is))); (case t2 => first | exact PairsAt.cons (tupK (by k_asm) (by k_is)) (PairsAt.nil) | exact PairsAt.cons (tupK (by k_asm) (by k_is)) (PairsAt.cons (tupK (by k_asm) (by k_is)) (PairsAt.cons (tupK (by k_asm) (by k_is)) (PairsAt.nil))) | exact PairsAt.cons (tupK (by k_asm) (by k_is)) (PairsAt.cons (tupK (by k_asm) (by k_is)) (PairsAt.cons (tupK (by k_asm) (by k_is)) (PairsAt.cons (tupK (by k_asm) (by k_is)) (PairsAt.cons (tupK (by k_asm) (by k_is)) (PairsAt.cons (tupK (by k_asm) (by k_is)) (PairsAt.cons (tupK (by k_asm) (by k_is)) (PairsAt.nil)))))))); (case F => k_asm); (case N => k_asm); (case E => passes_own))))
  k_with "InRest" => (first | (refine InRest.succ ?_; intro I9 oI9 h9 tk9 lt9 F9 N9; (have hY9 := off_snoc (oI := oI9) (by assumption) lt9); simp only [List.cons_append] at N9; (try dsimp only [envOf] at F9 N9); (try k_sweep); (try dsimp only)) | (refine InRest.zero ?_; intro h9 tk9 F9 N9; (try dsimp only [envOf] at F9 N9); (try k_sweep); (try dsimp only)))
  k_with "InPost" => (first | (k_dflt (refine' in_next ?F ?N ?sb ?_; (case F => assumption); (case N => assumption); (case sb => exact fun _ h => h))) | (dsimp only [InPost]))
  k_with "call builtin:list.append" => ((k_here; k_dflt (refine' append_K ?k1 ?k2 (Upd.head ?k3) ?_ ?z; (case k1 => k_asm); (case k2 => k_asm); (case k3 => assumption); (case z => (rw [sizeLine_eq, List.size_toArray]; omega)); k_whole); intro h' F' N'; (try k_sweep)))
  unfold TellV
  k_fill
  intro mean mg mb dp un gd cn cs a ccd cl outer A₀ base h₀ L m s news Q E B F X N T hk hdp hun hret
  refine wpAny_call ?_
  k_dflt (refine' code_def (binds := [(Str.ofString "mode", .int x t1)]) ?k1 ?k2 ?k3 ?k4 ?k5 ?kA ?kF ?kK ?k6 ?k7 ?k8 ?k9 ?kB ?_ ?c2 ?c3 ?c4 ?c5; (case kA => exact rfl); (case kF => exact rfl); (case kK => assumption); (case k1 => k_asm); (case k2 => k_asm); (case k3 => k_asm); (case k4 => k_asm); (case k5 => k_asm); (case k6 => k_is); (case k7 => k_is); (case k8 => first | exact room1 hdp 0 rfl (by decide) | ktr_room); (case k9 => exact BindsTo.of_eq rfl); (case c5 => decide); (case kB => exact locs rfl); (case c2 => exact rfl); (case c3 => exact rfl); (case c4 => exact rfl); k_whole; intro g' L' h' FG' F' N' B' X' T'; (try dsimp only); (try k_lift B'); (try k_fold))
  k_steps
  rename Fr _ _ _ _ => lF
  rename News _ _ _ _ => lN
  rename ∀ p ∈ news, p.1 < _ => l1
  refine et_turns (FmJ x t1 news) rfl lF lN (isTupleOf (tupK X' (by k_is))) ⟨_, [], 0, rfl, rfl, rfl, l1, .nil⟩ ?_ ?_
  · intro i T t xv m₁ nx own h tk hx hJ hadr hoff hT F1 N1
    obtain ⟨perm, vs, n, hm1, hm2, rfl, hne, hs⟩ := hJ
    have e9 : perm = _ := (List.cons.inj hadr).1
    subst e9
    have hY := off_own hne hoff
    have hvs := strs_short hs
    have F2 := fr_two F1 hm1 hm2
    refine as_pair rfl hT rfl rfl rfl F2 N1 ?_
    intro h2 tk2 F3 N3
    simp only [List.cons_append] at N3
    change News g' L' _ _ at N3
    change Fr g' L' _ _ at F3
    clear F1 F2 N1 lF lN hT hadr
    rcases i with _ | _ | _ | _ | _ | _ | _ | _ | _ | _ | i
    all_goals simp only [List.getElem?_toArray, List.getElem?_cons_zero, List.getElem?_cons_succ, Option.some.injEq, List.getElem?_nil, Nat.zero_add, Nat.reduceAdd] at hx
    all_goals try subst hx
    all_goals try dsimp only
    all_goals (try k_fold)
    all_goals k_steps
    · exact (fm_bad h0 (M := 40960) (by decide) (by decide) (by with_reducible assumption)).elim
    · exact (fm_bad h0 (M := 49152) (by decide) (by decide) (by with_reducible assumption)).elim
    · show InvEndN g' L' _ _ _ _ _; exact fm_end hs hne (by first | with_reducible assumption | assumption) (by first | with_reducible assumption | assumption) List.mem_cons_self (fun p h => List.mem_cons_of_mem _ (List.mem_append_left _ (List.mem_append_left _ h))) (fun p h => List.mem_cons_of_mem _ (List.mem_append_left _ (List.mem_append_right _ h))) (by with_unfolding_all rfl) (by with_unfolding_all rfl) (fs0r h0 (by with_reducible assumption))
    · exact (fm_bad h0 (M := 24576) (by decide) (by decide) (by with_reducible assumption)).elim
    · show InvEndN g' L' _ _ _ _ _; exact fm_end hs hne (by first | with_reducible assumption | assumption) (by first | with_reducible assumption | assumption) List.mem_cons_self (fun p h => List.mem_cons_of_mem _ (List.mem_append_left _ (List.mem_append_left _ h))) (fun p h => List.mem_cons_of_mem _ (List.mem_append_left _ (List.mem_append_right _ h))) (by with_unfolding_all rfl) (by with_unfolding_all rfl) (fs0d h0 (by with_reducible assumption))
    · exact (fm_bad h0 (M := 8192) (by decide) (by decide) (by with_reducible assumption)).elim
    · exact (fm_bad h0 (M := 4096) (by decide) (by decide) (by with_reducible assumption)).elim
    · exact (fk_end h0 (by with_reducible assumption) (by with_reducible assumption)).elim
    · show InvEndN g' L' _ _ _ _ _; exact fm_end hs hne (by first | with_reducible assumption | assumption) (by first | with_reducible assumption | assumption) List.mem_cons_self (fun p h => List.mem_cons_of_mem _ (List.mem_append_left _ (List.mem_append_left _ h))) (fun p h => List.mem_cons_of_mem _ (List.mem_append_left _ (List.mem_append_right _ h))) (by with_unfolding_all rfl) (by with_unfolding_all rfl) (fs1y h0 (by with_reducible assumption))
    · show InvEndN g' L' _ _ _ _ _; exact fm_end hs hne (by first | with_reducible assumption | assumption) (by first | with_reducible assumption | assumption) List.mem_cons_self (fun p h => List.mem_cons_of_mem _ (List.mem_append_left _ h)) (fun p h => List.mem_cons_of_mem _ (List.mem_append_right _ h)) (by with_unfolding_all rfl) (by with_unfolding_all rfl) (fs1n h0 (by with_reducible assumption))
    · show InvEndN g' L' _ _ _ _ _; exact fm_end hs hne (by first | with_reducible assumption | assumption) (by first | with_reducible assumption | assumption) List.mem_cons_self (fun p h => List.mem_cons_of_mem _ (List.mem_append_left _ (List.mem_append_left _ h))) (fun p h => List.mem_cons_of_mem _ (List.mem_append_left _ (List.mem_append_right _ h))) (by with_unfolding_all rfl) (by with_unfolding_all rfl) (fs2y h0 (by with_reducible assumption))
    · show InvEndN g' L' _ _ _ _ _; exact fm_end hs hne (by first | with_reducible assumption | assumption) (by first | with_reducible assumption | assumption) List.mem_cons_self (fun p h => List.mem_cons_of_mem _ (List.mem_append_left _ h)) (fun p h => List.mem_cons_of_mem _ (List.mem_append_right _ h)) (by with_unfolding_all rfl) (by with_unfolding_all rfl) (fs2n h0 (by with_reducible assumption))
    · show InvEndN g' L' _ _ _ _ _; exact fm_end hs hne (by first | with_reducible assumption | assumption) (by first | with_reducible assumption | assumption) List.mem_cons_self (fun p h => List.mem_cons_of_mem _ (List.mem_append_left _ (List.mem_append_left _ h))) (fun p h => List.mem_cons_of_mem _ (List.mem_append_left _ (List.mem_append_right _ h))) (by with_unfolding_all rfl) (by with_unfolding_all rfl) (fs3a h0 (by with_reducible assumption))
    · show InvEndN g' L' _ _ _ _ _; exact fm_end hs hne (by first | with_reducible assumption | assumption) (by first | with_reducible assumption | assumption) List.mem_cons_self (fun p h => List.mem_cons_of_mem _ (List.mem_append_left _ (List.mem_append_left _ h))) (fun p h => List.mem_cons_of_mem _ (List.mem_append_left _ (List.mem_append_right _ h))) (by with_unfolding_all rfl) (by with_unfolding_all rfl) (fs3b h0 (by with_reducible assumption) (by with_reducible assumption))
    · show InvEndN g' L' _ _ _ _ _; exact fm_end hs hne (by first | with_reducible assumption | assumption) (by first | with_reducible assumption | assumption) List.mem_cons_self (fun p h => List.mem_cons_of_mem _ (List.mem_append_left _ (List.mem_append_left _ h))) (fun p h => List.mem_cons_of_mem _ (List.mem_append_left _ (List.mem_append_right _ h))) (by with_unfolding_all rfl) (by with_unfolding_all rfl) (fs3c h0 (by with_reducible assumption) (by with_reducible assumption))
    · show InvEndN g' L' _ _ _ _ _; exact fm_end hs hne (by first | with_reducible assumption | assumption) (by first | with_reducible assumption | assumption) List.mem_cons_self (fun p h => List.mem_cons_of_mem _ (List.mem_append_left _ h)) (fun p h => List.mem_cons_of_mem _ (List.mem_append_right _ h)) (by with_unfolding_all rfl) (by with_unfolding_all rfl) (fs3d h0 (by with_reducible assumption) (by with_reducible assumption))
    · show InvEndN g' L' _ _ _ _ _; exact fm_end hs hne (by first | with_reducible assumption | assumption) (by first | with_reducible assumption | assumption) List.mem_cons_self (fun p h => List.mem_cons_of_mem _ (List.mem_append_left _ (List.mem_append_left _ h))) (fun p h => List.mem_cons_of_mem _ (List.mem_append_left _ (List.mem_append_right _ h))) (by with_unfolding_all rfl) (by with_unfolding_all rfl) (fs4y h0 (by with_reducible assumption))
    · show InvEndN g' L' _ _ _ _ _; exact fm_end hs hne (by first | with_reducible assumption | assumption) (by first | with_reducible assumption | assumption) List.mem_cons_self (fun p h => List.mem_cons_of_mem _ (List.mem_append_left _ h)) (fun p h => List.mem_cons_of_mem _ (List.mem_append_right _ h)) (by with_unfolding_all rfl) (by with_unfolding_all rfl) (fs4n h0 (by with_reducible assumption))
    · show InvEndN g' L' _ _ _ _ _; exact fm_end hs hne (by first | with_reducible assumption | assumption) (by first | with_reducible assumption | assumption) List.mem_cons_self (fun p h => List.mem_cons_of_mem _ (List.mem_append_left _ (List.mem_append_left _ h))) (fun p h => List.mem_cons_of_mem _ (List.mem_append_left _ (List.mem_append_right _ h))) (by with_unfolding_all rfl) (by with_unfolding_all rfl) (fs5y h0 (by with_reducible assumption))
    · show InvEndN g' L' _ _ _ _ _; exact fm_end hs hne (by first | with_reducible assumption | assumption) (by first | with_reducible assumption | assumption) List.mem_cons_self (fun p h => List.mem_cons_of_mem _ (List.mem_append_left _ h)) (fun p h => List.mem_cons_of_mem _ (List.mem_append_right _ h)) (by with_unfolding_all rfl) (by with_unfolding_all rfl) (fs5n h0 (by with_reducible assumption))
    · show InvEndN g' L' _ _ _ _ _; exact fm_end hs hne (by first | with_reducible assumption | assumption) (by first | with_reducible assumption | assumption) List.mem_cons_self (fun p h => List.mem_cons_of_mem _ (List.mem_append_left _ (List.mem_append_left _ h))) (fun p h => List.mem_cons_of_mem _ (List.mem_append_left _ (List.mem_append_right _ h))) (by with_unfolding_all rfl) (by with_unfolding_all rfl) (fs6a h0 (by with_reducible assumption))
    · show InvEndN g' L' _ _ _ _ _; exact fm_end hs hne (by first | with_reducible assumption | assumption) (by first | with_reducible assumption | assumption) List.mem_cons_self (fun p h => List.mem_cons_of_mem _ (List.mem_append_left _ (List.mem_append_left _ h))) (fun p h => List.mem_cons_of_mem _ (List.mem_append_left _ (List.mem_append_right _ h))) (by with_unfolding_all rfl) (by with_unfolding_all rfl) (fs6b h0 (by with_reducible assumption) (by with_reducible assumption))
    · show InvEndN g' L' _ _ _ _ _; exact fm_end hs hne (by first | with_reducible assumption | assumption) (by first | with_reducible assumption | assumption) List.mem_cons_self (fun p h => List.mem_cons_of_mem _ (List.mem_append_left _ (List.mem_append_left _ h))) (fun p h => List.mem_cons_of_mem _ (List.mem_append_left _ (List.mem_append_right _ h))) (by with_unfolding_all rfl) (by with_unfolding_all rfl) (fs6c h0 (by with_reducible assumption) (by with_reducible assumption))
    · show InvEndN g' L' _ _ _ _ _; exact fm_end hs hne (by first | with_reducible assumption | assumption) (by first | with_reducible assumption | assumption) List.mem_cons_self (fun p h => List.mem_cons_of_mem _ (List.mem_append_left _ h)) (fun p h => List.mem_cons_of_mem _ (List.mem_append_right _ h)) (by with_unfolding_all rfl) (by with_unfolding_all rfl) (fs6d h0 (by with_reducible assumption) (by with_reducible assumption))
    · show InvEndN g' L' _ _ _ _ _; exact fm_end hs hne (by first | with_reducible assumption | assumption) (by first | with_reducible assumption | assumption) List.mem_cons_self (fun p h => List.mem_cons_of_mem _ (List.mem_append_left _ (List.mem_append_left _ h))) (fun p h => List.mem_cons_of_mem _ (List.mem_append_left _ (List.mem_append_right _ h))) (by with_unfolding_all rfl) (by with_unfolding_all rfl) (fs7y h0 (by with_reducible assumption))
    · show InvEndN g' L' _ _ _ _ _; exact fm_end hs hne (by first | with_reducible assumption | assumption) (by first | with_reducible assumption | assumption) List.mem_cons_self (fun p h => List.mem_cons_of_mem _ (List.mem_append_left _ h)) (fun p h => List.mem_cons_of_mem _ (List.mem_append_right _ h)) (by with_unfolding_all rfl) (by with_unfolding_all rfl) (fs7n h0 (by with_reducible assumption))
    · show InvEndN g' L' _ _ _ _ _; exact fm_end hs hne (by first | with_reducible assumption | assumption) (by first | with_reducible assumption | assumption) List.mem_cons_self (fun p h => List.mem_cons_of_mem _ (List.mem_append_left _ (List.mem_append_left _ h))) (fun p h => List.mem_cons_of_mem _ (List.mem_append_left _ (List.mem_append_right _ h))) (by with_unfolding_all rfl) (by with_unfolding_all rfl) (fs8y h0 (by with_reducible assumption))
    · show InvEndN g' L' _ _ _ _ _; exact fm_end hs hne (by first | with_reducible assumption | assumption) (by first | with_reducible assumption | assumption) List.mem_cons_self (fun p h => List.mem_cons_of_mem _ (List.mem_append_left _ h)) (fun p h => List.mem_cons_of_mem _ (List.mem_append_right _ h)) (by with_unfolding_all rfl) (by with_unfolding_all rfl) (fs8n h0 (by with_reducible assumption))
    · show InvEndN g' L' _ _ _ _ _; exact fm_end hs hne (by first | with_reducible assumption | assumption) (by first | with_reducible assumption | assumption) List.mem_cons_self (fun p h => List.mem_cons_of_mem _ (List.mem_append_left _ (List.mem_append_left _ h))) (fun p h => List.mem_cons_of_mem _ (List.mem_append_left _ (List.mem_append_right _ h))) (by with_unfolding_all rfl) (by with_unfolding_all rfl) (fs9a h0 (by with_reducible assumption))
    · show InvEndN g' L' _ _ _ _ _; exact fm_end hs hne (by first | with_reducible assumption | assumption) (by first | with_reducible assumption | assumption) List.mem_cons_self (fun p h => List.mem_cons_of_mem _ (List.mem_append_left _ (List.mem_append_left _ h))) (fun p h => List.mem_cons_of_mem _ (List.mem_append_left _ (List.mem_append_right _ h))) (by with_unfolding_all rfl) (by with_unfolding_all rfl) (fs9b h0 (by with_reducible assumption) (by with_reducible assumption))
    · show InvEndN g' L' _ _ _ _ _; exact fm_end hs hne (by first | with_reducible assumption | assumption) (by first | with_reducible assumption | assumption) List.mem_cons_self (fun p h => List.mem_cons_of_mem _ (List.mem_append_left _ (List.mem_append_left _ h))) (fun p h => List.mem_cons_of_mem _ (List.mem_append_left _ (List.mem_append_right _ h))) (by with_unfolding_all rfl) (by with_unfolding_all rfl) (fs9c h0 (by with_reducible assumption) (by with_reducible assumption))
    · show InvEndN g' L' _ _ _ _ _; exact fm_end hs hne (by first | with_reducible assumption | assumption) (by first | with_reducible assumption | assumption) List.mem_cons_self (fun p h => List.mem_cons_of_mem _ (List.mem_append_left _ h)) (fun p h => List.mem_cons_of_mem _ (List.mem_append_right _ h)) (by with_unfolding_all rfl) (by with_unfolding_all rfl) (fs9d h0 (by with_reducible assumption) (by with_reducible assumption))
    · exact absurd hx (by simp)
  · intro m₁ nx h tk hJ F1 N1
    obtain ⟨perm, vs, n, hm1, hm2, rfl, hne, hs⟩ := hJ
    have F2 := fr_two F1 hm1 hm2
    change News g' L' _ _ at N1
    change Fr g' L' _ _ at F2
    clear F1 lF lN
    dsimp only
    k_steps
    all_goals exact cb_retS hret (join_signs x) (by k_asm) (cb_drop (by assumption) (fun _ h => List.mem_cons_of_mem _ h))
end Mine
namespace Mine
/-! the things stay well made -/
theorem wf_set {sts : List St} {k : Nat} {st : St} (h : Wf sts) (hx : OkM st.x) (ha : st.ab = -2 ∨ st.ab = -1 ∨ (0 ≤ st.ab ∧ st.ab < (k : Int))) : Wf (sts.set k st) := by
  intro j s e
  by_cases q : k = j
  · subst q
    have hlt : k < sts.length := by
      have := List.length_set (as := sts) (i := k) (a := st)
      rw [← this]; exact (List.getElem?_eq_some_iff.mp e).1
    rw [List.getElem?_set_self hlt] at e
    cases e
    exact ⟨hx, ha⟩
  · rw [List.getElem?_set_ne q] at e
    exact h j s e
theorem wf_app {sts : List St} {st : St} (h : Wf sts) (hx : OkM st.x) (ha : 0 ≤ st.ab ∧ st.ab < (sts.length : Int)) : Wf (sts ++ [st]) := by
  intro j s e
  by_cases q : j < sts.length
  · rw [List.getElem?_append_left q] at e
    exact h j s e
  · rw [List.getElem?_append_right (by omega)] at e
    have h0 : j - sts.length = 0 := by
      have := (List.getElem?_eq_some_iff.mp e).1
      simp at this; omega
    rw [h0] at e
    cases e
    exact ⟨hx, Or.inr (Or.inr (by omega))⟩
theorem okm_rights {x r : Int} (h : OkM x) (hr : 0 ≤ r ∧ r < 4096) : OkM (x - x % 4096 + r) := by unfold OkM at *; omega
theorem bitAnd_le {a b : Int} (ha : 0 ≤ a) (hb : 0 ≤ b) : 0 ≤ Builtin.bitAnd a b ∧ Builtin.bitAnd a b ≤ a := by
  obtain ⟨n, rfl⟩ := Int.eq_ofNat_of_zero_le ha
  obtain ⟨m, rfl⟩ := Int.eq_ofNat_of_zero_le hb
  rw [and_nat]
  have : n &&& m ≤ n := Nat.and_le_left
  omega
theorem deedOf_lo (n : Int) : 0 ≤ deedOf n := by
  unfold deedOf
  have : ∀ j : Nat, 0 ≤ [(0 : Int), 1, 2, 3, 4, 5, 0, 1, 2, 5].getD j 0 := by
    intro j
    rcases j with _ | _ | _ | _ | _ | _ | _ | _ | _ | _ | j <;> simp [List.getD]
  exact this _
theorem maskOf_lo (u : Int) : 0 ≤ maskOf u := by
  unfold maskOf
  have : ∀ j : Nat, 0 ≤ [(493 : Int), 488, 509, 448].getD j 0 := by
    intro j
    rcases j with _ | _ | _ | _ | j <;> simp [List.getD]
  exact this _
theorem act_wf {sts : List St} {d u k r : Int} {st : St} (h : Wf sts) (hd : 0 ≤ d) (hk : 0 ≤ k ∧ k < (sts.length : Int)) (hr : 0 ≤ r ∧ r < 4096) (e : sts[k.toNat]? = some st) :
    Wf (act sts d u k r st).2 ∧ sts.length ≤ (act sts d u k r st).2.length ∧ (act sts d u k r st).2.length ≤ sts.length + 1 := by
  obtain ⟨ox, oa⟩ := h _ _ e
  have tk : (k.toNat : Int) = k := Int.toNat_of_nonneg hk.1
  unfold act
  split
  · exact ⟨h, Nat.le_refl _, Nat.le_succ _⟩
  split
  · split
    · exact ⟨h, Nat.le_refl _, Nat.le_succ _⟩
    · rename_i h2 _
      refine ⟨wf_app h ?_ hk, ?_, ?_⟩
      · have m := bitAnd_le (a := r % 512) (b := maskOf u) (by omega) (maskOf_lo u)
        show OkM ((if d = 0 then 16384 else 32768) + (Builtin.bitAnd (r % 512) (maskOf u) + if bt st.x 10 = true then 1024 * (1 - d) else 0))
        generalize Builtin.bitAnd (r % 512) (maskOf u) = z at *
        unfold OkM
        split <;> split <;> omega
      · simp
      · simp
  split
  · split
    · exact ⟨h, Nat.le_refl _, Nat.le_succ _⟩
    · refine ⟨wf_set h ?_ ?_, by simp, by simp⟩
      · show OkM (if _ then _ else _)
        split
        · exact OkM.unmk (Or.inl rfl) (okm_rights ox hr)
        · exact okm_rights ox hr
      · exact oa
  split
  · split
    · exact ⟨h, Nat.le_refl _, Nat.le_succ _⟩
    · refine ⟨wf_set h ?_ oa, by simp, by simp⟩
      show OkM (if _ then _ else if _ then _ else _)
      split
      · exact ox
      · split
        · exact OkM.unmk (Or.inl rfl) (OkM.unmk (Or.inr rfl) ox)
        · exact OkM.unmk (Or.inr rfl) ox
  split
  · split
    · exact ⟨h, Nat.le_refl _, Nat.le_succ _⟩
    · split
      · exact ⟨h, Nat.le_refl _, Nat.le_succ _⟩
      · split
        · exact ⟨h, Nat.le_refl _, Nat.le_succ _⟩
        · split
          · exact ⟨h, Nat.le_refl _, Nat.le_succ _⟩
          · exact ⟨wf_set h ox (Or.inl rfl), by simp, by simp⟩
  split
  · exact ⟨h, Nat.le_refl _, Nat.le_succ _⟩
  · exact ⟨h, Nat.le_refl _, Nat.le_succ _⟩
theorem deed_wf {sts : List St} {n : Int} (h : Wf sts) (hp : 0 < sts.length) : Wf (deedP sts n).2 ∧ sts.length ≤ (deedP sts n).2.length ∧ (deedP sts n).2.length ≤ sts.length + 1 := by
  unfold deedP
  split
  · exact ⟨h, Nat.le_refl _, Nat.le_succ _⟩
  · rename_i st e
    exact act_wf h (deedOf_lo n) ⟨Int.emod_nonneg _ (by omega), Int.emod_lt_of_pos _ (by omega)⟩ ⟨Int.emod_nonneg _ (by decide), Int.emod_lt_of_pos _ (by decide)⟩ e
end Mine
namespace Mine
/-! what a run tells -/
def thD (st : St) : Dat := .list [.int st.ab, .int st.ow, .int st.gr, .str (signs st.x)]
def rowD (q : Dat × List St) : Dat := .list [q.1, .list (q.2.map thD)]
def runP : List St → List Int → List Dat
  | _, [] => []
  | sts, n :: r => rowD (deedP sts n) :: runP (deedP sts n).2 r
def endP : List St → List Int → List St
  | sts, [] => sts
  | sts, n :: r => endP (deedP sts n).2 r
theorem runP_snoc (sts : List St) (ns : List Int) (n : Int) : runP sts (ns ++ [n]) = runP sts ns ++ [rowD (deedP (endP sts ns) n)] := by
  induction ns generalizing sts with
  | nil => rfl
  | cons m r ih => show _ :: runP _ (r ++ [n]) = _ :: (_ ++ _); rw [ih]; rfl
theorem endP_snoc (sts : List St) (ns : List Int) (n : Int) : endP sts (ns ++ [n]) = (deedP (endP sts ns) n).2 := by
  induction ns generalizing sts with
  | nil => rfl
  | cons m r ih => exact ih _
theorem endP_wf {sts : List St} (ns : List Int) (h : Wf sts) (hp : 0 < sts.length) : Wf (endP sts ns) ∧ 0 < (endP sts ns).length ∧ (endP sts ns).length ≤ sts.length + ns.length := by
  induction ns generalizing sts with
  | nil => exact ⟨h, hp, by simp [endP]⟩
  | cons m r ih =>
    have w := deed_wf (n := m) h hp
    have q := ih w.1 (Nat.lt_of_lt_of_le hp w.2.1)
    refine ⟨q.1, q.2.1, ?_⟩
    show (endP (deedP sts m).2 r).length ≤ _
    have := q.2.2
    simp only [List.length_cons]
    omega
theorem ch_ok (b : Bool) {c : Nat} (h : c < 1114112) : ch b c < 1114112 := by cases b; exact (by decide : 45 < 1114112); exact h
theorem ex_ok (b s : Bool) {c d : Nat} (h : c < 1114112) (h' : d < 1114112) : ex b s c d < 1114112 := by cases b <;> cases s <;> first | exact (by decide : 45 < 1114112) | exact (by decide : 120 < 1114112) | exact h | exact h'
theorem str_ok (x : Int) : PyData.strOk (signs x) = true := by
  unfold PyData.strOk signs signsA
  have h14 : (if bt x 14 = true then 100 else 45) < 1114112 := by split <;> decide
  simp only [List.all_toArray, List.all_cons, List.all_nil, Bool.and_true, Bool.and_eq_true, decide_eq_true_eq]
  exact ⟨h14, ch_ok _ (by decide), ch_ok _ (by decide), ex_ok _ _ (by decide) (by decide), ch_ok _ (by decide), ch_ok _ (by decide), ex_ok _ _ (by decide) (by decide), ch_ok _ (by decide), ch_ok _ (by decide), ex_ok _ _ (by decide) (by decide)⟩
theorem thD_ok (st : St) : kqdOk 3 (thD st) = true := by simp [thD, kqdOk, str_ok]
theorem act_ok (sts : List St) (d u k r : Int) (st : St) : kqdOk 3 (act sts d u k r st).1 = true := by
  have n1 : kqdOk 3 no = true := by decide +kernel
  have n2 : kqdOk 3 (.str (Str.ofString "made")) = true := by decide +kernel
  have n3 : kqdOk 3 (.str (Str.ofString "set")) = true := by decide +kernel
  have n4 : kqdOk 3 (.str (Str.ofString "given")) = true := by decide +kernel
  have n5 : kqdOk 3 (.str (Str.ofString "gone")) = true := by decide +kernel
  unfold act
  repeat' split
  all_goals first | exact n1 | exact n2 | exact n3 | exact n4 | exact n5 | simp [kqdOk]
theorem deed_ok (sts : List St) (n : Int) : kqdOk 3 (deedP sts n).1 = true := by
  unfold deedP
  split
  · exact (by decide +kernel : kqdOk 3 no = true)
  · exact act_ok ..
theorem kqdOk_up : ∀ (n : Nat) (d : Dat), kqdOk n d = true → kqdOk (n + 1) d = true := by
  intro n
  induction n with
  | zero => intro d h; cases d <;> simp_all [kqdOk]
  | succ n ih =>
    intro d h
    cases d with
    | tuple ds => simp only [kqdOk, List.all_eq_true] at h ⊢; exact fun x hx => ih x (h x hx)
    | list ds => simp only [kqdOk, List.all_eq_true] at h ⊢; exact fun x hx => ih x (h x hx)
    | _ => simp_all [kqdOk]
theorem row_ok (sts : List St) (n : Int) : kqdOk 8 (rowD (deedP sts n)) = true := by
  have h : kqdOk 5 (rowD (deedP sts n)) = true := by
    simp only [rowD, kqdOk, List.all_cons, List.all_nil, Bool.and_true, Bool.and_eq_true, List.all_eq_true, List.mem_map]
    refine ⟨kqdOk_up _ _ (deed_ok sts n), ?_⟩
    rintro d ⟨st, _, rfl⟩
    exact thD_ok st
  exact kqdOk_up _ _ (kqdOk_up _ _ (kqdOk_up _ _ h))
theorem run_ok (sts : List St) (ns : List Int) : ∀ d ∈ runP sts ns, kqdOk 8 d = true := by
  induction ns generalizing sts with
  | nil => intro d h; exact absurd h List.not_mem_nil
  | cons n r ih =>
    intro d h
    rcases List.mem_cons.mp h with rfl | h
    · exact row_ok sts n
    · exact ih _ d h
end Mine
namespace Mine
/-! for x in (a list of the ledger), by what holds between the turns; the ledger may grow -/
def NumPost (h₀ : Heap) (L I : Addr) (oI : Obj) (J : (Str → Option Value) → Led → Prop) (Q : Flow → Shared → Prop) (s : Shared) (f : Flow) (s₂ : Shared) : Prop :=
  match f with
  | .ret v => Q (.ret v) s₂
  | .brk => Q .next s₂
  | _ => ∃ (h' : Heap) (tk' : Nat) (m' : Str → Option Value) (nx : Led), s₂ = { s with heap := h', toks := tk' } ∧ Fr h₀ L h' m' ∧ News h₀ L h' ((I, oI) :: nx) ∧ (∀ p ∈ nx, p.1 ≠ I) ∧ J m' nx
section
variable {prog : Program} {w : World} {A : Around} {E : Value → Shared → Prop} {s : Shared} {h₀ : Heap} {env : Env}
theorem for_nums {x : Str} {px : Pos} {body : List Stmt} {Q : Flow → Shared → Prop} {l : Addr} {vs : List Value} {k : Nat} {news : Led} {m₀ : Str → Option Value} (J : Nat → (Str → Option Value) → Led → Prop)
    (hh : A.handled = none) (hx : env.kindOf x = some .local) (hp : (env.scope.kind == .class || (env.scope.kind == .module && env.locals != env.globals)) = false)
    (F : Fr h₀ env.locals s.heap m₀) (N : News h₀ env.locals s.heap news) (h0 : J 0 m₀ news) (hl : ∀ i m nx, J i m nx → (l, listOf vs.toArray k) ∈ nx)
    (turn : ∀ i v m₁ nx I oI h tk, oI.cls = .type "list_iterator" → vs[i]? = some v → J i m₁ nx → (∀ p ∈ nx, p.1 ≠ I) → Fr h₀ env.locals h (fun y => if y = x then some v else m₁ y) → News h₀ env.locals h ((I, oI) :: nx) →
      wpAny (model prog w) A (execs body env) (NumPost h₀ env.locals I oI (J (i + 1)) Q { s with heap := h, toks := tk }) E { s with heap := h, toks := tk })
    (done : ∀ m₁ nx h tk, J vs.length m₁ nx → Fr h₀ env.locals h m₁ → News h₀ env.locals h nx → Q .next { s with heap := h, toks := tk })
    (hE : PassesOwn (model prog w) A env E) :
    wpAny (model prog w) A (pyIter (.ref l)) (fun it s₂ => codeAny (model prog w) A (.forLoop (.Name x px) it body [] env) (fun r s' => match r with | .ok f => Q f s' | .error e => cameBackBy (model prog w) A env E e s') s₂) E s := by
  have hLs : env.locals < s.heap.objs.size := F.ns.lt
  have hI₀ : h₀.get? s.heap.objs.size = none := ktu_new F (Nat.le_refl _)
  have hIL : s.heap.objs.size ≠ env.locals := Nat.ne_of_gt hLs
  have hls : s.heap.IsList l vs.toArray := News.isList N (hl _ _ _ h0)
  refine wpAny_pyIter_list hls ?_
  generalize hI : s.heap.objs.size = I at *
  refine codeAny_forLoop_any (fun n s' => ∃ (h' : Heap) (tk : Nat) (m' : Str → Option Value) (nx : Led) (i : Nat), s' = { s with heap := h', toks := tk } ∧ h'.IsListIter I l i ∧ Fr h₀ env.locals h' m' ∧ News h₀ env.locals h' nx ∧ (∀ p ∈ nx, p.1 ≠ I) ∧
      J i m' nx ∧ i ≤ vs.length ∧ n = vs.length + 1 - i) ?_ (vs.length + 1)
    ⟨_, s.toks, m₀, news, 0, rfl, ⟨_, hI ▸ Heap.get?_push_size _ rfl, rfl, rfl⟩, F.push _, fun p hp => ⟨Heap.get?_push_of_some _ (N p hp).1, (N p hp).2⟩, fun p hp => Nat.ne_of_lt (hI ▸ Heap.lt_size (N p hp).1), h0, Nat.zero_le _, rfl⟩
  rintro n s' ⟨h', tk, m', nx, i, rfl, hit, F', N', off, hJ, hle, rfl⟩
  have hl' : h'.IsList l vs.toArray := News.isList N' (hl _ _ _ hJ)
  by_cases hlt : i < vs.length
  · have hx' : vs.toArray[i]? = some vs[i] := by simp [hlt]
    refine wpAny_pyNext_list_item hit hl' hx' fun h₁ hit₁ hs₁ => ?_
    replace hs₁ : Heap.SameBut I h' h₁ := hs₁
    have F₁ : Fr h₀ env.locals h₁ m' := F'.change hs₁ hIL hI₀
    have N₁ : News h₀ env.locals h₁ nx := fun p hp => ⟨hs₁.extBut _ _ (off p hp) (N' p hp).1, (N' p hp).2⟩
    refine wpAny_pure ?_
    refine wpAny_assign_Name (wpAny_storeName_local hx F₁.ns (fun h₂ hn₂ hs₂ => ?_) hp)
    replace hs₂ : Heap.SameBut env.locals h₁ h₂ := hs₂
    have F₂ := F₁.set hn₂ hs₂
    obtain ⟨oI, hoI, hcI, hdI⟩ := hit₁
    have hoI₂ : h₂.get? I = some oI := hs₂.extBut _ _ hIL hoI
    have N₂ : News h₀ env.locals h₂ ((I, oI) :: nx) := fun p hp => by
      rcases List.mem_cons.mp hp with rfl | q
      · exact ⟨hoI₂, hIL, hI₀⟩
      · exact ⟨hs₂.extBut _ _ (N' p q).2.1 (N₁ p q).1, (N' p q).2⟩
    refine wpAny_passesOwn hE (wpAny_mono (turn i vs[i] m' nx I oI h₂ _ hcI (by simp [hlt]) hJ off F₂ N₂) (fun f s₃ q => ?_) fun _ _ e => e)
    have fin : (∃ (h' : Heap) (tk' : Nat) (m' : Str → Option Value) (nx : Led), s₃ = { s with heap := h', toks := tk' } ∧ Fr h₀ env.locals h' m' ∧ News h₀ env.locals h' ((I, oI) :: nx) ∧ (∀ p ∈ nx, p.1 ≠ I) ∧ J (i + 1) m' nx) →
        ∃ m, m < vs.length + 1 - i ∧ ∃ (h' : Heap) (tk : Nat) (m' : Str → Option Value) (nx : Led) (i : Nat), s₃ = { s with heap := h', toks := tk } ∧ h'.IsListIter I l i ∧ Fr h₀ env.locals h' m' ∧ News h₀ env.locals h' nx ∧ (∀ p ∈ nx, p.1 ≠ I) ∧ J i m' nx ∧ i ≤ vs.length ∧ m = vs.length + 1 - i := by
      rintro ⟨h₄, tk₄, m₄, nx₄, rfl, F₄, N₄, off₄, J₄⟩
      exact ⟨vs.length + 1 - (i + 1), by omega, h₄, tk₄, m₄, nx₄, i + 1, rfl, ⟨oI, (N₄ _ List.mem_cons_self).1, hcI, hdI⟩, F₄, fun p hp => N₄ p (List.mem_cons_of_mem _ hp), off₄, J₄, hlt, rfl⟩
    cases f with
    | ret v => exact q
    | brk => exact q
    | next => exact fin q
    | cont => exact fin q
  · have hin : i = vs.length := by omega
    subst hin
    refine wpAny_pyNext_list_end hh hit hl' (by simp) fun h₁ hs₁ => ?_
    have F₁ : Fr h₀ env.locals h₁ m' := ⟨F'.ns.at' fun o e => hs₁ _ o (Ne.symm hIL) e, fun c o e => hs₁ c o (fun q => by rw [q, hI₀] at e; cases e) (F'.keep c o e), F'.above⟩
    have N₁ : News h₀ env.locals h₁ nx := fun p hp => ⟨hs₁ _ _ (off p hp) (N' p hp).1, (N' p hp).2⟩
    exact wpAny_execs_nil (done _ _ _ _ hJ F₁ N₁)
end
end Mine
namespace Mine
/-! [elt for x1, x2, x3, x4 in (a list of the ledger that bears lists of four)], by what holds between the turns; the ledger may grow -/
section
variable {prog : Program} {w : World} {A : Around} {E : Value → Shared → Prop} {s : Shared} {h₀ : Heap} {env : Env} {m : Str → Option Value}
theorem comp_four {elt : Expr} {y x1 x2 x3 x4 : Str} {py p1 p2 p3 p4 tp : Pos} {kt : Nat} {scope : Scope} {cl : List (Str × Addr)} {pos : Pos} {Q : Value → Shared → Prop} {l : Addr} {vs : List Value} {k : Nat} {news : Led}
    (J : Nat → List Value → Led → Prop)
    (hclos : closureFor scope env = pure cl) (hcell : ∀ z ∈ scope.names, z.2 ≠ .cell) (hkind : scope.kind = .function) (hnames : ∀ z ∈ scope.names, z.2 = .local → scope.names.lookup z.1 = some .local)
    (hx1 : scope.names.lookup x1 = some .local) (hx2 : scope.names.lookup x2 = some .local) (hx3 : scope.names.lookup x3 = some .local) (hx4 : scope.names.lookup x4 = some .local)
    (d12 : x1 ≠ x2) (d13 : x1 ≠ x3) (d14 : x1 ≠ x4) (d23 : x2 ≠ x3) (d24 : x2 ≠ x4) (d34 : x3 ≠ x4)
    (hk : env.scope.kind = .function) (hyl : env.kindOf y = some .local) (hyd : (y == ("__debug__" : Str)) = false) (hy : m y = some (.ref l))
    (hh : A.handled = none) (F : Fr h₀ env.locals s.heap m) (N : News h₀ env.locals s.heap news) (hsz : vs.length ≤ sizeLine) (h0 : J 0 [] news)
    (hl : ∀ i ys nw, J i ys nw → (l, listOf vs.toArray k) ∈ nw)
    (hit : ∀ i ys nw, J i ys nw → i < vs.length → ∃ a n v1 v2 v3 v4, vs[i]? = some (.ref a) ∧ (a, listOf #[v1, v2, v3, v4] n) ∈ nw ∧
      ∀ I oI C oC D m₂ h tk (E' : Value → Shared → Prop), LCg.NsObj oC m₂ → m₂ x1 = some v1 → m₂ x2 = some v2 → m₂ x3 = some v3 → m₂ x4 = some v4 →
        Fr h₀ env.locals h m → News h₀ env.locals h ((I, oI) :: (C, oC) :: (D, LCg.lst ys) :: nw) → LCg.Off3 I C D nw → ((@Ne Nat I C) ∧ (@Ne Nat I D) ∧ (@Ne Nat C D)) →
        wpAny (model prog w) A (eval elt (compEnvC scope cl C env)) (LCg.CompEnd h₀ env.locals m { s with heap := h, toks := tk } I oI C oC D (LCg.lst ys) (fun _ => True) (fun z nw' => J (i + 1) (ys ++ [z]) nw')) E' { s with heap := h, toks := tk })
    (fin : ∀ ys nw D h tk, J vs.length ys nw → Fr h₀ env.locals h m → News h₀ env.locals h ((D, LCg.lst ys) :: nw) → LCg.Off1 D nw → Q (.ref D) { s with heap := h, toks := tk })
    (hs : ∀ x, foldedSetIterable (.Name y py) env x = pure x := by intro _; rfl) :
    wpAny (model prog w) A (eval (.ListComp elt [⟨.Tuple [.Name x1 p1, .Name x2 p2, .Name x3 p3, .Name x4 p4] kt tp, .Name y py, [], 0⟩] scope pos) env) Q E s := by
  rw [eval_ListComp]
  refine wpAny_comprehension_free (use := none) rfl hs hclos hkind hnames (wpAny_Name (wpAny_loadName_local hk hyl F.ns hy ?_) hyd)
  have hls : s.heap.IsList l vs.toArray := News.isList N (hl _ _ _ h0)
  have hLs : env.locals < s.heap.objs.size := F.ns.lt
  have hlI : l ≠ s.heap.objs.size := by obtain ⟨_, e, _⟩ := hls; exact Nat.ne_of_lt (Heap.lt_size e)
  refine wpAny_pyIter_list hls ?_
  have hI₀ : h₀.get? s.heap.objs.size = none := ktu_new F (Nat.le_refl _)
  have hD₀ : h₀.get? (s.heap.objs.size + 1) = none := ktu_new F (Nat.le_succ _)
  have hC₀ : h₀.get? (s.heap.objs.size + 1 + 1) = none := ktu_new F (Nat.le_trans (Nat.le_succ _) (Nat.le_succ _))
  have offN : ∀ p ∈ news, p.1 < s.heap.objs.size := fun p hp => Heap.lt_size (N p hp).1
  refine wpAny_newObj_type (wpAny_newFunctionEnv hcell (by intro z hz; simp at hz) (fun h₁ hns₁ hsb₁ => ?_) hkind)
  dsimp only at hns₁ hsb₁ ⊢
  simp only [Heap.size_push] at hns₁ hsb₁ ⊢
  generalize hI : s.heap.objs.size = I at *
  have hIL : I ≠ env.locals := Nat.ne_of_gt hLs
  have hDL : I + 1 ≠ env.locals := Nat.ne_of_gt (Nat.lt_succ_of_lt hLs)
  have hCL : I + 1 + 1 ≠ env.locals := Nat.ne_of_gt (Nat.lt_succ_of_lt (Nat.lt_succ_of_lt hLs))
  have hIC : I ≠ I + 1 + 1 := Nat.ne_of_lt (Nat.lt_succ_of_lt (Nat.lt_succ_self _))
  have hID : I ≠ I + 1 := Nat.ne_of_lt (Nat.lt_succ_self _)
  have hDC : I + 1 ≠ I + 1 + 1 := Nat.ne_of_lt (Nat.lt_succ_self _)
  have old : ∀ b o, s.heap.get? b = some o → h₁.get? b = some o := fun b o e => by
    have lt : b < I := hI ▸ Heap.lt_size e
    exact hsb₁.extBut b o (Nat.ne_of_lt (Nat.lt_succ_of_lt (Nat.lt_succ_of_lt lt))) (Heap.get?_push_of_some _ (Heap.get?_push_of_some _ (Heap.get?_push_of_some _ e)))
  have pI : ∀ (o : Obj), o.isFreed = false → (s.heap.push o).get? I = some o := fun o ho => hI ▸ Heap.get?_push_size _ ho
  have pD : ∀ (o o' : Obj), o'.isFreed = false → ((s.heap.push o).push o').get? (I + 1) = some o' := fun o o' ho => by
    have := Heap.get?_push_size (s.heap.push o) ho
    rwa [Heap.size_push, hI] at this
  have itI : h₁.IsListIter I l 0 := ⟨_, hsb₁.extBut _ _ hIC (Heap.get?_push_of_some _ (Heap.get?_push_of_some _ (pI _ rfl))), rfl, rfl⟩
  have itD : h₁.get? (I + 1) = some (LCg.lst []) := hsb₁.extBut _ _ hDC (Heap.get?_push_of_some _ (pD _ _ rfl))
  have loop : ∀ tk, codeAny (model prog w) A (.compLoop (.ListComp elt [⟨.Tuple [.Name x1 p1, .Name x2 p2, .Name x3 p3, .Name x4 p4] kt tp, .Name y py, [], 0⟩] scope pos) 0 (.ref I) (.ref (I + 1)) (compEnvC scope cl (I + 1 + 1) env))
        (compPost (model prog w) A E none Q (.ref (I + 1)) (I + 1 + 1)) { s with heap := h₁, toks := tk } := by
    intro tk
    refine LCp.codeAny_compLoop_pair
      (fun n s' => ∃ (h' : Heap) (tk : Nat) (i : Nat) (ys : List Value) (m' : Str → Option Value) (nw : Led), s' = { s with heap := h', toks := tk } ∧ i ≤ vs.length ∧ n = vs.length + 1 - i ∧ ys.length = i ∧ h'.IsListIter I l i ∧ Fr h₀ env.locals h' m ∧ h'.Ns (I + 1 + 1) m' ∧
        News h₀ env.locals h' ((I + 1, LCg.lst ys) :: nw) ∧ LCg.Off3 I (I + 1 + 1) (I + 1) nw ∧ J i ys nw) ?_ (vs.length + 1)
      ⟨h₁, tk, 0, [], _, news, rfl, Nat.zero_le _, rfl, rfl, itI, F.keeps old, hns₁, ?_, ?_, h0⟩
    · rintro n s' ⟨h', tk, i, ys, m', nw, rfl, hi, rfl, hyl', hit', F', hn', N', off', hJ⟩
      have off3 := off'.mem
      have hl' : h'.IsList l vs.toArray := News.isList N' (List.mem_cons_of_mem _ (hl _ _ _ hJ))
      by_cases hlt : i < vs.length
      · obtain ⟨a, na, v1, v2, v3, v4, ev, hma, turn⟩ := hit i ys nw hJ hlt
        have hx' : vs.toArray[i]? = some (.ref a) := by simpa using ev
        refine wpAny_pyNext_list_item hit' hl' hx' fun h₂ hit₂ hs₂ => ?_
        replace hs₂ : Heap.SameBut I h' h₂ := hs₂
        have F₂ : Fr h₀ env.locals h₂ m := F'.change hs₂ hIL hI₀
        have N₂ : News h₀ env.locals h₂ ((I + 1, LCg.lst ys) :: nw) := fun p hp => by
          refine ⟨hs₂.extBut _ _ ?_ (N' p hp).1, (N' p hp).2⟩
          rcases List.mem_cons.mp hp with rfl | hp
          · exact Ne.symm hID
          · exact (off3 p hp).1
        obtain ⟨oI, hoI, hcI, hdI⟩ := hit₂
        obtain ⟨oC, hoC, hNC⟩ := LCg.ns_obj (hn'.sameBut hs₂ (Ne.symm hIC))
        have M₂ : News h₀ env.locals h₂ ((I, oI) :: (I + 1 + 1, oC) :: (I + 1, LCg.lst ys) :: nw) := fun p hp => by
          rcases List.mem_cons.mp hp with rfl | hp
          · exact ⟨hoI, hIL, hI₀⟩
          · rcases List.mem_cons.mp hp with rfl | hp
            · exact ⟨hoC, hCL, hC₀⟩
            · exact N₂ p hp
        refine wpAny_letOwnedTupleGo_listiter (l := l) (i := i + 1) ⟨oI, hoI, hcI, hdI⟩ ?_
        refine kun_list F₂ M₂ (News.isList N₂ (List.mem_cons_of_mem _ hma)) hh rfl rfl fun h₃ F₃ N₃ => ?_
        have hn₃ : h₃.Ns (I + 1 + 1) m' := hNC.ns (N₃ _ (List.mem_cons_of_mem _ List.mem_cons_self)).1
        have kC : ((compEnvC scope cl (I + 1 + 1) env).scope.kind == .class || ((compEnvC scope cl (I + 1 + 1) env).scope.kind == .module && (compEnvC scope cl (I + 1 + 1) env).locals != (compEnvC scope cl (I + 1 + 1) env).globals)) = false := by simp [compEnvC, relabel, hkind]
        refine assignInOrder_cons (wpAny_assign_Name (wpAny_storeName_local (lookup_relabel_local hx1) hn₃ (fun h₄ hn₄ hs₄ => ?_) kC))
        refine assignInOrder_cons (wpAny_assign_Name (wpAny_storeName_local (lookup_relabel_local hx2) hn₄ (fun h₅ hn₅ hs₅ => ?_) kC))
        refine assignInOrder_cons (wpAny_assign_Name (wpAny_storeName_local (lookup_relabel_local hx3) hn₅ (fun h₆ hn₆ hs₆ => ?_) kC))
        refine assignInOrder_cons (wpAny_assign_Name (wpAny_storeName_local (lookup_relabel_local hx4) hn₆ (fun h₇ hn₇ hs₇ => ?_) kC))
        refine assignInOrder_nil ?_
        have keep7 : ∀ c o, c ≠ I + 1 + 1 → h₃.get? c = some o → h₇.get? c = some o := fun c o hc e => hs₇.extBut c o hc (hs₆.extBut c o hc (hs₅.extBut c o hc (hs₄.extBut c o hc e)))
        have F₇ : Fr h₀ env.locals h₇ m := (((F₃.change hs₄ hCL hC₀).change hs₅ hCL hC₀).change hs₆ hCL hC₀).change hs₇ hCL hC₀
        obtain ⟨oC', hoC', hNC'⟩ := LCg.ns_obj hn₇
        have N₇ : News h₀ env.locals h₇ ((I, oI) :: (I + 1 + 1, oC') :: (I + 1, LCg.lst ys) :: nw) := fun p hp => by
          rcases List.mem_cons.mp hp with rfl | hp
          · exact ⟨keep7 _ _ hIC (N₃ _ List.mem_cons_self).1, hIL, hI₀⟩
          · rcases List.mem_cons.mp hp with rfl | hp
            · exact ⟨hoC', hCL, hC₀⟩
            · have z := N₃ p (List.mem_cons_of_mem _ (List.mem_cons_of_mem _ hp))
              refine ⟨keep7 _ _ ?_ z.1, z.2⟩
              rcases List.mem_cons.mp hp with rfl | hp
              · exact hDC
              · exact (off3 p hp).2.1
        refine wpAny_mono (turn I oI (I + 1 + 1) oC' (I + 1) _ h₇ _ _ hNC' ?_ ?_ ?_ ?_ F₇ N₇ off' ⟨hIC, hID, Ne.symm hDC⟩) (fun z s₄ q => ?_) fun _ _ e => e
        · simp [d12, d13, d14]
        · simp [d23, d24]
        · simp [d34]
        · simp
        obtain ⟨h₈, tk₈, nw₈, rfl, F₈, N₈, off₈, _, J₈⟩ := q
        have zI := (N₈ (I, oI) List.mem_cons_self).1
        have zC := (N₈ (I + 1 + 1, oC') (List.mem_cons_of_mem _ List.mem_cons_self)).1
        have zD := (N₈ (I + 1, LCg.lst ys) (List.mem_cons_of_mem _ (List.mem_cons_of_mem _ List.mem_cons_self))).1
        have off4 := off₈.mem
        refine append_at (hsz := by show ys.toArray.size ≤ sizeLine; rw [List.size_toArray, hyl']; exact Nat.le_trans hi hsz) zD fun h₉ hs₉ hD₉ => ?_
        refine ⟨vs.length + 1 - (i + 1), by omega, h₉, tk₈, i + 1, ys ++ [z], _, nw₈, rfl, hlt, rfl, by rw [List.length_append, List.length_singleton, hyl'], ⟨oI, hs₉.extBut _ _ hID zI, hcI, hdI⟩, F₈.change hs₉ hDL hD₀,
          (hNC'.ns zC).sameBut hs₉ (Ne.symm hDC), fun p hp => ?_, off₈, J₈⟩
        rcases List.mem_cons.mp hp with rfl | hp
        · exact ⟨hD₉.trans (congrArg some (LCg.lst_snoc ys z)), hDL, hD₀⟩
        · have z8 := N₈ p (List.mem_cons_of_mem _ (List.mem_cons_of_mem _ (List.mem_cons_of_mem _ hp)))
          exact ⟨hs₉.extBut _ _ (off4 p hp).2.2 z8.1, z8.2⟩
      · have hin : i = vs.length := by omega
        subst hin
        refine wpAny_pyNext_list_end hh hit' hl' (by simp) fun h₂ hs₂ => ?_
        have F₂ : Fr h₀ env.locals h₂ m := ⟨F'.ns.at' fun o e => hs₂ _ o (Ne.symm hIL) e, fun c o e => hs₂ c o (fun q => by rw [q, hI₀] at e; cases e) (F'.keep c o e), F'.above⟩
        have N₂ : News h₀ env.locals h₂ ((I + 1, LCg.lst ys) :: nw) := fun p hp => by
          refine ⟨hs₂ _ _ ?_ (N' p hp).1, (N' p hp).2⟩
          rcases List.mem_cons.mp hp with rfl | hp
          · exact Ne.symm hID
          · exact (off3 p hp).1
        refine ⟨m', hn'.at' fun o e => hs₂ _ o (Ne.symm hIC) e, fun h₃ hs₃ => fin ys nw (I + 1) h₃ _ hJ (F₂.change hs₃ hCL hC₀) (fun p hp => ?_) off'.one⟩
        refine ⟨hs₃.extBut _ _ ?_ (N₂ p hp).1, (N₂ p hp).2⟩
        rcases List.mem_cons.mp hp with rfl | hp
        · exact hDC
        · exact (off3 p hp).2.1
    · intro p hp
      rcases List.mem_cons.mp hp with rfl | hp
      · exact ⟨itD, hDL, hD₀⟩
      · exact ⟨old _ _ (N p hp).1, (N p hp).2⟩
    · refine LCg.Off3.of fun p hp => ?_
      have lt := offN p hp
      exact ⟨Nat.ne_of_lt lt, Nat.ne_of_lt (Nat.lt_succ_of_lt (Nat.lt_succ_of_lt lt)), Nat.ne_of_lt (Nat.lt_succ_of_lt lt)⟩
  exact codeAny_compStart_list (loop _) ((Walks.list hh I l hlI vs.toArray).self 0 _ _ _ ⟨itI, hls.at fun o e => old _ o e⟩ (loop _))
end
end Mine
namespace Mine
/-! ledgers: what a run holds between the turns -/
theorem ThIn.drop {hand : Int} {l l' : Led} {v : Value} {st : St} (h : ThIn hand l v st) (hs : ∀ a n tA tO tG tx, (a, listOf #[.int st.ab tA, .int st.ow tO, .int st.gr tG, xV hand st.x tx] n) ∈ l → (a, listOf #[.int st.ab tA, .int st.ow tO, .int st.gr tG, xV hand st.x tx] n) ∈ l') : ThIn hand l' v st := by
  obtain ⟨a, n, tA, tO, tG, tx, e, hm⟩ := h
  exact ⟨a, n, tA, tO, tG, tx, e, hs _ _ _ _ _ _ hm⟩
theorem list_inj {a b : List Value} {n k : Nat} (h : listOf a.toArray n = listOf b.toArray k) : a = b := by
  have h' := congrArg Obj.data h
  simp only [W.listOf, Data.seq.injEq] at h'
  exact List.toArray_inj h'.1
/-- told's items are lists -/
def Lists (ds : List Dat) : Prop := ∀ d ∈ ds, ∃ es, d = .list es
theorem lists_head {r : Led} {i : Int} {t : Tok} {vs : List Value} {ds : List Dat} (A : DatAll r (.int i t :: vs) ds) (h : Lists ds) : False := by
  cases A with
  | cons hd _ =>
    obtain ⟨es, e⟩ := h _ List.mem_cons_self
    subst e
    cases hd
theorem run_lists (sts : List St) (ns : List Int) : Lists (runP sts ns) := by
  induction ns generalizing sts with
  | nil => intro d h; exact absurd h List.not_mem_nil
  | cons n r ih =>
    intro d h
    rcases List.mem_cons.mp h with rfl | h
    · exact ⟨_, rfl⟩
    · exact ih _ d h
theorem iter_ne {oI : Obj} {a : Array Value} {n : Nat} (h : oI.cls = .type "list_iterator") : listOf a n ≠ oI := by
  intro e
  rw [← e] at h
  simp [W.listOf] at h
section
variable {r add : Led} {I tR : Addr} {oI : Obj} {vsR : List Value} {nR : Nat} {ds : List Dat} (A : DatAll r vsR ds) (hds : Lists ds) (cI : oI.cls = .type "list_iterator")
include A hds cI
theorem drop_mem {a : Addr} {i : Int} {t : Tok} {vs : List Value} {n : Nat} (h : (a, listOf (Value.int i t :: vs).toArray n) ∈ add ++ (I, oI) :: (tR, listOf vsR.toArray nR) :: r) : (a, listOf (Value.int i t :: vs).toArray n) ∈ add ++ r := by
  rcases List.mem_append.mp h with h | h
  · exact List.mem_append_left _ h
  rcases List.mem_cons.mp h with h | h
  · exact absurd (Prod.mk.inj h).2 (iter_ne cI)
  rcases List.mem_cons.mp h with h | h
  · have e := list_inj (Prod.mk.inj h).2
    exact (lists_head (e ▸ A) hds).elim
  · exact List.mem_append_right _ h
theorem ths_drop {hand : Int} {vs : List Value} {sts : List St} (D : ThsIn hand (add ++ (I, oI) :: (tR, listOf vsR.toArray nR) :: r) vs sts) : ThsIn hand (add ++ r) vs sts :=
  ⟨D.1, fun k st e => let ⟨v, e', t⟩ := D.2 k st e; ⟨v, e', t.drop fun _ _ _ _ _ _ hm => drop_mem A hds cI hm⟩⟩
theorem dat_drop {v : Value} {d : Dat} (hd : (∃ x, d = .str x) ∨ ∃ p q, d = .list [.int p, .int q]) (D : DatIn (add ++ (I, oI) :: (tR, listOf vsR.toArray nR) :: r) v d) : DatIn (add ++ r) v d := by
  rcases hd with ⟨x, rfl⟩ | ⟨p, q, rfl⟩
  · cases D with
    | str x t => exact .str x t
  · cases D with
    | list hm B =>
      cases B with
      | cons h1 B =>
        cases h1 with
        | int i t =>
          cases B with
          | cons h2 B =>
            cases h2 with
            | int j u =>
              cases B
              exact .list (drop_mem A hds cI hm) (.cons (.int _ _) (.cons (.int _ _) .nil))
end
def Shape (d : Dat) : Prop := (∃ x, d = .str x) ∨ ∃ p q, d = .list [.int p, .int q]
theorem act_shape (sts : List St) (d u k r : Int) (st : St) : Shape (act sts d u k r st).1 := by
  unfold act
  repeat' split
  all_goals first | exact Or.inl ⟨_, rfl⟩ | exact Or.inr ⟨_, _, rfl⟩
theorem deed_shape (sts : List St) (n : Int) : Shape (deedP sts n).1 := by
  unfold deedP
  split
  · exact Or.inl ⟨_, rfl⟩
  · exact act_shape ..
/-- the things as they stand first -/
def sts0 : List St := [⟨-1, 0, 0, 17407⟩, ⟨0, 2, 1, 35305⟩, ⟨0, 1, 1, 17912⟩]
theorem wf0 : Wf sts0 := by
  intro k st e
  rcases k with _ | _ | _ | k
  · simp [sts0] at e; subst e; exact ⟨by unfold OkM; decide, Or.inr (Or.inl rfl)⟩
  · simp [sts0] at e; subst e; exact ⟨by unfold OkM; decide, Or.inr (Or.inr ⟨by decide, by decide⟩)⟩
  · simp [sts0] at e; subst e; exact ⟨by unfold OkM; decide, Or.inr (Or.inr ⟨by decide, by decide⟩)⟩
  · simp [sts0] at e
def RunJ (hand : Int) (base : Led) (ns : List Int) (i : Nat) (m : Str → Option Value) (nx : Led) : Prop :=
  ∃ (tT tR : Addr) (vsT vsR : List Value) (nT nR : Nat) (r : Led), m (Str.ofString "things") = some (.ref tT) ∧ m (Str.ofString "told") = some (.ref tR) ∧ nx = (tT, listOf vsT.toArray nT) :: (tR, listOf vsR.toArray nR) :: r ∧
    (∀ p ∈ base, p ∈ r) ∧ ThsIn hand r vsT (endP sts0 (ns.take i)) ∧ DatAll r vsR (runP sts0 (ns.take i)) ∧ tT ≠ tR ∧ (∀ p ∈ r, p.1 ≠ tT) ∧ (∀ p ∈ r, p.1 ≠ tR)
def RunPost (news : Led) (ns : List Int) (n' : Led) (v : Value) : Prop :=
  ∃ (tR : Addr) (vsR : List Value) (nR : Nat) (r : Led), v = .ref tR ∧ n' = (tR, listOf vsR.toArray nR) :: r ∧ (∀ p ∈ news, p ∈ r) ∧ DatAll r vsR (runP sts0 ns)
theorem take_next {ns : List Int} {i : Nat} {n : Int} (e : ns[i]? = some n) : ns.take (i + 1) = ns.take i ++ [n] := by rw [List.take_add_one, e]; rfl
theorem end_next {ns : List Int} {i : Nat} {n : Int} (e : ns[i]? = some n) : endP sts0 (ns.take (i + 1)) = (deedP (endP sts0 (ns.take i)) n).2 := by rw [take_next e, endP_snoc]
theorem run_next {ns : List Int} {i : Nat} {n : Int} (e : ns[i]? = some n) : runP sts0 (ns.take (i + 1)) = runP sts0 (ns.take i) ++ [rowD (deedP (endP sts0 (ns.take i)) n)] := by rw [take_next e, runP_snoc]
theorem end_wf {ns : List Int} (i : Nat) (h : ns.length ≤ 20) : Wf (endP sts0 (ns.take i)) ∧ 0 < (endP sts0 (ns.take i)).length ∧ (endP sts0 (ns.take i)).length < 50 := by
  have q := endP_wf (sts := sts0) (ns.take i) wf0 (by decide)
  refine ⟨q.1, q.2.1, ?_⟩
  have := q.2.2
  have l : (ns.take i).length ≤ ns.length := by rw [List.length_take]; omega
  have l0 : sts0.length = 3 := rfl
  omega
end Mine
namespace Mine
section
variable {w : World} {hand : Int} {r : Led} {I tT tR : Addr} {oI : Obj} {vs vsR : List Value} {nn nR : Nat} {sts : List St} {ds : List Dat} {t1 t2 : Tok} {n : Int} {mean : ExcName → Option Value} {mg mb : Str → Option Value} {dp un : Nat} {gd : Option (List Code)} {cn : Str} {cs : Scope} {a : Addr} {ccd : Value} {cl : List (Str × Addr)} {outer : List Env} {A₀ : Around} {base h₀ : Heap} {L : Addr} {m : Str → Option Value} {s : Shared} {Q E : Value → Shared → Prop}
/-- a deed, done in the midst of a run -/
theorem deed_use (D : ThsIn hand r vs sts) (A : DatAll r vsR ds) (cI : oI.cls = .type "list_iterator") (hds : Lists ds) (hh : hand = 0 ∨ hand = 1) (hW : Wf sts) (hl : sts.length < 50) (hp : 0 < sts.length) (hn : 0 ≤ n)
    (off : ∀ p ∈ r, p.1 ≠ I ∧ p.1 ≠ tT ∧ p.1 ≠ tR) (ne : tT ≠ tR) (neI : tT ≠ I)
    (N : News h₀ L s.heap ((I, oI) :: (tT, listOf vs.toArray nn) :: (tR, listOf vsR.toArray nR) :: r))
    (B : Below A₀ base outer h₀) (F : Fr h₀ L s.heap m) (X : (hd.heap_39 w.params).In h₀) (T : Top hd.view_39 Lo mean mg mb h₀) (hk : cs.kind = .function)
    (hd : dp + 12 < recursionLimit) (hu : un + 8 * 12 + 100 < cLine)
    (ret : ∀ (v : Value) (vs' : List Value) (nn' : Nat) (r' : Led) (h' : Heap) (tk' : Nat), (∀ p ∈ r, p ∈ r') → ThsIn hand r' vs' (deedP sts n).2 → DatIn r' v (deedP sts n).1 → (∀ p ∈ r', p.1 ≠ I ∧ p.1 ≠ tT ∧ p.1 ≠ tR) →
      Fr h₀ L h' m → News h₀ L h' ((I, oI) :: (tT, listOf vs'.toArray nn') :: (tR, listOf vsR.toArray nR) :: r') → Q v { s with heap := h', toks := tk' }) :
    wpAny (model PySem.Challenge.rw_mj0336_01.row.prog w) (ktrTop dp un gd cn cs L a ccd cl outer) (call (.ref 141) [.int hand t1, .ref tT, .int n t2]) Q E s := by
  refine Tell.use (t_deed w hand hh ((I, oI) :: (tR, listOf vsR.toArray nR) :: r) tT vs nn sts t1 t2 ?_ (D.mono fun _ h => List.mem_cons_of_mem _ (List.mem_cons_of_mem _ h)) hW hl hp n hn) B F X (fun p hp => ?_) T hk hd hu ?_
  · intro p hp
    rcases List.mem_cons.mp hp with rfl | hp
    · exact Ne.symm neI
    rcases List.mem_cons.mp hp with rfl | hp
    · exact Ne.symm ne
    exact (off p hp).2.1
  · rcases List.mem_cons.mp hp with rfl | hp
    · exact N _ (List.mem_cons_of_mem _ List.mem_cons_self)
    rcases List.mem_cons.mp hp with rfl | hp
    · exact N _ List.mem_cons_self
    rcases List.mem_cons.mp hp with rfl | hp
    · exact N _ (List.mem_cons_of_mem _ (List.mem_cons_of_mem _ List.mem_cons_self))
    exact N _ (List.mem_cons_of_mem _ (List.mem_cons_of_mem _ (List.mem_cons_of_mem _ hp)))
  · rintro v news' h' tk' ⟨add, vs', nn', rfl, hadd, D', A'⟩ F' N'
    refine ret v vs' nn' (add ++ r) h' tk' (fun p hp => List.mem_append_right _ hp) (ths_drop A hds cI D') (dat_drop A hds cI (deed_shape sts n) A') (fun p hp => ?_) F' (fun p hp => ?_)
    · rcases List.mem_append.mp hp with hp | hp
      · obtain ⟨h1, h2⟩ := hadd p hp
        exact ⟨Nat.ne_of_gt (h2 _ List.mem_cons_self), Nat.ne_of_gt h1, Nat.ne_of_gt (h2 _ (List.mem_cons_of_mem _ List.mem_cons_self))⟩
      · exact off p hp
    · rcases List.mem_cons.mp hp with rfl | hp
      · exact N' _ (List.mem_cons_of_mem _ (List.mem_append_right _ List.mem_cons_self))
      rcases List.mem_cons.mp hp with rfl | hp
      · exact N' _ List.mem_cons_self
      rcases List.mem_cons.mp hp with rfl | hp
      · exact N' _ (List.mem_cons_of_mem _ (List.mem_append_right _ (List.mem_cons_of_mem _ List.mem_cons_self)))
      rcases List.mem_append.mp hp with hp | hp
      · exact N' _ (List.mem_cons_of_mem _ (List.mem_append_left _ hp))
      · exact N' _ (List.mem_cons_of_mem _ (List.mem_append_right _ (List.mem_cons_of_mem _ (List.mem_cons_of_mem _ hp))))
end
section
variable {prog : Program} {w : World} {A : Around} {E : Value → Shared → Prop} {s : Shared} {h₀ : Heap} {env : Env} {m : Str → Option Value}
theorem off1_mem {D : Addr} : ∀ {l : Led}, LCg.Off1 D l → ∀ p ∈ l, p.1 ≠ D
  | [], _, _, h => nomatch h
  | _ :: _, x, p, h => by
    rcases List.mem_cons.mp h with rfl | h
    · exact x.1
    · exact off1_mem x.2 p h
/-- the rows of the things, told -/
theorem rows_comp {elt : Expr} {y x1 x2 x3 x4 : Str} {py p1 p2 p3 p4 tp : Pos} {kt : Nat} {scope : Scope} {cl : List (Str × Addr)} {pos : Pos} {Q : Value → Shared → Prop} {hand : Int} {r : Led} {I tT tR : Addr} {oI oR : Obj} {vs : List Value} {nn : Nat} {sts : List St}
    (D : ThsIn hand r vs sts) (hW : Wf sts) (hl : sts.length < 100) (off : ∀ p ∈ r, p.1 ≠ I ∧ p.1 ≠ tT ∧ p.1 ≠ tR)
    (hclos : closureFor scope env = pure cl) (hcell : ∀ z ∈ scope.names, z.2 ≠ .cell) (hkind : scope.kind = .function) (hnames : ∀ z ∈ scope.names, z.2 = .local → scope.names.lookup z.1 = some .local)
    (hx1 : scope.names.lookup x1 = some .local) (hx2 : scope.names.lookup x2 = some .local) (hx3 : scope.names.lookup x3 = some .local) (hx4 : scope.names.lookup x4 = some .local)
    (d12 : x1 ≠ x2) (d13 : x1 ≠ x3) (d14 : x1 ≠ x4) (d23 : x2 ≠ x3) (d24 : x2 ≠ x4) (d34 : x3 ≠ x4)
    (hk : env.scope.kind = .function) (hyl : env.kindOf y = some .local) (hyd : (y == ("__debug__" : Str)) = false) (hy : m y = some (.ref tT))
    (hh : A.handled = none) (F : Fr h₀ env.locals s.heap m) (N : News h₀ env.locals s.heap ((I, oI) :: (tT, listOf vs.toArray nn) :: (tR, oR) :: r))
    (turn : ∀ (st : St) (tA tO tG tx : Tok) (nw : Led) (ys : List Value) I₂ oI₂ C oC D₂ m₂ h tk (E' : Value → Shared → Prop), OkM st.x → (∀ p ∈ r, p ∈ nw) → LCg.NsObj oC m₂ → m₂ x1 = some (.int st.ab tA) → m₂ x2 = some (.int st.ow tO) → m₂ x3 = some (.int st.gr tG) → m₂ x4 = some (xV hand st.x tx) →
        Fr h₀ env.locals h m → News h₀ env.locals h ((I₂, oI₂) :: (C, oC) :: (D₂, LCg.lst ys) :: nw) → LCg.Off3 I₂ C D₂ nw → ((@Ne Nat I₂ C) ∧ (@Ne Nat I₂ D₂) ∧ (@Ne Nat C D₂)) →
        wpAny (model prog w) A (eval elt (compEnvC scope cl C env)) (LCg.CompEnd h₀ env.locals m { s with heap := h, toks := tk } I₂ oI₂ C oC D₂ (LCg.lst ys) (fun _ => True)
          (fun z nw' => ∃ (b : Addr) (n : Nat) (tA tO tG tx : Tok), z = .ref b ∧ nw' = (b, listOf #[.int st.ab tA, .int st.ow tO, .int st.gr tG, .str (signs st.x) tx] n) :: nw ∧ ∀ p ∈ nw, p.1 ≠ b)) E' { s with heap := h, toks := tk })
    (fin : ∀ D₂ r' h tk, (∀ p ∈ r, p ∈ r') → DatIn r' (.ref D₂) (.list (sts.map thD)) → (∀ p ∈ r', p.1 ≠ I ∧ p.1 ≠ tT ∧ p.1 ≠ tR) → Fr h₀ env.locals h m → News h₀ env.locals h ((I, oI) :: (tT, listOf vs.toArray nn) :: (tR, oR) :: r') → Q (.ref D₂) { s with heap := h, toks := tk })
    (hs : ∀ x, foldedSetIterable (.Name y py) env x = pure x := by intro _; rfl) :
    wpAny (model prog w) A (eval (.ListComp elt [⟨.Tuple [.Name x1 p1, .Name x2 p2, .Name x3 p3, .Name x4 p4] kt tp, .Name y py, [], 0⟩] scope pos) env) Q E s := by
  refine comp_four (l := tT) (vs := vs) (k := nn) (fun i ys nw => ∃ add : Led, nw = add ++ ((I, oI) :: (tT, listOf vs.toArray nn) :: (tR, oR) :: r) ∧ (∀ p ∈ add, p.1 ≠ I ∧ p.1 ≠ tT ∧ p.1 ≠ tR) ∧ DatAll add ys ((sts.take i).map thD)) hclos hcell hkind hnames hx1 hx2 hx3 hx4 d12 d13 d14 d23 d24 d34 hk hyl hyd hy hh F N
    (by rw [D.1, sizeLine_eq]; omega) ⟨[], rfl, fun p h => absurd h List.not_mem_nil, .nil⟩ ?_ ?_ ?_ hs
  · rintro i ys nw ⟨add, rfl, _⟩
    exact List.mem_append_right _ (List.mem_cons_of_mem _ List.mem_cons_self)
  · rintro i ys nw ⟨add, rfl, ha, hA⟩ hi
    have hi' : i < sts.length := by rw [← D.1]; exact hi
    have es : sts[i]? = some sts[i] := by simp [hi']
    obtain ⟨v, ev, a, n, tA, tO, tG, tx, rfl, hm⟩ := D.2 i sts[i] es
    refine ⟨a, n, _, _, _, _, ev, List.mem_append_right _ (List.mem_cons_of_mem _ (List.mem_cons_of_mem _ (List.mem_cons_of_mem _ hm))), ?_⟩
    intro I₂ oI₂ C oC D₂ m₂ h tk E' hC h1 h2 h3 h4 F' N' off' ne'
    refine wpAny_mono (turn sts[i] tA tO tG tx _ ys I₂ oI₂ C oC D₂ m₂ h tk E' (hW _ _ es).1 (fun p hp => List.mem_append_right _ (List.mem_cons_of_mem _ (List.mem_cons_of_mem _ (List.mem_cons_of_mem _ hp)))) hC h1 h2 h3 h4 F' N' off' ne') (fun z s₂ q => compEnd_mono (fun n' q' => ?_) q) fun _ _ q => q
    obtain ⟨b, n', uA, uO, uG, ux, rfl, rfl, hb⟩ := q'
    refine ⟨(b, listOf #[.int sts[i].ab uA, .int sts[i].ow uO, .int sts[i].gr uG, .str (signs sts[i].x) ux] n') :: add, rfl, fun p hp => ?_, ?_⟩
    · rcases List.mem_cons.mp hp with rfl | hp
      · exact ⟨Ne.symm (hb _ (List.mem_append_right _ List.mem_cons_self)), Ne.symm (hb _ (List.mem_append_right _ (List.mem_cons_of_mem _ List.mem_cons_self))), Ne.symm (hb _ (List.mem_append_right _ (List.mem_cons_of_mem _ (List.mem_cons_of_mem _ List.mem_cons_self))))⟩
      · exact ha p hp
    · rw [List.take_add_one, es]
      simp only [Option.toList_some, List.map_append, List.map_cons, List.map_nil]
      exact (hA.mono fun _ h => List.mem_cons_of_mem _ h).append (DatAll.one (.list (vs := [.int sts[i].ab uA, .int sts[i].ow uO, .int sts[i].gr uG, .str (signs sts[i].x) ux]) List.mem_cons_self (.cons (.int _ _) (.cons (.int _ _) (.cons (.int _ _) (.cons (.str _ _) .nil))))))
  · rintro ys nw D₂ h tk ⟨add, rfl, ha, hA⟩ F' N' o1
    have hlen : sts.take vs.length = sts := by rw [D.1, List.take_length]
    rw [hlen] at hA
    have o1' : ∀ p ∈ add ++ ((I, oI) :: (tT, listOf vs.toArray nn) :: (tR, oR) :: r), p.1 ≠ D₂ := off1_mem o1
    refine fin D₂ ((D₂, LCg.lst ys) :: (add ++ r)) h tk (fun p hp => List.mem_cons_of_mem _ (List.mem_append_right _ hp)) (.list (vs := ys) List.mem_cons_self (hA.mono fun p hp => List.mem_cons_of_mem _ (List.mem_append_left _ hp))) (fun p hp => ?_) F' (fun p hp => ?_)
    · rcases List.mem_cons.mp hp with rfl | hp
      · exact ⟨Ne.symm (o1' _ (List.mem_append_right _ List.mem_cons_self)), Ne.symm (o1' _ (List.mem_append_right _ (List.mem_cons_of_mem _ List.mem_cons_self))), Ne.symm (o1' _ (List.mem_append_right _ (List.mem_cons_of_mem _ (List.mem_cons_of_mem _ List.mem_cons_self))))⟩
      · rcases List.mem_append.mp hp with hp | hp
        · exact ha p hp
        · exact off p hp
    · have up : ∀ q ∈ ((I, oI) :: (tT, listOf vs.toArray nn) :: (tR, oR) :: r), News h₀ env.locals h [q] := fun q hq p hp => by rw [List.mem_singleton.mp hp]; exact N' _ (List.mem_cons_of_mem _ (List.mem_append_right _ hq))
      rcases List.mem_cons.mp hp with rfl | hp
      · exact up _ List.mem_cons_self _ List.mem_cons_self
      rcases List.mem_cons.mp hp with rfl | hp
      · exact up _ (List.mem_cons_of_mem _ List.mem_cons_self) _ List.mem_cons_self
      rcases List.mem_cons.mp hp with rfl | hp
      · exact up _ (List.mem_cons_of_mem _ (List.mem_cons_of_mem _ List.mem_cons_self)) _ List.mem_cons_self
      rcases List.mem_cons.mp hp with rfl | hp
      · exact N' _ List.mem_cons_self
      rcases List.mem_append.mp hp with hp | hp
      · exact N' _ (List.mem_cons_of_mem _ (List.mem_append_left _ hp))
      · exact up _ (List.mem_cons_of_mem _ (List.mem_cons_of_mem _ (List.mem_cons_of_mem _ hp))) _ List.mem_cons_self
end
end Mine
namespace Mine

local macro_rules | `(tactic| walk_at $s:str) => `(tactic| k_extra $s)

theorem ints_at {vs : List Value} {ns : List Int} (h : IntsAre vs ns) : ∀ (i : Nat) (v : Value), vs[i]? = some v → ∃ n t, v = .int n t ∧ ns[i]? = some n := by
  induction h with
  | nil => intro i v e; simp at e
  | cons n t _ ih =>
    intro i v e
    cases i with
    | zero => simp at e; exact ⟨n, t, e.symm, rfl⟩
    | succ i => exact ih i v (by simpa using e)
theorem fr_run {h₀ h : Heap} {L : Addr} {m : Str → Option Value} {a b c : Str} {v u x : Value} (F : Fr h₀ L h (fun y => if y = c then some x else m y)) (h1 : m a = some v) (h2 : m b = some u) : Fr h₀ L h (fun y => if y = c then some x else if y = a then some v else if y = b then some u else m y) := by
  have e : (fun y => if y = c then some x else if y = a then some v else if y = b then some u else m y) = (fun y => if y = c then some x else m y) := by
    funext y
    by_cases q0 : y = c
    · subst q0; simp
    by_cases q : y = a
    · subst q; simp [h1]
    · rw [if_neg q]
      by_cases q' : y = b
      · subst q'; simp [h2]
      · rw [if_neg q']
  rw [e]; exact F
section
variable {h₀ h : Heap} {L : Addr} {hand : Int} {news : Led}
theorem run_start {tR tT a b c C0 : Addr} {oC : Obj} {nR nT na nb nc : Nat} {u1 u2 u3 u4 u5 u6 u7 u8 u9 v1 v2 v3 : Tok} {m : Str → Option Value} {ns : List Int}
    (_F : Fr h₀ L h m) (N : News h₀ L h ((tR, listOf #[] nR) :: (tT, listOf #[.ref a, .ref b, .ref c] nT) :: (c, listOf #[.int 0 u1, .int 1 u2, .int 1 u3, xV hand 17912 v1] nc) :: (b, listOf #[.int 0 u4, .int 2 u5, .int 1 u6, xV hand 35305 v2] nb) :: (a, listOf #[.int (-1) u7, .int 0 u8, .int 0 u9, xV hand 17407 v3] na) :: (C0, oC) :: news))
    (l2 : c < tT ∧ b < tT ∧ a < tT ∧ C0 < tT ∧ AllLt tT news) (l1 : tT < tR ∧ c < tR ∧ b < tR ∧ a < tR ∧ C0 < tR ∧ AllLt tR news)
    (m1 : m (Str.ofString "things") = some (.ref tT)) (m2 : m (Str.ofString "told") = some (.ref tR)) :
    ∃ nx, RunJ hand ((C0, oC) :: news) ns 0 m nx ∧ News h₀ L h nx := by
  refine ⟨_, ⟨tT, tR, [.ref a, .ref b, .ref c], [], nT, nR, (c, listOf #[.int 0 u1, .int 1 u2, .int 1 u3, xV hand 17912 v1] nc) :: (b, listOf #[.int 0 u4, .int 2 u5, .int 1 u6, xV hand 35305 v2] nb) :: (a, listOf #[.int (-1) u7, .int 0 u8, .int 0 u9, xV hand 17407 v3] na) :: (C0, oC) :: news, m1, m2, rfl,
    fun p hp => List.mem_cons_of_mem _ (List.mem_cons_of_mem _ (List.mem_cons_of_mem _ hp)), ⟨rfl, fun k st e => ?_⟩, .nil, Nat.ne_of_lt l1.1, fun p hp => ?_, fun p hp => ?_⟩, fun p hp => ?_⟩
  · change sts0[k]? = some st at e
    rcases k with _ | _ | _ | k
    · simp [sts0] at e; subst e; exact ⟨_, rfl, a, na, u7, u8, u9, v3, rfl, List.mem_cons_of_mem _ (List.mem_cons_of_mem _ List.mem_cons_self)⟩
    · simp [sts0] at e; subst e; exact ⟨_, rfl, b, nb, u4, u5, u6, v2, rfl, List.mem_cons_of_mem _ List.mem_cons_self⟩
    · simp [sts0] at e; subst e; exact ⟨_, rfl, c, nc, u1, u2, u3, v1, rfl, List.mem_cons_self⟩
    · simp [sts0] at e
  · obtain ⟨q1, q2, q3, q4, q5⟩ := l2
    rcases List.mem_cons.mp hp with rfl | hp
    · exact Nat.ne_of_lt q1
    rcases List.mem_cons.mp hp with rfl | hp
    · exact Nat.ne_of_lt q2
    rcases List.mem_cons.mp hp with rfl | hp
    · exact Nat.ne_of_lt q3
    rcases List.mem_cons.mp hp with rfl | hp
    · exact Nat.ne_of_lt q4
    exact Nat.ne_of_lt (ktn_ltOf q5 p hp)
  · obtain ⟨_, q1, q2, q3, q4, q5⟩ := l1
    rcases List.mem_cons.mp hp with rfl | hp
    · exact Nat.ne_of_lt q1
    rcases List.mem_cons.mp hp with rfl | hp
    · exact Nat.ne_of_lt q2
    rcases List.mem_cons.mp hp with rfl | hp
    · exact Nat.ne_of_lt q3
    rcases List.mem_cons.mp hp with rfl | hp
    · exact Nat.ne_of_lt q4
    exact Nat.ne_of_lt (ktn_ltOf q5 p hp)
  · rcases List.mem_cons.mp hp with rfl | hp
    · exact N _ (List.mem_cons_of_mem _ List.mem_cons_self)
    rcases List.mem_cons.mp hp with rfl | hp
    · exact N _ List.mem_cons_self
    exact N _ (List.mem_cons_of_mem _ (List.mem_cons_of_mem _ hp))
theorem run_length (sts : List St) (ns : List Int) : (runP sts ns).length = ns.length := by
  induction ns generalizing sts with
  | nil => rfl
  | cons n r ih => show (_ :: runP _ r).length = _; rw [List.length_cons, ih, List.length_cons]
theorem row_end {I₂ C D₂ b : Addr} {oI₂ oC oD : Obj} {nw : Led} {n : Nat} {st : St} {tA tO tG tx : Tok} {m : Str → Option Value} {S : Shared} {h' : Heap} {tk : Nat} (off : LCg.Off3 I₂ C D₂ nw) (lt : I₂ < b ∧ C < b ∧ D₂ < b ∧ AllLt b nw)
    (F : Fr h₀ L h' m) (N : News h₀ L h' ((b, listOf #[.int st.ab tA, .int st.ow tO, .int st.gr tG, .str (signs st.x) tx] n) :: (I₂, oI₂) :: (C, oC) :: (D₂, oD) :: nw)) :
    LCg.CompEnd h₀ L m S I₂ oI₂ C oC D₂ oD (fun _ => True) (fun z nw' => ∃ (b : Addr) (n : Nat) (tA tO tG tx : Tok), z = .ref b ∧ nw' = (b, listOf #[.int st.ab tA, .int st.ow tO, .int st.gr tG, .str (signs st.x) tx] n) :: nw ∧ ∀ p ∈ nw, p.1 ≠ b) (.ref b) { S with heap := h', toks := tk } := by
  refine ⟨h', tk, _, rfl, F, fun p hp => ?_, ?_, trivial, b, n, tA, tO, tG, tx, rfl, rfl, fun p hp => Nat.ne_of_lt (ktn_ltOf lt.2.2.2 p hp)⟩
  · rcases List.mem_cons.mp hp with rfl | hp
    · exact N _ (List.mem_cons_of_mem _ List.mem_cons_self)
    rcases List.mem_cons.mp hp with rfl | hp
    · exact N _ (List.mem_cons_of_mem _ (List.mem_cons_of_mem _ List.mem_cons_self))
    rcases List.mem_cons.mp hp with rfl | hp
    · exact N _ (List.mem_cons_of_mem _ (List.mem_cons_of_mem _ (List.mem_cons_of_mem _ List.mem_cons_self)))
    rcases List.mem_cons.mp hp with rfl | hp
    · exact N _ List.mem_cons_self
    exact N _ (List.mem_cons_of_mem _ (List.mem_cons_of_mem _ (List.mem_cons_of_mem _ (List.mem_cons_of_mem _ hp))))
  · exact ⟨⟨Nat.ne_of_gt lt.1, Nat.ne_of_gt lt.2.1, Nat.ne_of_gt lt.2.2.1⟩, off⟩
theorem run_end {I tT tR b D₂ : Addr} {oI : Obj} {vsT vsR : List Value} {nT nR nb : Nat} {r base : Led} {ns : List Int} {i : Nat} {n : Int} {ans : Value} {m' : Str → Option Value} {S : Shared} {tk : Nat} {Q : Flow → Shared → Prop}
    (e : ns[i]? = some n) (sub : ∀ p ∈ base, p ∈ r) (D : ThsIn hand r vsT (deedP (endP sts0 (ns.take i)) n).2) (A : DatAll r vsR (runP sts0 (ns.take i))) (d1 : DatIn r ans (deedP (endP sts0 (ns.take i)) n).1) (d2 : DatIn r (.ref D₂) (.list ((deedP (endP sts0 (ns.take i)) n).2.map thD)))
    (off : ∀ p ∈ r, p.1 ≠ I ∧ p.1 ≠ tT ∧ p.1 ≠ tR) (ne : tT ≠ tR) (neT : tT ≠ I) (neR : tR ≠ I) (lt : I < b ∧ tT < b ∧ tR < b ∧ AllLt b r)
    (F : Fr h₀ L h m') (N : News h₀ L h ((b, listOf #[ans, .ref D₂] nb) :: (I, oI) :: (tT, listOf vsT.toArray nT) :: (tR, listOf (vsR.toArray.push (.ref b)) nR) :: r))
    (m1 : m' (Str.ofString "things") = some (.ref tT)) (m2 : m' (Str.ofString "told") = some (.ref tR)) :
    NumPost h₀ L I oI (RunJ hand base ns (i + 1)) Q S .next { S with heap := h, toks := tk } := by
  rw [List.push_toArray] at N
  refine ⟨h, tk, m', (tT, listOf vsT.toArray nT) :: (tR, listOf (vsR ++ [Value.ref b]).toArray nR) :: (b, listOf #[ans, .ref D₂] nb) :: r, rfl, F, fun p hp => ?_, fun p hp => ?_, tT, tR, vsT, _, nT, nR, _, m1, m2, rfl, fun p hp => List.mem_cons_of_mem _ (sub p hp), ?_, ?_, ne, fun p hp => ?_, fun p hp => ?_⟩
  · rcases List.mem_cons.mp hp with rfl | hp
    · exact N _ (List.mem_cons_of_mem _ List.mem_cons_self)
    rcases List.mem_cons.mp hp with rfl | hp
    · exact N _ (List.mem_cons_of_mem _ (List.mem_cons_of_mem _ List.mem_cons_self))
    rcases List.mem_cons.mp hp with rfl | hp
    · exact N _ (List.mem_cons_of_mem _ (List.mem_cons_of_mem _ (List.mem_cons_of_mem _ List.mem_cons_self)))
    rcases List.mem_cons.mp hp with rfl | hp
    · exact N _ List.mem_cons_self
    exact N _ (List.mem_cons_of_mem _ (List.mem_cons_of_mem _ (List.mem_cons_of_mem _ (List.mem_cons_of_mem _ hp))))
  · rcases List.mem_cons.mp hp with rfl | hp
    · exact neT
    rcases List.mem_cons.mp hp with rfl | hp
    · exact neR
    rcases List.mem_cons.mp hp with rfl | hp
    · exact Nat.ne_of_gt lt.1
    exact (off p hp).1
  · rw [end_next e]; exact D.mono fun _ h => List.mem_cons_of_mem _ h
  · rw [run_next e]
    refine (A.mono fun _ h => List.mem_cons_of_mem _ h).append (DatAll.one (.list (vs := [ans, .ref D₂]) List.mem_cons_self (.cons (d1.mono fun _ h => List.mem_cons_of_mem _ h) (.cons (d2.mono fun _ h => List.mem_cons_of_mem _ h) .nil))))
  · rcases List.mem_cons.mp hp with rfl | hp
    · exact Nat.ne_of_gt lt.2.1
    exact (off p hp).2.1
  · rcases List.mem_cons.mp hp with rfl | hp
    · exact Nat.ne_of_gt lt.2.2.1
    exact (off p hp).2.2
end
local macro_rules | `(tactic| kcj_all) => `(tactic| ((repeat first | (with_reducible exact fun _ h => h) | (with_reducible refine sub_cons ?_)); done))
local macro_rules | `(tactic| k_mem) => `(tactic| exact mem_in (by with_reducible assumption) (by kcj_all))
local macro_rules | `(tactic| k_mem) => `(tactic| ((repeat first | (with_reducible exact List.mem_cons_self) | (with_reducible refine List.mem_cons_of_mem _ ?_)); first | done | with_reducible assumption))
local macro_rules | `(tactic| k_all) => `(tactic| first | with_reducible assumption | exact all_ne (by with_reducible assumption) (by omega) | exact all_ne' (by with_reducible assumption) (by omega))

theorem t_run (w : World) (hand : Int) (hh : hand = 0 ∨ hand = 1) (news : Led) (l : Addr) (vs : List Value) (k : Nat) (ns : List Int) (iL : IntsAre vs ns) (hm : (l, listOf vs.toArray k) ∈ news) (hlen : ns.length ≤ 20) (hn : ∀ n ∈ ns, 0 ≤ n) (t1 : Tok) : Tell w 16 146 [.int hand t1, .ref l] news (RunPost news ns) := by
  k_with_none
  k_with "call ref" => ((k_here; (with_reducible show wpAny _ _ (call (Value.ref 96) _ _) _ _ _); k_dflt (refine' TellV.use (t_fresh _ _ (by assumption) _ _ _ _ (by decide)) ?k1 ?k2 ?k3 ?k4 ?k5 ?kK ?kd ?ku ?_; (case k1 => k_asm); (case k2 => k_asm); (case k3 => k_asm); (case k4 => k_asm); (case k5 => k_asm); (case kK => first | exact rfl | assumption); (case kd => first | exact room2 hdp 1 rfl (by decide) | ktr_room); (case ku => first | exact units2 hun 0 rfl (by decide) | ktr_units); k_whole; intro t9 h9 tk9 F9 N9; (try dsimp only); (try k_sweep); (try k_fold))))
  k_with "execs cons" => (((with_reducible refine wpAny_execs_cons ?_); try dsimp only))
  k_with "execs cons" => (((with_reducible show wpAny _ _ (execs (_ :: _) _) _ _ (Shared.mk _ _ _ (_ + 1 + 1) _)); (with_reducible refine gen_toks ?_); intro tk))
  k_with "call ref" => ((k_here; (with_reducible show wpAny _ _ (call (Value.ref 82) _ _) _ _ _); k_dflt (refine' TellV.use (t_filemode _ _ _ (by assumption)) ?k1 ?k2 ?k3 ?k4 ?k5 ?kK ?kd ?ku ?_; (case k1 => k_asm); (case k2 => k_asm); (case k3 => k_asm); (case k4 => k_asm); (case k5 => k_asm); (case kK => first | exact rfl | assumption); (case kd => first | exact room2 hdp 1 rfl (by decide) | ktr_room); (case ku => first | exact units2 hun 0 rfl (by decide) | ktr_units); k_whole; intro t9 h9 tk9 F9 N9; (try dsimp only); (try k_sweep); (try k_fold))))
  k_with "exec For Name Name cons nil" => (( (k_here; refine wpAny_For ?_ (by intro _; with_unfolding_all rfl))))
  k_with "pyIter ref" => (k_extra "myfor")
  k_with "eval ListComp List cons" => (first | k_extra "mycomp")
  k_with "call builtin:list.append cons nil" => (first | k_extra "myappend")
  k_with "CompEnd" => (first | k_extra "mycompend")
  k_with "call ref" => (((with_reducible show wpAny _ _ (call (Value.ref 141) _ _) _ _ _); k_extra "mydeed"))
  unfold Tell
  k_fill
  intro mean mg mb dp un gd cn cs a ccd cl outer A₀ base h₀ L m s Q E B F X N T hk hdp hun hret
  refine wpAny_call ?_
  k_dflt (refine' code_defC (binds := [(Str.ofString "hand", .int hand t1), (Str.ofString "numbers", .ref l)]) ?k1 ?k2 ?k3 ?k4 ?k5 ?kA ?kF ?kK ?k6 ?k7 ?k8 ?k9 ?kB ?kD ?_ ?c2 ?c3 ?c4; (case kA => exact rfl); (case kF => exact rfl); (case kK => assumption); (case k1 => k_asm); (case k2 => k_asm); (case k3 => k_asm); (case k4 => k_asm); (case k5 => k_asm); (case k6 => k_is); (case k7 => k_is); (case k8 => first | exact room1 hdp 0 rfl (by decide) | ktr_room); (case k9 => exact BindsTo.of_eq rfl); (case kB => exact rfl); (case kD => decide +kernel); (case c2 => exact rfl); (case c3 => exact rfl); (case c4 => exact rfl); k_whole; intro g' L' h' tk' cells' FG' F' N' Y' B' X' T' l1; (try k_lt l1); k_cells Y'; (try simp only [List.cons_append, List.nil_append] at N'); (try dsimp only); (try k_lift B'); (try k_fold))
  k_steps
  rename Fr _ _ _ _ => lF
  rename News _ _ _ _ => lN
  obtain ⟨nx0, J0, N0⟩ := run_start (ns := ns) lF lN (by with_reducible assumption) (by with_reducible assumption) (by with_unfolding_all rfl) (by with_unfolding_all rfl)

  refine' for_nums (RunJ hand _ ns) ?a ?b ?c ?F ?N ?J ?hl ?turn ?done ?E
  case a => exact rfl
  case b => exact rfl
  case c => exact rfl
  case F => exact lF
  case N => exact N0
  case J => exact J0
  case E => passes_own
  case hl =>
    rintro i m nx ⟨tT, tR, vsT, vsR, nT, nR, r, m1, m2, rfl, base0, D, A, ne, offT, offR⟩
    exact List.mem_cons_of_mem _ (List.mem_cons_of_mem _ (base0 _ (List.mem_cons_of_mem _ hm)))
  case turn =>
    rintro i v m₁ nx I oI h tk cI hv ⟨tT, tR, vsT, vsR, nT, nR, r, m1, m2, rfl, base0, D, A, ne, offT, offR⟩ hoff F1 N1
    have hc := base0 _ List.mem_cons_self
    obtain ⟨n, tn, rfl, hni⟩ := ints_at iL i v hv
    have hn0 := hn n (List.mem_of_getElem? hni)
    have wf := end_wf (ns := ns) i hlen
    have hvR : vsR.length ≤ 20 := by rw [A.length, run_length, List.length_take]; omega
    have F2 := fr_run F1 m1 m2
    have neT : tT ≠ I := hoff _ List.mem_cons_self
    have neR : tR ≠ I := hoff _ (List.mem_cons_of_mem _ List.mem_cons_self)
    have off : ∀ p ∈ r, p.1 ≠ I ∧ p.1 ≠ tT ∧ p.1 ≠ tR := fun p hp => ⟨hoff p (List.mem_cons_of_mem _ (List.mem_cons_of_mem _ hp)), offT p hp, offR p hp⟩
    change News g' L' _ _ at N1
    change Fr g' L' _ _ at F2
    clear F1 lF lN N0 J0 hoff hv
    k_with "mydeed" => (k_here; (rename News _ _ _ _ => lN); k_dflt (refine' deed_use D A cI (run_lists _ _) hh wf.1 wf.2.2 wf.2.1 hn0 off ne neT lN ?kB ?kF ?kX ?kT ?kK ?kd ?ku ?_; (case kB => k_asm); (case kF => k_asm); (case kX => k_asm); (case kT => k_asm); (case kK => first | exact rfl | assumption); (case kd => first | exact room2 hdp 1 rfl (by decide) | ktr_room); (case ku => first | exact units2 hun 0 rfl (by decide) | ktr_units); k_whole; intro v1 vs1 nn1 r1 h1 tk1 sub1 D1 d1 off1 F1 N1; (try dsimp only); (have hc1 := sub1 _ hc); (have A1 := DatAll.mono sub1 A); (have base1 : ∀ p ∈ _, p ∈ r1 := fun p hp => sub1 p (base0 p hp)); (try k_sweep); (try k_fold)))
    k_with "mycomp" => (k_here; (rename News _ _ _ _ => lN); (rename Fr _ _ _ _ => lF); k_dflt ((refine' rows_comp D1 (deed_wf wf.1 wf.2.1).1 (Nat.lt_of_le_of_lt (deed_wf wf.1 wf.2.1).2.2 (Nat.lt_trans (Nat.succ_lt_succ wf.2.2) (by decide))) off1 ?c1 ?c2 ?c3 ?c4 ?c5 ?c6 ?c7 ?c8 ?e1 ?e2 ?e3 ?e4 ?e5 ?e6 ?g1 ?g2 ?g3 ?g4 ?g5 lF lN ?_ ?_); (case c1 => with_unfolding_all rfl); (case c2 => decide); (case c3 => rfl); (case c4 => decide); (case c5 => rfl); (case c6 => rfl); (case c7 => rfl); (case c8 => rfl); (case e1 => decide); (case e2 => decide); (case e3 => decide); (case e4 => decide); (case e5 => decide); (case e6 => decide); (case g1 => rfl); (case g2 => rfl); (case g3 => decide); (case g4 => with_unfolding_all rfl); (case g5 => rfl)); (all_goals first | (intro st3 tA3 tO3 tG3 tx3 nw3 ys3 I3 oI3 C3 oC3 D3 m3 h3 tk3 E3 ok3 sub3 hC3 hx1 hx2 hx3 hx4 F3 N3 off3 ne3; (have hc3 := sub3 _ hc1); (k_dflt (change News g' L' _ _ at N3; change Fr g' L' _ _ at F3)); (rcases hh with hh3 | hh3 <;> subst hh3 <;> (try simp only [xV_zero, xV_one] at hx4); (try k_sweep))) | (intro D2 r2 h2 tk2 sub2 R2 off2 F2 N2; (have hc2 := sub2 _ hc1); (k_dflt (change News g' L' _ _ at N2; change Fr g' L' _ _ at F2)); (have offR2 : ∀ p ∈ r2, p.1 ≠ _ := fun p hp => (off2 p hp).2.2); (try k_sweep))))
    k_with "mycompend" => (exact row_end (st := st3) off3 (by with_reducible assumption) (by k_asm) (by k_asm))
    k_with "myappend" => (k_here; k_dflt (refine' append_K ?k1 ?k2 (Upd.tail ?u1 (Upd.tail ?u2 (Upd.tail ?u3 (Upd.head ?u4)))) ?_ ?z; (case k1 => k_asm); (case k2 => k_asm); (case u1 => exact Nat.ne_of_gt (by with_reducible assumption : _ ∧ _ ∧ _ ∧ AllLt _ r2).2.2.1); (case u2 => exact Ne.symm neR); (case u3 => exact ne); (case u4 => exact offR2); (case z => (rw [sizeLine_eq, List.size_toArray]; omega)); k_whole); intro h4 F4 N4; (try k_sweep))
    k_steps
    exact run_end hni (fun p hp => sub2 p (base1 p hp)) (D1.mono sub2) (A1.mono sub2) (d1.mono sub2) R2 off2 ne neT neR (by with_reducible assumption) (by assumption) (by assumption) (by with_unfolding_all rfl) (by with_unfolding_all rfl)
  case done =>
    rintro m₁ nx h tk ⟨tT, tR, vsT, vsR, nT, nR, r, m1, m2, rfl, base0, D, A, ne, offT, offR⟩ F1 N1
    have F2 := fr_two F1 m1 m2
    change News g' L' _ _ at N1
    change Fr g' L' _ _ at F2
    clear F1 lF lN N0 J0
    dsimp only
    k_steps
    rw [iL.length, List.take_length] at A
    exact hret _ _ _ _ ⟨tR, vsR, nR, r, rfl, rfl, fun p hp => base0 p (List.mem_cons_of_mem _ hp), A⟩ (by k_asm) (cb_drop (by with_reducible assumption) fun _ h => List.mem_cons_of_mem _ h)
end Mine
namespace Mine

local macro_rules | `(tactic| walk_at $s:str) => `(tactic| k_extra $s)

def numF (x : Int) : Int := (if x < 0 then -x else x) % 100000000
theorem num_eq (x : Int) (t : Tok) : ∃ u, Value.int ((if x < 0 then -x else x).fmod (10 ^ Int.toNat 8)) t = Value.int (numF x) u := by
  refine ⟨t, ?_⟩
  rw [show ((10 : Int) ^ Int.toNat 8) = 100000000 from by decide +kernel, Int.fmod_eq_emod_of_nonneg _ (by decide)]
  rfl
def numsOf (xs : List Int) : List Int := 511210 :: 135 :: (xs.take 8).map numF
theorem numF_lo (x : Int) : 0 ≤ numF x := Int.emod_nonneg _ (by decide)
theorem nums_lo (xs : List Int) : ∀ n ∈ numsOf xs, 0 ≤ n := by
  intro n h
  rcases List.mem_cons.mp h with rfl | h
  · decide
  rcases List.mem_cons.mp h with rfl | h
  · decide
  obtain ⟨x, _, rfl⟩ := List.mem_map.mp h
  exact numF_lo x
theorem nums_len (xs : List Int) : (numsOf xs).length ≤ 20 := by
  unfold numsOf
  rw [List.length_cons, List.length_cons, List.length_map, List.length_take]
  omega
section
variable {prog : Program} {w : World} {A : Around} {E : Value → Shared → Prop} {h₀ : Heap} {L : Addr} {m : Str → Option Value} {news : Led} {env : Env}
theorem nums_comp {elt : Expr} {x : Str} {scope : Scope} {cl : List (Str × Addr)} {Fin : Shared → List Value → Led → Prop} {T : Addr} {ws : List Value} {k : Nat} {xs : List Int} {s₁ : Shared}
    (hh : A.handled = none) (F : Fr h₀ L s₁.heap m) (N : News h₀ L s₁.heap news) (hT : (T, listOf ws.toArray k) ∈ news) (hI : IntsAre ws xs) (hl : xs.length ≤ 63)
    (turn : ∀ (_g : Heap) (ys : List Value) (x0 : Int) (tx : Tok) I oI C oC D m₂ h tk (E' : Value → Shared → Prop), LCg.NsObj oC m₂ → m₂ x = some (.int x0 tx) → Fr h₀ L h m → News h₀ L h ((I, oI) :: (C, oC) :: (D, LCg.lst ys) :: news) → LCg.Off3 I C D news → ((@Ne Nat I C) ∧ (@Ne Nat I D) ∧ (@Ne Nat C D)) →
      wpAny (model prog w) A (eval elt (compEnvC scope cl C env)) (LCg.CompEnd h₀ L m { s₁ with heap := h, toks := tk } I oI C oC D (LCg.lst ys) (LCg.SrcAt h₀ T ws.toArray) (fun y nw' => nw' = news ∧ ∃ t, y = .int (numF x0) t)) E' { s₁ with heap := h, toks := tk })
    (fin : ∀ g ys, IntsAre ys (xs.map numF) → Fin { s₁ with heap := g } ys news) : LCg.CompSrc prog w A h₀ L m env elt x scope cl Fin (.ref T) s₁ := by
  have hlen : ws.length = xs.length := hI.length
  refine LCg.CompSrc.ledger hh F N hT (by rw [List.size_toArray, hlen, sizeLine_eq]; omega) fun g => ?_
  refine compRest_inv (fun i ys nw => nw = news ∧ IntsAre ys ((xs.take i).map numF)) ⟨rfl, by simpa using IntsAre.nil⟩ ?_ ?_
  · rintro i ys nw v I oI C oC D' m₂ h tk E' hi ⟨rfl, hj⟩ hP hC hx F' N' off ne
    have hP' : ws[i]? = some v := by simpa using hP
    obtain ⟨x0, tx, rfl, es⟩ := ints_at hI i v hP'
    refine wpAny_mono (turn h ys x0 tx I oI C oC D' m₂ h tk E' hC hx F' N' off ne) (fun y s₂ q => compEnd_mono (fun n' q' => ?_) q) fun _ _ q => q
    obtain ⟨rfl, t, rfl⟩ := q'
    refine ⟨rfl, ?_⟩
    rw [List.take_add_one, es]
    simp only [Option.toList_some, List.map_append, List.map_cons, List.map_nil]
    exact ints_app hj (.cons _ _ .nil)
  · rintro ys nw ⟨rfl, hj⟩
    refine fin g ys ?_
    rw [List.size_toArray, hlen, List.take_length] at hj
    exact hj
end


theorem all_of_it : PySem.Challenge.rw_mj0336_01.Holds := hd (by
  k_with_none
  k_with "execs cons" => (((with_reducible refine wpAny_execs_cons ?_); try dsimp only))
  k_with "execs cons" => (((with_reducible show wpAny _ _ (execs (_ :: _) _) _ _ (Shared.mk _ _ _ (_ + 1 + 1) _)); (with_reducible refine gen_toks ?_); intro tk))
  k_with "eval ListComp BinOp cons" => (first | k_extra "mycomp")
  k_with "eval BinOp List ListComp" => (first | k_extra "mysum")
  k_with "CompEnd" => (first | k_extra "mycompend")
  k_with "compareOp Eq ref ref" => (first | k_extra "myeq")
  k_with "CompSrc" => (first | k_extra "mysrc")
  k_with "call ref" => (((with_reducible show wpAny _ _ (call (Value.ref 146) _ _) _ _ _); first | k_extra "myrun" ))
  k_go0
  all_goals try k_fold
  k_with "mycomp" => (k_here; k_dflt (refine LCg.ListComp_U (F₀ := by k_asm) (by rfl) (by decide) (by rfl) (by decide) (by rfl) ?_))
  k_with "mysrc" => (k_here; k_dflt ((refine' nums_comp ?hh ?F ?N ?hT ?D ?hl ?_ ?_); (case hh => rfl); (case F => k_asm); (case N => k_asm); (case hT => k_mem); (case D => assumption); (case hl => omega)); (all_goals first | (intro g9 ys9 x9 tx9 I9 oI9 C9 oC9 D9 m9 h9 tk9 E9 hC9 hx9 F9 N9 off9 ne9; (try k_sweep)) | (intro g9 ys9 hi9)))
  k_with "mycompend" => (k_dflt (exact comp_end off9 (by k_asm) (by k_asm) (fun _ h => h) (Or.inr ⟨_, List.mem_cons_self, rfl, _, rfl⟩) ⟨rfl, num_eq _ _⟩))
  k_with "myrun" => first | ((with_reducible rename IntsAre _ ([511210, 135] ++ _) => iL9); ((with_reducible show wpAny _ _ (call (Value.ref 146) [Value.int 0 _, _] _) _ _ _); k_here; k_dflt (refine' Tell.use (t_run _ 0 (Or.inl rfl) _ _ _ _ _ iL9 List.mem_cons_self (nums_len _) (nums_lo _) _) ?k1 ?k2 ?k3 ?k4 ?k5 ?kK ?kd ?ku ?_; (case k1 => k_asm); (case k2 => k_asm); (case k3 => k_asm); (case k4 => k_asm); (case k5 => k_asm); (case kK => first | exact rfl | assumption); (case kd => ktr_room); (case ku => ktr_units); k_whole; intro v9 n9 h9 tk9 P9 F9 N9; obtain ⟨tR1, vsR1, nR1, r1, e9, e8, sub1, A1⟩ := P9; subst e9 e8; (have hm1 := sub1 _ List.mem_cons_self); (try dsimp only); (try k_sweep); (try k_fold)))) | ((with_reducible show wpAny _ _ (call (Value.ref 146) [Value.int 1 _, _] _) _ _ _); k_here; k_dflt (refine' Tell.use (t_run _ 1 (Or.inr rfl) _ _ _ _ _ iL9 (List.mem_cons_of_mem _ hm1) (nums_len _) (nums_lo _) _) ?k1 ?k2 ?k3 ?k4 ?k5 ?kK ?kd ?ku ?_; (case k1 => k_asm); (case k2 => k_asm); (case k3 => k_asm); (case k4 => k_asm); (case k5 => k_asm); (case kK => first | exact rfl | assumption); (case kd => ktr_room); (case ku => ktr_units); k_whole; intro v9 n9 h9 tk9 P9 F9 N9; obtain ⟨tR2, vsR2, nR2, r2, e9, e8, sub2, A2⟩ := P9; subst e9 e8; (try dsimp only); (try k_sweep); (try k_fold)))
  k_with "myeq" => (k_here; k_dflt (refine' kqd_eq (by k_asm) (List.mem_cons_of_mem _ (sub2 _ List.mem_cons_self)) rfl rfl A1 (fun p h => List.mem_cons_of_mem _ (sub2 _ (List.mem_cons_of_mem _ h))) List.mem_cons_self rfl rfl A2 (fun p h => List.mem_cons_of_mem _ h) (run_ok _ _) (run_ok _ _) ?hu ?_; (case hu => ke_room); k_whole))
  k_steps
  all_goals (try k_data))
end Mine
theorem PySem.Challenge.cw_mj0336_01_holds : PySem.Challenge.rw_mj0336_01.Holds :=
  Mine.all_of_it
