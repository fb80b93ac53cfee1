import PyProof.Rows.All
import PyProof.MaxThree
import Wide.All
import OpenK.AllK
import Wide.FinOn
import PySem.Challenge.RW_ty0060_01
set_option Elab.async false
set_option genSizeOfSpec false
noncomputable section OfFastF
set_option autoImplicit false
namespace Mine
open PySem

noncomputable def P63 : Nat := 9223372036854775808
noncomputable def bsel {α : Type} (b : Bool) (x y : α) : α := @Bool.rec (fun _ => α) y x b
theorem bsel_eq {α : Type} (b : Bool) (x y : α) : bsel b x y = if b then x else y := by cases b <;> rfl
noncomputable def forceN {α : Type} (n : Nat) (k : Nat → α) : α := @Nat.rec (fun _ => α) (k 0) (fun m _ => k (Nat.succ m)) n
theorem forceN_eq {α : Type} (n : Nat) (k : Nat → α) : forceN n k = k n := by cases n <;> rfl

noncomputable def rnd (n d : Nat) : Nat :=
  forceN (Nat.div n d) fun q => forceN (Nat.mul 2 (Nat.mod n d)) fun r => bsel (Nat.ble r d) (bsel (Nat.beq r d) (Nat.add q (Nat.mod q 2)) q) (Nat.succ q)
noncomputable def packN (sg n e L : Nat) : Nat :=
  bsel (Nat.ble L 52) (Nat.add (Nat.add sg (Nat.mul (Nat.sub (Nat.add L e) 53) 4503599627370496)) (Nat.mul n (Nat.pow 2 (Nat.sub 52 L))))
   (forceN (Nat.pow 2 (Nat.sub L 52)) fun d => Nat.add (Nat.add sg (Nat.mul (Nat.sub (Nat.add L e) 53) 4503599627370496)) (rnd n d))
noncomputable def lgS {α : Type} (p j : Nat) (n L : Nat) (k : Nat → Nat → α) : α :=
  bsel (Nat.ble p n) (forceN (Nat.div n p) fun n' => forceN (Nat.add L j) fun L' => k n' L') (k n L)
noncomputable def lg7 {α : Type} (n : Nat) (k : Nat → α) : α :=
  lgS 18446744073709551616 64 n 0 fun n L => lgS 4294967296 32 n L fun n L => lgS 65536 16 n L fun n L => lgS 256 8 n L fun n L => lgS 16 4 n L fun n L => lgS 4 2 n L fun n L => lgS 2 1 n L fun _ L => k L
noncomputable def lg {α : Type} (n : Nat) (k : Nat → α) : α := bsel (Nat.ble 340282366920938463463374607431768211456 n) (k (Nat.log2 n)) (lg7 n k)
noncomputable def pack1 (sg e n : Nat) : Nat := forceN n fun n => lg n fun L => packN sg n e L
noncomputable def mid (e : Nat) : Bool := bsel (Nat.ble 700 e) (Nat.ble e 1400) false
noncomputable def slow (f : UInt64 → UInt64 → UInt64) (x y : Nat) : Nat := (f (UInt64.ofNat x) (UInt64.ofNat y)).toNat

noncomputable def parts {α : Type} (x : Nat) (k : Nat → Nat → Nat → α) : α :=
  forceN (Nat.div x 4503599627370496) fun h => forceN (Nat.mod h 2048) fun e => forceN (Nat.div h 2048) fun s => forceN (Nat.add 4503599627370496 (Nat.mod x 4503599627370496)) fun m => k s e m
noncomputable def add3 (sx sy e m n : Nat) : Nat :=
  bsel (Nat.beq sx sy) (pack1 (Nat.mul sx 9223372036854775808) e (Nat.add m n))
   (bsel (Nat.beq m n) 0
    (bsel (Nat.ble n m) (pack1 (Nat.mul sx 9223372036854775808) e (Nat.sub m n)) (pack1 (Nat.mul sy 9223372036854775808) e (Nat.sub n m))))
noncomputable def add2 (sx e m sy f n : Nat) : Nat :=
  bsel (Nat.ble e f) (forceN (Nat.mul n (Nat.pow 2 (Nat.sub f e))) fun n' => add3 sx sy e m n')
    (forceN (Nat.mul m (Nat.pow 2 (Nat.sub e f))) fun m' => add3 sx sy f m' n)
noncomputable def both {α : Type} (x y : Nat) (k : Nat → Nat → Nat → Nat → Nat → Nat → α) (z : α) : α :=
  parts x fun sx e m => bsel (mid e) (parts y fun sy f n => bsel (mid f) (k sx e m sy f n) z) z
noncomputable def one_ {α : Type} (x : Nat) (k : Nat → Nat → Nat → α) (z : α) : α := parts x fun s e m => bsel (mid e) (k s e m) z
noncomputable def fadd (x y : Nat) : Nat :=
  bsel (Nat.beq y 0) (bsel (Nat.beq x 0) 0 (one_ x (fun _ _ _ => x) (slow Float64.add x y))) (bsel (Nat.beq x 0) (one_ y (fun _ _ _ => y) (slow Float64.add x y)) (both x y add2 (slow Float64.add x y)))
noncomputable def mul2 (sx e m sy f n : Nat) : Nat := pack1 (bsel (Nat.beq sx sy) 0 9223372036854775808) (Nat.sub (Nat.add e f) 1075) (Nat.mul m n)
noncomputable def zeroP (x : Nat) (z : Nat) : Nat := one_ x (fun s _ _ => bsel (Nat.beq s 0) 0 z) z
noncomputable def fmul (x y : Nat) : Nat :=
  bsel (Nat.beq y 0) (zeroP x (slow Float64.mul x y)) (bsel (Nat.beq x 0) (zeroP y (slow Float64.mul x y)) (both x y mul2 (slow Float64.mul x y)))
noncomputable def div3 (sg e f m n : Nat) : Nat :=
  bsel (Nat.ble n m) (forceN (Nat.mul m 4503599627370496) fun a => Nat.add (Nat.add sg (Nat.mul (Nat.sub (Nat.add e 1022) f) 4503599627370496)) (rnd a n))
   (forceN (Nat.mul m 9007199254740992) fun a => Nat.add (Nat.add sg (Nat.mul (Nat.sub (Nat.add e 1021) f) 4503599627370496)) (rnd a n))
noncomputable def div2 (sx e m sy f n : Nat) : Nat := div3 (bsel (Nat.beq sx sy) 0 9223372036854775808) e f m n
noncomputable def fdivF (x y : Nat) : Nat := bsel (Nat.beq x 0) (zeroP y (slow Float64.div x y)) (both x y div2 (slow Float64.div x y))
noncomputable def fneg (x : Nat) : Nat := one_ x (fun s _ _ => bsel (Nat.beq s 0) (Nat.add x 9223372036854775808) (Nat.sub x 9223372036854775808)) (Float64.neg (UInt64.ofNat x)).toNat
noncomputable def fsub (x y : Nat) : Nat := bsel (Nat.beq y 0) (bsel (Nat.beq x 0) 0 <| one_ x (fun _ _ _ => x) (slow Float64.sub x y)) (forceN (fneg y) fun z => fadd x z)
noncomputable def fmod1 (x : Nat) : Nat :=
  bsel (Nat.beq x 0) 0 (one_ x (fun s e _ => bsel (Nat.ble e 1022) (bsel (Nat.beq s 0) x (fadd x 4607182418800017408)) (Float64.divmod (UInt64.ofNat x) (UInt64.ofNat 4607182418800017408)).2.toNat) (Float64.divmod (UInt64.ofNat x) (UInt64.ofNat 4607182418800017408)).2.toNat)
noncomputable def fmodF (x y : Nat) : Nat := bsel (Nat.beq y 4607182418800017408) (fmod1 x) (Float64.divmod (UInt64.ofNat x) (UInt64.ofNat y)).2.toNat

noncomputable def ofOrd (o : Option Ordering) : Nat := match o with
  | some .lt => 0
  | some .eq => 1
  | some .gt => 2
  | none => 3
noncomputable def cmpN (x y : Nat) : Nat := bsel (Nat.beq x y) 1 (bsel (Nat.ble x y) 0 2)
noncomputable def fcmp (x y : Nat) : Nat :=
  bsel (Nat.beq y 0) (bsel (Nat.beq x 0) 1 <| one_ x (fun s _ _ => bsel (Nat.beq s 0) 2 0) (ofOrd (Float64.cmp (UInt64.ofNat x) (UInt64.ofNat y))))
   (both x y (fun sx _ _ sy _ _ => bsel (Nat.beq sx sy) (bsel (Nat.beq sx 0) (cmpN x y) (cmpN y x)) (bsel (Nat.beq sx 0) 2 0)) (ofOrd (Float64.cmp (UInt64.ofNat x) (UInt64.ofNat y))))
noncomputable def cmpPos (e m n : Nat) : Nat := bsel (Nat.ble e 1075) (forceN (Nat.mul n (Nat.pow 2 (Nat.sub 1075 e))) fun a => cmpN m a) (forceN (Nat.mul m (Nat.pow 2 (Nat.sub e 1075))) fun a => cmpN a n)
noncomputable def fcmpI (x : Nat) (i : Int) : Nat :=
  one_ x (fun s e m => @Int.rec (fun _ => Nat) (fun n => bsel (Nat.beq s 0) (cmpPos e m n) 0) (fun n => bsel (Nat.beq s 0) 2 (Nat.sub 2 (cmpPos e m (Nat.succ n)))) i) (ofOrd (Float64.cmpInt (UInt64.ofNat x) i))
noncomputable def ftrunc (x : Nat) : Option Int :=
  bsel (Nat.beq x 0) (some 0) <| one_ x (fun s e m => bsel (Nat.beq s 0) (some (Int.ofNat (bsel (Nat.ble e 1075) (Nat.div m (Nat.pow 2 (Nat.sub 1075 e))) (Nat.mul m (Nat.pow 2 (Nat.sub e 1075)))))) none) none
noncomputable def posF (n : Nat) : Nat := forceN n fun n => lg n fun L => bsel (Nat.ble L 52) (Nat.add (Nat.mul (Nat.add L 1022) 4503599627370496) (Nat.mul n (Nat.pow 2 (Nat.sub 52 L)))) (Float64.ofInt (Int.ofNat n)).toNat
noncomputable def fofI (i : Int) : Nat := @Int.rec (fun _ => Nat) (fun n => bsel (Nat.beq n 0) 0 (posF n)) (fun n => Nat.add 9223372036854775808 (posF (Nat.succ n))) i
noncomputable def fdivI (a b : Int) : Option Nat := forceN (fofI a) fun x => forceN (fofI b) fun y => bsel (Nat.beq y 0) none (some (fdivF x y))
end Mine
end OfFastF
noncomputable section OfFL1
set_option autoImplicit false
set_option linter.unusedVariables false
namespace Mine
open PySem PySem.Float64

theorem halfEven_mul {n d c : Nat} (hd : 0 < d) (hc : 0 < c) : halfEven (n * c) (d * c) = halfEven n d := by
  unfold halfEven
  have h1 : n * c / (d * c) = n / d := Nat.mul_div_mul_right n d hc
  have h2 : n * c % (d * c) = n % d * c := Nat.mul_mod_mul_right c n d
  rw [h1, h2]
  have h3 : (2 * (n % d * c) > d * c) = (2 * (n % d) > d) := by
    rw [← Nat.mul_assoc]
    exact propext ⟨fun h => Nat.lt_of_mul_lt_mul_right h, fun h => Nat.mul_lt_mul_of_pos_right h hc⟩
  have h4 : (2 * (n % d * c) == d * c) = (2 * (n % d) == d) := by
    rw [← Nat.mul_assoc, Bool.eq_iff_iff, beq_iff_eq, beq_iff_eq]
    exact ⟨fun h => Nat.eq_of_mul_eq_mul_right hc h, fun h => by rw [h]⟩
  simp only [h3, h4]
theorem halfEven_cross {a b a' b' : Nat} (hb : 0 < b) (hb' : 0 < b') (h : a * b' = a' * b) : halfEven a b = halfEven a' b' := by
  rw [← halfEven_mul (n := a) hb hb', ← halfEven_mul (n := a') hb' hb, h, Nat.mul_comm b b']
theorem halfEven_one (a : Nat) : halfEven a 1 = a := by
  unfold halfEven
  have : a % 1 = 0 := Nat.mod_one a
  rw [this, Nat.div_one]
  simp
theorem rnd_eq (n d : Nat) : rnd n d = halfEven n d := by
  unfold rnd
  rw [forceN_eq, forceN_eq]
  show bsel (Nat.ble (2 * (n % d)) d) (bsel (Nat.beq (2 * (n % d)) d) (n / d + n / d % 2) (n / d)) (n / d + 1) = if (decide (2 * (n % d) > d) || (2 * (n % d) == d && n / d % 2 == 1)) = true then n / d + 1 else n / d
  rw [bsel_eq, bsel_eq]
  generalize n / d = q
  generalize 2 * (n % d) = r
  by_cases h1 : r ≤ d
  · rw [if_pos (Nat.ble_eq.mpr h1)]
    by_cases h2 : r = d
    · subst h2
      rw [if_pos (Nat.beq_refl r)]
      by_cases h4 : q % 2 = 1
      · simp [h4]
      · have : q % 2 = 0 := by (first | lia | omega)
        simp [this]
    · have h3 : ¬ r > d := by (first | lia | omega)
      rw [if_neg (by simpa using h2)]
      simp [h2]; (first | lia | omega)
  · rw [if_neg (by simpa using h1)]
    have : r > d := by (first | lia | omega)
    simp [this]
theorem pw (k : Nat) : 0 < 2 ^ k := Nat.two_pow_pos k
theorem log2_mul_pow {n : Nat} (hn : 0 < n) (k : Nat) : (n * 2 ^ k).log2 = n.log2 + k := by
  have h1 := Nat.log2_self_le (Nat.pos_iff_ne_zero.mp hn)
  have h2 := Nat.lt_log2_self (n := n)
  have hnk : n * 2 ^ k ≠ 0 := Nat.pos_iff_ne_zero.mp (Nat.mul_pos hn (pw k))
  apply (Nat.log2_eq_iff hnk).mpr
  constructor
  · rw [Nat.pow_add]; exact Nat.mul_le_mul_right _ h1
  · rw [show n.log2 + k + 1 = (n.log2 + 1) + k by (first | lia | omega), Nat.pow_add]
    exact Nat.mul_lt_mul_of_pos_right h2 (pw k)
theorem shift_pos {n d : Nat} {k : Int} (hd : 0 < d) : 0 < (shift n d k).2 := by
  unfold shift
  split
  · exact hd
  · exact Nat.mul_pos hd (pw _)
theorem shift_cross {n d i j : Nat} {k : Int} : (shift (n * 2 ^ i) (d * 2 ^ j) k).1 * (shift n d (k + i - j)).2 = (shift n d (k + i - j)).1 * (shift (n * 2 ^ i) (d * 2 ^ j) k).2 := by
  unfold shift
  by_cases h1 : k ≥ 0
  · rw [if_pos h1]
    by_cases h2 : k + i - j ≥ 0
    · rw [if_pos h2]
      show n * 2 ^ i * 2 ^ k.toNat * d = n * 2 ^ (k + i - j).toNat * (d * 2 ^ j)
      have : i + k.toNat = (k + i - j).toNat + j := by (first | lia | omega)
      rw [Nat.mul_assoc n, ← Nat.pow_add, this, Nat.pow_add]
      simp only [Nat.mul_assoc, Nat.mul_comm, Nat.mul_left_comm]
    · rw [if_neg h2]
      show n * 2 ^ i * 2 ^ k.toNat * (d * 2 ^ (-(k + i - j)).toNat) = n * (d * 2 ^ j)
      have : j = i + k.toNat + (-(k + i - j)).toNat := by (first | lia | omega)
      generalize (-(k + ↑i - ↑j)).toNat = y at this ⊢
      rw [this, Nat.pow_add, Nat.pow_add]
      simp only [Nat.mul_assoc, Nat.mul_comm, Nat.mul_left_comm]
  · rw [if_neg h1]
    by_cases h2 : k + i - j ≥ 0
    · rw [if_pos h2]
      show n * 2 ^ i * d = n * 2 ^ (k + i - j).toNat * (d * 2 ^ j * 2 ^ (-k).toNat)
      have : i = (k + i - j).toNat + j + (-k).toNat := by (first | lia | omega)
      generalize (k + ↑i - ↑j).toNat = y at this ⊢
      rw [this, Nat.pow_add, Nat.pow_add]
      simp only [Nat.mul_assoc, Nat.mul_comm, Nat.mul_left_comm]
    · rw [if_neg h2]
      show n * 2 ^ i * (d * 2 ^ (-(k + i - j)).toNat) = n * (d * 2 ^ j * 2 ^ (-k).toNat)
      have : i + (-(k + i - j)).toNat = j + (-k).toNat := by (first | lia | omega)
      have h3 : 2 ^ i * 2 ^ (-(k + i - j)).toNat = 2 ^ j * 2 ^ (-k).toNat := by rw [← Nat.pow_add, this, Nat.pow_add]
      calc n * 2 ^ i * (d * 2 ^ (-(k + i - j)).toNat) = n * d * (2 ^ i * 2 ^ (-(k + i - j)).toNat) := by simp only [Nat.mul_assoc, Nat.mul_comm, Nat.mul_left_comm]
        _ = n * d * (2 ^ j * 2 ^ (-k).toNat) := by rw [h3]
        _ = n * (d * 2 ^ j * 2 ^ (-k).toNat) := by simp only [Nat.mul_assoc, Nat.mul_comm, Nat.mul_left_comm]
theorem ge_cross {a b a' b' : Nat} (hb : 0 < b) (hb' : 0 < b') (h : a * b' = a' * b) : a ≥ b ↔ a' ≥ b' := by
  constructor
  · intro h1
    have : b * b' ≤ a * b' := Nat.mul_le_mul_right _ h1
    rw [h, Nat.mul_comm b b'] at this
    exact Nat.le_of_mul_le_mul_right this hb
  · intro h1
    have : b' * b ≤ a' * b := Nat.mul_le_mul_right _ h1
    rw [← h, Nat.mul_comm b' b] at this
    exact Nat.le_of_mul_le_mul_right this hb'
noncomputable def lastP (n d : Nat) : Int := let q : Int := (n.log2 : Int) - d.log2; if (shift n d (-q)).1 ≥ (shift n d (-q)).2 then q - 52 else q - 53
theorem roundMag_gen {n d i j : Nat} (hn : 0 < n) (hd : 0 < d) (hE : lastP n d + i - j ≥ -1074) :
    roundMag (n * 2 ^ i) (d * 2 ^ j) = min infMag ((lastP n d + i - j + 1074).toNat * 2 ^ 52 + halfEven (shift n d (-lastP n d)).1 (shift n d (-lastP n d)).2) := by
  have hn' : n * 2 ^ i ≠ 0 := Nat.pos_iff_ne_zero.mp (Nat.mul_pos hn (pw i))
  have hd' : 0 < d * 2 ^ j := Nat.mul_pos hd (pw j)
  have key : ∀ k : Int, ((shift (n * 2 ^ i) (d * 2 ^ j) k).1 ≥ (shift (n * 2 ^ i) (d * 2 ^ j) k).2 ↔ (shift n d (k + i - j)).1 ≥ (shift n d (k + i - j)).2) ∧
      halfEven (shift (n * 2 ^ i) (d * 2 ^ j) k).1 (shift (n * 2 ^ i) (d * 2 ^ j) k).2 = halfEven (shift n d (k + i - j)).1 (shift n d (k + i - j)).2 := fun k =>
    ⟨ge_cross (shift_pos hd') (shift_pos hd) shift_cross, halfEven_cross (shift_pos hd') (shift_pos hd) shift_cross⟩
  unfold roundMag
  rw [if_neg (by simpa using hn')]
  simp only []
  rw [log2_mul_pow hn, log2_mul_pow hd]
  have hl : ((n.log2 + i : Nat) : Int) - ((d.log2 + j : Nat) : Int) = (n.log2 : Int) - d.log2 + i - j := by (first | lia | omega)
  rw [hl]
  have hc := (key (-((n.log2 : Int) - d.log2 + i - j))).1
  have h2 : -((n.log2 : Int) - d.log2 + i - j) + i - j = -((n.log2 : Int) - d.log2) := by (first | lia | omega)
  rw [h2] at hc
  have hmax : max (if (shift (n * 2 ^ i) (d * 2 ^ j) (-((n.log2 : Int) - d.log2 + i - j))).1 ≥ (shift (n * 2 ^ i) (d * 2 ^ j) (-((n.log2 : Int) - d.log2 + i - j))).2 then (n.log2 : Int) - d.log2 + i - j - 52 else (n.log2 : Int) - d.log2 + i - j - 53) (-1074) = lastP n d + i - j := by
    have : (if (shift (n * 2 ^ i) (d * 2 ^ j) (-((n.log2 : Int) - d.log2 + i - j))).1 ≥ (shift (n * 2 ^ i) (d * 2 ^ j) (-((n.log2 : Int) - d.log2 + i - j))).2 then (n.log2 : Int) - d.log2 + i - j - 52 else (n.log2 : Int) - d.log2 + i - j - 53) = lastP n d + i - j := by
      unfold lastP
      simp only [hc]
      split <;> (first | lia | omega)
    rw [this]; (first | lia | omega)
  rw [hmax]
  have hh := (key (-(lastP n d + i - j))).2
  have h3 : -(lastP n d + i - j) + i - j = -lastP n d := by (first | lia | omega)
  rw [h3] at hh
  rw [hh]
end Mine
end OfFL1
noncomputable section OfFL2
set_option autoImplicit false
set_option linter.unusedVariables false
namespace Mine
open PySem PySem.Float64

noncomputable def Ex (x : Nat) : Nat := x / 2 ^ 52 % 2048
noncomputable def Ma (x : Nat) : Nat := 2 ^ 52 + x % 2 ^ 52
noncomputable def Sg (x : Nat) : Nat := x / 2 ^ 63
abbrev Mid (x : Nat) : Prop := 700 ≤ Ex x ∧ Ex x ≤ 1400
theorem mid_eq (e : Nat) : mid e = true ↔ 700 ≤ e ∧ e ≤ 1400 := by
  unfold mid
  rw [bsel_eq]
  by_cases h : 700 ≤ e
  · rw [if_pos (Nat.ble_eq.mpr h), Nat.ble_eq]; exact ⟨fun q => ⟨h, q⟩, fun q => q.2⟩
  · rw [if_neg (by simpa using h)]; exact ⟨fun q => absurd q (by decide), fun q => absurd q.1 h⟩
theorem parts_eq {α : Type} (x : Nat) (k : Nat → Nat → Nat → α) : parts x k = k (Sg x) (Ex x) (Ma x) := by
  unfold parts
  rw [forceN_eq, forceN_eq, forceN_eq, forceN_eq]
  show k (x / 4503599627370496 / 2048) (x / 4503599627370496 % 2048) (4503599627370496 + x % 4503599627370496) = _
  rw [Nat.div_div_eq_div_mul]; rfl
theorem one_eq {α : Type} (x : Nat) (k : Nat → Nat → Nat → α) (z : α) [Decidable (Mid x)] : one_ x k z = if Mid x then k (Sg x) (Ex x) (Ma x) else z := by
  unfold one_
  rw [parts_eq, bsel_eq]
  by_cases h : Mid x
  · rw [if_pos h, if_pos ((mid_eq _).mpr h)]
  · rw [if_neg h, if_neg (fun q => h ((mid_eq _).mp q))]
theorem both_eq {α : Type} (x y : Nat) (k : Nat → Nat → Nat → Nat → Nat → Nat → α) (z : α) [Decidable (Mid x)] [Decidable (Mid y)] : both x y k z = if Mid x ∧ Mid y then k (Sg x) (Ex x) (Ma x) (Sg y) (Ex y) (Ma y) else z := by
  unfold both
  rw [parts_eq, parts_eq, bsel_eq, bsel_eq]
  by_cases h : Mid x
  · rw [if_pos ((mid_eq _).mpr h)]
    by_cases h' : Mid y
    · rw [if_pos ((mid_eq _).mpr h'), if_pos ⟨h, h'⟩]
    · rw [if_neg (fun q => h' ((mid_eq _).mp q)), if_neg (fun q => h' q.2)]
  · rw [if_neg (fun q => h ((mid_eq _).mp q)), if_neg (fun q => h q.1)]
theorem toNat_ofNat {x : Nat} (hx : x < 18446744073709551616) : (UInt64.ofNat x).toNat = x := by
  rw [UInt64.toNat_ofNat']; exact Nat.mod_eq_of_lt hx
theorem Sg_lt {x : Nat} (hx : x < 18446744073709551616) : Sg x = 0 ∨ Sg x = 1 := by
  unfold Sg; (first | lia | omega)
theorem split_eq {x : Nat} : x = Sg x * 2 ^ 63 + Ex x * 2 ^ 52 + (Ma x - 2 ^ 52) := by
  unfold Sg Ex Ma; (first | lia | omega)
theorem Ma_ge (x : Nat) : 2 ^ 52 ≤ Ma x := by unfold Ma; (first | lia | omega)
theorem Ma_lt (x : Nat) : Ma x < 2 ^ 53 := by unfold Ma; (first | lia | omega)
noncomputable def ng (x : Nat) : Bool := Sg x == 1
theorem decode_mid {x : Nat} (hx : x < 18446744073709551616) (h : Mid x) : decode (UInt64.ofNat x) = .fin (ng x) (Ma x) ((Ex x : Int) - 1075) := by
  unfold decode
  rw [toNat_ofNat hx]
  show (if Ex x == 2047 then _ else if Ex x == 0 then _ else Num.fin (ng x) (Ma x) ((Ex x : Int) - 1075)) = _
  have h1 : (Ex x == 2047) = false := by have := h.2; simp; (first | lia | omega)
  have h2 : (Ex x == 0) = false := by have := h.1; simp; (first | lia | omega)
  rw [h1, h2]; rfl
theorem decode_zero : decode (UInt64.ofNat 0) = .fin false 0 (-1074) := by with_unfolding_all rfl
theorem infMag_eq : infMag = 9218868437227405312 := by decide
theorem pack_toNat {neg : Bool} {mag : Nat} (h : mag ≤ infMag) : (pack neg mag).toNat = (if neg then 9223372036854775808 else 0) + mag := by
  unfold pack
  rw [infMag_eq] at h
  show ((if neg = true then 2 ^ 63 else 0) + mag) % 2 ^ 64 = _
  cases neg <;> simp <;> (first | lia | omega)
theorem roundMag_le (n d : Nat) : roundMag n d ≤ infMag := by
  unfold roundMag
  split
  · exact Nat.zero_le _
  · exact Nat.min_le_left _ _
theorem roundMag_zero (d : Nat) : roundMag 0 d = 0 := by unfold roundMag; simp
theorem shift_zero (d : Nat) (k : Int) : (shift 0 d k).1 = 0 := by
  unfold shift; split <;> simp
theorem log2_div_pow {n j : Nat} (h : 2 ^ j ≤ n) : (n / 2 ^ j).log2 + j = n.log2 := by
  have hn : n ≠ 0 := by have := pw j; (first | lia | omega)
  have h1 := Nat.log2_self_le hn
  have h2 := Nat.lt_log2_self (n := n)
  have hj : j ≤ n.log2 := (Nat.le_log2 hn).mpr h
  have hq : n / 2 ^ j ≠ 0 := Nat.pos_iff_ne_zero.mp (Nat.div_pos h (pw j))
  have : (n / 2 ^ j).log2 = n.log2 - j := by
    apply (Nat.log2_eq_iff hq).mpr
    constructor
    · rw [Nat.le_div_iff_mul_le (pw j), ← Nat.pow_add]
      rw [show n.log2 - j + j = n.log2 by (first | lia | omega)]; exact h1
    · rw [Nat.div_lt_iff_lt_mul (pw j), ← Nat.pow_add]
      rw [show n.log2 - j + 1 + j = n.log2 + 1 by (first | lia | omega)]; exact h2
  (first | lia | omega)
theorem lgS_eq {α : Type} {j n L N : Nat} {k : Nat → Nat → α} {r : α} (hn : 0 < n) (hN : N = n.log2 + L) (hlt : n < 2 ^ j * 2 ^ j)
    (h : ∀ n' L', 0 < n' → n' < 2 ^ j → N = n'.log2 + L' → k n' L' = r) : lgS (2 ^ j) j n L k = r := by
  unfold lgS
  rw [bsel_eq]
  by_cases h1 : 2 ^ j ≤ n
  · rw [if_pos (Nat.ble_eq.mpr h1), forceN_eq, forceN_eq]
    refine h (n / 2 ^ j) (L + j) (Nat.div_pos h1 (pw j)) (Nat.div_lt_of_lt_mul hlt) ?_
    have := log2_div_pow h1
    (first | lia | omega)
  · rw [if_neg (by simpa using h1)]
    exact h n L hn (by (first | lia | omega)) hN
theorem lg_eq {α : Type} {n : Nat} (hn : 0 < n) (k : Nat → α) : lg n k = k n.log2 := by
  unfold lg
  rw [bsel_eq]
  split
  · rfl
  · rename_i h0
    have h0 : n < 2 ^ 64 * 2 ^ 64 := by simpa using h0
    unfold lg7
    refine lgS_eq (j := 64) hn (N := n.log2) (by (first | lia | omega)) h0 fun n1 L1 p1 q1 e1 => ?_
    refine lgS_eq (j := 32) p1 e1 q1 fun n2 L2 p2 q2 e2 => ?_
    refine lgS_eq (j := 16) p2 e2 q2 fun n3 L3 p3 q3 e3 => ?_
    refine lgS_eq (j := 8) p3 e3 q3 fun n4 L4 p4 q4 e4 => ?_
    refine lgS_eq (j := 4) p4 e4 q4 fun n5 L5 p5 q5 e5 => ?_
    refine lgS_eq (j := 2) p5 e5 q5 fun n6 L6 p6 q6 e6 => ?_
    refine lgS_eq (j := 1) p6 e6 q6 fun n7 L7 p7 q7 e7 => ?_
    have : n7 = 1 := by (first | lia | omega)
    subst this
    rw [e7, show Nat.log2 1 = 0 by decide, Nat.zero_add]
noncomputable def mant (n : Nat) : Nat := if n.log2 ≤ 52 then n * 2 ^ (52 - n.log2) else halfEven n (2 ^ (n.log2 - 52))
theorem mant_le {n : Nat} (hn : 0 < n) : mant n ≤ 2 ^ 53 := by
  have h2 := Nat.lt_log2_self (n := n)
  unfold mant
  split
  · rename_i h
    have : n * 2 ^ (52 - n.log2) < 2 ^ (n.log2 + 1) * 2 ^ (52 - n.log2) := Nat.mul_lt_mul_of_pos_right h2 (pw _)
    rw [← Nat.pow_add, show n.log2 + 1 + (52 - n.log2) = 53 by (first | lia | omega)] at this
    (first | lia | omega)
  · rename_i h
    have hq : n / 2 ^ (n.log2 - 52) < 2 ^ 53 := by
      rw [Nat.div_lt_iff_lt_mul (pw _), ← Nat.pow_add, show 53 + (n.log2 - 52) = n.log2 + 1 by (first | lia | omega)]; exact h2
    unfold halfEven
    simp only []
    split <;> (first | lia | omega)
theorem pack1_eq {sg e n : Nat} (hn : 0 < n) : pack1 sg e n = sg + (n.log2 + e - 53) * 2 ^ 52 + mant n := by
  unfold pack1
  rw [forceN_eq, lg_eq hn]
  unfold packN mant
  rw [bsel_eq]
  by_cases h : n.log2 ≤ 52
  · rw [if_pos (Nat.ble_eq.mpr h), if_pos h]; rfl
  · rw [if_neg (by simpa using h), if_neg h, forceN_eq, rnd_eq]; rfl
theorem lastP_one {n : Nat} (hn : 0 < n) : lastP n 1 = (n.log2 : Int) - 52 := by
  have h1 := Nat.log2_self_le (Nat.pos_iff_ne_zero.mp hn)
  unfold lastP
  have e : ((n.log2 : Int) - (Nat.log2 1 : Nat)) = n.log2 := by rw [show Nat.log2 1 = 0 by decide]; (first | lia | omega)
  simp only [e]
  have : (shift n 1 (-(n.log2 : Int))).1 ≥ (shift n 1 (-(n.log2 : Int))).2 := by
    unfold shift
    split
    · rename_i h
      have : n.log2 = 0 := by (first | lia | omega)
      rw [this]; simp; (first | lia | omega)
    · show n ≥ 1 * 2 ^ (-(-(n.log2 : Int))).toNat
      rw [show (-(-(n.log2 : Int))).toNat = n.log2 by (first | lia | omega), Nat.one_mul]; exact h1
  rw [if_pos this]
theorem mant_eq {n : Nat} (hn : 0 < n) : halfEven (shift n 1 (-lastP n 1)).1 (shift n 1 (-lastP n 1)).2 = mant n := by
  rw [lastP_one hn]
  unfold mant shift
  by_cases h : n.log2 ≤ 52
  · rw [if_pos (show -((n.log2 : Int) - 52) ≥ 0 by (first | lia | omega)), if_pos h]
    show halfEven (n * 2 ^ (-((n.log2 : Int) - 52)).toNat) 1 = _
    rw [halfEven_one, show (-((n.log2 : Int) - 52)).toNat = 52 - n.log2 by (first | lia | omega)]
  · rw [if_neg (show ¬ -((n.log2 : Int) - 52) ≥ 0 by (first | lia | omega)), if_neg h]
    show halfEven n (1 * 2 ^ (-(-((n.log2 : Int) - 52))).toNat) = _
    rw [Nat.one_mul, show (-(-((n.log2 : Int) - 52))).toNat = n.log2 - 52 by (first | lia | omega)]
theorem roundBin {n e i j : Nat} (hn : 0 < n) (h1 : 53 ≤ n.log2 + e) (h2 : n.log2 + e ≤ 2098) (hij : (i : Int) - j = (e : Int) - 1075) : roundMag (n * 2 ^ i) (1 * 2 ^ j) = (n.log2 + e - 53) * 2 ^ 52 + mant n := by
  have hl := lastP_one hn
  rw [roundMag_gen hn (by decide) (by rw [hl]; (first | lia | omega)), mant_eq hn, hl]
  have : ((n.log2 : Int) - 52 + i - j + 1074).toNat = n.log2 + e - 53 := by (first | lia | omega)
  rw [this]
  have hm := mant_le hn
  rw [infMag_eq]
  apply Nat.min_eq_right
  have h3 : n.log2 + e - 53 ≤ 2045 := by (first | lia | omega)
  have h4 : (n.log2 + e - 53) * 2 ^ 52 ≤ 2045 * 2 ^ 52 := Nat.mul_le_mul_right _ h3
  exact Nat.le_trans (Nat.add_le_add h4 hm) (by decide)
theorem ofBin_eq {neg : Bool} {n e : Nat} {g : Int} (hn : 0 < n) (h1 : 53 ≤ n.log2 + e) (h2 : n.log2 + e ≤ 2098) (hg : g = (e : Int) - 1075) : (ofBin neg n g).toNat = pack1 (if neg then 9223372036854775808 else 0) e n := by
  unfold ofBin
  show (ofFrac neg (shift n 1 g).1 (shift n 1 g).2).toNat = _
  unfold ofFrac
  rw [pack_toNat (roundMag_le _ _), pack1_eq hn, Nat.add_assoc]
  congr 1
  unfold shift
  by_cases h : g ≥ 0
  · rw [if_pos h]
    have := roundBin (i := g.toNat) (j := 0) hn h1 h2 (by (first | lia | omega))
    simpa using this
  · rw [if_neg h]
    have := roundBin (i := 0) (j := (-g).toNat) hn h1 h2 (by (first | lia | omega))
    simpa using this
end Mine
end OfFL2
noncomputable section OfFL3
set_option autoImplicit false
set_option linter.unusedVariables false
namespace Mine
open PySem PySem.Float64

noncomputable def addV (a b : Bool) (P K : Nat) (g : Int) : UInt64 := if a = b then (if P + K = 0 then zero a else ofBin a (P + K) g) else if P = K then zero false else if K < P then ofBin a (P - K) g else ofBin b (K - P) g
theorem add_pk (a b : Bool) (P K : Nat) (g : Int) : (if sgn a P + sgn b K == 0 then zero (a && b) else ofBin (decide (sgn a P + sgn b K < 0)) (sgn a P + sgn b K).natAbs g) = addV a b P K g := by
  have key : ∀ (z : Int) (n : Nat) (c : Bool), z ≠ 0 → z.natAbs = n → (z < 0 ↔ c = true) → (if z == 0 then zero (a && b) else ofBin (decide (z < 0)) z.natAbs g) = ofBin c n g := by
    intro z n c h1 h2 h3
    rw [if_neg (by simpa using h1), h2]
    congr 1
    cases c
    · exact decide_eq_false (fun q => absurd (h3.mp q) (by decide))
    · exact decide_eq_true (h3.mpr rfl)
  have key0 : ∀ (z : Int), z = 0 → (if z == 0 then zero (a && b) else ofBin (decide (z < 0)) z.natAbs g) = zero (a && b) := by
    intro z h1
    rw [if_pos (by simpa using h1)]
  have hff : sgn false P = P ∧ sgn false K = K ∧ sgn true P = -P ∧ sgn true K = -K := ⟨rfl, rfl, rfl, rfl⟩
  obtain ⟨e1, e2, e3, e4⟩ := hff
  unfold addV
  cases a <;> cases b
  · rw [e1, e2, if_pos rfl]
    by_cases h : P + K = 0
    · rw [if_pos h, key0 _ (by (first | lia | omega))]; rfl
    · rw [if_neg h, key _ (P + K) false (by (first | lia | omega)) (by (first | lia | omega)) (by simp; (first | lia | omega))]
  · rw [e1, e4]
    show _ = if P = K then zero false else if K < P then ofBin false (P - K) g else ofBin true (K - P) g
    by_cases h : P = K
    · rw [if_pos h, key0 _ (by (first | lia | omega))]; rfl
    · rw [if_neg h]
      by_cases h' : K < P
      · rw [if_pos h', key _ (P - K) false (by (first | lia | omega)) (by (first | lia | omega)) (by simp; (first | lia | omega))]
      · rw [if_neg h', key _ (K - P) true (by (first | lia | omega)) (by (first | lia | omega)) (by simp; (first | lia | omega))]
  · rw [e3, e2]
    show _ = if P = K then zero false else if K < P then ofBin true (P - K) g else ofBin false (K - P) g
    by_cases h : P = K
    · rw [if_pos h, key0 _ (by (first | lia | omega))]; rfl
    · rw [if_neg h]
      by_cases h' : K < P
      · rw [if_pos h', key _ (P - K) true (by (first | lia | omega)) (by (first | lia | omega)) (by simp; (first | lia | omega))]
      · rw [if_neg h', key _ (K - P) false (by (first | lia | omega)) (by (first | lia | omega)) (by simp; (first | lia | omega))]
  · rw [e3, e4, if_pos rfl]
    by_cases h : P + K = 0
    · rw [if_pos h, key0 _ (by (first | lia | omega))]; rfl
    · rw [if_neg h, key _ (P + K) true (by (first | lia | omega)) (by (first | lia | omega)) (by simp; (first | lia | omega))]
theorem add_fin {X Y : UInt64} {a b : Bool} {m k e f : Nat} (hX : decode X = .fin a m ((e : Int) - 1075)) (hY : decode Y = .fin b k ((f : Int) - 1075)) :
    Float64.add X Y = addV a b (m * 2 ^ (e - min e f)) (k * 2 ^ (f - min e f)) ((min e f : Nat) - 1075) := by
  rw [← add_pk]
  unfold Float64.add
  rw [hX, hY]
  have h1 : min ((e : Int) - 1075) ((f : Int) - 1075) = ((min e f : Nat) : Int) - 1075 := by (first | lia | omega)
  have h2 : ((e : Int) - 1075 - (((min e f : Nat) : Int) - 1075)).toNat = e - min e f := by (first | lia | omega)
  have h3 : ((f : Int) - 1075 - (((min e f : Nat) : Int) - 1075)).toNat = f - min e f := by (first | lia | omega)
  show (if sgn a (m * 2 ^ ((e : Int) - 1075 - min ((e : Int) - 1075) ((f : Int) - 1075)).toNat) + sgn b (k * 2 ^ ((f : Int) - 1075 - min ((e : Int) - 1075) ((f : Int) - 1075)).toNat) == 0 then zero (a && b) else ofBin _ _ (min ((e : Int) - 1075) ((f : Int) - 1075))) = _
  rw [h1, h2, h3]
theorem zero_false : (zero false).toNat = 0 := by decide
theorem Ma_log2 (x : Nat) : (Ma x).log2 = 52 := by
  have h1 := Ma_ge x
  have h2 := Ma_lt x
  exact (Nat.log2_eq_iff (by (first | lia | omega))).mpr ⟨h1, h2⟩
theorem Ma_pos (x : Nat) : 0 < Ma x := Nat.lt_of_lt_of_le (by decide) (Ma_ge x)
theorem sg_of {x : Nat} (hx : x < 18446744073709551616) : (if ng x = true then 9223372036854775808 else 0) = Sg x * 9223372036854775808 := by
  unfold ng
  rcases Sg_lt hx with h | h <;> rw [h] <;> rfl
theorem asm3 {a u v m x c : Nat} (h1 : c ≤ m) (h2 : x = a + v + (m - c)) (h3 : u + c = v) : a + u + m = x := by (first | lia | omega)
theorem ofBin_self {x j e : Nat} {g : Int} (hx : x < 18446744073709551616) (h : Mid x) (hj : j + e = Ex x) (hg : g = (e : Int) - 1075) : (ofBin (ng x) (Ma x * 2 ^ j) g).toNat = x := by
  have hp : 0 < Ma x * 2 ^ j := Nat.mul_pos (Ma_pos x) (pw j)
  have hl : (Ma x * 2 ^ j).log2 = 52 + j := by rw [log2_mul_pow (Ma_pos x), Ma_log2]
  obtain ⟨m1, m2⟩ := h
  rw [ofBin_eq hp (by rw [hl]; (first | lia | omega)) (by rw [hl]; (first | lia | omega)) hg, pack1_eq hp, hl, sg_of hx]
  have hm : mant (Ma x * 2 ^ j) = Ma x := by
    unfold mant
    rw [hl]
    by_cases h0 : j = 0
    · subst h0; simp
    · rw [if_neg (by (first | lia | omega)), show 52 + j - 52 = j by (first | lia | omega)]
      have := halfEven_mul (n := Ma x) (d := 1) (by decide) (pw j)
      rw [Nat.one_mul] at this
      rw [this, halfEven_one]
  rw [hm, show 52 + j + e - 53 = Ex x - 1 by (first | lia | omega)]
  have h1 := Ma_ge x
  have h2 := split_eq (x := x)
  have h3 : (Ex x - 1) * 2 ^ 52 + 2 ^ 52 = Ex x * 2 ^ 52 := by
    rw [← Nat.succ_mul]; congr 1; (first | lia | omega)
  have h4 : Sg x * 2 ^ 63 = Sg x * 9223372036854775808 := by rw [show (2 : Nat) ^ 63 = 9223372036854775808 by decide]
  rw [h4] at h2
  exact asm3 h1 h2 h3
theorem add_zero_r {x : Nat} {Y : UInt64} {b : Bool} (hx : x < 18446744073709551616) (h : Mid x) (hY : decode Y = .fin b 0 (-1074)) : (Float64.add (UInt64.ofNat x) Y).toNat = x := by
  obtain ⟨m1, m2⟩ := id h
  rw [add_fin (decode_mid hx h) (show decode Y = .fin b 0 (((1 : Nat) : Int) - 1075) from hY)]
  have hmin : min (Ex x) 1 = 1 := by (first | lia | omega)
  rw [hmin]
  have hp : 0 < Ma x * 2 ^ (Ex x - 1) := Nat.mul_pos (Ma_pos x) (pw _)
  have := ofBin_self (j := Ex x - 1) (e := 1) (g := ((1 : Nat) : Int) - 1075) hx h (by (first | lia | omega)) rfl
  unfold addV
  rw [Nat.zero_mul, Nat.add_zero, Nat.sub_zero]
  by_cases hb : ng x = b
  · rw [if_pos hb, if_neg (by (first | lia | omega))]; exact this
  · rw [if_neg hb, if_neg (by (first | lia | omega)), if_pos hp]; exact this
theorem add_zero_l {x : Nat} {Y : UInt64} {b : Bool} (hx : x < 18446744073709551616) (h : Mid x) (hY : decode Y = .fin b 0 (-1074)) : (Float64.add Y (UInt64.ofNat x)).toNat = x := by
  obtain ⟨m1, m2⟩ := id h
  rw [add_fin (show decode Y = .fin b 0 (((1 : Nat) : Int) - 1075) from hY) (decode_mid hx h)]
  have hmin : min 1 (Ex x) = 1 := by (first | lia | omega)
  rw [hmin]
  have hp : 0 < Ma x * 2 ^ (Ex x - 1) := Nat.mul_pos (Ma_pos x) (pw _)
  have := ofBin_self (j := Ex x - 1) (e := 1) (g := ((1 : Nat) : Int) - 1075) hx h (by (first | lia | omega)) rfl
  unfold addV
  rw [Nat.zero_mul, Nat.zero_add, Nat.sub_zero]
  by_cases hb : b = ng x
  · rw [if_pos hb, if_neg (by (first | lia | omega)), hb]; exact this
  · rw [if_neg hb, if_neg (by (first | lia | omega)), if_neg (by (first | lia | omega))]; exact this
theorem add3_eq {x y e P K : Nat} (hx : x < 18446744073709551616) (hy : y < 18446744073709551616) (hP : 0 < P) (hK : 0 < K) (he : 700 ≤ e) (hb : ∀ n, 0 < n → n ≤ P + K → n.log2 + e ≤ 2098) :
    add3 (Sg x) (Sg y) e P K = (addV (ng x) (ng y) P K ((e : Int) - 1075)).toNat := by
  unfold add3 addV
  rw [bsel_eq, bsel_eq, bsel_eq]
  have hs : (Nat.beq (Sg x) (Sg y) = true) ↔ ng x = ng y := by
    unfold ng
    rw [Nat.beq_eq]
    rcases Sg_lt hx with h | h <;> rcases Sg_lt hy with h' | h' <;> rw [h, h'] <;> decide
  by_cases h : ng x = ng y
  · rw [if_pos (hs.mpr h), if_pos h, if_neg (by (first | lia | omega)), ofBin_eq (by (first | lia | omega)) (by have := hb (P + K) (by (first | lia | omega)) (Nat.le_refl _); (first | lia | omega)) (hb _ (by (first | lia | omega)) (Nat.le_refl _)) rfl, sg_of hx]
    rfl
  · rw [if_neg (fun q => h (hs.mp q)), if_neg h]
    by_cases h2 : P = K
    · subst h2
      rw [if_pos (Nat.beq_refl P), if_pos rfl, zero_false]
    · rw [if_neg (by simpa using h2), if_neg h2]
      by_cases h3 : K < P
      · rw [if_pos (Nat.ble_eq.mpr (by (first | lia | omega))), if_pos h3, ofBin_eq (by (first | lia | omega)) (by (first | lia | omega)) (hb _ (by (first | lia | omega)) (by (first | lia | omega))) rfl, sg_of hx]; rfl
      · rw [if_neg (by simpa using (by (first | lia | omega) : P < K)), if_neg h3, ofBin_eq (by (first | lia | omega)) (by (first | lia | omega)) (hb _ (by (first | lia | omega)) (by (first | lia | omega))) rfl, sg_of hy]; rfl
theorem log2_le {n k : Nat} (hn : 0 < n) (h : n < 2 ^ (k + 1)) : n.log2 ≤ k := by
  have := (Nat.log2_lt (Nat.pos_iff_ne_zero.mp hn)).mpr h
  (first | lia | omega)
theorem fadd_eq {x y : Nat} (hx : x < 18446744073709551616) (hy : y < 18446744073709551616) : fadd x y = (Float64.add (UInt64.ofNat x) (UInt64.ofNat y)).toNat := by
  unfold fadd
  rw [bsel_eq, bsel_eq, bsel_eq, one_eq, one_eq, both_eq]
  by_cases hy0 : y = 0
  · subst hy0
    rw [if_pos (Nat.beq_refl 0)]
    by_cases hx0 : x = 0
    · subst hx0; rw [if_pos (Nat.beq_refl 0)]; with_unfolding_all rfl
    · rw [if_neg (by simpa using hx0)]
      split
      · rename_i h; exact (add_zero_r hx h decode_zero).symm
      · rfl
  · rw [if_neg (by simpa using hy0)]
    by_cases hx0 : x = 0
    · subst hx0
      rw [if_pos (Nat.beq_refl 0)]
      split
      · rename_i h; exact (add_zero_l hy h decode_zero).symm
      · rfl
    · rw [if_neg (by simpa using hx0)]
      split
      · rename_i h
        obtain ⟨h1, h2⟩ := h
        rw [add_fin (decode_mid hx h1) (decode_mid hy h2)]
        obtain ⟨a1, a2⟩ := h1
        obtain ⟨b1, b2⟩ := h2
        unfold add2
        rw [bsel_eq, forceN_eq, forceN_eq]
        have big : ∀ (m k i : Nat), m < 2 ^ 53 → k < 2 ^ 53 → i ≤ 700 → ∀ n, 0 < n → n ≤ m + k * 2 ^ i → n.log2 ≤ 54 + i := by
          intro m k i hm hk hi n hn hle
          apply log2_le hn
          have q1 : k * 2 ^ i < 2 ^ 53 * 2 ^ i := Nat.mul_lt_mul_of_pos_right hk (pw i)
          have q2 : 2 ^ 53 * 1 ≤ 2 ^ 53 * 2 ^ i := Nat.mul_le_mul_left _ (pw i)
          have q3 : 2 ^ (54 + i + 1) = 4 * (2 ^ 53 * 2 ^ i) := by rw [← Nat.pow_add, show 54 + i + 1 = 2 + (53 + i) by (first | lia | omega), Nat.pow_add]
          (first | lia | omega)
        by_cases hle : Ex x ≤ Ex y
        · rw [if_pos (Nat.ble_eq.mpr hle)]
          have hmin : min (Ex x) (Ex y) = Ex x := by (first | lia | omega)
          rw [hmin, Nat.sub_self, Nat.pow_zero, Nat.mul_one]
          refine add3_eq hx hy (Ma_pos x) (Nat.mul_pos (Ma_pos y) (pw _)) a1 fun n hn hb => ?_
          have := big _ _ _ (Ma_lt x) (Ma_lt y) (show Ex y - Ex x ≤ 700 by (first | lia | omega)) n hn hb
          (first | lia | omega)
        · rw [if_neg (by simpa using (by (first | lia | omega) : Ex y < Ex x))]
          have hmin : min (Ex x) (Ex y) = Ex y := by (first | lia | omega)
          rw [hmin, Nat.sub_self, Nat.pow_zero, Nat.mul_one]
          refine add3_eq hx hy (Nat.mul_pos (Ma_pos x) (pw _)) (Ma_pos y) b1 fun n hn hb => ?_
          have := big _ _ _ (Ma_lt y) (Ma_lt x) (show Ex x - Ex y ≤ 700 by (first | lia | omega)) n hn (by rw [Nat.add_comm]; exact hb)
          (first | lia | omega)
      · rfl
end Mine
end OfFL3
noncomputable section OfFL4
set_option autoImplicit false
set_option linter.unusedVariables false
namespace Mine
open PySem PySem.Float64

theorem toNat_lt (x : UInt64) : x.toNat < 18446744073709551616 := x.toNat_lt
theorem ofNat_toNat (x : UInt64) : UInt64.ofNat x.toNat = x := UInt64.ofNat_toNat
theorem asmA {z y c r : Nat} (h3 : c * 1 + r = z) (h4 : c * 0 + r = y) : z = y + c := by (first | lia | omega)
theorem asmB {z y c r : Nat} (h3 : c * 0 + r = z) (h4 : c * 1 + r = y) : z = y - c := by (first | lia | omega)
theorem xor63 {y : Nat} (hy : y < 18446744073709551616) : y ^^^ 9223372036854775808 = if Sg y = 0 then y + 9223372036854775808 else y - 9223372036854775808 := by
  have h1 : (y ^^^ 9223372036854775808) % 2 ^ 63 = y % 2 ^ 63 := by
    rw [Nat.xor_mod_two_pow]
    show y % 2 ^ 63 ^^^ 0 = _
    rw [Nat.xor_zero]
  have h2 : (y ^^^ 9223372036854775808) / 2 ^ 63 = Sg y ^^^ 1 := by
    rw [Nat.xor_div_two_pow]; rfl
  have h3 := Nat.div_add_mod (y ^^^ 9223372036854775808) (2 ^ 63)
  have h4 := Nat.div_add_mod y (2 ^ 63)
  have h5 : y / 2 ^ 63 = Sg y := rfl
  rw [h1, h2] at h3
  rw [h5] at h4
  have hc : (2 : Nat) ^ 63 = 9223372036854775808 := by decide
  rw [hc] at h3 h4
  rcases Sg_lt hy with h | h
  · rw [if_pos h]
    rw [h] at h3 h4
    have h6 : (0 : Nat) ^^^ 1 = 1 := by decide
    rw [h6] at h3
    exact asmA h3 h4
  · rw [if_neg (by rw [h]; decide)]
    rw [h] at h3 h4
    have h6 : (1 : Nat) ^^^ 1 = 0 := by decide
    rw [h6] at h3
    exact asmB h3 h4
theorem isNaN_mid {x : Nat} (hx : x < 18446744073709551616) (h : Mid x) : isNaN (UInt64.ofNat x) = false := by
  unfold isNaN; rw [decode_mid hx h]
theorem fneg_eq {y : Nat} (hy : y < 18446744073709551616) : fneg y = (Float64.neg (UInt64.ofNat y)).toNat := by
  unfold fneg
  rw [one_eq]
  split
  · rename_i h
    unfold Float64.neg
    rw [isNaN_mid hy h, if_neg (by decide), UInt64.toNat_xor, toNat_ofNat hy]
    have : (pack true 0).toNat = 9223372036854775808 := by decide
    rw [this, xor63 hy, bsel_eq]
    by_cases h0 : Sg y = 0
    · rw [if_pos h0, if_pos (by rw [h0]; exact Nat.beq_refl 0)]
    · rw [if_neg h0, if_neg (by simpa using h0)]; rfl
  · rfl
theorem fsub_eq {x y : Nat} (hx : x < 18446744073709551616) (hy : y < 18446744073709551616) : fsub x y = (Float64.sub (UInt64.ofNat x) (UInt64.ofNat y)).toNat := by
  unfold fsub
  rw [bsel_eq, bsel_eq, one_eq, forceN_eq]
  by_cases hy0 : y = 0
  · subst hy0
    rw [if_pos (Nat.beq_refl 0)]
    by_cases hx0 : x = 0
    · subst hx0; rw [if_pos (Nat.beq_refl 0)]; with_unfolding_all rfl
    · rw [if_neg (by simpa using hx0)]
      split
      · rename_i h
        unfold Float64.sub
        exact (add_zero_r (b := true) hx h (by with_unfolding_all rfl)).symm
      · rfl
  · rw [if_neg (by simpa using hy0), fneg_eq hy, fadd_eq hx (toNat_lt _), ofNat_toNat]; with_unfolding_all rfl
theorem zeroP_eq (x z : Nat) : zeroP x z = if Mid x ∧ Sg x = 0 then 0 else z := by
  unfold zeroP
  rw [one_eq]
  by_cases h : Mid x
  · rw [if_pos h, bsel_eq]
    by_cases h0 : Sg x = 0
    · rw [if_pos (by rw [h0]; exact Nat.beq_refl 0), if_pos ⟨h, h0⟩]
    · rw [if_neg (by simpa using h0), if_neg (fun q => h0 q.2)]
  · rw [if_neg h, if_neg (fun q => h q.1)]
theorem ofFrac_zero (d : Nat) : (ofFrac false 0 d).toNat = 0 := by
  unfold ofFrac; rw [roundMag_zero]; decide
theorem ofBin_zero (g : Int) : (ofBin false 0 g).toNat = 0 := by
  unfold ofBin
  show (ofFrac false (shift 0 1 g).1 _).toNat = 0
  rw [shift_zero, ofFrac_zero]
theorem ng_zero {x : Nat} (h : Sg x = 0) : ng x = false := by unfold ng; rw [h]; rfl
theorem sgn2 {x y : Nat} (hx : x < 18446744073709551616) (hy : y < 18446744073709551616) : bsel (Nat.beq (Sg x) (Sg y)) 0 9223372036854775808 = if (ng x != ng y) = true then 9223372036854775808 else 0 := by
  rw [bsel_eq]
  unfold ng
  rcases Sg_lt hx with h | h <;> rcases Sg_lt hy with h' | h' <;> rw [h, h'] <;> rfl
theorem mul_log2 (x y : Nat) : 104 ≤ (Ma x * Ma y).log2 ∧ (Ma x * Ma y).log2 ≤ 105 := by
  have hp : 0 < Ma x * Ma y := Nat.mul_pos (Ma_pos x) (Ma_pos y)
  constructor
  · refine (Nat.le_log2 (Nat.pos_iff_ne_zero.mp hp)).mpr ?_
    exact Nat.le_trans (by decide) (Nat.mul_le_mul (Ma_ge x) (Ma_ge y))
  · exact log2_le hp (Nat.lt_of_lt_of_le (Nat.mul_lt_mul'' (Ma_lt x) (Ma_lt y)) (by decide))
theorem fmul_eq {x y : Nat} (hx : x < 18446744073709551616) (hy : y < 18446744073709551616) : fmul x y = (Float64.mul (UInt64.ofNat x) (UInt64.ofNat y)).toNat := by
  unfold fmul
  rw [bsel_eq, bsel_eq, both_eq, zeroP_eq, zeroP_eq]
  by_cases hy0 : y = 0
  · subst hy0
    rw [if_pos (Nat.beq_refl 0)]
    split
    · rename_i h
      unfold Float64.mul
      rw [decode_mid hx h.1, decode_zero, ng_zero h.2]
      exact (ofBin_zero _).symm
    · rfl
  · rw [if_neg (by simpa using hy0)]
    by_cases hx0 : x = 0
    · subst hx0
      rw [if_pos (Nat.beq_refl 0)]
      split
      · rename_i h
        unfold Float64.mul
        rw [decode_mid hy h.1, decode_zero, ng_zero h.2]
        show _ = (ofBin false (0 * Ma y) _).toNat
        rw [Nat.zero_mul]
        exact (ofBin_zero _).symm
      · rfl
    · rw [if_neg (by simpa using hx0)]
      split
      · rename_i h
        obtain ⟨h1, h2⟩ := h
        unfold Float64.mul mul2
        rw [decode_mid hx h1, decode_mid hy h2, sgn2 hx hy]
        obtain ⟨a1, a2⟩ := h1
        obtain ⟨b1, b2⟩ := h2
        obtain ⟨l1, l2⟩ := mul_log2 x y
        exact (ofBin_eq (e := Ex x + Ex y - 1075) (Nat.mul_pos (Ma_pos x) (Ma_pos y)) (by (first | lia | omega)) (by (first | lia | omega)) (by (first | lia | omega))).symm
      · rfl
theorem shift_form (n d : Nat) (g : Int) : ∃ i j : Nat, shift n d g = (n * 2 ^ i, d * 2 ^ j) ∧ (i : Int) - j = g := by
  unfold shift
  split
  · exact ⟨g.toNat, 0, by simp, by (first | lia | omega)⟩
  · exact ⟨0, (-g).toNat, by simp, by (first | lia | omega)⟩
theorem halfEven_le {a b c : Nat} (h : a < b * c) : halfEven a b ≤ c := by
  have hb : 0 < b := by
    rcases Nat.eq_zero_or_pos b with h0 | h0
    · rw [h0, Nat.zero_mul] at h; (first | lia | omega)
    · exact h0
  have : a / b < c := Nat.div_lt_of_lt_mul h
  unfold halfEven
  simp only []
  split <;> (first | lia | omega)
theorem roundDiv {x y : Nat} {g : Int} (hg : -700 ≤ g) (hg2 : g ≤ 700) : roundMag (shift (Ma x) (Ma y) g).1 (shift (Ma x) (Ma y) g).2 =
    if Ma y ≤ Ma x then (g + 1022).toNat * 2 ^ 52 + halfEven (Ma x * 4503599627370496) (Ma y) else (g + 1021).toNat * 2 ^ 52 + halfEven (Ma x * 9007199254740992) (Ma y) := by
  obtain ⟨i, j, e, hij⟩ := shift_form (Ma x) (Ma y) g
  rw [e]
  have hl : lastP (Ma x) (Ma y) = if Ma y ≤ Ma x then -52 else -53 := by
    unfold lastP
    rw [Ma_log2, Ma_log2]
    show (if (Ma x * 2 ^ 0) ≥ Ma y then ((52 : Nat) : Int) - (52 : Nat) - 52 else ((52 : Nat) : Int) - (52 : Nat) - 53) = _
    rw [Nat.pow_zero, Nat.mul_one]
    rfl
  have hE : lastP (Ma x) (Ma y) + i - j ≥ -1074 := by rw [hl]; split <;> (first | lia | omega)
  show roundMag (Ma x * 2 ^ i) (Ma y * 2 ^ j) = _
  rw [roundMag_gen (Ma_pos x) (Ma_pos y) hE, hl]
  have m1 := Ma_ge x
  have m2 := Ma_lt x
  have m3 := Ma_ge y
  have fin : ∀ (z n : Nat), z ≤ 2000 → n ≤ 2 ^ 53 → min infMag (z * 2 ^ 52 + n) = z * 2 ^ 52 + n := by
    intro z n hz hn
    apply Nat.min_eq_right
    have h4 : z * 2 ^ 52 ≤ 2000 * 2 ^ 52 := Nat.mul_le_mul_right _ hz
    rw [infMag_eq]
    exact Nat.le_trans (Nat.add_le_add h4 hn) (by decide)
  by_cases h : Ma y ≤ Ma x
  · rw [if_pos h, if_pos h, show ((-52 : Int) + i - j + 1074).toNat = (g + 1022).toNat by (first | lia | omega)]
    show min infMag (_ + halfEven (Ma x * 2 ^ 52) (Ma y)) = _
    refine fin _ _ (by (first | lia | omega)) (halfEven_le ?_)
    have : Ma x * 2 ^ 52 < (2 * Ma y) * 2 ^ 52 := Nat.mul_lt_mul_of_pos_right (by (first | lia | omega)) (by decide)
    have e : Ma y * 2 ^ 53 = 2 * Ma y * 2 ^ 52 := by rw [Nat.mul_comm 2, Nat.mul_assoc]
    rw [e]; exact this
  · rw [if_neg h, if_neg h, show ((-53 : Int) + i - j + 1074).toNat = (g + 1021).toNat by (first | lia | omega)]
    show min infMag (_ + halfEven (Ma x * 2 ^ 53) (Ma y)) = _
    refine fin _ _ (by (first | lia | omega)) (halfEven_le ?_)
    exact Nat.mul_lt_mul_of_pos_right (by (first | lia | omega)) (by decide)
theorem fdivF_eq {x y : Nat} (hx : x < 18446744073709551616) (hy : y < 18446744073709551616) : fdivF x y = (Float64.div (UInt64.ofNat x) (UInt64.ofNat y)).toNat := by
  unfold fdivF
  rw [bsel_eq, both_eq, zeroP_eq]
  by_cases hx0 : x = 0
  · subst hx0
    rw [if_pos (Nat.beq_refl 0)]
    split
    · rename_i h
      unfold Float64.div
      rw [decode_mid hy h.1, decode_zero, ng_zero h.2]
      have hk : (Ma y == 0) = false := by have := Ma_pos y; simp; (first | lia | omega)
      show _ = (if (Ma y == 0) = true then _ else ofFrac (false != false) (shift 0 (Ma y) _).1 (shift 0 (Ma y) _).2).toNat
      rw [hk, if_neg (show ¬ (false = true) by decide), shift_zero]
      exact (ofFrac_zero _).symm
    · rfl
  · rw [if_neg (by simpa using hx0)]
    split
    · rename_i h
      obtain ⟨h1, h2⟩ := h
      unfold Float64.div div2
      rw [decode_mid hx h1, decode_mid hy h2, sgn2 hx hy]
      obtain ⟨a1, a2⟩ := h1
      obtain ⟨b1, b2⟩ := h2
      have hk : (Ma y == 0) = false := by have := Ma_pos y; simp; (first | lia | omega)
      show _ = (if (Ma y == 0) = true then _ else ofFrac (ng x != ng y) (shift (Ma x) (Ma y) ((Ex x : Int) - 1075 - ((Ex y : Int) - 1075))).1 (shift (Ma x) (Ma y) ((Ex x : Int) - 1075 - ((Ex y : Int) - 1075))).2).toNat
      rw [hk, if_neg (show ¬ (false = true) by decide)]
      unfold ofFrac
      rw [pack_toNat (roundMag_le _ _), roundDiv (by (first | lia | omega)) (by (first | lia | omega))]
      unfold div3
      rw [bsel_eq, forceN_eq, forceN_eq, rnd_eq, rnd_eq]
      by_cases h : Ma y ≤ Ma x
      · rw [if_pos (Nat.ble_eq.mpr h), if_pos h]
        have : ((Ex x : Int) - 1075 - ((Ex y : Int) - 1075) + 1022).toNat = Ex x + 1022 - Ex y := by (first | lia | omega)
        rw [this, ← Nat.add_assoc]; rfl
      · rw [if_neg (by simpa using h), if_neg h]
        have : ((Ex x : Int) - 1075 - ((Ex y : Int) - 1075) + 1021).toNat = Ex x + 1021 - Ex y := by (first | lia | omega)
        rw [this, ← Nat.add_assoc]; rfl
    · rfl
end Mine
end OfFL4
noncomputable section OfFL5
set_option autoImplicit false
set_option linter.unusedVariables false
namespace Mine
open PySem PySem.Float64

theorem ordI (p q : Int) : ofOrd (some (compare p q)) = if p < q then 0 else if p = q then 1 else 2 := by
  show ofOrd (some (compareOfLessAndEq p q)) = _
  unfold compareOfLessAndEq
  split
  · rfl
  · split <;> rfl
theorem cmpN_eq (x y : Nat) : cmpN x y = if x < y then 0 else if x = y then 1 else 2 := by
  unfold cmpN
  rw [bsel_eq, bsel_eq]
  by_cases h : x = y
  · subst h
    rw [if_pos (Nat.beq_refl x), if_neg (Nat.lt_irrefl x), if_pos rfl]
  · rw [if_neg (by simpa using h), if_neg h]
    by_cases h2 : x < y
    · rw [if_pos (Nat.ble_eq.mpr (by (first | lia | omega))), if_pos h2]
    · rw [if_neg (by simpa using (by (first | lia | omega) : y < x)), if_neg h2]
theorem cmp_fin {X Y : UInt64} {a b : Bool} {m k e f : Nat} (hX : decode X = .fin a m ((e : Int) - 1075)) (hY : decode Y = .fin b k ((f : Int) - 1075)) :
    Float64.cmp X Y = some (compare (sgn a (m * 2 ^ (e - min e f))) (sgn b (k * 2 ^ (f - min e f)))) := by
  unfold Float64.cmp
  rw [hX, hY]
  have h1 : min ((e : Int) - 1075) ((f : Int) - 1075) = ((min e f : Nat) : Int) - 1075 := by (first | lia | omega)
  have h2 : ((e : Int) - 1075 - (((min e f : Nat) : Int) - 1075)).toNat = e - min e f := by (first | lia | omega)
  have h3 : ((f : Int) - 1075 - (((min e f : Nat) : Int) - 1075)).toNat = f - min e f := by (first | lia | omega)
  show some (compare (sgn a (m * 2 ^ ((e : Int) - 1075 - min ((e : Int) - 1075) ((f : Int) - 1075)).toNat)) (sgn b (k * 2 ^ ((f : Int) - 1075 - min ((e : Int) - 1075) ((f : Int) - 1075)).toNat))) = _
  rw [h1, h2, h3]
theorem cmp_zero {x : Nat} (hx : x < 18446744073709551616) (h : Mid x) : ofOrd (Float64.cmp (UInt64.ofNat x) (UInt64.ofNat 0)) = if Sg x = 0 then 2 else 0 := by
  rw [cmp_fin (decode_mid hx h) (show decode (UInt64.ofNat 0) = .fin false 0 (((1 : Nat) : Int) - 1075) from decode_zero), ordI]
  obtain ⟨h1, h2⟩ := h
  have hp : 0 < Ma x * 2 ^ (Ex x - min (Ex x) 1) := Nat.mul_pos (Ma_pos x) (pw _)
  rw [Nat.zero_mul]
  generalize Ma x * 2 ^ (Ex x - min (Ex x) 1) = P at hp
  have e0 : sgn false 0 = 0 := rfl
  rw [e0]
  rcases Sg_lt hx with h | h
  · have : ng x = false := ng_zero h
    rw [this, h, if_pos rfl]
    have : sgn false P = P := rfl
    rw [this, if_neg (by (first | lia | omega)), if_neg (by (first | lia | omega))]
  · have : ng x = true := by unfold ng; rw [h]; rfl
    rw [this, h]
    have : sgn true P = -P := rfl
    rw [this, if_pos (by (first | lia | omega))]; rfl
noncomputable def bits (x : Nat) : Nat := Ex x * 2 ^ 52 + (Ma x - 2 ^ 52)
theorem mag_lt {x y : Nat} : Ma x * 2 ^ (Ex x - min (Ex x) (Ex y)) < Ma y * 2 ^ (Ex y - min (Ex x) (Ex y)) ↔ bits x < bits y := by
  have a1 := Ma_ge x
  have a2 := Ma_lt x
  have b1 := Ma_ge y
  have b2 := Ma_lt y
  unfold bits
  rcases Nat.lt_trichotomy (Ex x) (Ex y) with h | h | h
  · rw [show min (Ex x) (Ex y) = Ex x by (first | lia | omega), Nat.sub_self, Nat.pow_zero, Nat.mul_one]
    have h1 : 2 ^ 52 * 2 ^ 1 ≤ Ma y * 2 ^ (Ex y - Ex x) := Nat.mul_le_mul b1 (Nat.pow_le_pow_right (by decide) (by (first | lia | omega)))
    have h2 : (Ex x + 1) * 2 ^ 52 ≤ Ex y * 2 ^ 52 := Nat.mul_le_mul_right _ h
    rw [Nat.succ_mul] at h2
    constructor <;> intro _ <;> (first | lia | omega)
  · rw [h, Nat.min_self, Nat.sub_self, Nat.pow_zero, Nat.mul_one, Nat.mul_one]
    omega
  · rw [show min (Ex x) (Ex y) = Ex y by (first | lia | omega), Nat.sub_self, Nat.pow_zero, Nat.mul_one]
    have h1 : 2 ^ 52 * 2 ^ 1 ≤ Ma x * 2 ^ (Ex x - Ex y) := Nat.mul_le_mul a1 (Nat.pow_le_pow_right (by decide) (by (first | lia | omega)))
    have h2 : (Ex y + 1) * 2 ^ 52 ≤ Ex x * 2 ^ 52 := Nat.mul_le_mul_right _ h
    rw [Nat.succ_mul] at h2
    constructor <;> intro _ <;> (first | lia | omega)
theorem bits_eq {x : Nat} : x = Sg x * 2 ^ 63 + bits x := by
  have := split_eq (x := x)
  unfold bits
  rw [Nat.add_assoc] at this; exact this
theorem fcmp_eq {x y : Nat} (hx : x < 18446744073709551616) (hy : y < 18446744073709551616) : fcmp x y = ofOrd (Float64.cmp (UInt64.ofNat x) (UInt64.ofNat y)) := by
  unfold fcmp
  rw [bsel_eq, bsel_eq, one_eq, both_eq]
  by_cases hy0 : y = 0
  · subst hy0
    rw [if_pos (Nat.beq_refl 0)]
    by_cases hx0 : x = 0
    · subst hx0; rw [if_pos (Nat.beq_refl 0)]; with_unfolding_all rfl
    · rw [if_neg (by simpa using hx0)]
      split
      · rename_i h
        rw [cmp_zero hx h, bsel_eq]
        by_cases h0 : Sg x = 0
        · rw [if_pos (by rw [h0]; exact Nat.beq_refl 0), if_pos h0]
        · rw [if_neg (by simpa using h0), if_neg h0]
      · rfl
  · rw [if_neg (by simpa using hy0)]
    split
    · rename_i h
      obtain ⟨h1, h2⟩ := h
      rw [cmp_fin (decode_mid hx h1) (decode_mid hy h2), ordI, bsel_eq, bsel_eq, bsel_eq]
      have hxy := mag_lt (x := x) (y := y)
      have hyx := mag_lt (x := y) (y := x)
      rw [show min (Ex y) (Ex x) = min (Ex x) (Ex y) from Nat.min_comm _ _] at hyx
      have p1 : 0 < Ma x * 2 ^ (Ex x - min (Ex x) (Ex y)) := Nat.mul_pos (Ma_pos x) (pw _)
      have p2 : 0 < Ma y * 2 ^ (Ex y - min (Ex x) (Ex y)) := Nat.mul_pos (Ma_pos y) (pw _)
      generalize Ma x * 2 ^ (Ex x - min (Ex x) (Ex y)) = P at *
      generalize Ma y * 2 ^ (Ex y - min (Ex x) (Ex y)) = Q at *
      have ex := bits_eq (x := x)
      have ey := bits_eq (x := y)
      generalize bits x = X at *
      generalize bits y = Y at *
      have s1 : sgn false P = P := rfl
      have s2 : sgn true P = -P := rfl
      have s3 : sgn false Q = Q := rfl
      have s4 : sgn true Q = -Q := rfl
      rcases Sg_lt hx with g | g <;> rcases Sg_lt hy with g' | g'
      · have n1 : ng x = false := ng_zero g
        have n2 : ng y = false := ng_zero g'
        rw [g, Nat.zero_mul, Nat.zero_add] at ex
        rw [g', Nat.zero_mul, Nat.zero_add] at ey
        rw [g, g', n1, n2, s1, s3, if_pos (by decide), if_pos (by decide), cmpN_eq, ex, ey]
        clear hx hy ex ey
        by_cases c1 : X < Y
        · rw [if_pos c1, if_pos (by (first | lia | omega))]
        · rw [if_neg c1, if_neg (show ¬ (P : Int) < Q by (first | lia | omega))]
          by_cases c2 : X = Y
          · rw [if_pos c2, if_pos (by (first | lia | omega))]
          · rw [if_neg c2, if_neg (by (first | lia | omega))]
      · have n1 : ng x = false := ng_zero g
        have n2 : ng y = true := by unfold ng; rw [g']; rfl
        rw [g, g', n1, n2, s1, s4, if_neg (by decide), if_pos (by decide), if_neg (by (first | lia | omega)), if_neg (by (first | lia | omega))]
      · have n1 : ng x = true := by unfold ng; rw [g]; rfl
        have n2 : ng y = false := ng_zero g'
        rw [g, g', n1, n2, s2, s3, if_neg (by decide), if_neg (by decide), if_pos (by (first | lia | omega))]
      · have n1 : ng x = true := by unfold ng; rw [g]; rfl
        have n2 : ng y = true := by unfold ng; rw [g']; rfl
        rw [g] at ex
        rw [g'] at ey
        rw [g, g', n1, n2, s2, s4, if_pos (by decide), if_neg (by decide), cmpN_eq]
        have q1 : y < x ↔ Y < X := by rw [ex, ey]; exact ⟨fun h => Nat.lt_of_add_lt_add_left h, fun h => Nat.add_lt_add_left h _⟩
        have q2 : y = x ↔ Y = X := by rw [ex, ey]; exact ⟨fun h => Nat.add_left_cancel h, fun h => by rw [h]⟩
        simp only [q1, q2]
        clear hx hy ex ey q1 q2
        by_cases c1 : Y < X
        · rw [if_pos c1, if_pos (by (first | lia | omega))]
        · rw [if_neg c1, if_neg (show ¬ -(P : Int) < -Q by (first | lia | omega))]
          by_cases c2 : Y = X
          · rw [if_pos c2, if_pos (by (first | lia | omega))]
          · rw [if_neg c2, if_neg (by (first | lia | omega))]
    · rfl
end Mine
end OfFL5
noncomputable section OfFL6
set_option autoImplicit false
set_option linter.unusedVariables false
namespace Mine
open PySem PySem.Float64

theorem cmpPos_eq (e m n : Nat) : cmpPos e m n = ofOrd (some (if ((e : Int) - 1075) ≥ 0 then compare ((m : Int) * 2 ^ ((e : Int) - 1075).toNat) n else compare (m : Int) ((n : Int) * 2 ^ (-((e : Int) - 1075)).toNat))) := by
  unfold cmpPos
  rw [bsel_eq, forceN_eq, forceN_eq, cmpN_eq, cmpN_eq]
  by_cases h : e ≤ 1075
  · rw [if_pos (Nat.ble_eq.mpr h)]
    by_cases h2 : e = 1075
    · subst h2
      rw [if_pos (show (((1075 : Nat) : Int) - 1075) ≥ 0 by decide)]
      show (if m < n * 2 ^ 0 then 0 else if m = n * 2 ^ 0 then 1 else 2) = ofOrd (some (compare ((m : Int) * (2 : Int) ^ 0) (n : Int)))
      rw [ordI, Nat.pow_zero, Nat.mul_one, Int.pow_zero, Int.mul_one]
      simp only [Int.ofNat_lt, Int.ofNat_inj]
    · rw [if_neg (show ¬ ((e : Int) - 1075) ≥ 0 by (first | lia | omega)), ordI]
      have : (-((e : Int) - 1075)).toNat = 1075 - e := by (first | lia | omega)
      rw [this]
      have e1 : (n : Int) * 2 ^ (1075 - e) = ((n * 2 ^ (1075 - e) : Nat) : Int) := by push_cast; rfl
      rw [e1]
      simp only [Int.ofNat_lt, Int.ofNat_inj]
      rfl
  · rw [if_neg (by simpa using h), if_pos (show ((e : Int) - 1075) ≥ 0 by (first | lia | omega)), ordI]
    have : ((e : Int) - 1075).toNat = e - 1075 := by (first | lia | omega)
    rw [this]
    have e1 : (m : Int) * 2 ^ (e - 1075) = ((m * 2 ^ (e - 1075) : Nat) : Int) := by push_cast; rfl
    rw [e1]
    simp only [Int.ofNat_lt, Int.ofNat_inj]
    rfl
theorem ord_neg (p q : Int) : ofOrd (some (compare (-p) (-q))) = 2 - ofOrd (some (compare p q)) := by
  rw [ordI, ordI]
  by_cases h1 : p < q
  · rw [if_pos h1, if_neg (by (first | lia | omega)), if_neg (by (first | lia | omega))]
  · rw [if_neg h1]
    by_cases h2 : p = q
    · rw [if_pos h2, if_neg (by (first | lia | omega)), if_pos (by (first | lia | omega))]
    · rw [if_neg h2, if_pos (by (first | lia | omega))]
theorem fcmpI_eq {x : Nat} {i : Int} (hx : x < 18446744073709551616) : fcmpI x i = ofOrd (Float64.cmpInt (UInt64.ofNat x) i) := by
  unfold fcmpI
  rw [one_eq]
  split
  · rename_i h
    unfold Float64.cmpInt
    rw [decode_mid hx h]
    have mp := Ma_pos x
    generalize Ma x = m at mp
    generalize Ex x = e
    show _ = ofOrd (some (if ((e : Int) - 1075) ≥ 0 then compare (sgn (ng x) m * 2 ^ ((e : Int) - 1075).toNat) i else compare (sgn (ng x) m) (i * 2 ^ (-((e : Int) - 1075)).toNat)))
    have p1 : 0 < (m : Int) * 2 ^ ((e : Int) - 1075).toNat := Int.mul_pos (by (first | lia | omega)) (Int.pow_pos (by decide))
    have p2 : (0 : Int) < 2 ^ (-((e : Int) - 1075)).toNat := Int.pow_pos (by decide)
    rcases Sg_lt hx with g | g
    · have n1 : ng x = false := ng_zero g
      rw [n1, g]
      have s1 : sgn false m = m := rfl
      rw [s1]
      cases i with
      | ofNat n => exact cmpPos_eq e m n
      | negSucc n =>
        show 2 = _
        have hn : Int.negSucc n < 0 := Int.negSucc_lt_zero n
        have hm : Int.negSucc n * 2 ^ (-((e : Int) - 1075)).toNat < 0 := Int.mul_neg_of_neg_of_pos hn p2
        split
        · rw [ordI, if_neg (by (first | lia | omega)), if_neg (by (first | lia | omega))]
        · rw [ordI, if_neg (by (first | lia | omega)), if_neg (by (first | lia | omega))]
    · have n1 : ng x = true := by unfold ng; rw [g]; rfl
      rw [n1, g]
      have s1 : sgn true m = -(m : Int) := rfl
      rw [s1]
      cases i with
      | ofNat n =>
        show 0 = _
        have hm : 0 ≤ Int.ofNat n * 2 ^ (-((e : Int) - 1075)).toNat := Int.mul_nonneg (Int.natCast_nonneg n) (Int.le_of_lt p2)
        have hn : 0 ≤ Int.ofNat n := Int.natCast_nonneg n
        split
        · rw [ordI, if_pos (by rw [Int.neg_mul]; (first | lia | omega))]
        · rw [ordI, if_pos (by (first | lia | omega))]
      | negSucc n =>
        show 2 - cmpPos e m (n + 1) = _
        rw [cmpPos_eq]
        have e1 : Int.negSucc n = -((n + 1 : Nat) : Int) := rfl
        rw [e1]
        split
        · rw [← ord_neg, Int.neg_mul]
        · rw [← ord_neg, Int.neg_mul]
  · rfl
theorem ftrunc_eq {x : Nat} {i : Int} (hx : x < 18446744073709551616) (h : ftrunc x = some i) : ∃ sg m e, Float64.decode (UInt64.ofNat x) = .fin sg m e ∧ Float64.truncOf sg m e = i := by
  unfold ftrunc at h
  rw [bsel_eq, one_eq] at h
  by_cases hx0 : x = 0
  · subst hx0
    rw [if_pos (Nat.beq_refl 0)] at h
    cases h
    exact ⟨_, _, _, decode_zero, by decide⟩
  · rw [if_neg (by simpa using hx0)] at h
    split at h
    · rename_i hm
      rw [bsel_eq] at h
      split at h
      · rename_i h0
        have h0 := Nat.eq_of_beq_eq_true h0
        refine ⟨_, _, _, decode_mid hx hm, ?_⟩
        rw [ng_zero h0]
        cases h
        show floorOf false (Ma x) ((Ex x : Int) - 1075) = _
        unfold floorOf
        have s1 : sgn false (Ma x) = Ma x := rfl
        rw [s1, bsel_eq]
        by_cases h1 : Ex x ≤ 1075
        · rw [if_pos (Nat.ble_eq.mpr h1)]
          by_cases h2 : Ex x = 1075
          · rw [h2, if_pos (show (((1075 : Nat) : Int) - 1075) ≥ 0 by decide)]
            show (Ma x : Int) * 2 ^ 0 = Int.ofNat (Ma x / 2 ^ 0)
            rw [Int.pow_zero, Int.mul_one, Nat.pow_zero, Nat.div_one]; rfl
          · rw [if_neg (show ¬ ((Ex x : Int) - 1075) ≥ 0 by (first | lia | omega)), show (-((Ex x : Int) - 1075)).toNat = 1075 - Ex x by (first | lia | omega)]
            have e1 : (2 : Int) ^ (1075 - Ex x) = ((2 ^ (1075 - Ex x) : Nat) : Int) := by push_cast; rfl
            rw [e1, Int.fdiv_eq_ediv_of_nonneg _ (Int.natCast_nonneg _)]
            exact (Int.natCast_ediv _ _).symm
        · rw [if_neg (show ¬ (Nat.ble (Ex x) 1075 = true) by simpa using h1), if_pos (show ((Ex x : Int) - 1075) ≥ 0 by (first | lia | omega)), show ((Ex x : Int) - 1075).toNat = Ex x - 1075 by (first | lia | omega)]
          show _ = ((Ma x * 2 ^ (Ex x - 1075) : Nat) : Int)
          push_cast; rfl
      · cases h
    · cases h
theorem posF_eq {n : Nat} (hn : 0 < n) : posF n = roundMag n 1 := by
  unfold posF
  rw [forceN_eq, lg_eq hn, bsel_eq]
  by_cases h : n.log2 ≤ 52
  · rw [if_pos (Nat.ble_eq.mpr h)]
    have := roundBin (n := n) (e := 1075) (i := 0) (j := 0) hn (by (first | lia | omega)) (by (first | lia | omega)) (by (first | lia | omega))
    rw [Nat.pow_zero, Nat.mul_one, Nat.mul_one] at this
    rw [this]
    unfold mant
    rw [if_pos h, show n.log2 + 1075 - 53 = n.log2 + 1022 by (first | lia | omega)]; rfl
  · rw [if_neg (by simpa using h)]
    unfold Float64.ofInt Float64.ofFrac
    show (pack (decide ((n : Int) < 0)) (roundMag (n : Int).natAbs 1)).toNat = _
    rw [decide_eq_false (by (first | lia | omega)), pack_toNat (roundMag_le _ _)]
    simp
theorem fofI_eq (i : Int) : fofI i = (Float64.ofInt i).toNat := by
  unfold fofI
  cases i with
  | ofNat n =>
    unfold Float64.ofInt Float64.ofFrac
    show bsel (Nat.beq n 0) 0 (posF n) = (pack (decide ((n : Int) < 0)) (roundMag (n : Int).natAbs 1)).toNat
    rw [decide_eq_false (by (first | lia | omega)), pack_toNat (roundMag_le _ _), bsel_eq]
    by_cases h : n = 0
    · subst h; rw [if_pos (Nat.beq_refl 0)]; decide
    · rw [if_neg (by simpa using h), posF_eq (by (first | lia | omega))]; simp
  | negSucc n =>
    unfold Float64.ofInt Float64.ofFrac
    show 9223372036854775808 + posF (n + 1) = (pack (decide (Int.negSucc n < 0)) (roundMag (Int.negSucc n).natAbs 1)).toNat
    rw [decide_eq_true (Int.negSucc_lt_zero n), pack_toNat (roundMag_le _ _), posF_eq (by (first | lia | omega))]; rfl
theorem isZero_iff {y : Nat} (hy : y < 18446744073709551616) : Float64.isZero (UInt64.ofNat y) = true ↔ y = 0 ∨ y = 9223372036854775808 := by
  unfold Float64.isZero decode
  rw [toNat_ofNat hy]
  show (match (if Ex y == 2047 then (if y % 2 ^ 52 == 0 then Num.inf (ng y) else .nan) else if Ex y == 0 then Num.fin (ng y) (y % 2 ^ 52) (-1074) else Num.fin (ng y) (2 ^ 52 + y % 2 ^ 52) ((Ex y : Int) - 1075)) with | .fin _ 0 _ => true | _ => false) = true ↔ _
  have hs := split_eq (x := y)
  have hma : Ma y - 2 ^ 52 = y % 2 ^ 52 := by unfold Ma; (first | lia | omega)
  rw [hma] at hs
  have hr : y % 2 ^ 52 < 2 ^ 52 := Nat.mod_lt _ (by decide)
  have hE : Ex y < 2048 := Nat.mod_lt _ (by decide)
  have hSg := Sg_lt hy
  have e63 : (2 : Nat) ^ 63 = 9223372036854775808 := by decide
  by_cases h1 : Ex y = 2047
  · rw [if_pos (by simpa using h1)]
    rw [h1] at hs
    constructor
    · intro h
      exfalso
      by_cases h3 : (y % 2 ^ 52 == 0) = true
      · rw [if_pos h3] at h; cases h
      · rw [if_neg h3] at h; cases h
    · intro h
      exfalso
      rcases hSg with g | g <;> rw [g] at hs <;> rcases h with h | h <;> (first | lia | omega)
  · rw [if_neg (by simpa using h1)]
    by_cases h2 : Ex y = 0
    · rw [if_pos (by simpa using h2)]
      rw [h2, Nat.zero_mul, Nat.add_zero] at hs
      by_cases h3 : y % 2 ^ 52 = 0
      · rw [h3]
        rw [h3, Nat.add_zero, e63] at hs
        refine ⟨fun _ => ?_, fun _ => rfl⟩
        rcases hSg with g | g <;> rw [g] at hs
        · left; rw [Nat.zero_mul] at hs; exact hs
        · right; rw [Nat.one_mul] at hs; exact hs
      · generalize y % 2 ^ 52 = r at h3 hs hr
        constructor
        · intro h
          match r, h3 with
          | r + 1, _ => cases h
        · intro h
          exfalso
          rcases hSg with g | g <;> rw [g] at hs <;> rcases h with h | h <;> (first | lia | omega)
    · rw [if_neg (by simpa using h2)]
      constructor
      · intro h
        have : ∃ k, 2 ^ 52 + y % 2 ^ 52 = k + 1 := ⟨2 ^ 52 + y % 2 ^ 52 - 1, by (first | lia | omega)⟩
        obtain ⟨k, hk⟩ := this
        rw [hk] at h; cases h
      · intro h
        exfalso
        have h4 : 1 * 2 ^ 52 ≤ Ex y * 2 ^ 52 := Nat.mul_le_mul_right _ (by (first | lia | omega))
        have h5 : Ex y * 2 ^ 52 ≤ 2046 * 2 ^ 52 := Nat.mul_le_mul_right _ (by (first | lia | omega))
        rcases hSg with g | g <;> rw [g] at hs <;> rcases h with h | h <;> (first | lia | omega)
end Mine
end OfFL6
noncomputable section OfFL7
set_option autoImplicit false
set_option linter.unusedVariables false
namespace Mine
open PySem PySem.Float64

theorem parts_of {s t m : Nat} (hs : s ≤ 1) (ht : t < 2047) (h1 : 2 ^ 52 ≤ m) (h2 : m < 2 ^ 53) : Sg (s * 2 ^ 63 + t * 2 ^ 52 + m) = s ∧ Ex (s * 2 ^ 63 + t * 2 ^ 52 + m) = t + 1 ∧ Ma (s * 2 ^ 63 + t * 2 ^ 52 + m) = m := by
  unfold Sg Ex Ma
  have e63 : (2 : Nat) ^ 63 = 9223372036854775808 := by decide
  have e52 : (2 : Nat) ^ 52 = 4503599627370496 := by decide
  have e53 : (2 : Nat) ^ 53 = 9007199254740992 := by decide
  rw [e53] at h2
  rw [e52] at h1
  rw [e63, e52]
  refine ⟨?_, ?_, ?_⟩ <;> omega
theorem posF_parts {n : Nat} (hn : 0 < n) (h : n.log2 ≤ 52) : posF n = (n.log2 + 1022) * 2 ^ 52 + n * 2 ^ (52 - n.log2) ∧ 2 ^ 52 ≤ n * 2 ^ (52 - n.log2) ∧ n * 2 ^ (52 - n.log2) < 2 ^ 53 := by
  refine ⟨?_, ?_, ?_⟩
  · unfold posF
    rw [forceN_eq, lg_eq hn, bsel_eq, if_pos (Nat.ble_eq.mpr h)]; rfl
  · have h1 := Nat.log2_self_le (Nat.pos_iff_ne_zero.mp hn)
    have : 2 ^ n.log2 * 2 ^ (52 - n.log2) ≤ n * 2 ^ (52 - n.log2) := Nat.mul_le_mul_right _ h1
    rwa [← Nat.pow_add, show n.log2 + (52 - n.log2) = 52 by (first | lia | omega)] at this
  · have h1 := Nat.lt_log2_self (n := n)
    have : n * 2 ^ (52 - n.log2) < 2 ^ (n.log2 + 1) * 2 ^ (52 - n.log2) := Nat.mul_lt_mul_of_pos_right h1 (pw _)
    rwa [← Nat.pow_add, show n.log2 + 1 + (52 - n.log2) = 53 by (first | lia | omega)] at this
theorem log2_small {n : Nat} (h : n ≤ 1048576) : n.log2 ≤ 20 := by
  rcases Nat.eq_zero_or_pos n with h0 | h0
  · subst h0; decide
  · exact log2_le h0 (by (first | lia | omega))
structure IntF (a : Int) (x : Nat) : Prop where
  lt : x < 18446744073709551616
  mid : Mid x
  ng : ng x = decide (a < 0)
  ex : Ex x = a.natAbs.log2 + 1023
  ma : Ma x = a.natAbs * 2 ^ (52 - a.natAbs.log2)
theorem intF {a : Int} (h0 : a ≠ 0) (h : a.natAbs ≤ 1048576) : IntF a (fofI a) := by
  have hn : 0 < a.natAbs := by (first | lia | omega)
  have hl := log2_small h
  obtain ⟨p1, p2, p3⟩ := posF_parts hn (by (first | lia | omega))
  have key : ∃ s, s ≤ 1 ∧ fofI a = s * 2 ^ 63 + (a.natAbs.log2 + 1022) * 2 ^ 52 + a.natAbs * 2 ^ (52 - a.natAbs.log2) ∧ (s == 1) = decide (a < 0) := by
    cases a with
    | ofNat n =>
      refine ⟨0, by decide, ?_, ?_⟩
      · show bsel (Nat.beq n 0) 0 (posF n) = _
        have hn0 : n ≠ 0 := by intro q; apply h0; rw [q]; rfl
        rw [bsel_eq, if_neg (by simpa using hn0), Nat.zero_mul, Nat.zero_add]
        exact p1
      · rw [decide_eq_false (by have := Int.natCast_nonneg n; show ¬ ((n : Int) < 0); (first | lia | omega))]; rfl
    | negSucc n =>
      refine ⟨1, by decide, ?_, ?_⟩
      · show 9223372036854775808 + posF (n + 1) = _
        have p1 : posF (n + 1) = ((n + 1).log2 + 1022) * 2 ^ 52 + (n + 1) * 2 ^ (52 - (n + 1).log2) := p1
        rw [p1, Nat.one_mul, ← Nat.add_assoc]; rfl
      · rw [decide_eq_true (Int.negSucc_lt_zero n)]; rfl
  obtain ⟨s, hs, he, hd⟩ := key
  obtain ⟨q1, q2, q3⟩ := parts_of hs (show a.natAbs.log2 + 1022 < 2047 by (first | lia | omega)) p2 p3
  rw [← he] at q1 q2 q3
  refine ⟨?_, ⟨by (first | lia | omega), by (first | lia | omega)⟩, ?_, by (first | lia | omega), q3⟩
  · rw [fofI_eq]; exact toNat_lt _
  · unfold Mine.ng; rw [q1]; exact hd
theorem lastP_bounds {n d : Nat} (hn : n ≤ 1048576) (hd : d ≤ 1048576) : -73 ≤ lastP n d ∧ lastP n d ≤ -32 := by
  have h1 := log2_small hn
  have h2 := log2_small hd
  unfold lastP
  simp only []
  split <;> (first | lia | omega)
theorem div_ints {a b : Int} (ha : a.natAbs ≤ 1048576) (hb : b.natAbs ≤ 1048576) (hb0 : b ≠ 0) : Float64.div (UInt64.ofNat (fofI a)) (UInt64.ofNat (fofI b)) = ofFrac (decide (a < 0) != decide (b < 0)) a.natAbs b.natAbs := by
  have B := intF hb0 hb
  have hk : (Ma (fofI b) == 0) = false := by have := Ma_pos (fofI b); simp; (first | lia | omega)
  unfold Float64.div
  rw [decode_mid B.lt B.mid]
  by_cases ha0 : a = 0
  · subst ha0
    show (match decode (UInt64.ofNat 0), Num.fin (ng (fofI b)) (Ma (fofI b)) ((Ex (fofI b) : Int) - 1075) with
      | .nan, _ | _, .nan => nan
      | .inf _, .inf _ => nan
      | .inf a, .fin b _ _ => inf (a != b)
      | .fin a _ _, .inf b => zero (a != b)
      | .fin a m e, .fin b k f =>
        if k == 0 then (if m == 0 then nan else inf (a != b)) else
        let (n, d) := shift m k (e - f)
        ofFrac (a != b) n d) = _
    rw [decode_zero]
    show (if (Ma (fofI b) == 0) = true then _ else ofFrac (false != ng (fofI b)) (shift 0 (Ma (fofI b)) _).1 (shift 0 (Ma (fofI b)) _).2) = _
    rw [hk, if_neg (show ¬ (false = true) by decide), shift_zero, B.ng]
    unfold ofFrac
    rw [roundMag_zero]
    show _ = pack _ (roundMag 0 _)
    rw [roundMag_zero]; rfl
  · have A := intF ha0 ha
    rw [decode_mid A.lt A.mid]
    show (if (Ma (fofI b) == 0) = true then _ else ofFrac (ng (fofI a) != ng (fofI b)) (shift (Ma (fofI a)) (Ma (fofI b)) ((Ex (fofI a) : Int) - 1075 - ((Ex (fofI b) : Int) - 1075))).1 (shift (Ma (fofI a)) (Ma (fofI b)) ((Ex (fofI a) : Int) - 1075 - ((Ex (fofI b) : Int) - 1075))).2) = _
    rw [hk, if_neg (show ¬ (false = true) by decide), A.ng, B.ng]
    unfold ofFrac
    congr 1
    obtain ⟨i, j, e, hij⟩ := shift_form (Ma (fofI a)) (Ma (fofI b)) ((Ex (fofI a) : Int) - 1075 - ((Ex (fofI b) : Int) - 1075))
    rw [e]
    show roundMag (Ma (fofI a) * 2 ^ i) (Ma (fofI b) * 2 ^ j) = _
    have hla := log2_small ha
    have hlb := log2_small hb
    have na : 0 < a.natAbs := by (first | lia | omega)
    have nb : 0 < b.natAbs := by (first | lia | omega)
    obtain ⟨l1, l2⟩ := lastP_bounds ha hb
    rw [A.ex, B.ex] at hij
    rw [A.ma, B.ma, Nat.mul_assoc, Nat.mul_assoc, ← Nat.pow_add, ← Nat.pow_add]
    have g1 := roundMag_gen (i := 52 - a.natAbs.log2 + i) (j := 52 - b.natAbs.log2 + j) na nb (by (first | lia | omega))
    have g2 := roundMag_gen (i := 0) (j := 0) na nb (by (first | lia | omega))
    rw [Nat.pow_zero, Nat.mul_one, Nat.mul_one] at g2
    rw [g1, g2]
    congr 3
    (first | lia | omega)
theorem fdivI_eq {a b : Int} {z : Nat} (ha : a.natAbs ≤ 1048576) (hb : b.natAbs ≤ 1048576) (h : fdivI a b = some z) :
    b ≠ 0 ∧ z = (Float64.ofFrac (decide (a < 0) != decide (b < 0)) a.natAbs b.natAbs).toNat := by
  unfold fdivI at h
  rw [forceN_eq, forceN_eq, bsel_eq] at h
  split at h
  · cases h
  · rename_i h0
    have hb0 : b ≠ 0 := by
      rintro rfl
      exact h0 (Nat.beq_refl 0)
    cases h
    refine ⟨hb0, ?_⟩
    rw [fdivF_eq (by rw [fofI_eq]; exact toNat_lt _) (by rw [fofI_eq]; exact toNat_lt _), div_ints ha hb hb0]
theorem halfEven_crude {n d : Nat} (hn : 0 < n) (hd : 0 < d) (hl : lastP n d ≤ 0) : halfEven (shift n d (-lastP n d)).1 (shift n d (-lastP n d)).2 ≤ 2 ^ 54 := by
  have h1 := Nat.lt_log2_self (n := n)
  have h2 := Nat.log2_self_le (Nat.pos_iff_ne_zero.mp hd)
  have hq : lastP n d = (n.log2 : Int) - d.log2 - 52 ∨ lastP n d = (n.log2 : Int) - d.log2 - 53 := by
    unfold lastP; simp only []; split
    · exact .inl rfl
    · exact .inr rfl
  unfold shift
  rw [if_pos (by (first | lia | omega))]
  show halfEven (n * 2 ^ (-lastP n d).toNat) d ≤ 2 ^ 54
  apply halfEven_le
  have h3 : n * 2 ^ (-lastP n d).toNat < 2 ^ (n.log2 + 1) * 2 ^ (-lastP n d).toNat := Nat.mul_lt_mul_of_pos_right h1 (pw _)
  have h4 : 2 ^ d.log2 * 2 ^ 54 ≤ d * 2 ^ 54 := Nat.mul_le_mul_right _ h2
  rw [← Nat.pow_add] at h3 h4
  exact Nat.lt_of_lt_of_le h3 (Nat.le_trans (Nat.pow_le_pow_right (by decide) (by (first | lia | omega))) h4)
theorem noInf_of {X : UInt64} (h : X.toNat / 2 ^ 52 % 2048 ≠ 2047) : Float64.isInf X = false := by
  unfold Float64.isInf decode
  simp only []
  rw [if_neg (by simpa using h)]
  by_cases h0 : (X.toNat / 2 ^ 52 % 2048 == 0) = true
  · rw [if_pos h0]
  · rw [if_neg h0]
theorem ofFrac_noInf {a b : Int} (ha : a.natAbs ≤ 1048576) (hb : b.natAbs ≤ 1048576) (hb0 : b ≠ 0) : ¬ Float64.isInf (Float64.ofFrac (decide (a < 0) != decide (b < 0)) a.natAbs b.natAbs) = true := by
  have hm : roundMag a.natAbs b.natAbs < 2046 * 2 ^ 52 := by
    by_cases h0 : a = 0
    · subst h0
      show roundMag 0 _ < _
      rw [roundMag_zero]; decide
    · have na : 0 < a.natAbs := by (first | lia | omega)
      have nb : 0 < b.natAbs := by (first | lia | omega)
      obtain ⟨l1, l2⟩ := lastP_bounds ha hb
      have g2 := roundMag_gen (i := 0) (j := 0) na nb (by (first | lia | omega))
      rw [Nat.pow_zero, Nat.mul_one, Nat.mul_one] at g2
      rw [g2]
      refine Nat.lt_of_le_of_lt (Nat.min_le_right _ _) ?_
      have h1 := halfEven_crude na nb (by (first | lia | omega))
      have h2 : (lastP a.natAbs b.natAbs + (0 : Nat) - (0 : Nat) + 1074).toNat * 2 ^ 52 ≤ 1042 * 2 ^ 52 := Nat.mul_le_mul_right _ (by (first | lia | omega))
      exact Nat.lt_of_le_of_lt (Nat.add_le_add h2 h1) (by decide)
  have hE : (ofFrac (decide (a < 0) != decide (b < 0)) a.natAbs b.natAbs).toNat / 2 ^ 52 % 2048 ≠ 2047 := by
    unfold ofFrac
    generalize roundMag a.natAbs b.natAbs = m at hm
    rw [pack_toNat (by rw [infMag_eq]; exact Nat.le_trans (Nat.le_of_lt hm) (by decide))]
    have e52 : (2 : Nat) ^ 52 = 4503599627370496 := by decide
    rw [e52] at hm ⊢
    split <;> (first | lia | omega)
  rw [noInf_of hE]; decide
theorem eq_of_toNat {x : UInt64} {y : Nat} (h : x.toNat = y) : x = UInt64.ofNat y := by rw [← h, ofNat_toNat]
theorem mid_one : Mid 4607182418800017408 := by decide
theorem mod_one {x : Nat} (hx : x < 18446744073709551616) (h : Mid x) (he : Ex x ≤ 1022) : Float64.fmod (UInt64.ofNat x) (UInt64.ofNat 4607182418800017408) = UInt64.ofNat x := by
  apply eq_of_toNat
  unfold Float64.fmod
  rw [decode_mid hx h, decode_mid (by decide) mid_one]
  have e1 : Ma 4607182418800017408 = 2 ^ 52 := by decide
  have e2 : Ex 4607182418800017408 = 1023 := by decide
  rw [e1, e2]
  have hmin : min ((Ex x : Int) - 1075) (((1023 : Nat) : Int) - 1075) = (Ex x : Int) - 1075 := by (first | lia | omega)
  show (if (2 ^ 52 == 0) = true then nan else ofBin (ng x) ((sgn false (Ma x * 2 ^ ((Ex x : Int) - 1075 - min ((Ex x : Int) - 1075) (((1023 : Nat) : Int) - 1075)).toNat)).toNat % (sgn false (2 ^ 52 * 2 ^ (((1023 : Nat) : Int) - 1075 - min ((Ex x : Int) - 1075) (((1023 : Nat) : Int) - 1075)).toNat)).toNat) (min ((Ex x : Int) - 1075) (((1023 : Nat) : Int) - 1075))).toNat = x
  rw [if_neg (by decide), hmin, Int.sub_self]
  have e3 : (((1023 : Nat) : Int) - 1075 - ((Ex x : Int) - 1075)).toNat = 1023 - Ex x := by (first | lia | omega)
  rw [e3]
  have e4 : (sgn false (Ma x * 2 ^ (0 : Int).toNat)).toNat = Ma x := by
    show (((Ma x * 2 ^ 0 : Nat) : Int)).toNat = _
    rw [Nat.pow_zero, Nat.mul_one]; rfl
  have e5 : (sgn false (2 ^ 52 * 2 ^ (1023 - Ex x))).toNat = 2 ^ 52 * 2 ^ (1023 - Ex x) := Int.toNat_natCast _
  rw [e4, e5]
  have hlt : Ma x < 2 ^ 52 * 2 ^ (1023 - Ex x) := by
    have h1 := Ma_lt x
    have h2 : 2 ^ 52 * 2 ^ 1 ≤ 2 ^ 52 * 2 ^ (1023 - Ex x) := Nat.mul_le_mul_left _ (Nat.pow_le_pow_right (by decide) (by (first | lia | omega)))
    exact Nat.lt_of_lt_of_le h1 h2
  rw [Nat.mod_eq_of_lt hlt]
  have := ofBin_self (j := 0) (e := Ex x) (g := (Ex x : Int) - 1075) hx h (by (first | lia | omega)) rfl
  rwa [Nat.pow_zero, Nat.mul_one] at this
theorem lt_zero {x : Nat} (hx : x < 18446744073709551616) (h : Mid x) : Float64.lt (UInt64.ofNat x) (zero false) = !(Nat.beq (Sg x) 0) := by
  have h1 := cmp_zero hx h
  have hz : zero false = UInt64.ofNat 0 := by decide
  unfold Float64.lt
  rw [hz]
  generalize Float64.cmp (UInt64.ofNat x) (UInt64.ofNat 0) = o at h1
  rcases Sg_lt hx with g | g <;> rw [g] at h1 ⊢
  · rw [if_pos rfl] at h1
    cases o with
    | none => cases h1
    | some c => cases c <;> first | decide | cases h1
  · rw [if_neg (by decide)] at h1
    cases o with
    | none => cases h1
    | some c => cases c <;> first | decide | cases h1
theorem fmodF_eq {x y : Nat} (hx : x < 18446744073709551616) (hy : y < 18446744073709551616) : fmodF x y = (Float64.divmod (UInt64.ofNat x) (UInt64.ofNat y)).2.toNat := by
  unfold fmodF
  rw [bsel_eq]
  split
  · rename_i h
    have h := Nat.eq_of_beq_eq_true h
    subst h
    unfold fmod1
    rw [bsel_eq, one_eq]
    by_cases hx0 : x = 0
    · subst hx0
      rw [if_pos (Nat.beq_refl 0)]
      decide +kernel
    · rw [if_neg (by simpa using hx0)]
      split
      · rename_i h
        rw [bsel_eq]
        split
        · rename_i he
          have he := Nat.ble_eq.mp he
          have hz : Float64.isZero (UInt64.ofNat x) = false := by
            cases hh : Float64.isZero (UInt64.ofNat x) with
            | false => rfl
            | true =>
              rcases (isZero_iff hx).mp hh with q | q
              · exact absurd q hx0
              · subst q; exact absurd h (by decide)
          have hl1 : Float64.lt (UInt64.ofNat 4607182418800017408) (zero false) = false := by decide +kernel
          unfold Float64.divmod
          simp only [mod_one hx h he, hz, hl1, lt_zero hx h, Bool.false_eq_true, if_false]
          rw [bsel_eq]
          by_cases h0 : Sg x = 0
          · rw [h0, if_pos (Nat.beq_refl 0)]
            show x = (UInt64.ofNat x).toNat
            rw [toNat_ofNat hx]
          · have : Nat.beq (Sg x) 0 = false := by
              cases hb : Nat.beq (Sg x) 0 with
              | false => rfl
              | true => exact absurd (Nat.eq_of_beq_eq_true hb) h0
            rw [this, if_neg (by decide), fadd_eq hx (by decide)]
            rfl
        · rfl
      · rfl
  · rfl
end Mine
end OfFL7
noncomputable section OfMiniEv
set_option autoImplicit false
set_option linter.unusedVariables false
namespace Mine
open PySem

inductive BI where | len | range | list | min | max | int | sorted
inductive MV where
  | none
  | bool (b : Bool)
  | int (i : Int)
  | lin (v : Nat) (a b : Int)
  | any
  | flt (x : Nat)
  | str (s : List Nat)
  | tup (l : List MV)
  | lst (i : Nat)
  | rng (a b c : Int)
  | fn (f : Nat)
  | bi (k : BI)
  | lam

inductive Op2 where | add | sub | mul | div | fdiv | mod | pow
inductive Cm where | eq | ne | lt | le | gt | ge | is | isin

noncomputable abbrev Sl := List (Option MV)
noncomputable abbrev St := List (List MV)

inductive RV where | no | ok (v : MV) (st : St)
inductive RL where | no | ok (vs : List MV) (st : St)
inductive RB where | no | ok (b : Bool) (st : St)
inductive RX where | no | nx (ρ : Sl) (st : St) | rt (v : MV) (st : St)
inductive RS where | no | ok (ρ : Sl) (st : St)
noncomputable def RV.b {α : Type} (r : RV) (z : α) (k : MV → St → α) : α := @RV.rec (fun _ => α) z k r
noncomputable def RL.b {α : Type} (r : RL) (z : α) (k : List MV → St → α) : α := @RL.rec (fun _ => α) z k r
noncomputable def RB.b {α : Type} (r : RB) (z : α) (k : Bool → St → α) : α := @RB.rec (fun _ => α) z k r
noncomputable def RX.b {α : Type} (r : RX) (z : α) (k : Sl → St → α) (t : MV → St → α) : α := @RX.rec (fun _ => α) z k t r
noncomputable def RS.b {α : Type} (r : RS) (z : α) (k : Sl → St → α) : α := @RS.rec (fun _ => α) z k r
noncomputable def ob {α β : Type} (r : Option β) (z : α) (k : β → α) : α := @Option.rec β (fun _ => α) z k r

noncomputable def intV {β : Type} (v : MV) (z : β) (c : Int → β) : β := match v with
  | .none => z
  | .bool _ => z
  | .int x0 => c x0
  | .lin _ _ _ => z
  | .any => z
  | .flt _ => z
  | .str _ => z
  | .tup _ => z
  | .lst _ => z
  | .rng _ _ _ => z
  | .fn _ => z
  | .bi _ => z
  | .lam => z
noncomputable def fltV {β : Type} (v : MV) (z : β) (c : Nat → β) : β := match v with
  | .none => z
  | .bool _ => z
  | .int _ => z
  | .lin _ _ _ => z
  | .any => z
  | .flt x0 => c x0
  | .str _ => z
  | .tup _ => z
  | .lst _ => z
  | .rng _ _ _ => z
  | .fn _ => z
  | .bi _ => z
  | .lam => z
noncomputable def strV {β : Type} (v : MV) (z : β) (c : List Nat → β) : β := match v with
  | .none => z
  | .bool _ => z
  | .int _ => z
  | .lin _ _ _ => z
  | .any => z
  | .flt _ => z
  | .str x0 => c x0
  | .tup _ => z
  | .lst _ => z
  | .rng _ _ _ => z
  | .fn _ => z
  | .bi _ => z
  | .lam => z
noncomputable def tupV {β : Type} (v : MV) (z : β) (c : List MV → β) : β := match v with
  | .none => z
  | .bool _ => z
  | .int _ => z
  | .lin _ _ _ => z
  | .any => z
  | .flt _ => z
  | .str _ => z
  | .tup x0 => c x0
  | .lst _ => z
  | .rng _ _ _ => z
  | .fn _ => z
  | .bi _ => z
  | .lam => z
noncomputable def lstV {β : Type} (v : MV) (z : β) (c : Nat → β) : β := match v with
  | .none => z
  | .bool _ => z
  | .int _ => z
  | .lin _ _ _ => z
  | .any => z
  | .flt _ => z
  | .str _ => z
  | .tup _ => z
  | .lst x0 => c x0
  | .rng _ _ _ => z
  | .fn _ => z
  | .bi _ => z
  | .lam => z
noncomputable def noneV {β : Type} (v : MV) (z : β) (c : β) : β := match v with
  | .none => c
  | .bool _ => z
  | .int _ => z
  | .lin _ _ _ => z
  | .any => z
  | .flt _ => z
  | .str _ => z
  | .tup _ => z
  | .lst _ => z
  | .rng _ _ _ => z
  | .fn _ => z
  | .bi _ => z
  | .lam => z
noncomputable def boolV {β : Type} (v : MV) (z : β) (c : Bool → β) : β := match v with
  | .none => z
  | .bool x0 => c x0
  | .int _ => z
  | .lin _ _ _ => z
  | .any => z
  | .flt _ => z
  | .str _ => z
  | .tup _ => z
  | .lst _ => z
  | .rng _ _ _ => z
  | .fn _ => z
  | .bi _ => z
  | .lam => z
noncomputable def rngV {β : Type} (v : MV) (z : β) (c : Int → Int → Int → β) : β := match v with
  | .none => z
  | .bool _ => z
  | .int _ => z
  | .lin _ _ _ => z
  | .any => z
  | .flt _ => z
  | .str _ => z
  | .tup _ => z
  | .lst _ => z
  | .rng x0 x1 x2 => c x0 x1 x2
  | .fn _ => z
  | .bi _ => z
  | .lam => z

noncomputable def getN {α : Type} (l : List α) (k : Nat) : Option α :=
  @List.rec α (fun _ => Nat → Option α) (fun _ => Option.none) (fun x _ ih k => @Nat.rec (fun _ => Option α) (some x) (fun k' _ => ih k') k) l k
noncomputable def setK {α β : Type} (l : List α) (k : Nat) (x : α) (c : List α → β) : β :=
  @List.rec α (fun _ => Nat → (List α → β) → β) (fun _ c => c []) (fun y r ih k c => @Nat.rec (fun _ => β) (c (x :: r)) (fun k' _ => ih k' (fun r' => c (y :: r'))) k) l k c
noncomputable def appK {α β : Type} (l m : List α) (c : List α → β) : β :=
  @List.rec α (fun _ => (List α → β) → β) (fun c => c m) (fun y _ ih c => ih (fun r' => c (y :: r'))) l c
noncomputable def takeK {α β : Type} (n : Nat) (l : List α) (c : List α → β) : β :=
  @Nat.rec (fun _ => List α → (List α → β) → β) (fun _ c => c []) (fun _ ih l c => @List.rec α (fun _ => β) (c []) (fun y r _ => ih r (fun r' => c (y :: r'))) l) n l c
noncomputable def dropN {α : Type} (n : Nat) (l : List α) : List α :=
  @Nat.rec (fun _ => List α → List α) (fun l => l) (fun _ ih l => @List.rec α (fun _ => List α) [] (fun _ r _ => ih r) l) n l
noncomputable def lenK {α β : Type} (l : List α) (c : Nat → β) : β := forceN (@List.rec α (fun _ => Nat) 0 (fun _ _ ih => Nat.succ ih) l) c
noncomputable def insK {α β : Type} (l : List α) (n : Nat) (x : α) (c : List α → β) : β :=
  @List.rec α (fun _ => Nat → (List α → β) → β) (fun _ c => c [x]) (fun y r ih n c => @Nat.rec (fun _ => β) (c (x :: y :: r)) (fun n' _ => ih n' (fun r' => c (y :: r'))) n) l n c
noncomputable def eqL (l m : List Nat) : Bool :=
  @List.rec Nat (fun _ => List Nat → Bool) (fun m => @List.rec Nat (fun _ => Bool) true (fun _ _ _ => false) m)
    (fun x _ ih m => @List.rec Nat (fun _ => Bool) false (fun y t _ => bsel (Nat.beq x y) (ih t) false) m) l m

noncomputable def forceI {β : Type} (i : Int) (c : Int → β) : β := @Int.rec (fun _ => β) (fun n => forceN n fun n => c (.ofNat n)) (fun n => forceN n fun n => c (.negSucc n)) i
noncomputable def iop {β : Type} (f : Nat → Nat → Int) (g : Int → Int → Int) (x y : Int) (c : Int → β) : β :=
  @Int.rec (fun _ => β) (fun m => @Int.rec (fun _ => β) (fun n => forceI (f m n) c) (fun _ => forceI (g x y) c) y) (fun _ => forceI (g x y) c) x
noncomputable def subNN (m n : Nat) : Int := match Nat.ble n m with | true => Int.ofNat (Nat.sub m n) | false => Int.negSucc (Nat.pred (Nat.sub n m))
noncomputable def iadd {β : Type} (x y : Int) (c : Int → β) : β := iop (fun m n => Int.ofNat (Nat.add m n)) Int.add x y c
noncomputable def isub {β : Type} (x y : Int) (c : Int → β) : β := iop subNN Int.sub x y c
noncomputable def imul {β : Type} (x y : Int) (c : Int → β) : β := iop (fun m n => Int.ofNat (Nat.mul m n)) Int.mul x y c
noncomputable def ifdiv {β : Type} (x y : Int) (c : Int → β) : β := iop (fun m n => Int.ofNat (Nat.div m n)) Int.fdiv x y c
noncomputable def ifmod {β : Type} (x y : Int) (c : Int → β) : β := iop (fun m n => Int.ofNat (Nat.mod m n)) Int.fmod x y c
noncomputable def icmp {β : Type} (f : Nat → Nat → β) (g : Int → Int → β) (x y : Int) : β :=
  @Int.rec (fun _ => β) (fun m => @Int.rec (fun _ => β) (fun n => f m n) (fun _ => g x y) y) (fun _ => g x y) x
noncomputable def ieq (x y : Int) : Bool := icmp Nat.beq (fun x y => decide (x = y)) x y
noncomputable def ilt (x y : Int) : Bool := icmp (fun m n => Nat.ble (Nat.succ m) n) (fun x y => decide (x < y)) x y
noncomputable def ile (x y : Int) : Bool := icmp Nat.ble (fun x y => decide (x ≤ y)) x y
noncomputable def iabs (x : Int) (n : Nat) : Bool := @Int.rec (fun _ => Bool) (fun m => Nat.ble m n) (fun m => Nat.ble (Nat.succ m) n) x

noncomputable def linK {β : Type} (v : Nat) (a b : Int) (c : MV → β) : β := forceI a fun a => forceI b fun b => bsel (ieq a 0) (c (.int b)) (c (.lin v a b))
noncomputable def okI : Nat := 1099511627776
noncomputable def bopI (o : Op2) (x y : Int) (st : St) : RV := match o with
  | .add => iadd x y fun z => .ok (.int z) st
  | .sub => isub x y fun z => .ok (.int z) st
  | .mul => bsel (iabs x okI) (imul x y fun z => .ok (.int z) st) .no
  | .fdiv => bsel (ieq y 0) .no (bsel (iabs y 1000000) (ifdiv x y fun z => .ok (.int z) st) .no)
  | .mod => bsel (ieq y 0) .no (ifmod x y fun z => .ok (.int z) st)
  | .pow => @Int.rec (fun _ => RV) (fun m => @Int.rec (fun _ => RV) (fun n => bsel (Nat.ble m 4096) (bsel (Nat.ble n 64) (forceN (Nat.pow m n) fun z => .ok (.int (.ofNat z)) st) .no) .no) (fun _ => .no) y) (fun _ => .no) x
  | .div => bsel (iabs x 1048576) (bsel (iabs y 1048576) (ob (fdivI x y) .no fun z => forceN z fun z => .ok (.flt z) st) .no) .no
noncomputable def bopLI (o : Op2) (v : Nat) (a b y : Int) (st : St) : RV := match o with
  | .add => linK v a (b + y) fun z => .ok z st
  | .sub => linK v a (b - y) fun z => .ok z st
  | .mul => bsel (iabs y okI) (linK v (a * y) (b * y) fun z => .ok z st) .no
  | .fdiv => bsel (ieq y 0) .no (bsel (iabs y 1000000) (bsel (ieq (a.fmod y) 0) (linK v (a.fdiv y) (b.fdiv y) fun z => .ok z st) .no) .no)
  | .mod => bsel (ieq y 0) .no (bsel (ieq (a.fmod y) 0) (forceI (b.fmod y) fun z => .ok (.int z) st) .no)
  | .div => .no
  | .pow => .no
noncomputable def bopIL (o : Op2) (x : Int) (v : Nat) (a b : Int) (st : St) : RV := match o with
  | .add => linK v a (x + b) fun z => .ok z st
  | .sub => linK v (-a) (x - b) fun z => .ok z st
  | .mul => bsel (iabs x okI) (linK v (x * a) (x * b) fun z => .ok z st) .no
  | .div => .no
  | .fdiv => .no
  | .mod => .no
  | .pow => .no
noncomputable def fltK (z : Nat) (st : St) : RV := forceN z fun z => .ok (.flt z) st
noncomputable def bopF (o : Op2) (x y : Nat) (st : St) : RV := match o with
  | .add => fltK (fadd x y) st
  | .sub => fltK (fsub x y) st
  | .mul => fltK (fmul x y) st
  | .div => bsel (Nat.beq y 0) .no (bsel (Nat.beq y 9223372036854775808) .no (fltK (fdivF x y) st))
  | .mod => bsel (Nat.beq y 0) .no (bsel (Nat.beq y 9223372036854775808) .no (fltK (fmodF x y) st))
  | .fdiv => .no
  | .pow => .no
noncomputable def bopM (o : Op2) (x y : Nat) (st : St) : RV := match o with
  | .add => fltK (fadd x y) st
  | .sub => fltK (fsub x y) st
  | .mul => fltK (fmul x y) st
  | .div => .no
  | .fdiv => .no
  | .mod => .no
  | .pow => .no
noncomputable def repK {α β : Type} (x : List α) (n : Nat) (c : List α → β) : β := @Nat.rec (fun _ => (List α → β) → β) (fun c => c []) (fun _ ih c => ih fun r => appK x r c) n c
noncomputable def natI {β : Type} (i : Int) (z : β) (c : Nat → β) : β := @Int.rec (fun _ => β) c (fun _ => z) i
noncomputable def bopSS (o : Op2) (x y : List Nat) (st : St) : RV := match o with
  | .add => lenK x fun m => lenK y fun n => bsel (Nat.ble m 4096) (bsel (Nat.ble n 4096) (appK x y fun z => .ok (.str z) st) .no) .no
  | .sub => .no
  | .mul => .no
  | .div => .no
  | .fdiv => .no
  | .mod => .no
  | .pow => .no
noncomputable def bopSI (o : Op2) (x : List Nat) (i : Int) (st : St) : RV := match o with
  | .mul => natI i .no fun n => lenK x fun m => bsel (Nat.ble m 4096) (bsel (Nat.ble 2 n) (bsel (Nat.ble n 64) (repK x n fun z => .ok (.str z) st) .no) .no) .no
  | .add => .no
  | .sub => .no
  | .div => .no
  | .fdiv => .no
  | .mod => .no
  | .pow => .no
noncomputable def newL (l : List MV) (st : St) : RV := lenK st fun n => appK st [l] fun st' => .ok (.lst n) st'
noncomputable def bopLL (o : Op2) (j : Nat) (i : Int) (st : St) : RV := match o with
  | .mul => natI i .no fun n => bsel (Nat.ble n 64) (ob (getN st j) .no fun xs => lenK xs fun m => bsel (Nat.ble m 4096) (repK xs n fun z => newL z st) .no) .no
  | .add => .no
  | .sub => .no
  | .div => .no
  | .fdiv => .no
  | .mod => .no
  | .pow => .no
noncomputable def bopA (o : Op2) (x : Int) (b : MV) (st : St) : RV := match b with
  | .none => .no
  | .bool _ => .no
  | .int x0 => bopI o x x0 st
  | .lin x0 x1 x2 => bopIL o x x0 x1 x2 st
  | .any => .no
  | .flt x0 => bsel (iabs x 1048576) (forceN (fofI x) fun x => bopM o x x0 st) .no
  | .str _ => .no
  | .tup _ => .no
  | .lst _ => .no
  | .rng _ _ _ => .no
  | .fn _ => .no
  | .bi _ => .no
  | .lam => .no
noncomputable def bopB (o : Op2) (x : Nat) (b : MV) (st : St) : RV := match b with
  | .none => .no
  | .bool _ => .no
  | .int x0 => bsel (iabs x0 1048576) (forceN (fofI x0) fun y => bopM o x y st) .no
  | .lin _ _ _ => .no
  | .any => .no
  | .flt x0 => bopF o x x0 st
  | .str _ => .no
  | .tup _ => .no
  | .lst _ => .no
  | .rng _ _ _ => .no
  | .fn _ => .no
  | .bi _ => .no
  | .lam => .no
noncomputable def bopC (o : Op2) (x : List Nat) (b : MV) (st : St) : RV := match b with
  | .none => .no
  | .bool _ => .no
  | .int x0 => bopSI o x x0 st
  | .lin _ _ _ => .no
  | .any => .no
  | .flt _ => .no
  | .str x0 => bopSS o x x0 st
  | .tup _ => .no
  | .lst _ => .no
  | .rng _ _ _ => .no
  | .fn _ => .no
  | .bi _ => .no
  | .lam => .no
noncomputable def bop (o : Op2) (a b : MV) (st : St) : RV := match a with
  | .none => .no
  | .bool _ => .no
  | .int x0 => bopA o x0 b st
  | .lin x0 x1 x2 => intV b .no fun y => bopLI o x0 x1 x2 y st
  | .any => .no
  | .flt x0 => bopB o x0 b st
  | .str x0 => bopC o x0 b st
  | .tup _ => .no
  | .lst x0 => intV b .no fun i => bopLL o x0 i st
  | .rng _ _ _ => .no
  | .fn _ => .no
  | .bi _ => .no
  | .lam => .no

noncomputable def eqLin (v : Nat) (a b : Int) (y : MV) : Option Bool := match y with
  | .none => none
  | .bool _ => none
  | .int _ => none
  | .lin x0 x1 x2 => bsel (Nat.beq v x0) (bsel (ieq a x1) (some (ieq b x2)) none) none
  | .any => none
  | .flt _ => none
  | .str _ => none
  | .tup _ => none
  | .lst _ => none
  | .rng _ _ _ => none
  | .fn _ => none
  | .bi _ => none
  | .lam => none
noncomputable def eqA (a b : MV) : Option Bool := match a with
  | .none => none
  | .bool _ => none
  | .int x0 => intV b none fun y => some (ieq x0 y)
  | .lin x0 x1 x2 => eqLin x0 x1 x2 b
  | .any => none
  | .flt _ => none
  | .str x0 => strV b none fun y => some (eqL x0 y)
  | .tup _ => none
  | .lst _ => none
  | .rng _ _ _ => none
  | .fn _ => none
  | .bi _ => none
  | .lam => none
noncomputable def eqT (l m : List MV) : Option Bool :=
  @List.rec MV (fun _ => List MV → Option Bool) (fun m => @List.rec MV (fun _ => Option Bool) (some true) (fun _ _ _ => none) m)
    (fun x _ ih m => @List.rec MV (fun _ => Option Bool) none (fun y t _ => ob (eqA x y) none fun p => ob (ih t) none fun q => some (bsel p q false)) m) l m
noncomputable def intsOf : List MV → Option (List Int)
  | [] => some []
  | .int i :: r => (intsOf r).map (i :: ·)
  | _ => none
noncomputable def eqIs (l m : List Int) : Bool :=
  @List.rec Int (fun _ => List Int → Bool) (fun m => @List.rec Int (fun _ => Bool) true (fun _ _ _ => false) m)
    (fun x _ ih m => @List.rec Int (fun _ => Bool) false (fun y t _ => bsel (ieq x y) (ih t) false) m) l m
noncomputable def inIs (x : Int) (l : List Int) : Bool := @List.rec Int (fun _ => Bool) false (fun y _ ih => bsel (ieq x y) true ih) l
noncomputable def ordB (o : Cm) (r : Nat) : Option Bool := match o with
  | .eq => some (Nat.beq r 1)
  | .ne => some (!(Nat.beq r 1))
  | .lt => some (Nat.beq r 0)
  | .le => some (Nat.ble r 1)
  | .gt => some (Nat.beq r 2)
  | .ge => some (Nat.beq r 2 || Nat.beq r 1)
  | .is => none
  | .isin => none
noncomputable def flipN (r : Nat) : Nat := match r with | 0 => 2 | 1 => 1 | 2 => 0 | n => n
noncomputable def ordC (o : Cm) (r : Nat) : Option Bool := bsel (Nat.ble r 2) (ordB o r) none
noncomputable def cmpI (o : Cm) (x y : Int) : Option Bool := match o with
  | .eq => some (ieq x y)
  | .ne => some (!(ieq x y))
  | .lt => some (ilt x y)
  | .le => some (ile x y)
  | .gt => some (ilt y x)
  | .ge => some (ile y x)
  | .is => none
  | .isin => none
noncomputable def posB (o : Cm) (e : Option Bool) : Option Bool := match o with
  | .eq => e
  | .ne => e.map not
  | .lt => none
  | .le => none
  | .gt => none
  | .ge => none
  | .is => none
  | .isin => none
noncomputable def isinL (x : Int) (j : Nat) (st : St) : Option Bool := ob (getN st j) none fun l => ob (intsOf l) none fun is => some (inIs x is)
noncomputable def cmpLL (i j : Nat) (st : St) : Option Bool := ob (getN st i) none fun l => ob (getN st j) none fun m => ob (intsOf l) none fun a => ob (intsOf m) none fun b => some (eqIs a b)
noncomputable def isB (o : Cm) (b : Bool) : Option Bool := match o with
  | .is => some b
  | .eq => none
  | .ne => none
  | .lt => none
  | .le => none
  | .gt => none
  | .ge => none
  | .isin => none
noncomputable def isinB (o : Cm) (x : Int) (j : Nat) (st : St) : Option Bool := match o with
  | .eq => none
  | .ne => none
  | .lt => none
  | .le => none
  | .gt => none
  | .ge => none
  | .is => none
  | .isin => isinL x j st
noncomputable def cmpA (o : Cm) (x : Int) (b : MV) (st : St) : Option Bool := match b with
  | .none => isB o false
  | .bool _ => none
  | .int x0 => cmpI o x x0
  | .lin _ _ _ => none
  | .any => none
  | .flt x0 => forceN (fcmpI x0 x) fun r => ordC o (flipN r)
  | .str _ => none
  | .tup _ => none
  | .lst x0 => isinB o x x0 st
  | .rng _ _ _ => none
  | .fn _ => none
  | .bi _ => none
  | .lam => none
noncomputable def cmpB (o : Cm) (x : Nat) (b : MV) : Option Bool := match b with
  | .none => none
  | .bool _ => none
  | .int x0 => forceN (fcmpI x x0) fun r => ordC o r
  | .lin _ _ _ => none
  | .any => none
  | .flt x0 => forceN (fcmp x x0) fun r => ordC o r
  | .str _ => none
  | .tup _ => none
  | .lst _ => none
  | .rng _ _ _ => none
  | .fn _ => none
  | .bi _ => none
  | .lam => none
noncomputable def cmpMV (o : Cm) (a b : MV) (st : St) : Option Bool := match a with
  | .none => noneV b none (isB o true)
  | .bool _ => none
  | .int x0 => cmpA o x0 b st
  | .lin _ _ _ => none
  | .any => none
  | .flt x0 => cmpB o x0 b
  | .str x0 => strV b none fun y => posB o (some (eqL x0 y))
  | .tup x0 => tupV b none fun m => posB o (eqT x0 m)
  | .lst x0 => lstV b none fun j => posB o (cmpLL x0 j st)
  | .rng _ _ _ => none
  | .fn _ => none
  | .bi _ => none
  | .lam => noneV b none (isB o false)

noncomputable def truth (v : MV) : Option Bool := match v with
  | .none => some false
  | .bool x0 => some x0
  | .int x0 => some (!(ieq x0 0))
  | .lin _ _ _ => none
  | .any => none
  | .flt _ => none
  | .str x0 => lenK x0 fun n => bsel (Nat.ble n 1000000) (some (bsel (Nat.beq n 0) false true)) none
  | .tup _ => none
  | .lst _ => none
  | .rng _ _ _ => none
  | .fn _ => none
  | .bi _ => none
  | .lam => none

noncomputable def itemI {α : Type} (l : List α) (i : Int) : Option α := @Int.rec (fun _ => Option α) (fun n => getN l n) (fun _ => none) i
noncomputable def strI (l : List Nat) (i : Int) : Option MV :=
  ob (@Int.rec (fun _ => Option Nat) (fun n => getN l n) (fun n => lenK l fun k => bsel (Nat.ble (Nat.succ n) k) (getN l (Nat.sub k (Nat.succ n))) none) i) none fun c => some (.str [c])
noncomputable def item (v : MV) (i : Int) (st : St) : Option MV := match v with
  | .none => none
  | .bool _ => none
  | .int _ => none
  | .lin _ _ _ => none
  | .any => none
  | .flt _ => none
  | .str x0 => strI x0 i
  | .tup x0 => itemI x0 i
  | .lst x0 => ob (getN st x0) none fun l => itemI l i
  | .rng _ _ _ => none
  | .fn _ => none
  | .bi _ => none
  | .lam => none

noncomputable def clampK {β : Type} (n : Nat) (i : Int) (c : Nat → β) : β := forceN (@Int.rec (fun _ => Nat) (fun m => bsel (Nat.ble m n) m n) (fun m => Nat.sub n (Nat.succ m)) i) c
noncomputable def boundK {β : Type} (v : MV) (n d : Nat) (z : β) (c : Nat → β) : β := match v with
  | .none => c d
  | .bool _ => z
  | .int x0 => clampK n x0 c
  | .lin _ _ _ => z
  | .any => z
  | .flt _ => z
  | .str _ => z
  | .tup _ => z
  | .lst _ => z
  | .rng _ _ _ => z
  | .fn _ => z
  | .bi _ => z
  | .lam => z
noncomputable def sliceV (s : List Nat) (lo hi : MV) (st : St) : RV :=
  lenK s fun n => bsel (Nat.ble n 1000000) (boundK lo n 0 .no fun a => boundK hi n n .no fun b => takeK (Nat.sub b a) (dropN a s) fun z => .ok (.str z) st) .no

noncomputable def insI (x : Int) (l : List Int) : List Int := @List.rec Int (fun _ => List Int) [x] (fun y r ih => bsel (ile x y) (x :: y :: r) (y :: ih)) l
noncomputable def sortI (l : List Int) : List Int := @List.rec Int (fun _ => List Int) [] (fun x _ ih => insI x ih) l
noncomputable def rngLen (a b c : Int) : Nat := if a < b then ((b - a - 1) / c).toNat + 1 else 0
noncomputable def rngL (a c : Int) : Nat → List Int
  | 0 => []
  | n + 1 => a :: rngL (a + c) c n
noncomputable def forceIs {β : Type} (l : List Int) (c : List MV → β) : β := @List.rec Int (fun _ => (List MV → β) → β) (fun c => c []) (fun x _ ih c => forceI x fun x => ih fun r => c (.int x :: r)) l c
noncomputable def strsOf : List MV → Option (List (List Nat))
  | [] => some []
  | .str s :: r => (strsOf r).map (s :: ·)
  | _ => none
noncomputable def joinK {β : Type} (l : List (List Nat)) (c : List Nat → β) : β := @List.rec (List Nat) (fun _ => (List Nat → β) → β) (fun c => c []) (fun x _ ih c => ih fun r => appK x r c) l c
noncomputable def cmpP (o : Cm) (a b : MV) : Option Bool := match a with
  | .none => none
  | .bool _ => none
  | .int x0 => intV b none fun y => cmpI o x0 y
  | .lin _ _ _ => none
  | .any => none
  | .flt x0 => fltV b none fun y => forceN (fcmp x0 y) fun r => ordC o r
  | .str _ => none
  | .tup _ => none
  | .lst _ => none
  | .rng _ _ _ => none
  | .fn _ => none
  | .bi _ => none
  | .lam => none
noncomputable def bestL (o : Cm) (m : MV) (l : List MV) : Option MV := @List.rec MV (fun _ => MV → Option MV) (fun m => some m) (fun x _ ih m => ob (cmpP o x m) none fun b => bsel b (ih x) (ih m)) l m
noncomputable def args {β : Type} (as : List MV) (z : β) (c1 : MV → β) (c2 : MV → MV → β) (c3 : MV → MV → MV → β) : β :=
  @List.rec MV (fun _ => β) z (fun x r _ => @List.rec MV (fun _ => β) (c1 x) (fun y r _ => @List.rec MV (fun _ => β) (c2 x y) (fun w r _ => @List.rec MV (fun _ => β) (c3 x y w) (fun _ _ _ => z) r) r) r) as
noncomputable def b_len (v : MV) (st : St) : RV := match v with
  | .none => .no
  | .bool _ => .no
  | .int _ => .no
  | .lin _ _ _ => .no
  | .any => .no
  | .flt _ => .no
  | .str x0 => lenK x0 fun n => bsel (Nat.ble n 1000000) (.ok (.int (.ofNat n)) st) .no
  | .tup _ => .no
  | .lst x0 => ob (getN st x0) .no fun l => lenK l fun n => bsel (Nat.ble n 1000000) (.ok (.int (.ofNat n)) st) .no
  | .rng _ _ _ => .no
  | .fn _ => .no
  | .bi _ => .no
  | .lam => .no
noncomputable def mkRng (a b c : Int) (st : St) : RV := bsel (iabs a 4096) (bsel (iabs b 4096) (bsel (iabs c 4096) (bsel (ilt 0 c) (forceN (rngLen a b c) fun n => .ok (.rng a (.ofNat n) c) st) .no) .no) .no) .no
noncomputable def b_list (v : MV) (st : St) : RV := rngV v .no fun a n c => natI n .no fun n => bsel (Nat.ble n 4096) (forceIs (rngL a c n) fun l => newL l st) .no
noncomputable def b_min (x : MV) (r : List MV) (st : St) : RV := ob (bestL .lt x r) .no fun v => .ok v st
noncomputable def b_max (x : MV) (r : List MV) (st : St) : RV := ob (bestL .gt x r) .no fun v => .ok v st
noncomputable def b_int (v : MV) (st : St) : RV := match v with
  | .none => .no
  | .bool x0 => bsel x0 (.ok (.int 1) st) (.ok (.int 0) st)
  | .int _ => .no
  | .lin _ _ _ => .no
  | .any => .no
  | .flt x0 => ob (ftrunc x0) .no fun n => forceI n fun n => .ok (.int n) st
  | .str _ => .no
  | .tup _ => .no
  | .lst _ => .no
  | .rng _ _ _ => .no
  | .fn _ => .no
  | .bi _ => .no
  | .lam => .no
noncomputable def b_sorted (v : MV) (st : St) : RV := lstV v .no fun i => ob (getN st i) .no fun l => ob (intsOf l) .no fun is => lenK is fun n => bsel (Nat.ble n 63) (forceIs (sortI is) fun l => newL l st) .no
noncomputable def callB (k : BI) (as : List MV) (st : St) : RV := match k with
  | .len => args as .no (fun v => b_len v st) (fun _ _ => .no) (fun _ _ _ => .no)
  | .range => args as .no (fun b => intV b .no fun b => mkRng 0 b 1 st) (fun a b => intV a .no fun a => intV b .no fun b => mkRng a b 1 st) (fun a b c => intV a .no fun a => intV b .no fun b => intV c .no fun c => mkRng a b c st)
  | .list => args as .no (fun v => b_list v st) (fun _ _ => .no) (fun _ _ _ => .no)
  | .min => args as .no (fun _ => .no) (fun x y => b_min x [y] st) (fun x y z => b_min x [y, z] st)
  | .max => args as .no (fun _ => .no) (fun x y => b_max x [y] st) (fun x y z => b_max x [y, z] st)
  | .int => args as .no (fun v => b_int v st) (fun _ _ => .no) (fun _ _ _ => .no)
  | .sorted => args as .no (fun v => b_sorted v st) (fun _ _ => .no) (fun _ _ _ => .no)

noncomputable def nones (n : Nat) : Sl := @Nat.rec (fun _ => Sl) [] (fun _ ih => none :: ih) n
noncomputable def padK {β : Type} (vs : List MV) (n : Nat) (c : Sl → β) : β :=
  @List.rec MV (fun _ => Nat → (Sl → β) → β) (fun n c => c (nones n)) (fun v _ ih n c => ih (Nat.pred n) fun r => c (some v :: r)) vs n c
noncomputable def setAllK {β : Type} (ρ : Sl) (v : MV) (ts : List Nat) (c : Sl → β) : β := @List.rec Nat (fun _ => Sl → β) c (fun k _ ih ρ => setK ρ k (some v) ih) ts ρ
noncomputable def setManyK {β : Type} (ρ : Sl) (ts : List Nat) (vs : List MV) (z : β) (c : Sl → β) : β :=
  @List.rec Nat (fun _ => List MV → Sl → β) (fun vs ρ => @List.rec MV (fun _ => β) (c ρ) (fun _ _ _ => z) vs) (fun k _ ih vs ρ => @List.rec MV (fun _ => β) z (fun v r _ => setK ρ k (some v) (ih r)) vs) ts vs ρ
noncomputable def oneT {β : Type} (ts : List Nat) (z : β) (c : Nat → β) : β := @List.rec Nat (fun _ => β) z (fun k r _ => @List.rec Nat (fun _ => β) (c k) (fun _ _ _ => z) r) ts
noncomputable def setTargetK {β : Type} (ρ : Sl) (ts : List Nat) (isT : Bool) (v : MV) (z : β) (c : Sl → β) : β :=
  bsel isT (tupV v z fun l => setManyK ρ ts l z c) (oneT ts z fun k => setK ρ k (some v) c)

noncomputable def nthR {β : Type} (a s : Int) (k n : Nat) (e : β) (c : MV → β) : β := bsel (Nat.ble (Nat.succ k) n) (imul s (.ofNat k) fun p => iadd a p fun x => c (.int x)) e
noncomputable def nth {β : Type} (it : MV) (k : Nat) (st : St) (z e : β) (c : MV → β) : β := match it with
  | .none => z
  | .bool _ => z
  | .int _ => z
  | .lin _ _ _ => z
  | .any => z
  | .flt _ => z
  | .str _ => z
  | .tup x0 => ob (getN x0 k) e c
  | .lst x0 => ob (getN st x0) z fun l => ob (getN l k) e c
  | .rng x0 x1 x2 => natI x1 z fun n => nthR x0 x2 k n e c
  | .fn _ => z
  | .bi _ => z
  | .lam => z

noncomputable def atom (v : MV) : Bool := match v with
  | .none => true
  | .bool _ => true
  | .int _ => true
  | .lin _ _ _ => true
  | .any => true
  | .flt _ => true
  | .str _ => true
  | .tup x0 => false
  | .lst x0 => false
  | .rng _ _ _ => true
  | .fn _ => true
  | .bi _ => true
  | .lam => true
noncomputable def plain (v : MV) : Bool := match v with
  | .none => true
  | .bool _ => true
  | .int _ => true
  | .lin _ _ _ => true
  | .any => true
  | .flt _ => true
  | .str _ => true
  | .tup x0 => @List.rec MV (fun _ => Bool) true (fun x _ ih => bsel (atom x) ih false) x0
  | .lst x0 => false
  | .rng _ _ _ => true
  | .fn _ => true
  | .bi _ => true
  | .lam => true

noncomputable abbrev Calls := MV → List MV → Option MV → St → RV
noncomputable abbrev FE := Calls → Sl → Sl → St → RV
noncomputable abbrev FL := Calls → Sl → Sl → St → RL
noncomputable abbrev FT := Calls → Sl → Sl → St → RB
noncomputable abbrev FX := Calls → Sl → St → RX

noncomputable def smallL (v : MV) : Bool := match v with
  | .none => false
  | .bool _ => false
  | .int x0 => iabs x0 1000000
  | .lin x0 x1 x2 => bsel (Nat.beq x0 0) (bsel (iabs x1 4096) (iabs x2 1000000) false) false
  | .any => false
  | .flt _ => false
  | .str _ => false
  | .tup _ => false
  | .lst _ => false
  | .rng _ _ _ => false
  | .fn _ => false
  | .bi _ => false
  | .lam => false
noncomputable def okDiv (y : Int) : Bool := bsel (ieq y 7) true (bsel (ieq y 19) true (bsel (ieq y 37) true (bsel (ieq y (-7)) true (bsel (ieq y (-19)) true (ieq y (-37))))))
noncomputable def divmodC (as : List MV) (st : St) : RV := args as .no (fun _ => .no) (fun x y => intV y .no fun n => bsel (smallL x) (bsel (okDiv n) ((bop .fdiv x y st).b .no fun q _ => (bop .mod x y st).b .no fun r _ => .ok (.tup [q, r]) st) .no) .no) (fun _ _ _ => .no)

noncomputable def hVar (k : Nat) (ρ : Sl) (st : St) : RV := ob (getN ρ k) .no fun o => ob o .no fun v => .ok v st
noncomputable def cCst (v : MV) : FE := fun _ _ _ st => .ok v st
noncomputable def cVar (k : Nat) : FE := fun _ ρ _ st => hVar k ρ st
noncomputable def cUp (k : Nat) : FE := fun _ _ up st => hVar k up st
noncomputable def cBop (o : Op2) (a b : FE) : FE := fun c ρ up st => (a c ρ up st).b .no fun x st => (b c ρ up st).b .no fun y st => bop o x y st
noncomputable def negV (v : MV) (st : St) : RV := match v with
  | .none => .no
  | .bool _ => .no
  | .int x0 => isub 0 x0 fun z => .ok (.int z) st
  | .lin x0 x1 x2 => linK x0 (-x1) (-x2) fun z => .ok z st
  | .any => .no
  | .flt _ => .no
  | .str _ => .no
  | .tup _ => .no
  | .lst _ => .no
  | .rng _ _ _ => .no
  | .fn _ => .no
  | .bi _ => .no
  | .lam => .no
noncomputable def cNeg (a : FE) : FE := fun c ρ up st => (a c ρ up st).b .no negV
noncomputable def cOr (a b : FE) : FE := fun c ρ up st => (a c ρ up st).b .no fun x st => ob (truth x) .no fun t => bsel t (.ok x st) (b c ρ up st)
noncomputable def cCmp (o : Cm) (a b : FE) : FE := fun c ρ up st => (a c ρ up st).b .no fun x st => (b c ρ up st).b .no fun y st => ob (cmpMV o x y st) .no fun t => .ok (.bool t) st
noncomputable def lNil : FL := fun _ _ _ st => .ok [] st
noncomputable def lCons (e : FE) (r : FL) : FL := fun c ρ up st => (e c ρ up st).b .no fun v st => (r c ρ up st).b .no fun vs st => .ok (v :: vs) st
noncomputable def cTup (es : FL) : FE := fun c ρ up st => (es c ρ up st).b .no fun vs st => .ok (.tup vs) st
noncomputable def cLst (es : FL) : FE := fun c ρ up st => (es c ρ up st).b .no newL
noncomputable def callV (c : Calls) (f : MV) (vs : List MV) (st : St) : RV := match f with
  | .none => .no
  | .bool _ => .no
  | .int _ => .no
  | .lin _ _ _ => .no
  | .any => .no
  | .flt _ => .no
  | .str _ => .no
  | .tup _ => .no
  | .lst _ => .no
  | .rng _ _ _ => .no
  | .fn n => c (.fn n) vs none st
  | .bi k => callB k vs st
  | .lam => c .lam vs none st
noncomputable def fnV {β : Type} (v : MV) (z c : β) : β := match v with
  | .none => z
  | .bool _ => z
  | .int _ => z
  | .lin _ _ _ => z
  | .any => z
  | .flt _ => z
  | .str _ => z
  | .tup _ => z
  | .lst _ => z
  | .rng _ _ _ => z
  | .fn _ => c
  | .bi _ => z
  | .lam => c
noncomputable def cCall (f : FE) (as : FL) : FE := fun c ρ up st => (f c ρ up st).b .no fun f st => (as c ρ up st).b .no fun vs st => callV c f vs st
noncomputable def cCallS (f a : FE) : FE := fun c ρ up st => (f c ρ up st).b .no fun f st => (a c ρ up st).b .no fun v st => tupV v .no fun vs => lenK vs fun n => bsel (Nat.ble n 64) (fnV f .no (c f vs none st)) .no
noncomputable def cCallK (f : FE) (as : FL) (kw : FE) : FE := fun c ρ up st =>
  (f c ρ up st).b .no fun f st => (as c ρ up st).b .no fun vs st => (kw c ρ up st).b .no fun k st => fnV f .no (c f vs (some k) st)
noncomputable def lowC (c : Nat) : Nat := bsel (Nat.ble 65 c) (bsel (Nat.ble c 90) (Nat.add c 32) c) c
noncomputable def lowS (s : List Nat) (st : St) : RV := oneT s .no fun c => bsel (Nat.ble c 127) (forceN (lowC c) fun c => .ok (.str [c]) st) .no
noncomputable def cLower (e : FE) : FE := fun c ρ up st => (e c ρ up st).b .no fun v st => strV v .no fun s => lowS s st
noncomputable def isNil {α : Type} (l : List α) : Bool := @List.rec α (fun _ => Bool) true (fun _ _ _ => false) l
noncomputable def cJoin (e x : FE) : FE := fun c ρ up st =>
  (e c ρ up st).b .no fun v st => strV v .no fun s => (x c ρ up st).b .no fun w st => lstV w .no fun i => ob (getN st i) .no fun l => ob (strsOf l) .no fun ts => bsel (isNil s) (joinK ts fun z => lenK z fun n => bsel (Nat.ble n 100000) (.ok (.str z) st) .no) .no
noncomputable def cApp (l x : FE) : FE := fun c ρ up st =>
  (l c ρ up st).b .no fun w st => lstV w .no fun i => (x c ρ up st).b .no fun v st => bsel (plain v) (ob (getN st i) .no fun vs => lenK vs fun n => bsel (Nat.ble n 4096) (appK vs [v] fun vs => setK st i vs fun st => .ok .none st) .no) .no
noncomputable def cIns (l j x : FE) : FE := fun c ρ up st =>
  (l c ρ up st).b .no fun w st => lstV w .no fun i => (j c ρ up st).b .no fun jv st => (x c ρ up st).b .no fun v st => bsel (plain v) (ob (getN st i) .no fun vs => lenK vs fun n =>
    bsel (Nat.ble n 4096) (intV jv .no fun jn => natI jn .no fun m => bsel (Nat.ble m n) (insK vs m v fun vs => setK st i vs fun st => .ok .none st) .no) .no) .no
noncomputable def cSub (e i : FE) : FE := fun c ρ up st =>
  (e c ρ up st).b .no fun v st => (i c ρ up st).b .no fun j st => intV j .no fun n => bsel (iabs n 4096) (ob (item v n st) .no fun x => .ok x st) .no
noncomputable def cSlice (e lo hi : FE) : FE := fun c ρ up st =>
  (e c ρ up st).b .no fun v st => strV v .no fun s => (lo c ρ up st).b .no fun a st => (hi c ρ up st).b .no fun b st => sliceV s a b st
noncomputable def cLam : FE := fun _ _ _ st => .ok .lam st

noncomputable def clTurn (ts : List Nat) (isT : Bool) (it : MV) (elt : FE) (c : Calls) (up : Sl) (acc : Nat) (ih : Nat → Sl → St → RS) (i : Nat) (ρ : Sl) (st : St) : RS :=
  nth it i st .no (.ok ρ st) fun v => setTargetK ρ ts isT v .no fun ρ => (elt c ρ up st).b .no fun x st => bsel (plain x) (ob (getN st acc) .no fun l => lenK l fun n => bsel (Nat.ble n 4096)
    (appK l [x] fun l => setK st acc l fun st => forceN (Nat.succ i) fun i => ih i ρ st) .no) .no
noncomputable def clRun (ts : List Nat) (isT : Bool) (it : MV) (elt : FE) (c : Calls) (up : Sl) (acc : Nat) (n : Nat) : Nat → Sl → St → RS :=
  @Nat.rec (fun _ => Nat → Sl → St → RS) (fun _ _ _ => .no) (fun _ ih => clTurn ts isT it elt c up acc ih) n
noncomputable def cl2Turn (t1 : Nat) (it : MV) (t2 : Nat) (s2 elt : FE) (c : Calls) (up : Sl) (acc : Nat) (ih : Nat → Sl → St → RS) (i : Nat) (ρ : Sl) (st : St) : RS :=
  nth it i st .no (.ok ρ st) fun v => setK ρ t1 (some v) fun ρ => (s2 c ρ up st).b .no fun it2 st => (clRun [t2] false it2 elt c up acc 200 0 ρ st).b .no fun ρ st =>
    forceN (Nat.succ i) fun i => ih i ρ st
noncomputable def cl2Run (t1 : Nat) (it : MV) (t2 : Nat) (s2 elt : FE) (c : Calls) (up : Sl) (acc : Nat) (n : Nat) : Nat → Sl → St → RS :=
  @Nat.rec (fun _ => Nat → Sl → St → RS) (fun _ _ _ => .no) (fun _ ih => cl2Turn t1 it t2 s2 elt c up acc ih) n
noncomputable def cComp (n : Nat) (ts : List Nat) (isT : Bool) (src elt : FE) : FE := fun c ρ up st =>
  (src c ρ up st).b .no fun it st => lenK st fun m => appK st [[]] fun st => (clRun ts isT it elt c ρ m 200 0 (nones n) st).b .no fun _ st => .ok (.lst m) st
noncomputable def cComp2 (n t1 : Nat) (s1 : FE) (t2 : Nat) (s2 elt : FE) : FE := fun c ρ up st =>
  (s1 c ρ up st).b .no fun it st => lenK st fun m => appK st [[]] fun st => (cl2Run t1 it t2 s2 elt c ρ m 200 0 (nones n) st).b .no fun _ st => .ok (.lst m) st

noncomputable def tNot (a : FT) : FT := fun c ρ up st => (a c ρ up st).b .no fun b st => bsel b (.ok false st) (.ok true st)
noncomputable def tAnd (a r : FT) : FT := fun c ρ up st => (a c ρ up st).b .no fun b st => bsel b (r c ρ up st) (.ok false st)
noncomputable def tOr (a r : FT) : FT := fun c ρ up st => (a c ρ up st).b .no fun b st => bsel b (.ok true st) (r c ρ up st)
noncomputable def tEnd (b : Bool) : FT := fun _ _ _ st => .ok b st
noncomputable def tCmp (o : Cm) (a b : FE) : FT := fun c ρ up st => (a c ρ up st).b .no fun x st => (b c ρ up st).b .no fun y st => ob (cmpMV o x y st) .no fun t => .ok t st
noncomputable def tChain (a : FE) (o1 : Cm) (b : FE) (o2 : Cm) (d : FE) : FT := fun c ρ up st =>
  (a c ρ up st).b .no fun x st => (b c ρ up st).b .no fun y st => ob (cmpMV o1 x y st) .no fun t => bsel t ((d c ρ up st).b .no fun z st => ob (cmpMV o2 y z st) .no fun t => .ok t st) (.ok false st)
noncomputable def tVal (e : FE) : FT := fun c ρ up st => (e c ρ up st).b .no fun v st => ob (truth v) .no fun b => .ok b st

noncomputable def sAsg (ts : List Nat) (e : FE) : FX := fun c ρ st => (e c ρ [] st).b .no fun v st => setAllK ρ v ts fun ρ => .nx ρ st
noncomputable def unpV {β : Type} (v : MV) (st : St) (z : β) (c : List MV → β) : β := match v with
  | .none => z
  | .bool _ => z
  | .int _ => z
  | .lin _ _ _ => z
  | .any => z
  | .flt _ => z
  | .str _ => z
  | .tup x0 => c x0
  | .lst x0 => ob (getN st x0) z c
  | .rng _ _ _ => z
  | .fn _ => z
  | .bi _ => z
  | .lam => z
noncomputable def sAsgT (ts : List Nat) (e : FE) : FX := fun c ρ st => (e c ρ [] st).b .no fun v st => unpV v st .no fun l => setManyK ρ ts l .no fun ρ => .nx ρ st
noncomputable def sSet (l i e : FE) : FX := fun c ρ st =>
  (e c ρ [] st).b .no fun v st => (l c ρ [] st).b .no fun w st => lstV w .no fun k => (i c ρ [] st).b .no fun j st => intV j .no fun n => natI n .no fun m =>
    bsel (plain v) (ob (getN st k) .no fun vs => lenK vs fun len => bsel (Nat.ble (Nat.succ m) len) (bsel (Nat.ble m 4096) (setK vs m v fun vs => setK st k vs fun st => .nx ρ st) .no) .no) .no
noncomputable def augI (k : Nat) (o : Op2) (x y : Int) (ρ : Sl) (st : St) : RX := match o with
  | .add => iadd x y fun z => setK ρ k (some (.int z)) fun ρ => .nx ρ st
  | .sub => isub x y fun z => setK ρ k (some (.int z)) fun ρ => .nx ρ st
  | .mul => .no
  | .div => .no
  | .fdiv => .no
  | .mod => .no
  | .pow => .no
noncomputable def sAug (k : Nat) (o : Op2) (e : FE) : FX := fun c ρ st => (hVar k ρ st).b .no fun old st => (e c ρ [] st).b .no fun v st => intV old .no fun x => intV v .no fun y => augI k o x y ρ st
noncomputable def sIf (t : FT) (b e : FX) : FX := fun c ρ st => (t c ρ [] st).b .no fun q st => bsel q (b c ρ st) (e c ρ st)
noncomputable def whTurn (t : FT) (b : FX) (c : Calls) (ih : Sl → St → RX) (ρ : Sl) (st : St) : RX := (t c ρ [] st).b .no fun q st => bsel q ((b c ρ st).b .no ih .rt) (.nx ρ st)
noncomputable def whRun (t : FT) (b : FX) (c : Calls) (n : Nat) : Sl → St → RX := @Nat.rec (fun _ => Sl → St → RX) (fun _ _ => .no) (fun _ ih => whTurn t b c ih) n
noncomputable def sWhl (t : FT) (b : FX) : FX := fun c ρ st => whRun t b c 200 ρ st
noncomputable def foTurn (k : Nat) (it : MV) (b : FX) (c : Calls) (ih : Nat → Sl → St → RX) (i : Nat) (ρ : Sl) (st : St) : RX :=
  nth it i st .no (.nx ρ st) fun v => setK ρ k (some v) fun ρ => (b c ρ st).b .no (fun ρ st => forceN (Nat.succ i) fun i => ih i ρ st) .rt
noncomputable def foRun (k : Nat) (it : MV) (b : FX) (c : Calls) (n : Nat) : Nat → Sl → St → RX := @Nat.rec (fun _ => Nat → Sl → St → RX) (fun _ _ _ => .no) (fun _ ih => foTurn k it b c ih) n
noncomputable def sFor (k : Nat) (e : FE) (b : FX) : FX := fun c ρ st => (e c ρ [] st).b .no fun it st => foRun k it b c 200 0 ρ st
noncomputable def sRet (e : FE) : FX := fun c ρ st => (e c ρ [] st).b .no .rt
noncomputable def sExp (e : FE) : FX := fun c ρ st => (e c ρ [] st).b .no fun v st => noneV v .no (.nx ρ st)
noncomputable def sNo : FX := fun _ _ _ => .no
noncomputable def xNil : FX := fun _ ρ st => .nx ρ st
noncomputable def xCons (s r : FX) : FX := fun c ρ st => (s c ρ st).b .no (r c) .rt

structure Fn where
  np : Nat
  nsl : Nat
  dflt : List MV
  kw : Bool
  body : FX
noncomputable abbrev Fns := Nat → Option Fn
noncomputable def fillK {β : Type} (fd : Fn) (as last : List MV) (z : β) (c : Sl → β) : β :=
  lenK as fun n => lenK fd.dflt fun d => bsel (Nat.ble n fd.np) (bsel (Nat.ble fd.np (Nat.add n d))
    (appK (dropN (Nat.sub (Nat.add n d) fd.np) fd.dflt) last fun r => appK as r fun vs => padK vs fd.nsl c) z) z
noncomputable def endV (n : Nat) (v : MV) (st : St) : RV := bsel (plain v) (takeK n st fun st => .ok v st) (.ok v st)
noncomputable def runF (c : Calls) (fd : Fn) (ρ : Sl) (st : St) : RV := lenK st fun n => (fd.body c ρ st).b .no (fun _ st => endV n .none st) (fun v st => endV n v st)
noncomputable def callF (fns : Fns) (c : Calls) (n : Nat) (as : List MV) (kw : Option MV) (st : St) : RV :=
  ob (fns n) .no fun fd => ob kw (fillK fd as (bsel fd.kw [.none] []) .no fun ρ => runF c fd ρ st) fun k => bsel fd.kw (fillK fd as [k] .no fun ρ => runF c fd ρ st) .no
noncomputable def lamF (as : List MV) (kw : Option MV) (st : St) : RV := args as .no (fun v => tupV v .no fun l => ob (getN l 0) .no fun x => ob kw (.ok x st) fun _ => .no) (fun _ _ => .no) (fun _ _ _ => .no)
noncomputable def callS (fns : Fns) (c : Calls) (f : MV) (as : List MV) (kw : Option MV) (st : St) : RV := match f with
  | .none => .no
  | .bool _ => .no
  | .int _ => .no
  | .lin _ _ _ => .no
  | .any => .no
  | .flt _ => .no
  | .str _ => .no
  | .tup _ => .no
  | .lst _ => .no
  | .rng _ _ _ => .no
  | .fn n => bsel (Nat.beq n 100) (ob kw (divmodC as st) fun _ => .no) (callF fns c n as kw st)
  | .bi _ => .no
  | .lam => lamF as kw st
noncomputable def calls (fns : Fns) (n : Nat) : Calls := @Nat.rec (fun _ => Calls) (fun _ _ _ _ => .no) (fun _ ih => callS fns ih) n
end Mine
end OfMiniEv
noncomputable section OfMSound1
set_option genInjectivity false
set_option autoImplicit false
set_option linter.unusedVariables false
namespace Mine
open PySem PySem.Calls PyProof.Rows

noncomputable def MutO (o : Obj) : Prop := match o.data with
  | .seq _ _ => o.cls = .type "list"
  | .fields _ => o.cls = .none
  | _ => False
noncomputable def ImmO (o : Obj) : Prop := match o.data with
  | .seq _ _ => o.cls = .type "tuple"
  | .fields _ => o.cls = .type "range" ∨ o.cls = .type "code"
  | .func _ => True
  | _ => False
theorem ImmO.notMut {o : Obj} (i : ImmO o) : ¬ MutO o := by
  obtain ⟨c, d, dt, sl⟩ := o
  intro h
  cases dt <;> simp only [ImmO, MutO] at i h
  · rw [h] at i; exact absurd i (by decide)
  · rw [h] at i; rcases i with i | i <;> exact absurd i (by decide)

theorem hNoneAt (h : Heap) : h.get? h.objs.size = none := by
  cases e : h.get? h.objs.size with
  | none => rfl
  | some o => exact absurd (Heap.lt_size e) (Nat.lt_irrefl _)
noncomputable def Imm (h h' : Heap) : Prop := ∀ a o, h.get? a = some o → ImmO o → h'.get? a = some o
theorem Imm.tuple {h h' : Heap} {a : Addr} {items : Array Value} (x : Imm h h') (ht : h.IsTuple a items) : h'.IsTuple a items := by
  obtain ⟨o, ho, hc, n, hd⟩ := ht
  exact ⟨o, x a o ho (by unfold ImmO; rw [hd]; exact hc), hc, n, hd⟩
structure Stp (W : List Addr) (h h' : Heap) : Prop where
  live : ∀ a o, h.get? a = some o → ∃ o', h'.get? a = some o'
  imm : ∀ a o, h.get? a = some o → ImmO o → h'.get? a = some o
  keep : ∀ a o, h.get? a = some o → ¬ MutO o → a ∉ W → h'.get? a = some o
namespace Stp
variable {W N : List Addr} {h h' h'' : Heap}
theorem refl (W : List Addr) (h : Heap) : Stp W h h := ⟨fun _ o e => ⟨o, e⟩, fun _ _ e _ => e, fun _ _ e _ _ => e⟩
theorem trans (x : Stp W h h') (y : Stp (W ++ N) h' h'') (hN : ∀ a ∈ N, h.get? a = none) : Stp W h h'' :=
  ⟨fun a o e => by obtain ⟨o', e'⟩ := x.live a o e; exact y.live a o' e', fun a o e i => y.imm a o (x.imm a o e i) i, fun a o e m w => y.keep a o (x.keep a o e m w) m (by
    intro hm
    rcases List.mem_append.mp hm with hm | hm
    · exact w hm
    · rw [hN a hm] at e; cases e)⟩
theorem trans0 (x : Stp W h h') (y : Stp W h' h'') : Stp W h h'' := x.trans (N := []) (by rw [List.append_nil]; exact y) (fun _ hm => nomatch hm)
theorem dead (x : Stp W h h') {a : Addr} (e : h'.get? a = none) : h.get? a = none := by
  cases e0 : h.get? a with
  | none => rfl
  | some o =>
    obtain ⟨o', e1⟩ := x.live a o e0
    rw [e] at e1; cases e1
theorem mono {V : List Addr} (x : Stp V h h') (hs : ∀ a ∈ V, a ∈ W) : Stp W h h' := ⟨x.live, x.imm, fun a o e m w => x.keep a o e m fun hm => w (hs a hm)⟩
theorem of0 (x : Stp [] h h') : Stp W h h' := x.mono fun _ hm => nomatch hm
theorem drop (x : Stp (W ++ N) h h') (hN : ∀ a ∈ N, h.get? a = none) : Stp W h h' := (refl W h).trans x hN
theorem push (W : List Addr) (h : Heap) (o : Obj) : Stp W h (h.push o) := ⟨fun _ x e => ⟨x, Heap.get?_push_of_some o e⟩, fun _ _ e _ => Heap.get?_push_of_some o e, fun _ _ e _ _ => Heap.get?_push_of_some o e⟩
theorem all (hk : ∀ a o, h.get? a = some o → h'.get? a = some o) (_ : True := trivial) : Stp W h h' := ⟨fun a o e => ⟨o, hk a o e⟩, fun a o e _ => hk a o e, fun a o e _ _ => hk a o e⟩
theorem same {x : Addr} {ox : Obj} (hs : Heap.SameBut x h h') (hx : h.get? x = some ox) (hi : ¬ ImmO ox) (hm : x ∈ W ∨ MutO ox) (hl : ∃ o', h'.get? x = some o') : Stp W h h' :=
  ⟨fun a o e => by
    by_cases ha : a = x
    · subst ha; exact hl
    · exact ⟨o, (hs.2 a ha).trans e⟩, fun a o e i => by
    by_cases ha : a = x
    · subst ha; rw [hx] at e; cases e; exact absurd i hi
    · exact (hs.2 a ha).trans e, fun a o e m w => by
    by_cases ha : a = x
    · subst ha; rw [hx] at e; cases e
      rcases hm with hm | hm
      · exact absurd hm w
      · exact absurd hm m
    · exact (hs.2 a ha).trans e⟩
theorem ext {x : Addr} (hs : Heap.ExtBut x h h') (hx : h.get? x = none) : Stp W h h' :=
  all (fun a o e => hs a o (by rintro rfl; rw [hx] at e; cases e) e)
theorem ns {L : Addr} {m : Str → Option Value} (x : Stp W h h') (hn : h.Ns L m) (hL : L ∉ W) : h'.Ns L m := by
  obtain ⟨o, es, ep, ho, hd, r⟩ := hn
  exact ⟨o, es, ep, x.keep L o ho (by unfold MutO; rw [hd]; exact fun h => h) hL, hd, r⟩
theorem cell {c : Addr} {v : Option Value} (x : Stp W h h') (hn : h.IsCell c v) (hc : c ∉ W) : h'.IsCell c v := by
  obtain ⟨o, ho, hd⟩ := hn
  exact ⟨o, x.keep c o ho (by unfold MutO; rw [hd]; exact fun h => h) hc, hd⟩
theorem tuple {a : Addr} {items : Array Value} (x : Stp W h h') (ht : h.IsTuple a items) : h'.IsTuple a items := by
  obtain ⟨o, ho, hc, n, hd⟩ := ht
  exact ⟨o, x.imm a o ho (by unfold ImmO; rw [hd]; exact hc), hc, n, hd⟩
theorem lim (x : Stp W h h') (hn : h.NoLimit) (hW : cStatics ∉ W) : h'.NoLimit := by
  obtain ⟨mc, hm, e⟩ := hn
  exact ⟨mc, x.ns hm hW, e⟩
end Stp

noncomputable def CodeAt (h : Heap) (cd : Value) (q : Str) : Prop := ∃ c o vs t, cd = .ref c ∧ h.get? c = some o ∧ o.cls = .type "code" ∧ o.data = .fields vs ∧ vs[1]? = some (.str q t)
theorem CodeAt.stp {W : List Addr} {h h' : Heap} {cd : Value} {q : Str} (x : CodeAt h cd q) (s : Stp W h h') : CodeAt h' cd q := by
  obtain ⟨c, o, vs, t, e, ho, hc, hd, hv⟩ := x
  exact ⟨c, o, vs, t, e, s.imm c o ho (by unfold ImmO; rw [hd]; exact .inr hc), hc, hd, hv⟩
theorem CodeAt.imm {h h' : Heap} {cd : Value} {q : Str} (x : CodeAt h cd q) (s : Imm h h') : CodeAt h' cd q := by
  obtain ⟨c, o, vs, t, e, ho, hc, hd, hv⟩ := x
  exact ⟨c, o, vs, t, e, s c o ho (by unfold ImmO; rw [hd]; exact .inr hc), hc, hd, hv⟩
theorem CodeAt.rec {h : Heap} {cd : Value} {q : Str} (x : CodeAt h cd q) : h.CodeRec cd q := by
  obtain ⟨c, o, vs, t, e, ho, _, hd, hv⟩ := x
  exact ⟨c, o, vs, t, e, ho, hd, hv⟩

structure LamFd (fd : FuncData) : Prop where
  pos : fd.params.posonlyargs = []
  par : ∃ (x : Str) (p0 p1 p2 p3 : Pos) (k : Nat), fd.params.args = [⟨x, none, p0⟩] ∧ fd.body = .expr (.Subscript (.Name x p1) (.Constant (.int 0) k p2) p3) ∧ fd.scope.names = [(x, .local)] ∧ (x == ("__debug__" : Str)) = false ∧ x = Str.ofString "one"
  va : fd.params.vararg = none
  ko : fd.params.kwonlyargs = []
  kw : fd.params.kwarg = none
  df : fd.defaults = .none
  cl : fd.closure = []
  gen : fd.scope.isGenerator = false
  co : fd.scope.isCoroutine = false
  kind : fd.scope.kind = .function
noncomputable def LamAt (h : Heap) (a : Addr) : Prop := ∃ o fd, h.get? a = some o ∧ o.data = .func fd ∧ o.cls = .type "function" ∧ LamFd fd ∧ CodeAt h fd.code fd.qualname
theorem LamAt.imm {h h' : Heap} {a : Addr} (x : LamAt h a) (s : Imm h h') : LamAt h' a := by
  obtain ⟨o, fd, ho, hd, hc, l, c⟩ := x
  exact ⟨o, fd, s a o ho (by unfold ImmO; rw [hd]; trivial), hd, hc, l, c.imm s⟩
noncomputable def biVal : BI → Value
  | .len => .builtin "len"
  | .range => .type "range"
  | .list => .type "list"
  | .min => .builtin "min"
  | .max => .builtin "max"
  | .int => .type "int"
  | .sorted => .builtin "sorted"

structure Base where
  h₀ : Heap
  tc : Nat → Addr
  tp : Nat → Addr
  lq : Nat → Str
  fa : Nat → Addr
  va : Nat → Int
  small : (va 0).natAbs ≤ 10000
  lim : h₀.NoLimit
  mg : Str → Option Value
  mb : Str → Option Value
  gl : h₀.Ns mainGlobals mg
  gln : ∀ t, tp t ≠ mainGlobals
  bl : h₀.Ns builtinsNs mb
  bln : ∀ t, tp t ≠ builtinsNs
  ps₀ : Nat → Array Value
  tab : ∀ t, h₀.TableAt (tc t) (tp t) (ps₀ t)
  tps : ∀ t, tp t ≠ cStatics
  inj : ∀ t u, tp t = tp u → tc t = tc u ∧ lq t = lq u ∧ ps₀ t = ps₀ u
  bat : ∃ (bm : Addr) (o : Obj), mg "__builtins__" = some (.ref bm) ∧ bm ≠ builtinsNs ∧ (∀ t, bm ≠ tp t) ∧ h₀.get? bm = some o ∧ o.cls = .type "module" ∧ o.dict = some builtinsNs ∧ o.data = .plain
  fn : ∀ f, ∃ o fd, h₀.get? (fa f) = some o ∧ o.data = .func fd ∧ o.cls = .type "function"

mutual
inductive VRel (B : Base) (as : List Addr) (h : Heap) : MV → Value → Prop
  | none : VRel B as h .none .none
  | bool (b : Bool) : VRel B as h (.bool b) (.bool b)
  | int (i : Int) (t : Tok) : VRel B as h (.int i) (.int i t)
  | lin (v : Nat) (a b : Int) (t : Tok) : VRel B as h (.lin v a b) (.int (a * B.va v + b) t)
  | any (v : Value) : VRel B as h .any v
  | flt (n : Nat) (t : Tok) (hn : n < 18446744073709551616) : VRel B as h (.flt n) (.float (UInt64.ofNat n) t)
  | str (s : List Nat) (t : Tok) : VRel B as h (.str s) (.str ⟨s.toArray⟩ t)
  | tup {l : List MV} {a : Addr} {items : List Value} : h.IsTuple a items.toArray → VRels B as h l items → VRel B as h (.tup l) (.ref a)
  | lst {i : Nat} {a : Addr} : as[i]? = some a → VRel B as h (.lst i) (.ref a)
  | rng {a b c : Int} {n : Nat} {r : Addr} {t u v : Tok} : IsRange h r a b c t u v → Builtin.Range.small a b c = true → Builtin.Range.rangeSize a b c = n → VRel B as h (.rng a (.ofNat n) c) (.ref r)
  | fn (f : Nat) : VRel B as h (.fn f) (.ref (B.fa f))
  | bi (k : BI) : VRel B as h (.bi k) (biVal k)
  | lam {a : Addr} : LamAt h a → VRel B as h .lam (.ref a)
inductive VRels (B : Base) (as : List Addr) (h : Heap) : List MV → List Value → Prop
  | nil : VRels B as h [] []
  | cons {x : MV} {v : Value} {l : List MV} {vs : List Value} : VRel B as h x v → VRels B as h l vs → VRels B as h (x :: l) (v :: vs)
end
noncomputable def VInv (B : Base) (as : List Addr) (h : Heap) (m : MV) (u : Value) : Prop := match m with
  | .none => u = .none
  | .bool b => u = .bool b
  | .int i => ∃ t, u = .int i t
  | .lin v a b => ∃ t, u = .int (a * B.va v + b) t
  | .any => True
  | .flt n => ∃ t, u = .float (UInt64.ofNat n) t ∧ n < 18446744073709551616
  | .str s => ∃ t, u = .str ⟨s.toArray⟩ t
  | .tup l => ∃ a items, u = .ref a ∧ h.IsTuple a items.toArray ∧ VRels B as h l items
  | .lst i => ∃ a, u = .ref a ∧ as[i]? = some a
  | .rng a b c => ∃ (e : Int) (n : Nat) (r : Addr) (t v x : Tok), u = .ref r ∧ b = .ofNat n ∧ IsRange h r a e c t v x ∧ Builtin.Range.small a e c = true ∧ Builtin.Range.rangeSize a e c = n
  | .fn f => u = .ref (B.fa f)
  | .bi k => u = biVal k
  | .lam => ∃ a, u = .ref a ∧ LamAt h a
section
variable {B : Base} {as : List Addr} {h : Heap}
theorem VRel.inv {m : MV} {u : Value} (r : VRel B as h m u) : VInv B as h m u := by
  cases r with
  | none => exact rfl
  | bool b => exact rfl
  | int i t => exact ⟨t, rfl⟩
  | lin v a b t => exact ⟨t, rfl⟩
  | any v => exact trivial
  | flt n t hn => exact ⟨t, rfl, hn⟩
  | str s t => exact ⟨t, rfl⟩
  | tup ht r => exact ⟨_, _, rfl, ht, r⟩
  | lst e => exact ⟨_, rfl, e⟩
  | rng hr hs hn => exact ⟨_, _, _, _, _, _, rfl, rfl, hr, hs, hn⟩
  | fn f => exact rfl
  | bi k => exact rfl
  | lam x => exact ⟨_, rfl, x⟩
theorem VRel.none_i {u : Value} (r : VRel B as h .none u) : u = .none := r.inv
theorem VRel.bool_i {b : Bool} {u : Value} (r : VRel B as h (.bool b) u) : u = .bool b := r.inv
theorem VRel.int_i {i : Int} {u : Value} (r : VRel B as h (.int i) u) : ∃ t, u = .int i t := r.inv
theorem VRel.lin_i {v : Nat} {a b : Int} {u : Value} (r : VRel B as h (.lin v a b) u) : ∃ t, u = .int (a * B.va v + b) t := r.inv
theorem VRel.flt_i {n : Nat} {u : Value} (r : VRel B as h (.flt n) u) : ∃ t, u = .float (UInt64.ofNat n) t ∧ n < 18446744073709551616 := r.inv
theorem VRel.str_i {s : List Nat} {u : Value} (r : VRel B as h (.str s) u) : ∃ t, u = .str ⟨s.toArray⟩ t := r.inv
theorem VRel.tup_i {l : List MV} {u : Value} (r : VRel B as h (.tup l) u) : ∃ a items, u = .ref a ∧ h.IsTuple a items.toArray ∧ VRels B as h l items := r.inv
theorem VRel.lst_i {i : Nat} {u : Value} (r : VRel B as h (.lst i) u) : ∃ a, u = .ref a ∧ as[i]? = some a := r.inv
theorem VRel.lst_r {i : Nat} {a : Addr} (r : VRel B as h (.lst i) (.ref a)) : as[i]? = some a := by
  obtain ⟨b, e, q⟩ := r.lst_i
  cases e; exact q
theorem VRel.fn_i {f : Nat} {u : Value} (r : VRel B as h (.fn f) u) : u = .ref (B.fa f) := r.inv
theorem VRel.bi_i {k : BI} {u : Value} (r : VRel B as h (.bi k) u) : u = biVal k := r.inv
theorem VRel.lam_i {u : Value} (r : VRel B as h .lam u) : ∃ a, u = .ref a ∧ LamAt h a := r.inv
theorem VRels.inv {l : List MV} {us : List Value} (r : VRels B as h l us) : match l with | [] => us = [] | x :: l => ∃ v vs, us = v :: vs ∧ VRel B as h x v ∧ VRels B as h l vs := by
  cases r with
  | nil => exact rfl
  | cons a b => exact ⟨_, _, rfl, a, b⟩
theorem VRels.nil_i {us : List Value} (r : VRels B as h [] us) : us = [] := r.inv
theorem VRels.cons_i {x : MV} {l : List MV} {us : List Value} (r : VRels B as h (x :: l) us) : ∃ v vs, us = v :: vs ∧ VRel B as h x v ∧ VRels B as h l vs := r.inv
theorem VRels.one_i {x : MV} {us : List Value} (r : VRels B as h [x] us) : ∃ v, us = [v] ∧ VRel B as h x v := by
  obtain ⟨v, vs, rfl, a, b⟩ := r.cons_i
  exact ⟨v, by rw [b.nil_i], a⟩
theorem VRels.two_i {x y : MV} {us : List Value} (r : VRels B as h [x, y] us) : ∃ v u, us = [v, u] ∧ VRel B as h x v ∧ VRel B as h y u := by
  obtain ⟨v, vs, rfl, a, b⟩ := r.cons_i
  obtain ⟨u, rfl, c⟩ := b.one_i
  exact ⟨v, u, rfl, a, c⟩
theorem VRels.three_i {x y z : MV} {us : List Value} (r : VRels B as h [x, y, z] us) : ∃ v u t, us = [v, u, t] ∧ VRel B as h x v ∧ VRel B as h y u ∧ VRel B as h z t := by
  obtain ⟨v, vs, rfl, a, b⟩ := r.cons_i
  obtain ⟨u, t, rfl, p, q⟩ := b.two_i
  exact ⟨v, u, t, rfl, a, p, q⟩
theorem VRels.four_i {x y z q : MV} {us : List Value} (r : VRels B as h [x, y, z, q] us) : ∃ v u t p, us = [v, u, t, p] ∧ VRel B as h x v ∧ VRel B as h y u ∧ VRel B as h z t ∧ VRel B as h q p := by
  obtain ⟨v, vs, rfl, a, b⟩ := r.cons_i
  obtain ⟨u, t, p, rfl, b1, b2, b3⟩ := b.three_i
  exact ⟨v, u, t, p, rfl, a, b1, b2, b3⟩
@[elab_as_elim] theorem VRels.cons_e {x : MV} {l : List MV} {us : List Value} {P : List Value → Prop} (r : VRels B as h (x :: l) us) (H : ∀ v vs, VRel B as h x v → VRels B as h l vs → P (v :: vs)) : P us := by
  obtain ⟨v, vs, rfl, a, b⟩ := r.cons_i
  exact H v vs a b
@[elab_as_elim] theorem VRels.one_e {x : MV} {us : List Value} {P : List Value → Prop} (r : VRels B as h [x] us) (H : ∀ v, VRel B as h x v → P [v]) : P us := by
  obtain ⟨v, rfl, a⟩ := r.one_i
  exact H v a
@[elab_as_elim] theorem VRels.two_e {x y : MV} {us : List Value} {P : List Value → Prop} (r : VRels B as h [x, y] us) (H : ∀ v u, VRel B as h x v → VRel B as h y u → P [v, u]) : P us := by
  obtain ⟨v, u, rfl, a, b⟩ := r.two_i
  exact H v u a b
@[elab_as_elim] theorem VRels.three_e {x y z : MV} {us : List Value} {P : List Value → Prop} (r : VRels B as h [x, y, z] us) (H : ∀ v u t, VRel B as h x v → VRel B as h y u → VRel B as h z t → P [v, u, t]) : P us := by
  obtain ⟨v, u, t, rfl, a, b, c⟩ := r.three_i
  exact H v u t a b c
end
theorem pre_get {α : Type} {l l' : List α} {i : Nat} {a : α} (p : l <+: l') (e : l[i]? = some a) : l'[i]? = some a := by
  obtain ⟨r, rfl⟩ := p
  rw [List.getElem?_append_left (List.getElem?_eq_some_iff.mp e).1]; exact e
section
variable {B : Base} {as as' W : List Addr} {h h' : Heap}
theorem VRel.imm (s : Imm h h') (p : as <+: as') {m : MV} {v : Value} (r : VRel B as h m v) : VRel B as' h' m v :=
  VRel.rec (motive_1 := fun m v _ => VRel B as' h' m v) (motive_2 := fun l vs _ => VRels B as' h' l vs) .none .bool .int .lin .any .flt .str (fun ht _ q => .tup (s.tuple ht) q)
    (fun e => .lst (pre_get p e)) (fun hr hs hn => .rng (s _ _ hr (.inl rfl)) hs hn) .fn .bi (fun x => .lam (x.imm s)) .nil (fun _ _ a b => .cons a b) r
theorem VRels.imm (s : Imm h h') (p : as <+: as') {l : List MV} {vs : List Value} (r : VRels B as h l vs) : VRels B as' h' l vs :=
  VRels.rec (motive_1 := fun m v _ => VRel B as' h' m v) (motive_2 := fun l vs _ => VRels B as' h' l vs) .none .bool .int .lin .any .flt .str (fun ht _ q => .tup (s.tuple ht) q)
    (fun e => .lst (pre_get p e)) (fun hr hs hn => .rng (s _ _ hr (.inl rfl)) hs hn) .fn .bi (fun x => .lam (x.imm s)) .nil (fun _ _ a b => .cons a b) r
theorem VRel.stp (s : Stp W h h') (p : as <+: as') {m : MV} {v : Value} (r : VRel B as h m v) : VRel B as' h' m v := r.imm s.imm p
theorem VRels.stp (s : Stp W h h') (p : as <+: as') {m : List MV} {v : List Value} (r : VRels B as h m v) : VRels B as' h' m v := r.imm s.imm p
theorem VRels.length {l : List MV} : ∀ {vs : List Value}, VRels B as h l vs → l.length = vs.length := by
  induction l with
  | nil => exact fun r => by rw [r.nil_i]; rfl
  | cons x l ih => exact fun r => VRels.cons_e r fun v vs _ q => congrArg (· + 1) (ih q)
theorem VRels.append {l l' : List MV} {vs' : List Value} : ∀ {vs : List Value}, VRels B as h l vs → VRels B as h l' vs' → VRels B as h (l ++ l') (vs ++ vs') := by
  induction l with
  | nil => exact fun r q => by rw [r.nil_i]; exact q
  | cons x l ih =>
    intro vs r q
    obtain ⟨v, ws, rfl, a, b⟩ := r.cons_i
    exact .cons a (ih b q)
theorem VRels.get {l : List MV} {x : MV} : ∀ {vs : List Value} {k : Nat}, VRels B as h l vs → l[k]? = some x → ∃ v, vs[k]? = some v ∧ VRel B as h x v := by
  induction l with
  | nil => exact fun _ e => nomatch e
  | cons y l ih => 
    intro vs k r e
    obtain ⟨v, ws, rfl, a, b⟩ := r.cons_i
    cases k with
    | zero => cases e; exact ⟨_, rfl, a⟩
    | succ k => exact ih (k := k) b e
theorem VRels.set {l : List MV} {x : MV} {v : Value} : ∀ {vs : List Value} {k : Nat}, VRels B as h l vs → VRel B as h x v → VRels B as h (l.set k x) (vs.set k v) := by
  induction l with
  | nil => exact fun r _ => by rw [r.nil_i]; exact .nil
  | cons y l ih =>
    intro vs k r q
    obtain ⟨u, ws, rfl, a, b⟩ := r.cons_i
    cases k with
    | zero => exact .cons q b
    | succ k => exact .cons a (ih b q)
end

noncomputable def TabAt (B : Base) (t : Nat) (h : Heap) : Prop := ∃ more, h.IsCode (B.tc t) (B.tp t) (B.ps₀ t ++ more) ∧ h.TableAt (B.tc t) (B.tp t) (B.ps₀ t ++ more) ∧ ∀ pos c, codeAmong pos (B.ps₀ t ++ more).toList = some c → CodeAt h c (B.lq t)
theorem TabAt.ext {B : Base} {t : Nat} {h h' : Heap} {x : Addr} (X : TabAt B t h) (hs : Heap.ExtBut x h h') (hc : B.tc t ≠ x) (hp : B.tp t ≠ x) (hi : ∀ a o, h.get? a = some o → ImmO o → h'.get? a = some o) : TabAt B t h' := by
  obtain ⟨ps, a, b, e⟩ := X
  refine ⟨ps, a.extBut hs hc hp, b.extBut hs hc hp, fun pos c hc => ?_⟩
  obtain ⟨c', o, vs, t, e', ho, hcl, hd, hv⟩ := e pos c hc
  exact ⟨c', o, vs, t, e', hi c' o ho (by unfold ImmO; rw [hd]; exact .inr hcl), hcl, hd, hv⟩
noncomputable def OldIn (B : Base) (h : Heap) : Prop := ∀ a o, (∀ t, a ≠ B.tp t) → B.h₀.get? a = some o → h.get? a = some o

noncomputable def PL (h : Heap) (a : Addr) (items : List Value) : Prop := ∃ n, h.get? a = some { cls := .type "list", dict := none, data := .seq items.toArray n, slots := #[] }
inductive PLAt (B : Base) (as : List Addr) (h : Heap) (i : Nat) (l : List MV) : Prop
  | mk (a : Addr) (items : List Value) (h1 : as[i]? = some a) (h2 : PL h a items) (h3 : VRels B as h l items) : PLAt B as h i l
inductive TLAt (B : Base) (as : List Addr) (h : Heap) (i : Nat) (l : List MV) : Prop
  | mk (a : Addr) (items : List Value) (h1 : as[i]? = some a) (h2 : PL h a items) (h3 : VRels B (as.take i) h l items) : TLAt B as h i l
inductive LLAt (B : Base) (as : List Addr) (h : Heap) (i : Nat) (l : List MV) : Prop
  | mk (a : Addr) (items : List Value) (h1 : as[i]? = some a) (h2 : h.IsList a items.toArray) (h3 : VRels B as h l items) : LLAt B as h i l
theorem PL.isList {h : Heap} {a : Addr} {items : List Value} (x : PL h a items) : h.IsList a items.toArray := by
  obtain ⟨n, e⟩ := x
  exact ⟨_, e, rfl, n, rfl⟩
structure Inv (B : Base) (as : List Addr) (st : St) (h : Heap) : Prop where
  len : as.length = st.length
  nodup : as.Nodup
  lists : ∀ (i : Nat) (a : Addr) (l : List MV), as[i]? = some a → st[i]? = some l → ∃ items : List Value, PL h a items ∧ VRels B (as.take i) h l items
  above : ∀ a ∈ as, B.h₀.get? a = none
  old : OldIn B h
  tab : ∀ t, TabAt B t h
namespace Inv
variable {B : Base} {as : List Addr} {st : St} {h h' : Heap}
theorem statics (B : Base) {x : Addr} (hx : B.h₀.get? x = none) : cStatics ≠ x := by
  obtain ⟨_, ⟨o, es, ep, ho, _⟩, _⟩ := B.lim
  rintro rfl
  rw [hx] at ho; cases ho
theorem keepNs (O : OldIn B h) {a : Addr} {m : Str → Option Value} (n : B.h₀.Ns a m) (ha : ∀ t, a ≠ B.tp t) : h.Ns a m := by
  obtain ⟨o, es, ep, ho, r⟩ := n
  exact ⟨o, es, ep, O a o ha ho, r⟩
theorem lim (I : Inv B as st h) : h.NoLimit := by
  obtain ⟨mc, n, e⟩ := B.lim
  exact ⟨mc, keepNs I.old n fun t => Ne.symm (B.tps t), e⟩
theorem get0 (I : Inv B as st h) {a : Addr} {o : Obj} (e : B.h₀.get? a = some o) (hc : o.cls ≠ .none) : h.get? a = some o := I.old a o (by
  rintro t rfl
  rw [(B.tab t).2] at e; cases e; exact hc rfl) e
theorem globals (I : Inv B as st h) : h.Ns mainGlobals B.mg := keepNs I.old B.gl fun t => Ne.symm (B.gln t)
theorem builtins (I : Inv B as st h) : h.Ns builtinsNs B.mb := keepNs I.old B.bl fun t => Ne.symm (B.bln t)
theorem oldK (I : Inv B as st h) : OldK B.h₀ h := by
  refine ⟨fun b o e => ?_, fun b o e => ?_⟩
  · by_cases hb : ∃ t, b = B.tp t
    · obtain ⟨t, rfl⟩ := hb
      obtain ⟨more, _, x, _⟩ := I.tab t
      have e0 := (B.tab t).2
      rw [e] at e0; cases e0
      exact .inr (.inl ⟨(B.tab t).isCodeTable, rfl, B.ps₀ t, more, rfl, x.2⟩)
    · exact .inl (I.old b o (fun t q => hb ⟨t, q⟩) e)
  · by_cases hb : ∃ t, b = B.tp t
    · obtain ⟨t, rfl⟩ := hb
      obtain ⟨more, _, x, _⟩ := I.tab t
      exact ⟨_, x.2⟩
    · exact ⟨o, I.old b o (fun t q => hb ⟨t, q⟩) e⟩
theorem oldSame (I : OldIn B h) {x : Addr} (hs : Heap.SameBut x h h') (h0 : B.h₀.get? x = none) : OldIn B h' := fun b o hb e =>
  (hs.2 b (by rintro rfl; rw [h0] at e; cases e)).trans (I b o hb e)
theorem live0 (I : Inv B as st h) {a : Addr} {o : Obj} (e : B.h₀.get? a = some o) : ∃ o', h.get? a = some o' := by
  by_cases ha : ∃ t, a = B.tp t
  · obtain ⟨t, rfl⟩ := ha
    obtain ⟨more, _, x, _⟩ := I.tab t
    exact ⟨_, x.2⟩
  · exact ⟨o, I.old a o (fun t q => ha ⟨t, q⟩) e⟩
theorem new0 (I : Inv B as st h) {a : Addr} (e : h.get? a = none) : B.h₀.get? a = none := by
  cases e0 : B.h₀.get? a with
  | none => rfl
  | some o =>
    obtain ⟨o', e1⟩ := I.live0 e0
    rw [e] at e1; cases e1
theorem isList (I : Inv B as st h) {a : Addr} (ha : a ∈ as) : ∃ items : List Value, h.IsList a items.toArray := by
  obtain ⟨i, hi, e⟩ := List.getElem_of_mem ha
  have h1 : as[i]? = some a := by rw [List.getElem?_eq_getElem hi, e]
  have hi' : i < st.length := I.len ▸ hi
  obtain ⟨items, hl, _⟩ := I.lists i a st[i] h1 (List.getElem?_eq_getElem hi')
  exact ⟨items, hl.isList⟩
theorem lt (I : Inv B as st h) {a : Addr} (ha : a ∈ as) : a < h.objs.size := by
  obtain ⟨_, o, ho, _⟩ := I.isList ha
  exact Heap.lt_size ho
theorem notMem (I : Inv B as st h) {x : Addr} {ox : Obj} (hx : h.get? x = some ox) (hm : ¬ MutO ox) : x ∉ as := by
  intro ha
  obtain ⟨_, o, ho, hc, n, hd⟩ := I.isList ha
  rw [hx] at ho; cases ho
  exact hm (by unfold MutO; rw [hd]; exact hc)
theorem tabNe (I : Inv B as st h) {x : Addr} {ox : Obj} (hx : h.get? x = some ox) (hi : ¬ ImmO ox) (hm : ¬ (ox.cls = .none)) (t : Nat) : B.tc t ≠ x ∧ B.tp t ≠ x := by
  obtain ⟨ps, _, ⟨⟨o, vs, ho, hc, hd, _⟩, hp⟩, _⟩ := I.tab t
  constructor
  · rintro rfl
    rw [hx] at ho; cases ho
    exact hi (by unfold ImmO; rw [hd]; exact .inr hc)
  · rintro rfl
    rw [hx] at hp; cases hp
    exact hm rfl
theorem tabNe2 (I : Inv B as st h) {x : Addr} {ox : Obj} (hx : h.get? x = some ox) (hi : ¬ ImmO ox) (hm : ¬ MutO ox) (t : Nat) : B.tc t ≠ x ∧ B.tp t ≠ x := by
  obtain ⟨ps, _, ⟨⟨o, vs, ho, hc, hd, _⟩, hp⟩, _⟩ := I.tab t
  constructor
  · rintro rfl
    rw [hx] at ho; cases ho
    exact hi (by unfold ImmO; rw [hd]; exact .inr hc)
  · rintro rfl
    rw [hx] at hp; cases hp
    exact hm rfl
theorem keeps (I : Inv B as st h) (hk : ∀ a o, h.get? a = some o → h'.get? a = some o) (_ : True := trivial) : Inv B as st h' :=
  ⟨I.len, I.nodup, fun i a l e1 e2 => by
    obtain ⟨items, ⟨n, ho⟩, v⟩ := I.lists i a l e1 e2
    exact ⟨items, ⟨n, hk _ _ ho⟩, v.stp (W := []) (.all hk) (List.prefix_refl _)⟩,
   I.above, fun b o hb e => hk b o (I.old b o hb e), fun t => by
    obtain ⟨ps, a, b, e⟩ := I.tab t
    exact ⟨ps, a.keeps hk, b.keeps hk, fun pos c hc => (e pos c hc).stp (W := []) (.all hk)⟩⟩
theorem push (I : Inv B as st h) (o : Obj) : Inv B as st (h.push o) := I.keeps (fun _ _ e => Heap.get?_push_of_some o e)
theorem same (I : Inv B as st h) {x : Addr} {ox : Obj} (hs : Heap.SameBut x h h') (hx : h.get? x = some ox) (hi : ¬ ImmO ox) (hm : ¬ MutO ox) (h0 : B.h₀.get? x = none) (hl : ∃ o', h'.get? x = some o') : Inv B as st h' := by
  have S : Stp [x] h h' := .same hs hx hi (.inl (List.mem_singleton.mpr rfl)) hl
  refine ⟨I.len, I.nodup, fun i a l e1 e2 => ?_, I.above, oldSame I.old hs h0, fun t => (I.tab t).ext hs.extBut (I.tabNe2 hx hi hm t).1 (I.tabNe2 hx hi hm t).2 S.imm⟩
  obtain ⟨items, ⟨n, hl⟩, v⟩ := I.lists i a l e1 e2
  have hax : a ≠ x := by
    rintro rfl
    exact I.notMem hx hm (List.mem_of_getElem? e1)
  exact ⟨items, ⟨n, (hs.2 a hax).trans hl⟩, v.stp S (List.prefix_refl _)⟩
theorem setList (I : Inv B as st h) {i : Nat} {a : Addr} {l : List MV} {items : List Value} (ha : as[i]? = some a) (hs : Heap.SameBut a h h') (hl : PL h' a items) (v : VRels B (as.take i) h l items) :
    Inv B as (st.set i l) h' ∧ Stp [] h h' := by
  obtain ⟨_, o, ho, hc, n, hd⟩ := I.isList (List.mem_of_getElem? ha)
  have hm : MutO o := by unfold MutO; rw [hd]; exact hc
  have hi : ¬ ImmO o := fun i => i.notMut hm
  have hn : ¬ (o.cls = .none) := by rw [hc]; exact fun h => nomatch h
  have S : Stp [] h h' := .same hs ho hi (.inr hm) (by obtain ⟨n, e⟩ := hl; exact ⟨_, e⟩)
  refine ⟨⟨by rw [List.length_set]; exact I.len, I.nodup, fun j b m e1 e2 => ?_, I.above, oldSame I.old hs (I.above a (List.mem_of_getElem? ha)), fun t => (I.tab t).ext hs.extBut (I.tabNe ho hi hn t).1 (I.tabNe ho hi hn t).2 S.imm⟩, S⟩
  by_cases hj : j = i
  · subst hj
    rw [ha] at e1; cases e1
    rw [List.getElem?_set] at e2
    simp only [if_true] at e2
    split at e2
    · cases e2; exact ⟨items, hl, v.stp S (List.prefix_refl _)⟩
    · cases e2
  · rw [List.getElem?_set, if_neg (Ne.symm hj)] at e2
    obtain ⟨items', ⟨n', hl'⟩, v'⟩ := I.lists j b m e1 e2
    have hba : b ≠ a := by
      rintro rfl
      have h1 := (List.getElem?_eq_some_iff.mp e1)
      have h2 := (List.getElem?_eq_some_iff.mp ha)
      obtain ⟨p1, q1⟩ := h1
      obtain ⟨p2, q2⟩ := h2
      exact hj ((List.getElem_inj I.nodup).mp (q1.trans q2.symm))
    exact ⟨items', ⟨n', (hs.2 b hba).trans hl'⟩, v'.stp S (List.prefix_refl _)⟩
theorem newList (I : Inv B as st h) {l : List MV} {items : List Value} {o : Obj} {n : Nat} (ho : o = { cls := .type "list", dict := none, data := .seq items.toArray n, slots := #[] }) (v : VRels B as h l items) :
    Inv B (as ++ [h.objs.size]) (st ++ [l]) (h.push o) := by
  have hf : o.isFreed = false := by subst ho; rfl
  have S : Stp [] h (h.push o) := .push _ _ _
  have I' := I.push o
  refine ⟨by simp [I.len], ?_, fun i a m e1 e2 => ?_, fun a ha => ?_, I'.old, I'.tab⟩
  · rw [List.nodup_append]
    refine ⟨I.nodup, by simp, fun a ha b hb => ?_⟩
    rw [List.mem_singleton.mp hb]
    exact Nat.ne_of_lt (I.lt ha)
  · by_cases hi : i < as.length
    · rw [List.getElem?_append_left hi] at e1
      rw [List.getElem?_append_left (I.len ▸ hi)] at e2
      obtain ⟨items', hl', v'⟩ := I'.lists i a m e1 e2
      exact ⟨items', hl', by rw [List.take_append_of_le_length (Nat.le_of_lt hi)]; exact v'⟩
    · have hi' : i = as.length := by
        have := (List.getElem?_eq_some_iff.mp e1).1
        simp at this; (first | lia | omega)
      subst hi'
      rw [List.getElem?_append_right (Nat.le_refl _), Nat.sub_self] at e1
      rw [I.len, List.getElem?_append_right (Nat.le_refl _), Nat.sub_self] at e2
      cases e1; cases e2
      exact ⟨items, ⟨n, by rw [← ho]; exact Heap.get?_push_size _ hf⟩, by rw [List.take_left]; exact v.stp S (List.prefix_refl _)⟩
  · rcases List.mem_append.mp ha with ha | ha
    · exact I.above a ha
    · rw [List.mem_singleton.mp ha]; exact I.new0 (hNoneAt h)
theorem take (I : Inv B as st h) (n : Nat) : Inv B (as.take n) (st.take n) h :=
  ⟨by simp [I.len], I.nodup.sublist (List.take_sublist _ _), fun i a l e1 e2 => by
    have hi : i < n := by
      apply Nat.lt_of_not_le; intro h
      rw [List.getElem?_take, if_neg (Nat.not_lt.mpr h)] at e1; cases e1
    rw [List.getElem?_take, if_pos hi] at e1 e2
    obtain ⟨items, hl, v⟩ := I.lists i a l e1 e2
    exact ⟨items, hl, by rw [List.take_take, Nat.min_eq_left (Nat.le_of_lt hi)]; exact v⟩, fun a ha => I.above a (List.mem_of_mem_take ha), I.old, I.tab⟩
theorem plist (I : Inv B as st h) {i : Nat} {l : List MV} (e : st[i]? = some l) : PLAt B as h i l := by
  have hi : i < as.length := by rw [I.len]; exact (List.getElem?_eq_some_iff.mp e).1
  obtain ⟨items, hl, v⟩ := I.lists i as[i] l (List.getElem?_eq_getElem hi) e
  exact ⟨as[i], items, List.getElem?_eq_getElem hi, hl, v.stp (.refl [] h) (List.take_prefix _ _)⟩
theorem list (I : Inv B as st h) {i : Nat} {l : List MV} (e : st[i]? = some l) : LLAt B as h i l := by
  obtain ⟨a, items, h1, h2, h3⟩ := I.plist e
  exact ⟨a, items, h1, h2.isList, h3⟩
end Inv

noncomputable def Sme (s s' : Shared) : Prop := s'.gens = s.gens ∧ s'.os = s.os
theorem Sme.refl (s : Shared) : Sme s s := ⟨rfl, rfl⟩
theorem Sme.trans {s s' s'' : Shared} (x : Sme s s') (y : Sme s' s'') : Sme s s'' := ⟨y.1.trans x.1, y.2.trans x.2⟩

structure Go (B : Base) (W : List Addr) (as as' : List Addr) (st' : St) (s s' : Shared) : Prop where
  pre : as <+: as'
  fresh : ∀ a ∈ as', a ∈ as ∨ s.heap.get? a = none
  stp : Stp W s.heap s'.heap
  inv : Inv B as' st' s'.heap
  sme : Sme s s'
namespace Go
variable {B : Base} {W : List Addr} {as as' as'' : List Addr} {st st' st'' : St} {s s' s'' : Shared}
theorem refl (W : List Addr) (I : Inv B as st s.heap) : Go B W as as st s s := ⟨List.prefix_refl _, fun _ h => .inl h, .refl _ _, I, .refl _⟩
theorem tok (I : Inv B as st s.heap) {t : Nat} : Go B W as as st s { s with toks := t } := ⟨List.prefix_refl _, fun _ h => .inl h, .refl _ _, I, .refl _⟩
theorem trans (x : Go B W as as' st' s s') (y : Go B W as' as'' st'' s' s'') : Go B W as as'' st'' s s'' :=
  ⟨x.pre.trans y.pre, fun a h => by
    rcases y.fresh a h with h | h
    · exact x.fresh a h
    · exact .inr (x.stp.dead h), x.stp.trans0 y.stp, y.inv, x.sme.trans y.sme⟩
theorem of0 (x : Go B [] as as' st' s s') : Go B W as as' st' s s' := ⟨x.pre, x.fresh, x.stp.of0, x.inv, x.sme⟩
end Go
end Mine
end OfMSound1
noncomputable section OfMSound2
set_option autoImplicit false
set_option linter.unusedVariables false
namespace Mine
open PySem PySem.Calls PyProof.Rows

theorem getN_eq {α : Type} : ∀ (l : List α) (k : Nat), getN l k = l[k]?
  | [], _ => by simp [getN]
  | x :: r, 0 => rfl
  | x :: r, k + 1 => by
    rw [List.getElem?_cons_succ, ← getN_eq r k]; rfl
theorem setK_eq {α β : Type} : ∀ (l : List α) (k : Nat) (x : α) (c : List α → β), setK l k x c = c (l.set k x)
  | [], _, _, _ => rfl
  | y :: r, 0, x, c => rfl
  | y :: r, k + 1, x, c => setK_eq r k x fun r' => c (y :: r')
theorem appK_eq {α β : Type} : ∀ (l m : List α) (c : List α → β), appK l m c = c (l ++ m)
  | [], _, _ => rfl
  | y :: r, m, c => appK_eq r m fun r' => c (y :: r')
theorem takeK_eq {α β : Type} : ∀ (n : Nat) (l : List α) (c : List α → β), takeK n l c = c (l.take n)
  | 0, _, _ => rfl
  | n + 1, [], c => rfl
  | n + 1, y :: r, c => takeK_eq n r fun r' => c (y :: r')
theorem dropN_eq {α : Type} : ∀ (n : Nat) (l : List α), dropN n l = l.drop n
  | 0, _ => rfl
  | n + 1, [] => rfl
  | n + 1, y :: r => dropN_eq n r
theorem lenR_eq {α : Type} : ∀ (l : List α), @List.rec α (fun _ => Nat) 0 (fun _ _ ih => Nat.succ ih) l = l.length
  | [] => rfl
  | y :: r => congrArg Nat.succ (lenR_eq r)
theorem lenK_eq {α β : Type} (l : List α) (c : Nat → β) : lenK l c = c l.length := by unfold lenK; rw [forceN_eq, lenR_eq]
theorem insK_eq {α β : Type} : ∀ (l : List α) (n : Nat) (x : α) (c : List α → β), insK l n x c = c (l.take n ++ x :: l.drop n)
  | [], n, x, c => by rw [List.take_nil, List.drop_nil]; rfl
  | y :: r, 0, x, c => rfl
  | y :: r, n + 1, x, c => insK_eq r n x fun r' => c (y :: r')
theorem eqL_eq : ∀ (l m : List Nat), eqL l m = decide (l = m)
  | [], [] => rfl
  | [], _ :: _ => rfl
  | _ :: _, [] => rfl
  | x :: r, y :: t => by
    show bsel (Nat.beq x y) (eqL r t) false = _
    rw [eqL_eq r t, bsel_eq]
    by_cases h : x = y
    · subst h; simp [Nat.beq_refl]
    · have : Nat.beq x y = false := by
        cases hb : Nat.beq x y
        · rfl
        · exact absurd (Nat.eq_of_beq_eq_true hb) h
      simp [this, h]
theorem ob_eq {α β : Type} (r : Option β) (z : α) (k : β → α) : ob r z k = match r with | none => z | some x => k x := by cases r <;> rfl
theorem beq_iff {m n : Nat} : Nat.beq m n = true ↔ m = n := ⟨Nat.eq_of_beq_eq_true, fun h => h ▸ Nat.beq_refl m⟩
theorem ble_iff {m n : Nat} : Nat.ble m n = true ↔ m ≤ n := ⟨Nat.le_of_ble_eq_true, Nat.ble_eq_true_of_le⟩
theorem forceI_eq {β : Type} (i : Int) (c : Int → β) : forceI i c = c i := by
  cases i with
  | ofNat n => exact forceN_eq n fun n => c (.ofNat n)
  | negSucc n => exact forceN_eq n fun n => c (.negSucc n)
theorem iop_eq {β : Type} (f : Nat → Nat → Int) (g : Int → Int → Int) (hfg : ∀ m n : Nat, f m n = g (Int.ofNat m) (Int.ofNat n)) (x y : Int) (c : Int → β) : iop f g x y c = c (g x y) := by
  cases x with
  | ofNat m => cases y with
    | ofNat n => exact (forceI_eq (f m n) c).trans (by rw [hfg])
    | negSucc n => exact forceI_eq _ c
  | negSucc m => exact forceI_eq _ c
theorem subNN_eq (m n : Nat) : subNN m n = Int.ofNat m - Int.ofNat n := by
  unfold subNN
  split <;> rename_i h
  · have h' : n ≤ m := ble_iff.mp h
    show ((m - n : Nat) : Int) = (m : Int) - (n : Int)
    (first | lia | omega)
  · have h' : ¬ n ≤ m := fun q => by rw [ble_iff.mpr q] at h; cases h
    show Int.negSucc (n - m - 1) = (m : Int) - (n : Int)
    (first | lia | omega)
theorem iadd_eq {β : Type} (x y : Int) (c : Int → β) : iadd x y c = c (x + y) := iop_eq (fun m n => Int.ofNat (Nat.add m n)) Int.add (fun _ _ => rfl) x y c
theorem isub_eq {β : Type} (x y : Int) (c : Int → β) : isub x y c = c (x - y) := iop_eq _ _ subNN_eq x y c
theorem imul_eq {β : Type} (x y : Int) (c : Int → β) : imul x y c = c (x * y) := iop_eq (fun m n => Int.ofNat (Nat.mul m n)) Int.mul (fun _ _ => rfl) x y c
theorem ifdiv_eq {β : Type} (x y : Int) (c : Int → β) : ifdiv x y c = c (x.fdiv y) := iop_eq (fun m n => Int.ofNat (Nat.div m n)) Int.fdiv (fun m n => (by
  show ((m / n : Nat) : Int) = Int.fdiv (m : Int) (n : Int)
  rw [Int.fdiv_eq_ediv_of_nonneg _ (Int.natCast_nonneg n)]; exact Int.natCast_ediv m n)) x y c
theorem ifmod_eq {β : Type} (x y : Int) (c : Int → β) : ifmod x y c = c (x.fmod y) := iop_eq (fun m n => Int.ofNat (Nat.mod m n)) Int.fmod (fun m n => (by
  show ((m % n : Nat) : Int) = Int.fmod (m : Int) (n : Int)
  rw [Int.fmod_eq_emod_of_nonneg _ (Int.natCast_nonneg n)]; exact Int.natCast_emod m n)) x y c
theorem ieq_eq (x y : Int) : ieq x y = decide (x = y) := by
  cases x <;> cases y <;> (try rfl)
  rename_i m n
  show Nat.beq m n = _
  rw [Bool.eq_iff_iff, beq_iff, decide_eq_true_iff]
  constructor
  · intro h; rw [h]
  · intro h; exact Int.ofNat.inj h
theorem ile_eq (x y : Int) : ile x y = decide (x ≤ y) := by
  cases x <;> cases y <;> (try rfl)
  rename_i m n
  show Nat.ble m n = _
  rw [Bool.eq_iff_iff, ble_iff, decide_eq_true_iff]
  exact Int.ofNat_le.symm
theorem ilt_eq (x y : Int) : ilt x y = decide (x < y) := by
  cases x <;> cases y <;> (try rfl)
  rename_i m n
  show Nat.ble (Nat.succ m) n = _
  rw [Bool.eq_iff_iff, ble_iff, decide_eq_true_iff]
  exact Int.ofNat_lt.symm
theorem iabs_iff (x : Int) (n : Nat) : iabs x n = true ↔ x.natAbs ≤ n := by
  cases x <;> exact ble_iff
theorem nones_get (n k : Nat) {v : MV} : (nones n)[k]? ≠ some (some v) := by
  induction n generalizing k with
  | zero => intro h; cases h
  | succ n ih =>
    cases k with
    | zero => intro h; cases h
    | succ k => exact ih k
theorem nones_length (n : Nat) : (nones n).length = n := by
  induction n with
  | zero => rfl
  | succ n ih => exact congrArg Nat.succ ih
theorem repK_eq {α β : Type} (x : List α) : ∀ (n : Nat) (c : List α → β), repK x n c = c (List.replicate n x).flatten
  | 0, c => rfl
  | n + 1, c => by
    show repK x n (fun r => appK x r c) = _
    rw [repK_eq x n, appK_eq]; rfl
theorem joinK_eq {β : Type} : ∀ (l : List (List Nat)) (c : List Nat → β), joinK l c = c l.flatten
  | [], _ => rfl
  | x :: r, c => by
    show joinK r (fun r => appK x r c) = _
    rw [joinK_eq r, appK_eq]; rfl
theorem forceIs_eq {β : Type} : ∀ (l : List Int) (c : List MV → β), forceIs l c = c (l.map .int)
  | [], _ => rfl
  | x :: r, c => by
    show forceI x (fun x => forceIs r fun r => c (.int x :: r)) = _
    rw [forceI_eq, forceIs_eq r]; rfl
end Mine
end OfMSound2
noncomputable section OfMSound3
set_option autoImplicit false
set_option linter.unusedVariables false
namespace Mine
open PySem PySem.Calls PyProof.Rows

theorem nv {v : MV} {st : St} : RV.no ≠ RV.ok v st := fun h => nomatch h
theorem nl {v : List MV} {st : St} : RL.no ≠ RL.ok v st := fun h => nomatch h
theorem nb {v : Bool} {st : St} : RB.no ≠ RB.ok v st := fun h => nomatch h
theorem nn {ρ : Sl} {st : St} : RX.no ≠ RX.nx ρ st := fun h => nomatch h
theorem nr {v : MV} {st : St} : RX.no ≠ RX.rt v st := fun h => nomatch h
theorem ns {ρ : Sl} {st : St} : RS.no ≠ RS.ok ρ st := fun h => nomatch h
theorem no {α : Type} {x : α} : (none : Option α) ≠ some x := fun h => nomatch h
inductive Ex3 {α β γ : Type} (p : α → β → γ → Prop) : Prop
  | intro (a : α) (b : β) (c : γ) (h : p a b c) : Ex3 p
inductive Ex4 {α β γ δ : Type} (p : α → β → γ → δ → Prop) : Prop
  | intro (a : α) (b : β) (c : γ) (d : δ) (h : p a b c d) : Ex4 p
inductive And3 (a1 a2 a3 : Prop) : Prop
  | intro (h1 : a1) (h2 : a2) (h3 : a3) : And3 a1 a2 a3
inductive And4 (a1 a2 a3 a4 : Prop) : Prop
  | intro (h1 : a1) (h2 : a2) (h3 : a3) (h4 : a4) : And4 a1 a2 a3 a4
inductive And5 (a1 a2 a3 a4 a5 : Prop) : Prop
  | intro (h1 : a1) (h2 : a2) (h3 : a3) (h4 : a4) (h5 : a5) : And5 a1 a2 a3 a4 a5
inductive And6 (a1 a2 a3 a4 a5 a6 : Prop) : Prop
  | intro (h1 : a1) (h2 : a2) (h3 : a3) (h4 : a4) (h5 : a5) (h6 : a6) : And6 a1 a2 a3 a4 a5 a6
inductive And8 (a1 a2 a3 a4 a5 a6 a7 a8 : Prop) : Prop
  | intro (h1 : a1) (h2 : a2) (h3 : a3) (h4 : a4) (h5 : a5) (h6 : a6) (h7 : a7) (h8 : a8) : And8 a1 a2 a3 a4 a5 a6 a7 a8
theorem wpAny_gen {α : Type} {M : Model} {A : Around} {m : Sem α} {P : α → Shared → Prop} {E : Value → Shared → Prop} {s : Shared} (H : ∀ Q : α → Shared → Prop, (∀ v s', P v s' → Q v s') → wpAny M A m Q E s) : wpAny M A m P E s := H P fun _ _ h => h
theorem RV.b_el {α : Type} {r : RV} {z y : α} {k : MV → St → α} {G : Prop} (h : r.b z k = y) (hz : z ≠ y) (H : ∀ x st, r = .ok x st → k x st = y → G) : G := match r, h, H with
  | .no, h, _ => absurd h hz
  | .ok x st, h, H => H x st rfl h
theorem RL.b_el {α : Type} {r : RL} {z y : α} {k : List MV → St → α} {G : Prop} (h : r.b z k = y) (hz : z ≠ y) (H : ∀ x st, r = .ok x st → k x st = y → G) : G := match r, h, H with
  | .no, h, _ => absurd h hz
  | .ok x st, h, H => H x st rfl h
theorem RB.b_el {α : Type} {r : RB} {z y : α} {k : Bool → St → α} {G : Prop} (h : r.b z k = y) (hz : z ≠ y) (H : ∀ x st, r = .ok x st → k x st = y → G) : G := match r, h, H with
  | .no, h, _ => absurd h hz
  | .ok x st, h, H => H x st rfl h
theorem RS.b_el {α : Type} {r : RS} {z y : α} {k : Sl → St → α} {G : Prop} (h : r.b z k = y) (hz : z ≠ y) (H : ∀ x st, r = .ok x st → k x st = y → G) : G := match r, h, H with
  | .no, h, _ => absurd h hz
  | .ok x st, h, H => H x st rfl h
theorem ob_el {α β : Type} {r : Option β} {z y : α} {k : β → α} {G : Prop} (h : ob r z k = y) (hz : z ≠ y) (H : ∀ x, r = some x → k x = y → G) : G := match r, h, H with
  | none, h, _ => absurd h hz
  | some x, h, H => H x rfl h
theorem bsel_el {α : Type} {b : Bool} {x z y : α} {G : Prop} (h : bsel b x z = y) (hz : z ≠ y) (H : b = true → x = y → G) : G := match b, h, H with
  | false, h, _ => absurd h hz
  | true, h, H => H rfl h
theorem bsel_nel {α : Type} {b : Bool} {x z y : α} {G : Prop} (h : bsel b z x = y) (hz : z ≠ y) (H : b = false → x = y → G) : G := match b, h, H with
  | true, h, _ => absurd h hz
  | false, h, H => H rfl h
structure Room (n : Nat) (A : Around) : Prop where
  hd : A.handled = none
  dep : A.depth + 4 * n + 20 < recursionLimit
  uni : A.units + 20 * n + 100 < cLine

structure Ctx where
  nm : List (Str × NameKind)
  un : List Str
  lm : Bool

noncomputable def Ws (env : Env) : List Addr := env.locals :: env.cells.map (·.2)
structure EnvR (B : Base) (C : Ctx) (ρ up : Sl) (env : Env) (as : List Addr) (h : Heap) : Prop where
  kind : env.scope.kind = .function
  names : env.scope.names = C.nm
  dist : (C.nm.map (·.1)).Nodup
  ns : ∃ m, h.Ns env.locals m ∧ ∀ (k : Nat) (x : Str) (v : MV), C.nm[k]? = some (x, .local) → ρ[k]? = some (some v) → ∃ u, m x = some u ∧ VRel B as h v u
  cel : ∀ (k : Nat) (x : Str) (v : MV), C.nm[k]? = some (x, .cell) → ρ[k]? = some (some v) → ∃ c u, env.cells.lookup x = some c ∧ h.IsCell c (some u) ∧ VRel B as h v u
  upr : ∀ (k : Nat) (x : Str) (v : MV), C.un[k]? = some x → up[k]? = some (some v) → C.nm.lookup x = some .cell → ∃ c u, env.cells.lookup x = some c ∧ h.IsCell c (some u) ∧ VRel B as h v u
  glo : env.globals = mainGlobals
  bui : env.builtins = builtinsNs
  celx : ∀ (k : Nat) (x : Str), C.nm[k]? = some (x, .cell) → ∃ c v₀, env.cells.lookup x = some c ∧ h.IsCell c v₀
  cinj : ∀ x y c, env.cells.lookup x = some c → env.cells.lookup y = some c → x = y
  wlive : ∀ a ∈ Ws env, ∃ o, h.get? a = some o
  lmc : C.lm = true → env.code = .ref (B.tc 0) ∧ env.qual ++ "<lambda>" = B.lq 0
theorem lookup_of_get {nm : List (Str × NameKind)} (hd : (nm.map (·.1)).Nodup) : ∀ {k : Nat} {x : Str} {kd : NameKind}, nm[k]? = some (x, kd) → nm.lookup x = some kd := by
  induction nm with
  | nil => intro k x kd h; simp at h
  | cons p r ih =>
    intro k x kd h
    obtain ⟨y, kd'⟩ := p
    rw [List.map_cons, List.nodup_cons] at hd
    cases k with
    | zero => simp at h; obtain ⟨rfl, rfl⟩ := h; simp
    | succ k =>
      have h' : r[k]? = some (x, kd) := by simpa using h
      have hne : (x == y) = false := by
        apply beq_eq_false_iff_ne.mpr
        rintro rfl
        exact hd.1 (List.mem_map.mpr ⟨_, List.mem_of_getElem? h', rfl⟩)
      rw [List.lookup_cons, hne]
      exact ih hd.2 h'
theorem EnvR.stp {B : Base} {C : Ctx} {ρ up : Sl} {env : Env} {as as' : List Addr} {h h' : Heap} (V : EnvR B C ρ up env as h) (s : Stp [] h h') (p : as <+: as') : EnvR B C ρ up env as' h' where
  kind := V.kind
  names := V.names
  dist := V.dist
  ns := by
    obtain ⟨m, hn, hv⟩ := V.ns
    exact ⟨m, s.ns hn (fun h => nomatch h), fun k x v e1 e2 => by
      obtain ⟨u, e, r⟩ := hv k x v e1 e2
      exact ⟨u, e, r.stp s p⟩⟩
  cel := fun k x v e1 e2 => by
    obtain ⟨c, u, e, i, r⟩ := V.cel k x v e1 e2
    exact ⟨c, u, e, s.cell i (fun h => nomatch h), r.stp s p⟩
  upr := fun k x v e1 e2 e3 => by
    obtain ⟨c, u, e, i, r⟩ := V.upr k x v e1 e2 e3
    exact ⟨c, u, e, s.cell i (fun h => nomatch h), r.stp s p⟩
  glo := V.glo
  bui := V.bui
  celx := fun k x e => by
    obtain ⟨c, v, e1, e2⟩ := V.celx k x e
    exact ⟨c, v, e1, s.cell e2 (fun h => nomatch h)⟩
  cinj := V.cinj
  wlive := fun a ha => by
    obtain ⟨o, e⟩ := V.wlive a ha
    exact s.live a o e
  lmc := V.lmc

noncomputable def Pst (B : Base) (as : List Addr) (st' : St) (v : MV) (s : Shared) : Value → Shared → Prop := fun u s' => ∃ as', Go B [] as as' st' s s' ∧ VRel B as' s'.heap v u
theorem Pst.all {B : Base} {as : List Addr} {st' : St} {v : MV} {s : Shared} {R : Value → Shared → Prop} (H : ∀ u s' as', Go B [] as as' st' s s' → VRel B as' s'.heap v u → R u s') (u : Value) (s' : Shared) (p : Pst B as st' v s u s') : R u s' := match p with
  | ⟨as', G, r⟩ => H u s' as' G r
noncomputable def No : Value → Shared → Prop := fun _ _ => False
section
variable (prog : Program) (w : World) (B : Base)
noncomputable def SC (n : Nat) (c : Calls) : Prop := ∀ f vs kw st v st', c f vs kw st = .ok v st' → ∀ A as s fv us kus, Room n A → Inv B as st s.heap → VRel B as s.heap f fv → VRels B as s.heap vs us →
  (match kw with | none => kus = [] | some k => ∃ ku, kus = [((Str.ofString "key"), ku)] ∧ VRel B as s.heap k ku) →
  wpAny (model prog w) A (call fv us kus) (Pst B as st' v s) No s
noncomputable def SE (C : Ctx) (e : Expr) (f : FE) : Prop := ∀ n c, SC prog w B n c → ∀ ρ up st v st', f c ρ up st = .ok v st' → ∀ A env as s, Room n A → EnvR B C ρ up env as s.heap → Inv B as st s.heap →
  wpAny (model prog w) A (eval e env) (Pst B as st' v s) No s
end
variable {prog : Program} {w : World} {B : Base} {C : Ctx}

theorem wp_to {α : Type} {A : Around} {t : Sem α} {Q Q' : α → Shared → Prop} {s : Shared} (h : wpAny (model prog w) A t Q No s) (hQ : ∀ a s, Q a s → Q' a s) : wpAny (model prog w) A t Q' No s :=
  wpAny_mono h hQ fun _ _ x => x
theorem wp_any {α : Type} {A : Around} {t : Sem α} {Q Q' : α → Shared → Prop} {E : Value → Shared → Prop} {s : Shared} (h : wpAny (model prog w) A t Q No s) (hQ : ∀ a s, Q a s → Q' a s) : wpAny (model prog w) A t Q' E s :=
  wpAny_mono h hQ fun _ _ x => x.elim

theorem Pst.tok {as : List Addr} {st : St} {v : MV} {s : Shared} {u : Value} {t : Nat} (I : Inv B as st s.heap) (r : VRel B as s.heap v u) : Pst B as st v s u { s with toks := t } := ⟨as, .tok I, r⟩
theorem Pst.here {as : List Addr} {st : St} {v : MV} {s : Shared} {u : Value} (I : Inv B as st s.heap) (r : VRel B as s.heap v u) : Pst B as st v s u s := ⟨as, .refl [] I, r⟩

theorem SE.intc {i : Int} {k p} : SE prog w B C (.Constant (.int i) k p) (cCst (.int i)) := by
  intro n c hc ρ up st v st' h A env as s R V I
  cases h
  exact wpAny_Constant_int (Pst.tok I (.int _ _))
theorem SE.fltc {x : UInt64} {y : Nat} {k p} (hy : y < 18446744073709551616) (e : x = UInt64.ofNat y) : SE prog w B C (.Constant (.float x) k p) (cCst (.flt y)) := by
  intro n c hc ρ up st v st' h A env as s R V I
  cases h; subst e
  exact wpAny_Constant_float (Pst.tok I (.flt _ _ hy))
theorem SE.strc {x : Str} {y : List Nat} {k p} (e : x = ⟨y.toArray⟩) : SE prog w B C (.Constant (.str x) k p) (cCst (.str y)) := by
  intro n c hc ρ up st v st' h A env as s R V I
  cases h; subst e
  exact wpAny_Constant_str (Pst.tok I (.str _ _))
theorem SE.nonec {k p} : SE prog w B C (.Constant .none k p) (cCst .none) := by
  intro n c hc ρ up st v st' h A env as s R V I
  cases h
  exact wpAny_Constant_none (Pst.here I .none)
theorem SE.boolc {b : Bool} {k p} : SE prog w B C (.Constant (.bool b) k p) (cCst (.bool b)) := by
  intro n c hc ρ up st v st' h A env as s R V I
  cases h
  exact wpAny_Constant_bool (Pst.here I (.bool _))
theorem hVar_ok {k : Nat} {ρ : Sl} {st st' : St} {v : MV} (h : hVar k ρ st = .ok v st') : ρ[k]? = some (some v) ∧ st' = st := by
  unfold hVar at h
  refine ob_el h nv fun o h1 h => ?_
  refine ob_el h nv fun x h2 h => ?_
  cases h
  rw [getN_eq] at h1
  subst h2
  exact ⟨h1, rfl⟩
theorem SE.var {k : Nat} {x : Str} {p : Pos} {kd : NameKind} (e : C.nm[k]? = some (x, kd)) (hk : kd = .local ∨ kd = .cell) (hd : (x == ("__debug__" : Str)) = false) : SE prog w B C (.Name x p) (cVar k) := by
  intro n c hc ρ up st v st' h A env as s R V I
  obtain ⟨h1, rfl⟩ := hVar_ok h
  have hl : env.kindOf x = some kd := by unfold Env.kindOf; rw [V.names]; exact lookup_of_get V.dist e
  rcases hk with rfl | rfl
  · obtain ⟨m, hn, hv⟩ := V.ns
    obtain ⟨u, hu, r⟩ := hv k x v e h1
    exact wpAny_Name (wpAny_loadName_local V.kind hl hn hu (Pst.here I r)) hd
  · obtain ⟨c, u, hl', hi, r⟩ := V.cel k x v e h1
    exact wpAny_Name (wpAny_loadName_cell V.kind hl hl' hi (Pst.here I r)) hd
theorem SE.up {k : Nat} {x : Str} {p : Pos} (e : C.un[k]? = some x) (hl : C.nm.lookup x = some .cell) (hd : (x == ("__debug__" : Str)) = false) : SE prog w B C (.Name x p) (cUp k) := by
  intro n c hc ρ up st v st' h A env as s R V I
  obtain ⟨h1, rfl⟩ := hVar_ok h
  obtain ⟨c, u, hc', hi, r⟩ := V.upr k x v e h1 hl
  exact wpAny_Name (wpAny_loadName_cell V.kind (by unfold Env.kindOf; rw [V.names]; exact hl) hc' hi (Pst.here I r)) hd
theorem SE.glob {x : Str} {p : Pos} {v : MV} {u : Value} (hl : C.nm.lookup x = some .globalImplicit) (hg : B.mg x = some u) (r : ∀ as h, VRel B as h v u) (hd : (x == ("__debug__" : Str)) = false) : SE prog w B C (.Name x p) (cCst v) := by
  intro n c hc ρ up st v' st' h A env as s R V I
  cases h
  exact Name_function_global V.kind (by unfold Env.kindOf; rw [V.names]; exact hl) (loadGlobal_global (by rw [V.glo]; exact I.globals) hg (Pst.here I (r _ _))) hd
theorem SE.built {x : Str} {p : Pos} {v : MV} {u : Value} (hl : C.nm.lookup x = some .globalImplicit) (hg : B.mg x = none) (hb : B.mb x = some u) (r : ∀ as h, VRel B as h v u) (hd : (x == ("__debug__" : Str)) = false) : SE prog w B C (.Name x p) (cCst v) := by
  intro n c hc ρ up st v' st' h A env as s R V I
  cases h
  exact Name_function_global V.kind (by unfold Env.kindOf; rw [V.names]; exact hl) (loadGlobal_builtin (by rw [V.glo]; exact I.globals) hg (by rw [V.bui]; exact I.builtins) hb (Pst.here I (r _ _))) hd
end Mine
end OfMSound3
noncomputable section OfMSound4
set_option autoImplicit false
set_option linter.unusedVariables false
namespace Mine
open PySem PySem.Calls PyProof.Rows
variable {prog : Program} {w : World} {B : Base} {C : Ctx}

noncomputable def opOf : Op2 → Operator
  | .add => .Add | .sub => .Sub | .mul => .Mult | .div => .Div | .fdiv => .FloorDiv | .mod => .Mod | .pow => .Pow

theorem mulOk_left {a b : Int} (h : a.natAbs ≤ 1099511627776) : IntMulOk a b := .of_left (intBits_le_64 (by (first | lia | omega)) (by (first | lia | omega)))
theorem mulOk_right {a b : Int} (h : b.natAbs ≤ 1099511627776) : IntMulOk a b := .of_right (intBits_le_64 (by (first | lia | omega)) (by (first | lia | omega)))
theorem decide_false {p : Prop} [Decidable p] (h : decide p = false) : ¬ p := of_decide_eq_false h

section
variable {A : Around} {as : List Addr} {s : Shared} {st st' : St} {v : MV}

theorem linK_ok {w' : Nat} {a b : Int} (h : linK w' a b (fun z => RV.ok z st) = .ok v st') : st' = st ∧ ∀ as h t, VRel B as h v (.int (a * B.va w' + b) t) := by
  unfold linK at h
  rw [forceI_eq, forceI_eq, bsel_eq, ieq_eq] at h
  by_cases ha : a = 0
  · rw [if_pos (by simpa using ha)] at h
    cases h
    subst ha
    refine ⟨rfl, fun as h t => ?_⟩
    rw [show (0 : Int) * B.va w' + b = b by (first | lia | omega)]
    exact .int _ _
  · rw [if_neg (by simpa using ha)] at h
    cases h
    exact ⟨rfl, fun as h t => .lin _ _ _ _⟩

theorem bopI_sound {o : Op2} {x y : Int} {t u : Tok} (h : bopI o x y st = .ok v st') (I : Inv B as st s.heap) : wpAny (model prog w) A (binaryOp (opOf o) (.int x t) (.int y u)) (Pst B as st' v s) No s := by
  cases o with
  | add =>
    unfold bopI at h
    simp only [iadd_eq] at h; cases h
    exact PyProof.Rows.add_int (Pst.tok I (.int _ _))
  | sub =>
    unfold bopI at h
    simp only [isub_eq] at h; cases h
    exact PyProof.Rows.sub_int (Pst.tok I (.int _ _))
  | mul =>
    unfold bopI at h
    refine bsel_el h nv fun h1 h => ?_
    rw [imul_eq] at h; cases h
    exact PyProof.Rows.mul_int (Pst.tok I (.int _ _)) (mulOk_left ((iabs_iff _ _).mp h1))
  | fdiv =>
    unfold bopI at h
    refine bsel_nel h nv fun h1 h => ?_
    refine bsel_el h nv fun h2 h => ?_
    rw [ieq_eq] at h1
    rw [ifdiv_eq] at h; cases h
    exact PyProof.Rows.floordiv_int (decide_false h1) (Pst.tok I (.int _ _)) (.inl (PyProof.noPylong_small (Nat.lt_of_le_of_lt ((iabs_iff _ _).mp h2) (by decide))))
  | mod =>
    unfold bopI at h
    refine bsel_nel h nv fun h1 h => ?_
    rw [ieq_eq] at h1
    rw [ifmod_eq] at h; cases h
    exact PyProof.Rows.mod_int' (decide_false h1) (Pst.tok I (.int _ _))
  | pow =>
    cases x with
    | negSucc m => cases h
    | ofNat m => cases y with
      | negSucc n => cases h
      | ofNat n =>
        have h' : bsel (Nat.ble m 4096) (bsel (Nat.ble n 64) (forceN (Nat.pow m n) fun z => RV.ok (.int (.ofNat z)) st) .no) .no = .ok v st' := h
        refine bsel_el h' nv fun h1 h' => ?_
        refine bsel_el h' nv fun h2 h' => ?_
        rw [forceN_eq] at h'; cases h'
        have h1 := ble_iff.mp h1
        have h2 := ble_iff.mp h2
        refine PyProof.Rows.pow_int_small (Int.natCast_nonneg n) (by show (n : Int) ≤ _; (first | lia | omega)) (by show m < _; (first | lia | omega)) (Pst.tok I ?_)
        rw [show (Int.ofNat m) ^ (Int.ofNat n).toNat = Int.ofNat (Nat.pow m n) from (Int.natCast_pow m n).symm]
        exact .int _ _
  | div =>
    unfold bopI at h
    refine bsel_el h nv fun h1 h => ?_
    refine bsel_el h nv fun h2 h => ?_
    refine ob_el h nv fun z h3 h => ?_
    rw [forceN_eq] at h; cases h
    have h1 := (iabs_iff _ _).mp h1
    have h2 := (iabs_iff _ _).mp h2
    obtain ⟨hy, hz⟩ := fdivI_eq h1 h2 h3
    refine AutoIntOps.truediv_2 (by simpa using hy) (ofFrac_noInf h1 h2 hy) ?_
    show Pst B as st _ s _ _
    rw [← ofNat_toNat (Float64.ofFrac _ _ _), ← hz]
    exact Pst.tok I (.flt _ _ (hz ▸ toNat_lt _))

theorem bopLI_sound {o : Op2} {k : Nat} {a b y : Int} {t u : Tok} (h : bopLI o k a b y st = .ok v st') (I : Inv B as st s.heap) : wpAny (model prog w) A (binaryOp (opOf o) (.int (a * B.va k + b) t) (.int y u)) (Pst B as st' v s) No s := by
  cases o with
  | add =>
    obtain ⟨rfl, r⟩ := linK_ok (B := B) h
    refine PyProof.Rows.add_int (Pst.tok I ?_)
    rw [Int.add_assoc]; exact r _ _ _
  | sub =>
    obtain ⟨rfl, r⟩ := linK_ok (B := B) h
    refine PyProof.Rows.sub_int (Pst.tok I ?_)
    rw [Int.add_sub_assoc]; exact r _ _ _
  | mul =>
    unfold bopLI at h
    refine bsel_el h nv fun h1 h => ?_
    obtain ⟨rfl, r⟩ := linK_ok (B := B) h
    refine PyProof.Rows.mul_int (Pst.tok I ?_) (mulOk_right ((iabs_iff _ _).mp h1))
    rw [show (a * B.va k + b) * y = a * y * B.va k + b * y by rw [Int.add_mul, Int.mul_right_comm]]
    exact r _ _ _
  | fdiv =>
    unfold bopLI at h
    refine bsel_nel h nv fun h1 h => ?_
    refine bsel_el h nv fun h2 h => ?_
    refine bsel_el h nv fun h3 h => ?_
    rw [ieq_eq] at h1 h3
    obtain ⟨rfl, r⟩ := linK_ok (B := B) h
    have hy := decide_false h1
    have hm := of_decide_eq_true h3
    refine PyProof.Rows.floordiv_int hy (Pst.tok I ?_) (.inl (PyProof.noPylong_small (Nat.lt_of_le_of_lt ((iabs_iff _ _).mp h2) (by decide))))
    have hd : a = a.fdiv y * y := by have := Int.mul_fdiv_add_fmod a y; rw [hm, Int.add_zero] at this; rw [Int.mul_comm]; exact this.symm
    rw [show (a * B.va k + b).fdiv y = a.fdiv y * B.va k + b.fdiv y by
      conv => lhs; rw [hd, show a.fdiv y * y * B.va k + b = b + (a.fdiv y * B.va k) * y by rw [Int.add_comm, Int.mul_right_comm]]
      rw [Int.add_mul_fdiv_right _ _ hy, Int.add_comm]]
    exact r _ _ _
  | mod =>
    unfold bopLI at h
    refine bsel_nel h nv fun h1 h => ?_
    refine bsel_el h nv fun h3 h => ?_
    rw [ieq_eq] at h1 h3
    rw [forceI_eq] at h; cases h
    have hy := decide_false h1
    have hm := of_decide_eq_true h3
    refine PyProof.Rows.mod_int' hy (Pst.tok I ?_)
    have hd : a = a.fdiv y * y := by have := Int.mul_fdiv_add_fmod a y; rw [hm, Int.add_zero] at this; rw [Int.mul_comm]; exact this.symm
    rw [show (a * B.va k + b).fmod y = b.fmod y by
      conv => lhs; rw [hd, show a.fdiv y * y * B.va k + b = b + (a.fdiv y * B.va k) * y by rw [Int.add_comm, Int.mul_right_comm]]
      rw [Int.add_mul_fmod_self_right]]
    exact .int _ _
  | div => cases h
  | pow => cases h

theorem bopIL_sound {o : Op2} {k : Nat} {a b x : Int} {t u : Tok} (h : bopIL o x k a b st = .ok v st') (I : Inv B as st s.heap) : wpAny (model prog w) A (binaryOp (opOf o) (.int x t) (.int (a * B.va k + b) u)) (Pst B as st' v s) No s := by
  cases o with
  | add =>
    obtain ⟨rfl, r⟩ := linK_ok (B := B) h
    refine PyProof.Rows.add_int (Pst.tok I ?_)
    rw [show x + (a * B.va k + b) = a * B.va k + (x + b) by (first | lia | omega)]; exact r _ _ _
  | sub =>
    obtain ⟨rfl, r⟩ := linK_ok (B := B) h
    refine PyProof.Rows.sub_int (Pst.tok I ?_)
    rw [show x - (a * B.va k + b) = -a * B.va k + (x - b) by rw [Int.neg_mul]; (first | lia | omega)]; exact r _ _ _
  | mul =>
    unfold bopIL at h
    refine bsel_el h nv fun h1 h => ?_
    obtain ⟨rfl, r⟩ := linK_ok (B := B) h
    refine PyProof.Rows.mul_int (Pst.tok I ?_) (mulOk_left ((iabs_iff _ _).mp h1))
    rw [show x * (a * B.va k + b) = x * a * B.va k + x * b by rw [Int.mul_add, Int.mul_assoc]]
    exact r _ _ _
  | fdiv => cases h
  | mod => cases h
  | div => cases h
  | pow => cases h

theorem fltK_ok {z : Nat} (h : fltK z st = .ok v st') : v = .flt z ∧ st' = st := by
  unfold fltK at h
  rw [forceN_eq] at h
  cases h; exact ⟨rfl, rfl⟩
theorem flt_post {z : Nat} {f : UInt64} {k : Nat} {t : Tok} (e : z = f.toNat) (I : Inv B as st s.heap) : Pst B as st (.flt z) s (.float f t) { s with toks := k } := by
  subst e
  have := Pst.tok (t := k) I (VRel.flt (B := B) (as := as) (h := s.heap) f.toNat t (toNat_lt f))
  rw [ofNat_toNat] at this
  exact this
theorem notZero {y : Nat} (hy : y < 18446744073709551616) (h1 : Nat.beq y 0 = false) (h2 : Nat.beq y 9223372036854775808 = false) : ¬ Float64.isZero (UInt64.ofNat y) = true := by
  intro h
  rcases (isZero_iff hy).mp h with rfl | rfl
  · exact absurd h1 (by decide)
  · exact absurd h2 (by decide)
theorem bopF_sound {o : Op2} {x y : Nat} {t u : Tok} (hx : x < 18446744073709551616) (hy : y < 18446744073709551616) (h : bopF o x y st = .ok v st') (I : Inv B as st s.heap) :
    wpAny (model prog w) A (binaryOp (opOf o) (.float (UInt64.ofNat x) t) (.float (UInt64.ofNat y) u)) (Pst B as st' v s) No s := by
  cases o with
  | add =>
    obtain ⟨rfl, rfl⟩ := fltK_ok h
    exact PyProof.Rows.add_float (flt_post (fadd_eq hx hy) I)
  | sub =>
    obtain ⟨rfl, rfl⟩ := fltK_ok h
    exact PyProof.Rows.sub_float (flt_post (fsub_eq hx hy) I)
  | mul =>
    obtain ⟨rfl, rfl⟩ := fltK_ok h
    exact PyProof.Rows.mul_float (flt_post (fmul_eq hx hy) I)
  | div =>
    refine bsel_nel h nv fun h1 h => ?_
    refine bsel_nel h nv fun h2 h => ?_
    obtain ⟨rfl, rfl⟩ := fltK_ok h
    exact AutoFloatOps.truediv_1 (notZero hy h1 h2) (flt_post (fdivF_eq hx hy) I)
  | mod =>
    refine bsel_nel h nv fun h1 h => ?_
    refine bsel_nel h nv fun h2 h => ?_
    obtain ⟨rfl, rfl⟩ := fltK_ok h
    exact AutoFloatOps.mod_1 (notZero hy h1 h2) (flt_post (fmodF_eq hx hy) I)
  | fdiv => cases h
  | pow => cases h
theorem bopFI_sound {o : Op2} {x : Nat} {i : Int} {t u : Tok} (hx : x < 18446744073709551616) (hi : i.natAbs ≤ 1048576) (h : bopM o x (fofI i) st = .ok v st') (I : Inv B as st s.heap) :
    wpAny (model prog w) A (binaryOp (opOf o) (.float (UInt64.ofNat x) t) (.int i u)) (Pst B as st' v s) No s := by
  have hf : i.natAbs < 2 ^ 1023 := Nat.lt_of_le_of_lt hi (by decide +kernel)
  have e := fofI_eq i
  have hy : fofI i < 18446744073709551616 := e ▸ toNat_lt _
  have e2 : UInt64.ofNat (fofI i) = Float64.ofInt i := by rw [e, ofNat_toNat]
  cases o with
  | add =>
    obtain ⟨rfl, rfl⟩ := fltK_ok h
    exact PyProof.Rows.add_fi_fits hf (flt_post (by rw [fadd_eq hx hy, e2]) I)
  | sub =>
    obtain ⟨rfl, rfl⟩ := fltK_ok h
    exact PyProof.Rows.sub_fi_fits hf (flt_post (by rw [fsub_eq hx hy, e2]) I)
  | mul =>
    obtain ⟨rfl, rfl⟩ := fltK_ok h
    exact PyProof.Rows.mul_fi_fits hf (flt_post (by rw [fmul_eq hx hy, e2]) I)
  | div => cases h
  | mod => cases h
  | fdiv => cases h
  | pow => cases h
theorem bopIF_sound {o : Op2} {x : Nat} {i : Int} {t u : Tok} (hx : x < 18446744073709551616) (hi : i.natAbs ≤ 1048576) (h : bopM o (fofI i) x st = .ok v st') (I : Inv B as st s.heap) :
    wpAny (model prog w) A (binaryOp (opOf o) (.int i u) (.float (UInt64.ofNat x) t)) (Pst B as st' v s) No s := by
  have hf : i.natAbs < 2 ^ 1023 := Nat.lt_of_le_of_lt hi (by decide +kernel)
  have e := fofI_eq i
  have hy : fofI i < 18446744073709551616 := e ▸ toNat_lt _
  have e2 : UInt64.ofNat (fofI i) = Float64.ofInt i := by rw [e, ofNat_toNat]
  cases o with
  | add =>
    obtain ⟨rfl, rfl⟩ := fltK_ok h
    exact PyProof.Rows.add_if_fits hf (flt_post (by rw [fadd_eq hy hx, e2]) I)
  | sub =>
    obtain ⟨rfl, rfl⟩ := fltK_ok h
    exact PyProof.Rows.sub_if_fits hf (flt_post (by rw [fsub_eq hy hx, e2]) I)
  | mul =>
    obtain ⟨rfl, rfl⟩ := fltK_ok h
    exact PyProof.Rows.mul_if_fits hf (flt_post (by rw [fmul_eq hy hx, e2]) I)
  | div => cases h
  | mod => cases h
  | fdiv => cases h
  | pow => cases h
end
end Mine
end OfMSound4
noncomputable section OfMSound5
set_option autoImplicit false
set_option linter.unusedVariables false
namespace Mine
open PySem PySem.Calls PyProof.Rows
variable {prog : Program} {w : World} {B : Base} {C : Ctx}
section
variable {A : Around} {as : List Addr} {s : Shared} {st st' : St} {v : MV}

theorem str_append (x y : List Nat) : (⟨x.toArray⟩ : Str) ++ (⟨y.toArray⟩ : Str) = ⟨(x ++ y).toArray⟩ := by
  show (⟨x.toArray ++ y.toArray⟩ : Str) = _
  rw [List.append_toArray]
theorem str_length (x : List Nat) : (⟨x.toArray⟩ : Str).length = x.length := by
  show x.toArray.size = _
  exact List.size_toArray
theorem bopSS_sound {o : Op2} {x y : List Nat} {t u : Tok} (h : bopSS o x y st = .ok v st') (I : Inv B as st s.heap) : wpAny (model prog w) A (binaryOp (opOf o) (.str ⟨x.toArray⟩ t) (.str ⟨y.toArray⟩ u)) (Pst B as st' v s) No s := by
  cases o with
  | add =>
    unfold bopSS at h
    simp only [lenK_eq] at h
    refine bsel_el h nv fun h1 h => ?_
    refine bsel_el h nv fun h2 h => ?_
    rw [appK_eq] at h; cases h
    refine PyProof.Rows.add_str (fun t' tk => ?_) ?_
    · rw [str_append]; exact Pst.tok I (.str _ _)
    · rw [str_length, str_length]
      have h1 := ble_iff.mp h1
      have h2 := ble_iff.mp h2
      show _ ≤ 2 ^ 24
      (first | lia | omega)
  | sub => cases h
  | mul => cases h
  | div => cases h
  | fdiv => cases h
  | mod => cases h
  | pow => cases h
theorem foldl_flat (n : Nat) (x : List Nat) : (List.replicate n x.toArray).foldl (· ++ ·) #[] = (List.replicate n x).flatten.toArray := by
  have key : ∀ (n : Nat) (a : List Nat), (List.replicate n x.toArray).foldl (· ++ ·) a.toArray = (a ++ (List.replicate n x).flatten).toArray := by
    intro n
    induction n with
    | zero => intro a; simp
    | succ n ih =>
      intro a
      rw [List.replicate_succ, List.foldl_cons, List.append_toArray, ih, List.replicate_succ, List.flatten_cons, List.append_assoc]
  exact key n []
theorem bopSI_sound {o : Op2} {x : List Nat} {i : Int} {t u : Tok} (h : bopSI o x i st = .ok v st') (I : Inv B as st s.heap) : wpAny (model prog w) A (binaryOp (opOf o) (.str ⟨x.toArray⟩ t) (.int i u)) (Pst B as st' v s) No s := by
  cases o with
  | mul =>
    unfold bopSI at h
    cases i with
    | negSucc n => cases h
    | ofNat n =>
      have h' : (lenK x fun m => bsel (Nat.ble m 4096) (bsel (Nat.ble 2 n) (bsel (Nat.ble n 64) (repK x n fun z => RV.ok (.str z) st) .no) .no) .no) = .ok v st' := h
      rw [lenK_eq] at h'
      refine bsel_el h' nv fun h1 h' => ?_
      refine bsel_el h' nv fun h2 h' => ?_
      refine bsel_el h' nv fun h3 h' => ?_
      rw [repK_eq] at h'; cases h'
      have h1 := ble_iff.mp h1
      have h2 := ble_iff.mp h2
      have h3 := ble_iff.mp h3
      have hn : ¬ (Int.ofNat n < 1) := by show ¬ ((n : Int) < 1); (first | lia | omega)
      have hlen : x.length * n ≤ 4096 * 64 := Nat.mul_le_mul h1 h3
      refine PySem.P.mul_str ?_ ?_ ?_ ?_
      · show (decide ((n : Int) < _) || decide ((n : Int) ≥ _)) = false
        rw [decide_eq_false (by (first | lia | omega)), decide_eq_false (by (first | lia | omega))]; rfl
      · intro _ _
        rw [str_length]
        show ¬ ((x.length : Int) > (2 ^ 63 - 1) / (n : Int))
        have : (n : Int) * 4096 ≤ 2 ^ 63 - 1 := by (first | lia | omega)
        have h4 : (4096 : Int) ≤ (2 ^ 63 - 1) / (n : Int) := Int.le_ediv_of_mul_le (by (first | lia | omega)) (by rw [Int.mul_comm]; exact this)
        (first | lia | omega)
      · intro _ _
        rw [str_length]
        show Builtin.Str.tooLong (x.length * n) = false
        unfold Builtin.Str.tooLong sizeLine
        exact decide_eq_false (by (first | lia | omega))
      · rw [if_neg hn]
        by_cases hx : (Int.ofNat n == 1 || (⟨x.toArray⟩ : Str).length == 0) = true
        · rw [if_pos hx]
          show Pst B as st _ s _ s
          have hn1 : (Int.ofNat n == 1) = false := by
            apply beq_eq_false_iff_ne.mpr
            show (n : Int) ≠ 1
            (first | lia | omega)
          rw [hn1, Bool.false_or, str_length] at hx
          have hx0 : x = [] := List.length_eq_zero_iff.mp (by simpa using hx)
          subst hx0
          rw [show (List.replicate n ([] : List Nat)).flatten = [] by simp]
          exact Pst.here I (.str _ _)
        · rw [if_neg hx]
          refine ⟨?_, ?_⟩
          · show Array.size _ ≤ 2 ^ 24
            rw [show (Int.ofNat n).toNat = n from rfl, foldl_flat, List.size_toArray, List.length_flatten, List.map_replicate, List.sum_replicate_nat]
            rw [Nat.mul_comm] at hlen
            (first | lia | omega)
          · rw [show (Int.ofNat n).toNat = n from rfl]
            show Pst B as st _ s (.str ⟨(List.replicate n x.toArray).foldl (· ++ ·) #[]⟩ _) _
            rw [foldl_flat]
            exact Pst.tok I (.str _ _)
  | add => cases h
  | sub => cases h
  | div => cases h
  | fdiv => cases h
  | mod => cases h
  | pow => cases h
theorem newL_ok {l : List MV} (h : newL l st = .ok v st') : v = .lst st.length ∧ st' = st ++ [l] := by
  unfold newL at h
  rw [lenK_eq, appK_eq] at h
  cases h; exact ⟨rfl, rfl⟩
theorem Pst.list {l : List MV} {items : List Value} {o : Obj} {t : Nat} (I : Inv B as st s.heap) {n : Nat} (ho : o = { cls := .type "list", dict := none, data := .seq items.toArray n, slots := #[] }) (r : VRels B as s.heap l items) :
    Pst B as (st ++ [l]) (.lst st.length) s (.ref s.heap.objs.size) { s with heap := s.heap.push o, toks := t } :=
  ⟨as ++ [s.heap.objs.size], ⟨List.prefix_append _ _, fun a ha => by
    rcases List.mem_append.mp ha with ha | ha
    · exact .inl ha
    · exact .inr (by rw [List.mem_singleton.mp ha]; exact hNoneAt _), .push _ _ _, I.newList ho r, ⟨rfl, rfl⟩⟩, .lst (by rw [← I.len, List.getElem?_append_right (Nat.le_refl _), Nat.sub_self]; rfl)⟩
theorem VRels.rep {h : Heap} {l : List MV} {items : List Value} (r : VRels B as h l items) : ∀ n : Nat, VRels B as h (List.replicate n l).flatten (List.replicate n items).flatten
  | 0 => .nil
  | n + 1 => by
    rw [List.replicate_succ, List.flatten_cons, List.replicate_succ, List.flatten_cons]
    exact r.append (VRels.rep r n)
theorem vflat (n : Nat) (items : List Value) : List.foldl (fun x1 x2 => x1 ++ x2) #[] (List.replicate (if items.toArray.isEmpty = true then 0 else n) items.toArray) = (List.replicate n items).flatten.toArray := by
  have key : ∀ (n : Nat) (a : List Value), (List.replicate n items.toArray).foldl (fun x1 x2 => x1 ++ x2) a.toArray = (a ++ (List.replicate n items).flatten).toArray := by
    intro n
    induction n with
    | zero => intro a; simp
    | succ n ih =>
      intro a
      rw [List.replicate_succ, List.foldl_cons, List.append_toArray, ih, List.replicate_succ, List.flatten_cons, List.append_assoc]
  by_cases h : items.toArray.isEmpty = true
  · have e : items = [] := by simpa using h
    subst e
    rw [if_pos h]
    simp
  · rw [if_neg h]; exact key n []
theorem mul_list {l : Addr} {items : List Value} {x : Int} {u : Tok} {Q : Value → Shared → Prop} {E : Value → Shared → Prop} (hl : s.heap.IsList l items.toArray) (h0 : 0 ≤ x) (hn : x ≤ 64) (hi : items.length ≤ 4096)
    (h : ∀ o k, o = { cls := .type "list", dict := none, data := .seq (List.replicate x.toNat items).flatten.toArray k, slots := #[] } → Q (.ref s.heap.objs.size) { s with heap := s.heap.push o }) :
    wpAny (model prog w) A (binaryOp .Mult (.ref l) (.int x u)) Q E s := by
  obtain ⟨⟨cls, d, data, sl⟩, ho, hcl, k, hd⟩ := hl
  simp only at hcl hd
  subst hcl hd
  have hm : items.length * x.toNat ≤ 4096 * 64 := Nat.mul_le_mul hi (by (first | lia | omega))
  have hsz : items.toArray.size * x.toNat ≤ 2 ^ 24 := by
    rw [List.size_toArray]; (first | lia | omega)
  refine wpAny_binaryOp_repeat_ref (T := "list") (U := "int") (by decide) ⟨_, ho, rfl⟩ (fun s' => typeIs_int s' x u) noFill_list_mul F.fills_int_mul F.slot_int_rmul repeat_list F.slot_int_index.lookup
    (call_meets F.slot_int_rmul (typeIs_int s x u) F.entry_int_rmul (F.args_int_rmul_2 _ _) (lm_int_rmul_list_any x u l items.toArray k d sl)
      ⟨ho, rfl, ⟨_, ho, rfl⟩, call_meets F.slot_list_mul ⟨_, ho, rfl⟩ F.entry_list_mul (F.args_list_mul_2 _ _)
        (lm_list_mul_any l items.toArray k d sl x u (by simp [Builtin.List.listFitsIndex]; (first | lia | omega)) (by (first | lia | omega)) (by simp [Builtin.List.listTooLong, sizeLine]; (first | lia | omega)))
        ⟨ho, ?_⟩⟩)
  exact h _ 0 (by rw [vflat])
theorem bopLL_sound {o : Op2} {j : Nat} {l : Addr} {i : Int} {u : Tok} (hj : as[j]? = some l) (h : bopLL o j i st = .ok v st') (I : Inv B as st s.heap) : wpAny (model prog w) A (binaryOp (opOf o) (.ref l) (.int i u)) (Pst B as st' v s) No s := by
  cases o with
  | mul =>
    unfold bopLL at h
    cases i with
    | negSucc n => cases h
    | ofNat n =>
      have h' : (bsel (Nat.ble n 64) (ob (getN st j) .no fun xs => lenK xs fun m => bsel (Nat.ble m 4096) (repK xs n fun z => newL z st) .no) .no) = .ok v st' := h
      refine bsel_el h' nv fun h2 h' => ?_
      refine ob_el h' nv fun xs h3 h' => ?_
      rw [lenK_eq] at h'
      refine bsel_el h' nv fun h4 h' => ?_
      rw [repK_eq] at h'
      obtain ⟨rfl, rfl⟩ := newL_ok h'
      rw [getN_eq] at h3
      obtain ⟨a, items, ha, hl, r⟩ := I.list h3
      rw [hj] at ha; cases ha
      have h4 := ble_iff.mp h4
      refine mul_list hl (Int.natCast_nonneg n) (by have := ble_iff.mp h2; show (n : Int) ≤ 64; (first | lia | omega)) (r.length ▸ h4) fun o k hc => ?_
      exact Pst.list I hc (VRels.rep r n)
  | add => cases h
  | sub => cases h
  | div => cases h
  | fdiv => cases h
  | mod => cases h
  | pow => cases h

theorem intV_ok {α : Type} {x : MV} {z y : α} {c : Int → α} (h : intV x z c = y) (hz : z ≠ y) : ∃ i, x = .int i ∧ c i = y := by
  cases x <;> first | exact absurd h hz | exact ⟨_, rfl, h⟩
theorem fltV_ok {α : Type} {x : MV} {z y : α} {c : Nat → α} (h : fltV x z c = y) (hz : z ≠ y) : ∃ i, x = .flt i ∧ c i = y := by
  cases x <;> first | exact absurd h hz | exact ⟨_, rfl, h⟩
theorem strV_ok {α : Type} {x : MV} {z y : α} {c : List Nat → α} (h : strV x z c = y) (hz : z ≠ y) : ∃ i, x = .str i ∧ c i = y := by
  cases x <;> first | exact absurd h hz | exact ⟨_, rfl, h⟩
theorem tupV_ok {α : Type} {x : MV} {z y : α} {c : List MV → α} (h : tupV x z c = y) (hz : z ≠ y) : ∃ i, x = .tup i ∧ c i = y := by
  cases x <;> first | exact absurd h hz | exact ⟨_, rfl, h⟩
theorem lstV_ok {α : Type} {x : MV} {z y : α} {c : Nat → α} (h : lstV x z c = y) (hz : z ≠ y) : ∃ i, x = .lst i ∧ c i = y := by
  cases x <;> first | exact absurd h hz | exact ⟨_, rfl, h⟩
theorem noneV_ok {α : Type} {x : MV} {z y c : α} (h : noneV x z c = y) (hz : z ≠ y) : x = .none ∧ c = y := by
  cases x <;> first | exact absurd h hz | exact ⟨rfl, h⟩
theorem rngV_ok {α : Type} {x : MV} {z y : α} {c : Int → Int → Int → α} (h : rngV x z c = y) (hz : z ≠ y) : ∃ a n s, x = .rng a n s ∧ c a n s = y := by
  cases x <;> first | exact absurd h hz | exact ⟨_, _, _, rfl, h⟩

theorem bopA_flt {o : Op2} {x : Int} {y : Nat} (h : bopA o x (.flt y) st = .ok v st') : x.natAbs ≤ 1048576 ∧ bopM o (fofI x) y st = .ok v st' := by
  have h1 : bsel (iabs x 1048576) (forceN (fofI x) fun x => bopM o x y st) .no = .ok v st' := h
  refine bsel_el h1 nv fun h2 h3 => ?_
  rw [forceN_eq] at h3
  exact ⟨(iabs_iff _ _).mp h2, h3⟩
theorem bopB_int {o : Op2} {x : Int} {y : Nat} (h : bopB o y (.int x) st = .ok v st') : x.natAbs ≤ 1048576 ∧ bopM o y (fofI x) st = .ok v st' := by
  have h1 : bsel (iabs x 1048576) (forceN (fofI x) fun x => bopM o y x st) .no = .ok v st' := h
  refine bsel_el h1 nv fun h2 h3 => ?_
  rw [forceN_eq] at h3
  exact ⟨(iabs_iff _ _).mp h2, h3⟩
theorem bop_sound {o : Op2} {a b : MV} {x y : Value} (h : bop o a b st = .ok v st') (ra : VRel B as s.heap a x) (rb : VRel B as s.heap b y) (I : Inv B as st s.heap) :
    wpAny (model prog w) A (binaryOp (opOf o) x y) (Pst B as st' v s) No s := by
  cases a with
  | int i =>
    obtain ⟨t, rfl⟩ := ra.int_i
    unfold bop at h; dsimp only at h
    cases b with
    | int j => obtain ⟨u, rfl⟩ := rb.int_i; unfold bopA at h; dsimp only at h; exact @bopI_sound prog w B A as s st st' v o i j t u h I
    | lin k a b => obtain ⟨u, rfl⟩ := rb.lin_i; unfold bopA at h; dsimp only at h; exact @bopIL_sound prog w B A as s st st' v o k a b i t u h I
    | flt n =>
      obtain ⟨u, rfl, hn⟩ := rb.flt_i
      exact @bopIF_sound prog w B A as s st st' v o n i u t hn (bopA_flt h).1 (bopA_flt h).2 I
    | _ => unfold bopA at h; cases h
  | lin k a b' =>
    obtain ⟨t, rfl⟩ := ra.lin_i
    unfold bop at h; dsimp only at h
    obtain ⟨j, rfl, h⟩ := intV_ok h nv
    (first | obtain rfl := rb.nil_i | obtain ⟨_, rfl⟩ := rb.int_i | obtain rfl := rb.none_i | obtain rfl := rb.bool_i | obtain ⟨_, rfl⟩ := rb.lin_i | obtain ⟨_, rfl, _⟩ := rb.flt_i | obtain ⟨_, rfl⟩ := rb.str_i | obtain rfl := rb.fn_i | obtain rfl := rb.bi_i | cases rb)
    exact @bopLI_sound prog w B A as s st st' v o k a b' j t _ h I
  | flt n =>
    obtain ⟨t, rfl, hn⟩ := ra.flt_i
    unfold bop at h; dsimp only at h
    cases b with
    | flt m => obtain ⟨u, rfl, hm⟩ := rb.flt_i; unfold bopB at h; dsimp only at h; exact @bopF_sound prog w B A as s st st' v o n m t u hn hm h I
    | int i =>
      obtain ⟨u, rfl⟩ := rb.int_i
      exact @bopFI_sound prog w B A as s st st' v o n i t u hn (bopB_int h).1 (bopB_int h).2 I
    | _ => unfold bopB at h; cases h
  | str x =>
    obtain ⟨t, rfl⟩ := ra.str_i
    unfold bop at h; dsimp only at h
    cases b with
    | str y => obtain ⟨u, rfl⟩ := rb.str_i; unfold bopC at h; dsimp only at h; exact @bopSS_sound prog w B A as s st st' v o x y t u h I
    | int i => obtain ⟨u, rfl⟩ := rb.int_i; unfold bopC at h; dsimp only at h; exact @bopSI_sound prog w B A as s st st' v o x i t u h I
    | _ => unfold bopC at h; cases h
  | lst i =>
    obtain ⟨a, rfl, e⟩ := ra.lst_i
    unfold bop at h; dsimp only at h
    obtain ⟨j, rfl, h⟩ := intV_ok h nv
    (first | obtain rfl := rb.nil_i | obtain ⟨_, rfl⟩ := rb.int_i | obtain rfl := rb.none_i | obtain rfl := rb.bool_i | obtain ⟨_, rfl⟩ := rb.lin_i | obtain ⟨_, rfl, _⟩ := rb.flt_i | obtain ⟨_, rfl⟩ := rb.str_i | obtain rfl := rb.fn_i | obtain rfl := rb.bi_i | cases rb)
    exact @bopLL_sound prog w B A as s st st' v o i a j _ e h I
  | _ => unfold bop at h; cases h
end
theorem Pst.seq {as as1 : List Addr} {st1 st2 : St} {v : MV} {s s1 s2 : Shared} {u : Value} (G : Go B [] as as1 st1 s s1) (p : Pst B as1 st2 v s1 u s2) : Pst B as st2 v s u s2 := by
  obtain ⟨as2, G2, r⟩ := p
  exact ⟨as2, G.trans G2, r⟩
theorem SE.bop {o : Op2} {e1 e2 : Expr} {f1 f2 : FE} {p : Pos} (h1 : SE prog w B C e1 f1) (h2 : SE prog w B C e2 f2) : SE prog w B C (.BinOp e1 (opOf o) e2 p) (cBop o f1 f2) := by
  intro n c hc ρ up st v st' h A env as s R V I
  refine RV.b_el h nv fun x st1 g1 h => ?_
  refine RV.b_el h nv fun y st2 g2 h => ?_
  refine wpAny_BinOp (wp_to (h1 n c hc _ _ _ _ _ g1 A env as s R V I) ?_)
  refine Pst.all fun u1 s1 as1 G1 r1 => ?_
  refine wp_to (h2 n c hc _ _ _ _ _ g2 A env as1 s1 R (V.stp G1.stp G1.pre) G1.inv) ?_
  refine Pst.all fun u2 s2 as2 G2 r2 => ?_
  refine wp_to (bop_sound h (r1.stp G2.stp G2.pre) r2 G2.inv) ?_
  exact fun u3 s3 p3 => (p3.seq G2).seq G1
end Mine
end OfMSound5
noncomputable section OfMSound6
set_option autoImplicit false
set_option linter.unusedVariables false
namespace Mine
open PySem PySem.Calls PyProof.Rows PySem.SeqAt
variable {prog : Program} {w : World} {B : Base} {C : Ctx}

noncomputable def cmOf : Cm → CmpOp
  | .eq => .Eq | .ne => .NotEq | .lt => .Lt | .le => .LtE | .gt => .Gt | .ge => .GtE | .is => .Is | .isin => .In

section
variable {A : Around} {as : List Addr} {s : Shared} {st st' : St} {v : MV}

theorem negV_sound {a : MV} {x : Value} (h : negV a st = .ok v st') (ra : VRel B as s.heap a x) (I : Inv B as st s.heap) :
    wpAny (model prog w) A (unaryOp .USub x) (Pst B as st' v s) No s := by
  cases a with
  | int i =>
    obtain ⟨t, rfl⟩ := ra.int_i
    have h' : (isub 0 i fun z => RV.ok (.int z) st) = .ok v st' := h
    rw [isub_eq] at h'; cases h'
    refine PyProof.Rows.neg_int (Pst.tok I ?_)
    rw [Int.zero_sub]; exact .int _ _
  | lin k a b =>
    obtain ⟨t, rfl⟩ := ra.lin_i
    have h' : (linK k (-a) (-b) fun z => RV.ok z st) = .ok v st' := h
    obtain ⟨rfl, r⟩ := linK_ok (B := B) h'
    refine PyProof.Rows.neg_int (Pst.tok I ?_)
    rw [show -(a * B.va k + b) = -a * B.va k + -b by rw [Int.neg_add, Int.neg_mul]]
    exact r _ _ _
  | _ => cases h

theorem eqA_sound {a b : MV} {x y : Value} {r : Bool} (h : eqA a b = some r) (ra : VRel B as s.heap a x) (rb : VRel B as s.heap b y) : EqAt A s x y r := by
  cases a with
  | int i =>
    obtain ⟨t, rfl⟩ := ra.int_i
    have h' : (intV b none fun y => some (ieq i y)) = some r := h
    obtain ⟨j, rfl, h'⟩ := intV_ok h' no
    (first | obtain rfl := rb.nil_i | obtain ⟨_, rfl⟩ := rb.int_i | obtain rfl := rb.none_i | obtain rfl := rb.bool_i | obtain ⟨_, rfl⟩ := rb.lin_i | obtain ⟨_, rfl, _⟩ := rb.flt_i | obtain ⟨_, rfl⟩ := rb.str_i | obtain rfl := rb.fn_i | obtain rfl := rb.bi_i | cases rb)
    cases h'
    rw [ieq_eq]
    exact EqAt.int_int i t j _
  | lin k a b' =>
    obtain ⟨t, rfl⟩ := ra.lin_i
    cases b with
    | lin k' a2 b2 =>
      obtain ⟨u, rfl⟩ := rb.lin_i
      have h' : (bsel (Nat.beq k k') (bsel (ieq a a2) (some (ieq b' b2)) none) none) = some r := h
      refine bsel_el h' no fun h1 h3 => ?_
      refine bsel_el h3 no fun h2 h4 => ?_
      have h1 := beq_iff.mp h1
      rw [ieq_eq] at h2
      have h2 := of_decide_eq_true h2
      have h5 := Option.some.inj h4
      subst h1 h2 h5
      rw [ieq_eq]
      have e := EqAt.int_int (A := A) (s := s) (a * B.va k + b') t (a * B.va k + b2) u
      rw [show ((a * B.va k + b' == a * B.va k + b2) : Bool) = decide (b' = b2) by
        rw [Bool.eq_iff_iff]; simp only [beq_iff_eq, decide_eq_true_iff]
        constructor
        · intro h; (first | lia | omega)
        · intro h; rw [h]] at e
      exact e
    | _ => cases h
  | str p =>
    obtain ⟨t, rfl⟩ := ra.str_i
    have h' : (strV b none fun y => some (eqL p y)) = some r := h
    obtain ⟨q, rfl, h'⟩ := strV_ok h' no
    (first | obtain rfl := rb.nil_i | obtain ⟨_, rfl⟩ := rb.int_i | obtain rfl := rb.none_i | obtain rfl := rb.bool_i | obtain ⟨_, rfl⟩ := rb.lin_i | obtain ⟨_, rfl, _⟩ := rb.flt_i | obtain ⟨_, rfl⟩ := rb.str_i | obtain rfl := rb.fn_i | obtain rfl := rb.bi_i | cases rb)
    cases h'
    rw [eqL_eq]
    have e := EqAt.str_str (A := A) (s := s) ⟨p.toArray⟩ t ⟨q.toArray⟩ ‹_›
    rw [show ((⟨p.toArray⟩ : Str) == ⟨q.toArray⟩) = decide (p = q) by
      rw [Bool.eq_iff_iff]; simp only [beq_iff_eq, decide_eq_true_iff]
      constructor
      · intro h; injection h with h; injection h
      · intro h; rw [h]] at e
    exact e
  | _ => cases h

noncomputable def EqsAt (A : Around) (s : Shared) (xs ys : List Value) (r : Bool) : Prop := xs.length = ys.length ∧ ∃ e : Nat → Bool, (∀ j (h1 : j < xs.length) (h2 : j < ys.length), EqAt A s xs[j] ys[j] (e j)) ∧ r = (List.range xs.length).all e
theorem EqsAt.nil : EqsAt A s [] [] true := ⟨rfl, fun _ => true, fun j h => absurd h (Nat.not_lt_zero j), rfl⟩
theorem EqsAt.cons {x y : Value} {xs ys : List Value} {p q : Bool} (h : EqAt A s x y p) (t : EqsAt A s xs ys q) : EqsAt A s (x :: xs) (y :: ys) (p && q) := by
  obtain ⟨hl, e, he, rfl⟩ := t
  refine ⟨congrArg Nat.succ hl, fun j => match j with | 0 => p | j + 1 => e j, fun j h1 h2 => ?_, ?_⟩
  · cases j with
    | zero => exact h
    | succ j => exact he j (Nat.lt_of_succ_lt_succ h1) (Nat.lt_of_succ_lt_succ h2)
  · rw [List.length_cons, List.range_succ_eq_map, List.all_cons, List.all_map]
    rfl
theorem eqT_sound : ∀ {l m : List MV} {xs ys : List Value} {r : Bool}, eqT l m = some r → VRels B as s.heap l xs → VRels B as s.heap m ys → EqsAt A s xs ys r
  | _, _, _, _, _, h, .nil, .nil => by cases h; exact .nil
  | _, _, _, _, _, h, .nil, .cons _ _ => by cases h
  | _, _, _, _, _, h, .cons _ _, .nil => by cases h
  | x :: l, y :: m, _, _, r, h, .cons rx rl, .cons ry rm => by
    have h' : (ob (eqA x y) none fun p => ob (eqT l m) none fun q => some (bsel p q false)) = some r := h
    refine ob_el h' no fun p h1 h' => ?_
    refine ob_el h' no fun q h2 h' => ?_
    cases h'
    rw [bsel_eq, show (if p = true then q else false) = (p && q) by cases p <;> rfl]
    exact .cons (eqA_sound h1 rx ry) (eqT_sound h2 rl rm)
theorem intsOf_ok : ∀ {l : List MV} {a : List Int}, intsOf l = some a → l = a.map .int
  | [], _, h => by cases h; rfl
  | .int i :: l, a, h => by
    have h' : (intsOf l).map (i :: ·) = some a := h
    cases hl : intsOf l with
    | none => rw [hl] at h'; cases h'
    | some b => rw [hl] at h'; cases h'; rw [intsOf_ok hl]; rfl
  | .none :: _, _, h => by cases h
  | .bool _ :: _, _, h => by cases h
  | .lin _ _ _ :: _, _, h => by cases h
  | .any :: _, _, h => by cases h
  | .flt _ :: _, _, h => by cases h
  | .str _ :: _, _, h => by cases h
  | .tup _ :: _, _, h => by cases h
  | .lst _ :: _, _, h => by cases h
  | .rng _ _ _ :: _, _, h => by cases h
  | .fn _ :: _, _, h => by cases h
  | .bi _ :: _, _, h => by cases h
  | .lam :: _, _, h => by cases h
theorem eqIs_sound (A : Around) : ∀ {l m : List Int} {xs ys : List Value}, VRels B as s.heap (l.map .int) xs → VRels B as s.heap (m.map .int) ys → (xs.length ≠ ys.length ∧ eqIs l m = false) ∨ EqsAt A s xs ys (eqIs l m)
  | [], [], _, _, .nil, .nil => .inr .nil
  | [], _ :: _, _, _, .nil, .cons _ _ => .inl ⟨fun h => (nomatch h), rfl⟩
  | _ :: _, [], _, _, .cons _ _, .nil => .inl ⟨fun h => (nomatch h), rfl⟩
  | x :: l, y :: m, _, _, .cons rx rl, .cons ry rm => by
    have e : eqIs (x :: l) (y :: m) = (ieq x y && eqIs l m) := by
      show bsel (ieq x y) (eqIs l m) false = _
      rw [bsel_eq]; cases ieq x y <;> rfl
    rw [e]
    rcases eqIs_sound A rl rm with ⟨h1, h2⟩ | h
    · exact .inl ⟨fun q => h1 (by simpa using q), by rw [h2, Bool.and_false]⟩
    · exact .inr (.cons (eqA_sound rfl rx ry) h)
theorem inIs_sound (x : Int) (u : Tok) : ∀ {l : List Int} {xs : List Value}, VRels B as s.heap (l.map .int) xs → ∃ e : Value → Bool, (∀ y, y ∈ xs → EqAt A s y (.int x u) (e y)) ∧ xs.any e = inIs x l := by
  intro l xs r
  refine ⟨fun y => match y with | .int i _ => i == x | _ => false, ?_⟩
  induction l generalizing xs with
  | nil => (first | obtain rfl := r.nil_i | obtain ⟨_, rfl⟩ := r.int_i | obtain rfl := r.none_i | obtain rfl := r.bool_i | obtain ⟨_, rfl⟩ := r.lin_i | obtain ⟨_, rfl, _⟩ := r.flt_i | obtain ⟨_, rfl⟩ := r.str_i | obtain rfl := r.fn_i | obtain rfl := r.bi_i | cases r); exact ⟨fun y hy => (nomatch hy), rfl⟩
  | cons i l ih =>
    obtain ⟨_, _, rfl, ri, rl⟩ := r.cons_i
    obtain ⟨t, rfl⟩ := ri.int_i
    obtain ⟨h1, h2⟩ := ih rl
    refine ⟨fun y hy => ?_, ?_⟩
    · rcases List.mem_cons.mp hy with rfl | hy
      · exact EqAt.int_int i t x u
      · exact h1 y hy
    · rw [List.any_cons, h2]
      show (i == x || inIs x l) = bsel (ieq x i) true (inIs x l)
      rw [bsel_eq, ieq_eq]
      by_cases hx : x = i
      · subst hx; simp
      · have : ¬ i = x := fun e => hx e.symm
        simp [hx, this]

theorem cmpF_sound {o : Cm} {x y : Nat} {t u : Tok} {r : Bool} {Q : Value → Shared → Prop} {E : Value → Shared → Prop} (h : ordC o (ofOrd (Float64.cmp (UInt64.ofNat x) (UInt64.ofNat y))) = some r) (hq : Q (.bool r) s) :
    wpAny (model prog w) A (compareOp (cmOf o) (.float (UInt64.ofNat x) t) (.float (UInt64.ofNat y) u)) Q E s := by
  cases o with
  | eq => refine AutoFloatOps.eq_0 ?_; generalize Float64.cmp _ _ = c at h ⊢; cases c with | none => cases h | some d => cases d <;> (cases h; exact hq)
  | ne => refine AutoFloatOps.ne_0 ?_; generalize Float64.cmp _ _ = c at h ⊢; cases c with | none => cases h | some d => cases d <;> (cases h; exact hq)
  | lt => refine AutoFloatOps.lt_0 ?_; generalize Float64.cmp _ _ = c at h ⊢; cases c with | none => cases h | some d => cases d <;> (cases h; exact hq)
  | le => refine AutoFloatOps.le_0 ?_; generalize Float64.cmp _ _ = c at h ⊢; cases c with | none => cases h | some d => cases d <;> (cases h; exact hq)
  | gt => refine AutoFloatOps.gt_0 ?_; generalize Float64.cmp _ _ = c at h ⊢; cases c with | none => cases h | some d => cases d <;> (cases h; exact hq)
  | ge => refine AutoFloatOps.ge_0 ?_; generalize Float64.cmp _ _ = c at h ⊢; cases c with | none => cases h | some d => cases d <;> (cases h; exact hq)
  | is => generalize Float64.cmp _ _ = c at h; cases c with | none => cases h | some d => cases d <;> cases h
  | isin => generalize Float64.cmp _ _ = c at h; cases c with | none => cases h | some d => cases d <;> cases h
theorem cmpFI_sound {o : Cm} {x : Nat} {i : Int} {t u : Tok} {r : Bool} {Q : Value → Shared → Prop} {E : Value → Shared → Prop} (h : ordC o (ofOrd (Float64.cmpInt (UInt64.ofNat x) i)) = some r) (hq : Q (.bool r) s) :
    wpAny (model prog w) A (compareOp (cmOf o) (.float (UInt64.ofNat x) t) (.int i u)) Q E s := by
  cases o with
  | eq => refine PyProof.Rows.eq_fi ?_; generalize Float64.cmpInt _ _ = c at h ⊢; cases c with | none => cases h | some d => cases d <;> (cases h; exact hq)
  | ne => refine PyProof.Rows.ne_fi ?_; generalize Float64.cmpInt _ _ = c at h ⊢; cases c with | none => cases h | some d => cases d <;> (cases h; exact hq)
  | lt => refine PyProof.Rows.lt_fi ?_; generalize Float64.cmpInt _ _ = c at h ⊢; cases c with | none => cases h | some d => cases d <;> (cases h; exact hq)
  | le => refine PyProof.Rows.le_fi ?_; generalize Float64.cmpInt _ _ = c at h ⊢; cases c with | none => cases h | some d => cases d <;> (cases h; exact hq)
  | gt => refine PyProof.Rows.gt_fi ?_; generalize Float64.cmpInt _ _ = c at h ⊢; cases c with | none => cases h | some d => cases d <;> (cases h; exact hq)
  | ge => refine PyProof.Rows.ge_fi ?_; generalize Float64.cmpInt _ _ = c at h ⊢; cases c with | none => cases h | some d => cases d <;> (cases h; exact hq)
  | is => generalize Float64.cmpInt _ _ = c at h; cases c with | none => cases h | some d => cases d <;> cases h
  | isin => generalize Float64.cmpInt _ _ = c at h; cases c with | none => cases h | some d => cases d <;> cases h
theorem cmpIF_sound {o : Cm} {x : Nat} {i : Int} {t u : Tok} {r : Bool} {Q : Value → Shared → Prop} {E : Value → Shared → Prop} (h : ordC o (flipN (ofOrd (Float64.cmpInt (UInt64.ofNat x) i))) = some r) (hq : Q (.bool r) s) :
    wpAny (model prog w) A (compareOp (cmOf o) (.int i u) (.float (UInt64.ofNat x) t)) Q E s := by
  cases o with
  | eq => refine PyProof.Rows.eq_if ?_; generalize Float64.cmpInt _ _ = c at h ⊢; cases c with | none => cases h | some d => cases d <;> (cases h; exact hq)
  | ne => refine PyProof.Rows.ne_if ?_; generalize Float64.cmpInt _ _ = c at h ⊢; cases c with | none => cases h | some d => cases d <;> (cases h; exact hq)
  | lt => refine PyProof.Rows.lt_if ?_; generalize Float64.cmpInt _ _ = c at h ⊢; cases c with | none => cases h | some d => cases d <;> (cases h; exact hq)
  | le => refine PyProof.Rows.le_if ?_; generalize Float64.cmpInt _ _ = c at h ⊢; cases c with | none => cases h | some d => cases d <;> (cases h; exact hq)
  | gt => refine PyProof.Rows.gt_if ?_; generalize Float64.cmpInt _ _ = c at h ⊢; cases c with | none => cases h | some d => cases d <;> (cases h; exact hq)
  | ge => refine PyProof.Rows.ge_if ?_; generalize Float64.cmpInt _ _ = c at h ⊢; cases c with | none => cases h | some d => cases d <;> (cases h; exact hq)
  | is => generalize Float64.cmpInt _ _ = c at h; cases c with | none => cases h | some d => cases d <;> cases h
  | isin => generalize Float64.cmpInt _ _ = c at h; cases c with | none => cases h | some d => cases d <;> cases h
theorem cmpI_sound {o : Cm} {x y : Int} {t u : Tok} {r : Bool} {Q : Value → Shared → Prop} {E : Value → Shared → Prop} (h : cmpI o x y = some r) (hq : Q (.bool r) s) :
    wpAny (model prog w) A (compareOp (cmOf o) (.int x t) (.int y u)) Q E s := by
  cases o with
  | eq => have h' : some (ieq x y) = some r := h; rw [ieq_eq] at h'; cases h'; exact PyProof.Rows.eq_int hq
  | ne => have h' : some (!(ieq x y)) = some r := h; rw [ieq_eq] at h'; cases h'; exact PyProof.Rows.ne_int hq
  | lt => have h' : some (ilt x y) = some r := h; rw [ilt_eq] at h'; cases h'; exact PyProof.Rows.lt_int hq
  | le => have h' : some (ile x y) = some r := h; rw [ile_eq] at h'; cases h'; exact PyProof.Rows.le_int hq
  | gt => have h' : some (ilt y x) = some r := h; rw [ilt_eq] at h'; cases h'; exact PyProof.Rows.gt_int hq
  | ge => have h' : some (ile y x) = some r := h; rw [ile_eq] at h'; cases h'; exact PyProof.Rows.ge_int hq
  | is => cases h
  | isin => cases h
end
end Mine
end OfMSound6
noncomputable section OfMSound7
set_option autoImplicit false
set_option linter.unusedVariables false
namespace Mine
open PySem PySem.Calls PyProof.Rows PySem.SeqAt
variable {prog : Program} {w : World} {B : Base} {C : Ctx}
section
variable {A : Around} {as : List Addr} {s : Shared} {st st' : St} {v : MV}

theorem isB_ok {o : Cm} {b r : Bool} (h : isB o b = some r) : o = .is ∧ r = b := by
  cases o <;> first | cases h | skip
  exact ⟨rfl, rfl⟩
theorem isinB_ok {o : Cm} {x : Int} {j : Nat} {r : Bool} (h : isinB o x j st = some r) : o = .isin ∧ isinL x j st = some r := by
  cases o <;> first | cases h | skip
  exact ⟨rfl, h⟩
theorem posB_ok {o : Cm} {e : Option Bool} {r : Bool} (h : posB o e = some r) : (o = .eq ∧ e = some r) ∨ (o = .ne ∧ ∃ q, e = some q ∧ r = !q) := by
  cases o with
  | eq => exact .inl ⟨rfl, h⟩
  | ne =>
    cases e with
    | none => cases h
    | some q => cases h; exact .inr ⟨rfl, q, rfl, rfl⟩
  | lt => cases h
  | le => cases h
  | gt => cases h
  | ge => cases h
  | is => cases h
  | isin => cases h
theorem EqsAt.arr {A : Around} {s : Shared} {xs ys : List Value} {r : Bool} (h : EqsAt A s xs ys r) : xs.toArray.size = ys.toArray.size ∧ ∃ e : Nat → Bool,
    (∀ j (h1 : j < xs.toArray.size) (h2 : j < ys.toArray.size), EqAt A s xs.toArray[j] ys.toArray[j] (e j)) ∧ (List.range xs.toArray.size).all e = r := by
  obtain ⟨hl, e, he, rfl⟩ := h
  refine ⟨hl, e, fun j h1 h2 => he j h1 h2, rfl⟩
theorem cmp_tup {o : Cm} {l m : List MV} {a b : Addr} {xs ys : List Value} {r : Bool} {Q : Value → Shared → Prop} {E : Value → Shared → Prop} (h : posB o (eqT l m) = some r) (ha : s.heap.IsTuple a xs.toArray) (hb : s.heap.IsTuple b ys.toArray)
    (ra : VRels B as s.heap l xs) (rb : VRels B as s.heap m ys) (hu : A.units < cLine) (hq : Q (.bool r) s) : wpAny (model prog w) A (compareOp (cmOf o) (.ref a) (.ref b)) Q E s := by
  rcases posB_ok h with ⟨rfl, g⟩ | ⟨rfl, q, g, rfl⟩
  · obtain ⟨hl, e, he, hr⟩ := (eqT_sound (A := A.in1) g ra rb).arr
    refine eq_tupleAt ha hb hu he ?_
    rw [← hl, Nat.min_self, hr, beq_self_eq_true, Bool.and_true]
    exact hq
  · obtain ⟨hl, e, he, hr⟩ := (eqT_sound (A := A.in1) g ra rb).arr
    refine PySem.SeqAt.RcNeAt.tuples ha hb hu he prog w E Q ?_
    rw [← hl, Nat.min_self, hr, beq_self_eq_true, Bool.and_true]
    exact hq
theorem cmp_lst {o : Cm} {l m : List Int} {a b : Addr} {xs ys : List Value} {r : Bool} {Q : Value → Shared → Prop} {E : Value → Shared → Prop} (h : posB o (some (eqIs l m)) = some r) (ha : s.heap.IsList a xs.toArray) (hb : s.heap.IsList b ys.toArray)
    (ra : VRels B as s.heap (l.map .int) xs) (rb : VRels B as s.heap (m.map .int) ys) (hu : A.units < cLine) (hq : Q (.bool r) s) : wpAny (model prog w) A (compareOp (cmOf o) (.ref a) (.ref b)) Q E s := by
  rcases posB_ok h with ⟨rfl, g⟩ | ⟨rfl, q, g, rfl⟩
  · cases g
    rcases eqIs_sound A.in1 ra rb with ⟨h1, h2⟩ | h
    · refine eq_list_lengthsAt ha hb (bne_iff_ne.mpr h1) hu ?_
      rw [h2] at hq; exact hq
    · obtain ⟨hl, e, he, hr⟩ := h.arr
      refine eq_listAt ha hb hl hu he ?_
      rw [hr]; exact hq
  · cases g
    rcases eqIs_sound A.in1 ra rb with ⟨h1, h2⟩ | h
    · refine PySem.SeqAt.RcNeAt.lists_lengths ha hb (bne_iff_ne.mpr h1) hu prog w E Q ?_
      rw [h2] at hq; exact hq
    · obtain ⟨hl, e, he, hr⟩ := h.arr
      refine PySem.SeqAt.RcNeAt.lists ha hb hl hu he prog w E Q ?_
      rw [hr]; exact hq
theorem cmp_str {o : Cm} {p q : List Nat} {t u : Tok} {r : Bool} {Q : Value → Shared → Prop} {E : Value → Shared → Prop} (h : posB o (some (eqL p q)) = some r) (hq : Q (.bool r) s) : wpAny (model prog w) A (compareOp (cmOf o) (.str ⟨p.toArray⟩ t) (.str ⟨q.toArray⟩ u)) Q E s := by
  have e : ((⟨p.toArray⟩ : Str) == ⟨q.toArray⟩) = eqL p q := by
    rw [eqL_eq, Bool.eq_iff_iff]; simp only [beq_iff_eq, decide_eq_true_iff]
    constructor
    · intro h; injection h with h; injection h
    · intro h; rw [h]
  rcases posB_ok h with ⟨rfl, g⟩ | ⟨rfl, z, g, rfl⟩
  · cases g
    exact PyProof.Rows.eq_str (by rw [e]; exact hq)
  · cases g
    refine PyProof.Rows.ne_str ?_
    rw [show ((⟨p.toArray⟩ : Str) != ⟨q.toArray⟩) = !((⟨p.toArray⟩ : Str) == ⟨q.toArray⟩) from rfl, e]
    exact hq
theorem cmpMV_sound {o : Cm} {a b : MV} {x y : Value} {r : Bool} {Q : Value → Shared → Prop} {E : Value → Shared → Prop} (h : cmpMV o a b st = some r) (ra : VRel B as s.heap a x) (rb : VRel B as s.heap b y) (I : Inv B as st s.heap) (hu : A.units < cLine) (hq : Q (.bool r) s) :
    wpAny (model prog w) A (compareOp (cmOf o) x y) Q E s := by
  cases a with
  | none =>
    obtain rfl := ra.none_i
    have h1 : noneV b none (isB o true) = some r := h
    obtain ⟨rfl, h2⟩ := noneV_ok h1 no
    obtain ⟨rfl, rfl⟩ := isB_ok h2
    (first | obtain rfl := rb.nil_i | obtain ⟨_, rfl⟩ := rb.int_i | obtain rfl := rb.none_i | obtain rfl := rb.bool_i | obtain ⟨_, rfl⟩ := rb.lin_i | obtain ⟨_, rfl, _⟩ := rb.flt_i | obtain ⟨_, rfl⟩ := rb.str_i | obtain rfl := rb.fn_i | obtain rfl := rb.bi_i | cases rb)
    exact is_none_none hq
  | int i =>
    obtain ⟨t, rfl⟩ := ra.int_i
    cases b with
    | none =>
      obtain rfl := rb.none_i
      have h1 : isB o false = some r := h
      obtain ⟨rfl, rfl⟩ := isB_ok h1
      exact is_int_none hq
    | int j => obtain ⟨u, rfl⟩ := rb.int_i; exact cmpI_sound (show cmpI o i j = some r from h) hq
    | flt n =>
      obtain ⟨u, rfl, hn⟩ := rb.flt_i
      have h1 : (forceN (fcmpI n i) fun r => ordC o (flipN r)) = some r := h
      rw [forceN_eq, fcmpI_eq hn] at h1
      exact cmpIF_sound h1 hq
    | lst j =>
      obtain ⟨l, rfl, e⟩ := rb.lst_i
      have h1 : isinB o i j st = some r := h
      obtain ⟨rfl, h2⟩ := isinB_ok h1
      unfold isinL at h2
      refine ob_el h2 no fun l' h3 h4 => ?_
      refine ob_el h4 no fun is h5 h6 => ?_
      rw [getN_eq] at h3
      obtain ⟨a', items, ha, hl, rl⟩ := I.list h3
      rw [e] at ha; cases ha
      cases h6
      rw [intsOf_ok h5] at rl
      obtain ⟨e, he, hr⟩ := inIs_sound (A := A.in1) i t rl
      refine in_listAt e hl (fun y hy => he y (by simpa using hy)) ?_
      rw [List.any_toArray, hr]; exact hq
    | _ => cases h
  | flt n =>
    obtain ⟨t, rfl, hn⟩ := ra.flt_i
    cases b with
    | int j =>
      obtain ⟨u, rfl⟩ := rb.int_i
      have h1 : (forceN (fcmpI n j) fun r => ordC o r) = some r := h
      rw [forceN_eq, fcmpI_eq hn] at h1
      exact cmpFI_sound h1 hq
    | flt m =>
      obtain ⟨u, rfl, hm⟩ := rb.flt_i
      have h1 : (forceN (fcmp n m) fun r => ordC o r) = some r := h
      rw [forceN_eq, fcmp_eq hn hm] at h1
      exact cmpF_sound h1 hq
    | _ => cases h
  | str p =>
    obtain ⟨t, rfl⟩ := ra.str_i
    have h1 : (strV b none fun y => posB o (some (eqL p y))) = some r := h
    obtain ⟨q, rfl, h2⟩ := strV_ok h1 no
    (first | obtain rfl := rb.nil_i | obtain ⟨_, rfl⟩ := rb.int_i | obtain rfl := rb.none_i | obtain rfl := rb.bool_i | obtain ⟨_, rfl⟩ := rb.lin_i | obtain ⟨_, rfl, _⟩ := rb.flt_i | obtain ⟨_, rfl⟩ := rb.str_i | obtain rfl := rb.fn_i | obtain rfl := rb.bi_i | cases rb)
    exact cmp_str h2 hq
  | tup l =>
    obtain ⟨a, xs, rfl, ht, rl⟩ := ra.tup_i
    have h1 : (tupV b none fun m => posB o (eqT l m)) = some r := h
    obtain ⟨m, rfl, h2⟩ := tupV_ok h1 no
    obtain ⟨_, _, rfl, hb, rm⟩ := rb.tup_i
    exact cmp_tup h2 ht hb rl rm hu hq
  | lst i =>
    obtain ⟨a, rfl, e⟩ := ra.lst_i
    have h1 : (lstV b none fun j => posB o (cmpLL i j st)) = some r := h
    obtain ⟨j, rfl, h2⟩ := lstV_ok h1 no
    obtain ⟨b', rfl, e'⟩ := rb.lst_i
    have h3 : ∃ q, cmpLL i j st = some q := by
      rcases posB_ok h2 with ⟨_, h⟩ | ⟨_, q, h, _⟩
      · exact ⟨_, h⟩
      · exact ⟨_, h⟩
    obtain ⟨q, h3⟩ := h3
    have h4 := h3
    unfold cmpLL at h4
    refine ob_el h4 no fun l g1 h5 => ?_
    refine ob_el h5 no fun m g2 h6 => ?_
    refine ob_el h6 no fun a1 g3 h7 => ?_
    refine ob_el h7 no fun b1 g4 h8 => ?_
    rw [h3, ← h8] at h2
    rw [getN_eq] at g1 g2
    obtain ⟨a', xs, ha, hl, rl⟩ := I.list g1
    obtain ⟨b', ys, hb, hm, rm⟩ := I.list g2
    rw [e] at ha; cases ha
    rw [e'] at hb; cases hb
    rw [intsOf_ok g3] at rl
    rw [intsOf_ok g4] at rm
    exact cmp_lst h2 hl hm rl rm hu hq
  | lam =>
    obtain ⟨_, rfl, x⟩ := ra.lam_i
    have h1 : noneV b none (isB o false) = some r := h
    obtain ⟨rfl, h2⟩ := noneV_ok h1 no
    obtain ⟨rfl, rfl⟩ := isB_ok h2
    (first | obtain rfl := rb.nil_i | obtain ⟨_, rfl⟩ := rb.int_i | obtain rfl := rb.none_i | obtain rfl := rb.bool_i | obtain ⟨_, rfl⟩ := rb.lin_i | obtain ⟨_, rfl, _⟩ := rb.flt_i | obtain ⟨_, rfl⟩ := rb.str_i | obtain rfl := rb.fn_i | obtain rfl := rb.bi_i | cases rb)
    exact is_ref_none hq
  | _ => cases h

theorem truth_sound {a : MV} {x : Value} {b : Bool} {Q : Bool → Shared → Prop} {E : Value → Shared → Prop} (h : truth a = some b) (ra : VRel B as s.heap a x) (hq : ∀ t, Q b { s with toks := t }) :
    wpAny (model prog w) A (truthy x) Q E s := by
  cases a with
  | none => obtain rfl := ra.none_i; cases h; exact truthy_none (hq s.toks)
  | bool c => obtain rfl := ra.bool_i; cases h; exact wpAny_truthy_bool (hq s.toks)
  | int i =>
    obtain ⟨t, rfl⟩ := ra.int_i
    have h1 : some (!(ieq i 0)) = some b := h
    rw [ieq_eq] at h1
    cases h1
    refine PyProof.Rows.truthy_int ?_
    exact hq s.toks
  | str p =>
    obtain ⟨t, rfl⟩ := ra.str_i
    have h1 : (lenK p fun n => bsel (Nat.ble n 1000000) (some (bsel (Nat.beq n 0) false true)) none) = some b := h
    rw [lenK_eq] at h1
    refine bsel_el h1 no fun h2 h3 => ?_
    cases h3
    have h2 := ble_iff.mp h2
    refine PySem.P.truthy_str ?_ ?_
    · rw [str_length]; (first | lia | omega)
    · rw [str_length]
      have e : ((p.length : Int) != 0) = bsel (Nat.beq p.length 0) false true := by
        rw [bsel_eq]
        cases p with
        | nil => rfl
        | cons x r =>
          have h4 : ((r.length + 1 : Nat) : Int) ≠ 0 := by (first | lia | omega)
          rw [List.length_cons, bne_iff_ne.mpr h4]; rfl
      rw [e]; exact hq _
  | _ => cases h
end

noncomputable def Bst (B : Base) (as : List Addr) (st' : St) (b : Bool) (s : Shared) : Bool → Shared → Prop := fun b' s' => b' = b ∧ ∃ as', Go B [] as as' st' s s'
section
variable (prog : Program) (w : World) (B : Base)
noncomputable def ST (C : Ctx) (e : Expr) (f : FT) : Prop := ∀ n c, SC prog w B n c → ∀ ρ up st b st', f c ρ up st = .ok b st' → ∀ A env as s, Room n A → EnvR B C ρ up env as s.heap → Inv B as st s.heap →
  wpAny (model prog w) A (isTrue e env (eval e env)) (Bst B as st' b s) No s
noncomputable def STA (C : Ctx) (o : BoolOp) (es : List Expr) (f : FT) : Prop := ∀ n c, SC prog w B n c → ∀ ρ up st b st', f c ρ up st = .ok b st' → ∀ A env as s, Room n A → EnvR B C ρ up env as s.heap → Inv B as st s.heap →
  wpAny (model prog w) A (allTrue o es env) (Bst B as st' b s) No s
end
theorem Room.units {n : Nat} {A : Around} (R : Room n A) : A.units < cLine := by have := R.uni; (first | lia | omega)
theorem Bst.seq {as as1 : List Addr} {st1 st2 : St} {b : Bool} {s s1 : Shared} {b' : Bool} {s2 : Shared} (G : Go B [] as as1 st1 s s1) (p : Bst B as1 st2 b s1 b' s2) : Bst B as st2 b s b' s2 := by
  obtain ⟨e, as2, G2⟩ := p
  exact ⟨e, as2, G.trans G2⟩
theorem SE.neg {e : Expr} {f : FE} {p : Pos} (h1 : SE prog w B C e f) : SE prog w B C (.UnaryOp .USub e p) (cNeg f) := by
  intro n c hc ρ up st v st' h A env as s R V I
  refine RV.b_el h nv fun x st1 g1 h => ?_
  refine wpAny_UnaryOp (wp_to (h1 n c hc _ _ _ _ _ g1 A env as s R V I) ?_)
  refine Pst.all fun u1 s1 as1 G1 r1 => ?_
  exact wp_to (negV_sound h r1 G1.inv) fun _ _ p => p.seq G1
theorem SE.cmp {o : Cm} {e1 e2 : Expr} {f1 f2 : FE} {p : Pos} (h1 : SE prog w B C e1 f1) (h2 : SE prog w B C e2 f2) (hm : behindInMarks (cmOf o) e2 = false) : SE prog w B C (.Compare e1 [cmOf o] [e2] p) (cCmp o f1 f2) := by
  intro n c hc ρ up st v st' h A env as s R V I
  refine RV.b_el h nv fun x st1 g1 h => ?_
  refine RV.b_el h nv fun y st2 g2 h => ?_
  refine ob_el h nv fun b g3 h => ?_
  cases h
  refine wpAny_Compare1 (wp_to (h1 n c hc _ _ _ _ _ g1 A env as s R V I) ?_) hm
  refine Pst.all fun u1 s1 as1 G1 r1 => ?_
  refine wp_to (h2 n c hc _ _ _ _ _ g2 A env as1 s1 R (V.stp G1.stp G1.pre) G1.inv) ?_
  refine Pst.all fun u2 s2 as2 G2 r2 => ?_
  exact cmpMV_sound g3 (r1.stp G2.stp G2.pre) r2 G2.inv R.units ⟨as2, G1.trans G2, .bool _⟩
theorem SE.or {e1 e2 : Expr} {f1 f2 : FE} {p : Pos} (h1 : SE prog w B C e1 f1) (h2 : SE prog w B C e2 f2) : SE prog w B C (.BoolOp .Or [e1, e2] p) (cOr f1 f2) := by
  intro n c hc ρ up st v st' h A env as s R V I
  refine RV.b_el h nv fun x st1 g1 h => ?_
  refine ob_el h nv fun b g2 h => ?_
  refine wpAny_Or2 (wp_to (h1 n c hc _ _ _ _ _ g1 A env as s R V I) ?_)
  refine Pst.all fun u1 s1 as1 G1 r1 => ?_
  refine truth_sound g2 r1 fun t => ?_
  have G2 : Go B [] as as1 st1 s { s1 with toks := t } := G1.trans (.tok G1.inv)
  cases b with
  | true =>
    cases h
    exact ⟨as1, G2, r1⟩
  | false =>
    refine wp_to (h2 n c hc _ _ _ _ _ h A env as1 _ R (V.stp G2.stp G2.pre) G2.inv) ?_
    exact fun _ _ p => p.seq G2
theorem ST.cmp {o : Cm} {e1 e2 : Expr} {f1 f2 : FE} {p : Pos} (h1 : SE prog w B C e1 f1) (h2 : SE prog w B C e2 f2) (hm : behindInMarks (cmOf o) e2 = false) : ST prog w B C (.Compare e1 [cmOf o] [e2] p) (tCmp o f1 f2) := by
  intro n c hc ρ up st v st' h A env as s R V I
  refine RV.b_el h nb fun x st1 g1 h => ?_
  refine RV.b_el h nb fun y st2 g2 h => ?_
  refine ob_el h nb fun b g3 h => ?_
  cases h
  refine wpAny_isTrue_Compare1 (wp_to (h1 n c hc _ _ _ _ _ g1 A env as s R V I) ?_) hm
  refine Pst.all fun u1 s1 as1 G1 r1 => ?_
  refine wp_to (h2 n c hc _ _ _ _ _ g2 A env as1 s1 R (V.stp G1.stp G1.pre) G1.inv) ?_
  refine Pst.all fun u2 s2 as2 G2 r2 => ?_
  exact cmpMV_sound g3 (r1.stp G2.stp G2.pre) r2 G2.inv R.units (wpAny_truthy_bool ⟨rfl, as2, G1.trans G2⟩)
theorem ST.val {e : Expr} {f : FE} (h1 : SE prog w B C e f) (he : ∀ env, isTrue e env (eval e env) = (do let v ← eval e env; standAt e.pos; holding [v] (truthy v))) : ST prog w B C e (tVal f) := by
  intro n c hc ρ up st v st' h A env as s R V I
  refine RV.b_el h nb fun x st1 g1 h => ?_
  refine ob_el h nb fun b g2 h => ?_
  cases h
  refine wpAny_isTrue_value (wp_to (h1 n c hc _ _ _ _ _ g1 A env as s R V I) ?_) (he env)
  refine Pst.all fun u1 s1 as1 G1 r1 => ?_
  exact truth_sound g2 r1 fun t => ⟨rfl, as1, G1.trans (.tok G1.inv)⟩
theorem ST.not {e : Expr} {f : FT} {p : Pos} (h1 : ST prog w B C e f) : ST prog w B C (.UnaryOp .Not e p) (tNot f) := by
  intro n c hc ρ up st v st' h A env as s R V I
  refine RB.b_el h nb fun x st1 g1 h => ?_
  refine wpAny_isTrue_Not (wp_to (h1 n c hc _ _ _ _ _ g1 A env as s R V I) ?_)
  rintro b s1 ⟨rfl, as1, G1⟩
  cases b <;> (cases h; exact ⟨rfl, as1, G1⟩)
theorem ST.bool {o : BoolOp} {es : List Expr} {f : FT} {p : Pos} (h : STA prog w B C o es f) : ST prog w B C (.BoolOp o es p) f := by
  intro n c hc ρ up st v st' g A env as s R V I
  exact wpAny_isTrue_BoolOp (h n c hc _ _ _ _ _ g A env as s R V I)
theorem STA.andNil : STA prog w B C .And [] (tEnd true) := by
  intro n c hc ρ up st v st' g A env as s R V I
  cases g
  exact wpAny_allTrue_And_nil ⟨rfl, as, .refl [] I⟩
theorem STA.orNil : STA prog w B C .Or [] (tEnd false) := by
  intro n c hc ρ up st v st' g A env as s R V I
  cases g
  exact wpAny_allTrue_Or_nil ⟨rfl, as, .refl [] I⟩
theorem STA.andCons {e : Expr} {es : List Expr} {f r : FT} (h1 : ST prog w B C e f) (h2 : STA prog w B C .And es r) : STA prog w B C .And (e :: es) (tAnd f r) := by
  intro n c hc ρ up st v st' h A env as s R V I
  refine RB.b_el h nb fun x st1 g1 h => ?_
  refine wpAny_allTrue_And_cons (wp_to (h1 n c hc _ _ _ _ _ g1 A env as s R V I) ?_)
  rintro b s1 ⟨rfl, as1, G1⟩
  cases b with
  | false => cases h; exact ⟨rfl, as1, G1⟩
  | true => exact wp_to (h2 n c hc _ _ _ _ _ h A env as1 s1 R (V.stp G1.stp G1.pre) G1.inv) fun _ _ p => p.seq G1
theorem STA.orCons {e : Expr} {es : List Expr} {f r : FT} (h1 : ST prog w B C e f) (h2 : STA prog w B C .Or es r) : STA prog w B C .Or (e :: es) (tOr f r) := by
  intro n c hc ρ up st v st' h A env as s R V I
  refine RB.b_el h nb fun x st1 g1 h => ?_
  refine wpAny_allTrue_Or_cons (wp_to (h1 n c hc _ _ _ _ _ g1 A env as s R V I) ?_)
  rintro b s1 ⟨rfl, as1, G1⟩
  cases b with
  | true => cases h; exact ⟨rfl, as1, G1⟩
  | false => exact wp_to (h2 n c hc _ _ _ _ _ h A env as1 s1 R (V.stp G1.stp G1.pre) G1.inv) fun _ _ p => p.seq G1
theorem ST.chain {o1 o2 : Cm} {e1 e2 e3 : Expr} {f1 f2 f3 : FE} {p : Pos} (h1 : SE prog w B C e1 f1) (h2 : SE prog w B C e2 f2) (h3 : SE prog w B C e3 f3) (hm : lastMarks [cmOf o1, cmOf o2] [e2, e3] = false) :
    ST prog w B C (.Compare e1 [cmOf o1, cmOf o2] [e2, e3] p) (tChain f1 o1 f2 o2 f3) := by
  intro n c hc ρ up st v st' h A env as s R V I
  refine RV.b_el h nb fun x st1 g1 h => ?_
  refine RV.b_el h nb fun y st2 g2 h => ?_
  refine ob_el h nb fun b g3 h => ?_
  refine isTrue_chain (wp_to (h1 n c hc _ _ _ _ _ g1 A env as s R V I) ?_) hm
  refine Pst.all fun u1 s1 as1 G1 r1 => ?_
  refine test_link (wp_to (h2 n c hc _ _ _ _ _ g2 A env as1 s1 R (V.stp G1.stp G1.pre) G1.inv) ?_)
  refine Pst.all fun u2 s2 as2 G2 r2 => ?_
  refine cmpMV_sound g3 (r1.stp G2.stp G2.pre) r2 G2.inv R.units (wpAny_truthy_bool ?_)
  have G := G1.trans G2
  cases b with
  | false => cases h; exact ⟨rfl, as2, G⟩
  | true =>
    refine RV.b_el h nb fun z st3 g4 h => ?_
    refine ob_el h nb fun b g5 h => ?_
    cases h
    refine test_last (wp_to (h3 n c hc _ _ _ _ _ g4 A env as2 s2 R (V.stp G.stp G.pre) G.inv) ?_)
    refine Pst.all fun u3 s3 as3 G3 r3 => ?_
    exact cmpMV_sound g5 (r2.stp G3.stp G3.pre) r3 G3.inv R.units (wpAny_truthy_bool ⟨rfl, as3, G.trans G3⟩)
end Mine
end OfMSound7
noncomputable section OfMSound8
set_option autoImplicit false
set_option linter.unusedVariables false
namespace Mine
open PySem PySem.Calls PyProof.Rows PySem.SeqAt
variable {prog : Program} {w : World} {B : Base} {C : Ctx}
section
variable {A : Around} {as : List Addr} {s : Shared} {st st' : St} {v : MV}

theorem hNoneSucc (h : Heap) : h.get? (h.objs.size + 1) = none := by
  cases e : h.get? (h.objs.size + 1) with
  | none => rfl
  | some o => exact absurd (Heap.lt_size e) (Nat.not_lt.mpr (Nat.le_succ _))
theorem Pst.kept {h' : Heap} {t : Nat} {u : Value} (I : Inv B as st s.heap) (hk : ∀ a o, s.heap.get? a = some o → h'.get? a = some o) (r : VRel B as h' v u) : Pst B as st v s u { s with heap := h', toks := t } :=
  ⟨as, ⟨List.prefix_refl _, fun _ h => .inl h, .all hk, I.keeps hk, ⟨rfl, rfl⟩⟩, r⟩
theorem Inv.newListAt {h : Heap} (I : Inv B as st h) {l : List MV} {items : List Value} {a : Addr} (ha : a ∉ as) (hb : B.h₀.get? a = none) (hl : PL h a items) (v : VRels B as h l items) : Inv B (as ++ [a]) (st ++ [l]) h := by
  refine ⟨by simp [I.len], ?_, fun i x m e1 e2 => ?_, fun x hx => ?_, I.old, I.tab⟩
  · rw [List.nodup_append]
    refine ⟨I.nodup, by simp, fun x hx y hy => ?_⟩
    rw [List.mem_singleton.mp hy]
    rintro rfl
    exact ha hx
  · by_cases hi : i < as.length
    · rw [List.getElem?_append_left hi] at e1
      rw [List.getElem?_append_left (I.len ▸ hi)] at e2
      obtain ⟨items', hl', v'⟩ := I.lists i x m e1 e2
      exact ⟨items', hl', by rw [List.take_append_of_le_length (Nat.le_of_lt hi)]; exact v'⟩
    · have hi' : i = as.length := by
        have := (List.getElem?_eq_some_iff.mp e1).1
        simp at this; (first | lia | omega)
      subst hi'
      rw [List.getElem?_append_right (Nat.le_refl _), Nat.sub_self] at e1
      rw [I.len, List.getElem?_append_right (Nat.le_refl _), Nat.sub_self] at e2
      cases e1; cases e2
      exact ⟨items, hl, by rw [List.take_left]; exact v⟩
  · rcases List.mem_append.mp hx with hx | hx
    · exact I.above x hx
    · rw [List.mem_singleton.mp hx]; exact hb
theorem Pst.listAt {h' : Heap} {t : Nat} {l : List MV} {items : List Value} {a : Addr} (I : Inv B as st s.heap) (hk : ∀ a o, s.heap.get? a = some o → h'.get? a = some o) (ha : s.heap.get? a = none) (hl : PL h' a items) (r : VRels B as h' l items) :
    Pst B as (st ++ [l]) (.lst st.length) s (.ref a) { s with heap := h', toks := t } := by
  refine ⟨as ++ [a], ⟨List.prefix_append _ _, fun x hx => ?_, .all hk, ?_, ⟨rfl, rfl⟩⟩, .lst ?_⟩
  · rcases List.mem_append.mp hx with hx | hx
    · exact .inl hx
    · rw [List.mem_singleton.mp hx]; exact .inr ha
  · refine (I.keeps hk).newListAt (fun hm => ?_) (I.new0 ha) hl r
    obtain ⟨_, o, ho, _⟩ := I.isList hm
    rw [ha] at ho; cases ho
  · rw [← I.len, List.getElem?_append_right (Nat.le_refl _), Nat.sub_self]; rfl
theorem VRels.ints {h : Heap} {l : List Int} : ∀ {vs : List Value}, VRels B as h (l.map .int) vs → IntsAre vs l := by
  induction l with
  | nil => exact fun r => by rw [r.nil_i]; exact .nil
  | cons x l ih =>
    intro vs r
    obtain ⟨_, ws, rfl, a, q⟩ := r.cons_i
    obtain ⟨t, rfl⟩ := a.int_i
    exact .cons x t (ih q)
theorem VRels.ofInts {h : Heap} {l : List Int} {vs : List Value} (r : IntsAre vs l) : VRels B as h (l.map .int) vs := by
  induction r with
  | nil => exact .nil
  | cons x t r ih => exact .cons (.int _ _) ih
theorem VRels.ofItems {h : Heap} {a c : Int} : ∀ {n : Nat} {vs : List Value}, vs.length = n → (∀ (i : Nat) v, vs[i]? = some v → ∃ t, v = .int (a + i * c) t) → VRels B as h ((rngL a c n).map .int) vs := by
  intro n
  induction n generalizing a with
  | zero => intro vs hl _; rw [List.length_eq_zero_iff.mp hl]; exact .nil
  | succ n ih =>
    intro vs hl hv
    cases vs with
    | nil => cases hl
    | cons v vs =>
      obtain ⟨t, rfl⟩ := hv 0 _ rfl
      have e : a + ((0 : Nat) : Int) * c = a := by (first | lia | omega)
      refine .cons (by rw [e]; exact .int _ _) (ih (a := a + c) (by simpa using hl) fun i x hx => ?_)
      obtain ⟨t, rfl⟩ := hv (i + 1) x (by simpa using hx)
      refine ⟨t, ?_⟩
      rw [show a + ((i + 1 : Nat) : Int) * c = a + c + (i : Int) * c by rw [Int.natCast_add, Int.add_mul]; (first | lia | omega)]

theorem len_sound {a : MV} {x : Value} (h : b_len a st = .ok v st') (ra : VRel B as s.heap a x) (I : Inv B as st s.heap) : wpAny (model prog w) A (call (.builtin "len") [x]) (Pst B as st' v s) No s := by
  cases a with
  | str p =>
    obtain ⟨t, rfl⟩ := ra.str_i
    have h1 : (lenK p fun n => bsel (Nat.ble n 1000000) (RV.ok (.int (.ofNat n)) st) .no) = .ok v st' := h
    rw [lenK_eq] at h1
    refine bsel_el h1 nv fun h2 h3 => ?_
    cases h3
    have h2 := ble_iff.mp h2
    refine PyProof.Rows.len_str (by rw [str_length]; (first | lia | omega)) ?_
    rw [str_length]
    exact Pst.tok I (.int _ _)
  | lst i =>
    obtain ⟨a, rfl, e⟩ := ra.lst_i
    have h1 : (ob (getN st i) .no fun l => lenK l fun n => bsel (Nat.ble n 1000000) (RV.ok (.int (.ofNat n)) st) .no) = .ok v st' := h
    refine ob_el h1 nv fun l h2 h3 => ?_
    rw [lenK_eq] at h3
    refine bsel_el h3 nv fun h4 h5 => ?_
    cases h5
    have h4 := ble_iff.mp h4
    rw [getN_eq] at h2
    obtain ⟨a', items, ha, hl, rl⟩ := I.list h2
    rw [e] at ha; cases ha
    have hn : items.toArray.size = l.length := by rw [List.size_toArray, ← rl.length]
    refine call_len_list hl (by rw [hn]; (first | lia | omega)) ?_
    rw [hn]
    exact Pst.tok I (.int _ _)
  | _ => cases h
theorem rngLen_eq {a b c : Int} (hc : 0 < c) : Builtin.Range.rangeSize a b c = (rngLen a b c : Int) := by
  unfold Builtin.Range.rangeSize rngLen
  rw [if_pos hc]
  by_cases hab : a < b
  · rw [if_pos hab, if_pos hab]
    have : 0 ≤ (b - a - 1) / c := Int.ediv_nonneg (by (first | lia | omega)) (by (first | lia | omega))
    rw [Int.natCast_add, Int.toNat_of_nonneg this]; rfl
  · rw [if_neg hab, if_neg hab]; rfl
theorem mkRng_ok {a b c : Int} (h : mkRng a b c st = .ok v st') : v = .rng a (.ofNat (rngLen a b c)) c ∧ st' = st ∧ 0 < c ∧ c.natAbs ≤ 4096 ∧ Builtin.Range.small a b c = true := by
  unfold mkRng at h
  refine bsel_el h nv fun h1 h => ?_
  refine bsel_el h nv fun h2 h => ?_
  refine bsel_el h nv fun h3 h => ?_
  refine bsel_el h nv fun h4 h => ?_
  rw [forceN_eq] at h
  cases h
  rw [ilt_eq] at h4
  have h1 := (iabs_iff _ _).mp h1
  have h2 := (iabs_iff _ _).mp h2
  have h3 := (iabs_iff _ _).mp h3
  have h4 := of_decide_eq_true h4
  refine ⟨rfl, rfl, h4, h3, ?_⟩
  have hb : (rngLen a b c : Int) ≤ 8193 := by
    unfold rngLen
    split
    · have h0 : 0 ≤ (b - a - 1) / c := Int.ediv_nonneg (by (first | lia | omega)) (by (first | lia | omega))
      have : (b - a - 1) / c ≤ b - a - 1 := Int.ediv_le_self _ (by (first | lia | omega))
      (first | lia | omega)
    · (first | lia | omega)
  have hb0 : 0 ≤ (rngLen a b c : Int) := Int.natCast_nonneg _
  unfold Builtin.Range.small
  rw [rngLen_eq h4]
  have hm : (rngLen a b c : Int) * c ≤ 8193 * 4096 := Int.mul_le_mul hb (by (first | lia | omega)) (by (first | lia | omega)) (by (first | lia | omega))
  have hm0 : 0 ≤ (rngLen a b c : Int) * c := Int.mul_nonneg hb0 (by (first | lia | omega))
  rw [if_pos (show c > 0 from h4)]
  simp only [Builtin.Range.rangeFitsLong, Bool.and_eq_true, Bool.or_eq_true, decide_eq_true_eq, beq_iff_eq]
  (first | lia | omega)
theorem Pst.rng {a b c : Int} {t u x : Tok} {tk : Nat} (I : Inv B as st s.heap) (hc : 0 < c) (hs : Builtin.Range.small a b c = true) :
    Pst B as st (.rng a (.ofNat (rngLen a b c)) c) s (.ref s.heap.objs.size) { s with heap := s.heap.push { cls := .type "range", data := .fields #[.int a t, .int b u, .int c x] }, toks := tk } :=
  ⟨as, ⟨List.prefix_refl _, fun _ h => .inl h, .push _ _ _, I.push _, ⟨rfl, rfl⟩⟩, .rng (IsRange.new _ a b c t u x) hs (rngLen_eq hc)⟩
theorem list_sound {a : MV} {x : Value} (h : b_list a st = .ok v st') (ra : VRel B as s.heap a x) (I : Inv B as st s.heap) (hh : A.handled = none) : wpAny (model prog w) A (call (.type "list") [x]) (Pst B as st' v s) No s := by
  unfold b_list at h
  obtain ⟨a', n, c, rfl, h⟩ := rngV_ok h nv
  cases n with
  | negSucc n => cases h
  | ofNat n =>
  cases ra with
  | rng hr hs hn =>
    have h1 : (bsel (Nat.ble n 4096) (forceIs (rngL a' c n) fun l => newL l st) .no) = .ok v st' := h
    refine bsel_el h1 nv fun h2 h3 => ?_
    rw [forceIs_eq] at h3
    obtain ⟨rfl, rfl⟩ := newL_ok h3
    have h2 := ble_iff.mp h2
    refine call_list_range hh hr hs hn (by (first | lia | omega)) fun h' tk acc c' hk hS hacc => ?_
    refine Pst.listAt (items := acc.toList) I hk (hNoneAt _) ⟨c', by simpa using hS⟩ ?_
    refine VRels.ofItems (by simpa using hacc.1) fun i v hv => hacc.2 i v (by simpa using hv)

theorem sortI_perm : ∀ l : List Int, (sortI l).Perm l ∧ (sortI l).Pairwise (· ≤ ·) := by
  have ins : ∀ (x : Int) (l : List Int), (insI x l).Perm (x :: l) ∧ (l.Pairwise (· ≤ ·) → (insI x l).Pairwise (· ≤ ·)) := by
    intro x l
    induction l with
    | nil => exact ⟨.refl _, fun _ => List.pairwise_singleton _ _⟩
    | cons y r ih =>
      have e : insI x (y :: r) = bsel (ile x y) (x :: y :: r) (y :: insI x r) := rfl
      rw [e, bsel_eq, ile_eq]
      by_cases hxy : x ≤ y
      · rw [if_pos (by simpa using hxy)]
        refine ⟨.refl _, fun hp => ?_⟩
        rw [List.pairwise_cons] at hp ⊢
        refine ⟨fun z hz => ?_, List.pairwise_cons.mpr hp⟩
        rcases List.mem_cons.mp hz with rfl | hz
        · exact hxy
        · exact Int.le_trans hxy (hp.1 z hz)
      · rw [if_neg (by simpa using hxy)]
        refine ⟨(ih.1.cons y).trans (.swap x y r), fun hp => ?_⟩
        rw [List.pairwise_cons] at hp ⊢
        refine ⟨fun z hz => ?_, ih.2 hp.2⟩
        rcases List.mem_cons.mp (ih.1.mem_iff.mp hz) with rfl | hz
        · (first | lia | omega)
        · exact hp.1 z hz
  intro l
  induction l with
  | nil => exact ⟨.refl _, List.Pairwise.nil⟩
  | cons x r ih =>
    obtain ⟨h1, h2⟩ := ins x (sortI r)
    exact ⟨h1.trans (ih.1.cons x), h2 ih.2⟩
theorem sorted_sound {a : MV} {x : Value} (h : b_sorted a st = .ok v st') (ra : VRel B as s.heap a x) (I : Inv B as st s.heap) : wpAny (model prog w) A (call (.builtin "sorted") [x]) (Pst B as st' v s) No s := by
  unfold b_sorted at h
  obtain ⟨i, rfl, h⟩ := lstV_ok h nv
  refine ob_el h nv fun l h1 h => ?_
  refine ob_el h nv fun is h2 h => ?_
  rw [lenK_eq] at h
  refine bsel_el h nv fun h3 h => ?_
  rw [forceIs_eq] at h
  obtain ⟨rfl, rfl⟩ := newL_ok h
  obtain ⟨_, rfl, e⟩ := ra.lst_i
  rw [getN_eq] at h1
  obtain ⟨a', items, ha, hl, rl⟩ := I.list h1
  rw [e] at ha; cases ha
  rw [intsOf_ok h2] at rl
  have h3 := ble_iff.mp h3
  refine sorted_ints hl rl.ints (by have := rl.length; rw [List.length_map] at this; (first | lia | omega)) fun out ns' a1 a2 a3 => ?_
  obtain ⟨e, he⟩ := sortedAll_at s.heap items out
  have hs : ns' = sortI is := (a2.trans (sortI_perm is).1.symm).eq_of_pairwise (le := (· ≤ ·)) (fun a b _ _ h1 h2 => Int.le_antisymm h1 h2) a3 (sortI_perm is).2
  exact Pst.listAt (items := out.toList) (t := s.toks) I (fun _ _ => sortedAll_old) (hNoneSucc _) ⟨e, by simpa using he⟩ (VRels.ofInts (hs ▸ a1))
theorem int_sound {a : MV} {x : Value} (h : b_int a st = .ok v st') (ra : VRel B as s.heap a x) (I : Inv B as st s.heap) : wpAny (model prog w) A (call (.type "int") [x]) (Pst B as st' v s) No s := by
  cases ra with
  | bool b =>
    have h1 : bsel b (RV.ok (.int 1) st) (RV.ok (.int 0) st) = .ok v st' := h
    refine PySem.call_int_bool ?_
    cases b <;> (cases h1; exact Pst.tok I (.int _ _))
  | flt n t hn =>
    have h1 : (ob (ftrunc n) .no fun n => forceI n fun n => RV.ok (.int n) st) = .ok v st' := h
    refine ob_el h1 nv fun i h2 h3 => ?_
    rw [forceI_eq] at h3
    cases h3
    obtain ⟨sg, m, e, hd, rfl⟩ := ftrunc_eq hn h2
    exact PySem.call_int_float hd (Pst.tok I (.int _ _))
  | _ => cases h
end
end Mine
end OfMSound8
noncomputable section OfMSound9
set_option autoImplicit false
set_option linter.unusedVariables false
namespace Mine
open PySem PySem.Calls PyProof.Rows PySem.SeqAt
variable {prog : Program} {w : World} {B : Base} {C : Ctx}
section
variable {A : Around} {as : List Addr} {s : Shared} {st st' : St} {v : MV}

theorem max2 {a b : Value} {bt : Nat → Nat → Bool} {Q : Value → Shared → Prop} {E : Value → Shared → Prop} (hh : A.handled = none) (hc : CmpOf prog w A.in1 .Gt (fun i v => (#[a, b] : Array Value)[i]? = some v) bt)
    (h : ∀ v h' tk, (#[a, b] : Array Value)[argBest bt 1]? = some v → (∀ d o, s.heap.get? d = some o → h'.get? d = some o) → Q v { s with heap := h', toks := tk }) :
    wpAny (model prog w) A (call (.builtin "max") [a, b]) Q E s := by
  have hT : (s.heap.push { cls := .type "tuple", data := .seq #[a, b] }).IsTuple s.heap.objs.size #[a, b] := ⟨_, Heap.get?_push_size _ rfl, rfl, 0, rfl⟩
  refine call_max_two (wpAny_pyIter_tuple hT ?_)
  have hsz : (s.heap.push { cls := .type "tuple", data := .seq #[a, b] }).objs.size = s.heap.objs.size + 1 := Heap.size_push ..
  refine ⟨_, [_, s.heap.objs.size], [_], _, _, _, _, rfl, Walks.tuple (A := A.in1) hh _ s.heap.objs.size (by rw [hsz]; exact Nat.ne_of_lt (Nat.lt_succ_self _)) #[a, b],
    ⟨⟨_, Heap.get?_push_size _ rfl, rfl, rfl⟩, hT.push _⟩, fun d hd => ?_, by simp, hc, fun v h' tk hP hk => ?_⟩
  · show d < ((s.heap.push _).push _).objs.size
    rw [Heap.size_push, hsz]
    rcases List.mem_cons.mp hd with rfl | hd
    · rw [hsz]; exact Nat.lt_succ_self _
    · rcases List.mem_cons.mp hd with rfl | hd
      · exact Nat.lt_succ_of_lt (Nat.lt_succ_self _)
      · cases hd
  · have hk2 : ∀ d o, d ≠ (s.heap.push { cls := .type "tuple", data := .seq #[a, b] }).objs.size → (s.heap.push { cls := .type "tuple", data := .seq #[a, b] }).get? d = some o → h'.get? d = some o := fun d o hd e =>
      hk d o (fun hm => hd (List.mem_singleton.mp hm)) (Heap.get?_push_of_some _ e)
    refine h v h' tk hP (fun d o e => hk2 d o (fun e1 => ?_) (Heap.get?_push_of_some _ e))
    have := Heap.lt_size e; rw [e1, hsz] at this; exact Nat.lt_irrefl _ (Nat.lt_of_succ_lt this)
theorem max3 {a b c : Value} {bt : Nat → Nat → Bool} {Q : Value → Shared → Prop} {E : Value → Shared → Prop} (hh : A.handled = none) (hc : CmpOf prog w A.in1 .Gt (fun i v => (#[a, b, c] : Array Value)[i]? = some v) bt)
    (h : ∀ v h' tk, (#[a, b, c] : Array Value)[argBest bt 2]? = some v → (∀ d o, s.heap.get? d = some o → h'.get? d = some o) → Q v { s with heap := h', toks := tk }) :
    wpAny (model prog w) A (call (.builtin "max") [a, b, c]) Q E s := by
  have hT : (s.heap.push { cls := .type "tuple", data := .seq #[a, b, c] }).IsTuple s.heap.objs.size #[a, b, c] := ⟨_, Heap.get?_push_size _ rfl, rfl, 0, rfl⟩
  refine call_max_three (wpAny_pyIter_tuple hT ?_)
  have hsz : (s.heap.push { cls := .type "tuple", data := .seq #[a, b, c] }).objs.size = s.heap.objs.size + 1 := Heap.size_push ..
  refine ⟨_, [_, s.heap.objs.size], [_], _, _, _, _, rfl, Walks.tuple (A := A.in1) hh _ s.heap.objs.size (by rw [hsz]; exact Nat.ne_of_lt (Nat.lt_succ_self _)) #[a, b, c],
    ⟨⟨_, Heap.get?_push_size _ rfl, rfl, rfl⟩, hT.push _⟩, fun d hd => ?_, by simp, hc, fun v h' tk hP hk => ?_⟩
  · show d < ((s.heap.push _).push _).objs.size
    rw [Heap.size_push, hsz]
    rcases List.mem_cons.mp hd with rfl | hd
    · rw [hsz]; exact Nat.lt_succ_self _
    · rcases List.mem_cons.mp hd with rfl | hd
      · exact Nat.lt_succ_of_lt (Nat.lt_succ_self _)
      · cases hd
  · have hk2 : ∀ d o, d ≠ (s.heap.push { cls := .type "tuple", data := .seq #[a, b, c] }).objs.size → (s.heap.push { cls := .type "tuple", data := .seq #[a, b, c] }).get? d = some o → h'.get? d = some o := fun d o hd e =>
      hk d o (fun hm => hd (List.mem_singleton.mp hm)) (Heap.get?_push_of_some _ e)
    refine h v h' tk hP (fun d o e => hk2 d o (fun e1 => ?_) (Heap.get?_push_of_some _ e))
    have := Heap.lt_size e; rw [e1, hsz] at this; exact Nat.lt_irrefl _ (Nat.lt_of_succ_lt this)
theorem min2 {a b : Value} {bt : Nat → Nat → Bool} {Q : Value → Shared → Prop} {E : Value → Shared → Prop} (hh : A.handled = none) (hc : CmpOf prog w A.in1 .Lt (fun i v => (#[a, b] : Array Value)[i]? = some v) bt)
    (h : ∀ v h' tk, (#[a, b] : Array Value)[argBest bt 1]? = some v → (∀ d o, s.heap.get? d = some o → h'.get? d = some o) → Q v { s with heap := h', toks := tk }) :
    wpAny (model prog w) A (call (.builtin "min") [a, b]) Q E s := by
  have hT : (s.heap.push { cls := .type "tuple", data := .seq #[a, b] }).IsTuple s.heap.objs.size #[a, b] := ⟨_, Heap.get?_push_size _ rfl, rfl, 0, rfl⟩
  refine call_min_two (wpAny_pyIter_tuple hT ?_)
  have hsz : (s.heap.push { cls := .type "tuple", data := .seq #[a, b] }).objs.size = s.heap.objs.size + 1 := Heap.size_push ..
  refine ⟨_, [_, s.heap.objs.size], [_], _, _, _, _, rfl, Walks.tuple (A := A.in1) hh _ s.heap.objs.size (by rw [hsz]; exact Nat.ne_of_lt (Nat.lt_succ_self _)) #[a, b],
    ⟨⟨_, Heap.get?_push_size _ rfl, rfl, rfl⟩, hT.push _⟩, fun d hd => ?_, by simp, hc, fun v h' tk hP hk => ?_⟩
  · show d < ((s.heap.push _).push _).objs.size
    rw [Heap.size_push, hsz]
    rcases List.mem_cons.mp hd with rfl | hd
    · rw [hsz]; exact Nat.lt_succ_self _
    · rcases List.mem_cons.mp hd with rfl | hd
      · exact Nat.lt_succ_of_lt (Nat.lt_succ_self _)
      · cases hd
  · have hk2 : ∀ d o, d ≠ (s.heap.push { cls := .type "tuple", data := .seq #[a, b] }).objs.size → (s.heap.push { cls := .type "tuple", data := .seq #[a, b] }).get? d = some o → h'.get? d = some o := fun d o hd e =>
      hk d o (fun hm => hd (List.mem_singleton.mp hm)) (Heap.get?_push_of_some _ e)
    refine h v h' tk hP (fun d o e => hk2 d o (fun e1 => ?_) (Heap.get?_push_of_some _ e))
    have := Heap.lt_size e; rw [e1, hsz] at this; exact Nat.lt_irrefl _ (Nat.lt_of_succ_lt this)
theorem min3 {a b c : Value} {bt : Nat → Nat → Bool} {Q : Value → Shared → Prop} {E : Value → Shared → Prop} (hh : A.handled = none) (hc : CmpOf prog w A.in1 .Lt (fun i v => (#[a, b, c] : Array Value)[i]? = some v) bt)
    (h : ∀ v h' tk, (#[a, b, c] : Array Value)[argBest bt 2]? = some v → (∀ d o, s.heap.get? d = some o → h'.get? d = some o) → Q v { s with heap := h', toks := tk }) :
    wpAny (model prog w) A (call (.builtin "min") [a, b, c]) Q E s := by
  have hT : (s.heap.push { cls := .type "tuple", data := .seq #[a, b, c] }).IsTuple s.heap.objs.size #[a, b, c] := ⟨_, Heap.get?_push_size _ rfl, rfl, 0, rfl⟩
  refine call_min_three (wpAny_pyIter_tuple hT ?_)
  have hsz : (s.heap.push { cls := .type "tuple", data := .seq #[a, b, c] }).objs.size = s.heap.objs.size + 1 := Heap.size_push ..
  refine ⟨_, [_, s.heap.objs.size], [_], _, _, _, _, rfl, Walks.tuple (A := A.in1) hh _ s.heap.objs.size (by rw [hsz]; exact Nat.ne_of_lt (Nat.lt_succ_self _)) #[a, b, c],
    ⟨⟨_, Heap.get?_push_size _ rfl, rfl, rfl⟩, hT.push _⟩, fun d hd => ?_, by simp, hc, fun v h' tk hP hk => ?_⟩
  · show d < ((s.heap.push _).push _).objs.size
    rw [Heap.size_push, hsz]
    rcases List.mem_cons.mp hd with rfl | hd
    · rw [hsz]; exact Nat.lt_succ_self _
    · rcases List.mem_cons.mp hd with rfl | hd
      · exact Nat.lt_succ_of_lt (Nat.lt_succ_self _)
      · cases hd
  · have hk2 : ∀ d o, d ≠ (s.heap.push { cls := .type "tuple", data := .seq #[a, b, c] }).objs.size → (s.heap.push { cls := .type "tuple", data := .seq #[a, b, c] }).get? d = some o → h'.get? d = some o := fun d o hd e =>
      hk d o (fun hm => hd (List.mem_singleton.mp hm)) (Heap.get?_push_of_some _ e)
    refine h v h' tk hP (fun d o e => hk2 d o (fun e1 => ?_) (Heap.get?_push_of_some _ e))
    have := Heap.lt_size e; rw [e1, hsz] at this; exact Nat.lt_irrefl _ (Nat.lt_of_succ_lt this)

noncomputable def Kin (l : List MV) : Prop := (∀ m ∈ l, ∃ i, m = .int i) ∨ (∀ m ∈ l, ∃ p, m = .flt p)
theorem cmpP_kin {o : Cm} {a b : MV} {r : Bool} (h : cmpP o a b = some r) : (∃ i j, a = .int i ∧ b = .int j) ∨ (∃ p q, a = .flt p ∧ b = .flt q) := by
  cases a with
  | int i =>
    have h1 : (intV b none fun y => cmpI o i y) = some r := h
    obtain ⟨j, rfl, _⟩ := intV_ok h1 no
    exact .inl ⟨i, j, rfl, rfl⟩
  | flt p =>
    have h1 : (fltV b none fun y => forceN (fcmp p y) fun r => ordC o r) = some r := h
    obtain ⟨q, rfl, _⟩ := fltV_ok h1 no
    exact .inr ⟨p, q, rfl, rfl⟩
  | _ => cases h
noncomputable def btOf (o : Cm) (ms : List MV) (i j : Nat) : Bool := match ms[i]?, ms[j]? with
  | some a, some b => (cmpP o a b).getD false
  | _, _ => false
theorem cmpP_run {o : Cm} (ho : o = .gt ∨ o = .lt) {a b : MV} {x y : Value} {Q : Value → Shared → Prop} {E : Value → Shared → Prop} {h : Heap} {s' : Shared} (ra : VRel B as h a x) (rb : VRel B as h b y)
    (hk : (∃ i j, a = .int i ∧ b = .int j) ∨ (∃ p q, a = .flt p ∧ b = .flt q)) (hq : Q (.bool ((cmpP o a b).getD false)) s') : wpAny (model prog w) A (compareOp (cmOf o) x y) Q E s' := by
  rcases hk with ⟨i, j, rfl, rfl⟩ | ⟨p, q, rfl, rfl⟩
  · (first | obtain rfl := ra.nil_i | obtain ⟨_, rfl⟩ := ra.int_i | obtain rfl := ra.none_i | obtain rfl := ra.bool_i | obtain ⟨_, rfl⟩ := ra.lin_i | obtain ⟨_, rfl, _⟩ := ra.flt_i | obtain ⟨_, rfl⟩ := ra.str_i | obtain rfl := ra.fn_i | obtain rfl := ra.bi_i | cases ra); (first | obtain rfl := rb.nil_i | obtain ⟨_, rfl⟩ := rb.int_i | obtain rfl := rb.none_i | obtain rfl := rb.bool_i | obtain ⟨_, rfl⟩ := rb.lin_i | obtain ⟨_, rfl, _⟩ := rb.flt_i | obtain ⟨_, rfl⟩ := rb.str_i | obtain rfl := rb.fn_i | obtain rfl := rb.bi_i | cases rb)
    rcases ho with rfl | rfl
    · exact cmpI_sound rfl hq
    · exact cmpI_sound rfl hq
  · obtain ⟨t, rfl, hn⟩ := ra.flt_i
    obtain ⟨u, rfl, hm⟩ := rb.flt_i
    have e : cmpP o (.flt p) (.flt q) = ordC o (ofOrd (Float64.cmp (UInt64.ofNat p) (UInt64.ofNat q))) := by
      show (forceN (fcmp p q) fun r => ordC o r) = _
      rw [forceN_eq, fcmp_eq hn hm]
    rw [e] at hq
    rcases ho with rfl | rfl
    · refine AutoFloatOps.gt_0 ?_
      generalize Float64.cmp _ _ = c at hq ⊢
      cases c with
      | none => exact hq
      | some d => cases d <;> exact hq
    · refine AutoFloatOps.lt_0 ?_
      generalize Float64.cmp _ _ = c at hq ⊢
      cases c with
      | none => exact hq
      | some d => cases d <;> exact hq
theorem Kin.two {l : List MV} (K : Kin l) {a b : MV} (ha : a ∈ l) (hb : b ∈ l) : (∃ i j, a = .int i ∧ b = .int j) ∨ (∃ p q, a = .flt p ∧ b = .flt q) := by
  rcases K with K | K
  · obtain ⟨i, rfl⟩ := K a ha
    obtain ⟨j, rfl⟩ := K b hb
    exact .inl ⟨i, j, rfl, rfl⟩
  · obtain ⟨i, rfl⟩ := K a ha
    obtain ⟨j, rfl⟩ := K b hb
    exact .inr ⟨i, j, rfl, rfl⟩
theorem VRels.getV {h : Heap} : ∀ {l : List MV} {vs : List Value} {k : Nat} {x : Value}, VRels B as h l vs → vs[k]? = some x → ∃ m, l[k]? = some m ∧ VRel B as h m x
  | _, _, 0, _, .cons x r, e => by cases e; exact ⟨_, rfl, x⟩
  | _, _, k + 1, _, .cons _ r, e => by simpa using r.getV (k := k) (by simpa using e)
  | _, _, _, _, .nil, e => by simp at e
theorem cmpOf_kin {o : Cm} (ho : o = .gt ∨ o = .lt) {ms : List MV} {vs : List Value} {h : Heap} (r : VRels B as h ms vs) (K : Kin ms) : CmpOf prog w A (cmOf o) (fun i v => vs.toArray[i]? = some v) (btOf o ms) := by
  intro i j vi vj s' Q E hi hj hq
  have hi : vs[i]? = some vi := by simpa using hi
  have hj : vs[j]? = some vj := by simpa using hj
  obtain ⟨a, ha, ra⟩ := r.getV hi
  obtain ⟨b, hb, rb⟩ := r.getV hj
  have e : btOf o ms i j = (cmpP o a b).getD false := by unfold btOf; rw [ha, hb]
  rw [e] at hq
  have q := cmpP_run (prog := prog) (w := w) (A := A) ho ra rb (K.two (List.mem_of_getElem? ha) (List.mem_of_getElem? hb)) (E := E) hq
  rcases ho with rfl | rfl
  · exact q
  · exact q
theorem best2 {o : Cm} {x y : MV} (h : bestL o x [y] = some v) : Kin [x, y] ∧ [x, y][argBest (btOf o [x, y]) 1]? = some v := by
  have h1 : (ob (cmpP o y x) none fun b => bsel b (some y) (some x)) = some v := h
  refine ob_el h1 no fun b h2 h3 => ?_
  have e : btOf o [x, y] 1 0 = b := by show (cmpP o y x).getD false = b; rw [h2]; rfl
  constructor
  · rcases cmpP_kin h2 with ⟨i, j, rfl, rfl⟩ | ⟨i, j, rfl, rfl⟩
    · exact .inl (by simp)
    · exact .inr (by simp)
  · show [x, y][if btOf o [x, y] 1 0 = true then 1 else 0]? = some v
    rw [e]
    cases b <;> exact h3
theorem best3 {o : Cm} {x y z : MV} (h : bestL o x [y, z] = some v) : Kin [x, y, z] ∧ [x, y, z][argBest (btOf o [x, y, z]) 2]? = some v := by
  have h1 : (ob (cmpP o y x) none fun b => bsel b (ob (cmpP o z y) none fun b => bsel b (some z) (some y)) (ob (cmpP o z x) none fun b => bsel b (some z) (some x))) = some v := h
  refine ob_el h1 no fun b h2 h3 => ?_
  have e : btOf o [x, y, z] 1 0 = b := by show (cmpP o y x).getD false = b; rw [h2]; rfl
  have e2 : argBest (btOf o [x, y, z]) 2 = if btOf o [x, y, z] 2 (if btOf o [x, y, z] 1 0 = true then 1 else 0) = true then 2 else if btOf o [x, y, z] 1 0 = true then 1 else 0 := rfl
  rw [e2, e]
  cases b with
  | true =>
    refine ob_el (show (ob (cmpP o z y) none fun b => bsel b (some z) (some y)) = some v from h3) no fun c h4 h5 => ?_
    have e3 : btOf o [x, y, z] 2 1 = c := by show (cmpP o z y).getD false = c; rw [h4]; rfl
    simp only [if_true, e3]
    constructor
    · rcases cmpP_kin h2 with ⟨i, j, rfl, rfl⟩ | ⟨i, j, rfl, rfl⟩ <;> rcases cmpP_kin h4 with ⟨k, l, rfl, e9⟩ | ⟨k, l, rfl, e9⟩ <;> cases e9
      · exact .inl (by simp)
      · exact .inr (by simp)
    · cases c <;> exact h5
  | false =>
    refine ob_el (show (ob (cmpP o z x) none fun b => bsel b (some z) (some x)) = some v from h3) no fun c h4 h5 => ?_
    have e3 : btOf o [x, y, z] 2 0 = c := by show (cmpP o z x).getD false = c; rw [h4]; rfl
    simp only [Bool.false_eq_true, if_false, e3]
    constructor
    · rcases cmpP_kin h2 with ⟨i, j, rfl, rfl⟩ | ⟨i, j, rfl, rfl⟩ <;> rcases cmpP_kin h4 with ⟨k, l, rfl, e9⟩ | ⟨k, l, rfl, e9⟩ <;> cases e9
      · exact .inl (by simp)
      · exact .inr (by simp)
    · cases c <;> exact h5
theorem best_post {ms : List MV} {vs : List Value} {k : Nat} {x : Value} {h' : Heap} {tk : Nat} (I : Inv B as st s.heap) (r : VRels B as s.heap ms vs) (hm : ms[k]? = some v) (hv : vs.toArray[k]? = some x) (hk : ∀ d o, s.heap.get? d = some o → h'.get? d = some o) :
    Pst B as st v s x { s with heap := h', toks := tk } := by
  obtain ⟨m, h1, h2⟩ := r.getV (by simpa using hv)
  rw [hm] at h1; cases h1
  exact Pst.kept I hk (h2.stp (W := []) (.all hk) (List.prefix_refl _))
theorem max2_sound {a b : MV} {x y : Value} (h : b_max a [b] st = .ok v st') (ra : VRel B as s.heap a x) (rb : VRel B as s.heap b y) (I : Inv B as st s.heap) (hh : A.handled = none) : wpAny (model prog w) A (call (.builtin "max") [x, y]) (Pst B as st' v s) No s := by
  refine ob_el h nv fun m h1 h2 => ?_
  cases h2
  obtain ⟨K, h3⟩ := best2 h1
  have r : VRels B as s.heap [a, b] [x, y] := .cons ra (.cons rb .nil)
  exact max2 hh (cmpOf_kin (o := .gt) (.inl rfl) r K) fun v h' tk hv hk => best_post I r h3 hv hk
theorem max3_sound {a b c : MV} {x y z : Value} (h : b_max a [b, c] st = .ok v st') (ra : VRel B as s.heap a x) (rb : VRel B as s.heap b y) (rc : VRel B as s.heap c z) (I : Inv B as st s.heap) (hh : A.handled = none) : wpAny (model prog w) A (call (.builtin "max") [x, y, z]) (Pst B as st' v s) No s := by
  refine ob_el h nv fun m h1 h2 => ?_
  cases h2
  obtain ⟨K, h3⟩ := best3 h1
  have r : VRels B as s.heap [a, b, c] [x, y, z] := .cons ra (.cons rb (.cons rc .nil))
  exact max3 hh (cmpOf_kin (o := .gt) (.inl rfl) r K) fun v h' tk hv hk => best_post I r h3 hv hk
theorem min2_sound {a b : MV} {x y : Value} (h : b_min a [b] st = .ok v st') (ra : VRel B as s.heap a x) (rb : VRel B as s.heap b y) (I : Inv B as st s.heap) (hh : A.handled = none) : wpAny (model prog w) A (call (.builtin "min") [x, y]) (Pst B as st' v s) No s := by
  refine ob_el h nv fun m h1 h2 => ?_
  cases h2
  obtain ⟨K, h3⟩ := best2 h1
  have r : VRels B as s.heap [a, b] [x, y] := .cons ra (.cons rb .nil)
  exact min2 hh (cmpOf_kin (o := .lt) (.inr rfl) r K) fun v h' tk hv hk => best_post I r h3 hv hk
theorem min3_sound {a b c : MV} {x y z : Value} (h : b_min a [b, c] st = .ok v st') (ra : VRel B as s.heap a x) (rb : VRel B as s.heap b y) (rc : VRel B as s.heap c z) (I : Inv B as st s.heap) (hh : A.handled = none) : wpAny (model prog w) A (call (.builtin "min") [x, y, z]) (Pst B as st' v s) No s := by
  refine ob_el h nv fun m h1 h2 => ?_
  cases h2
  obtain ⟨K, h3⟩ := best3 h1
  have r : VRels B as s.heap [a, b, c] [x, y, z] := .cons ra (.cons rb (.cons rc .nil))
  exact min3 hh (cmpOf_kin (o := .lt) (.inr rfl) r K) fun v h' tk hv hk => best_post I r h3 hv hk

@[elab_as_elim] theorem args_el {β : Type} {l : List MV} {P : List MV → Prop} {z y : β} {c1 : MV → β} {c2 : MV → MV → β} {c3 : MV → MV → MV → β} (h : args l z c1 c2 c3 = y) (hz : z ≠ y)
    (H1 : ∀ a, c1 a = y → P [a]) (H2 : ∀ a b, c2 a b = y → P [a, b]) (H3 : ∀ a b c, c3 a b c = y → P [a, b, c]) : P l := by
  cases l with
  | nil => exact absurd h hz
  | cons a l =>
    cases l with
    | nil => exact H1 a h
    | cons b l =>
      cases l with
      | nil => exact H2 a b h
      | cons c l =>
        cases l with
        | nil => exact H3 a b c h
        | cons d l => exact absurd h hz
theorem rng1_sound {b : MV} {x : Value} (h : (intV b .no fun b => mkRng 0 b 1 st) = .ok v st') (ra : VRel B as s.heap b x) (I : Inv B as st s.heap) : wpAny (model prog w) A (call (.type "range") [x]) (Pst B as st' v s) No s := by
  obtain ⟨n, rfl, g⟩ := intV_ok h nv
  obtain ⟨rfl, rfl, h1, h2, h3⟩ := mkRng_ok g
  obtain ⟨_, rfl⟩ := ra.int_i
  exact call_range_1 (Pst.rng I h1 h3)
theorem rng2_sound {a b : MV} {x y : Value} (h : (intV a .no fun a => intV b .no fun b => mkRng a b 1 st) = .ok v st') (ra : VRel B as s.heap a x) (rb : VRel B as s.heap b y) (I : Inv B as st s.heap) : wpAny (model prog w) A (call (.type "range") [x, y]) (Pst B as st' v s) No s := by
  obtain ⟨m, rfl, g⟩ := intV_ok h nv
  obtain ⟨n, rfl, g2⟩ := intV_ok g nv
  obtain ⟨rfl, rfl, h1, h2, h3⟩ := mkRng_ok g2
  obtain ⟨_, rfl⟩ := ra.int_i
  obtain ⟨_, rfl⟩ := rb.int_i
  exact call_range_2 (Pst.rng I h1 h3)
theorem rng3_sound {a b c : MV} {x y z : Value} (h : (intV a .no fun a => intV b .no fun b => intV c .no fun c => mkRng a b c st) = .ok v st') (ra : VRel B as s.heap a x) (rb : VRel B as s.heap b y) (rc : VRel B as s.heap c z) (I : Inv B as st s.heap) : wpAny (model prog w) A (call (.type "range") [x, y, z]) (Pst B as st' v s) No s := by
  obtain ⟨m, rfl, g⟩ := intV_ok h nv
  obtain ⟨n, rfl, g2⟩ := intV_ok g nv
  obtain ⟨k, rfl, g3⟩ := intV_ok g2 nv
  obtain ⟨rfl, rfl, h1, h2, h3⟩ := mkRng_ok g3
  obtain ⟨_, rfl⟩ := ra.int_i
  obtain ⟨_, rfl⟩ := rb.int_i
  obtain ⟨_, rfl⟩ := rc.int_i
  exact call_range_3 (by omega) (Pst.rng (tk := s.toks) I h1 h3) (.inl (PyProof.noPylong_small (by omega)))
theorem callB_sound {k : BI} {vs : List MV} {us : List Value} (h : callB k vs st = .ok v st') (r : VRels B as s.heap vs us) (I : Inv B as st s.heap) (hh : A.handled = none) : wpAny (model prog w) A (call (biVal k) us) (Pst B as st' v s) No s := by
  revert r
  cases k with
  | len => exact args_el (show args vs .no (fun v => b_len v st) (fun _ _ => .no) (fun _ _ _ => .no) = .ok v st' from h) nv (fun a h r => VRels.one_e r fun x ra => len_sound h ra I) (fun _ _ h => nomatch h) (fun _ _ _ h => nomatch h)
  | list => exact args_el (show args vs .no (fun v => b_list v st) (fun _ _ => .no) (fun _ _ _ => .no) = .ok v st' from h) nv (fun a h r => VRels.one_e r fun x ra => list_sound h ra I hh) (fun _ _ h => nomatch h) (fun _ _ _ h => nomatch h)
  | int => exact args_el (show args vs .no (fun v => b_int v st) (fun _ _ => .no) (fun _ _ _ => .no) = .ok v st' from h) nv (fun a h r => VRels.one_e r fun x ra => int_sound h ra I) (fun _ _ h => nomatch h) (fun _ _ _ h => nomatch h)
  | sorted => exact args_el (show args vs .no (fun v => b_sorted v st) (fun _ _ => .no) (fun _ _ _ => .no) = .ok v st' from h) nv (fun a h r => VRels.one_e r fun x ra => sorted_sound h ra I) (fun _ _ h => nomatch h) (fun _ _ _ h => nomatch h)
  | min => exact args_el (show args vs .no (fun _ => .no) (fun x y => b_min x [y] st) (fun x y z => b_min x [y, z] st) = .ok v st' from h) nv (fun _ h => nomatch h) (fun a b h r => VRels.two_e r fun x y ra rb => min2_sound h ra rb I hh) (fun a b c h r => VRels.three_e r fun x y z ra rb rc => min3_sound h ra rb rc I hh)
  | max => exact args_el (show args vs .no (fun _ => .no) (fun x y => b_max x [y] st) (fun x y z => b_max x [y, z] st) = .ok v st' from h) nv (fun _ h => nomatch h) (fun a b h r => VRels.two_e r fun x y ra rb => max2_sound h ra rb I hh) (fun a b c h r => VRels.three_e r fun x y z ra rb rc => max3_sound h ra rb rc I hh)
  | range => exact args_el (show args vs .no (fun b => intV b .no fun b => mkRng 0 b 1 st) (fun a b => intV a .no fun a => intV b .no fun b => mkRng a b 1 st) (fun a b c => intV a .no fun a => intV b .no fun b => intV c .no fun c => mkRng a b c st) = .ok v st' from h) nv (fun a h r => VRels.one_e r fun x ra => rng1_sound h ra I) (fun a b h r => VRels.two_e r fun x y ra rb => rng2_sound h ra rb I) (fun a b c h r => VRels.three_e r fun x y z ra rb rc => rng3_sound h ra rb rc I)
end
end Mine
end OfMSound9
noncomputable section OfMSound10
set_option autoImplicit false
set_option linter.unusedVariables false
namespace Mine
open PySem PySem.Calls PyProof.Rows PySem.SeqAt PySem.W
variable {prog : Program} {w : World} {B : Base} {C : Ctx}

noncomputable def Lst (B : Base) (as : List Addr) (st' : St) (n : Nat) (vs : List MV) (s : Shared) : List Value → Shared → Prop := fun us s' => vs.length = n ∧ ∃ as', Go B [] as as' st' s s' ∧ VRels B as' s'.heap vs us
section
variable (prog : Program) (w : World) (B : Base)
noncomputable def SL (C : Ctx) (es : List Expr) (f : FL) : Prop := ∀ n c, SC prog w B n c → ∀ ρ up st vs st', f c ρ up st = .ok vs st' → ∀ A env as s pos, Room n A → EnvR B C ρ up env as s.heap → Inv B as st s.heap →
  wpAny (model prog w) A (spliced (backTo pos (starEach es env))) (Lst B as st' es.length vs s) No s
end
noncomputable def Plain1 (e : Expr) : Prop := ∀ (es : List Expr) (env : Env), starEach (e :: es) env = (false, eval e env) :: starEach es env
theorem SL.nil : SL prog w B C [] lNil := by
  intro n c hc ρ up st v st' h A env as s pos R V I
  cases h
  exact wpAny_items_nil ⟨rfl, as, .refl [] I, .nil⟩
theorem SL.cons {e : Expr} {es : List Expr} {f : FE} {r : FL} (h1 : SE prog w B C e f) (h2 : SL prog w B C es r) (he : Plain1 e) : SL prog w B C (e :: es) (lCons f r) := by
  intro n c hc ρ up st v st' h A env as s pos R V I
  refine RV.b_el h nl fun x st1 g1 h => ?_
  refine RL.b_el h nl fun y st2 g2 h => ?_
  cases h
  refine wpAny_items_cons (wp_to (h1 n c hc _ _ _ _ _ g1 A env as s R V I) ?_) (he es env)
  refine Pst.all fun u1 s1 as1 G1 r1 => ?_
  refine wp_to (h2 n c hc _ _ _ _ _ g2 A env as1 s1 pos R (V.stp G1.stp G1.pre) G1.inv) ?_
  rintro u2 s2 ⟨hl, as2, G2, r2⟩
  exact ⟨congrArg Nat.succ hl, as2, G1.trans G2, .cons (r1.stp G2.stp G2.pre) r2⟩

section
variable {A : Around} {as : List Addr} {s : Shared} {st st' : St} {v : MV}
theorem Pst.tup {vs : List MV} {us : List Value} {t : Nat} (I : Inv B as st s.heap) (r : VRels B as s.heap vs us) : Pst B as st (.tup vs) s (.ref s.heap.objs.size) { s with heap := s.heap.push { cls := .type "tuple", data := .seq us.toArray }, toks := t } :=
  ⟨as, ⟨List.prefix_refl _, fun _ h => .inl h, .push _ _ _, I.push _, ⟨rfl, rfl⟩⟩, .tup ⟨_, Heap.get?_push_size _ rfl, rfl, 0, rfl⟩ (r.stp (W := []) (.push _ _ _) (List.prefix_refl _))⟩
end
theorem SE.tup {es : List Expr} {f : FL} {k : Nat} {p : Pos} (h1 : SL prog w B C es f) (hn : es.length ≤ 64) : SE prog w B C (.Tuple es k p) (cTup f) := by
  intro n c hc ρ up st v st' h A env as s R V I
  refine RL.b_el h nv fun x st1 g1 h => ?_
  cases h
  refine wpAny_Tuple (wp_to (h1 n c hc _ _ _ _ _ g1 A env as s p R V I) ?_)
  rintro us s1 ⟨hl, as1, G1, r1⟩
  refine ⟨by have := r1.length; unfold sizeLine; (first | lia | omega), ?_⟩
  exact (Pst.tup (t := s1.toks) G1.inv r1).seq G1
theorem SE.lst {es : List Expr} {f : FL} {p : Pos} (h1 : SL prog w B C es f) (hn : es.length ≤ 64) : SE prog w B C (.List es p) (cLst f) := by
  intro n c hc ρ up st v st' h A env as s R V I
  refine RL.b_el h nv fun x st1 g1 h => ?_
  obtain ⟨rfl, rfl⟩ := newL_ok h
  refine wpAny_List (wp_to (h1 n c hc _ _ _ _ _ g1 A env as s p R V I) ?_)
  rintro us s1 ⟨hl, as1, G1, r1⟩
  refine ⟨by have := r1.length; unfold sizeLine; (first | lia | omega), ?_⟩
  exact (Pst.list (t := s1.toks) (n := 0) G1.inv rfl r1).seq G1

theorem looks_fn {M : Model} {h : Heap} {a : Addr} {o : Obj} {fd : FuncData} (h1 : h.get? a = some o) (h2 : o.data = .func fd) : Looks M h (keeperOf (.ref a)) .frame := by
  intro A Q E s k q
  unfold keeperOf
  refine wpAny_bind (wpAny_load (k _ _ h1) ?_)
  rw [h2]
  exact wpAny_pure q
theorem looks_bi {M : Model} {h : Heap} {k : BI} : Looks M h (keeperOf (biVal k)) .machine := by
  intro A Q E s _ q
  cases k <;> exact wpAny_pure q
noncomputable def KeepsAt (M : Model) (f : Value) (h : Heap) : Prop := ∃ k, (k = Keeper.frame ∨ k = Keeper.machine ∨ k = Keeper.boundFrame) ∧ Looks M h (keeperOf f) k
theorem keeps_fn {M : Model} {as : List Addr} {st : St} {h : Heap} {f : Nat} (I : Inv B as st h) : KeepsAt M (.ref (B.fa f)) h := by
  obtain ⟨o, fd, h1, h2, h3⟩ := B.fn f
  exact ⟨_, .inl rfl, looks_fn (I.get0 h1 (by rw [h3]; exact fun e => nomatch e)) h2⟩
theorem keeps_lam {M : Model} {h : Heap} {a : Addr} (x : LamAt h a) : KeepsAt M (.ref a) h := by
  obtain ⟨o, fd, h1, h2, _⟩ := x
  exact ⟨_, .inl rfl, looks_fn h1 h2⟩
theorem keeps_bi {M : Model} {h : Heap} {k : BI} : KeepsAt M (biVal k) h := ⟨_, .inr (.inl rfl), looks_bi⟩

theorem SE.callP {fe e : Expr} {es : List Expr} {ff : FE} {fas : FL} {p : Pos} (h1 : SE prog w B C fe ff) (h2 : SL prog w B C (e :: es) fas) (he : Plain1 e) (hp : ∀ env, (backTo p (starEach es env)).any (·.1) = false)
    (hcall : ∀ env, eval (.Call fe (e :: es) [] p) env = (do callWith p (← eval fe env) [] (backTo p (starEach (e :: es) env)) (backToKw p (keywordEach [] env)))) : SE prog w B C (.Call fe (e :: es) [] p) (cCall ff fas) := by
  intro n c hc ρ up st v st' h A env as s R V I
  refine RV.b_el h nv fun fv st1 g1 h => ?_
  refine RL.b_el h nv fun vs st2 g2 h => ?_
  refine Call_ (wp_to (h1 n c hc _ _ _ _ _ g1 A env as s R V I) ?_) (hcall env)
  refine Pst.all fun f s1 as1 G1 r1 => ?_
  have fin : wpAny (model prog w) A (spliced (backTo p (starEach (e :: es) env))) (fun us s2 => KeepsAt (model prog w) f s2.heap ∧ wpAny (model prog w) A (call f us) (Pst B as st' v s) No s2) No s1 := by
    refine wp_to (h2 n c hc _ _ _ _ _ g2 A env as1 s1 p R (V.stp G1.stp G1.pre) G1.inv) ?_
    rintro us s2 ⟨_, as2, G2, r2⟩
    have G := G1.trans G2
    have r1' := r1.stp G2.stp G2.pre
    have seq : ∀ u s3, Pst B as2 st' v s2 u s3 → Pst B as st' v s u s3 := fun u s3 q => q.seq G
    cases fv with
    | fn k => obtain rfl := r1'.fn_i; exact ⟨keeps_fn G.inv, wp_to (hc _ _ _ _ _ _ (show c (.fn k) vs none st2 = .ok v st' from h) A as2 s2 _ us [] R G.inv (.fn k) r2 rfl) seq⟩
    | bi k => obtain rfl := r1'.bi_i; exact ⟨keeps_bi, wp_to (callB_sound (show callB k vs st2 = .ok v st' from h) r2 G.inv R.hd) seq⟩
    | lam => obtain ⟨_, rfl, x⟩ := r1'.lam_i; exact ⟨keeps_lam x, wp_to (hc _ _ _ _ _ _ (show c .lam vs none st2 = .ok v st' from h) A as2 s2 _ us [] R G.inv (.lam x) r2 rfl) seq⟩
    | _ => cases h
  rw [he es env] at fin ⊢
  exact callWith_of (P := KeepsAt (model prog w) f) (by show ((false || (backTo p (starEach es env)).any (·.1)) || false) = false; rw [hp]; rfl) (fun _ q => q) (evalArgs_plain fin)

theorem star_tuple {A : Around} {s : Shared} {a : Addr} {items : List Value} {Q : List Value → Shared → Prop} {E : Value → Shared → Prop} (ht : s.heap.IsTuple a items.toArray) (hz : items.length ≤ 64)
    (h : ∀ h', (∀ b o, s.heap.get? b = some o → h'.get? b = some o) → Q items { s with heap := h' }) : StarOf (model prog w) A E (.ref a) Q s := by
  have hT : s.TypeIs (.ref a) "tuple" := ht.typeIs
  obtain ⟨o, ho, hc, n, hd⟩ := ht
  have z : wpAny (model prog w) A (collect (.ref a)) Q E s :=
    wpAny_collect_seq a (.inr rfl) ho hc hd (fun h' hk => h h' hk) (by rw [List.size_toArray]; unfold sizeLine; (first | lia | omega))
  unfold StarOf notIterableAtAll
  exact wpAny_bind (wpAny_specialOf hT PySem.F.slot_tuple_iter.lookup (wpAny_pure ⟨rfl, z⟩))
theorem fnV_ok {β : Type} {f : MV} {z c y : β} (h : fnV f z c = y) (hz : z ≠ y) : ((∃ k, f = .fn k) ∨ f = .lam) ∧ c = y := by
  cases f <;> first | exact absurd h hz | exact ⟨.inl ⟨_, rfl⟩, h⟩ | exact ⟨.inr rfl, h⟩
theorem SE.callS {fe e : Expr} {ff fa : FE} {q p : Pos} (h1 : SE prog w B C fe ff) (h2 : SE prog w B C e fa)
    (hcall : ∀ env, eval (.Call fe [.Starred e q] [] p) env = (do callWith p (← eval fe env) [] (backTo p (starEach [.Starred e q] env)) (backToKw p (keywordEach [] env)))) : SE prog w B C (.Call fe [.Starred e q] [] p) (cCallS ff fa) := by
  intro n c hc ρ up st v st' h A env as s R V I
  refine RV.b_el h nv fun fv st1 g1 h => ?_
  refine RV.b_el h nv fun tv st2 g2 h => ?_
  obtain ⟨vs, rfl, h3⟩ := tupV_ok h nv
  rw [lenK_eq] at h3
  refine bsel_el h3 nv fun hz h4 => ?_
  obtain ⟨hf, h5⟩ := fnV_ok h4 nv
  have hz := ble_iff.mp hz
  refine Call_ (wp_to (h1 n c hc _ _ _ _ _ g1 A env as s R V I) ?_) (hcall env)
  refine Pst.all fun f s1 as1 G1 r1 => ?_
  refine ks_call (P := KeepsAt (model prog w) f) (args := backTo p (starEach [.Starred e q] env)) rfl (fun _ q => q) (ks_lone (wp_to (h2 n c hc _ _ _ _ _ g2 A env as1 s1 R (V.stp G1.stp G1.pre) G1.inv) ?_))
  refine Pst.all fun u s2 as2 G2 r2 => ?_
  obtain ⟨_, _, rfl, ht, r2⟩ := r2.tup_i
  refine star_tuple ht (by rw [← r2.length]; exact hz) fun h' hk => ?_
  have G3 : Go B [] as2 as2 st2 s2 { s2 with heap := h' } := ⟨List.prefix_refl _, fun _ h => .inl h, .all hk, G2.inv.keeps hk, ⟨rfl, rfl⟩⟩
  have G := (G1.trans G2).trans G3
  have r1' := (r1.stp G2.stp G2.pre).stp G3.stp G3.pre
  have r2' := r2.stp G3.stp G3.pre
  have K : KeepsAt (model prog w) f h' := by
    rcases hf with ⟨k, rfl⟩ | rfl
    · (first | obtain rfl := r1'.nil_i | obtain ⟨_, rfl⟩ := r1'.int_i | obtain rfl := r1'.none_i | obtain rfl := r1'.bool_i | obtain ⟨_, rfl⟩ := r1'.lin_i | obtain ⟨_, rfl, _⟩ := r1'.flt_i | obtain ⟨_, rfl⟩ := r1'.str_i | obtain rfl := r1'.fn_i | obtain rfl := r1'.bi_i | cases r1'); exact keeps_fn G.inv
    · obtain ⟨_, rfl, x⟩ := r1'.lam_i
      exact keeps_lam x
  exact ⟨K, wp_to (hc _ _ _ _ _ _ h5 A as2 { s2 with heap := h' } f _ [] R G.inv r1' r2' rfl) fun u s3 q => q.seq G⟩
theorem SE.callK {fe e ke : Expr} {es : List Expr} {ff fk : FE} {fas : FL} {p kp : Pos} (h1 : SE prog w B C fe ff) (h2 : SL prog w B C (e :: es) fas) (h3 : SE prog w B C ke fk) (he : Plain1 e) (hp : ∀ env, (backTo p (starEach es env)).any (·.1) = false)
    (hcall : ∀ env, eval (.Call fe (e :: es) [⟨some (Str.ofString "key"), ke, kp⟩] p) env = (do callWith p (← eval fe env) [] (backTo p (starEach (e :: es) env)) (backToKw p (keywordEach [⟨some (Str.ofString "key"), ke, kp⟩] env)))) :
    SE prog w B C (.Call fe (e :: es) [⟨some (Str.ofString "key"), ke, kp⟩] p) (cCallK ff fas fk) := by
  intro n c hc ρ up st v st' h A env as s R V I
  refine RV.b_el h nv fun fv st1 g1 h => ?_
  refine RL.b_el h nv fun vs st2 g2 h => ?_
  refine RV.b_el h nv fun kv st3 g3 h => ?_
  obtain ⟨hf, h⟩ := fnV_ok h nv
  rw [hcall]
  refine wpAny_bind (wp_to (h1 n c hc _ _ _ _ _ g1 A env as s R V I) ?_)
  refine Pst.all fun f s1 as1 G1 r1 => ?_
  refine callWith_of (P := KeepsAt (model prog w) f) (by rw [he es env]; show ((false || (backTo p (starEach es env)).any (·.1)) || false) = false; rw [hp]; rfl) (fun _ q => q) (evalArgs_kw2 rfl ?_ (he es env))
  refine wp_to (h2 n c hc _ _ _ _ _ g2 A env as1 s1 p R (V.stp G1.stp G1.pre) G1.inv) ?_
  rintro us s2 ⟨_, as2, G2, r2⟩
  have G12 := G1.trans G2
  refine wpAny_evalAll_cons (wpAny_bind (wp_to (h3 n c hc _ _ _ _ _ g3 A env as2 s2 R (V.stp G12.stp G12.pre) G12.inv) ?_))
  refine Pst.all fun ku s3 as3 G3 r3 => ?_
  refine wpAny_bind (wpAny_standAt (wpAny_pure (wpAny_evalAll_nil ?_)))
  have G := G12.trans G3
  have r1' := (r1.stp G2.stp G2.pre).stp G3.stp G3.pre
  have K : KeepsAt (model prog w) f s3.heap := by
    rcases hf with ⟨k, rfl⟩ | rfl
    · (first | obtain rfl := r1'.nil_i | obtain ⟨_, rfl⟩ := r1'.int_i | obtain rfl := r1'.none_i | obtain rfl := r1'.bool_i | obtain ⟨_, rfl⟩ := r1'.lin_i | obtain ⟨_, rfl, _⟩ := r1'.flt_i | obtain ⟨_, rfl⟩ := r1'.str_i | obtain rfl := r1'.fn_i | obtain rfl := r1'.bi_i | cases r1'); exact keeps_fn G.inv
    · obtain ⟨_, rfl, x⟩ := r1'.lam_i
      exact keeps_lam x
  exact ⟨K, wp_to (hc _ _ _ _ _ _ h A as3 s3 f _ [(Str.ofString "key", ku)] R G.inv r1' (r2.stp G3.stp G3.pre) ⟨ku, rfl, r3⟩) fun u s3 q => q.seq G⟩
end Mine
end OfMSound10
noncomputable section OfMSound11
set_option autoImplicit false
set_option linter.unusedVariables false
namespace Mine
open PySem PySem.Calls PyProof.Rows PySem.SeqAt PySem.W
variable {prog : Program} {w : World} {B : Base} {C : Ctx}
section
variable {A : Around} {as : List Addr} {s : Shared} {st st' : St} {v : MV}

theorem seqIndex_nat {n m : Nat} (h : n < m) : seqIndex? (Int.ofNat n) m = some n := by
  have := PySem.seqIndex_of (k := Int.ofNat n) (n := m) (Int.natCast_nonneg n) (by show (n : Int) < m; (first | lia | omega))
  rw [this]; rfl
theorem itemI_ok {α : Type} {l : List α} {i : Int} {x : α} (h : itemI l i = some x) : ∃ n, i = Int.ofNat n ∧ l[n]? = some x := by
  cases i with
  | ofNat n => exact ⟨n, rfl, by rw [← getN_eq]; exact h⟩
  | negSucc n => cases h
theorem strI_ok {l : List Nat} {i : Int} (h : strI l i = some v) : ∃ c, v = .str [c] ∧ (seqIndex? i l.length).bind (l[·]?) = some c := by
  unfold strI at h
  refine ob_el h no fun c h1 h2 => ?_
  cases h2
  refine ⟨c, rfl, ?_⟩
  cases i with
  | ofNat n =>
    have h3 : getN l n = some c := h1
    rw [getN_eq] at h3
    rw [seqIndex_nat (List.getElem?_eq_some_iff.mp h3).1]
    exact h3
  | negSucc n =>
    have h3 : (lenK l fun k => bsel (Nat.ble (Nat.succ n) k) (getN l (Nat.sub k (Nat.succ n))) none) = some c := h1
    rw [lenK_eq] at h3
    refine bsel_el h3 no fun h4 h5 => ?_
    have h4 := ble_iff.mp h4
    rw [getN_eq] at h5
    have e : seqIndex? (Int.negSucc n) l.length = some (l.length - (n + 1)) := by
      unfold seqIndex?
      have h6 : (Int.negSucc n : Int) < 0 := Int.negSucc_lt_zero n
      simp only [h6, if_true]
      have h7 : (Int.negSucc n : Int) + (l.length : Int) = ((l.length - (n + 1) : Nat) : Int) := by (first | lia | omega)
      rw [h7]
      have h8 : ((l.length - (n + 1) : Nat) : Int) < (l.length : Int) := by (first | lia | omega)
      simp [h8]
    rw [e]
    exact h5
theorem item_sound {value slice : Expr} {a : MV} {i : Int} {x : Value} {u : Tok} (h : item a i st = some v) (hi : i.natAbs ≤ 4096) (ra : VRel B as s.heap a x) (I : Inv B as st s.heap)
    (hs : ∀ o j, subscripted slice false o j = operate [o, j] (getItem o j)) : wpAny (model prog w) A (subscriptTail value slice x (.int i u)) (Pst B as st v s) No s := by
  cases a with
  | str p =>
    obtain ⟨t, rfl⟩ := ra.str_i
    have h1 : strI p i = some v := h
    obtain ⟨c, rfl, h2⟩ := strI_ok h1
    refine tail_any (typeIs_str s _ t) PySem.F.slot_str_getitem.lookup (PySem.P.getItem_str (c := c) ?_ ?_ ?_) (hs _ _)
    · rw [decide_eq_false (by (first | lia | omega)), decide_eq_false (by (first | lia | omega))]; rfl
    · rw [str_length]
      simpa using h2
    · exact Pst.tok (v := .str [c]) I (.str [c] _)
  | tup l =>
    obtain ⟨a, items, rfl, ht, r⟩ := ra.tup_i
    have h1 : itemI l i = some v := h
    obtain ⟨n, rfl, h2⟩ := itemI_ok h1
    obtain ⟨y, h3, r3⟩ := r.get h2
    refine tail_any ht.typeIs PySem.F.slot_tuple_getitem.lookup (PyProof.Rows.getItem_tuple (j := n) (x := y) ht (by (first | lia | omega)) (by (first | lia | omega)) ?_ (by simpa using h3) (Pst.here I r3)) (hs _ _)
    exact seqIndex_nat (by simpa using (List.getElem?_eq_some_iff.mp h3).1)
  | lst j =>
    obtain ⟨a, rfl, e⟩ := ra.lst_i
    have h1 : (ob (getN st j) none fun l => itemI l i) = some v := h
    refine ob_el h1 no fun l h2 h3 => ?_
    obtain ⟨n, rfl, h4⟩ := itemI_ok h3
    rw [getN_eq] at h2
    obtain ⟨a', items, ha, hl, r⟩ := I.list h2
    rw [e] at ha; cases ha
    obtain ⟨y, h5, r5⟩ := r.get h4
    exact tail_any hl.typeIs PySem.F.slot_list_getitem.lookup (wpAny_getItem_list (x := y) hl (Int.natCast_nonneg n) (by (first | lia | omega)) (by simpa using h5) (Pst.here I r5)) (hs _ _)
  | _ => cases h
end
theorem SE.sub {e i : Expr} {f g : FE} {p : Pos} (h1 : SE prog w B C e f) (h2 : SE prog w B C i g) (hs : ∀ o j, subscripted i false o j = operate [o, j] (getItem o j)) : SE prog w B C (.Subscript e i p) (cSub f g) := by
  intro n c hc ρ up st v st' h A env as s R V I
  refine RV.b_el h nv fun x st1 g1 h => ?_
  refine RV.b_el h nv fun y st2 g2 h => ?_
  obtain ⟨k, hk, h3⟩ := intV_ok h nv
  subst hk
  refine bsel_el h3 nv fun h4 h5 => ?_
  refine ob_el h5 nv fun z h6 h7 => ?_
  cases h7
  refine Subscript_ (wp_to (h1 n c hc _ _ _ _ _ g1 A env as s R V I) ?_)
  refine Pst.all fun u1 s1 as1 G1 r1 => ?_
  refine wp_to (h2 n c hc _ _ _ _ _ g2 A env as1 s1 R (V.stp G1.stp G1.pre) G1.inv) ?_
  refine Pst.all fun u2 s2 as2 G2 r2 => ?_
  (first | obtain rfl := r2.nil_i | obtain ⟨_, rfl⟩ := r2.int_i | obtain rfl := r2.none_i | obtain rfl := r2.bool_i | obtain ⟨_, rfl⟩ := r2.lin_i | obtain ⟨_, rfl, _⟩ := r2.flt_i | obtain ⟨_, rfl⟩ := r2.str_i | obtain rfl := r2.fn_i | obtain rfl := r2.bi_i | cases r2)
  exact wp_to (item_sound h6 ((iabs_iff _ _).mp h4) (r1.stp G2.stp G2.pre) G2.inv hs) fun _ _ q => q.seq (G1.trans G2)

section
variable (prog : Program) (w : World) (B : Base)
noncomputable def SP (C : Ctx) (e : Option Expr) (f : FE) : Prop := ∀ n c, SC prog w B n c → ∀ ρ up st v st', f c ρ up st = .ok v st' → ∀ A env as s, Room n A → EnvR B C ρ up env as s.heap → Inv B as st s.heap →
  wpAny (model prog w) A (evalPart e env) (Pst B as st' v s) No s
end
theorem SP.none : SP prog w B C none (cCst .none) := by
  intro n c hc ρ up st v st' h A env as s R V I
  cases h
  rw [evalPart_none]
  exact wpAny_pure (Pst.here I .none)
theorem SP.some {e : Expr} {f : FE} (h : SE prog w B C e f) : SP prog w B C (.some e) f := by
  intro n c hc ρ up st v st' g A env as s R V I
  rw [evalPart_some]
  exact h n c hc _ _ _ _ _ g A env as s R V I
noncomputable def clampN (n : Nat) (i : Int) : Nat := match i with
  | .ofNat m => if m ≤ n then m else n
  | .negSucc m => n - (m + 1)
theorem clampK_eq {β : Type} (n : Nat) (i : Int) (c : Nat → β) : clampK n i c = c (clampN n i) := by
  unfold clampK
  rw [forceN_eq]
  cases i with
  | ofNat m =>
    show c (bsel (Nat.ble m n) m n) = c (if m ≤ n then m else n)
    rw [bsel_eq]
    by_cases h : m ≤ n
    · rw [if_pos (ble_iff.mpr h), if_pos h]
    · rw [if_neg (fun q => h (ble_iff.mp q)), if_neg h]
  | negSucc m => rfl
theorem clampN_le (n : Nat) (i : Int) : clampN n i ≤ n := by
  cases i with
  | ofNat m => show (if m ≤ n then m else n) ≤ n; split <;> (first | lia | omega)
  | negSucc m => exact Nat.sub_le _ _
theorem clamp_int (n : Nat) (i : Int) : max 0 (min (if i < 0 then i + (n : Int) else i) (n : Int)) = (clampN n i : Int) := by
  cases i with
  | ofNat m =>
    have h : ¬ (Int.ofNat m < 0) := by show ¬ ((m : Int) < 0); (first | lia | omega)
    rw [if_neg h]
    show max 0 (min (m : Int) (n : Int)) = ((if m ≤ n then m else n : Nat) : Int)
    split <;> (first | lia | omega)
  | negSucc m =>
    rw [if_pos (Int.negSucc_lt_zero m)]
    show max 0 (min (Int.negSucc m + (n : Int)) (n : Int)) = ((n - (m + 1) : Nat) : Int)
    (first | lia | omega)
theorem sliceRange_eq (a b : Nat) : sliceRange (a : Int) (b : Int) 1 = List.range' a (b - a) := by
  unfold sliceRange
  rw [if_pos (by decide)]
  have e : (if (a : Int) < (b : Int) then ((b : Int) - (a : Int) + 1 - 1) / 1 else 0).toNat = b - a := by
    rw [Int.ediv_one]; split <;> (first | lia | omega)
  show List.map (fun k : Nat => ((a : Int) + 1 * (k : Int)).toNat) (List.range (if (a : Int) < (b : Int) then ((b : Int) - (a : Int) + 1 - 1) / 1 else 0).toNat) = _
  rw [e, List.range'_eq_map_range]
  refine List.map_congr_left fun k _ => ?_
  show ((a : Int) + 1 * (k : Int)).toNat = a + k
  (first | lia | omega)
theorem filt_eq (x : List Nat) : ∀ (m a : Nat), a + m ≤ x.length → (List.range' a m).filterMap (x[·]?) = (x.drop a).take m
  | 0, _, _ => by simp
  | m + 1, a, h => by
    have ha : a < x.length := by (first | lia | omega)
    rw [List.range'_succ, List.filterMap_cons, List.getElem?_eq_getElem ha]
    simp only
    rw [filt_eq x m (a + 1) (by (first | lia | omega)), List.drop_eq_getElem_cons ha, List.take_succ_cons]
noncomputable def boundN (l : Option (Int × Tok)) (n d : Nat) : Nat := match l with
  | none => d
  | some (i, _) => clampN n i
theorem bound_ok {β : Type} {v : MV} {n d : Nat} {z y : β} {c : Nat → β} {as : List Addr} {h : Heap} {u : Value} (e : boundK v n d z c = y) (hz : z ≠ y) (r : VRel B as h v u) : ∃ l, u = partValue l ∧ c (boundN l n d) = y := by
  cases v with
  | none => obtain rfl := r.none_i; exact ⟨none, rfl, e⟩
  | int i =>
    obtain ⟨t, rfl⟩ := r.int_i
    have e1 : clampK n i c = y := e
    rw [clampK_eq] at e1
    exact ⟨some (i, t), rfl, e1⟩
  | _ => exact absurd e hz
theorem picked_eq {x : List Nat} {t : Tok} {l u : Option (Int × Tok)} : slicePicked ⟨x.toArray⟩ l u none = List.range' (boundN l x.length 0) (boundN u x.length x.length - boundN l x.length 0) := by
  unfold slicePicked Builtin.Str.strSliceIndices
  rw [str_length]
  show sliceRange _ _ 1 = _
  rw [← sliceRange_eq]
  congr 1
  · cases l with
    | none => rfl
    | some p => exact clamp_int x.length p.1
  · cases u with
    | none => rfl
    | some p => exact clamp_int x.length p.1
theorem boundN_le (l : Option (Int × Tok)) (n d : Nat) (hd : d ≤ n) : boundN l n d ≤ n := by
  cases l with
  | none => exact hd
  | some p => exact clampN_le _ _
theorem SE.slice {e : Expr} {lo hi : Option Expr} {f fa fb : FE} {q p : Pos} (h1 : SE prog w B C e f) (h2 : SP prog w B C lo fa) (h3 : SP prog w B C hi fb) (ht : ∀ o r, letTemporaryGo e o r = pure ()) : SE prog w B C (.Subscript e (.Slice lo hi none q) p) (cSlice f fa fb) := by
  intro n c hc ρ up st v st' h A env as s R V I
  refine RV.b_el h nv fun x st1 g1 h => ?_
  obtain ⟨xs, hx, h⟩ := strV_ok h nv
  subst hx
  refine RV.b_el h nv fun lv st2 g2 h => ?_
  refine RV.b_el h nv fun uv st3 g3 h => ?_
  unfold sliceV at h
  rw [lenK_eq] at h
  refine bsel_el h nv fun hz h => ?_
  have hz := ble_iff.mp hz
  refine wpAny_Subscript_str_slice (wp_to (h1 n c hc _ _ _ _ _ g1 A env as s R V I) ?_) ht
  refine Pst.all fun u1 s1 as1 G1 r1 => ?_
  refine wp_to (h2 n c hc _ _ _ _ _ g2 A env as1 s1 R (V.stp G1.stp G1.pre) G1.inv) ?_
  refine Pst.all fun u2 s2 as2 G2 r2 => ?_
  have G12 := G1.trans G2
  refine wp_to (h3 n c hc _ _ _ _ _ g3 A env as2 s2 R (V.stp G12.stp G12.pre) G12.inv) ?_
  refine Pst.all fun u3 s3 as3 G3 r3 => ?_
  have G := G12.trans G3
  obtain ⟨l, rfl, h4⟩ := bound_ok h nv r2
  obtain ⟨u, rfl, h5⟩ := bound_ok h4 nv r3
  rw [takeK_eq, dropN_eq] at h5
  cases h5
  obtain ⟨t, rfl⟩ := r1.str_i
  refine ⟨_, t, l, u, rfl, rfl, rfl, ?_⟩
  have hb := boundN_le u xs.length xs.length (Nat.le_refl _)
  have ha := boundN_le l xs.length 0 (Nat.zero_le _)
  have hp := picked_eq (x := xs) (t := t) (l := l) (u := u)
  have hf : ((slicePicked ⟨xs.toArray⟩ l u none).filterMap ((⟨xs.toArray⟩ : Str).cps[·]?)) = (xs.drop (boundN l xs.length 0)).take (boundN u xs.length xs.length - boundN l xs.length 0) := by
    rw [hp]
    show List.filterMap (xs.toArray[·]?) _ = _
    simp only [List.getElem?_toArray]
    exact filt_eq xs _ _ (by (first | lia | omega))
  have H : Go B [] as3 as3 st' s3 { s3 with heap := s3.heap.push { cls := .type "slice", data := .fields #[partValue l, partValue u, .none] } } := ⟨List.prefix_refl _, fun _ h => .inl h, .push _ _ _, G.inv.push _, ⟨rfl, rfl⟩⟩
  have post : ∀ tk : Nat, ∀ t' : Tok, Pst B as st' (.str ((xs.drop (boundN l xs.length 0)).take (boundN u xs.length xs.length - boundN l xs.length 0))) s (.str ⟨((xs.drop (boundN l xs.length 0)).take (boundN u xs.length xs.length - boundN l xs.length 0)).toArray⟩ t') { s3 with heap := s3.heap.push { cls := .type "slice", data := .fields #[partValue l, partValue u, .none] }, toks := tk } :=
    fun tk t' => ((Pst.tok H.inv (.str _ _)).seq H).seq G
  unfold sliceMade
  rw [hf]
  by_cases hc' : (((Option.map (fun x : Int × Tok => x.1) none).getD 1 == 1 && (slicePicked ⟨xs.toArray⟩ l u none).length == (⟨xs.toArray⟩ : Str).length)) = true
  · rw [if_pos hc']
    rw [Bool.and_eq_true, beq_iff_eq, beq_iff_eq, hp, str_length, List.length_range'] at hc'
    have h0 : boundN l xs.length 0 = 0 ∧ boundN u xs.length xs.length = xs.length ∨ xs = [] := by
      by_cases hn : xs = []
      · exact .inr hn
      · have : 0 < xs.length := List.length_pos_iff.mpr hn
        left; (first | lia | omega)
    have hw : (xs.drop (boundN l xs.length 0)).take (boundN u xs.length xs.length - boundN l xs.length 0) = xs := by
      rcases h0 with ⟨h6, h7⟩ | h6
      · rw [h6, h7, Nat.sub_zero, List.drop_zero, List.take_length]
      · subst h6; simp
    show Pst B as st' (.str ((xs.drop (boundN l xs.length 0)).take (boundN u xs.length xs.length - boundN l xs.length 0))) s (.str ⟨xs.toArray⟩ t) _
    have := post s3.toks t
    rw [hw] at this ⊢
    exact this
  · rw [if_neg hc']
    refine ⟨?_, post _ _⟩
    show Array.size _ ≤ sizeLine
    rw [List.size_toArray, List.length_take, List.length_drop]
    unfold sizeLine
    (first | lia | omega)
end Mine
end OfMSound11
noncomputable section OfMSound12
set_option autoImplicit false
set_option linter.unusedVariables false
namespace Mine
open PySem PySem.Calls PyProof.Rows PySem.SeqAt PySem.W
variable {prog : Program} {w : World} {B : Base} {C : Ctx}

theorem lower_all : ∀ c : Fin 128, Txt.lower ⟨#[c.val]⟩ = ⟨#[if 65 ≤ c.val ∧ c.val ≤ 90 then c.val + 32 else c.val]⟩ := by decide +kernel
theorem lowC_eq (c : Nat) : lowC c = if 65 ≤ c ∧ c ≤ 90 then c + 32 else c := by
  unfold lowC
  rw [bsel_eq, bsel_eq]
  by_cases h1 : 65 ≤ c
  · by_cases h2 : c ≤ 90
    · rw [if_pos (ble_iff.mpr h1), if_pos (ble_iff.mpr h2), if_pos ⟨h1, h2⟩]
    · rw [if_pos (ble_iff.mpr h1), if_neg (fun q => h2 (ble_iff.mp q)), if_neg (fun q => h2 q.2)]
  · rw [if_neg (fun q => h1 (ble_iff.mp q)), if_neg (fun q => h1 q.1)]
theorem oneT_ok {β : Type} {ts : List Nat} {z y : β} {c : Nat → β} (h : oneT ts z c = y) (hz : z ≠ y) : ∃ k, ts = [k] ∧ c k = y := by
  match ts, h with
  | [], h => exact absurd h hz
  | [k], h => exact ⟨k, rfl, h⟩
  | _ :: _ :: _, h => exact absurd h hz
theorem SE.lower {e : Expr} {f : FE} {q p : Pos} (h1 : SE prog w B C e f) (hbase : ∀ env, attributeBase e "lower" env (eval e env) = eval e env) (hline : (q.endLine == p.line) = true) : SE prog w B C (.Call (.Attribute e "lower" q) [] [] p) (cLower f) := by
  intro n c hc ρ up st v st' h A env as s R V I
  refine RV.b_el h nv fun x st1 g1 h => ?_
  obtain ⟨xs, hx, h2⟩ := strV_ok h nv
  subst hx
  obtain ⟨k, hk, h3⟩ := oneT_ok h2 nv
  subst hk
  refine bsel_el h3 nv fun h4 h5 => ?_
  rw [forceN_eq] at h5
  cases h5
  have h4 := ble_iff.mp h4
  refine PySem.Call_method0 (hbase env) hline (wp_to (h1 n c hc _ _ _ _ _ g1 A env as s R V I) ?_)
  refine Pst.all fun u s1 as1 G1 r1 => ?_
  obtain ⟨t, rfl⟩ := r1.str_i
  have e : Txt.lower ⟨[k].toArray⟩ = ⟨[lowC k].toArray⟩ := by
    have := lower_all ⟨k, by (first | lia | omega)⟩
    rw [lowC_eq]; exact this
  refine SB.lower (by rw [e]; rfl) ?_
  rw [e]
  exact (Pst.tok G1.inv (.str _ _)).seq G1

theorem strsOf_ok : ∀ {l : List MV} {a : List (List Nat)}, strsOf l = some a → l = a.map .str
  | [], _, h => by cases h; rfl
  | .str i :: l, a, h => by
    have h' : (strsOf l).map (i :: ·) = some a := h
    cases hl : strsOf l with
    | none => rw [hl] at h'; cases h'
    | some b => rw [hl] at h'; cases h'; rw [strsOf_ok hl]; rfl
  | .none :: _, _, h => by cases h
  | .bool _ :: _, _, h => by cases h
  | .lin _ _ _ :: _, _, h => by cases h
  | .any :: _, _, h => by cases h
  | .flt _ :: _, _, h => by cases h
  | .int _ :: _, _, h => by cases h
  | .tup _ :: _, _, h => by cases h
  | .lst _ :: _, _, h => by cases h
  | .rng _ _ _ :: _, _, h => by cases h
  | .fn _ :: _, _, h => by cases h
  | .bi _ :: _, _, h => by cases h
  | .lam :: _, _, h => by cases h
theorem VRels.strs {as : List Addr} {h : Heap} {l : List (List Nat)} : ∀ {vs : List Value}, VRels B as h (l.map .str) vs → ∃ ps : List (Str × Tok), vs = strValues ps ∧ ps.map (·.1) = l.map fun x => ⟨x.toArray⟩ := by
  induction l with
  | nil => exact fun r => ⟨[], by rw [r.nil_i]; rfl, rfl⟩
  | cons x l ih =>
    intro vs r
    obtain ⟨_, ws, rfl, a, q⟩ := r.cons_i
    obtain ⟨t, rfl⟩ := a.str_i
    obtain ⟨ps, h1, h2⟩ := ih q
    exact ⟨(⟨x.toArray⟩, t) :: ps, by rw [h1]; rfl, by rw [List.map_cons, h2]; rfl⟩
theorem glue_fold : ∀ (l : List (List Nat)) (a : List Nat), List.foldl (fun (acc : Array Nat) (p : Str) => acc ++ (⟨#[]⟩ : Str).cps ++ p.cps) a.toArray (l.map fun x => (⟨x.toArray⟩ : Str)) = (a ++ l.flatten).toArray
  | [], a => by simp
  | x :: r, a => by
    rw [List.map_cons, List.foldl_cons]
    have e : a.toArray ++ (⟨#[]⟩ : Str).cps ++ (⟨x.toArray⟩ : Str).cps = (a ++ x).toArray := by simp
    rw [e, glue_fold r, List.flatten_cons, List.append_assoc]
theorem join_flat : ∀ l : List (List Nat), Txt.join ⟨#[]⟩ (l.map fun x => ⟨x.toArray⟩) = ⟨l.flatten.toArray⟩
  | [] => rfl
  | x :: r => by
    have := glue_fold r x
    show (⟨List.foldl (fun (acc : Array Nat) (p : Str) => acc ++ (⟨#[]⟩ : Str).cps ++ p.cps) x.toArray (r.map fun x => (⟨x.toArray⟩ : Str))⟩ : Str) = _
    rw [this]; rfl
theorem foldl_len (l : List (List Nat)) (k : Nat) : List.foldl (fun (a : Nat) (b : Str) => a + b.length + (⟨#[]⟩ : Str).length) k (l.map fun x => (⟨x.toArray⟩ : Str)) = k + l.flatten.length := by
  induction l generalizing k with
  | nil => rfl
  | cons x r ih =>
    rw [List.map_cons, List.foldl_cons, ih, List.flatten_cons, List.length_append, str_length]
    show k + x.length + 0 + _ = _
    (first | lia | omega)
theorem SE.join {e x : Expr} {f g : FE} {q p : Pos} (h1 : SE prog w B C e f) (h2 : SE prog w B C x g) (hbase : ∀ env, attributeBase e "join" env (eval e env) = eval e env) (hs : ∀ env, starEach [x] env = [(false, eval x env)]) (hline : (q.endLine == p.line) = true) :
    SE prog w B C (.Call (.Attribute e "join" q) [x] [] p) (cJoin f g) := by
  intro n c hc ρ up st v st' h A env as s R V I
  refine RV.b_el h nv fun sv st1 g1 h => ?_
  obtain ⟨xs, hx, h⟩ := strV_ok h nv
  subst hx
  refine RV.b_el h nv fun lv st2 g2 h => ?_
  obtain ⟨i, hi, h⟩ := lstV_ok h nv
  subst hi
  refine ob_el h nv fun l g3 h => ?_
  refine ob_el h nv fun ts g4 h => ?_
  refine bsel_el h nv fun g5 h => ?_
  rw [joinK_eq, lenK_eq] at h
  refine bsel_el h nv fun g6 h => ?_
  cases h
  have g6 := ble_iff.mp g6
  have hx : xs = [] := by
    cases xs with
    | nil => rfl
    | cons _ _ => cases g5
  subst hx
  refine PySem.Call_method1 (hbase env) (hs env) hline (wp_to (h1 n c hc _ _ _ _ _ g1 A env as s R V I) ?_)
  refine Pst.all fun u s1 as1 G1 r1 => ?_
  obtain ⟨t, rfl⟩ := r1.str_i
  refine SB.join (wp_to (h2 n c hc _ _ _ _ _ g2 A env as1 s1 R (V.stp G1.stp G1.pre) G1.inv) ?_)
  refine Pst.all fun u2 s2 as2 G2 r2 => ?_
  obtain ⟨a, rfl, e⟩ := r2.lst_i
  rw [getN_eq] at g3
  obtain ⟨a', items, ha, hl, rl⟩ := G2.inv.list g3
  rw [e] at ha; cases ha
  rw [strsOf_ok g4] at rl
  obtain ⟨ps, hp1, hp2⟩ := rl.strs
  subst hp1
  refine ⟨a, ps, rfl, hl, _, hp2, ?_, fun t' k => ?_⟩
  · unfold JoinOk
    rw [Bool.not_eq_true']
    show Builtin.Str.tooLong (Array.foldl _ 0 (List.toArray _)) = false
    rw [List.foldl_toArray]
    have := foldl_len ts 0
    show Builtin.Str.tooLong (List.foldl (fun (a : Nat) (b : Str) => a + b.length + (⟨#[]⟩ : Str).length) 0 (ts.map fun x => (⟨x.toArray⟩ : Str))) = false
    rw [this]
    unfold Builtin.Str.tooLong sizeLine
    exact decide_eq_false (by (first | lia | omega))
  · have e : Txt.join ⟨([] : List Nat).toArray⟩ (ts.map fun x => ⟨x.toArray⟩) = ⟨ts.flatten.toArray⟩ := join_flat ts
    rw [e]
    exact (Pst.tok G2.inv (.str _ _)).seq (G1.trans G2)
end Mine
end OfMSound12
noncomputable section OfMSound13
set_option autoImplicit false
set_option linter.unusedVariables false
namespace Mine
open PySem PySem.Calls PyProof.Rows PySem.SeqAt PySem.W
variable {prog : Program} {w : World} {B : Base} {C : Ctx}
section
variable {A : Around} {as as' : List Addr} {s : Shared} {st st' : St} {v : MV} {h : Heap}
theorem atom_rel {u : Value} (hp : atom v = true) (r : VRel B as h v u) : VRel B as' h v u := by
  cases r with
  | none => exact .none
  | bool b => exact .bool b
  | int i t => exact .int i t
  | lin k a b t => exact .lin k a b t
  | any u => exact .any u
  | flt n t hn => exact .flt n t hn
  | str p t => exact .str p t
  | tup _ _ => cases hp
  | lst _ => cases hp
  | rng a b c => exact .rng a b c
  | fn f => exact .fn f
  | bi k => exact .bi k
  | lam x => exact .lam x
theorem atoms_rel : ∀ {l : List MV} {us : List Value}, plain (.tup l) = true → VRels B as h l us → VRels B as' h l us
  | _, _, _, .nil => .nil
  | x :: l, _, hp, .cons r rl => by
    have h1 : bsel (atom x) (plain (.tup l)) false = true := hp
    refine bsel_el h1 (by decide) fun h2 h3 => ?_
    exact .cons (atom_rel h2 r) (atoms_rel h3 rl)
theorem plain_rel {u : Value} (hp : plain v = true) (r : VRel B as h v u) : VRel B as' h v u := by
  cases r with
  | none => exact .none
  | bool b => exact .bool b
  | int i t => exact .int i t
  | lin k a b t => exact .lin k a b t
  | any u => exact .any u
  | flt n t hn => exact .flt n t hn
  | str p t => exact .str p t
  | tup ht r => exact .tup ht (atoms_rel hp r)
  | lst _ => cases hp
  | rng a b c => exact .rng a b c
  | fn f => exact .fn f
  | bi k => exact .bi k
  | lam x => exact .lam x
theorem Inv.tlist (I : Inv B as st h) {i : Nat} {l : List MV} (e : st[i]? = some l) : TLAt B as h i l := by
  have hi : i < as.length := by rw [I.len]; exact (List.getElem?_eq_some_iff.mp e).1
  obtain ⟨items, hl, v⟩ := I.lists i as[i] l (List.getElem?_eq_getElem hi) e
  exact ⟨as[i], items, List.getElem?_eq_getElem hi, hl, v⟩
theorem upd_post {i : Nat} {a : Addr} {l l' : List MV} {items items' : List Value} {n : Nat} {f : Array Value → Array Value} {u : Value} {t : Nat} (I : Inv B as st s.heap) (ha : as[i]? = some a)
    (hl : s.heap.get? a = some { cls := .type "list", dict := none, data := .seq items.toArray n, slots := #[] }) (hf : f items.toArray = items'.toArray) (r : VRels B (as.take i) s.heap l' items') :
    Go B [] as as (st.set i l') s { s with heap := s.heap.update a (Obj.mapSeq f), toks := t } := by
  have hs : Heap.SameBut a s.heap (s.heap.update a (Obj.mapSeq f)) := Heap.SameBut.update ..
  have hl' : PL (s.heap.update a (Obj.mapSeq f)) a items' := by
    refine ⟨if (f items.toArray).size == items.toArray.size then n else n + 1, (Heap.get?_update_self (Obj.mapSeq f) hl rfl).trans ?_⟩
    show some (Obj.mk (.type "list") none (.seq (f items.toArray) (if (f items.toArray).size == items.toArray.size then n else n + 1)) #[]) = _
    rw [hf]
  obtain ⟨I', S⟩ := I.setList ha hs hl' r
  exact ⟨List.prefix_refl _, fun _ h => .inl h, S, I', ⟨rfl, rfl⟩⟩
theorem append_run {a : Addr} {items : List Value} {n : Nat} {x : Value} {Q : Value → Shared → Prop} {E : Value → Shared → Prop} (hl : s.heap.get? a = some { cls := .type "list", dict := none, data := .seq items.toArray n, slots := #[] }) (hn : items.length ≤ 4096)
    (h : Q .none { s with heap := s.heap.update a (Obj.mapSeq (·.push x)) }) : wpAny (model prog w) A (call (.builtin "list.append") [.ref a, x]) Q E s := by
  refine wpAny_call_entry PySem.F.slot_list_append ⟨_, hl, rfl⟩ PySem.F.entry_list_append ?_ (PySem.F.args_list_append_2 _ _)
  show wpAny _ _ (updateSeq a (·.push x) >>= fun _ => ret .none) _ _ s
  refine wpAny_bind ?_
  refine wpAny_updateSeq hl rfl (wpAny_pure ⟨.none, rfl, h⟩) ?_ ?_
  · rw [List.size_toArray]; unfold sizeLine; (first | lia | omega)
  · rw [Array.size_push, List.size_toArray]; unfold sizeLine; (first | lia | omega)
noncomputable def insF (i : Int) (x : Value) : Array Value → Array Value := fun xs => have k := if i < 0 then (i + (xs.size : Int)).toNat else min i.toNat xs.size; (xs.extract 0 k).push x ++ xs.extract k
theorem insert_run {a : Addr} {items : Array Value} {n : Nat} {i : Int} {u : Tok} {x : Value} {Q : Value → Shared → Prop} {E : Value → Shared → Prop} (hl : s.heap.get? a = some { cls := .type "list", dict := none, data := .seq items n, slots := #[] }) (hn : items.size ≤ sizeLine) (hi : ¬(!Builtin.List.listFitsIndex i) = true)
    (h : Q .none { s with heap := s.heap.update a (Obj.mapSeq (insF i x)) }) :
    wpAny (model prog w) A (call (.builtin "list.insert") [.ref a, .int i u, x]) Q E s :=
  call_meets PySem.F.slot_list_insert ⟨_, hl, rfl⟩ PySem.F.entry_list_insert (PySem.F.args_list_insert_3 _ _ _) (PySem.AutoSeq1.list_insert_list_int_val_1 a items n i u x hi hn) ⟨hl, h⟩
theorem fits_nat {m : Nat} (h : m ≤ 4096) : Builtin.List.listFitsIndex (Int.ofNat m) = true := PySem.fitsIndex_of (k := Int.ofNat m) (Int.natCast_nonneg m) (by
  have : (m : Int) < 9223372036854775808 := by (first | lia | omega)
  exact this)
theorem insert_eq {items : List Value} {m : Nat} {x : Value} (hm : m ≤ items.length) :
    insF (Int.ofNat m) x items.toArray = (items.take m ++ x :: items.drop m).toArray := by
  have h0 : ¬ (Int.ofNat m < 0) := by show ¬ ((m : Int) < 0); (first | lia | omega)
  show (items.toArray.extract 0 (if (Int.ofNat m) < 0 then _ else min (Int.ofNat m).toNat items.toArray.size)).push x ++ items.toArray.extract (if (Int.ofNat m) < 0 then _ else min (Int.ofNat m).toNat items.toArray.size) = _
  rw [if_neg h0]
  have h1 : min (Int.ofNat m).toNat items.toArray.size = m := by rw [List.size_toArray]; show min m items.length = m; (first | lia | omega)
  rw [h1]
  apply Array.toList_inj.mp
  simp
  exact List.take_of_length_le (by rw [List.length_drop]; exact Nat.le_refl _)
theorem VRels.take {l : List MV} {us : List Value} : ∀ (n : Nat), VRels B as h l us → VRels B as h (l.take n) (us.take n)
  | 0, _ => .nil
  | n + 1, .nil => .nil
  | n + 1, .cons x r => .cons x (r.take n)
theorem VRels.drop {l : List MV} {us : List Value} : ∀ (n : Nat), VRels B as h l us → VRels B as h (l.drop n) (us.drop n)
  | 0, r => r
  | n + 1, .nil => .nil
  | n + 1, .cons x r => r.drop n
end
theorem method_list {A : Around} {s : Shared} {a : Addr} {items : List Value} {name : Str} {id : String} {p : Pos} {trees : List (Bool × Sem Value)} {Q : Value → Shared → Prop} {E : Value → Shared → Prop} (hl : PL s.heap a items) (slot : Slot "list" name id) (ty : typeOf (.builtin id) = pure (.type "method_descriptor"))
    (h : wpAny (model prog w) A (callWith p (.builtin id) [.ref a] trees []) Q E s) : MethodOnS prog w A E name (.ref a) p trees Q s :=
  ⟨"list", id, PySem.F.plainAttrs_list, slot, ty, hl.isList.typeIs, fun b e => by
    cases e
    obtain ⟨n, e⟩ := hl
    exact ⟨_, e, rfl⟩, h⟩
theorem SE.app {e x : Expr} {f g : FE} {q p : Pos} (h1 : SE prog w B C e f) (h2 : SE prog w B C x g) (hbase : ∀ env, attributeBase e "append" env (eval e env) = eval e env) (hs : ∀ env, starEach [x] env = [(false, eval x env)]) (hline : (q.endLine == p.line) = true) :
    SE prog w B C (.Call (.Attribute e "append" q) [x] [] p) (cApp f g) := by
  intro n c hc ρ up st v st' h A env as s R V I
  refine RV.b_el h nv fun lv st1 g1 h => ?_
  obtain ⟨i, hi, h⟩ := lstV_ok h nv
  subst hi
  refine RV.b_el h nv fun xv st2 g2 h => ?_
  refine bsel_el h nv fun hp h => ?_
  refine ob_el h nv fun l g3 h => ?_
  rw [lenK_eq] at h
  refine bsel_el h nv fun hn h => ?_
  rw [appK_eq, setK_eq] at h
  cases h
  have hn := ble_iff.mp hn
  refine PySem.Call_method1 (hbase env) (hs env) hline (wp_to (h1 n c hc _ _ _ _ _ g1 A env as s R V I) ?_)
  refine Pst.all fun u1 s1 as1 G1 r1 => ?_
  obtain ⟨a, rfl, e⟩ := r1.lst_i
  obtain ⟨l0, e0⟩ : ∃ l0, st1[i]? = some l0 := by
    have := (List.getElem?_eq_some_iff.mp e).1
    rw [G1.inv.len] at this
    exact ⟨_, List.getElem?_eq_getElem this⟩
  obtain ⟨a0, it0, ha0, hl0, _⟩ := G1.inv.plist e0
  rw [e] at ha0; cases ha0
  refine method_list hl0 PySem.F.slot_list_append PySem.F.type_list_append (callWith_builtin rfl (evalArgs_plain (spliced_cons (wp_to (h2 n c hc _ _ _ _ _ g2 A env as1 s1 R (V.stp G1.stp G1.pre) G1.inv) ?_))))
  refine Pst.all fun u2 s2 as2 G2 r2 => ?_
  rw [getN_eq] at g3
  obtain ⟨a', items, ha, ⟨k, hl⟩, rl⟩ := G2.inv.tlist g3
  have e2 : as2[i]? = some a := by
    cases (VRel.lst (B := B) (h := s1.heap) e).stp G2.stp G2.pre with
    | lst e2 => exact e2
  rw [e2] at ha; cases ha
  refine spliced_nil (append_run hl (by rw [← rl.length]; exact hn) ?_)
  have G3 := upd_post (u := .none) (l := l) (t := s2.toks) (f := (·.push u2)) (items' := items ++ [u2]) (l' := l ++ [xv]) G2.inv e2 hl (by simp) (rl.append (.cons (plain_rel hp r2) .nil))
  exact ⟨as2, (G1.trans G2).trans G3, .none⟩
theorem SE.ins {e j x : Expr} {f fj g : FE} {q p : Pos} (h1 : SE prog w B C e f) (h2 : SE prog w B C j fj) (h3 : SE prog w B C x g) (hbase : ∀ env, attributeBase e "insert" env (eval e env) = eval e env) (hs : ∀ env, starEach [j, x] env = [(false, eval j env), (false, eval x env)])
    (hline : (q.endLine == p.line) = true) : SE prog w B C (.Call (.Attribute e "insert" q) [j, x] [] p) (cIns f fj g) := by
  intro n c hc ρ up st v st' h A env as s R V I
  refine RV.b_el h nv fun lv st1 g1 h => ?_
  obtain ⟨i, hi, h⟩ := lstV_ok h nv
  subst hi
  refine RV.b_el h nv fun jv st2 g2 h => ?_
  refine RV.b_el h nv fun xv st3 g3 h => ?_
  refine bsel_el h nv fun hp h => ?_
  refine ob_el h nv fun l g4 h => ?_
  rw [lenK_eq] at h
  refine bsel_el h nv fun hn h => ?_
  obtain ⟨jn, hj, h⟩ := intV_ok h nv
  subst hj
  cases jn with
  | negSucc _ => cases h
  | ofNat m =>
  have h : (bsel (Nat.ble m l.length) (insK l m xv fun vs => setK st3 i vs fun st => RV.ok .none st) .no) = .ok v st' := h
  refine bsel_el h nv fun hm h => ?_
  rw [insK_eq, setK_eq] at h
  cases h
  have hn := ble_iff.mp hn
  have hm := ble_iff.mp hm
  refine PySem.Call_method2 (hbase env) (hs env) hline (wp_to (h1 n c hc _ _ _ _ _ g1 A env as s R V I) ?_)
  refine Pst.all fun u1 s1 as1 G1 r1 => ?_
  obtain ⟨a, rfl, e⟩ := r1.lst_i
  obtain ⟨l0, e0⟩ : ∃ l0, st1[i]? = some l0 := by
    have := (List.getElem?_eq_some_iff.mp e).1
    rw [G1.inv.len] at this
    exact ⟨_, List.getElem?_eq_getElem this⟩
  obtain ⟨a0, it0, ha0, hl0, _⟩ := G1.inv.plist e0
  rw [e] at ha0; cases ha0
  refine method_list hl0 PySem.F.slot_list_insert PySem.F.type_list_insert (callWith_builtin rfl (evalArgs_plain (spliced_cons (wp_to (h2 n c hc _ _ _ _ _ g2 A env as1 s1 R (V.stp G1.stp G1.pre) G1.inv) ?_))))
  refine Pst.all fun u2 s2 as2 G2 r2 => ?_
  have G12 := G1.trans G2
  refine spliced_cons (wp_to (h3 n c hc _ _ _ _ _ g3 A env as2 s2 R (V.stp G12.stp G12.pre) G12.inv) ?_)
  refine Pst.all fun u3 s3 as3 G3 r3 => ?_
  rw [getN_eq] at g4
  obtain ⟨a', items, ha, ⟨k, hl⟩, rl⟩ := G3.inv.tlist g4
  have e2 : as3[i]? = some a := by
    cases ((VRel.lst (B := B) (h := s1.heap) e).stp G2.stp G2.pre).stp G3.stp G3.pre with
    | lst e2 => exact e2
  rw [e2] at ha; cases ha
  obtain ⟨t, rfl⟩ := r2.int_i
  refine spliced_nil (insert_run hl (by rw [List.size_toArray, ← rl.length]; unfold sizeLine; (first | lia | omega)) (by rw [fits_nat (by (first | lia | omega))]; decide) ?_)
  have G4 := upd_post (u := .none) (l := l) (t := s3.toks) (items' := items.take m ++ u3 :: items.drop m) (l' := l.take m ++ xv :: l.drop m) G3.inv e2 hl (insert_eq (by rw [← rl.length]; exact hm)) ((rl.take m).append (.cons (plain_rel hp r3) (rl.drop m)))
  exact ⟨as3, (G12.trans G3).trans G4, .none⟩
end Mine
end OfMSound13
noncomputable section OfMSound14
set_option autoImplicit false
set_option linter.unusedVariables false
namespace Mine
open PySem PySem.Calls PyProof.Rows PySem.SeqAt PySem.W
variable {prog : Program} {w : World} {B : Base} {C : Ctx}
section
variable {A : Around} {as as' : List Addr} {s : Shared} {st st' : St} {v : MV} {h h' : Heap}
theorem codeAmong_app (pos : Pos) (a b : Nat) (c d : Value) : ∀ l : List Value, TriplesOk l → codeAmong pos (l ++ [rawInt a, rawInt b, c]) = some d → codeAmong pos l = some d ∨ d = c
  | [], _, e => by
    have e1 : (if (a : Int) == pos.line && (b : Int) == pos.col then some c else codeAmong pos []) = some d := e
    split at e1
    · cases e1; exact .inr rfl
    · cases e1
  | .int i t :: .int j u :: x :: rest, ok, e => by
    have e1 : (if i == pos.line && j == pos.col then some x else codeAmong pos (rest ++ [rawInt a, rawInt b, c])) = some d := e
    show (if i == pos.line && j == pos.col then some x else codeAmong pos rest) = some d ∨ d = c
    by_cases q : (i == pos.line && j == pos.col) = true
    · rw [if_pos q] at e1 ⊢; exact .inl e1
    · rw [if_neg q] at e1 ⊢; exact codeAmong_app pos a b c d rest ok e1
  | .int _ _ :: .int _ _ :: [], ok, _ => ok.elim
  | .int _ _ :: [], ok, _ => ok.elim
theorem tab_stp {t : Nat} (X : TabAt B t h) (hx : Heap.ExtBut (B.tp t) h h') (X' : TabAt B t h') : Stp [] h h' := by
  obtain ⟨ps, _, ⟨_, ht⟩, _⟩ := X
  obtain ⟨ps', _, ⟨_, ht'⟩, _⟩ := X'
  refine ⟨fun a o e => ?_, fun a o e i => hx a o ?_ e, fun a o e m _ => hx a o ?_ e⟩
  · by_cases ha : a = B.tp t
    · subst ha; exact ⟨_, ht'⟩
    · exact ⟨o, hx a o ha e⟩
  · rintro rfl
    rw [ht] at e; cases e
    rcases i with i | i <;> cases i
  · rintro rfl
    rw [ht] at e; cases e
    exact m rfl
theorem Inv.ext {t : Nat} (I : Inv B as st h) (hx : Heap.ExtBut (B.tp t) h h') (X' : TabAt B t h') : Inv B as st h' := by
  have S := tab_stp (I.tab t) hx X'
  obtain ⟨ps, _, ⟨_, ht⟩, _⟩ := I.tab t
  refine ⟨I.len, I.nodup, fun i a l e1 e2 => ?_, I.above, fun b o hb e => hx b o (hb t) (I.old b o hb e), fun u => ?_⟩
  · obtain ⟨items, ⟨n, hl⟩, v⟩ := I.lists i a l e1 e2
    refine ⟨items, ⟨n, hx a _ ?_ hl⟩, v.stp S (List.prefix_refl _)⟩
    rintro rfl
    rw [ht] at hl; cases hl
  · by_cases hu : B.tp u = B.tp t
    · obtain ⟨e1, e2, e3⟩ := B.inj u t hu
      obtain ⟨more, x1, x2, x3⟩ := X'
      refine ⟨more, ?_, ?_, ?_⟩
      · rw [e1, hu, e3]; exact x1
      · rw [e1, hu, e3]; exact x2
      · rw [e2, e3]; exact x3
    · refine (I.tab u).ext hx ?_ hu S.imm
      rintro q
      obtain ⟨_, _, ⟨⟨o, vs, ho, hc, hd, _⟩, _⟩, _⟩ := I.tab u
      rw [q, ht] at ho; cases ho; cases hc
theorem functionCode_run {env : Env} {t : Nat} {pos : Pos} {fl : Nat} {name : Str} {p : Arguments} {scope : Scope} {body : FuncBody} {Q : Value → Shared → Prop} {E : Value → Shared → Prop} (I : Inv B as st s.heap) (hc : env.code = .ref (B.tc t))
    (h : ∀ c h' tk, Heap.ExtBut (B.tp t) s.heap h' → TabAt B t h' → CodeAt h' c (B.lq t) → Q c { s with heap := h', toks := tk }) : wpAny (model prog w) A (functionCode env pos fl name (B.lq t) p scope body) Q E s := by
  obtain ⟨more, h1, h2, h3⟩ := I.tab t
  cases hf : codeAmong pos (B.ps₀ t ++ more).toList with
  | some c =>
    exact wpAny_functionCode_hit hc h1 hf (h c s.heap s.toks (fun _ _ _ e => e) (I.tab t) (h3 _ _ hf))
  | none =>
    refine wpAny_functionCodeX hc h1 h2 hf fun c' h' tk hx _ _ hk hr ht hP => ?_
    have hcode : CodeAt h' (.ref c') (B.lq t) := by
      obtain ⟨P', _, _, ⟨⟨o, vs, e1, e2, e3, _⟩, _⟩⟩ := hP
      obtain ⟨c2, o2, vs2, t2, e4, e5, e6, e7⟩ := hr
      cases e4
      rw [e1] at e5; cases e5
      exact ⟨c', o, vs2, t2, rfl, e1, e2, e6, e7⟩
    have X' : TabAt B t h' := by
      refine ⟨more ++ #[rawInt pos.line, rawInt pos.col, .ref c'], by rw [← Array.append_assoc]; exact hk, by rw [← Array.append_assoc]; exact ht, fun pos' c e => ?_⟩
      have ok : TriplesOk (B.ps₀ t ++ more).toList := by
        obtain ⟨_, _, _, _, _, _, _, _, _, _, _, _, _, _, _, _, _, _, _, ok, _⟩ := h1
        exact ok
      rw [← Array.append_assoc, Array.toList_append] at e
      rcases codeAmong_app pos' _ _ _ _ _ ok e with e | rfl
      · obtain ⟨ca, o, vs, t, e1, e2, e3, e4, e5⟩ := h3 _ _ e
        refine ⟨ca, o, vs, t, e1, hx _ _ ?_ e2, e3, e4, e5⟩
        rintro rfl
        rw [h2.2] at e2; cases e2; cases e3
      · exact hcode
    exact h _ h' tk hx X' hcode
end
theorem SE.lam {x : Str} {p0 p1 p2 p3 p : Pos} {k : Nat} {scope : Scope} (hlm : C.lm = true) (hn : scope.names = [(x, .local)]) (hx : (x == ("__debug__" : Str)) = false) (hg : scope.isGenerator = false) (hco : scope.isCoroutine = false) (hk : scope.kind = .function) (h1x : x = Str.ofString "one") :
    SE prog w B C (.Lambda ⟨[], [⟨x, none, p0⟩], none, [], [], none, []⟩ (.Subscript (.Name x p1) (.Constant (.int 0) k p2) p3) scope p) cLam := by
  intro n c hc ρ up st v st' h A env as s R V I
  cases h
  obtain ⟨h1, h2⟩ := V.lmc hlm
  rw [arm_eval_Lambda]
  refine wpAny_bind (wpAny_of_eq (a := []) rfl (wpAny_bind (wpAny_holding (wpAny_of_eq (a := []) rfl ?_))))
  have hcl : closureFor scope env = pure [] := closureFor_none (fun y hy => by
    rw [hn] at hy
    rw [List.mem_singleton.mp hy]
    exact fun e => nomatch e)
  simp only [makeFunction, List.zip_nil_right, List.filterMap_nil, List.isEmpty_nil, if_true, pure_bind, hcl, h2]
  refine wpAny_bind (functionCode_run I h1 fun c' h' tk hx' X' hcode => ?_)
  have I' := I.ext hx' X'
  have hgl : ({ s with heap := h', toks := tk } : Shared).heap.Ns env.globals B.mg := by rw [V.glo]; exact I'.globals
  obtain ⟨bm, o, e1, e2, e3, e4, e5, e6, e7⟩ := B.bat
  refine wpAny_bind (wpAny_builtinsFor hgl e1 e2 (I'.old _ _ e3 e4) e5 e6 e7 ?_)
  refine wpAny_bind (wpAny_nsGet hgl ?_)
  simp only [newObj]
  refine wpAny_bind (wpAny_alloc (wpAny_pure ?_))
  have S := tab_stp (I.tab 0) hx' X'
  refine ⟨as, ⟨List.prefix_refl _, fun _ h => .inl h, S.trans0 (.push _ _ _), I'.push _, ⟨rfl, rfl⟩⟩, .lam ?_⟩
  exact ⟨_, _, Heap.get?_push_size _ rfl, rfl, rfl, ⟨rfl, ⟨x, p0, p1, p2, p3, k, rfl, rfl, hn, hx, h1x⟩, rfl, rfl, rfl, rfl, rfl, hg, hco, hk⟩, hcode.stp (W := []) (.push _ _ _)⟩
end Mine
end OfMSound14
noncomputable section OfMSound15
set_option autoImplicit false
set_option linter.unusedVariables false
namespace Mine
open PySem PySem.Calls PyProof.Rows PySem.SeqAt PySem.W
variable {prog : Program} {w : World} {B : Base} {C : Ctx}

noncomputable def Fresh (B : Base) (env : Env) : Prop := ∀ a ∈ Ws env, B.h₀.get? a = none
theorem lookup_mem {l : List (Str × Addr)} {x : Str} {c : Addr} (h : l.lookup x = some c) : c ∈ l.map (·.2) := by
  induction l with
  | nil => cases h
  | cons p r ih =>
    obtain ⟨y, d⟩ := p
    rw [List.lookup_cons] at h
    cases hxy : (x == y) with
    | true => rw [hxy] at h; cases h; exact List.mem_cons_self
    | false => rw [hxy] at h; exact List.mem_cons_of_mem _ (ih h)
theorem Fresh.loc {env : Env} (F : Fresh B env) : B.h₀.get? env.locals = none := F _ List.mem_cons_self
theorem Fresh.cel {env : Env} (F : Fresh B env) {x : Str} {c : Addr} (h : env.cells.lookup x = some c) : B.h₀.get? c = none := F _ (List.mem_cons_of_mem _ (lookup_mem h))
theorem ns_obj {h : Heap} {L : Addr} {m : Str → Option Value} (hn : h.Ns L m) : ∃ o, h.get? L = some o ∧ ¬ ImmO o ∧ ¬ MutO o := by
  obtain ⟨o, es, ep, ho, hd, _⟩ := hn
  exact ⟨o, ho, by unfold ImmO; rw [hd]; exact fun h => h, by unfold MutO; rw [hd]; exact fun h => h⟩
theorem cell_obj {h : Heap} {c : Addr} {v : Option Value} (hn : h.IsCell c v) : ∃ o, h.get? c = some o ∧ ¬ ImmO o ∧ ¬ MutO o := by
  obtain ⟨o, ho, hd⟩ := hn
  exact ⟨o, ho, by unfold ImmO; rw [hd]; exact fun h => h, by unfold MutO; rw [hd]; exact fun h => h⟩
theorem ns_ne_cell {h : Heap} {L c : Addr} {m : Str → Option Value} {v : Option Value} (hn : h.Ns L m) (hc : h.IsCell c v) : c ≠ L := by
  rintro rfl
  obtain ⟨o, es, ep, ho, hd, _⟩ := hn
  obtain ⟨o', ho', hd'⟩ := hc
  rw [ho] at ho'; cases ho'
  rw [hd] at hd'; cases hd'
theorem IsCell.same {h h' : Heap} {c d : Addr} {v : Option Value} (x : h.IsCell c v) (hs : Heap.SameBut d h h') (hne : c ≠ d) : h'.IsCell c v := by
  obtain ⟨o, ho, hd⟩ := x
  exact ⟨o, (hs.2 c hne).trans ho, hd⟩
section
variable {A : Around} {as as' : List Addr} {s : Shared} {st st' : St} {v : MV} {h h' : Heap} {ρ up : Sl} {env : Env} {k : Nat} {x : Str} {u : Value}
theorem names_ne (hd : (C.nm.map (·.1)).Nodup) {k k' : Nat} {x y : Str} {a b : NameKind} (e : C.nm[k]? = some (x, a)) (e' : C.nm[k']? = some (y, b)) (hk : k' ≠ k) : y ≠ x := by
  rintro rfl
  have h1 : (C.nm.map (·.1))[k]? = some y := by rw [List.getElem?_map, e]; rfl
  have h2 : (C.nm.map (·.1))[k']? = some y := by rw [List.getElem?_map, e']; rfl
  obtain ⟨p1, q1⟩ := List.getElem?_eq_some_iff.mp h1
  obtain ⟨p2, q2⟩ := List.getElem?_eq_some_iff.mp h2
  exact hk ((List.getElem_inj hd).mp (q2.trans q1.symm))
theorem get_set {ρ : Sl} {k k' : Nat} {v v' : MV} (e : (ρ.set k (some v))[k']? = some (some v')) : (k' = k ∧ v' = v) ∨ (k' ≠ k ∧ ρ[k']? = some (some v')) := by
  rw [List.getElem?_set] at e
  by_cases hk : k = k'
  · subst hk
    rw [if_pos rfl] at e
    split at e
    · cases e; exact .inl ⟨rfl, rfl⟩
    · cases e
  · rw [if_neg hk] at e
    exact .inr ⟨fun h => hk h.symm, e⟩
theorem EnvR.setLocal {m : Str → Option Value} (V : EnvR B C ρ up env as h) (e : C.nm[k]? = some (x, .local)) (hn : h.Ns env.locals m) (hv : ∀ (k : Nat) (x : Str) (v : MV), C.nm[k]? = some (x, .local) → ρ[k]? = some (some v) → ∃ u, m x = some u ∧ VRel B as h v u)
    (hn' : h'.Ns env.locals (fun y => if y = x then some u else m y)) (hs : Heap.SameBut env.locals h h') (r : VRel B as h v u) : EnvR B C (ρ.set k (some v)) up env as h' := by
  obtain ⟨o, ho, hi, hm⟩ := ns_obj hn
  have S : Stp [env.locals] h h' := .same hs ho hi (.inl (List.mem_singleton.mpr rfl)) (by obtain ⟨o', e, _⟩ := ns_obj hn'; exact ⟨o', e⟩)
  refine ⟨V.kind, V.names, V.dist, ⟨_, hn', fun k' y v' e1 e2 => ?_⟩, fun k' y v' e1 e2 => ?_, fun k' y v' e1 e2 e3 => ?_, V.glo, V.bui, fun k' y e1 => ?_, V.cinj, fun a ha => by obtain ⟨o, e⟩ := V.wlive a ha; exact S.live a o e, V.lmc⟩
  · rcases get_set e2 with ⟨rfl, rfl⟩ | ⟨hk, e2⟩
    · rw [e] at e1; cases e1
      exact ⟨u, if_pos rfl, r.stp S (List.prefix_refl _)⟩
    · obtain ⟨u', e3, r'⟩ := hv k' y v' e1 e2
      exact ⟨u', by rw [if_neg (names_ne V.dist e e1 hk)]; exact e3, r'.stp S (List.prefix_refl _)⟩
  · rcases get_set e2 with ⟨rfl, rfl⟩ | ⟨hk, e2⟩
    · rw [e] at e1; cases e1
    · obtain ⟨c, u', e3, hi', r'⟩ := V.cel k' y v' e1 e2
      exact ⟨c, u', e3, IsCell.same hi' hs (ns_ne_cell hn hi'), r'.stp S (List.prefix_refl _)⟩
  · obtain ⟨c, u', e4, hi', r'⟩ := V.upr k' y v' e1 e2 e3
    exact ⟨c, u', e4, IsCell.same hi' hs (ns_ne_cell hn hi'), r'.stp S (List.prefix_refl _)⟩
  · obtain ⟨c, v₀, e4, hi'⟩ := V.celx k' y e1
    exact ⟨c, v₀, e4, IsCell.same hi' hs (ns_ne_cell hn hi')⟩
theorem EnvR.setCell {c : Addr} {v₀ : Option Value} (V : EnvR B C ρ up env as h) (e : C.nm[k]? = some (x, .cell)) (hc : env.cells.lookup x = some c) (hcell : h.IsCell c v₀) (hc' : h'.IsCell c (some u)) (hs : Heap.SameBut c h h') (r : VRel B as h v u) (hup : up = []) : EnvR B C (ρ.set k (some v)) up env as h' := by
  obtain ⟨o, ho, hi, hm⟩ := cell_obj hcell
  have S : Stp [c] h h' := .same hs ho hi (.inl (List.mem_singleton.mpr rfl)) (by obtain ⟨o', e, _⟩ := cell_obj hc'; exact ⟨o', e⟩)
  obtain ⟨m, hn, hv⟩ := V.ns
  have hne := ns_ne_cell hn hcell
  refine ⟨V.kind, V.names, V.dist, ⟨m, S.ns hn (fun hm => hne (List.mem_singleton.mp hm).symm), fun k' y v' e1 e2 => ?_⟩, fun k' y v' e1 e2 => ?_, fun k' y v' e1 e2 e3 => ?_, V.glo, V.bui, fun k' y e1 => ?_, V.cinj, fun a ha => by obtain ⟨o, e⟩ := V.wlive a ha; exact S.live a o e, V.lmc⟩
  · rcases get_set e2 with ⟨rfl, rfl⟩ | ⟨hk, e2⟩
    · rw [e] at e1; cases e1
    · obtain ⟨u', e3, r'⟩ := hv k' y v' e1 e2
      exact ⟨u', e3, r'.stp S (List.prefix_refl _)⟩
  · rcases get_set e2 with ⟨rfl, rfl⟩ | ⟨hk, e2⟩
    · rw [e] at e1; cases e1
      exact ⟨c, u, hc, hc', r.stp S (List.prefix_refl _)⟩
    · obtain ⟨c', u', e3, hi', r'⟩ := V.cel k' y v' e1 e2
      have hcc : c' ≠ c := by rintro rfl; exact names_ne V.dist e e1 hk (V.cinj _ _ _ e3 hc)
      exact ⟨c', u', e3, IsCell.same hi' hs hcc, r'.stp S (List.prefix_refl _)⟩
  · rw [hup] at e2; cases e2
  · by_cases hk : k' = k
    · subst hk
      rw [e] at e1; cases e1
      exact ⟨c, some u, hc, hc'⟩
    · obtain ⟨c', v₁, e4, hi'⟩ := V.celx k' y e1
      have hcc : c' ≠ c := by rintro rfl; exact names_ne V.dist e e1 hk (V.cinj _ _ _ e4 hc)
      exact ⟨c', v₁, e4, IsCell.same hi' hs hcc⟩
theorem store_name {kd : NameKind} {Q : Unit → Shared → Prop} {E : Value → Shared → Prop} (e : C.nm[k]? = some (x, kd)) (hk : kd = .local ∨ (kd = .cell ∧ up = [])) (V : EnvR B C ρ up env as s.heap) (I : Inv B as st s.heap) (F : Fresh B env) (r : VRel B as s.heap v u)
    (h : ∀ s', Go B (Ws env) as as st s s' → EnvR B C (ρ.set k (some v)) up env as s'.heap → Q () s') : wpAny (model prog w) A (storeName env x u) Q E s := by
  have hl : env.kindOf x = some kd := by unfold Env.kindOf; rw [V.names]; exact lookup_of_get V.dist e
  rcases hk with rfl | ⟨rfl, hup⟩
  · obtain ⟨m, hn, hv⟩ := V.ns
    refine wpAny_storeName_local hl hn (fun h' hn' hs => h _ ?_ (V.setLocal e hn hv hn' hs r)) (by rw [V.kind]; rfl)
    obtain ⟨o, ho, hi, hm⟩ := ns_obj hn
    have hl' : ∃ o', h'.get? env.locals = some o' := by obtain ⟨o', e, _⟩ := ns_obj hn'; exact ⟨o', e⟩
    exact ⟨List.prefix_refl _, fun _ h => .inl h, .same hs ho hi (.inl List.mem_cons_self) hl', I.same hs ho hi hm F.loc hl', ⟨rfl, rfl⟩⟩
  · obtain ⟨c, v₀, hc, hcell⟩ := V.celx k x e
    refine wpAny_storeName_cell V.kind hl hc hcell fun h' hc' hs => h _ ?_ (V.setCell e hc hcell hc' hs r hup)
    obtain ⟨o, ho, hi, hm⟩ := cell_obj hcell
    have hl' : ∃ o', h'.get? c = some o' := by obtain ⟨o', e, _⟩ := cell_obj hc'; exact ⟨o', e⟩
    exact ⟨List.prefix_refl _, fun _ h => .inl h, .same hs ho hi (.inl (List.mem_cons_of_mem _ (lookup_mem hc))) hl', I.same hs ho hi hm (F.cel hc) hl', ⟨rfl, rfl⟩⟩
end
end Mine
end OfMSound15
noncomputable section OfMSound16
set_option autoImplicit false
set_option linter.unusedVariables false
namespace Mine
open PySem PySem.Calls PyProof.Rows PySem.SeqAt PySem.W
variable {prog : Program} {w : World} {B : Base} {C : Ctx}

noncomputable def Xst (B : Base) (C : Ctx) (env : Env) (as : List Addr) (r : RX) (s : Shared) : Flow → Shared → Prop := fun fl s' => match r with
  | .no => False
  | .nx ρ' st' => fl = .next ∧ ∃ as', Go B (Ws env) as as' st' s s' ∧ EnvR B C ρ' [] env as' s'.heap
  | .rt v st' => ∃ u as', fl = .ret u ∧ Go B (Ws env) as as' st' s s' ∧ VRel B as' s'.heap v u
section
variable (prog : Program) (w : World) (B : Base)
noncomputable def SX (C : Ctx) (t : Stmt) (f : FX) : Prop := ∀ n c, SC prog w B n c → ∀ ρ st, f c ρ st ≠ .no → ∀ A env as s, Room n A → EnvR B C ρ [] env as s.heap → Fresh B env → Inv B as st s.heap →
  wpAny (model prog w) A (exec t env) (Xst B C env as (f c ρ st) s) No s
noncomputable def SXs (C : Ctx) (ts : List Stmt) (f : FX) : Prop := ∀ n c, SC prog w B n c → ∀ ρ st, f c ρ st ≠ .no → ∀ A env as s, Room n A → EnvR B C ρ [] env as s.heap → Fresh B env → Inv B as st s.heap →
  wpAny (model prog w) A (execs ts env) (Xst B C env as (f c ρ st) s) No s
end
theorem Xst.seq {env : Env} {as as1 : List Addr} {st1 : St} {r : RX} {s s1 : Shared} {fl : Flow} {s2 : Shared} (G : Go B (Ws env) as as1 st1 s s1) (p : Xst B C env as1 r s1 fl s2) : Xst B C env as r s fl s2 := by
  cases r with
  | no => exact p
  | nx ρ' st' =>
    obtain ⟨e, as2, G2, V⟩ := p
    exact ⟨e, as2, G.trans G2, V⟩
  | rt v st' =>
    obtain ⟨u, as2, e, G2, r⟩ := p
    exact ⟨u, as2, e, G.trans G2, r⟩
theorem RV.b_nel {r : RV} {k : MV → St → RX} {P : Prop} (h : r.b .no k ≠ .no) (H : ∀ x st, r = .ok x st → r.b .no k = k x st → k x st ≠ .no → P) : P := match r, h, H with
  | .no, h, _ => absurd rfl h
  | .ok x st, h, H => H x st rfl rfl h
theorem RB.b_nel {r : RB} {k : Bool → St → RX} {P : Prop} (h : r.b .no k ≠ .no) (H : ∀ x st, r = .ok x st → r.b .no k = k x st → k x st ≠ .no → P) : P := match r, h, H with
  | .no, h, _ => absurd rfl h
  | .ok x st, h, H => H x st rfl rfl h
theorem RX.b_ne {r : RX} {k : Sl → St → RX} {t : MV → St → RX} (h : r.b .no k t ≠ .no) : r ≠ .no := by
  rintro rfl
  exact h rfl
theorem SXs.nil : SXs prog w B C [] xNil := by
  intro n c hc ρ st h A env as s R V F I
  exact wpAny_execs_nil ⟨rfl, as, .refl _ I, V⟩
theorem SXs.cons {t : Stmt} {ts : List Stmt} {f r : FX} (h1 : SX prog w B C t f) (h2 : SXs prog w B C ts r) : SXs prog w B C (t :: ts) (xCons f r) := by
  intro n c hc ρ st h A env as s R V F I
  have h : (f c ρ st).b .no (r c) .rt ≠ .no := h
  refine wpAny_execs_cons ?_
  show wpAny (model prog w) A (exec t env) (fun fl s' => match fl with | .next => wpAny (model prog w) A (execs ts env) (Xst B C env as ((f c ρ st).b .no (r c) .rt) s) No s' | fl => Xst B C env as ((f c ρ st).b .no (r c) .rt) s fl s') No s
  refine wp_to (h1 n c hc ρ st (RX.b_ne h) A env as s R V F I) fun fl s1 p => ?_
  generalize f c ρ st = q at h p
  cases q with
  | no => exact absurd rfl h
  | nx ρ1 st1 =>
    obtain ⟨rfl, as1, G1, V1⟩ := p
    exact wp_to (h2 n c hc ρ1 st1 h A env as1 s1 R V1 F G1.inv) fun _ _ p => p.seq G1
  | rt v st1 =>
    obtain ⟨u, as1, rfl, G1, r1⟩ := p
    exact ⟨u, as1, rfl, G1, r1⟩
theorem SX.no {t : Stmt} : SX prog w B C t sNo := by
  intro n c hc ρ st h
  exact absurd rfl h
theorem SX.ret {e : Expr} {f : FE} {p : Pos} (h1 : SE prog w B C e f) : SX prog w B C (.Return (some e) p) (sRet f) := by
  intro n c hc ρ st h A env as s R V F I
  refine RV.b_nel (k := RX.rt) h fun x st1 g1 g2 h => ?_
  have e : sRet f c ρ st = .rt x st1 := g2
  rw [e]
  refine wpAny_Return_some (wp_to (h1 n c hc _ _ _ _ _ g1 A env as s R V I) ?_)
  refine Pst.all fun u s1 as1 G1 r1 => ?_
  exact ⟨u, as1, rfl, G1.of0, r1⟩
theorem noneV_ne {v : MV} {c : RX} (h : noneV v .no c ≠ .no) : v = .none := by
  cases v <;> first | rfl | exact absurd rfl h
theorem SX.exp {e : Expr} {f : FE} {p : Pos} (h1 : SE prog w B C e f) (hs : ∀ env, swapsWith e none p.line env = pure false) : SX prog w B C (.Expr e p) (sExp f) := by
  intro n c hc ρ st h A env as s R V F I
  refine RV.b_nel (k := fun v st => noneV v RX.no (RX.nx ρ st)) h fun x st1 g1 g2 h => ?_
  have hx := noneV_ne h
  subst hx
  have e1 : sExp f c ρ st = .nx ρ st1 := g2
  rw [e1]
  refine wpAny_Expr (wp_to (h1 n c hc _ _ _ _ _ g1 A env as s R V I) ?_) (by unfold interactive; rw [V.kind]; rfl) (hs env)
  refine Pst.all fun u s1 as1 G1 r1 => ?_
  (first | obtain rfl := r1.nil_i | obtain ⟨_, rfl⟩ := r1.int_i | obtain rfl := r1.none_i | obtain rfl := r1.bool_i | obtain ⟨_, rfl⟩ := r1.lin_i | obtain ⟨_, rfl, _⟩ := r1.flt_i | obtain ⟨_, rfl⟩ := r1.str_i | obtain rfl := r1.fn_i | obtain rfl := r1.bi_i | cases r1)
  exact ⟨rfl, as1, G1.of0, V.stp G1.stp G1.pre⟩
theorem SX.ifs {t : Expr} {bs es : List Stmt} {f : FT} {g1 g2 : FX} {p : Pos} (h1 : ST prog w B C t f) (h2 : SXs prog w B C bs g1) (h3 : SXs prog w B C es g2) : SX prog w B C (.If t bs es p) (sIf f g1 g2) := by
  intro n c hc ρ st h A env as s R V F I
  refine RB.b_nel (k := fun q st => bsel q (g1 c ρ st) (g2 c ρ st)) h fun q st1 e1 e2 h => ?_
  have e3 : sIf f g1 g2 c ρ st = bsel q (g1 c ρ st1) (g2 c ρ st1) := e2
  rw [e3]
  refine wpAny_If (wp_to (h1 n c hc _ _ _ _ _ e1 A env as s R V I) ?_)
  rintro b s1 ⟨rfl, as1, G1⟩
  have V1 := V.stp G1.stp G1.pre
  cases b with
  | true => exact wp_to (h2 n c hc ρ st1 h A env as1 s1 R V1 F G1.inv) fun _ _ p => p.seq G1.of0
  | false => exact wp_to (h3 n c hc ρ st1 h A env as1 s1 R V1 F G1.inv) fun _ _ p => p.seq G1.of0
noncomputable def TgtOk (C : Ctx) (k : Nat) (t : Expr) : Prop := ∃ x p kd, t = .Name x p ∧ C.nm[k]? = some (x, kd) ∧ (kd = .local ∨ kd = .cell)
theorem SX.asg1 {e : Expr} {f : FE} {k : Nat} {x : Str} {q p : Pos} {kd : NameKind} (h1 : SE prog w B C e f) (hk : C.nm[k]? = some (x, kd)) (hkd : kd = .local ∨ kd = .cell) (hs : ∀ env : Env, env.scope.kind = .function → env.scope.names = C.nm → swapsWith e (some (.Name x q)) p.line env = pure false) :
    SX prog w B C (.Assign [.Name x q] e p) (sAsg [k] f) := by
  intro n c hc ρ st h A env as s R V F I
  refine RV.b_nel (k := fun v st => setAllK ρ v [k] fun ρ => RX.nx ρ st) h fun v st1 e1 e2 _ => ?_
  have e3 : sAsg [k] f c ρ st = .nx (ρ.set k (some v)) st1 := e2.trans (setK_eq ρ k (some v) fun ρ => RX.nx ρ st1)
  rw [e3]
  refine wpAny_Assign_Name (wp_to (h1 n c hc _ _ _ _ _ e1 A env as s R V I) ?_) (hs env V.kind V.names)
  refine Pst.all fun u s1 as1 G1 r1 => ?_
  exact store_name hk (hkd.imp id fun q => ⟨q, rfl⟩) (V.stp G1.stp G1.pre) G1.inv F r1 fun s2 G2 V2 => ⟨rfl, as1, G1.of0.trans G2, V2⟩
theorem SX.aug {e : Expr} {f : FE} {k : Nat} {x : Str} {q p : Pos} {o : Op2} (h1 : SE prog w B C e f) (hk : C.nm[k]? = some (x, .local)) (hd : (x == ("__debug__" : Str)) = false) :
    SX prog w B C (.AugAssign (.Name x q) (opOf o) e p) (sAug k o f) := by
  intro n c hc ρ st h A env as s R V F I
  refine RV.b_nel (k := fun old st => (f c ρ [] st).b RX.no fun v st => intV old .no fun x => intV v .no fun y => augI k o x y ρ st) h fun v0 st0 e0 e0' ha => ?_
  obtain ⟨hv, rfl⟩ := hVar_ok e0
  refine RV.b_nel (k := fun v st => intV v0 RX.no fun x => intV v .no fun y => augI k o x y ρ st) ha fun v1 st1 e1 e1' hb => ?_
  have e2 : sAug k o f c ρ st0 = intV v0 .no fun x => intV v1 .no fun y => augI k o x y ρ st1 := e0'.trans e1'
  rw [e2]
  obtain ⟨i, hi, h3⟩ := intV_ok (y := (intV v0 RX.no fun x => intV v1 .no fun y => augI k o x y ρ st1)) rfl (fun q => hb q.symm)
  subst hi
  obtain ⟨j, hj, h4⟩ := intV_ok (y := (intV v1 RX.no fun y => augI k o i y ρ st1)) rfl (fun q => hb q.symm)
  subst hj
  have hl : env.kindOf x = some .local := by unfold Env.kindOf; rw [V.names]; exact lookup_of_get V.dist hk
  obtain ⟨m, hn, hvs⟩ := V.ns
  obtain ⟨u, hu, ru⟩ := hvs k x _ hk hv
  refine wpAny_AugAssign_Name (wpAny_loadName_local V.kind hl hn hu (wp_to (h1 n c hc _ _ _ _ _ e1 A env as s R V I) ?_))
  refine Pst.all fun w1 s1 as1 G1 r1 => ?_
  obtain ⟨t, rfl⟩ := ru.int_i
  obtain ⟨t1, rfl⟩ := r1.int_i
  have V1 := V.stp G1.stp G1.pre
  cases o with
  | add =>
    have e5 : augI k .add i j ρ st1 = .nx (ρ.set k (some (.int (i + j)))) st1 := by
      show (iadd i j fun z => setK ρ k (some (.int z)) fun ρ => RX.nx ρ st1) = _
      rw [iadd_eq, setK_eq]
    show wpAny _ A _ (fun r s3 => wpAny _ A _ (fun _ => Xst B C env as (augI k .add i j ρ st1) s .next) No s3) No s1
    rw [e5]
    refine PyProof.Rows.iadd_int (store_name (s := { s1 with toks := s1.toks + 1 }) hk (.inl rfl) V1 G1.inv F (.int _ _) fun s2 G2 V2 => ⟨rfl, as1, (G1.of0.trans (.tok G1.inv)).trans G2, V2⟩)
  | sub =>
    have e5 : augI k .sub i j ρ st1 = .nx (ρ.set k (some (.int (i - j)))) st1 := by
      show (isub i j fun z => setK ρ k (some (.int z)) fun ρ => RX.nx ρ st1) = _
      rw [isub_eq, setK_eq]
    show wpAny _ A _ (fun r s3 => wpAny _ A _ (fun _ => Xst B C env as (augI k .sub i j ρ st1) s .next) No s3) No s1
    rw [e5]
    refine PyProof.Rows.isub_int (store_name (s := { s1 with toks := s1.toks + 1 }) hk (.inl rfl) V1 G1.inv F (.int _ _) fun s2 G2 V2 => ⟨rfl, as1, (G1.of0.trans (.tok G1.inv)).trans G2, V2⟩)
  | mul => exact absurd rfl hb
  | div => exact absurd rfl hb
  | fdiv => exact absurd rfl hb
  | mod => exact absurd rfl hb
  | pow => exact absurd rfl hb
end Mine
end OfMSound16
noncomputable section OfMSound17
set_option autoImplicit false
set_option linter.unusedVariables false
namespace Mine
open PySem PySem.Calls PyProof.Rows PySem.SeqAt PySem.W
variable {prog : Program} {w : World} {B : Base} {C : Ctx}

namespace Go
variable {W V N : List Addr} {as as' : List Addr} {st' : St} {s s' : Shared}
theorem mono (x : Go B V as as' st' s s') (hs : ∀ a ∈ V, a ∈ W) : Go B W as as' st' s s' := ⟨x.pre, x.fresh, x.stp.mono hs, x.inv, x.sme⟩
theorem drop (x : Go B (W ++ N) as as' st' s s') (hN : ∀ a ∈ N, s.heap.get? a = none) : Go B W as as' st' s s' := ⟨x.pre, x.fresh, x.stp.drop hN, x.inv, x.sme⟩
end Go

noncomputable def ItAt (B : Base) (as : List Addr) (h : Heap) (it : MV) (I : Addr) (k : Nat) : Prop := match it with
  | .tup l => ∃ t items, h.IsTupleIter I t k ∧ h.IsTuple t items.toArray ∧ t ≠ I ∧ VRels B as h l items
  | .lst j => ∃ a, as[j]? = some a ∧ h.IsListIter I a k ∧ a ≠ I
  | .rng a n c => ∃ m : Nat, n = Int.ofNat m ∧ k ≤ m ∧ IsRangeIter h I (a + (k : Int) * c) ((m : Int) - (k : Int)) c
  | _ => False
noncomputable def iterObj (o : Obj) : Prop := ∃ vs, o.data = .fields vs ∧ (o.cls = .type "tuple_iterator" ∨ o.cls = .type "list_iterator" ∨ o.cls = .type "range_iterator")
theorem iterObj.no {o : Obj} (x : iterObj o) : ¬ ImmO o ∧ ¬ MutO o := by
  obtain ⟨vs, hd, hc⟩ := x
  refine ⟨fun h => ?_, fun h => ?_⟩
  · unfold ImmO at h; rw [hd] at h
    rcases hc with hc | hc | hc <;> rw [hc] at h <;> rcases h with h | h <;> simp at h
  · unfold MutO at h; rw [hd] at h
    rcases hc with hc | hc | hc <;> rw [hc] at h <;> simp at h
section
variable {A : Around} {as as' : List Addr} {s : Shared} {st st' : St} {v it : MV} {h h' : Heap} {I : Addr} {k : Nat} {x u : Value}
theorem ItAt.obj (t : ItAt B as h it I k) : ∃ o, h.get? I = some o ∧ iterObj o := by
  cases it with
  | tup l =>
    obtain ⟨_, _, ⟨o, ho, hc, hd⟩, _⟩ := t
    exact ⟨o, ho, _, hd, .inl hc⟩
  | lst j =>
    obtain ⟨_, _, ⟨o, ho, hc, hd⟩, _⟩ := t
    exact ⟨o, ho, _, hd, .inr (.inl hc)⟩
  | rng a n c =>
    obtain ⟨_, _, _, ho⟩ := t
    exact ⟨_, ho, _, rfl, .inr (.inr rfl)⟩
  | _ => exact t.elim
theorem ItAt.stp {W : List Addr} (t : ItAt B as h it I k) (S : Stp W h h') (p : as <+: as') (hI : I ∉ W) : ItAt B as' h' it I k := by
  have keepI : ∀ o, h.get? I = some o → iterObj o → h'.get? I = some o := fun o e io => S.keep I o e io.no.2 hI
  cases it with
  | tup l =>
    obtain ⟨t, items, ⟨o, ho, hc, hd⟩, h2, h3, h4⟩ := t
    exact ⟨t, items, ⟨o, keepI o ho ⟨_, hd, .inl hc⟩, hc, hd⟩, S.tuple h2, h3, h4.stp S p⟩
  | lst j =>
    obtain ⟨a, e, ⟨o, ho, hc, hd⟩, h3⟩ := t
    exact ⟨a, by obtain ⟨r, rfl⟩ := p; rw [List.getElem?_append_left (List.getElem?_eq_some_iff.mp e).1]; exact e, ⟨o, keepI o ho ⟨_, hd, .inr (.inl hc)⟩, hc, hd⟩, h3⟩
  | rng a n c =>
    obtain ⟨m, e, hk, ho⟩ := t
    exact ⟨m, e, hk, keepI _ ho ⟨_, rfl, .inr (.inr rfl)⟩⟩
  | _ => exact t.elim
theorem iter_start {Q : Value → Shared → Prop} {E : Value → Shared → Prop} (hI : Inv B as st s.heap) (r : VRel B as s.heap it x) (ok : (∃ l, it = .tup l) ∨ (∃ j, it = .lst j) ∨ ∃ a n c, it = .rng a n c)
    (hq : ∀ s', Go B [] as as st s s' → ItAt B as s'.heap it s.heap.objs.size 0 → Q (.ref s.heap.objs.size) s') : wpAny (model prog w) A (pyIter x) Q E s := by
  have G : ∀ o t, Go B [] as as st s { s with heap := s.heap.push o, toks := t } := fun o t => ⟨List.prefix_refl _, fun _ h => .inl h, .push _ _ _, hI.push o, ⟨rfl, rfl⟩⟩
  cases r with
  | @tup l a items ht rl =>
    refine wpAny_pyIter_tuple ht (hq _ (G _ s.toks) ⟨a, items, ⟨_, Heap.get?_push_size _ rfl, rfl, rfl⟩, ht.push _, ?_, rl.stp (W := []) (.push _ _ _) (List.prefix_refl _)⟩)
    obtain ⟨o, ho, _⟩ := ht
    exact Nat.ne_of_lt (Heap.lt_size ho)
  | @lst j a e =>
    obtain ⟨items, hl⟩ := hI.isList (List.mem_of_getElem? e)
    refine wpAny_pyIter_list hl (hq _ (G _ s.toks) ⟨a, e, ⟨_, Heap.get?_push_size _ rfl, rfl, rfl⟩, ?_⟩)
    obtain ⟨o, ho, _⟩ := hl
    exact Nat.ne_of_lt (Heap.lt_size ho)
  | @rng a b c n r t u v hr hs hn =>
    refine wpAny_pyIter_range hr hs ?_
    refine hq _ (G _ _) ⟨n, rfl, Nat.zero_le _, ?_⟩
    have e1 : a + ((0 : Nat) : Int) * c = a := by (first | lia | omega)
    have e2 : (n : Int) - ((0 : Nat) : Int) = Builtin.Range.rangeSize a b c := by rw [hn]; (first | lia | omega)
    rw [e1, e2]
    exact Heap.get?_push_size _ rfl
  | _ => rcases ok with ⟨_, e⟩ | ⟨_, e⟩ | ⟨_, _, _, e⟩ <;> cases e
theorem go_iter {h' : Heap} {tk : Nat} (hI : Inv B as st s.heap) (h0 : B.h₀.get? I = none) (t : ItAt B as s.heap it I k) {k' : Nat} (t' : ItAt B as h' it I k') (hs : Heap.SameBut I s.heap h') : Go B [I] as as st s { s with heap := h', toks := tk } := by
  obtain ⟨o, ho, io⟩ := t.obj
  have hl : ∃ o', h'.get? I = some o' := by obtain ⟨o', e, _⟩ := t'.obj; exact ⟨o', e⟩
  exact ⟨List.prefix_refl _, fun _ h => .inl h, .same hs ho io.no.1 (.inl (List.mem_singleton.mpr rfl)) hl, hI.same hs ho io.no.1 io.no.2 h0 hl, ⟨rfl, rfl⟩⟩
theorem sameImm {o : Obj} (ho : h.get? I = some o) (io : iterObj o) (hs : Heap.SameBut I h h') : Imm h h' := fun a o' e i => by
  by_cases ha : a = I
  · subst ha; rw [ho] at e; cases e; exact absurd i io.no.1
  · exact (hs.2 a ha).trans e
theorem nth_kind {α : Type} {it : MV} {k : Nat} {st : St} {z e y : α} {c : MV → α} (h : nth it k st z e c = y) (hz : z ≠ y) : (∃ l, it = .tup l) ∨ (∃ j, it = .lst j) ∨ ∃ a n c, it = .rng a n c := by
  cases it with
  | tup l => exact .inl ⟨l, rfl⟩
  | lst j => exact .inr (.inl ⟨j, rfl⟩)
  | rng a n c => exact .inr (.inr ⟨a, n, c, rfl⟩)
  | _ => exact absurd h hz
theorem iter_next {α : Type} {z en y : α} {c : MV → α} {Q : Option Value → Shared → Prop} {E : Value → Shared → Prop} (hh : A.handled = none) (t : ItAt B as s.heap it I k) (hI : Inv B as st s.heap) (h0 : B.h₀.get? I = none) (e : nth it k st z en c = y) (hz : z ≠ y)
    (hitem : ∀ m u s', c m = y → Go B [I] as as st s s' → ItAt B as s'.heap it I (k + 1) → VRel B as s'.heap m u → Q (some u) s')
    (hend : ∀ h', en = y → Heap.ExtBut I s.heap h' → Q none { s with heap := h' }) : wpAny (model prog w) A (pyNext (.ref I)) Q E s := by
  have io := t.obj
  obtain ⟨o, ho, io⟩ := io
  cases it with
  | tup l =>
    obtain ⟨a, items, h1, h2, h3, h4⟩ := id t
    have e1 : ob (getN l k) en c = y := e
    rw [getN_eq, ob_eq] at e1
    cases hl : l[k]? with
    | none =>
      rw [hl] at e1
      have hx : items.toArray[k]? = none := by
        simp only [List.getElem?_toArray, List.getElem?_eq_none_iff] at hl ⊢
        rw [← h4.length]; exact hl
      exact wpAny_pyNext_tuple_end hh h1 h2 hx fun h' hx => hend h' e1 hx
    | some m =>
      rw [hl] at e1
      obtain ⟨u, hu, r⟩ := h4.get hl
      refine wpAny_pyNext_tuple_item h1 h2 (x := u) (by simpa using hu) fun h' h1' hs => ?_
      have im := sameImm ho io hs
      have t' : ItAt B as h' (.tup l) I (k + 1) := ⟨a, items, h1', im.tuple h2, h3, h4.imm im (List.prefix_refl _)⟩
      exact hitem m u _ e1 (go_iter (tk := s.toks) hI h0 t t' hs) t' (r.imm im (List.prefix_refl _))
  | lst j =>
    obtain ⟨a, ea, h1, h3⟩ := id t
    have e1 : ob (getN st j) z (fun l => ob (getN l k) en c) = y := e
    refine ob_el e1 hz fun l g1 e2 => ?_
    rw [getN_eq] at g1
    obtain ⟨a', items, ha, h2, h4⟩ := hI.list g1
    rw [ea] at ha; cases ha
    rw [getN_eq, ob_eq] at e2
    cases hl : l[k]? with
    | none =>
      rw [hl] at e2
      have hx : items.toArray[k]? = none := by
        simp only [List.getElem?_toArray, List.getElem?_eq_none_iff] at hl ⊢
        rw [← h4.length]; exact hl
      exact wpAny_pyNext_list_end hh h1 h2 hx fun h' hx => hend h' e2 hx
    | some m =>
      rw [hl] at e2
      obtain ⟨u, hu, r⟩ := h4.get hl
      refine wpAny_pyNext_list_item h1 h2 (x := u) (by simpa using hu) fun h' h1' hs => ?_
      have im := sameImm ho io hs
      have t' : ItAt B as h' (.lst j) I (k + 1) := ⟨a, ea, h1', h3⟩
      exact hitem m u _ e2 (go_iter (tk := s.toks) hI h0 t t' hs) t' (r.imm im (List.prefix_refl _))
  | rng a n d =>
    obtain ⟨m, hn, hk, h1⟩ := id t
    subst hn
    have e1 : (bsel (Nat.ble (Nat.succ k) m) (imul d (.ofNat k) fun p => iadd a p fun x => c (.int x)) en) = y := e
    rw [bsel_eq] at e1
    by_cases hkm : k + 1 ≤ m
    · rw [if_pos (ble_iff.mpr hkm), imul_eq, iadd_eq] at e1
      refine wpAny_pyNext_range_item h1 (by (first | lia | omega)) fun h' h1' hs => ?_
      have t' : ItAt B as h' (.rng a (Int.ofNat m) d) I (k + 1) := by
        refine ⟨m, rfl, hkm, ?_⟩
        rw [show a + ((k + 1 : Nat) : Int) * d = a + (k : Int) * d + d by rw [Int.natCast_add, Int.add_mul]; (first | lia | omega), show (m : Int) - ((k + 1 : Nat) : Int) = (m : Int) - (k : Int) - 1 by (first | lia | omega)]
        exact h1'
      refine hitem _ _ _ e1 (go_iter hI h0 t t' hs) t' ?_
      rw [show d * Int.ofNat k = (k : Int) * d from Int.mul_comm _ _]
      exact .int _ _
    · rw [if_neg (fun q => hkm (ble_iff.mp q))] at e1
      exact wpAny_pyNext_range_end hh h1 (by (first | lia | omega)) fun h' hx => hend h' e1 hx
  | _ => exact t.elim
theorem Inv.endIter {o : Obj} (hI : Inv B as st h) (h0 : B.h₀.get? I = none) (ho : h.get? I = some o) (io : iterObj o) (hx : Heap.ExtBut I h h') : Inv B as st h' := by
  have im : Imm h h' := fun a o' e i => hx a o' (by rintro rfl; rw [ho] at e; cases e; exact io.no.1 i) e
  have hT := fun t => hI.tabNe2 ho io.no.1 io.no.2 t
  refine ⟨hI.len, hI.nodup, fun i a l e1 e2 => ?_, hI.above, fun b o' hb e => hx b o' (by rintro rfl; rw [h0] at e; cases e) (hI.old b o' hb e), fun t => (hI.tab t).ext hx (hT t).1 (hT t).2 im⟩
  obtain ⟨items, ⟨n, hl⟩, r⟩ := hI.lists i a l e1 e2
  exact ⟨items, ⟨n, hx a _ (by rintro rfl; exact hI.notMem ho io.no.2 (List.mem_of_getElem? e1)) hl⟩, r.imm im (List.prefix_refl _)⟩
theorem EnvR.endIter {ρ up : Sl} {env : Env} {o : Obj} (V : EnvR B C ρ up env as h) (ho : h.get? I = some o) (io : iterObj o) (hx : Heap.ExtBut I h h') (hI : I ∉ Ws env) : EnvR B C ρ up env as h' := by
  have im : Imm h h' := fun a o' e i => hx a o' (by rintro rfl; rw [ho] at e; cases e; exact io.no.1 i) e
  have hc : ∀ c v, h.IsCell c v → h'.IsCell c v := fun c v ⟨o', ho', hd'⟩ => ⟨o', hx c o' (by
    rintro rfl; rw [ho] at ho'; cases ho'
    obtain ⟨vs, hd, _⟩ := io
    rw [hd] at hd'; cases hd') ho', hd'⟩
  obtain ⟨m, hn, hv⟩ := V.ns
  refine ⟨V.kind, V.names, V.dist, ⟨m, ?_, fun k x v e1 e2 => ?_⟩, fun k x v e1 e2 => ?_, fun k x v e1 e2 e3 => ?_, V.glo, V.bui, fun k x e => ?_, V.cinj, fun a ha => by
    obtain ⟨o', e⟩ := V.wlive a ha
    exact ⟨o', hx a o' (by rintro rfl; exact hI ha) e⟩, V.lmc⟩
  · obtain ⟨o', es, ep, ho', hd', r⟩ := hn
    exact ⟨o', es, ep, hx _ _ (by
      intro q
      rw [q, ho] at ho'; cases ho'
      obtain ⟨vs, hd, _⟩ := io
      rw [hd] at hd'; cases hd') ho', hd', r⟩
  · obtain ⟨u, e, r⟩ := hv k x v e1 e2
    exact ⟨u, e, r.imm im (List.prefix_refl _)⟩
  · obtain ⟨c, u, e, i, r⟩ := V.cel k x v e1 e2
    exact ⟨c, u, e, hc _ _ i, r.imm im (List.prefix_refl _)⟩
  · obtain ⟨c, u, e, i, r⟩ := V.upr k x v e1 e2 e3
    exact ⟨c, u, e, hc _ _ i, r.imm im (List.prefix_refl _)⟩
  · obtain ⟨c, v, e1, e2⟩ := V.celx k x e
    exact ⟨c, v, e1, hc _ _ e2⟩
theorem Go.endIter {W : List Addr} {s' : Shared} {o : Obj} {h' : Heap} (G : Go B (W ++ [I]) as as' st' s s') (hn : s.heap.get? I = none) (h0 : B.h₀.get? I = none) (ho : s'.heap.get? I = some o) (io : iterObj o) (hx : Heap.ExtBut I s'.heap h') : Go B W as as' st' s { s' with heap := h' } := by
  have ne : ∀ a o, s.heap.get? a = some o → a ≠ I := by rintro a o e rfl; rw [hn] at e; cases e
  refine ⟨G.pre, G.fresh, ⟨fun a o e => ?_, fun a o e i => hx a o (ne a o e) (G.stp.imm a o e i), fun a o e m w => hx a o (ne a o e) (G.stp.keep a o e m ?_)⟩, G.inv.endIter h0 ho io hx, ⟨G.sme.1, G.sme.2⟩⟩
  · obtain ⟨o', e'⟩ := G.stp.live a o e
    exact ⟨o', hx a o' (ne a o e) e'⟩
  · intro hm
    rcases List.mem_append.mp hm with hm | hm
    · exact w hm
    · exact ne a o e (List.mem_singleton.mp hm)
end
end Mine
end OfMSound17
noncomputable section OfMSound18
set_option autoImplicit false
set_option linter.unusedVariables false
namespace Mine
open PySem PySem.Calls PyProof.Rows PySem.SeqAt PySem.W
variable {prog : Program} {w : World} {B : Base} {C : Ctx}

theorem forLoopC {A : Around} {s : Shared} {R : Result → Shared → Prop} {target : Expr} {it : Value} {body orelse : List Stmt} {env : Env} (I : Nat → Shared → Prop)
    (turn : ∀ n s, I n s → ∀ (E : Value → Shared → Prop) (N : Shared → Prop) (K : Value → Shared → Prop) (F P : Flow → Shared → Prop), (∀ f s', R (.ok f) s' → P f s') → (∀ s', (∃ m, m < n ∧ I m s') → F .next s') → (∀ v s', R (.ok (.ret v)) s' → F (.ret v) s') →
      (∀ s', wpAny (model prog w) A (execs orelse env) P E s' → N s') → (∀ v s', wpAny (model prog w) A (assign target env v) (fun _ s₂ => wpAny (model prog w) A (execs body env) F E s₂) E s' → K v s') →
      wpAny (model prog w) A (pyNext it) (fun r s₁ => match r with
        | none => N s₁
        | some v => K v s₁) E s)
    (n : Nat) (h : I n s) (ht : ∀ v, letOwnedTupleGo target it v = pure () := by intro _; rfl) : codeAny (model prog w) A (.forLoop target it body orelse env) R s :=
  codeAny_forLoop I (fun n s hI => turn n s hI _ _ _ _ _ (fun _ _ h => h) (fun _ h => h) (fun _ _ h => h) (fun _ h => h) fun _ _ h => h) n h ht
theorem SX.whl {t : Expr} {bs : List Stmt} {f : FT} {g : FX} {p : Pos} (h1 : ST prog w B C t f) (h2 : SXs prog w B C bs g) : SX prog w B C (.While t bs [] p) (sWhl f g) := by
  intro n c hc ρ st h A env as s R V F hI
  have h : whRun f g c 200 ρ st ≠ .no := h
  show wpAny (model prog w) A _ (Xst B C env as (whRun f g c 200 ρ st) s) No s
  generalize hr : whRun f g c 200 ρ st = r at h
  refine wpAny_While (codeAny_whileLoop (fun m s' => Ex3 fun ρ1 st1 as1 => And3 (whRun f g c m ρ1 st1 = r) (Go B (Ws env) as as1 st1 s s') (EnvR B C ρ1 [] env as1 s'.heap)) ?_ 200 ⟨ρ, st, as, hr, .refl _ hI, V⟩)
  rintro m s1 ⟨ρ1, st1, as1, e, G1, V1⟩
  cases m with
  | zero => exact absurd (e.symm) h
  | succ m =>
    have e : (f c ρ1 [] st1).b .no (fun q st => bsel q ((g c ρ1 st).b .no (whRun f g c m) .rt) (.nx ρ1 st)) = r := e
    refine RB.b_el e (fun q => h q.symm) fun q st2 e1 e2 => ?_
    refine wp_any (h1 n c hc _ _ _ _ _ e1 A env as1 s1 R V1 G1.inv) ?_
    rintro b s2 ⟨rfl, as2, G2⟩
    have V2 := V1.stp G2.stp G2.pre
    have G := G1.trans G2.of0
    cases b with
    | false =>
      cases e2
      exact wpAny_execs_nil ⟨rfl, as2, G, V2⟩
    | true =>
      have e3 : (g c ρ1 st2).b .no (whRun f g c m) .rt = r := e2
      have hg : g c ρ1 st2 ≠ .no := by
        intro q
        rw [q] at e3
        exact h e3.symm
      refine wp_any (h2 n c hc ρ1 st2 hg A env as2 s2 R V2 F G.inv) fun fl s3 pst => ?_
      generalize g c ρ1 st2 = q at e3 pst
      cases q with
      | no => exact pst.elim
      | nx ρ3 st3 =>
        obtain ⟨rfl, as3, G3, V3⟩ := pst
        exact ⟨m, Nat.lt_succ_self m, ρ3, st3, as3, e3, G.trans G3, V3⟩
      | rt v st3 =>
        obtain ⟨u, as3, rfl, G3, r3⟩ := pst
        have e3 : RX.rt v st3 = r := e3
        subst e3
        exact ⟨u, as3, rfl, G.trans G3, r3⟩
theorem SX.for {e : Expr} {bs : List Stmt} {f : FE} {g : FX} {k : Nat} {x : Str} {q p : Pos} {kd : NameKind} (h1 : SE prog w B C e f) (h2 : SXs prog w B C bs g) (hk : C.nm[k]? = some (x, kd)) (hkd : kd = .local ∨ kd = .cell) (hs : ∀ env v, foldedSetIterable e env v = pure v) :
    SX prog w B C (.For (.Name x q) e bs [] p) (sFor k f g) := by
  intro n c hc ρ st h A env as s R V F hI
  refine RV.b_nel (k := fun it st => foRun k it g c 200 0 ρ st) h fun it st1 e1 e2 h => ?_
  have e3 : sFor k f g c ρ st = foRun k it g c 200 0 ρ st1 := e2
  rw [e3]
  generalize hr : foRun k it g c 200 0 ρ st1 = r at h
  refine wpAny_For (wp_to (h1 n c hc _ _ _ _ _ e1 A env as s R V hI) ?_) (hs env)
  refine Pst.all fun u s1 as1 G1 r1 => ?_
  have V1 := V.stp G1.stp G1.pre
  have hfirst : nth it 0 st1 .no (.nx ρ st1) (fun v => setK ρ k (some v) fun ρ => (g c ρ st1).b .no (fun ρ st => forceN (Nat.succ 0) fun i => foRun k it g c 199 i ρ st) .rt) = r := hr
  refine iter_start G1.inv r1 (nth_kind hfirst (fun q => h q.symm)) fun s2 G2 t2 => ?_
  have hnI : s1.heap.get? s1.heap.objs.size = none := hNoneAt _
  generalize s1.heap.objs.size = I at hnI t2 ⊢
  have V2 := V1.stp G2.stp G2.pre
  have hIW : I ∉ Ws env := fun hm => by
    obtain ⟨o, e⟩ := V1.wlive I hm
    rw [hnI] at e; cases e
  have h0 : B.h₀.get? I = none := G1.inv.new0 hnI
  refine forLoopC (fun m s' => Ex4 fun i ρ3 st3 as3 => And4 (foRun k it g c m i ρ3 st3 = r) (Go B (Ws env ++ [I]) as1 as3 st3 s1 s') (EnvR B C ρ3 [] env as3 s'.heap) (ItAt B as3 s'.heap it I i)) ?_ 200 ⟨0, ρ, st1, as1, hr, G2.of0, V2, t2⟩
  rintro m s3 ⟨i, ρ3, st3, as3, e4, G3, V3, t3⟩ E' N K' F' P' hP' hnx hrt hN' hK'
  cases m with
  | zero => exact absurd e4.symm h
  | succ m =>
    have e4 : nth it i st3 .no (.nx ρ3 st3) (fun v => setK ρ3 k (some v) fun ρ => (g c ρ st3).b .no (fun ρ st => forceN (Nat.succ i) fun i => foRun k it g c m i ρ st) .rt) = r := e4
    obtain ⟨o, ho, io⟩ := t3.obj
    refine iter_next R.hd t3 G3.inv h0 e4 (fun q => h q.symm) (fun mv u4 s4 e5 G4 t4 r4 => ?_) (fun h' e5 hx => ?_)
    · rw [setK_eq] at e5
      have V4 : EnvR B C ρ3 [] env as3 s4.heap := by
        have S := G4.stp
        obtain ⟨m', hn, hv⟩ := V3.ns
        have nI : ∀ a, a ∈ Ws env → a ∉ [I] := fun a ha hm => hIW (List.mem_singleton.mp hm ▸ ha)
        have cI : ∀ c v, s3.heap.IsCell c v → c ∉ [I] := fun c v hcell hm => by
          obtain ⟨o', ho', hd'⟩ := hcell
          rw [List.mem_singleton.mp hm, ho] at ho'; cases ho'
          obtain ⟨vs, hd, _⟩ := io
          rw [hd] at hd'; cases hd'
        refine ⟨V3.kind, V3.names, V3.dist, ⟨m', S.ns hn (nI _ List.mem_cons_self), fun k x v e1 e2 => ?_⟩, fun k x v e1 e2 => ?_, fun k x v e1 e2 e3 => ?_, V3.glo, V3.bui, fun k x e => ?_, V3.cinj, fun a ha => ?_, V3.lmc⟩
        · obtain ⟨u, e, r⟩ := hv k x v e1 e2
          exact ⟨u, e, r.stp S (List.prefix_refl _)⟩
        · obtain ⟨c, u, e, i, r⟩ := V3.cel k x v e1 e2
          exact ⟨c, u, e, S.cell i (cI _ _ i), r.stp S (List.prefix_refl _)⟩
        · obtain ⟨c, u, e, i, r⟩ := V3.upr k x v e1 e2 e3
          exact ⟨c, u, e, S.cell i (cI _ _ i), r.stp S (List.prefix_refl _)⟩
        · obtain ⟨c, v, e1, e2⟩ := V3.celx k x e
          exact ⟨c, v, e1, S.cell e2 (cI _ _ e2)⟩
        · obtain ⟨o, e⟩ := V3.wlive a ha
          exact S.live a o e
      have G34 : Go B (Ws env ++ [I]) as1 as3 st3 s1 s4 := G3.trans (G4.mono fun a ha => List.mem_append_right _ ha)
      refine hK' _ _ (wpAny_assign_Name (store_name hk (hkd.imp id fun q => ⟨q, rfl⟩) V4 G4.inv F r4 fun s5 G5 V5 => ?_))
      have t5 := t4.stp G5.stp G5.pre hIW
      have G35 : Go B (Ws env ++ [I]) as1 as3 st3 s1 s5 := G34.trans (G5.mono fun a ha => List.mem_append_left _ ha)
      have hg : g c (ρ3.set k (some mv)) st3 ≠ .no := by
        intro q
        rw [q] at e5
        exact h e5.symm
      refine wp_any (h2 n c hc _ st3 hg A env as3 s5 R V5 F G35.inv) fun fl s6 pst => ?_
      generalize g c (ρ3.set k (some mv)) st3 = q at e5 pst
      cases q with
      | no => exact pst.elim
      | nx ρ6 st6 =>
        obtain ⟨rfl, as6, G6, V6⟩ := pst
        have e6 : (forceN (Nat.succ i) fun i => foRun k it g c m i ρ6 st6) = r := e5
        rw [forceN_eq] at e6
        exact hnx _ ⟨m, Nat.lt_succ_self m, i + 1, ρ6, st6, as6, e6, G35.trans (G6.mono fun a ha => List.mem_append_left _ ha), V6, t5.stp G6.stp G6.pre hIW⟩
      | rt v st6 =>
        obtain ⟨u, as6, rfl, G6, r6⟩ := pst
        have e6 : RX.rt v st6 = r := e5
        subst e6
        exact hrt _ _ ⟨u, as6, rfl, G1.of0.trans ((G35.trans (G6.mono fun a ha => List.mem_append_left _ ha)).drop fun a ha => by rw [List.mem_singleton.mp ha]; exact hnI), r6⟩
    · subst e5
      exact hN' _ (wpAny_execs_nil (hP' _ _ ⟨rfl, as3, G1.of0.trans (G3.endIter hnI h0 ho io hx), V3.endIter ho io hx hIW⟩))
end Mine
end OfMSound18
noncomputable section OfMSound19
set_option autoImplicit false
set_option linter.unusedVariables false
namespace Mine
open PySem PySem.Calls PyProof.Rows PySem.SeqAt PySem.W
variable {prog : Program} {w : World} {B : Base} {C : Ctx}

noncomputable def setsL : Sl → List Nat → List MV → Sl
  | ρ, k :: ts, v :: l => setsL (ρ.set k (some v)) ts l
  | ρ, _, _ => ρ
theorem setMany_ok {β : Type} {z y : β} {c : Sl → β} (hz : z ≠ y) : ∀ {ts : List Nat} {l : List MV} {ρ : Sl}, setManyK ρ ts l z c = y → l.length = ts.length ∧ c (setsL ρ ts l) = y
  | [], [], _, h => ⟨rfl, h⟩
  | [], _ :: _, _, h => absurd h hz
  | _ :: _, [], _, h => absurd h hz
  | k :: ts, v :: l, ρ, h => by
    have h1 : setK ρ k (some v) (fun ρ => setManyK ρ ts l z c) = y := h
    rw [setK_eq] at h1
    obtain ⟨h2, h3⟩ := setMany_ok hz h1
    exact ⟨congrArg Nat.succ h2, h3⟩
theorem unpV_ok {β : Type} {z y : β} {c : List MV → β} {v : MV} {st : St} (h : unpV v st z c = y) (hz : z ≠ y) : ∃ l, (v = .tup l ∨ ∃ j, v = .lst j ∧ st[j]? = some l) ∧ c l = y := by
  cases v with
  | tup l => exact ⟨l, .inl rfl, h⟩
  | lst j =>
    have h1 : ob (getN st j) z c = y := h
    refine ob_el h1 hz fun l h2 h3 => ?_
    rw [getN_eq] at h2
    exact ⟨l, .inr ⟨j, rfl, h2⟩, h3⟩
  | _ => exact absurd h hz
section
variable {A : Around} {as as' : List Addr} {s : Shared} {st st' : St} {v it : MV} {h h' : Heap} {I : Addr} {l : List MV}
theorem nth_at {α : Type} {z e : α} {c : MV → α} {k : Nat} (hi : it = .tup l ∨ ∃ j, it = .lst j ∧ st[j]? = some l) : nth it k st z e c = match l[k]? with | none => e | some x => c x := by
  rcases hi with rfl | ⟨j, rfl, hj⟩
  · show ob (getN l k) e c = _
    rw [getN_eq, ob_eq]
    cases l[k]? <;> rfl
  · show ob (getN st j) z (fun l => ob (getN l k) e c) = _
    rw [getN_eq, hj]
    show ob (getN l k) e c = _
    rw [getN_eq, ob_eq]
    cases l[k]? <;> rfl
theorem draw_run (hh : A.handled = none) (hi : it = .tup l ∨ ∃ j, it = .lst j ∧ st[j]? = some l) (h0 : B.h₀.get? I = none) : ∀ (n k : Nat) (s : Shared) (Q : List Value → Shared → Prop) (E : Value → Shared → Prop), ItAt B as s.heap it I k → Inv B as st s.heap → k + n ≤ l.length →
    (∀ us s', VRels B as s'.heap ((l.drop k).take n) us → Go B [I] as as st s s' → ItAt B as s'.heap it I (k + n) → Q us s') → wpAny (model prog w) A (draw (.ref I) n) Q E s
  | 0, k, s, Q, E, t, hI, _, hQ => by
    show wpAny _ _ (pure []) Q E s
    exact wpAny_pure (hQ [] s (by rw [List.take_zero]; exact .nil) (.refl _ hI) t)
  | n + 1, k, s, Q, E, t, hI, hk, hQ => by
    have hlt : k < l.length := by (first | lia | omega)
    show wpAny _ _ (pyNext (.ref I) >>= _) Q E s
    have e : nth it k st (none : Option MV) none some = some l[k] := by rw [nth_at hi, List.getElem?_eq_getElem hlt]
    refine wpAny_bind (iter_next hh t hI h0 e (fun q => nomatch q) (fun m u s1 e1 G1 t1 r1 => ?_) (fun h' e1 hx => ?_))
    · cases e1
      refine wpAny_bind (wpAny_holding (draw_run hh hi h0 n (k + 1) s1 _ _ t1 G1.inv (by (first | lia | omega)) fun us s2 r2 G2 t2 => wpAny_pure ?_))
      refine hQ _ s2 ?_ (G1.trans G2) (by rw [show k + (n + 1) = k + 1 + n by (first | lia | omega)]; exact t2)
      rw [List.drop_eq_getElem_cons hlt, List.take_succ_cons]
      exact .cons (r1.stp G2.stp G2.pre) r2
    · cases e1
theorem unpack_run {u : Value} {n : Nat} {Q : List Value → Shared → Prop} {E : Value → Shared → Prop} (hh : A.handled = none) (hi : v = .tup l ∨ ∃ j, v = .lst j ∧ st[j]? = some l) (r : VRel B as s.heap v u) (hI : Inv B as st s.heap) (hn : l.length = n)
    (hQ : ∀ us s', VRels B as s'.heap l us → Go B [] as as st s s' → Q us s') : wpAny (model prog w) A (unpackItems u n none) Q E s := by
  have hit : wpAny (model prog w) A (notIterableAtAll u) (fun b s' => b = false ∧ s' = s) E s := by
    rcases hi with rfl | ⟨j, rfl, hj⟩
    · obtain ⟨_, _, rfl, ht, rl⟩ := r.tup_i
      unfold notIterableAtAll
      exact wpAny_bind (wpAny_specialOf ht.typeIs PySem.F.slot_tuple_iter.lookup (wpAny_pure ⟨rfl, rfl⟩))
    · obtain ⟨_, rfl, e⟩ := r.lst_i
      obtain ⟨items, hl⟩ := hI.isList (List.mem_of_getElem? e)
      unfold notIterableAtAll
      exact wpAny_bind (wpAny_specialOf hl.typeIs PySem.F.slot_list_iter.lookup (wpAny_pure ⟨rfl, rfl⟩))
  unfold unpackItems
  refine wpAny_bind (wpAny_mono hit (fun b s' hb => ?_) fun _ _ x => x)
  obtain ⟨rfl, rfl⟩ := hb
  simp only [Bool.false_eq_true, if_false]
  refine wpAny_bind (wpAny_holding (iter_start hI r (by rcases hi with rfl | ⟨j, rfl, _⟩; exact .inl ⟨_, rfl⟩; exact .inr (.inl ⟨_, rfl⟩)) fun s1 G1 t1 => ?_))
  have hnI : s'.heap.get? s'.heap.objs.size = none := hNoneAt _
  generalize s'.heap.objs.size = I at hnI t1 ⊢
  have h0 : B.h₀.get? I = none := hI.new0 hnI
  refine wpAny_bind (wpAny_holding (draw_run hh hi h0 n 0 s1 _ _ t1 G1.inv (by (first | lia | omega)) fun us s2 r2 G2 t2 => ?_))
  rw [List.drop_zero, List.take_of_length_le (by (first | lia | omega))] at r2
  rw [if_neg (by rw [← r2.length]; (first | lia | omega))]
  obtain ⟨o, ho, io⟩ := t2.obj
  have e : nth v (0 + n) st (some (MV.none)) none some = none := by rw [nth_at hi, List.getElem?_eq_none (by (first | lia | omega))]
  refine wpAny_bind (wpAny_holding (iter_next hh t2 G2.inv h0 e (fun q => nomatch q) (fun m u s1 e1 G1 t1 r1 => nomatch e1) (fun h' e1 hx => ?_)))
  simp only [Option.isSome_none, Bool.false_eq_true, if_false]
  have im : Imm s2.heap h' := fun a o' e i => hx a o' (by rintro rfl; rw [ho] at e; cases e; exact io.no.1 i) e
  have G12 : Go B ([] ++ [I]) as as st s' s2 := G1.of0.trans G2
  exact wpAny_pure (hQ us _ (r2.imm im (List.prefix_refl _)) (G12.endIter hnI h0 ho io hx))
end

inductive Tgts (C : Ctx) : List Nat → List Expr → Prop
  | nil : Tgts C [] []
  | cons {k : Nat} {x : Str} {p : Pos} {kd : NameKind} {ts : List Nat} {es : List Expr} : C.nm[k]? = some (x, kd) → (kd = .local ∨ kd = .cell) → Tgts C ts es → Tgts C (k :: ts) (.Name x p :: es)
theorem Tgts.each {ts : List Nat} {es : List Expr} (T : Tgts C ts es) (env : Env) : (assignEach es env).length = ts.length ∧ (assignEach es env).findIdx? (·.1) = none := by
  induction T with
  | nil => exact ⟨rfl, rfl⟩
  | cons _ _ _ ih =>
    refine ⟨congrArg Nat.succ ih.1, ?_⟩
    show List.findIdx? (·.1) ((false, _) :: assignEach _ env) = none
    rw [List.findIdx?_cons, ih.2]
    rfl
theorem assign_many {A : Around} {as : List Addr} {st : St} {env : Env} {E : Value → Shared → Prop} (F : Fresh B env) : ∀ {ts : List Nat} {es : List Expr} {l : List MV} {us : List Value} {ρ : Sl} {s : Shared} {Q : Unit → Shared → Prop}, Tgts C ts es → VRels B as s.heap l us → l.length = ts.length → EnvR B C ρ [] env as s.heap → Inv B as st s.heap →
    (∀ s', Go B (Ws env) as as st s s' → EnvR B C (setsL ρ ts l) [] env as s'.heap → Q () s') → wpAny (model prog w) A (assignInOrder ((assignEach es env).map (·.2)) us) Q E s
  | _, _, _, _, _, _, _, .nil, .nil, _, V, I, h => wpAny_pure (h _ (.refl _ I) V)
  | _, _, _, _, _, _, _, .cons hk hkd T, .cons r rl, hl, V, I, h =>
    wpAny_bind (wpAny_holding (wpAny_assign_Name (store_name hk (hkd.imp id fun q => ⟨q, rfl⟩) V I F r fun s1 G1 V1 =>
      assign_many F T (rl.stp G1.stp G1.pre) (Nat.succ.inj hl) V1 G1.inv fun s2 G2 V2 => h s2 (G1.trans G2) V2)))
  | _, _, _, _, _, _, _, .nil, .cons _ _, hl, _, _, _ => nomatch hl
  | _, _, _, _, _, _, _, .cons _ _ _, .nil, hl, _, _, _ => nomatch hl
theorem exec_Assign_gen {targets : List Expr} {value : Expr} {pos : Pos} {env : Env} (h1 : swapsWithSole targets value pos.line env = pure false) : exec (.Assign targets value pos) env = (do
    standAt pos
    let v ← eval value env
    assignStores env v (← swappedStores targets value env) (List.map (fun p : Bool × (Value → Sem Unit) => p.2) (assignEach targets env))) := by
  show (do
    standAt pos
    if ← swapsWithSole targets value pos.line env then do
      evalThenUse value env fun v => assignAll v (List.map (fun p : Bool × (Value → Sem Unit) => p.2) (assignEach targets env))
      (pure Flow.next : Sem Flow)
    else do
      let v ← eval value env
      assignStores env v (← swappedStores targets value env) (List.map (fun p : Bool × (Value → Sem Unit) => p.2) (assignEach targets env))) = _
  rw [h1]; rfl
theorem SX.asg2 {e : Expr} {f : FE} {k1 k2 : Nat} {es : List Expr} {p : Pos} (h1 : SE prog w B C e f) (T : Tgts C [k1, k2] es) : SX prog w B C (.Assign es e p) (sAsg [k1, k2] f) := by
  intro n c hc ρ st h A env as s R V F I
  refine RV.b_nel (k := fun v st => setAllK ρ v [k1, k2] fun ρ => RX.nx ρ st) h fun v st1 e1 e2 _ => ?_
  have e3 : sAsg [k1, k2] f c ρ st = .nx ((ρ.set k1 (some v)).set k2 (some v)) st1 := by
    refine e2.trans ?_
    show setK ρ k1 (some v) (fun ρ => setK ρ k2 (some v) fun ρ => RX.nx ρ st1) = _
    rw [setK_eq, setK_eq]
  rw [e3]
  cases T with
  | cons hk1 hd1 T =>
  cases T with
  | cons hk2 hd2 T =>
  cases T
  rw [exec_Assign_gen rfl]
  refine wpAny_bind (wpAny_standAt (wpAny_bind (wp_to (h1 n c hc _ _ _ _ _ e1 A env as s R V I) ?_)))
  refine Pst.all fun u s1 as1 G1 r1 => ?_
  refine wpAny_bind (wpAny_of_eq (a := none) rfl ?_)
  refine wpAny_bind ?_
  refine wpAny_bind (wpAny_holding (wpAny_assign_Name (store_name hk1 (hd1.imp id fun q => ⟨q, rfl⟩) (V.stp G1.stp G1.pre) G1.inv F r1 fun s2 G2 V2 => ?_)))
  refine wpAny_assign_Name (store_name hk2 (hd2.imp id fun q => ⟨q, rfl⟩) V2 G2.inv F (r1.stp G2.stp G2.pre) fun s3 G3 V3 => wpAny_pure ⟨rfl, as1, (G1.of0.trans G2).trans G3, V3⟩)
theorem SX.asgT {e t : Expr} {f : FE} {ts : List Nat} {es : List Expr} {p p' : Pos} (h1 : SE prog w B C e f) (T : Tgts C ts es) (ht : t = .List es p' ∨ ∃ q, t = .Tuple es q p') (hs : ∀ env, swapsWithSole [t] e p.line env = pure false)
    (hsw : ∀ env : Env, env.scope.kind = .function → env.scope.names = C.nm → swappedStores [t] e env = pure none) : SX prog w B C (.Assign [t] e p) (sAsgT ts f) := by
  intro n c hc ρ st h A env as s R V F I
  refine RV.b_nel (k := fun v st => unpV v st .no fun l => setManyK ρ ts l .no fun ρ => RX.nx ρ st) h fun v st1 e1 e2 h => ?_
  obtain ⟨l, hl, h3⟩ := unpV_ok (y := unpV v st1 .no fun l => setManyK ρ ts l .no fun ρ => RX.nx ρ st1) rfl (fun q => h q.symm)
  obtain ⟨hlen, h4⟩ := setMany_ok (fun q => h q.symm) h3
  have e3 : sAsgT ts f c ρ st = .nx (setsL ρ ts l) st1 := e2.trans h4.symm
  rw [e3]
  rw [exec_Assign_gen (hs env)]
  refine wpAny_bind (wpAny_standAt (wpAny_bind (wp_to (h1 n c hc _ _ _ _ _ e1 A env as s R V I) ?_)))
  refine Pst.all fun u s1 as1 G1 r1 => ?_
  refine wpAny_bind (wpAny_of_eq (hsw env V.kind V.names) ?_)
  have V1 := V.stp G1.stp G1.pre
  have fin : wpAny (model prog w) A (unpack u (assignEach es env)) (fun _ s2 => Xst B C env as (.nx (setsL ρ ts l) st1) s .next s2) No s1 := by
    unfold unpack
    rw [(T.each env).1, (T.each env).2]
    refine wpAny_bind (wpAny_holding (unpack_run R.hd hl r1 G1.inv hlen fun us s2 r2 G2 => ?_))
    exact assign_many F T r2 hlen (V1.stp G2.stp G2.pre) G2.inv fun s3 G3 V3 => ⟨rfl, as1, (G1.of0.trans G2.of0).trans G3, V3⟩
  show wpAny _ A (assignAll u ((assignEach [t] env).map (·.2)) >>= fun _ => (pure Flow.next : Sem Flow)) _ No s1
  have fin2 : wpAny (model prog w) A (assign t env u) (fun _ s2 => Xst B C env as (.nx (setsL ρ ts l) st1) s .next s2) No s1 := by
    rcases ht with rfl | ⟨q, rfl⟩
    · rw [arm_assign_List]
      exact wpAny_bind (wpAny_standAt fin)
    · rw [arm_assign_Tuple]
      exact wpAny_bind (wpAny_standAt fin)
  refine wpAny_bind (wpAny_mono (Q := fun _ s2 => Xst B C env as (.nx (setsL ρ ts l) st1) s .next s2) ?_ (fun _ s2 q => wpAny_pure q) fun _ _ x => x)
  rcases ht with rfl | ⟨q, rfl⟩
  · exact fin2
  · exact fin2
end Mine
end OfMSound19
noncomputable section OfMSound20
set_option autoImplicit false
set_option linter.unusedVariables false
namespace Mine
open PySem PySem.Calls PyProof.Rows PySem.SeqAt PySem.W
variable {prog : Program} {w : World} {B : Base} {C : Ctx}

inductive Nms (C : Ctx) : List Nat → List Str → Prop
  | nil : Nms C [] []
  | cons {k : Nat} {x : Str} {ts : List Nat} {xs : List Str} : C.nm[k]? = some (x, .local) → Nms C ts xs → Nms C (k :: ts) (x :: xs)
theorem bind_many {A : Around} {as : List Addr} {st : St} {env : Env} {E : Value → Shared → Prop} (F : Fresh B env) : ∀ {ts : List Nat} {xs : List Str} {l : List MV} {us : List Value} {ρ : Sl} {s : Shared} {Q : Unit → Shared → Prop}, Nms C ts xs → VRels B as s.heap l us → l.length = ts.length → EnvR B C ρ [] env as s.heap → Inv B as st s.heap →
    (∀ s', Go B (Ws env) as as st s s' → EnvR B C (setsL ρ ts l) [] env as s'.heap → Q () s') → wpAny (model prog w) A (assignInOrder (xs.map fun n => bindName env n) us) Q E s
  | _, _, _, _, _, _, _, .nil, .nil, _, V, I, h => wpAny_pure (h _ (.refl _ I) V)
  | _, _, _, _, _, _, _, .cons hk T, .cons r rl, hl, V, I, h =>
    wpAny_bind (wpAny_holding (wpAny_bindName (store_name hk (.inl rfl) V I F r fun s1 G1 V1 =>
      bind_many F T (rl.stp G1.stp G1.pre) (Nat.succ.inj hl) V1 G1.inv fun s2 G2 V2 => h s2 (G1.trans G2) V2)))
  | _, _, _, _, _, _, _, .nil, .cons _ _, hl, _, _, _ => nomatch hl
  | _, _, _, _, _, _, _, .cons _ _, .nil, hl, _, _, _ => nomatch hl
theorem VRels.reverse {as : List Addr} {h : Heap} {l : List MV} {us : List Value} (r : VRels B as h l us) : VRels B as h l.reverse us.reverse := by
  induction l generalizing us with
  | nil => (first | obtain rfl := r.nil_i | obtain ⟨_, rfl⟩ := r.int_i | obtain rfl := r.none_i | obtain rfl := r.bool_i | obtain ⟨_, rfl⟩ := r.lin_i | obtain ⟨_, rfl, _⟩ := r.flt_i | obtain ⟨_, rfl⟩ := r.str_i | obtain rfl := r.fn_i | obtain rfl := r.bi_i | cases r); exact .nil
  | cons x l ih =>
    obtain ⟨_, _, rfl, x, r⟩ := r.cons_i
    rw [List.reverse_cons, List.reverse_cons]
    exact (ih r).append (.cons x .nil)
theorem setsL_rev2 {a b : Nat} (hab : a ≠ b) {ρ : Sl} {l : List MV} (hl : l.length = 2) : setsL ρ [b, a] l.reverse = setsL ρ [a, b] l := by
  match l, hl with
  | [x, y], _ => exact (List.set_comm _ _ hab).symm
theorem setsL_rev3 {a b c : Nat} (hab : a ≠ b) (hac : a ≠ c) (hbc : b ≠ c) {ρ : Sl} {l : List MV} (hl : l.length = 3) : setsL ρ [c, b, a] l.reverse = setsL ρ [a, b, c] l := by
  match l, hl with
  | [x, y, z], _ =>
    show ((ρ.set c (some z)).set b (some y)).set a (some x) = ((ρ.set a (some x)).set b (some y)).set c (some z)
    rw [List.set_comm (some z) (some y) (Ne.symm hbc), List.set_comm (some z) (some x) (Ne.symm hac), List.set_comm (some y) (some x) (Ne.symm hab)]
theorem SX.asgW {e t : Expr} {f : FE} {ts : List Nat} {xs : List Str} {p : Pos} (h1 : SE prog w B C e f) (T : Nms C ts.reverse xs.reverse) (hx : xs.length = ts.length) (hr : ∀ (ρ : Sl) (l : List MV), l.length = ts.length → setsL ρ ts.reverse l.reverse = setsL ρ ts l)
    (hs : ∀ env, swapsWithSole [t] e p.line env = pure false) (hsw : ∀ env : Env, env.scope.kind = .function → env.scope.names = C.nm → swappedStores [t] e env = pure (some xs)) : SX prog w B C (.Assign [t] e p) (sAsgT ts f) := by
  intro n c hc ρ st h A env as s R V F I
  refine RV.b_nel (k := fun v st => unpV v st .no fun l => setManyK ρ ts l .no fun ρ => RX.nx ρ st) h fun v st1 e1 e2 h => ?_
  obtain ⟨l, hl, h3⟩ := unpV_ok (y := unpV v st1 .no fun l => setManyK ρ ts l .no fun ρ => RX.nx ρ st1) rfl (fun q => h q.symm)
  obtain ⟨hlen, h4⟩ := setMany_ok (fun q => h q.symm) h3
  have e3 : sAsgT ts f c ρ st = .nx (setsL ρ ts l) st1 := e2.trans h4.symm
  rw [e3]
  rw [exec_Assign_gen (hs env)]
  refine wpAny_bind (wpAny_standAt (wpAny_bind (wp_to (h1 n c hc _ _ _ _ _ e1 A env as s R V I) ?_)))
  refine Pst.all fun u s1 as1 G1 r1 => ?_
  refine wpAny_bind (wpAny_of_eq (hsw env V.kind V.names) ?_)
  have V1 := V.stp G1.stp G1.pre
  show wpAny _ A (do
    rule "assign.swapped-stores"
    let items ← unpackItems u xs.length none
    assignInOrder (xs.reverse.map fun n => bindName env n) items.reverse
    (pure Flow.next : Sem Flow)) _ No s1
  refine wpAny_bind (wpAny_rule (wpAny_bind (unpack_run R.hd hl r1 G1.inv (hlen.trans hx.symm) fun us s2 r2 G2 => ?_)))
  refine wpAny_bind (bind_many F T r2.reverse (by rw [List.length_reverse, List.length_reverse]; exact hlen) (V1.stp G2.stp G2.pre) G2.inv fun s3 G3 V3 => wpAny_pure ?_)
  rw [hr ρ l hlen] at V3
  exact ⟨rfl, as1, (G1.of0.trans G2.of0).trans G3, V3⟩

theorem setItem_run {A : Around} {s : Shared} {l : Addr} {items : Array Value} {ne j : Nat} {k : Int} (hk : k = (j : Int)) {t : Tok} {v : Value} {Q : Unit → Shared → Prop} {E : Value → Shared → Prop} (hl0 : s.heap.get? l = some { cls := .type "list", dict := none, data := .seq items ne, slots := #[] })
    (hj : j < items.size) (hz : j ≤ 4096)
    (hQ : Q () { s with heap := s.heap.update l (Obj.mapSeq (·.setIfInBounds j v)) }) : wpAny (model prog w) A (setItem (.ref l) (.int k t) v) Q E s := by
  have hl : s.heap.IsList l items := ⟨_, hl0, rfl, ne, rfl⟩
  have hfit : Builtin.List.listFitsIndex k = true := by rw [hk]; exact fits_nat hz
  clear hz
  unfold setItem
  refine wpAny_holding ?_
  refine wpAny_bind (wpAny_sequenceKey hl.typeIs (by decide) ?_)
  refine wpAny_bind (wpAny_callSpecial?_slot (name := Str.ofString "__setitem__") hl.typeIs slot_list_setitem
    (wpAny_call_entry slot_list_setitem hl.typeIs entry_list_setitem ?_ (args_list_setitem _ _ _)))
  show wpAny _ _ (Builtin.List.listSubscript? (.int k t) >>= _) _ _ s
  refine wpAny_bind (wpAny_listSubscript_int hfit ?_)
  clear hfit
  subst hk
  have hx' : items[j]? = some items[j] := Array.getElem?_eq_getElem hj
  show wpAny _ _ ((seqItemAt l j >>= fun r => pure (r.map (j, ·))) >>= _) _ _ s
  refine wpAny_bind (wpAny_bind (wpAny_seqItemAt hl0 rfl (wpAny_pure ?_)))
  rw [hx']
  show wpAny _ _ (setSeqItemAt l j v >>= _) _ _ s
  refine wpAny_bind (wpAny_setSeqItemAt hl0 rfl ?_)
  first
    | exact wpAny_bind (wpAny_pure (wpAny_pure ⟨.none, rfl, wpAny_pure hQ⟩))
    | exact wpAny_pure ⟨.none, rfl, wpAny_pure hQ⟩
theorem SX.set {e o i : Expr} {f fo fi : FE} {q p : Pos} (h1 : SE prog w B C e f) (h2 : SE prog w B C o fo) (h3 : SE prog w B C i fi) (hs : ∀ env, swapsWith e (some (.Subscript o i q)) p.line env = pure false) :
    SX prog w B C (.Assign [.Subscript o i q] e p) (sSet fo fi f) := by
  intro n c hc ρ st h A env as s R V F I
  generalize hr : sSet fo fi f c ρ st = r at h ⊢
  have hn : RX.no ≠ r := fun q => h q.symm
  refine RV.b_el hr hn fun v st1 e1 hr => ?_
  refine RV.b_el hr hn fun lv st2 e2 hr => ?_
  obtain ⟨k, hk, hr⟩ := lstV_ok hr hn
  subst hk
  refine RV.b_el hr hn fun jv st3 e3 hr => ?_
  obtain ⟨jn, hj, hr⟩ := intV_ok hr hn
  subst hj
  cases jn with
  | negSucc _ => exact absurd hr hn
  | ofNat m =>
  have hr : (bsel (plain v) (ob (getN st3 k) .no fun vs => lenK vs fun len => bsel (Nat.ble (Nat.succ m) len) (bsel (Nat.ble m 4096) (setK vs m v fun vs => setK st3 k vs fun st => .nx ρ st) .no) .no) .no) = r := hr
  refine bsel_el hr hn fun hp hr => ?_
  refine ob_el hr hn fun l hl hr => ?_
  rw [lenK_eq] at hr
  refine bsel_el hr hn fun hm hr => ?_
  refine bsel_el hr hn fun hz hr => ?_
  rw [setK_eq, setK_eq] at hr
  subst hr
  have hm := ble_iff.mp hm
  have hz := ble_iff.mp hz
  refine wpAny_Assign_Subscript (wp_to (h1 n c hc _ _ _ _ _ e1 A env as s R V I) ?_) (hs env)
  refine Pst.all fun u1 s1 as1 G1 r1 => ?_
  refine wp_to (h2 n c hc _ _ _ _ _ e2 A env as1 s1 R (V.stp G1.stp G1.pre) G1.inv) ?_
  refine Pst.all fun u2 s2 as2 G2 r2 => ?_
  have G12 := G1.trans G2
  refine wp_to (h3 n c hc _ _ _ _ _ e3 A env as2 s2 R (V.stp G12.stp G12.pre) G12.inv) ?_
  refine Pst.all fun u3 s3 as3 G3 r3 => ?_
  have G := G12.trans G3
  obtain ⟨a, rfl, e⟩ := r2.lst_i
  obtain ⟨t, rfl⟩ := r3.int_i
  rw [getN_eq] at hl
  obtain ⟨a', items, ha, ⟨ne, hg⟩, rl⟩ := G.inv.tlist hl
  have e2 : as3[k]? = some a := by
    cases (VRel.lst (B := B) (h := s2.heap) e).stp G3.stp G3.pre with
    | lst e2 => exact e2
  rw [e2] at ha; cases ha
  have hlen := rl.length
  have r1' := (r1.stp G2.stp G2.pre).stp G3.stp G3.pre
  refine setItem_run (j := m) rfl hg (by rw [List.size_toArray, ← hlen]; exact hm) hz ?_
  have G4 := upd_post (u := .none) (l := l) (t := s3.toks) (f := (·.setIfInBounds m u1)) (items' := items.set m u1) (l' := l.set m v) G.inv e2 hg (by simp) (rl.set (plain_rel hp r1'))
  exact ⟨rfl, as3, G.of0.trans G4.of0, V.stp (G.trans G4).stp G.pre⟩
end Mine
end OfMSound20
noncomputable section OfMSound21
set_option autoImplicit false
set_option linter.unusedVariables false
namespace Mine
open PySem PySem.Calls PyProof.Rows PySem.SeqAt PySem.W
variable {prog : Program} {w : World} {B : Base} {C : Ctx}

section
variable {A : Around} {as as' : List Addr} {s : Shared} {st st' : St} {v it : MV} {h h' : Heap} {I : Addr} {k : Nat}
theorem Inv.endObj {o : Obj} (hI : Inv B as st h) (h0 : B.h₀.get? I = none) (ho : h.get? I = some o) (hi : ¬ ImmO o) (hm : ¬ MutO o) (hx : Heap.ExtBut I h h') : Inv B as st h' := by
  have im : Imm h h' := fun a o' e i => hx a o' (by rintro rfl; rw [ho] at e; cases e; exact hi i) e
  have hT := fun t => hI.tabNe2 ho hi hm t
  refine ⟨hI.len, hI.nodup, fun i a l e1 e2 => ?_, hI.above, fun b o' hb e => hx b o' (by rintro rfl; rw [h0] at e; cases e) (hI.old b o' hb e), fun t => (hI.tab t).ext hx (hT t).1 (hT t).2 im⟩
  obtain ⟨items, ⟨n, hl⟩, r⟩ := hI.lists i a l e1 e2
  exact ⟨items, ⟨n, hx a _ (by rintro rfl; exact hI.notMem ho hm (List.mem_of_getElem? e1)) hl⟩, r.imm im (List.prefix_refl _)⟩
theorem Go.endObj {W N : List Addr} {s' : Shared} {o : Obj} {h' : Heap} (G : Go B (W ++ N) as as' st' s s') (hN : ∀ a ∈ N, s.heap.get? a = none) (hm : I ∈ N) (h0 : B.h₀.get? I = none) (ho : s'.heap.get? I = some o) (hi : ¬ ImmO o) (hmu : ¬ MutO o) (hx : Heap.ExtBut I s'.heap h') : Go B W as as' st' s { s' with heap := h' } := by
  have ne : ∀ a o, s.heap.get? a = some o → a ≠ I := by rintro a o e rfl; rw [hN _ hm] at e; cases e
  refine ⟨G.pre, G.fresh, ⟨fun a o e => ?_, fun a o e i => hx a o (ne a o e) (G.stp.imm a o e i), fun a o e m w => hx a o (ne a o e) (G.stp.keep a o e m ?_)⟩, G.inv.endObj h0 ho hi hmu hx, ⟨G.sme.1, G.sme.2⟩⟩
  · obtain ⟨o', e'⟩ := G.stp.live a o e
    exact ⟨o', hx a o' (ne a o e) e'⟩
  · intro hm'
    rcases List.mem_append.mp hm' with hm' | hm'
    · exact w hm'
    · rw [hN a hm'] at e; cases e
theorem iter_self {Q : Value → Shared → Prop} {E : Value → Shared → Prop} (t : ItAt B as s.heap it I k) (hq : Q (.ref I) s) : wpAny (model prog w) A (pyIter (.ref I)) Q E s := by
  cases it with
  | tup l =>
    obtain ⟨_, _, h1, _⟩ := t
    exact wpAny_pyIter_tupleiter h1 hq
  | lst j =>
    obtain ⟨_, _, h1, _⟩ := t
    exact wpAny_pyIter_listiter h1 hq
  | rng a n c =>
    obtain ⟨m, _, _, h1⟩ := t
    have hT : s.TypeIs (.ref I) "range_iterator" := ⟨_, h1, rfl⟩
    refine wpAny_pyIter_slot hT PySem.F.slot_range_iterator_iter (wpAny_call_entry PySem.F.slot_range_iterator_iter hT PySem.F.entry_range_iterator_iter ?_ (PySem.F.args_range_iterator_iter_1 _))
    show wpAny _ _ (ret (.ref I)) _ _ s
    exact wpAny_pure ⟨_, rfl, "range_iterator", _, hT, PySem.F.slot_range_iterator_next.lookup, hq⟩
  | _ => exact t.elim
theorem store_local {ρ up : Sl} {env : Env} {k : Nat} {x : Str} {u : Value} {Q : Unit → Shared → Prop} {E : Value → Shared → Prop} (e : C.nm[k]? = some (x, .local)) (V : EnvR B C ρ up env as s.heap) (I : Inv B as st s.heap) (F : B.h₀.get? env.locals = none) (r : VRel B as s.heap v u)
    (h : ∀ s', Go B [env.locals] as as st s s' → EnvR B C (ρ.set k (some v)) up env as s'.heap → Q () s') : wpAny (model prog w) A (storeName env x u) Q E s := by
  have hl : env.kindOf x = some .local := by unfold Env.kindOf; rw [V.names]; exact lookup_of_get V.dist e
  obtain ⟨m, hn, hv⟩ := V.ns
  refine wpAny_storeName_local hl hn (fun h' hn' hs => h _ ?_ (V.setLocal e hn hv hn' hs r)) (by rw [V.kind]; rfl)
  obtain ⟨o, ho, hi, hm⟩ := ns_obj hn
  have hl' : ∃ o', h'.get? env.locals = some o' := by obtain ⟨o', e, _⟩ := ns_obj hn'; exact ⟨o', e⟩
  exact ⟨List.prefix_refl _, fun _ h => .inl h, .same hs ho hi (.inl (List.mem_singleton.mpr rfl)) hl', I.same hs ho hi hm F hl', ⟨rfl, rfl⟩⟩
end

noncomputable def relNames (ns : List (Str × NameKind)) (nm : List (Str × NameKind)) : List (Str × NameKind) := ns.map fun p => if (p.2 == .free && nm.lookup p.1 == some .cell) then (p.1, .cell) else p
noncomputable def clFold (c : Str → Addr) : List (Str × NameKind) → List (Str × Addr) → List (Str × Addr)
  | [], cs => cs
  | p :: r, cs => if p.2 == .free then clFold c r ((p.1, c p.1) :: cs) else clFold c r cs
theorem clFold_mem {c : Str → Addr} : ∀ {ns : List (Str × NameKind)} {cs : List (Str × Addr)} {p : Str × Addr}, p ∈ clFold c ns cs → p ∈ cs ∨ (p.2 = c p.1 ∧ (p.1, NameKind.free) ∈ ns)
  | [], _, _, h => .inl h
  | q :: r, cs, p, h => by
    have h1 : p ∈ (if q.2 == .free then clFold c r ((q.1, c q.1) :: cs) else clFold c r cs) := h
    split at h1
    · rename_i hq
      rcases clFold_mem h1 with h2 | ⟨h2, h3⟩
      · rcases List.mem_cons.mp h2 with rfl | h2
        · refine .inr ⟨rfl, ?_⟩
          have : q.2 = .free := by simpa using hq
          rw [← this]; exact List.mem_cons_self
        · exact .inl h2
      · exact .inr ⟨h2, List.mem_cons_of_mem _ h3⟩
    · rcases clFold_mem h1 with h2 | ⟨h2, h3⟩
      · exact .inl h2
      · exact .inr ⟨h2, List.mem_cons_of_mem _ h3⟩
theorem clFold_has {c : Str → Addr} {x : Str} : ∀ {ns : List (Str × NameKind)} {cs : List (Str × Addr)}, ((x, NameKind.free) ∈ ns ∨ ∃ a, (x, a) ∈ cs) → ∃ a, (x, a) ∈ clFold c ns cs
  | [], _, h => by
    rcases h with h | h
    · cases h
    · exact h
  | q :: r, cs, h => by
    show ∃ a, (x, a) ∈ (if q.2 == .free then clFold c r ((q.1, c q.1) :: cs) else clFold c r cs)
    split
    · apply clFold_has
      rcases h with h | ⟨a, h⟩
      · rcases List.mem_cons.mp h with h | h
        · exact .inr ⟨c q.1, by rw [← h]; exact List.mem_cons_self⟩
        · exact .inl h
      · exact .inr ⟨a, List.mem_cons_of_mem _ h⟩
    · rename_i hq
      apply clFold_has
      rcases h with h | h
      · rcases List.mem_cons.mp h with h | h
        · exact absurd (by rw [← h]; rfl) hq
        · exact .inl h
      · exact .inr h
theorem lookup_some_mem {α : Type} : ∀ {l : List (Str × α)} {x : Str} {a : α}, l.lookup x = some a → (x, a) ∈ l
  | [], _, _, h => by cases h
  | (y, b) :: r, x, a, h => by
    rw [List.lookup_cons] at h
    cases hxy : (x == y) with
    | true =>
      rw [hxy] at h; cases h
      rw [eq_of_beq hxy]; exact List.mem_cons_self
    | false => rw [hxy] at h; exact List.mem_cons_of_mem _ (lookup_some_mem h)
theorem lookup_isSome {α : Type} : ∀ {l : List (Str × α)} {x : Str} {a : α}, (x, a) ∈ l → ∃ b, l.lookup x = some b
  | (y, b) :: r, x, a, h => by
    rw [List.lookup_cons]
    cases hxy : (x == y) with
    | true => exact ⟨b, rfl⟩
    | false =>
      rcases List.mem_cons.mp h with h | h
      · cases h; rw [beq_self_eq_true] at hxy; cases hxy
      · exact lookup_isSome h
theorem closure_run {scope : Scope} {env : Env} (hf : ∀ p ∈ scope.names, p.2 = .free → ∃ a, env.cells.lookup p.1 = some a) : closureFor scope env = pure (clFold (fun x => (env.cells.lookup x).getD 0) scope.names []) := by
  have e : closureFor scope env = (forIn scope.names ([] : List (Str × Addr)) (fun (p : Str × NameKind) (cs : List (Str × Addr)) => (do
        if p.2 == .free then do
          let c ← cellOf env p.1
          pure (ForInStep.yield ((p.1, c) :: cs))
        else pure (ForInStep.yield cs) : Sem (ForInStep (List (Str × Addr))))) >>= fun cs => pure cs) := by
    unfold closureFor
    rfl
  rw [e]
  have key : ∀ (ns : List (Str × NameKind)) (cs : List (Str × Addr)), (∀ p ∈ ns, p.2 = .free → ∃ a, env.cells.lookup p.1 = some a) →
      (forIn ns cs fun (p : Str × NameKind) (cs : List (Str × Addr)) => do
        if p.2 == .free then do
          let c ← cellOf env p.1
          pure (ForInStep.yield ((p.1, c) :: cs))
        else pure (ForInStep.yield cs) : Sem (List (Str × Addr))) = pure (clFold (fun x => (env.cells.lookup x).getD 0) ns cs) := by
    intro ns
    induction ns with
    | nil => intro cs _; rfl
    | cons p r ih =>
      intro cs h
      rw [List.forIn_cons]
      have ihr := fun cs => ih cs fun q hq => h q (List.mem_cons_of_mem _ hq)
      cases hp : (p.2 == NameKind.free) with
      | true =>
        obtain ⟨a, ha⟩ := h p List.mem_cons_self (by simpa using hp)
        have hc : cellOf env p.1 = pure a := by unfold cellOf; rw [ha]
        simp only [if_true, hc, pure_bind]
        rw [ihr]
        congr 1
        show _ = (if p.2 == .free then _ else _)
        rw [hp, if_pos rfl]
        simp only [ha, Option.getD_some]
      | false =>
        simp only [Bool.false_eq_true, if_false, pure_bind]
        rw [ihr]
        congr 1
        show _ = (if p.2 == .free then _ else _)
        rw [hp]; rfl
  rw [key scope.names [] hf]
  rfl
end Mine
end OfMSound21
noncomputable section OfMSound22
set_option autoImplicit false
set_option linter.unusedVariables false
namespace Mine
open PySem PySem.Calls PyProof.Rows PySem.SeqAt PySem.W
variable {prog : Program} {w : World} {B : Base} {C : Ctx}

theorem compLoop_listT {A : Around} {R : Result → Shared → Prop} {s : Shared} {elt target iter : Expr} {scope : Scope} {pos : Pos} {it acc : Value} {env : Env} (I : Nat → Shared → Prop)
    (turn : ∀ n s, I n s → wpAny (model prog w) A (pyNext it) (fun r s₁ => match r with
      | none => R (.ok .next) s₁
      | some v => wpAny (model prog w) A (letOwnedTupleGo target it v) (fun _ s₁' => wpAny (model prog w) A (assign target env v) (fun _ s₂ => wpAny (model prog w) A (eval elt env) (fun x s₃ =>
          wpAny (model prog w) A (call (.builtin "list.append") [acc, x]) (fun _ s₄ => ∃ m, m < n ∧ I m s₄) (notedBy (model prog w) A env fun e s' => R (.error e) s') s₃)
          (notedBy (model prog w) A env fun e s' => R (.error e) s') s₂) (notedBy (model prog w) A env fun e s' => R (.error e) s') s₁') (notedBy (model prog w) A env fun e s' => R (.error e) s') s₁) (notedBy (model prog w) A env fun e s' => R (.error e) s') s)
    (n : Nat) (h : I n s) : codeAny (model prog w) A (.compLoop (.ListComp elt [⟨target, iter, [], 0⟩] scope pos) 0 it acc env) R s := by
  refine codeAny_loop rfl I (fun n s hI => ?_) n h
  show wpAny _ _ ((compTurn (.ListComp elt [⟨target, iter, [], 0⟩] scope pos) 0 it acc env).onRaise (fun x => do noteFrame x env; theTreesLotGoes x)) _ _ s
  refine wpAny_noted ?_
  rw [compTurn_list1]
  refine wpAny_bind (wpAny_standAt (wpAny_bind (wpAny_mono (turn n s hI) (fun r s₁ h₁ => ?_) fun _ _ h' => h')))
  cases r with
  | none => exact wpAny_pure h₁
  | some v =>
    refine wpAny_bind (wpAny_mono h₁ (fun _ s₁' h₁' => ?_) fun _ _ h' => h')
    exact wpAny_bind (wpAny_mono h₁' (fun _ s₂ h₂ => wpAny_bind (wpAny_bind (wpAny_mono h₂ (fun x s₃ h₃ => wpAny_bind (wpAny_mono h₃
      (fun _ s₄ h₄ => wpAny_pure (wpAny_pure ⟨rfl, h₄⟩)) fun _ _ h' => h')) fun _ _ h' => h'))) fun _ _ h' => h')
section
variable {A : Around} {as as' : List Addr} {s : Shared} {st st' : St} {v it : MV} {h h' : Heap} {I : Addr} {k : Nat} {env : Env} {ρ up : Sl}
theorem compLoop_listC {A : Around} {R : Result → Shared → Prop} {s : Shared} {elt target iter : Expr} {scope : Scope} {pos : Pos} {it acc : Value} {env : Env} (I : Nat → Shared → Prop)
    (turn : ∀ n s, I n s → ∀ (E : Value → Shared → Prop) (N : Shared → Prop) (K : Value → Shared → Prop), (∀ s', R (.ok .next) s' → N s') →
      (∀ v s', wpAny (model prog w) A (letOwnedTupleGo target it v) (fun _ s₁' => wpAny (model prog w) A (assign target env v) (fun _ s₂ => wpAny (model prog w) A (eval elt env) (fun x s₃ =>
          wpAny (model prog w) A (call (.builtin "list.append") [acc, x]) (fun _ s₄ => ∃ m, m < n ∧ I m s₄) E s₃) E s₂) E s₁') E s' → K v s') →
      wpAny (model prog w) A (pyNext it) (fun r s₁ => match r with
        | none => N s₁
        | some v => K v s₁) E s)
    (n : Nat) (h : I n s) : codeAny (model prog w) A (.compLoop (.ListComp elt [⟨target, iter, [], 0⟩] scope pos) 0 it acc env) R s :=
  compLoop_listT I (fun n s hI => turn n s hI _ _ _ (fun _ h => h) fun _ _ h => h) n h
theorem letOwned_run {target : Expr} {u : Value} {Q : Unit → Shared → Prop} {E : Value → Shared → Prop} {o : Obj} (ho : s.heap.get? I = some o) (io : iterObj o) (hq : Q () s) : wpAny (model prog w) A (letOwnedTupleGo target (.ref I) u) Q E s := by
  obtain ⟨c, d, dt, sl⟩ := o
  obtain ⟨vs, hd, hc⟩ := io
  simp only at hd hc
  subst hd
  have key : ∀ a : Addr, wpAny (model prog w) A (do
      let o ← load I
      match o.cls, o.data with
      | .type n, .fields vs =>
        if ["enumerate", "zip", "dict_itemiterator", "dict_reverseitemiterator", "odict_iterator", "itertools.zip_longest", "itertools.pairwise"].contains n && vs[0]? == some (rawInt a) then
          rule "for.unpacks-the-owned-tuple"
          updateField I 0 .none
      | _, _ => pure ()) Q E s := fun a => by
    refine wpAny_bind (wpAny_load ho ?_)
    rcases hc with rfl | rfl | rfl <;> exact wpAny_pure hq
  unfold letOwnedTupleGo
  cases target <;> first | exact wpAny_pure hq | skip
  all_goals
    cases u <;> first | exact wpAny_pure hq | exact key _
inductive Tgl (C : Ctx) : List Nat → List Expr → Prop
  | nil : Tgl C [] []
  | cons {k : Nat} {x : Str} {p : Pos} {ts : List Nat} {es : List Expr} : C.nm[k]? = some (x, .local) → Tgl C ts es → Tgl C (k :: ts) (.Name x p :: es)
theorem Tgl.each {ts : List Nat} {es : List Expr} (T : Tgl C ts es) (env : Env) : (assignEach es env).length = ts.length ∧ (assignEach es env).findIdx? (·.1) = none := by
  induction T with
  | nil => exact ⟨rfl, rfl⟩
  | cons _ _ ih =>
    refine ⟨congrArg Nat.succ ih.1, ?_⟩
    show List.findIdx? (·.1) ((false, _) :: assignEach _ env) = none
    rw [List.findIdx?_cons, ih.2]
    rfl
theorem assign_manyL {E : Value → Shared → Prop} (F : B.h₀.get? env.locals = none) : ∀ {ts : List Nat} {es : List Expr} {l : List MV} {us : List Value} {ρ : Sl} {s : Shared} {Q : Unit → Shared → Prop}, Tgl C ts es → VRels B as s.heap l us → l.length = ts.length → EnvR B C ρ up env as s.heap → Inv B as st s.heap →
    (∀ s', Go B [env.locals] as as st s s' → EnvR B C (setsL ρ ts l) up env as s'.heap → Q () s') → wpAny (model prog w) A (assignInOrder ((assignEach es env).map (·.2)) us) Q E s
  | _, _, _, _, _, _, _, .nil, .nil, _, V, I, h => wpAny_pure (h _ (.refl _ I) V)
  | _, _, _, _, _, _, _, .cons hk T, .cons r rl, hl, V, I, h =>
    wpAny_bind (wpAny_holding (wpAny_assign_Name (store_local hk V I F r fun s1 G1 V1 =>
      assign_manyL F T (rl.stp G1.stp G1.pre) (Nat.succ.inj hl) V1 G1.inv fun s2 G2 V2 => h s2 (G1.trans G2) V2)))
  | _, _, _, _, _, _, _, .nil, .cons _ _, hl, _, _, _ => nomatch hl
  | _, _, _, _, _, _, _, .cons _ _, .nil, hl, _, _, _ => nomatch hl
noncomputable def TgtC (C : Ctx) (ts : List Nat) (isT : Bool) (t : Expr) : Prop := match isT with
  | false => ∃ k x p, ts = [k] ∧ t = .Name x p ∧ C.nm[k]? = some (x, .local)
  | true => ∃ es q p, t = .Tuple es q p ∧ Tgl C ts es
theorem target_run {β : Type} {ts : List Nat} {isT : Bool} {t : Expr} {u : Value} {z y : β} {c : Sl → β} {Q : Unit → Shared → Prop} {E : Value → Shared → Prop} (hh : A.handled = none) (T : TgtC C ts isT t) (e : setTargetK ρ ts isT v z c = y) (hz : z ≠ y) (r : VRel B as s.heap v u) (V : EnvR B C ρ up env as s.heap) (I : Inv B as st s.heap) (F : B.h₀.get? env.locals = none)
    (h : ∀ ρ' s', c ρ' = y → Go B [env.locals] as as st s s' → EnvR B C ρ' up env as s'.heap → Q () s') : wpAny (model prog w) A (assign t env u) Q E s := by
  cases isT with
  | false =>
    obtain ⟨k, x, p, rfl, rfl, hk⟩ := T
    have e1 : setK ρ k (some v) c = y := e
    rw [setK_eq] at e1
    exact wpAny_assign_Name (store_local hk V I F r fun s1 G1 V1 => h _ s1 e1 G1 V1)
  | true =>
    obtain ⟨es, q, p, rfl, T⟩ := T
    have e1 : tupV v z (fun l => setManyK ρ ts l z c) = y := e
    obtain ⟨l, rfl, e2⟩ := tupV_ok e1 hz
    obtain ⟨hl, e3⟩ := setMany_ok hz e2
    rw [arm_assign_Tuple]
    refine wpAny_bind (wpAny_standAt ?_)
    unfold unpack
    rw [(T.each env).1, (T.each env).2]
    refine wpAny_bind (wpAny_holding (unpack_run hh (.inl rfl) r I hl fun us s2 r2 G2 => ?_))
    exact assign_manyL F T r2 hl (V.stp G2.stp G2.pre) G2.inv fun s3 G3 V3 => h _ s3 e3 (G2.of0.trans G3) V3
end
end Mine
end OfMSound22
noncomputable section OfMSound23
set_option autoImplicit false
set_option linter.unusedVariables false
namespace Mine
open PySem PySem.Calls PyProof.Rows PySem.SeqAt PySem.W
variable {prog : Program} {w : World} {B : Base} {C : Ctx}

noncomputable def compCtx (ns : List (Str × NameKind)) (C : Ctx) : Ctx := ⟨relNames ns C.nm, C.nm.map (·.1), false⟩
structure CompOk (scope : Scope) (C : Ctx) : Prop where
  kind : scope.kind = .function
  dist : ((relNames scope.names C.nm).map (·.1)).Nodup
  nocell : ∀ p ∈ scope.names, p.2 ≠ .cell
  free : ∀ p ∈ scope.names, p.2 = .free → C.nm.lookup p.1 = some .cell
  loc : ∀ p ∈ scope.names, p.2 = .local → scope.names.lookup p.1 = some .local
theorem relabel_names {scope : Scope} {env : Env} (hk : env.scope.kind = .function) (hn : env.scope.names = C.nm) : (relabel scope env).names = relNames scope.names C.nm := by
  unfold relabel relNames
  refine List.map_congr_left fun p _ => ?_
  obtain ⟨n, k⟩ := p
  show (if (k == NameKind.free && env.scope.kind == ScopeKind.function && env.kindOf n == some NameKind.cell) then (n, NameKind.cell) else (n, k)) = if (k == NameKind.free && C.nm.lookup n == some NameKind.cell) then (n, NameKind.cell) else (n, k)
  unfold Env.kindOf
  rw [hk, hn]
  simp
theorem get_of_lookup {nm : List (Str × NameKind)} {x : Str} {kd : NameKind} (h : nm.lookup x = some kd) : ∃ k : Nat, nm[k]? = some (x, kd) := by
  obtain ⟨k, hk, e⟩ := List.getElem_of_mem (lookup_some_mem h)
  exact ⟨k, by rw [List.getElem?_eq_getElem hk, e]⟩
theorem rel_cell {scope : Scope} (K : CompOk scope C) {x : Str} (h : (x, NameKind.cell) ∈ relNames scope.names C.nm) : (x, NameKind.free) ∈ scope.names ∧ C.nm.lookup x = some .cell := by
  obtain ⟨p, hp, e⟩ := List.mem_map.mp h
  split at e
  · rename_i hc
    cases e
    rw [Bool.and_eq_true, beq_iff_eq, beq_iff_eq] at hc
    refine ⟨?_, hc.2⟩
    have : p = (p.1, NameKind.free) := by rw [← hc.1]
    rw [← this]; exact hp
  · subst e
    exact absurd rfl (K.nocell _ hp)
noncomputable def cellF (env : Env) : Str → Addr := fun x => (env.cells.lookup x).getD 0
theorem cl_good {scope : Scope} {ρ up : Sl} {env : Env} {as : List Addr} {h : Heap} (K : CompOk scope C) (V : EnvR B C ρ up env as h) : (∀ p ∈ scope.names, p.2 = .free → ∃ a, env.cells.lookup p.1 = some a) ∧ (∀ p ∈ clFold (cellF env) scope.names [], env.cells.lookup p.1 = some p.2) := by
  have h1 : ∀ p ∈ scope.names, p.2 = .free → ∃ a, env.cells.lookup p.1 = some a := fun p hp hf => by
    obtain ⟨k, hk⟩ := get_of_lookup (K.free p hp hf)
    obtain ⟨c, _, e, _⟩ := V.celx k p.1 hk
    exact ⟨c, e⟩
  refine ⟨h1, fun p hp => ?_⟩
  rcases clFold_mem hp with h2 | ⟨h2, h3⟩
  · cases h2
  · obtain ⟨a, ha⟩ := h1 _ h3 rfl
    have e : cellF env p.1 = a := by unfold cellF; rw [ha]; rfl
    rw [h2, e]; exact ha
theorem cl_lookup {scope : Scope} {ρ up : Sl} {env : Env} {as : List Addr} {h : Heap} (K : CompOk scope C) (V : EnvR B C ρ up env as h) {x : Str} {c : Addr} (e : (clFold (cellF env) scope.names []).lookup x = some c) : env.cells.lookup x = some c :=
  (cl_good K V).2 _ (lookup_some_mem e)
theorem cl_has {scope : Scope} {ρ up : Sl} {env : Env} {as : List Addr} {h : Heap} (K : CompOk scope C) (V : EnvR B C ρ up env as h) {x : Str} (hx : (x, NameKind.free) ∈ scope.names) {c : Addr} (e : env.cells.lookup x = some c) : (clFold (cellF env) scope.names []).lookup x = some c := by
  obtain ⟨a, ha⟩ := clFold_has (c := cellF env) (cs := []) (.inl hx)
  obtain ⟨b, hb⟩ := lookup_isSome ha
  rw [hb]
  have := cl_lookup K V hb
  rw [e] at this; cases this; rfl
theorem comp_env {scope : Scope} {ρ up : Sl} {env : Env} {as : List Addr} {h : Heap} {L : Addr} {k : Nat} {m : Str → Option Value} (K : CompOk scope C) (V : EnvR B C ρ up env as h) (hn : h.Ns L m) : EnvR B (compCtx scope.names C) (nones k) ρ (compEnvC scope (clFold (cellF env) scope.names []) L env) as h := by
  have hnm : (relabel scope env).names = relNames scope.names C.nm := relabel_names V.kind V.names
  refine ⟨K.kind, hnm, K.dist, ⟨m, hn, fun k' x v e1 e2 => absurd e2 (nones_get _ _)⟩, fun k' x v e1 e2 => absurd e2 (nones_get _ _), fun k' x v e1 e2 e3 => ?_, V.glo, V.bui, fun k' x e => ?_, fun x y c e1 e2 => V.cinj x y c (cl_lookup K V e1) (cl_lookup K V e2), fun a ha => ?_, fun e => nomatch e⟩
  · obtain ⟨hf, hc⟩ := rel_cell K (lookup_some_mem e3)
    have e4 : (C.nm.map (·.1))[k']? = some x := e1
    rw [List.getElem?_map] at e4
    cases hk : C.nm[k']? with
    | none => rw [hk] at e4; cases e4
    | some p =>
      rw [hk] at e4; cases e4
      have hkd : p.2 = .cell := by
        have := lookup_of_get V.dist (k := k') (x := p.1) (kd := p.2) hk
        rw [hc] at this; exact (Option.some.inj this).symm
      obtain ⟨c, u, e5, i, r⟩ := V.cel k' p.1 v (by rw [hk, ← hkd]) e2
      exact ⟨c, u, cl_has K V hf e5, i, r⟩
  · obtain ⟨hf, hc⟩ := rel_cell K (List.mem_of_getElem? e)
    obtain ⟨k2, hk2⟩ := get_of_lookup hc
    obtain ⟨c, v₀, e5, i⟩ := V.celx k2 x hk2
    exact ⟨c, v₀, cl_has K V hf e5, i⟩
  · rcases List.mem_cons.mp ha with rfl | ha
    · obtain ⟨o, _, _, ho, _⟩ := hn
      exact ⟨o, ho⟩
    · obtain ⟨p, hp, rfl⟩ := List.mem_map.mp ha
      exact V.wlive _ (List.mem_cons_of_mem _ (lookup_mem ((cl_good K V).2 p hp)))
end Mine
end OfMSound23
noncomputable section OfMSound24
set_option autoImplicit false
set_option linter.unusedVariables false
namespace Mine
open PySem PySem.Calls PyProof.Rows PySem.SeqAt PySem.W
variable {prog : Program} {w : World} {B : Base} {C : Ctx}

theorem EnvR.stpIter {ρ up : Sl} {env : Env} {as as' : List Addr} {h h' : Heap} {I : Addr} {o : Obj} (V : EnvR B C ρ up env as h) (s : Stp [I] h h') (p : as <+: as') (ho : h.get? I = some o) (io : iterObj o) : EnvR B C ρ up env as' h' := by
  have cI : ∀ c v, h.IsCell c v → c ∉ [I] := fun c v ⟨o', ho', hd'⟩ hm => by
    rw [List.mem_singleton.mp hm, ho] at ho'; cases ho'
    obtain ⟨vs, hd, _⟩ := io
    rw [hd] at hd'; cases hd'
  obtain ⟨m, hn, hv⟩ := V.ns
  refine ⟨V.kind, V.names, V.dist, ⟨m, s.ns hn (fun hm => ?_), fun k x v e1 e2 => ?_⟩, fun k x v e1 e2 => ?_, fun k x v e1 e2 e3 => ?_, V.glo, V.bui, fun k x e => ?_, V.cinj, fun a ha => ?_, V.lmc⟩
  · obtain ⟨o', es, ep, ho', hd', _⟩ := hn
    rw [List.mem_singleton.mp hm, ho] at ho'; cases ho'
    obtain ⟨vs, hd, _⟩ := io
    rw [hd] at hd'; cases hd'
  · obtain ⟨u, e, r⟩ := hv k x v e1 e2
    exact ⟨u, e, r.stp s p⟩
  · obtain ⟨c, u, e, i, r⟩ := V.cel k x v e1 e2
    exact ⟨c, u, e, s.cell i (cI _ _ i), r.stp s p⟩
  · obtain ⟨c, u, e, i, r⟩ := V.upr k x v e1 e2 e3
    exact ⟨c, u, e, s.cell i (cI _ _ i), r.stp s p⟩
  · obtain ⟨c, v, e1, e2⟩ := V.celx k x e
    exact ⟨c, v, e1, s.cell e2 (cI _ _ e2)⟩
  · obtain ⟨o, e⟩ := V.wlive a ha
    exact s.live a o e
theorem comp_core {scope : Scope} {elt target iter : Expr} {pos : Pos} {ts : List Nat} {isT : Bool} {felt : FE} {k n : Nat} {c : Calls} {ρ up ρr : Sl} {env : Env} {A : Around} {it : MV} {st1 str : St} {as1 : List Addr} {s1 : Shared} {x : Value} {RR : Value → Addr → Result → Shared → Prop} {E : Value → Shared → Prop}
    (K : CompOk scope C) (T : TgtC (compCtx scope.names C) ts isT target) (h2 : SE prog w B (compCtx scope.names C) elt felt) (hc : SC prog w B n c) (R : Room n A) (r1 : VRel B as1 s1.heap it x) (V1 : EnvR B C ρ up env as1 s1.heap) (I1 : Inv B as1 st1 s1.heap)
    (hrun : clRun ts isT it felt c ρ st1.length 200 0 (nones k) (st1 ++ [[]]) = .ok ρr str)
    (hRR : ∀ D L s' as' m', s1.heap.get? L = none → B.h₀.get? L = none → Go B [] as1 as' str s1 s' → s'.heap.Ns L m' → as'[st1.length]? = some D → RR (.ref D) L (.ok .next) s') :
    wpAny (model prog w) A (pyIter x) (fun iv s₂ => wpAny (model prog w) A (newList []) (fun acc s₃ => wpAny (model prog w) A (newFunctionEnv scope env.globals (clFold (cellF env) scope.names []) [] env.qual none .none (some env)) (fun cenv s₄ =>
      codeAny (model prog w) A (.compStart (.ListComp elt [⟨target, iter, [], 0⟩] scope pos) 0 iv acc { cenv with scope := relabel scope env }) (RR acc cenv.locals) s₄) E s₃) E s₂) E s1 := by
  have hk0 : nth it 0 (st1 ++ [[]]) .no (.ok (nones k) (st1 ++ [[]])) (fun v => setTargetK (nones k) ts isT v .no fun ρ' => (felt c ρ' ρ (st1 ++ [[]])).b .no fun x st => bsel (plain x) (ob (getN st st1.length) .no fun l => lenK l fun n => bsel (Nat.ble n 4096)
    (appK l [x] fun l => setK st st1.length l fun st => forceN (Nat.succ 0) fun i => clRun ts isT it felt c ρ st1.length 199 i ρ' st) .no) .no) = .ok ρr str := hrun
  refine iter_start I1 r1 (nth_kind hk0 ns) fun s2 G2 t2 => ?_
  have hnI : s1.heap.get? s1.heap.objs.size = none := hNoneAt _
  generalize s1.heap.objs.size = I at hnI t2 ⊢
  have h0I : B.h₀.get? I = none := I1.new0 hnI
  have V2 := V1.stp G2.stp G2.pre
  refine wpAny_newObj_type ?_
  have P3 : Pst B as1 (st1 ++ [[]]) (.lst st1.length) s2 (.ref s2.heap.objs.size) { s2 with heap := s2.heap.push { cls := .type "list", dict := none, data := .seq ([] : List Value).toArray 0, slots := #[] }, toks := s2.toks } := Pst.list (n := 0) G2.inv rfl .nil
  obtain ⟨as3, G3, r3⟩ := P3
  have hD : as3[st1.length]? = some s2.heap.objs.size := by
    exact r3.lst_r
  generalize s2.heap.objs.size = D at hD G3 ⊢
  generalize hs3 : ({ s2 with heap := s2.heap.push { cls := .type "list", dict := none, data := .seq ([] : List Value).toArray 0, slots := #[] }, toks := s2.toks } : Shared) = s3 at G3
  have V3 := V2.stp G3.stp G3.pre
  have t3 := t2.stp G3.stp G3.pre (fun h => nomatch h)
  refine wpAny_newFunctionEnv K.nocell (by intro y hy; simp at hy) (fun h₁ hns₁ hsb₁ => ?_) K.kind
  have hnL : s3.heap.get? s3.heap.objs.size = none := hNoneAt _
  have hk4 : ∀ a o, s3.heap.get? a = some o → h₁.get? a = some o := fun a o e => (hsb₁.2 a (Nat.ne_of_lt (Heap.lt_size e))).trans (Heap.get?_push_of_some _ e)
  generalize s3.heap.objs.size = L at hns₁ hsb₁ hnL ⊢
  have h0L : B.h₀.get? L = none := G3.inv.new0 hnL
  have G4 : Go B [] as3 as3 (st1 ++ [[]]) s3 { s3 with heap := h₁, toks := s3.toks + ([] : List (Str × Value)).length } := ⟨List.prefix_refl _, fun _ h => .inl h, .all hk4, G3.inv.keeps hk4, ⟨rfl, rfl⟩⟩
  generalize hs4 : ({ s3 with heap := h₁, toks := s3.toks + ([] : List (Str × Value)).length } : Shared) = s4 at G4
  have hns4 : s4.heap.Ns L (fun x => ([] : List (Str × Value)).reverse.lookup x) := by rw [← hs4]; exact hns₁
  have V4 := V3.stp G4.stp G4.pre
  have V4' : EnvR B (compCtx scope.names C) (nones k) ρ (compEnvC scope (clFold (cellF env) scope.names []) L env) as3 s4.heap := comp_env K V4 hns4
  have t4 := t3.stp G4.stp G4.pre (fun h => nomatch h)
  have hsL : s1.heap.get? L = none := (G2.trans G3).stp.dead hnL
  have G14 : Go B [] as1 as3 (st1 ++ [[]]) s1 s4 := (G2.trans G3).trans G4
  have hN : ∀ a ∈ [L, I], s1.heap.get? a = none := fun a ha => by
    rcases List.mem_cons.mp ha with rfl | ha
    · exact hsL
    · rw [List.mem_singleton.mp ha]; exact hnI
  have loop : codeAny (model prog w) A (.compLoop (.ListComp elt [⟨target, iter, [], 0⟩] scope pos) 0 (.ref I) (.ref D) (compEnvC scope (clFold (cellF env) scope.names []) L env)) (RR (.ref D) L) s4 := by
    refine compLoop_listC (fun m s' => Ex4 fun i ρ3 st3 as3' => And5 (clRun ts isT it felt c ρ st1.length m i ρ3 st3 = .ok ρr str) (Go B ([] ++ [L, I]) as1 as3' st3 s1 s') (EnvR B (compCtx scope.names C) ρ3 ρ (compEnvC scope (clFold (cellF env) scope.names []) L env) as3' s'.heap) (ItAt B as3' s'.heap it I i) (as3'[st1.length]? = some D)) ?_ 200
      ⟨0, nones k, _, as3, hrun, G14.of0, V4', t4, hD⟩
    rintro m s5 ⟨i, ρ5, st5, as5, e5, G5, V5, t5, hD5⟩ E' N K' hN' hK'
    cases m with
    | zero => cases e5
    | succ m =>
      have e5 : nth it i st5 .no (.ok ρ5 st5) (fun v => setTargetK ρ5 ts isT v .no fun ρ' => (felt c ρ' ρ st5).b .no fun x st => bsel (plain x) (ob (getN st st1.length) .no fun l => lenK l fun n => bsel (Nat.ble n 4096)
        (appK l [x] fun l => setK st st1.length l fun st => forceN (Nat.succ i) fun i => clRun ts isT it felt c ρ st1.length m i ρ' st) .no) .no) = .ok ρr str := e5
      obtain ⟨o, ho, io⟩ := t5.obj
      refine iter_next R.hd t5 G5.inv h0I e5 ns (fun mv u6 s6 e6 G6 t6 r6 => ?_) (fun h' e6 hx => ?_)
      · have V6 := V5.stpIter G6.stp G6.pre ho io
        obtain ⟨o6, ho6, io6⟩ := t6.obj
        refine hK' _ _ (letOwned_run ho6 io6 ?_)
        refine target_run R.hd T e6 ns r6 V6 G6.inv h0L fun ρ7 s7 e7 G7 V7 => ?_
        refine RV.b_el e7 ns fun xv st8 e8 e9 => ?_
        refine bsel_el e9 ns fun hp e10 => ?_
        refine ob_el e10 ns fun l hl e11 => ?_
        rw [lenK_eq] at e11
        refine bsel_el e11 ns fun hz e12 => ?_
        rw [appK_eq, setK_eq, forceN_eq] at e12
        have hz := ble_iff.mp hz
        have LI : L ≠ I := by
          rintro rfl
          obtain ⟨_, hn, _⟩ := V5.ns
          obtain ⟨o', es, ep, ho', hd', _⟩ := hn
          have ho' : s5.heap.get? L = some o' := ho'
          rw [ho] at ho'; cases ho'
          obtain ⟨vs, hd, _⟩ := io
          rw [hd] at hd'; cases hd'
        have t7 := t6.stp G7.stp G7.pre (fun hm => LI (List.mem_singleton.mp hm).symm)
        have G57 : Go B ([] ++ [L, I]) as1 as5 st5 s1 s7 := (G5.trans (G6.mono fun a ha => List.mem_cons_of_mem _ ha)).trans (G7.mono fun a ha => by rw [List.mem_singleton.mp ha]; exact List.mem_cons_self)
        refine wp_any (h2 n c hc _ _ _ _ _ e8 A _ as5 s7 R V7 G57.inv) ?_
        refine Pst.all fun u8 s8 as8 G8 r8 => ?_
        rw [getN_eq] at hl
        obtain ⟨a', items, ha, ⟨kk, hg⟩, rl⟩ := G8.inv.tlist hl
        have hD8 : as8[st1.length]? = some D := by
          obtain ⟨rr, hrr⟩ := G8.pre
          rw [← hrr, List.getElem?_append_left (List.getElem?_eq_some_iff.mp hD5).1]; exact hD5
        rw [hD8] at ha; cases ha
        refine append_run hg (by rw [← rl.length]; exact hz) ?_
        have G9 := upd_post (u := .none) (l := l) (t := s8.toks) (f := (·.push u8)) (items' := items ++ [u8]) (l' := l ++ [xv]) G8.inv hD8 hg (by simp) (rl.append (.cons (plain_rel hp r8) .nil))
        have G89 := G8.trans G9
        exact ⟨m, Nat.lt_succ_self m, i + 1, ρ7, _, as8, e12, G57.trans G89.of0, V7.stp G89.stp G89.pre, t7.stp G89.stp G89.pre (fun h => nomatch h), hD8⟩
      · cases e6
        have Gf := G5.endObj hN (List.mem_cons_of_mem _ List.mem_cons_self) h0I ho io.no.1 io.no.2 hx
        obtain ⟨m', hn, _⟩ := V5.ns
        refine hN' _ (hRR D L _ as5 m' hsL h0L Gf ?_ hD5)
        obtain ⟨o', es, ep, ho', hd', rr⟩ := hn
        exact ⟨o', es, ep, hx _ _ (by
          intro q
          have ho' : s5.heap.get? L = some o' := ho'
          have q : L = I := q
          rw [q, ho] at ho'; cases ho'
          obtain ⟨vs, hd, _⟩ := io
          rw [hd] at hd'; cases hd') ho', hd', rr⟩
  exact codeAny_compStart_list loop (iter_self t4 loop)
end Mine
end OfMSound24
noncomputable section OfMSound25
set_option autoImplicit false
set_option linter.unusedVariables false
namespace Mine
open PySem PySem.Calls PyProof.Rows PySem.SeqAt PySem.W
variable {prog : Program} {w : World} {B : Base} {C : Ctx}

theorem SE.comp {elt target iter : Expr} {scope : Scope} {pos : Pos} {ts : List Nat} {isT : Bool} {fs felt : FE} {k : Nat} (h1 : SE prog w B C iter fs) (h2 : SE prog w B (compCtx scope.names C) elt felt) (K : CompOk scope C) (T : TgtC (compCtx scope.names C) ts isT target)
    (hs : ∀ env x, foldedSetIterable iter env x = pure x) : SE prog w B C (.ListComp elt [⟨target, iter, [], 0⟩] scope pos) (cComp k ts isT fs felt) := by
  intro n c hc ρ up st v st' h A env as s R V I
  refine RV.b_el h nv fun it st1 g1 h => ?_
  rw [lenK_eq, appK_eq] at h
  refine RS.b_el h nv fun ρr str g2 h => ?_
  cases h
  rw [eval_ListComp]
  refine wpAny_comprehension_free (use := none) rfl (hs env) (closure_run (cl_good K V).1) K.kind K.loc (wp_to (h1 n c hc _ _ _ _ _ g1 A env as s R V I) ?_)
  refine Pst.all fun x s1 as1 G1 r1 => ?_
  refine comp_core (RR := fun acc L => compPost (model prog w) A No none (Pst B as st' (.lst st1.length) s) acc L) K T h2 hc R r1 (V.stp G1.stp G1.pre) G1.inv g2 fun D L s' as' m' hL h0L G hn hD => ?_
  refine ⟨m', hn, fun h' hs' => ?_⟩
  obtain ⟨o, ho, hi, hm⟩ := ns_obj hn
  have G2 : Go B [] as1 as' st' s1 { s' with heap := h' } := (G.of0 : Go B ([] ++ [L]) as1 as' st' s1 s').endObj (fun a ha => by rw [List.mem_singleton.mp ha]; exact hL) (List.mem_singleton.mpr rfl) h0L ho hi hm hs'.extBut
  exact ⟨as', G1.trans G2, .lst hD⟩
theorem EnvR.endObj {ρ up : Sl} {env : Env} {as : List Addr} {h h' : Heap} {I : Addr} {o : Obj} (V : EnvR B C ρ up env as h) (ho : h.get? I = some o) (hi : ¬ ImmO o) (hx : Heap.ExtBut I h h') (hI : I ∉ Ws env) (hcell : ∀ c v, h.IsCell c v → c ≠ I) : EnvR B C ρ up env as h' := by
  have im : Imm h h' := fun a o' e i => hx a o' (by rintro rfl; rw [ho] at e; cases e; exact hi i) e
  have hc : ∀ c v, h.IsCell c v → h'.IsCell c v := fun c v q => by
    have := hcell c v q
    obtain ⟨o', ho', hd'⟩ := q
    exact ⟨o', hx c o' this ho', hd'⟩
  obtain ⟨m, hn, hv⟩ := V.ns
  refine ⟨V.kind, V.names, V.dist, ⟨m, ?_, fun k x v e1 e2 => ?_⟩, fun k x v e1 e2 => ?_, fun k x v e1 e2 e3 => ?_, V.glo, V.bui, fun k x e => ?_, V.cinj, fun a ha => by
    obtain ⟨o', e⟩ := V.wlive a ha
    exact ⟨o', hx a o' (by rintro rfl; exact hI ha) e⟩, V.lmc⟩
  · obtain ⟨o', es, ep, ho', hd', r⟩ := hn
    exact ⟨o', es, ep, hx _ _ (by rintro q; exact hI (q ▸ List.mem_cons_self)) ho', hd', r⟩
  · obtain ⟨u, e, r⟩ := hv k x v e1 e2
    exact ⟨u, e, r.imm im (List.prefix_refl _)⟩
  · obtain ⟨c, u, e, i, r⟩ := V.cel k x v e1 e2
    exact ⟨c, u, e, hc _ _ i, r.imm im (List.prefix_refl _)⟩
  · obtain ⟨c, u, e, i, r⟩ := V.upr k x v e1 e2 e3
    exact ⟨c, u, e, hc _ _ i, r.imm im (List.prefix_refl _)⟩
  · obtain ⟨c, v, e1, e2⟩ := V.celx k x e
    exact ⟨c, v, e1, hc _ _ e2⟩
theorem SX.asgC {elt target iter : Expr} {scope : Scope} {pos : Pos} {ts : List Nat} {isT : Bool} {fs felt : FE} {k j : Nat} {x : Str} {q p : Pos} (h1 : SE prog w B C iter fs) (h2 : SE prog w B (compCtx scope.names C) elt felt) (K : CompOk scope C) (T : TgtC (compCtx scope.names C) ts isT target)
    (hs : ∀ env x, foldedSetIterable iter env x = pure x) (hj : C.nm[j]? = some (x, .local)) (hsw : ∀ env : Env, env.scope.kind = .function → env.scope.names = C.nm → swapsWith (.ListComp elt [⟨target, iter, [], 0⟩] scope pos) (some (.Name x q)) p.line env = pure true) :
    SX prog w B C (.Assign [.Name x q] (.ListComp elt [⟨target, iter, [], 0⟩] scope pos) p) (sAsg [j] (cComp k ts isT fs felt)) := by
  intro n c hc ρ st h A env as s R V F I
  refine RV.b_nel (k := fun v st => setAllK ρ v [j] fun ρ => RX.nx ρ st) h fun v st' g0 e2 _ => ?_
  have e3 : sAsg [j] (cComp k ts isT fs felt) c ρ st = .nx (ρ.set j (some v)) st' := e2.trans (setK_eq ρ j (some v) fun ρ => RX.nx ρ st')
  rw [e3]
  refine RV.b_el g0 nv fun it st1 g1 g0 => ?_
  rw [lenK_eq, appK_eq] at g0
  refine RS.b_el g0 nv fun ρr str g2 g0 => ?_
  cases g0
  rw [exec_Assign_Name_used _ _ _ _ (hsw env V.kind V.names)]
  refine wpAny_bind (wpAny_standAt ?_)
  refine wpAny_bind (m := evalThenUse _ _ _) ?_
  show wpAny _ A (comprehension (.ListComp elt [⟨target, iter, [], 0⟩] scope pos) scope env (firstIterPos [⟨target, iter, [], 0⟩] pos) (newList []) (firstAsync [⟨target, iter, [], 0⟩]) (firstIter [⟨target, iter, [], 0⟩] env) (some (assign (.Name x q) env)) >>= fun _ => pure ()) _ _ _
  refine wpAny_bind (wpAny_comprehension_free (use := some (assign (.Name x q) env)) (Q := fun _ s' => wpAny (model prog w) A (pure ()) _ No s') rfl (hs env) (closure_run (cl_good K V).1) K.kind K.loc (wp_to (h1 n c hc _ _ _ _ _ g1 A env as s R V I) ?_))
  refine Pst.all fun xx s1 as1 G1 r1 => ?_
  have V1 := V.stp G1.stp G1.pre
  refine comp_core (RR := fun acc L => compPost (model prog w) A No (some (assign (.Name x q) env)) _ acc L) K T h2 hc R r1 V1 G1.inv g2 fun D L s' as' m' hL h0L G hn hD => ?_
  have V2 := V1.stp G.stp G.pre
  have hLW : L ∉ Ws env := fun hm => by
    obtain ⟨o, e⟩ := V1.wlive L hm
    rw [hL] at e; cases e
  refine wpAny_assign_Name (store_name hj (.inl rfl) V2 G.inv F (.lst (i := st1.length) hD) fun s3 G3 V3 => ?_)
  have hn3 := G3.stp.ns hn hLW
  refine ⟨_, hn3, fun h' hs' => ?_⟩
  obtain ⟨o, ho, hi, hm⟩ := ns_obj hn3
  have G4 : Go B (Ws env) as1 as' st' s1 { s3 with heap := h' } := ((G.of0.trans G3).mono (fun a ha => List.mem_append_left _ ha) : Go B (Ws env ++ [L]) as1 as' st' s1 s3).endObj (fun a ha => by rw [List.mem_singleton.mp ha]; exact hL) (List.mem_singleton.mpr rfl) h0L ho hi hm hs'.extBut
  exact wpAny_pure (wpAny_pure ⟨rfl, as', G1.of0.trans G4, V3.endObj ho hi hs'.extBut hLW fun c v q => ns_ne_cell hn3 q⟩)
end Mine
end OfMSound25
noncomputable section OfMSound26
set_option autoImplicit false
set_option linter.unusedVariables false
namespace Mine
open PySem PySem.Calls PyProof.Rows PySem.SeqAt PySem.W
variable {prog : Program} {w : World} {B : Base} {C : Ctx}

noncomputable def padL : List MV → Nat → Sl
  | [], n => nones n
  | v :: vs, n => some v :: padL vs (Nat.pred n)
theorem padK_eq {β : Type} : ∀ (vs : List MV) (n : Nat) (c : Sl → β), padK vs n c = c (padL vs n)
  | [], _, _ => rfl
  | v :: vs, n, c => padK_eq vs (Nat.pred n) fun r => c (some v :: r)
noncomputable def FillTo (fd : Fn) (as : List MV) (kw : Option MV) (ρ : Sl) : Prop := ∃ last : List MV, (match kw with | none => last = (if fd.kw = true then [MV.none] else []) | some k => fd.kw = true ∧ last = [k]) ∧
  as.length ≤ fd.np ∧ fd.np ≤ as.length + fd.dflt.length ∧ ρ = padL (as ++ (fd.dflt.drop (as.length + fd.dflt.length - fd.np) ++ last)) fd.nsl
theorem fillK_ok {β : Type} {fd : Fn} {as last : List MV} {z y : β} {c : Sl → β} (h : fillK fd as last z c = y) (hz : z ≠ y) : as.length ≤ fd.np ∧ fd.np ≤ as.length + fd.dflt.length ∧ c (padL (as ++ (fd.dflt.drop (as.length + fd.dflt.length - fd.np) ++ last)) fd.nsl) = y := by
  unfold fillK at h
  rw [lenK_eq, lenK_eq] at h
  refine bsel_el h hz fun h1 h => ?_
  refine bsel_el h hz fun h2 h => ?_
  rw [appK_eq, appK_eq, padK_eq, dropN_eq] at h
  exact ⟨ble_iff.mp h1, ble_iff.mp h2, h⟩
theorem callF_ok {fns : Fns} {c : Calls} {n : Nat} {as : List MV} {kw : Option MV} {st st' : St} {v : MV} (h : callF fns c n as kw st = .ok v st') : ∃ fd ρ, fns n = some fd ∧ FillTo fd as kw ρ ∧ runF c fd ρ st = .ok v st' := by
  unfold callF at h
  refine ob_el h nv fun fd h1 h => ?_
  cases kw with
  | none =>
    have h : fillK fd as (bsel fd.kw [.none] []) .no (fun ρ => runF c fd ρ st) = .ok v st' := h
    obtain ⟨h2, h3, h4⟩ := fillK_ok h nv
    exact ⟨fd, _, h1, ⟨_, by rw [bsel_eq], h2, h3, rfl⟩, h4⟩
  | some k =>
    have h : bsel fd.kw (fillK fd as [k] .no (fun ρ => runF c fd ρ st)) .no = .ok v st' := h
    refine bsel_el h nv fun hk h => ?_
    obtain ⟨h2, h3, h4⟩ := fillK_ok h nv
    exact ⟨fd, _, h1, ⟨_, ⟨hk, rfl⟩, h2, h3, rfl⟩, h4⟩
theorem endV_ok {n : Nat} {v v' : MV} {st st' : St} (h : endV n v st = .ok v' st') : v' = v ∧ ((plain v = true ∧ st' = st.take n) ∨ st' = st) := by
  unfold endV at h
  rw [bsel_eq, takeK_eq] at h
  split at h
  · rename_i hp; cases h; exact ⟨rfl, .inl ⟨hp, rfl⟩⟩
  · cases h; exact ⟨rfl, .inr rfl⟩
noncomputable def KwR (B : Base) (as : List Addr) (h : Heap) (kw : Option MV) (kus : List (Str × Value)) : Prop := match kw with | none => kus = [] | some k => ∃ ku, kus = [((Str.ofString "key"), ku)] ∧ VRel B as h k ku
structure FnX (prog : Program) (w : World) (B : Base) (C : Ctx) (m : Nat) (fd : Fn) (o : Obj) (fdL : FuncData) (body : List Stmt) : Prop where
  e1 : B.h₀.get? (B.fa m) = some o
  e2 : o.data = .func fdL
  e3 : o.cls = .type "function"
  e4 : CodeAt B.h₀ fdL.code fdL.qualname
  e5 : fdL.body = .stmts body
  e6 : SXs prog w B C body fd.body
  e7 : fdL.scope.names = C.nm
  e8 : fdL.scope.kind = .function
  e9 : fdL.scope.isCoroutine = false
  e10 : fdL.scope.isGenerator = false
  e11 : fdL.closure = []
  e12 : fdL.globals = mainGlobals
  e13 : fdL.builtins = builtinsNs
  e14 : C.lm = true → fdL.code = .ref (B.tc 0) ∧ fdL.qualname ++ ".<locals>." ++ "<lambda>" = B.lq 0
  e15 : ∀ as st (s : Shared) vs us kw kus ρ, Inv B as st s.heap → VRels B as s.heap vs us → KwR B as s.heap kw kus → FillTo fd vs kw ρ →
      ∃ binds, BindsTo s fdL ⟨us, kus⟩ binds ∧ (∀ x ∈ binds, fdL.scope.names.lookup x.1 = some .local) ∧
        ∀ (k : Nat) (x : Str) (v : MV), C.nm[k]? = some (x, .local) → ρ[k]? = some (some v) → ∃ u, binds.reverse.lookup x = some u ∧ VRel B as s.heap v u
structure FnOk (prog : Program) (w : World) (B : Base) (C : Ctx) (m : Nat) (fd : Fn) : Prop where
  dist : (C.nm.map (·.1)).Nodup
  noup : C.un = []
  nocell : ∀ p ∈ C.nm, p.2 ≠ .cell
  ex : ∃ (o : Obj) (fdL : FuncData) (body : List Stmt), FnX prog w B C m fd o fdL body
theorem imm0 {as : List Addr} {st : St} {h : Heap} (I : Inv B as st h) : Imm B.h₀ h := fun a o e i => I.old a o (by
  rintro t rfl
  rw [(B.tab t).2] at e; cases e
  rcases i with i | i <;> cases i) e
theorem Room.deeper {n : Nat} {A : Around} {env : Env} (R : Room (n + 1) A) : Room n (A.deeper env) := by
  obtain ⟨h1, h2, h3⟩ := R
  refine ⟨?_, ?_, ?_⟩
  · exact h1
  · show A.depth + 1 + 4 * n + 20 < recursionLimit
    (first | lia | omega)
  · show A.units + 3 + 20 * n + 100 < cLine
    (first | lia | omega)
theorem runF_sound {m n : Nat} {fd : Fn} {c : Calls} {ρ : Sl} {st st' : St} {v : MV} {A : Around} {as : List Addr} {s : Shared} {vs : List MV} {us : List Value} {kw : Option MV} {kus : List (Str × Value)} (O : FnOk prog w B C m fd) (hc : SC prog w B n c) (hf : FillTo fd vs kw ρ) (h : runF c fd ρ st = .ok v st')
    (R : Room (n + 1) A) (I : Inv B as st s.heap) (rv : VRels B as s.heap vs us) (rk : KwR B as s.heap kw kus) : wpAny (model prog w) A (call (.ref (B.fa m)) us kus) (Pst B as st' v s) No s := by
  obtain ⟨o, fdL, body, e1, e2, e3, e4, e5, e6, e7, e8, e9, e10, e11, e12, e13, e14, e15⟩ := O.ex
  obtain ⟨binds, b1, b2, b3⟩ := e15 as st s vs us kw kus ρ I rv rk hf
  have im := imm0 I
  have hl := R.dep
  refine wpAny_call (codeAny_call_def (by (first | lia | omega)) (I.get0 e1 (by rw [e3]; exact fun e => nomatch e)) e2 I.lim (e4.imm im).rec e5 b1 (fun x hx => O.nocell x (e7 ▸ hx)) b2 (fun h₀ hns hk => ?_) e9 e10 e8)
  have hnL : s.heap.get? s.heap.objs.size = none := hNoneAt _
  generalize s.heap.objs.size = L at hns hnL ⊢
  have h0L : B.h₀.get? L = none := I.new0 hnL
  have G1 : Go B [] as as st s { s with heap := h₀, toks := s.toks + binds.length } := ⟨List.prefix_refl _, fun _ h => .inl h, .all hk, I.keeps hk, ⟨rfl, rfl⟩⟩
  generalize hs1 : ({ s with heap := h₀, toks := s.toks + binds.length } : Shared) = s1 at G1
  have hns1 : s1.heap.Ns L (fun x => binds.reverse.lookup x) := by rw [← hs1]; exact hns
  have hnc : ∀ (k : Nat) (x : Str), C.nm[k]? ≠ some (x, NameKind.cell) := fun k x e => O.nocell _ (List.mem_of_getElem? e) rfl
  have V : EnvR B C ρ [] (callEnv fdL L (B.fa m)) as s1.heap := by
    refine ⟨e8, e7, O.dist, ⟨_, hns1, fun k x v g1 g2 => ?_⟩, fun k x v g1 => absurd g1 (hnc k x), fun k x v g1 g2 => (by cases g2), e12, e13, fun k x g1 => absurd g1 (hnc k x), fun x y c g1 g2 => ?_, fun a ha => ?_, fun hm => e14 hm⟩
    · obtain ⟨u, q1, q2⟩ := b3 k x v g1 g2
      exact ⟨u, q1, q2.stp G1.stp G1.pre⟩
    · have g1 : fdL.closure.lookup x = some c := g1
      rw [e11] at g1; cases g1
    · have ha : a ∈ L :: fdL.closure.map (·.2) := ha
      rw [e11] at ha
      rw [List.mem_singleton.mp ha]
      obtain ⟨o, _, _, ho, _⟩ := hns1
      exact ⟨o, ho⟩
  have hW : Ws (callEnv fdL L (B.fa m)) = [L] := by
    show L :: fdL.closure.map (·.2) = [L]
    rw [e11]; rfl
  have F : Fresh B (callEnv fdL L (B.fa m)) := fun a ha => by
    rw [hW] at ha
    rw [List.mem_singleton.mp ha]; exact h0L
  unfold runF at h
  rw [lenK_eq] at h
  have hb : fd.body c ρ st ≠ .no := by intro q; rw [q] at h; cases h
  refine wp_any (e6 n c hc ρ st hb (A.deeper _) _ as s1 R.deeper V F G1.inv) fun fl s2 p => ?_
  have fin : ∀ (v0 : MV) (u : Value) (as2 : List Addr) (st2 : St), Go B (Ws (callEnv fdL L (B.fa m))) as as2 st2 s1 s2 → VRel B as2 s2.heap v0 u → endV st.length v0 st2 = .ok v st' → Pst B as st' v s u s2 := fun v0 u as2 st2 G2 r2 he => by
    rw [hW] at G2
    have G : Go B [] as as2 st2 s s2 := (G1.of0.trans (G2 : Go B ([] ++ [L]) as as2 st2 s1 s2)).drop (N := [L]) (fun a ha => by rw [List.mem_singleton.mp ha]; exact hnL)
    obtain ⟨rfl, he⟩ := endV_ok he
    rcases he with ⟨hp, rfl⟩ | rfl
    · have ht : as2.take st.length = as := by
        obtain ⟨r, rfl⟩ := G.pre
        rw [← I.len, List.take_left]
      have I2 := G.inv.take st.length
      rw [ht] at I2
      exact ⟨as, ⟨List.prefix_refl _, fun _ h => .inl h, G.stp, I2, G.sme⟩, plain_rel hp r2⟩
    · exact ⟨as2, G, r2⟩
  generalize fd.body c ρ st = q at h p
  cases q with
  | no => exact p.elim
  | nx ρ2 st2 =>
    obtain ⟨rfl, as2, G2, _⟩ := p
    exact fin .none .none as2 st2 G2 .none h
  | rt v2 st2 =>
    obtain ⟨u, as2, rfl, G2, r2⟩ := p
    exact fin v2 u as2 st2 G2 r2 h
end Mine
end OfMSound26
noncomputable section OfMSound27
set_option autoImplicit false
set_option linter.unusedVariables false
namespace Mine
open PySem PySem.Calls PyProof.Rows PySem.SeqAt PySem.W
variable {prog : Program} {w : World} {B : Base} {C : Ctx}

theorem bind_lam {fd : FuncData} {x : Str} {p0 : Pos} {u : Value} (h1 : fd.params.posonlyargs = []) (h2 : fd.params.args = [⟨x, none, p0⟩]) (h3 : fd.params.vararg = none) (h4 : fd.params.kwonlyargs = []) (h5 : fd.params.kwarg = none) (h6 : fd.defaults = .none) (h7 : x = Str.ofString "one") :
    bindArgs fd ⟨[u], []⟩ = pure [(x, u)] := by
  obtain ⟨name, qual, params, body, scope, globals, closure, defaults⟩ := fd
  obtain ⟨po, a, va, ko, kd, kw, d⟩ := params
  cases h1; cases h2; cases h3; cases h4; cases h5; cases h6; cases h7
  rfl
theorem lam_sound {n : Nat} {as : List Addr} {st st' : St} {v : MV} {A : Around} {s : Shared} {a : Addr} {vs : List MV} {us : List Value} {kw : Option MV} {kus : List (Str × Value)} (x : LamAt s.heap a) (h : lamF vs kw st = .ok v st') (R : Room n A) (I : Inv B as st s.heap) (rv : VRels B as s.heap vs us) (rk : KwR B as s.heap kw kus) :
    wpAny (model prog w) A (call (.ref a) us kus) (Pst B as st' v s) No s := by
  revert rv
  refine args_el (show args vs RV.no (fun v => tupV v RV.no fun l => ob (getN l 0) RV.no fun x => ob kw (RV.ok x st) fun _ => RV.no) (fun _ _ => RV.no) (fun _ _ _ => RV.no) = RV.ok v st' from h) nv (fun t h1 rv => ?_) (fun _ _ h => nomatch h) (fun _ _ _ h => nomatch h)
  obtain ⟨l, hl, h2⟩ := tupV_ok h1 nv
  subst hl
  refine ob_el h2 nv fun z hz h3 => ?_
  cases kw with
  | some _ => cases h3
  | none =>
    cases h3
    have rk : kus = [] := rk
    subst rk
    obtain ⟨u, rfl, ru⟩ := rv.one_i
    obtain ⟨o, fd, g1, g2, g3, L, g4⟩ := x
    obtain ⟨y, p0, p1, p2, p3, k, q1, q2, q3, q4, q5⟩ := L.par
    have hd := R.dep
    refine wpAny_call (kla_callFunE (by (first | lia | omega)) g1 g2 L.co L.gen q2 g4.rec ?_)
    rw [bind_lam L.pos q1 L.va L.ko L.kw L.df q5]
    refine wpAny_pure ?_
    have hloc : fd.scope.names.lookup y = some .local := by rw [q3]; simp [List.lookup]
    refine wpAny_newFunctionEnv (fun p hp => by rw [q3] at hp; rw [List.mem_singleton.mp hp]; exact fun e => nomatch e) (fun p hp => by rw [List.mem_singleton.mp hp]; exact hloc) (fun h' hns hsb => ⟨I.lim.fresh _ hsb, kla_codeExpr ?_⟩) L.kind
    have hk : ∀ b o, s.heap.get? b = some o → h'.get? b = some o := fun b o e => hsb.extBut b o (Nat.ne_of_lt (Heap.lt_size e)) (Heap.get?_push_of_some _ e)
    have G1 : Go B [] as as st s { s with heap := h', toks := s.toks + [(y, u)].length } := ⟨List.prefix_refl _, fun _ h => .inl h, .all hk, I.keeps hk, ⟨rfl, rfl⟩⟩
    generalize hs1 : ({ s with heap := h', toks := s.toks + [(y, u)].length } : Shared) = s1 at G1 ⊢
    have hns1 : s1.heap.Ns s.heap.objs.size (fun z => ([(y, u)] : List (Str × Value)).reverse.lookup z) := by rw [← hs1]; exact hns
    refine Subscript_ (wpAny_Name (wpAny_loadName_local L.kind hloc hns1 (v := u) (by simp) ?_) q4)
    refine wpAny_Constant_int ?_
    have G2 : Go B [] as as st s { s1 with toks := s1.toks + 1 } := G1.trans (.tok G1.inv)
    have hi : item (.tup l) (Int.ofNat 0) st = some v := hz
    exact wp_any (item_sound (i := Int.ofNat 0) hi (by decide) (ru.stp G2.stp G2.pre) G2.inv fun _ _ => rfl) fun _ _ p => p.seq G2
end Mine
end OfMSound27
noncomputable section OfMSound28
set_option autoImplicit false
set_option linter.unusedVariables false
namespace Mine
open PySem PySem.Calls PyProof.Rows PySem.SeqAt PySem.W
variable {prog : Program} {w : World} {B : Base} {C : Ctx}

theorem Room.le {n m : Nat} {A : Around} (R : Room n A) (h : m ≤ n) : Room m A := ⟨R.hd, by have := R.dep; (first | lia | omega), by have := R.uni; (first | lia | omega)⟩
noncomputable def DivOk (prog : Program) (w : World) (B : Base) : Prop := ∀ vs st v st', divmodC vs st = .ok v st' → ∀ A as s us, Room 12 A → Inv B as st s.heap → VRels B as s.heap vs us → wpAny (model prog w) A (call (.ref (B.fa 100)) us []) (Pst B as st' v s) No s
theorem calls_sound {fns : Fns} (ok : ∀ m fd, fns m = some fd → ∃ C, FnOk prog w B C m fd) (dv : DivOk prog w B) : ∀ n, SC prog w B (n + 12) (calls fns n) := by
  intro n
  induction n with
  | zero => intro f vs kw st v st' h; cases h
  | succ n ih =>
    intro f vs kw st v st' h A as s fv us kus R I rf rv rk
    have h : callS fns (calls fns n) f vs kw st = .ok v st' := h
    cases f with
    | fn m =>
      obtain rfl := rf.fn_i
      have h : bsel (Nat.beq m 100) (ob kw (divmodC vs st) fun _ => .no) (callF fns (calls fns n) m vs kw st) = .ok v st' := h
      rw [bsel_eq] at h
      split at h
      · rename_i hm
        have hm := beq_iff.mp hm
        subst hm
        cases kw with
        | some _ => cases h
        | none =>
          have rk : kus = [] := rk
          subst rk
          exact dv vs st v st' h A as s us (R.le (by (first | lia | omega))) I rv
      · obtain ⟨fd, ρ, h1, h2, h3⟩ := callF_ok h
        obtain ⟨C, O⟩ := ok m fd h1
        exact runF_sound O ih h2 h3 (R.le (by (first | lia | omega))) I rv (by cases kw <;> exact rk)
    | lam => obtain ⟨_, rfl, x⟩ := rf.lam_i; exact lam_sound x h R I rv (by cases kw <;> exact rk)
    | _ => cases h
end Mine
end OfMSound28
noncomputable section OfMSound29
set_option autoImplicit false
set_option linter.unusedVariables false
namespace Mine
open PySem PySem.Calls PyProof.Rows PySem.SeqAt PySem.W
variable {prog : Program} {w : World} {B : Base} {C : Ctx}

theorem compTurn_two0 (elt t0 i0 t1 i1 : Expr) (scope : Scope) (pos : Pos) (it acc : Value) (env : Env) :
    compTurn (.ListComp elt [⟨t0, i0, [], 0⟩, ⟨t1, i1, [], 0⟩] scope pos) 0 it acc env = (standAt i0.pos >>= fun _ => pyNext it >>= fun r => match r with
      | none => pure (.done .next)
      | some v => letOwnedTupleGo t0 it v >>= fun _ => assign t0 env v >>= fun _ =>
        eval i1 env >>= fun x => standAt i1.pos >>= fun _ => foldedSetIterable i1 env x >>= fun x => holding [x] (pyIter x) >>= fun it1 => runOwn (.compStart (.ListComp elt [⟨t0, i0, [], 0⟩, ⟨t1, i1, [], 0⟩] scope pos) 1 it1 acc env) env >>= fun _ =>
          again (.compLoop (.ListComp elt [⟨t0, i0, [], 0⟩, ⟨t1, i1, [], 0⟩] scope pos) 0 it acc env)) := by rfl
theorem compTurn_two1 (elt t0 i0 t1 i1 : Expr) (scope : Scope) (pos : Pos) (it acc : Value) (env : Env) :
    compTurn (.ListComp elt [⟨t0, i0, [], 0⟩, ⟨t1, i1, [], 0⟩] scope pos) 1 it acc env = (standAt i1.pos >>= fun _ => pyNext it >>= fun r => match r with
      | none => pure (.done .next)
      | some v => letOwnedTupleGo t1 it v >>= fun _ => assign t1 env v >>= fun _ =>
        (eval elt env >>= fun x => call (.builtin "list.append") [acc, x] >>= fun _ => pure ()) >>= fun _ =>
          again (.compLoop (.ListComp elt [⟨t0, i0, [], 0⟩, ⟨t1, i1, [], 0⟩] scope pos) 1 it acc env)) := by rfl
theorem compLoop_two1 {A : Around} {R : Result → Shared → Prop} {s : Shared} {elt t0 i0 t1 i1 : Expr} {scope : Scope} {pos : Pos} {it acc : Value} {env : Env} (I : Nat → Shared → Prop)
    (turn : ∀ n s, I n s → wpAny (model prog w) A (pyNext it) (fun r s₁ => match r with
      | none => R (.ok .next) s₁
      | some v => wpAny (model prog w) A (letOwnedTupleGo t1 it v) (fun _ s₁' => wpAny (model prog w) A (assign t1 env v) (fun _ s₂ => wpAny (model prog w) A (eval elt env) (fun x s₃ =>
          wpAny (model prog w) A (call (.builtin "list.append") [acc, x]) (fun _ s₄ => ∃ m, m < n ∧ I m s₄) (notedBy (model prog w) A env fun e s' => R (.error e) s') s₃)
          (notedBy (model prog w) A env fun e s' => R (.error e) s') s₂) (notedBy (model prog w) A env fun e s' => R (.error e) s') s₁') (notedBy (model prog w) A env fun e s' => R (.error e) s') s₁) (notedBy (model prog w) A env fun e s' => R (.error e) s') s)
    (n : Nat) (h : I n s) : codeAny (model prog w) A (.compLoop (.ListComp elt [⟨t0, i0, [], 0⟩, ⟨t1, i1, [], 0⟩] scope pos) 1 it acc env) R s := by
  refine codeAny_loop rfl I (fun n s hI => ?_) n h
  show wpAny _ _ ((compTurn (.ListComp elt [⟨t0, i0, [], 0⟩, ⟨t1, i1, [], 0⟩] scope pos) 1 it acc env).onRaise (fun x => do noteFrame x env; theTreesLotGoes x)) _ _ s
  refine wpAny_noted ?_
  rw [compTurn_two1]
  refine wpAny_bind (wpAny_standAt (wpAny_bind (wpAny_mono (turn n s hI) (fun r s₁ h₁ => ?_) fun _ _ h' => h')))
  cases r with
  | none => exact wpAny_pure h₁
  | some v =>
    refine wpAny_bind (wpAny_mono h₁ (fun _ s₁' h₁' => ?_) fun _ _ h' => h')
    exact wpAny_bind (wpAny_mono h₁' (fun _ s₂ h₂ => wpAny_bind (wpAny_bind (wpAny_mono h₂ (fun x s₃ h₃ => wpAny_bind (wpAny_mono h₃
      (fun _ s₄ h₄ => wpAny_pure (wpAny_pure ⟨rfl, h₄⟩)) fun _ _ h' => h')) fun _ _ h' => h'))) fun _ _ h' => h')
theorem compLoop_two0 {A : Around} {R : Result → Shared → Prop} {s : Shared} {elt t0 i0 t1 i1 : Expr} {scope : Scope} {pos : Pos} {it acc : Value} {env : Env} (I : Nat → Shared → Prop)
    (turn : ∀ n s, I n s → wpAny (model prog w) A (pyNext it) (fun r s₁ => match r with
      | none => R (.ok .next) s₁
      | some v => wpAny (model prog w) A (letOwnedTupleGo t0 it v) (fun _ s₁' => wpAny (model prog w) A (assign t0 env v) (fun _ s₂ => wpAny (model prog w) A (eval i1 env) (fun x s₃ =>
          wpAny (model prog w) A (pyIter x) (fun it1 s₄ => codeAny (model prog w) A (.compStart (.ListComp elt [⟨t0, i0, [], 0⟩, ⟨t1, i1, [], 0⟩] scope pos) 1 it1 acc env) (fun r s' => match r with
            | .ok _ => ∃ m, m < n ∧ I m s'
            | .error e => cameBackBy (model prog w) A env (notedBy (model prog w) A env fun e s' => R (.error e) s') e s') s₄) (notedBy (model prog w) A env fun e s' => R (.error e) s') s₃)
          (notedBy (model prog w) A env fun e s' => R (.error e) s') s₂) (notedBy (model prog w) A env fun e s' => R (.error e) s') s₁') (notedBy (model prog w) A env fun e s' => R (.error e) s') s₁) (notedBy (model prog w) A env fun e s' => R (.error e) s') s)
    (hf : ∀ x, foldedSetIterable i1 env x = pure x) (n : Nat) (h : I n s) : codeAny (model prog w) A (.compLoop (.ListComp elt [⟨t0, i0, [], 0⟩, ⟨t1, i1, [], 0⟩] scope pos) 0 it acc env) R s := by
  refine codeAny_loop rfl I (fun n s hI => ?_) n h
  show wpAny _ _ ((compTurn (.ListComp elt [⟨t0, i0, [], 0⟩, ⟨t1, i1, [], 0⟩] scope pos) 0 it acc env).onRaise (fun x => do noteFrame x env; theTreesLotGoes x)) _ _ s
  refine wpAny_noted ?_
  rw [compTurn_two0]
  refine wpAny_bind (wpAny_standAt (wpAny_bind (wpAny_mono (turn n s hI) (fun r s₁ h₁ => ?_) fun _ _ h' => h')))
  cases r with
  | none => exact wpAny_pure h₁
  | some v =>
    refine wpAny_bind (wpAny_mono h₁ (fun _ s₁' h₁' => ?_) fun _ _ h' => h')
    refine wpAny_bind (wpAny_mono h₁' (fun _ s₂ h₂ => ?_) fun _ _ h' => h')
    refine wpAny_bind (wpAny_mono h₂ (fun x s₃ h₃ => wpAny_bind (wpAny_standAt (wpAny_bind (wpAny_of_eq (hf x) ?_)))) fun _ _ h' => h')
    refine wpAny_bind (wpAny_holding (wpAny_mono h₃ (fun it1 s₄ h₄ => ?_) fun _ _ h' => h'))
    exact wpAny_bind (wpAny_mono (wpAny_runOwn h₄) (fun _ s₅ h₅ => wpAny_pure ⟨rfl, h₅⟩) fun _ _ h' => h')
theorem compLoop_two1C {A : Around} {R : Result → Shared → Prop} {s : Shared} {elt t0 i0 t1 i1 : Expr} {scope : Scope} {pos : Pos} {it acc : Value} {env : Env} (I : Nat → Shared → Prop)
    (turn : ∀ n s, I n s → ∀ (E : Value → Shared → Prop) (N : Shared → Prop) (K : Value → Shared → Prop), (∀ s', R (.ok .next) s' → N s') →
      (∀ v s', wpAny (model prog w) A (letOwnedTupleGo t1 it v) (fun _ s₁' => wpAny (model prog w) A (assign t1 env v) (fun _ s₂ => wpAny (model prog w) A (eval elt env) (fun x s₃ =>
          wpAny (model prog w) A (call (.builtin "list.append") [acc, x]) (fun _ s₄ => ∃ m, m < n ∧ I m s₄) E s₃) E s₂) E s₁') E s' → K v s') →
      wpAny (model prog w) A (pyNext it) (fun r s₁ => match r with
        | none => N s₁
        | some v => K v s₁) E s)
    (n : Nat) (h : I n s) : codeAny (model prog w) A (.compLoop (.ListComp elt [⟨t0, i0, [], 0⟩, ⟨t1, i1, [], 0⟩] scope pos) 1 it acc env) R s :=
  compLoop_two1 I (fun n s hI => turn n s hI _ _ _ (fun _ h => h) fun _ _ h => h) n h
theorem compLoop_two0C {A : Around} {R : Result → Shared → Prop} {s : Shared} {elt t0 i0 t1 i1 : Expr} {scope : Scope} {pos : Pos} {it acc : Value} {env : Env} (I : Nat → Shared → Prop)
    (turn : ∀ n s, I n s → ∀ (E : Value → Shared → Prop) (N : Shared → Prop) (K : Value → Shared → Prop) (P : Result → Shared → Prop), (∀ s', R (.ok .next) s' → N s') → (∀ f s', (∃ m, m < n ∧ I m s') → P (.ok f) s') →
      (∀ v s', wpAny (model prog w) A (letOwnedTupleGo t0 it v) (fun _ s₁' => wpAny (model prog w) A (assign t0 env v) (fun _ s₂ => wpAny (model prog w) A (eval i1 env) (fun x s₃ =>
          wpAny (model prog w) A (pyIter x) (fun it1 s₄ => codeAny (model prog w) A (.compStart (.ListComp elt [⟨t0, i0, [], 0⟩, ⟨t1, i1, [], 0⟩] scope pos) 1 it1 acc env) P s₄) E s₃) E s₂) E s₁') E s' → K v s') →
      wpAny (model prog w) A (pyNext it) (fun r s₁ => match r with
        | none => N s₁
        | some v => K v s₁) E s)
    (hf : ∀ x, foldedSetIterable i1 env x = pure x) (n : Nat) (h : I n s) : codeAny (model prog w) A (.compLoop (.ListComp elt [⟨t0, i0, [], 0⟩, ⟨t1, i1, [], 0⟩] scope pos) 0 it acc env) R s :=
  compLoop_two0 I (fun n s hI => turn n s hI _ _ _ _ (fun _ h => h) (fun _ _ h => h) fun _ _ h => h) hf n h
theorem compStart_two1 {A : Around} {R : Result → Shared → Prop} {s : Shared} {elt t0 i0 t1 i1 : Expr} {scope : Scope} {pos : Pos} {it acc : Value} {env : Env}
    (h0 : codeAny (model prog w) A (.compLoop (.ListComp elt [⟨t0, i0, [], 0⟩, ⟨t1, i1, [], 0⟩] scope pos) 1 it acc env) R s)
    (h : wpAny (model prog w) A (pyIter it) (fun it' s' => codeAny (model prog w) A (.compLoop (.ListComp elt [⟨t0, i0, [], 0⟩, ⟨t1, i1, [], 0⟩] scope pos) 1 it' acc env) R s')
      (notedBy (model prog w) A env fun x s' => R (.error x) s') s) :
    codeAny (model prog w) A (.compStart (.ListComp elt [⟨t0, i0, [], 0⟩, ⟨t1, i1, [], 0⟩] scope pos) 1 it acc env) R s := by
  refine codeAny_of_tree ?_
  show wpAny _ _ ((compStart (.ListComp elt [⟨t0, i0, [], 0⟩, ⟨t1, i1, [], 0⟩] scope pos) 1 it acc env).onRaise (fun x => do noteFrame x env; standAt theWindowsPlace)) _ _ s
  refine wpAny_notedAt ?_
  unfold compStart
  show wpAny _ _ (ask >>= _) _ _ s
  refine wpAny_bind (wpAny_askSetting (wpAny_ite ?_))
  split
  · first
      | exact wpAny_bind (wpAny_pure (wpAny_pure (And.intro rfl h0)))
      | exact wpAny_pure (And.intro rfl h0)
  · first
      | exact wpAny_bind (wpAny_rule (wpAny_bind (wpAny_standAt (wpAny_bind (wpAny_mono h (fun it' s' h' => wpAny_pure (And.intro rfl h')) fun _ _ x => x)))))
      | (refine wpAny_bind (wpAny_rule ?_); show wpAny _ _ (standAt i1.pos >>= _) _ _ s; exact wpAny_bind (wpAny_standAt (wpAny_bind (wpAny_mono h (fun it' s' h' => wpAny_pure (And.intro rfl h')) fun _ _ x => x))))
end Mine
end OfMSound29
noncomputable section OfMSound30
set_option autoImplicit false
set_option linter.unusedVariables false
namespace Mine
open PySem PySem.Calls PyProof.Rows PySem.SeqAt PySem.W
variable {prog : Program} {w : World} {B : Base} {C : Ctx}

theorem inner_run {scope : Scope} {elt t0 i0 t1 i1 : Expr} {pos : Pos} {ts : List Nat} {isT : Bool} {felt : FE} {n acc : Nat} {c : Calls} {ρ up ρr : Sl} {cenv : Env} {A : Around} {it : MV} {st str : St} {as : List Addr} {s : Shared} {x : Value} {D : Addr} {R : Result → Shared → Prop} {E : Value → Shared → Prop}
    (T : TgtC C ts isT t1) (h2 : SE prog w B C elt felt) (hc : SC prog w B n c) (hR : Room n A) (r : VRel B as s.heap it x) (V : EnvR B C ρ up cenv as s.heap) (I0 : Inv B as st s.heap) (hL : B.h₀.get? cenv.locals = none) (hD : as[acc]? = some D)
    (hrun : clRun ts isT it felt c up acc 200 0 ρ st = .ok ρr str)
    (hq : ∀ s' as', Go B [cenv.locals] as as' str s s' → EnvR B C ρr up cenv as' s'.heap → as'[acc]? = some D → R (.ok .next) s') :
    wpAny (model prog w) A (pyIter x) (fun it1 s₄ => codeAny (model prog w) A (.compStart (.ListComp elt [⟨t0, i0, [], 0⟩, ⟨t1, i1, [], 0⟩] scope pos) 1 it1 (.ref D) cenv) R s₄) E s := by
  have hk0 : nth it 0 st .no (.ok ρ st) (fun v => setTargetK ρ ts isT v .no fun ρ' => (felt c ρ' up st).b .no fun x st => bsel (plain x) (ob (getN st acc) .no fun l => lenK l fun n => bsel (Nat.ble n 4096)
    (appK l [x] fun l => setK st acc l fun st => forceN (Nat.succ 0) fun i => clRun ts isT it felt c up acc 199 i ρ' st) .no) .no) = .ok ρr str := hrun
  refine iter_start I0 r (nth_kind hk0 ns) fun s2 G2 t2 => ?_
  have hnI : s.heap.get? s.heap.objs.size = none := hNoneAt _
  generalize s.heap.objs.size = I at hnI t2 ⊢
  have h0I : B.h₀.get? I = none := I0.new0 hnI
  have V2 := V.stp G2.stp G2.pre
  have hN : ∀ a ∈ [I], s.heap.get? a = none := fun a ha => by rw [List.mem_singleton.mp ha]; exact hnI
  have loop : codeAny (model prog w) A (.compLoop (.ListComp elt [⟨t0, i0, [], 0⟩, ⟨t1, i1, [], 0⟩] scope pos) 1 (.ref I) (.ref D) cenv) R s2 := by
    refine compLoop_two1C (fun m s' => Ex4 fun i ρ3 st3 as3' => And5 (clRun ts isT it felt c up acc m i ρ3 st3 = .ok ρr str) (Go B ([cenv.locals] ++ [I]) as as3' st3 s s') (EnvR B C ρ3 up cenv as3' s'.heap) (ItAt B as3' s'.heap it I i) (as3'[acc]? = some D)) ?_ 200
      ⟨0, ρ, st, as, hrun, G2.of0, V2, t2, hD⟩
    rintro m s5 ⟨i, ρ5, st5, as5, e5, G5, V5, t5, hD5⟩ E' N K' hN' hK'
    cases m with
    | zero => cases e5
    | succ m =>
      have e5 : nth it i st5 .no (.ok ρ5 st5) (fun v => setTargetK ρ5 ts isT v .no fun ρ' => (felt c ρ' up st5).b .no fun x st => bsel (plain x) (ob (getN st acc) .no fun l => lenK l fun n => bsel (Nat.ble n 4096)
        (appK l [x] fun l => setK st acc l fun st => forceN (Nat.succ i) fun i => clRun ts isT it felt c up acc m i ρ' st) .no) .no) = .ok ρr str := e5
      obtain ⟨o, ho, io⟩ := t5.obj
      have LI : cenv.locals ≠ I := by
        intro q
        obtain ⟨_, hn, _⟩ := V5.ns
        obtain ⟨o', es, ep, ho', hd', _⟩ := hn
        rw [q, ho] at ho'; cases ho'
        obtain ⟨vs, hd, _⟩ := io
        rw [hd] at hd'; cases hd'
      refine iter_next hR.hd t5 G5.inv h0I e5 ns (fun mv u6 s6 e6 G6 t6 r6 => ?_) (fun h' e6 hx => ?_)
      · have V6 := V5.stpIter G6.stp G6.pre ho io
        obtain ⟨o6, ho6, io6⟩ := t6.obj
        refine hK' _ _ (letOwned_run ho6 io6 ?_)
        refine target_run hR.hd T e6 ns r6 V6 G6.inv hL fun ρ7 s7 e7 G7 V7 => ?_
        refine RV.b_el e7 ns fun xv st8 e8 e9 => ?_
        refine bsel_el e9 ns fun hp e10 => ?_
        refine ob_el e10 ns fun l hl e11 => ?_
        rw [lenK_eq] at e11
        refine bsel_el e11 ns fun hz e12 => ?_
        rw [appK_eq, setK_eq, forceN_eq] at e12
        have hz := ble_iff.mp hz
        have t7 := t6.stp G7.stp G7.pre (fun hm => LI (List.mem_singleton.mp hm).symm)
        have G57 : Go B ([cenv.locals] ++ [I]) as as5 st5 s s7 := (G5.trans (G6.mono fun a ha => List.mem_cons_of_mem _ ha)).trans (G7.mono fun a ha => by rw [List.mem_singleton.mp ha]; exact List.mem_cons_self)
        refine wp_any (h2 n c hc _ _ _ _ _ e8 A _ as5 s7 hR V7 G57.inv) ?_
        refine Pst.all fun u8 s8 as8 G8 r8 => ?_
        rw [getN_eq] at hl
        obtain ⟨a', items, ha, ⟨kk, hg⟩, rl⟩ := G8.inv.tlist hl
        have hD8 : as8[acc]? = some D := by
          obtain ⟨rr, hrr⟩ := G8.pre
          rw [← hrr, List.getElem?_append_left (List.getElem?_eq_some_iff.mp hD5).1]; exact hD5
        rw [hD8] at ha; cases ha
        refine append_run hg (by rw [← rl.length]; exact hz) ?_
        have G9 := upd_post (u := .none) (l := l) (t := s8.toks) (f := (·.push u8)) (items' := items ++ [u8]) (l' := l ++ [xv]) G8.inv hD8 hg (by simp) (rl.append (.cons (plain_rel hp r8) .nil))
        have G89 := G8.trans G9
        exact ⟨m, Nat.lt_succ_self m, i + 1, ρ7, _, as8, e12, G57.trans G89.of0, V7.stp G89.stp G89.pre, t7.stp G89.stp G89.pre (fun h => nomatch h), hD8⟩
      · cases e6
        have hcell : ∀ c v, s5.heap.IsCell c v → c ≠ I := fun c v ⟨o', ho', hd'⟩ q => by
          rw [q, ho] at ho'; cases ho'
          obtain ⟨vs, hd, _⟩ := io
          rw [hd] at hd'; cases hd'
        have hIW : I ∉ Ws cenv := fun hm => by
          obtain ⟨o', e'⟩ := V.wlive I hm
          rw [hnI] at e'; cases e'
        exact hN' _ (hq _ as5 (G5.endObj hN (List.mem_singleton.mpr rfl) h0I ho io.no.1 io.no.2 hx) (V5.endObj ho io.no.1 hx hIW hcell) hD5)
  exact compStart_two1 loop (iter_self t2 loop)
end Mine
end OfMSound30
noncomputable section OfMSound31
set_option autoImplicit false
set_option linter.unusedVariables false
namespace Mine
open PySem PySem.Calls PyProof.Rows PySem.SeqAt PySem.W
variable {prog : Program} {w : World} {B : Base} {C : Ctx}

theorem comp_core2 {scope : Scope} {elt t0 i0 t1 i1 : Expr} {pos : Pos} {k0 k1 : Nat} {fs2 felt : FE} {k n : Nat} {c : Calls} {ρ up ρr : Sl} {env : Env} {A : Around} {it : MV} {st1 str : St} {as1 : List Addr} {s1 : Shared} {x : Value} {RR : Value → Addr → Result → Shared → Prop} {E : Value → Shared → Prop}
    (K : CompOk scope C) (T0 : TgtC (compCtx scope.names C) [k0] false t0) (T : TgtC (compCtx scope.names C) [k1] false t1) (h1 : SE prog w B (compCtx scope.names C) i1 fs2) (hf1 : ∀ env x, foldedSetIterable i1 env x = pure x) (h2 : SE prog w B (compCtx scope.names C) elt felt) (hc : SC prog w B n c) (R : Room n A) (r1 : VRel B as1 s1.heap it x) (V1 : EnvR B C ρ up env as1 s1.heap) (I1 : Inv B as1 st1 s1.heap)
    (hrun : cl2Run k0 it k1 fs2 felt c ρ st1.length 200 0 (nones k) (st1 ++ [[]]) = .ok ρr str)
    (hRR : ∀ D L s' as' m', s1.heap.get? L = none → B.h₀.get? L = none → Go B [] as1 as' str s1 s' → s'.heap.Ns L m' → as'[st1.length]? = some D → RR (.ref D) L (.ok .next) s') :
    wpAny (model prog w) A (pyIter x) (fun iv s₂ => wpAny (model prog w) A (newList []) (fun acc s₃ => wpAny (model prog w) A (newFunctionEnv scope env.globals (clFold (cellF env) scope.names []) [] env.qual none .none (some env)) (fun cenv s₄ =>
      codeAny (model prog w) A (.compStart (.ListComp elt [⟨t0, i0, [], 0⟩, ⟨t1, i1, [], 0⟩] scope pos) 0 iv acc { cenv with scope := relabel scope env }) (RR acc cenv.locals) s₄) E s₃) E s₂) E s1 := by
  have hk0 : nth it 0 (st1 ++ [[]]) .no (.ok (nones k) (st1 ++ [[]])) (fun v => setK (nones k) k0 (some v) fun ρ' => (fs2 c ρ' ρ (st1 ++ [[]])).b .no fun it2 st => (clRun [k1] false it2 felt c ρ st1.length 200 0 ρ' st).b .no fun ρ' st => forceN (Nat.succ 0) fun i => cl2Run k0 it k1 fs2 felt c ρ st1.length 199 i ρ' st) = .ok ρr str := hrun
  refine iter_start I1 r1 (nth_kind hk0 ns) fun s2 G2 t2 => ?_
  have hnI : s1.heap.get? s1.heap.objs.size = none := hNoneAt _
  generalize s1.heap.objs.size = I at hnI t2 ⊢
  have h0I : B.h₀.get? I = none := I1.new0 hnI
  have V2 := V1.stp G2.stp G2.pre
  refine wpAny_newObj_type ?_
  have P3 : Pst B as1 (st1 ++ [[]]) (.lst st1.length) s2 (.ref s2.heap.objs.size) { s2 with heap := s2.heap.push { cls := .type "list", dict := none, data := .seq ([] : List Value).toArray 0, slots := #[] }, toks := s2.toks } := Pst.list (n := 0) G2.inv rfl .nil
  obtain ⟨as3, G3, r3⟩ := P3
  have hD : as3[st1.length]? = some s2.heap.objs.size := by
    exact r3.lst_r
  generalize s2.heap.objs.size = D at hD G3 ⊢
  generalize hs3 : ({ s2 with heap := s2.heap.push { cls := .type "list", dict := none, data := .seq ([] : List Value).toArray 0, slots := #[] }, toks := s2.toks } : Shared) = s3 at G3
  have V3 := V2.stp G3.stp G3.pre
  have t3 := t2.stp G3.stp G3.pre (fun h => nomatch h)
  refine wpAny_newFunctionEnv K.nocell (by intro y hy; simp at hy) (fun h₁ hns₁ hsb₁ => ?_) K.kind
  have hnL : s3.heap.get? s3.heap.objs.size = none := hNoneAt _
  have hk4 : ∀ a o, s3.heap.get? a = some o → h₁.get? a = some o := fun a o e => (hsb₁.2 a (Nat.ne_of_lt (Heap.lt_size e))).trans (Heap.get?_push_of_some _ e)
  generalize s3.heap.objs.size = L at hns₁ hsb₁ hnL ⊢
  have h0L : B.h₀.get? L = none := G3.inv.new0 hnL
  have G4 : Go B [] as3 as3 (st1 ++ [[]]) s3 { s3 with heap := h₁, toks := s3.toks + ([] : List (Str × Value)).length } := ⟨List.prefix_refl _, fun _ h => .inl h, .all hk4, G3.inv.keeps hk4, ⟨rfl, rfl⟩⟩
  generalize hs4 : ({ s3 with heap := h₁, toks := s3.toks + ([] : List (Str × Value)).length } : Shared) = s4 at G4
  have hns4 : s4.heap.Ns L (fun x => ([] : List (Str × Value)).reverse.lookup x) := by rw [← hs4]; exact hns₁
  have V4 := V3.stp G4.stp G4.pre
  have V4' : EnvR B (compCtx scope.names C) (nones k) ρ (compEnvC scope (clFold (cellF env) scope.names []) L env) as3 s4.heap := comp_env K V4 hns4
  have t4 := t3.stp G4.stp G4.pre (fun h => nomatch h)
  have hsL : s1.heap.get? L = none := (G2.trans G3).stp.dead hnL
  have G14 : Go B [] as1 as3 (st1 ++ [[]]) s1 s4 := (G2.trans G3).trans G4
  have hN : ∀ a ∈ [L, I], s1.heap.get? a = none := fun a ha => by
    rcases List.mem_cons.mp ha with rfl | ha
    · exact hsL
    · rw [List.mem_singleton.mp ha]; exact hnI
  have loop : codeAny (model prog w) A (.compLoop (.ListComp elt [⟨t0, i0, [], 0⟩, ⟨t1, i1, [], 0⟩] scope pos) 0 (.ref I) (.ref D) (compEnvC scope (clFold (cellF env) scope.names []) L env)) (RR (.ref D) L) s4 := by
    refine compLoop_two0C (fun m s' => Ex4 fun i ρ3 st3 as3' => And5 (cl2Run k0 it k1 fs2 felt c ρ st1.length m i ρ3 st3 = .ok ρr str) (Go B ([] ++ [L, I]) as1 as3' st3 s1 s') (EnvR B (compCtx scope.names C) ρ3 ρ (compEnvC scope (clFold (cellF env) scope.names []) L env) as3' s'.heap) (ItAt B as3' s'.heap it I i) (as3'[st1.length]? = some D)) ?_ (hf1 _) 200
      ⟨0, nones k, _, as3, hrun, G14.of0, V4', t4, hD⟩
    rintro m s5 ⟨i, ρ5, st5, as5, e5, G5, V5, t5, hD5⟩ E' N K' P' hN' hP' hK'
    cases m with
    | zero => cases e5
    | succ m =>
      have e5 : nth it i st5 .no (.ok ρ5 st5) (fun v => setK ρ5 k0 (some v) fun ρ' => (fs2 c ρ' ρ st5).b .no fun it2 st => (clRun [k1] false it2 felt c ρ st1.length 200 0 ρ' st).b .no fun ρ' st => forceN (Nat.succ i) fun i => cl2Run k0 it k1 fs2 felt c ρ st1.length m i ρ' st) = .ok ρr str := e5
      obtain ⟨o, ho, io⟩ := t5.obj
      refine iter_next R.hd t5 G5.inv h0I e5 ns (fun mv u6 s6 e6 G6 t6 r6 => ?_) (fun h' e6 hx => ?_)
      · have V6 := V5.stpIter G6.stp G6.pre ho io
        obtain ⟨o6, ho6, io6⟩ := t6.obj
        refine hK' _ _ (letOwned_run ho6 io6 ?_)
        refine target_run (c := fun ρ' => (fs2 c ρ' ρ st5).b .no fun it2 st => (clRun [k1] false it2 felt c ρ st1.length 200 0 ρ' st).b .no fun ρ' st => forceN (Nat.succ i) fun i => cl2Run k0 it k1 fs2 felt c ρ st1.length m i ρ' st) (z := RS.no) R.hd T0 e6 ns r6 V6 G6.inv h0L fun ρ7 s7 e7 G7 V7 => ?_
        refine RV.b_el e7 ns fun it2 st8 e8 e9 => ?_
        refine RS.b_el e9 ns fun ρ9 st9 e10 e11 => ?_
        rw [forceN_eq] at e11
        have LI : L ≠ I := by
          rintro rfl
          obtain ⟨_, hn, _⟩ := V5.ns
          obtain ⟨o', es, ep, ho', hd', _⟩ := hn
          have ho' : s5.heap.get? L = some o' := ho'
          rw [ho] at ho'; cases ho'
          obtain ⟨vs, hd, _⟩ := io
          rw [hd] at hd'; cases hd'
        have t7 := t6.stp G7.stp G7.pre (fun hm => LI (List.mem_singleton.mp hm).symm)
        have G57 : Go B ([] ++ [L, I]) as1 as5 st5 s1 s7 := (G5.trans (G6.mono fun a ha => List.mem_cons_of_mem _ ha)).trans (G7.mono fun a ha => by rw [List.mem_singleton.mp ha]; exact List.mem_cons_self)
        refine wp_any (h1 n c hc _ _ _ _ _ e8 A _ as5 s7 R V7 G57.inv) ?_
        refine Pst.all fun u8 s8 as8 G8 r8 => ?_
        have hD8 : as8[st1.length]? = some D := by
          obtain ⟨rr, hrr⟩ := G8.pre
          rw [← hrr, List.getElem?_append_left (List.getElem?_eq_some_iff.mp hD5).1]; exact hD5
        refine inner_run T h2 hc R r8 (V7.stp G8.stp G8.pre) G8.inv h0L hD8 e10 fun s9 as9 G9 V9 hD9 => ?_
        exact hP' _ _ ⟨m, Nat.lt_succ_self m, i + 1, ρ9, st9, as9, e11, (G57.trans G8.of0).trans (G9.mono fun a ha => by rw [List.mem_singleton.mp ha]; exact List.mem_cons_self), V9, (t7.stp G8.stp G8.pre (fun h => nomatch h)).stp G9.stp G9.pre (fun hm => LI (List.mem_singleton.mp hm).symm), hD9⟩
      · cases e6
        have Gf := G5.endObj hN (List.mem_cons_of_mem _ List.mem_cons_self) h0I ho io.no.1 io.no.2 hx
        obtain ⟨m', hn, _⟩ := V5.ns
        refine hN' _ (hRR D L _ as5 m' hsL h0L Gf ?_ hD5)
        obtain ⟨o', es, ep, ho', hd', rr⟩ := hn
        exact ⟨o', es, ep, hx _ _ (by
          intro q
          have ho' : s5.heap.get? L = some o' := ho'
          have q : L = I := q
          rw [q, ho] at ho'; cases ho'
          obtain ⟨vs, hd, _⟩ := io
          rw [hd] at hd'; cases hd') ho', hd', rr⟩
  exact codeAny_compStart_list loop (iter_self t4 loop)
end Mine
end OfMSound31
noncomputable section OfMSound32
set_option autoImplicit false
set_option linter.unusedVariables false
namespace Mine
open PySem PySem.Calls PyProof.Rows PySem.SeqAt PySem.W
variable {prog : Program} {w : World} {B : Base} {C : Ctx}

theorem SX.asgC2 {elt t0 i0 t1 i1 : Expr} {scope : Scope} {pos : Pos} {k0 k1 : Nat} {fs fs2 felt : FE} {k j : Nat} {x : Str} {q p : Pos} (h1 : SE prog w B C i0 fs) (hi1 : SE prog w B (compCtx scope.names C) i1 fs2) (h2 : SE prog w B (compCtx scope.names C) elt felt) (K : CompOk scope C) (T0 : TgtC (compCtx scope.names C) [k0] false t0) (T : TgtC (compCtx scope.names C) [k1] false t1)
    (hs : ∀ env x, foldedSetIterable i0 env x = pure x) (hf1 : ∀ env x, foldedSetIterable i1 env x = pure x) (hj : C.nm[j]? = some (x, .local)) (hsw : ∀ env : Env, env.scope.kind = .function → env.scope.names = C.nm → swapsWith (.ListComp elt [⟨t0, i0, [], 0⟩, ⟨t1, i1, [], 0⟩] scope pos) (some (.Name x q)) p.line env = pure true) :
    SX prog w B C (.Assign [.Name x q] (.ListComp elt [⟨t0, i0, [], 0⟩, ⟨t1, i1, [], 0⟩] scope pos) p) (sAsg [j] (cComp2 k k0 fs k1 fs2 felt)) := by
  intro n c hc ρ st h A env as s R V F I
  refine RV.b_nel (k := fun v st => setAllK ρ v [j] fun ρ => RX.nx ρ st) h fun v st' g0 e2 _ => ?_
  have e3 : sAsg [j] (cComp2 k k0 fs k1 fs2 felt) c ρ st = .nx (ρ.set j (some v)) st' := e2.trans (setK_eq ρ j (some v) fun ρ => RX.nx ρ st')
  rw [e3]
  refine RV.b_el g0 nv fun it st1 g1 g0 => ?_
  rw [lenK_eq, appK_eq] at g0
  refine RS.b_el g0 nv fun ρr str g2 g0 => ?_
  cases g0
  rw [exec_Assign_Name_used _ _ _ _ (hsw env V.kind V.names)]
  refine wpAny_bind (wpAny_standAt ?_)
  refine wpAny_bind (m := evalThenUse _ _ _) ?_
  show wpAny _ A (comprehension (.ListComp elt [⟨t0, i0, [], 0⟩, ⟨t1, i1, [], 0⟩] scope pos) scope env (firstIterPos [⟨t0, i0, [], 0⟩, ⟨t1, i1, [], 0⟩] pos) (newList []) (firstAsync [⟨t0, i0, [], 0⟩, ⟨t1, i1, [], 0⟩]) (firstIter [⟨t0, i0, [], 0⟩, ⟨t1, i1, [], 0⟩] env) (some (assign (.Name x q) env)) >>= fun _ => pure ()) _ _ _
  refine wpAny_bind (wpAny_comprehension_free (use := some (assign (.Name x q) env)) (Q := fun _ s' => wpAny (model prog w) A (pure ()) _ No s') rfl (hs env) (closure_run (cl_good K V).1) K.kind K.loc (wp_to (h1 n c hc _ _ _ _ _ g1 A env as s R V I) ?_))
  refine Pst.all fun xx s1 as1 G1 r1 => ?_
  have V1 := V.stp G1.stp G1.pre
  refine comp_core2 (RR := fun acc L => compPost (model prog w) A No (some (assign (.Name x q) env)) _ acc L) K T0 T hi1 hf1 h2 hc R r1 V1 G1.inv g2 fun D L s' as' m' hL h0L G hn hD => ?_
  have V2 := V1.stp G.stp G.pre
  have hLW : L ∉ Ws env := fun hm => by
    obtain ⟨o, e⟩ := V1.wlive L hm
    rw [hL] at e; cases e
  refine wpAny_assign_Name (store_name hj (.inl rfl) V2 G.inv F (.lst (i := st1.length) hD) fun s3 G3 V3 => ?_)
  have hn3 := G3.stp.ns hn hLW
  refine ⟨_, hn3, fun h' hs' => ?_⟩
  obtain ⟨o, ho, hi, hm⟩ := ns_obj hn3
  have G4 : Go B (Ws env) as1 as' st' s1 { s3 with heap := h' } := ((G.of0.trans G3).mono (fun a ha => List.mem_append_left _ ha) : Go B (Ws env ++ [L]) as1 as' st' s1 s3).endObj (fun a ha => by rw [List.mem_singleton.mp ha]; exact hL) (List.mem_singleton.mpr rfl) h0L ho hi hm hs'.extBut
  exact wpAny_pure (wpAny_pure ⟨rfl, as', G1.of0.trans G4, V3.endObj ho hi hs'.extBut hLW fun c v q => ns_ne_cell hn3 q⟩)
end Mine
end OfMSound32
noncomputable section OfMiniCode
set_option autoImplicit false
namespace Mine
noncomputable def code0 : FX := (xCons
  (sIf (tCmp .eq (cVar 0) (cVar 1)) (xCons (sRet (cCst (.int 0))) xNil) xNil) (xCons
  (sIf (tCmp .eq (cLower (cVar 0)) (cLower (cVar 1))) (xCons (sRet (cCst (.int 1))) xNil) xNil) (xCons
  (sRet (cCst (.int 2))) xNil)))
noncomputable def code1 : FX := (xCons
  (sIf (tCmp .eq (cVar 0) (cVar 1)) (xCons (sRet (cCst (.int 0))) xNil) xNil) (xCons
  (sAsg [3] (cCst (.int 0))) (xCons
  (sWhl (tAnd (tVal (cSlice (cVar 0) (cVar 3) (cCst .none))) (tAnd (tVal (cSlice (cVar 1) (cVar 3) (cCst .none))) (tAnd (tCmp .eq (cSub (cVar 0) (cVar 3)) (cSub (cVar 1) (cVar 3))) (tEnd true)))) (xCons (sAug 3 .add (cCst (.int 1))) xNil)) (xCons
  (sAsg [0] (cSlice (cVar 0) (cVar 3) (cCst .none))) (xCons
  (sAsg [1] (cSlice (cVar 1) (cVar 3) (cCst .none))) (xCons
  (sAsg [4] (cCst (.int 0))) (xCons
  (sWhl (tAnd (tVal (cSlice (cVar 0) (cCst .none) (cOr (cVar 4) (cCst .none)))) (tAnd (tVal (cSlice (cVar 1) (cCst .none) (cOr (cVar 4) (cCst .none)))) (tAnd (tCmp .eq (cSub (cVar 0) (cBop .sub (cVar 4) (cCst (.int 1)))) (cSub (cVar 1) (cBop .sub (cVar 4) (cCst (.int 1))))) (tEnd true)))) (xCons (sAug 4 .sub (cCst (.int 1))) xNil)) (xCons
  (sAsg [0] (cSlice (cVar 0) (cCst .none) (cOr (cVar 4) (cCst .none)))) (xCons
  (sAsg [1] (cSlice (cVar 1) (cCst .none) (cOr (cVar 4) (cCst .none)))) (xCons
  (sIf (tOr (tNot (tVal (cVar 0))) (tOr (tNot (tVal (cVar 1))) (tEnd false))) (xCons (sRet (cBop .mul (cCst (.int 2)) (cBop .add (cCall (cCst (.bi .len)) (lCons (cVar 0) lNil)) (cCall (cCst (.bi .len)) (lCons (cVar 1) lNil))))) xNil) xNil) (xCons
  (sIf (tOr (tCmp .gt (cCall (cCst (.bi .len)) (lCons (cVar 0) lNil)) (cCst (.int 40))) (tOr (tCmp .gt (cCall (cCst (.bi .len)) (lCons (cVar 1) lNil)) (cCst (.int 40))) (tEnd false))) (xCons (sRet (cBop .add (cVar 2) (cCst (.int 1)))) xNil) xNil) (xCons
  (sIf (tCmp .lt (cCall (cCst (.bi .len)) (lCons (cVar 1) lNil)) (cCall (cCst (.bi .len)) (lCons (cVar 0) lNil))) (xCons (sAsgT [0, 1] (cTup (lCons (cVar 1) (lCons (cVar 0) lNil)))) xNil) xNil) (xCons
  (sIf (tCmp .gt (cBop .mul (cBop .sub (cCall (cCst (.bi .len)) (lCons (cVar 1) lNil)) (cCall (cCst (.bi .len)) (lCons (cVar 0) lNil))) (cCst (.int 2))) (cVar 2)) (xCons (sRet (cBop .add (cVar 2) (cCst (.int 1)))) xNil) xNil) (xCons
  (sAsg [5] (cCall (cCst (.bi .list)) (lCons (cCall (cCst (.bi .range)) (lCons (cCst (.int 2)) (lCons (cBop .mul (cCst (.int 2)) (cBop .add (cCall (cCst (.bi .len)) (lCons (cVar 0) lNil)) (cCst (.int 1)))) (lCons (cCst (.int 2)) lNil)))) lNil))) (xCons
  (sAsg [6] (cCst (.int 0))) (xCons
  (sFor 7 (cCall (cCst (.bi .range)) (lCons (cCall (cCst (.bi .len)) (lCons (cVar 1) lNil)) lNil)) (xCons (sAsg [8] (cSub (cVar 1) (cVar 7))) (xCons (sAsg [9, 6] (cBop .mul (cVar 7) (cCst (.int 2)))) (xCons (sAsg [10] (cCst (.int 9223372036854775807))) (xCons (sFor 11 (cCall (cCst (.bi .range)) (lCons (cCall (cCst (.bi .len)) (lCons (cVar 0) lNil)) lNil)) (xCons (sAsg [12] (cBop .add (cVar 9) (cCall (cCst (.fn 0)) (lCons (cVar 8) (lCons (cSub (cVar 0) (cVar 11)) lNil))))) (xCons (sAsg [9] (cSub (cVar 5) (cVar 11))) (xCons (sAsg [13] (cBop .add (cCall (cCst (.bi .min)) (lCons (cVar 6) (lCons (cVar 9) lNil))) (cCst (.int 2)))) (xCons (sAsg [6] (cCall (cCst (.bi .min)) (lCons (cVar 13) (lCons (cVar 12) lNil)))) (xCons (sSet (cVar 5) (cVar 11) (cVar 6)) (xCons (sIf (tCmp .lt (cVar 6) (cVar 10)) (xCons (sAsg [10] (cVar 6)) xNil) xNil) xNil))))))) (xCons (sIf (tCmp .gt (cVar 10) (cVar 2)) (xCons (sRet (cBop .add (cVar 2) (cCst (.int 1)))) xNil) xNil) xNil)))))) (xCons
  (sRet (cVar 6)) xNil)))))))))))))))))
noncomputable def code2 : FX := (xCons
  (sIf (tCmp .lt (cVar 2) (cCst (.int 0))) (xCons sNo xNil) xNil) (xCons
  (sIf (tCmp .is (cVar 3) (cCst .none)) (xCons (sAsg [3] (cCall (cCst (.bi .len)) (lCons (cVar 0) lNil))) xNil) xNil) (xCons
  (sIf (tCmp .is (cVar 4) (cCst .none)) (xCons (sWhl (tCmp .lt (cVar 2) (cVar 3)) (xCons (sAsg [5] (cBop .fdiv (cBop .add (cVar 2) (cVar 3)) (cCst (.int 2)))) (xCons (sIf (tCmp .lt (cVar 1) (cSub (cVar 0) (cVar 5))) (xCons (sAsg [3] (cVar 5)) xNil) (xCons (sAsg [2] (cBop .add (cVar 5) (cCst (.int 1)))) xNil)) xNil))) xNil) (xCons (sWhl (tCmp .lt (cVar 2) (cVar 3)) (xCons (sAsg [5] (cBop .fdiv (cBop .add (cVar 2) (cVar 3)) (cCst (.int 2)))) (xCons (sIf (tCmp .lt (cVar 1) (cCall (cVar 4) (lCons (cSub (cVar 0) (cVar 5)) lNil))) (xCons (sAsg [3] (cVar 5)) xNil) (xCons (sAsg [2] (cBop .add (cVar 5) (cCst (.int 1)))) xNil)) xNil))) xNil)) (xCons
  (sRet (cVar 2)) xNil))))
noncomputable def code3 : FX := (xCons
  (sIf (tCmp .is (cVar 4) (cCst .none)) (xCons (sAsg [2] (cCall (cCst (.fn 4)) (lCons (cVar 0) (lCons (cVar 1) (lCons (cVar 2) (lCons (cVar 3) lNil)))))) xNil) (xCons (sAsg [2] (cCallK (cCst (.fn 4)) (lCons (cVar 0) (lCons (cCall (cVar 4) (lCons (cVar 1) lNil)) (lCons (cVar 2) (lCons (cVar 3) lNil)))) (cVar 4))) xNil)) (xCons
  (sExp (cIns (cVar 0) (cVar 2) (cVar 1))) xNil))
noncomputable def code4 : FX := (xCons
  (sIf (tCmp .lt (cVar 2) (cCst (.int 0))) (xCons sNo xNil) xNil) (xCons
  (sIf (tCmp .is (cVar 3) (cCst .none)) (xCons (sAsg [3] (cCall (cCst (.bi .len)) (lCons (cVar 0) lNil))) xNil) xNil) (xCons
  (sIf (tCmp .is (cVar 4) (cCst .none)) (xCons (sWhl (tCmp .lt (cVar 2) (cVar 3)) (xCons (sAsg [5] (cBop .fdiv (cBop .add (cVar 2) (cVar 3)) (cCst (.int 2)))) (xCons (sIf (tCmp .lt (cSub (cVar 0) (cVar 5)) (cVar 1)) (xCons (sAsg [2] (cBop .add (cVar 5) (cCst (.int 1)))) xNil) (xCons (sAsg [3] (cVar 5)) xNil)) xNil))) xNil) (xCons (sWhl (tCmp .lt (cVar 2) (cVar 3)) (xCons (sAsg [5] (cBop .fdiv (cBop .add (cVar 2) (cVar 3)) (cCst (.int 2)))) (xCons (sIf (tCmp .lt (cCall (cVar 4) (lCons (cSub (cVar 0) (cVar 5)) lNil)) (cVar 1)) (xCons (sAsg [2] (cBop .add (cVar 5) (cCst (.int 1)))) xNil) (xCons (sAsg [3] (cVar 5)) xNil)) xNil))) xNil)) (xCons
  (sRet (cVar 2)) xNil))))
noncomputable def code5 : FX := (xCons
  (sAsg [3] (cCall (cCst (.bi .max)) (lCons (cVar 0) (lCons (cVar 1) (lCons (cVar 2) lNil))))) (xCons
  (sAsg [4] (cCall (cCst (.bi .min)) (lCons (cVar 0) (lCons (cVar 1) (lCons (cVar 2) lNil))))) (xCons
  (sAsg [5] (cBop .add (cVar 3) (cVar 4))) (xCons
  (sAsg [6] (cBop .sub (cVar 3) (cVar 4))) (xCons
  (sAsg [7] (cBop .div (cVar 5) (cCst (.flt 4611686018427387904)))) (xCons
  (sIf (tCmp .eq (cVar 4) (cVar 3)) (xCons (sRet (cTup (lCons (cCst (.flt 0)) (lCons (cVar 7) (lCons (cCst (.flt 0)) lNil))))) xNil) xNil) (xCons
  (sIf (tCmp .le (cVar 7) (cCst (.flt 4602678819172646912))) (xCons (sAsg [8] (cBop .div (cVar 6) (cVar 5))) xNil) (xCons (sAsg [8] (cBop .div (cVar 6) (cBop .sub (cBop .sub (cCst (.flt 4611686018427387904)) (cVar 3)) (cVar 4)))) xNil)) (xCons
  (sAsg [9] (cBop .div (cBop .sub (cVar 3) (cVar 0)) (cVar 6))) (xCons
  (sAsg [10] (cBop .div (cBop .sub (cVar 3) (cVar 1)) (cVar 6))) (xCons
  (sAsg [11] (cBop .div (cBop .sub (cVar 3) (cVar 2)) (cVar 6))) (xCons
  (sIf (tCmp .eq (cVar 0) (cVar 3)) (xCons (sAsg [12] (cBop .sub (cVar 11) (cVar 10))) xNil) (xCons (sIf (tCmp .eq (cVar 1) (cVar 3)) (xCons (sAsg [12] (cBop .sub (cBop .add (cCst (.flt 4611686018427387904)) (cVar 9)) (cVar 11))) xNil) (xCons (sAsg [12] (cBop .sub (cBop .add (cCst (.flt 4616189618054758400)) (cVar 10)) (cVar 9))) xNil)) xNil)) (xCons
  (sAsg [12] (cBop .mod (cBop .div (cVar 12) (cCst (.flt 4618441417868443648))) (cCst (.flt 4607182418800017408)))) (xCons
  (sRet (cTup (lCons (cVar 12) (lCons (cVar 7) (lCons (cVar 8) lNil))))) xNil)))))))))))))
noncomputable def code6 : FX := (xCons
  (sAsg [3] (cCall (cCst (.bi .max)) (lCons (cVar 0) (lCons (cVar 1) (lCons (cVar 2) lNil))))) (xCons
  (sAsg [4] (cCall (cCst (.bi .min)) (lCons (cVar 0) (lCons (cVar 1) (lCons (cVar 2) lNil))))) (xCons
  (sAsg [5] (cBop .sub (cVar 3) (cVar 4))) (xCons
  (sAsg [6] (cVar 3)) (xCons
  (sIf (tCmp .eq (cVar 4) (cVar 3)) (xCons (sRet (cTup (lCons (cCst (.flt 0)) (lCons (cCst (.flt 0)) (lCons (cVar 6) lNil))))) xNil) xNil) (xCons
  (sAsg [7] (cBop .div (cVar 5) (cVar 3))) (xCons
  (sAsg [8] (cBop .div (cBop .sub (cVar 3) (cVar 0)) (cVar 5))) (xCons
  (sAsg [9] (cBop .div (cBop .sub (cVar 3) (cVar 1)) (cVar 5))) (xCons
  (sAsg [10] (cBop .div (cBop .sub (cVar 3) (cVar 2)) (cVar 5))) (xCons
  (sIf (tCmp .eq (cVar 0) (cVar 3)) (xCons (sAsg [11] (cBop .sub (cVar 10) (cVar 9))) xNil) (xCons (sIf (tCmp .eq (cVar 1) (cVar 3)) (xCons (sAsg [11] (cBop .sub (cBop .add (cCst (.flt 4611686018427387904)) (cVar 8)) (cVar 10))) xNil) (xCons (sAsg [11] (cBop .sub (cBop .add (cCst (.flt 4616189618054758400)) (cVar 9)) (cVar 8))) xNil)) xNil)) (xCons
  (sAsg [11] (cBop .mod (cBop .div (cVar 11) (cCst (.flt 4618441417868443648))) (cCst (.flt 4607182418800017408)))) (xCons
  (sRet (cTup (lCons (cVar 11) (lCons (cVar 7) (lCons (cVar 6) lNil))))) xNil))))))))))))
noncomputable def code7 : FX := (xCons
  (sIf (tCmp .eq (cVar 1) (cCst (.flt 0))) (xCons (sRet (cTup (lCons (cVar 2) (lCons (cVar 2) (lCons (cVar 2) lNil))))) xNil) xNil) (xCons
  (sAsg [3] (cCall (cCst (.bi .int)) (lCons (cBop .mul (cVar 0) (cCst (.flt 4618441417868443648))) lNil))) (xCons
  (sAsg [4] (cBop .sub (cBop .mul (cVar 0) (cCst (.flt 4618441417868443648))) (cVar 3))) (xCons
  (sAsg [5] (cBop .mul (cVar 2) (cBop .sub (cCst (.flt 4607182418800017408)) (cVar 1)))) (xCons
  (sAsg [6] (cBop .mul (cVar 2) (cBop .sub (cCst (.flt 4607182418800017408)) (cBop .mul (cVar 1) (cVar 4))))) (xCons
  (sAsg [7] (cBop .mul (cVar 2) (cBop .sub (cCst (.flt 4607182418800017408)) (cBop .mul (cVar 1) (cBop .sub (cCst (.flt 4607182418800017408)) (cVar 4)))))) (xCons
  (sAsg [3] (cBop .mod (cVar 3) (cCst (.int 6)))) (xCons
  (sIf (tCmp .eq (cVar 3) (cCst (.int 0))) (xCons (sRet (cTup (lCons (cVar 2) (lCons (cVar 7) (lCons (cVar 5) lNil))))) xNil) xNil) (xCons
  (sIf (tCmp .eq (cVar 3) (cCst (.int 1))) (xCons (sRet (cTup (lCons (cVar 6) (lCons (cVar 2) (lCons (cVar 5) lNil))))) xNil) xNil) (xCons
  (sIf (tCmp .eq (cVar 3) (cCst (.int 2))) (xCons (sRet (cTup (lCons (cVar 5) (lCons (cVar 2) (lCons (cVar 7) lNil))))) xNil) xNil) (xCons
  (sIf (tCmp .eq (cVar 3) (cCst (.int 3))) (xCons (sRet (cTup (lCons (cVar 5) (lCons (cVar 6) (lCons (cVar 2) lNil))))) xNil) xNil) (xCons
  (sIf (tCmp .eq (cVar 3) (cCst (.int 4))) (xCons (sRet (cTup (lCons (cVar 7) (lCons (cVar 5) (lCons (cVar 2) lNil))))) xNil) xNil) (xCons
  (sIf (tCmp .eq (cVar 3) (cCst (.int 5))) (xCons (sRet (cTup (lCons (cVar 2) (lCons (cVar 5) (lCons (cVar 6) lNil))))) xNil) xNil) xNil)))))))))))))
noncomputable def code8 : FX := (xCons
  (sAsg [2] (cBop .mul (cLst (lCons (cTup (lCons (cCst (.int 0)) (lCons (cCst (.int 0)) (lCons (cCst (.int 0)) lNil)))) lNil)) (cVar 1))) (xCons
  (sFor 3 (cCall (cCst (.bi .range)) (lCons (cCst (.int 1)) (lCons (cBop .add (cVar 0) (cCst (.int 1))) lNil))) (xCons (sFor 4 (cCall (cCst (.bi .range)) (lCons (cBop .mul (cCst (.int 6)) (cVar 3)) lNil)) (xCons (sAsgT [5, 6, 7] (cComp 3 [1] false (cCall (cCst (.fn 7)) (lCons (cBop .div (cVar 4) (cBop .mul (cCst (.int 6)) (cVar 3))) (lCons (cCst (.flt 4607182418800017408)) (lCons (cVar 3) lNil)))) (cCall (cCst (.bi .int)) (lCons (cBop .add (cVar 1) (cCst (.flt 4602678819172646912))) lNil)))) (xCons (sSet (cVar 2) (cBop .mod (cBop .add (cBop .sub (cVar 5) (cVar 6)) (cBop .mul (cBop .add (cBop .mul (cCst (.int 3)) (cVar 0)) (cCst (.int 2))) (cBop .sub (cVar 6) (cVar 7)))) (cVar 1)) (cTup (lCons (cVar 5) (lCons (cVar 6) (lCons (cVar 7) lNil))))) xNil))) xNil)) (xCons
  (sRet (cVar 2)) xNil)))
noncomputable def code9 : FX := (xCons
  (sAsg [3] (cLst lNil)) (xCons
  (sAsg [4] (cBop .mul (cVar 2) (cBop .sub (cCst (.int 8)) (cVar 1)))) (xCons
  (sFor 5 (cCall (cCst (.bi .range)) (lCons (cCst (.int 6)) lNil)) (xCons (sAsg [6] (cCall (cCst (.fn 7)) (lCons (cBop .div (cBop .add (cBop .mul (cCst (.int 2)) (cBop .add (cVar 5) (cVar 0))) (cCst (.int 1))) (cCst (.int 12))) (lCons (cBop .div (cVar 1) (cCst (.int 4))) (lCons (cBop .div (cVar 2) (cCst (.int 4))) lNil))))) (xCons (sAsgT [7, 8, 9] (cCallS (cCst (.fn 5)) (cVar 6))) (xCons (sIf (tNot (tChain (cNeg (cCst (.int 1))) .lt (cBop .mul (cBop .sub (cBop .sub (cBop .mul (cVar 7) (cCst (.int 12))) (cBop .mul (cCst (.int 2)) (cBop .mod (cBop .add (cVar 5) (cVar 0)) (cCst (.int 6))))) (cCst (.int 1))) (cCst (.int 1048576))) .lt (cCst (.int 1)))) (xCons (sRet (cCst (.str []))) xNil) xNil) (xCons (sIf (tOr (tCmp .ne (cVar 8) (cBop .div (cVar 4) (cCst (.int 32)))) (tOr (tCmp .ne (cVar 9) (cBop .div (cBop .mul (cVar 2) (cVar 1)) (cCall (cCst (.bi .min)) (lCons (cVar 4) (lCons (cBop .sub (cCst (.int 32)) (cVar 4)) lNil))))) (tEnd false))) (xCons (sRet (cCst (.str []))) xNil) xNil) (xCons (sExp (cCallK (cCst (.fn 3)) (lCons (cVar 3) (lCons (cTup (lCons (cVar 7) (lCons (cSub (cCst (.str [114, 121, 103, 82, 89, 71])) (cVar 5)) lNil))) lNil)) cLam)) xNil)))))) (xCons
  (sExp (cCallK (cCst (.fn 3)) (lCons (cVar 3) (lCons (cTup (lCons (cSub (cSub (cVar 3) (cCst (.int 3))) (cCst (.int 0))) (lCons (cCst (.str [])) lNil))) lNil)) cLam)) (xCons
  (sIf (tCmp .ne (cSub (cSub (cVar 3) (cCst (.int 3))) (cCst (.int 1))) (cCst (.str []))) (xCons (sRet (cCst (.str []))) xNil) xNil) (xCons
  (sRet (cJoin (cCst (.str [])) (cComp 2 [1] false (cVar 3) (cSub (cVar 1) (cCst (.int 1)))))) xNil))))))
noncomputable def law5 : FX := (sAsg [6] (cCall (cCst (.fn 8)) (lCons (cVar 2) (lCons (cVar 3) lNil))))
noncomputable def law6 : FX := (sAsg [7] (cComp 6 [1] false (cCall (cCst (.bi .range)) (lCons (cCst (.int 6)) lNil)) (cSub (cCallS (cCst (.fn 6)) (cSub (cUp 6) (cBop .mod (cBop .pow (cUp 4) (cVar 1)) (cUp 3)))) (cCst (.int 0)))))
noncomputable def law7 : FX := (sAsg [8] (cComp2 5 1 (cCall (cCst (.bi .range)) (lCons (cCst (.int 1)) (lCons (cBop .add (cVar 2) (cCst (.int 1))) lNil))) 2 (cCall (cCst (.bi .range)) (lCons (cVar 1) lNil)) (cBop .add (cBop .sub (cVar 1) (cVar 2)) (cBop .mul (cUp 4) (cVar 2)))))
noncomputable def law8 : FX := (sAsgT [9, 10, 11] (cTup (lCons (cCst (.int 0)) (lCons (cLst lNil) (lCons (cCst (.int 1)) lNil)))))
noncomputable def law9 : FX := (sFor 12 (cVar 8) (xCons (sAsgT [13, 14] (cTup (lCons (cBop .fdiv (cBop .mul (cVar 5) (cVar 12)) (cVar 3)) (lCons (cBop .mod (cBop .mul (cVar 5) (cVar 12)) (cVar 3)) lNil)))) (xCons (sIf (tOr (tCmp .ne (cCall (cCst (.fn 100)) (lCons (cBop .mul (cVar 5) (cVar 12)) (lCons (cVar 3) lNil))) (cTup (lCons (cVar 13) (lCons (cVar 14) lNil)))) (tOr (tCmp .ne (cCall (cCst (.fn 100)) (lCons (cBop .mul (cNeg (cVar 5)) (cVar 12)) (lCons (cNeg (cVar 3)) lNil))) (cTup (lCons (cVar 13) (lCons (cNeg (cVar 14)) lNil)))) (tEnd false))) (xCons (sRet (cCst (.bool false))) xNil) xNil) (xCons (sAsg [15] (cBop .sub (cCall (cCst (.fn 2)) (lCons (cVar 7) (lCons (cSub (cCallS (cCst (.fn 6)) (cSub (cVar 6) (cVar 14))) (cCst (.int 0))) lNil))) (cCst (.int 1)))) (xCons (sExp (cApp (cVar 10) (cBop .mod (cBop .mul (cVar 14) (cBop .pow (cVar 4) (cBop .sub (cCst (.int 6)) (cVar 15)))) (cVar 3)))) (xCons (sAsg [9] (cBop .add (cVar 9) (cVar 15))) (xCons (sAsg [11] (cSub (cCall (cCst (.fn 100)) (lCons (cBop .mul (cVar 11) (cVar 5)) (lCons (cVar 3) lNil))) (cCst (.int 1)))) xNil)))))))
noncomputable def law10 : FX := (sIf (tOr (tCmp .ne (cCall (cCst (.bi .sorted)) (lCons (cVar 10) lNil)) (cCall (cCst (.bi .sorted)) (lCons (cVar 8) lNil))) (tOr (tCmp .ne (cVar 11) (cBop .mod (cBop .pow (cVar 4) (cVar 9)) (cVar 3))) (tEnd false))) (xCons (sRet (cCst (.bool false))) xNil) xNil)
noncomputable def law11 : FX := (sAsg [16] (cCall (cCst (.bi .int)) (lCons (cCmp .isin (cBop .mod (cVar 5) (cVar 3)) (cComp 3 [1] false (cCall (cCst (.bi .range)) (lCons (cVar 3) lNil)) (cBop .mod (cBop .pow (cVar 1) (cCst (.int 2))) (cUp 3)))) lNil)))
noncomputable def law12 : FX := (sAsg [17] (cCall (cCst (.bi .int)) (lCons (cCmp .isin (cBop .mod (cVar 5) (cVar 3)) (cComp 3 [1] false (cCall (cCst (.bi .range)) (lCons (cVar 3) lNil)) (cBop .mod (cBop .pow (cVar 1) (cCst (.int 3))) (cUp 3)))) lNil)))
noncomputable def law13 : FX := (sAsg [18] (cSub (cSub (cLst (lCons (cLst (lCons (cCst (.int 4)) (lCons (cCst (.int 6)) lNil))) (lCons (cLst (lCons (cCst (.int 8)) (lCons (cCst (.int 0)) lNil))) lNil))) (cVar 16)) (cVar 17)))
noncomputable def law14 : FX := (sAsg [19] (cCall (cCst (.fn 9)) (lCons (cVar 9) (lCons (cBop .add (cCst (.int 1)) (cBop .mod (cSub (cVar 1) (cCst (.int 2))) (cCst (.int 4)))) (lCons (cBop .add (cCst (.int 1)) (cBop .mod (cBop .fdiv (cSub (cVar 1) (cCst (.int 2))) (cCst (.int 4))) (cCst (.int 4)))) lNil)))))
noncomputable def law15 : FX := (sIf (tOr (tCmp .ne (cCall (cCst (.fn 1)) (lCons (cCst (.str [107, 114, 121, 103, 82, 89, 71, 119])) (lCons (cBop .add (cBop .add (cCst (.str [107])) (cVar 19)) (cCst (.str [119]))) (lCons (cVar 18) lNil)))) (cVar 18)) (tOr (tCmp .ne (cCall (cCst (.fn 1)) (lCons (cCst (.str [114, 121, 103, 82, 89, 71])) (lCons (cVar 19) (lCons (cCst (.int 0)) lNil)))) (cCall (cCst (.bi .min)) (lCons (cVar 18) (lCons (cCst (.int 1)) lNil)))) (tEnd false))) (xCons (sRet (cCst (.bool false))) xNil) xNil)
noncomputable def law16 : FX := (sAsg [20] (cLst (lCons (cTup (lCons (cCst (.str [107])) (lCons (cCst (.int 9)) lNil))) (lCons (cTup (lCons (cCst (.str [107])) (lCons (cCst (.int 10)) lNil))) (lCons (cTup (lCons (cSlice (cVar 19) (cCst (.int 2)) (cCst (.int 4))) (lCons (cCst (.int 8)) lNil))) (lCons (cTup (lCons (cBop .add (cVar 19) (cVar 19)) (lCons (cCst (.int 0)) lNil))) (lCons (cTup (lCons (cBop .mul (cCst (.str [107])) (cCst (.int 41))) (lCons (cCst (.int 99)) lNil))) lNil)))))))
noncomputable def law17 : FX := (sIf (tCmp .ne (cComp 5 [1, 2] true (cVar 20) (cCall (cCst (.fn 1)) (lCons (cUp 19) (lCons (cVar 1) (lCons (cVar 2) lNil))))) (cLst (lCons (cCst (.int 10)) (lCons (cCst (.int 11)) (lCons (cCst (.int 8)) (lCons (cCst (.int 12)) (lCons (cCst (.int 100)) lNil))))))) (xCons (sRet (cCst (.bool false))) xNil) xNil)
noncomputable def law18 : FX := (sRet (cCmp .eq (cCall (cCst (.fn 1)) (lCons (cVar 19) (lCons (cCst (.str [114, 121, 103, 82, 89, 71])) (lCons (cBop .sub (cVar 18) (cCst (.int 1))) lNil)))) (cVar 18)))
noncomputable def fns : Fns := fun n => match n with
  | 0 => some ⟨2, 4, [], false, code0⟩
  | 1 => some ⟨3, 21, [], false, code1⟩
  | 2 => some ⟨4, 8, [.int 0, .none], true, code2⟩
  | 3 => some ⟨4, 6, [.int 0, .none], true, code3⟩
  | 4 => some ⟨4, 8, [.int 0, .none], true, code4⟩
  | 5 => some ⟨3, 15, [], false, code5⟩
  | 6 => some ⟨3, 14, [], false, code6⟩
  | 7 => some ⟨3, 9, [], false, code7⟩
  | 8 => some ⟨2, 10, [], false, code8⟩
  | 9 => some ⟨3, 15, [], false, code9⟩
  | _ => none
noncomputable def lawA : FX := xCons law5 (xCons law6 (xCons law7 (xCons law8 xNil)))
noncomputable def lawB : FX := xCons law9 (xCons law10 (xCons law11 (xCons law12 (xCons law13 xNil))))
noncomputable def lawC : FX := xCons law14 xNil
noncomputable def lawD : FX := xCons law15 (xCons law16 (xCons law17 (xCons law18 xNil)))
end Mine
end OfMiniCode
noncomputable section OfMSound33
set_option autoImplicit false
set_option linter.unusedVariables false
namespace Mine
open PySem PySem.Calls PyProof.Rows PySem.SeqAt PySem.W

noncomputable def bodOf : Stmt → List Stmt
  | .FunctionDef _ _ b _ _ _ _ _ _ _ => b
  | _ => []
noncomputable def bod (k : Nat) : List Stmt := bodOf (PySem.Challenge.pw_ty0060_01.main.body.getD k (.Pass ⟨0, 0, 0, 0⟩))
noncomputable def stm (k i : Nat) : Stmt := (bod k).getD i (.Pass ⟨0, 0, 0, 0⟩)
structure Names (B : Base) : Prop where
  f0 : B.mg (Str.ofString "_substitution_cost") = some (.ref (B.fa 0))
  f1 : B.mg (Str.ofString "_levenshtein_distance") = some (.ref (B.fa 1))
  f2 : B.mg (Str.ofString "bisect_right") = some (.ref (B.fa 2))
  f3 : B.mg (Str.ofString "insort_left") = some (.ref (B.fa 3))
  f4 : B.mg (Str.ofString "bisect_left") = some (.ref (B.fa 4))
  f5 : B.mg (Str.ofString "rgb_to_hls") = some (.ref (B.fa 5))
  f6 : B.mg (Str.ofString "rgb_to_hsv") = some (.ref (B.fa 6))
  f7 : B.mg (Str.ofString "hsv_to_rgb") = some (.ref (B.fa 7))
  f8 : B.mg (Str.ofString "_law_paints") = some (.ref (B.fa 8))
  f9 : B.mg (Str.ofString "_law_names") = some (.ref (B.fa 9))
  f100 : B.mg (Str.ofString "int_divmod") = some (.ref (B.fa 100))
  k_MOVE_COST : ∃ t, B.mg (Str.ofString "_MOVE_COST") = some (.int 2 t)
  k_CASE_COST : ∃ t, B.mg (Str.ofString "_CASE_COST") = some (.int 1 t)
  k_MAX_STRING_SIZE : ∃ t, B.mg (Str.ofString "_MAX_STRING_SIZE") = some (.int 40 t)
  n_len : B.mg (Str.ofString "len") = none
  n_range : B.mg (Str.ofString "range") = none
  n_list : B.mg (Str.ofString "list") = none
  n_min : B.mg (Str.ofString "min") = none
  n_max : B.mg (Str.ofString "max") = none
  n_int : B.mg (Str.ofString "int") = none
  n_sorted : B.mg (Str.ofString "sorted") = none
  n_enumerate : B.mg (Str.ofString "enumerate") = none
  n_sum : B.mg (Str.ofString "sum") = none
  b_len : B.mb (Str.ofString "len") = some (biVal .len)
  b_range : B.mb (Str.ofString "range") = some (biVal .range)
  b_list : B.mb (Str.ofString "list") = some (biVal .list)
  b_min : B.mb (Str.ofString "min") = some (biVal .min)
  b_max : B.mb (Str.ofString "max") = some (biVal .max)
  b_int : B.mb (Str.ofString "int") = some (biVal .int)
  b_sorted : B.mb (Str.ofString "sorted") = some (biVal .sorted)
  b_enumerate : B.mb (Str.ofString "enumerate") = some (.type "enumerate")
  b_sum : B.mb (Str.ofString "sum") = some (.builtin "sum")
variable {prog : Program} {w : World} {B : Base} {C : Ctx}
theorem SE.globE {x : Str} {p : Pos} {v : MV} {f : Tok → Value} (hl : C.nm.lookup x = some .globalImplicit) (hg : ∃ t, B.mg x = some (f t)) (r : ∀ t as h, VRel B as h v (f t)) (hd : (x == ("__debug__" : Str)) = false) : SE prog w B C (.Name x p) (cCst v) := by
  obtain ⟨t, hg⟩ := hg
  exact SE.glob hl hg (r t) hd
noncomputable def dumEnv (nm : List (Str × NameKind)) : Env := { scope := { kind := .function, names := nm, isGenerator := false, isCoroutine := false, more := [] }, locals := 0, globals := 0, cells := [] }
theorem swapped_dum {env : Env} {nm : List (Str × NameKind)} {ts : List Expr} {v : Expr} (hk : env.scope.kind = .function) (hn : env.scope.names = nm) : swappedStores ts v env = swappedStores ts v (dumEnv nm) := by
  rcases env with ⟨⟨kind, names⟩⟩
  cases hk; cases hn; rfl
theorem swaps_dum {env : Env} {nm : List (Str × NameKind)} {v : Expr} {t : Option Expr} {n : Nat} (hk : env.scope.kind = .function) (hn : env.scope.names = nm) : swapsWith v t n env = swapsWith v t n (dumEnv nm) := by
  rcases env with ⟨⟨kind, names⟩⟩
  cases hk; cases hn; rfl
end Mine
end OfMSound33
noncomputable section OfMSound34
set_option autoImplicit false
set_option linter.unusedVariables false
namespace Mine
open PySem PySem.Calls PyProof.Rows PySem.SeqAt PySem.W
variable {prog : Program} {w : World} {B : Base} {C : Ctx}
noncomputable def law1 : FX := sAsg [2] (cBop .add (cCst (.int 1)) (cBop .mod (cSub (cVar 1) (cCst (.int 0))) (cCst (.int 3))))
noncomputable def law2 : FX := sAsgT [3, 4] (cTup (lCons (cBop .add (cBop .mul (cBop .mul (cCst (.int 3)) (cVar 2)) (cBop .add (cVar 2) (cCst (.int 1)))) (cCst (.int 1))) (lCons (cBop .add (cBop .mul (cCst (.int 3)) (cVar 2)) (cCst (.int 2))) lNil)))
noncomputable def law3 : FX := sAsg [5] (cBop .sub (cBop .mod (cSub (cVar 1) (cCst (.int 1))) (cCst (.int 8001))) (cCst (.int 4000)))
noncomputable def law4 : FX := sAsg [5] (cBop .add (cVar 5) (cCall (cCst (.bi .int)) (lCons (cCmp .eq (cBop .mod (cVar 5) (cVar 3)) (cCst (.int 0))) lNil)))
noncomputable def nm0 : List (Str × NameKind) := [(Str.ofString "ch_a", .local), (Str.ofString "ch_b", .local), (Str.ofString "_CASE_COST", .globalImplicit), (Str.ofString "_MOVE_COST", .globalImplicit)]
noncomputable def cx0 : Ctx := ⟨nm0, [], false⟩
-- _substitution_cost
theorem code0_ok (N : Names B) : SXs prog w B cx0 (bod 4) code0 :=
  (SXs.cons 
  (SX.ifs (ST.cmp (o := .eq) (SE.var rfl (.inl rfl) (by decide +kernel)) (SE.var rfl (.inl rfl) (by decide +kernel)) rfl) (SXs.cons (SX.ret SE.intc) SXs.nil) SXs.nil) (SXs.cons 
  (SX.ifs (ST.cmp (o := .eq) (SE.lower (SE.var rfl (.inl rfl) (by decide +kernel)) (fun _ => rfl) rfl) (SE.lower (SE.var rfl (.inl rfl) (by decide +kernel)) (fun _ => rfl) rfl) rfl) (SXs.cons (SX.ret (SE.globE (f := fun t => .int _ t) (by decide +kernel) N.k_CASE_COST (fun _ _ _ => .int _ _) (by decide +kernel))) SXs.nil) SXs.nil) (SXs.cons 
  (SX.ret (SE.globE (f := fun t => .int _ t) (by decide +kernel) N.k_MOVE_COST (fun _ _ _ => .int _ _) (by decide +kernel))) SXs.nil)))
noncomputable def nm1 : List (Str × NameKind) := [(Str.ofString "a", .local), (Str.ofString "b", .local), (Str.ofString "max_cost", .local), (Str.ofString "pre", .local), (Str.ofString "post", .local), (Str.ofString "row", .local), (Str.ofString "result", .local), (Str.ofString "bindex", .local), (Str.ofString "bchar", .local), (Str.ofString "distance", .local), (Str.ofString "minimum", .local), (Str.ofString "index", .local), (Str.ofString "substitute", .local), (Str.ofString "insert_delete", .local), (Str.ofString "_MOVE_COST", .globalImplicit), (Str.ofString "len", .globalImplicit), (Str.ofString "_MAX_STRING_SIZE", .globalImplicit), (Str.ofString "list", .globalImplicit), (Str.ofString "range", .globalImplicit), (Str.ofString "_substitution_cost", .globalImplicit), (Str.ofString "min", .globalImplicit)]
noncomputable def cx1 : Ctx := ⟨nm1, [], false⟩
-- _levenshtein_distance
theorem code1_ok (N : Names B) : SXs prog w B cx1 (bod 5) code1 :=
  (SXs.cons 
  (SX.ifs (ST.cmp (o := .eq) (SE.var rfl (.inl rfl) (by decide +kernel)) (SE.var rfl (.inl rfl) (by decide +kernel)) rfl) (SXs.cons (SX.ret SE.intc) SXs.nil) SXs.nil) (SXs.cons 
  (SX.asg1 SE.intc rfl (.inl rfl) (fun _ _ _ => rfl)) (SXs.cons 
  (SX.whl (ST.bool (STA.andCons (ST.val (SE.slice (SE.var rfl (.inl rfl) (by decide +kernel)) (SP.some (SE.var rfl (.inl rfl) (by decide +kernel))) SP.none (fun _ _ => rfl)) (fun _ => rfl)) (STA.andCons (ST.val (SE.slice (SE.var rfl (.inl rfl) (by decide +kernel)) (SP.some (SE.var rfl (.inl rfl) (by decide +kernel))) SP.none (fun _ _ => rfl)) (fun _ => rfl)) (STA.andCons (ST.cmp (o := .eq) (SE.sub (SE.var rfl (.inl rfl) (by decide +kernel)) (SE.var rfl (.inl rfl) (by decide +kernel)) (fun _ _ => rfl)) (SE.sub (SE.var rfl (.inl rfl) (by decide +kernel)) (SE.var rfl (.inl rfl) (by decide +kernel)) (fun _ _ => rfl)) rfl) STA.andNil)))) (SXs.cons (SX.aug (o := .add) SE.intc rfl rfl) SXs.nil)) (SXs.cons 
  (SX.asg1 (SE.slice (SE.var rfl (.inl rfl) (by decide +kernel)) (SP.some (SE.var rfl (.inl rfl) (by decide +kernel))) SP.none (fun _ _ => rfl)) rfl (.inl rfl) (fun _ _ _ => rfl)) (SXs.cons 
  (SX.asg1 (SE.slice (SE.var rfl (.inl rfl) (by decide +kernel)) (SP.some (SE.var rfl (.inl rfl) (by decide +kernel))) SP.none (fun _ _ => rfl)) rfl (.inl rfl) (fun _ _ _ => rfl)) (SXs.cons 
  (SX.asg1 SE.intc rfl (.inl rfl) (fun _ _ _ => rfl)) (SXs.cons 
  (SX.whl (ST.bool (STA.andCons (ST.val (SE.slice (SE.var rfl (.inl rfl) (by decide +kernel)) SP.none (SP.some (SE.or (SE.var rfl (.inl rfl) (by decide +kernel)) SE.nonec)) (fun _ _ => rfl)) (fun _ => rfl)) (STA.andCons (ST.val (SE.slice (SE.var rfl (.inl rfl) (by decide +kernel)) SP.none (SP.some (SE.or (SE.var rfl (.inl rfl) (by decide +kernel)) SE.nonec)) (fun _ _ => rfl)) (fun _ => rfl)) (STA.andCons (ST.cmp (o := .eq) (SE.sub (SE.var rfl (.inl rfl) (by decide +kernel)) (SE.bop (o := .sub) (SE.var rfl (.inl rfl) (by decide +kernel)) SE.intc) (fun _ _ => rfl)) (SE.sub (SE.var rfl (.inl rfl) (by decide +kernel)) (SE.bop (o := .sub) (SE.var rfl (.inl rfl) (by decide +kernel)) SE.intc) (fun _ _ => rfl)) rfl) STA.andNil)))) (SXs.cons (SX.aug (o := .sub) SE.intc rfl rfl) SXs.nil)) (SXs.cons 
  (SX.asg1 (SE.slice (SE.var rfl (.inl rfl) (by decide +kernel)) SP.none (SP.some (SE.or (SE.var rfl (.inl rfl) (by decide +kernel)) SE.nonec)) (fun _ _ => rfl)) rfl (.inl rfl) (fun _ _ _ => rfl)) (SXs.cons 
  (SX.asg1 (SE.slice (SE.var rfl (.inl rfl) (by decide +kernel)) SP.none (SP.some (SE.or (SE.var rfl (.inl rfl) (by decide +kernel)) SE.nonec)) (fun _ _ => rfl)) rfl (.inl rfl) (fun _ _ _ => rfl)) (SXs.cons 
  (SX.ifs (ST.bool (STA.orCons (ST.not (ST.val (SE.var rfl (.inl rfl) (by decide +kernel)) (fun _ => rfl))) (STA.orCons (ST.not (ST.val (SE.var rfl (.inl rfl) (by decide +kernel)) (fun _ => rfl))) STA.orNil))) (SXs.cons (SX.ret (SE.bop (o := .mul) (SE.globE (f := fun t => .int _ t) (by decide +kernel) N.k_MOVE_COST (fun _ _ _ => .int _ _) (by decide +kernel)) (SE.bop (o := .add) (SE.callP (SE.built (by decide +kernel) N.n_len N.b_len (fun _ _ => .bi .len) (by decide +kernel)) (SL.cons (SE.var rfl (.inl rfl) (by decide +kernel)) SL.nil (fun _ _ => rfl)) (fun _ _ => rfl) (fun _ => rfl) (fun _ => rfl)) (SE.callP (SE.built (by decide +kernel) N.n_len N.b_len (fun _ _ => .bi .len) (by decide +kernel)) (SL.cons (SE.var rfl (.inl rfl) (by decide +kernel)) SL.nil (fun _ _ => rfl)) (fun _ _ => rfl) (fun _ => rfl) (fun _ => rfl))))) SXs.nil) SXs.nil) (SXs.cons 
  (SX.ifs (ST.bool (STA.orCons (ST.cmp (o := .gt) (SE.callP (SE.built (by decide +kernel) N.n_len N.b_len (fun _ _ => .bi .len) (by decide +kernel)) (SL.cons (SE.var rfl (.inl rfl) (by decide +kernel)) SL.nil (fun _ _ => rfl)) (fun _ _ => rfl) (fun _ => rfl) (fun _ => rfl)) (SE.globE (f := fun t => .int _ t) (by decide +kernel) N.k_MAX_STRING_SIZE (fun _ _ _ => .int _ _) (by decide +kernel)) rfl) (STA.orCons (ST.cmp (o := .gt) (SE.callP (SE.built (by decide +kernel) N.n_len N.b_len (fun _ _ => .bi .len) (by decide +kernel)) (SL.cons (SE.var rfl (.inl rfl) (by decide +kernel)) SL.nil (fun _ _ => rfl)) (fun _ _ => rfl) (fun _ => rfl) (fun _ => rfl)) (SE.globE (f := fun t => .int _ t) (by decide +kernel) N.k_MAX_STRING_SIZE (fun _ _ _ => .int _ _) (by decide +kernel)) rfl) STA.orNil))) (SXs.cons (SX.ret (SE.bop (o := .add) (SE.var rfl (.inl rfl) (by decide +kernel)) SE.intc)) SXs.nil) SXs.nil) (SXs.cons 
  (SX.ifs (ST.cmp (o := .lt) (SE.callP (SE.built (by decide +kernel) N.n_len N.b_len (fun _ _ => .bi .len) (by decide +kernel)) (SL.cons (SE.var rfl (.inl rfl) (by decide +kernel)) SL.nil (fun _ _ => rfl)) (fun _ _ => rfl) (fun _ => rfl) (fun _ => rfl)) (SE.callP (SE.built (by decide +kernel) N.n_len N.b_len (fun _ _ => .bi .len) (by decide +kernel)) (SL.cons (SE.var rfl (.inl rfl) (by decide +kernel)) SL.nil (fun _ _ => rfl)) (fun _ _ => rfl) (fun _ => rfl) (fun _ => rfl)) rfl) (SXs.cons (SX.asgW (xs := [Str.ofString "a", Str.ofString "b"]) (SE.tup (SL.cons (SE.var rfl (.inl rfl) (by decide +kernel)) (SL.cons (SE.var rfl (.inl rfl) (by decide +kernel)) SL.nil (fun _ _ => rfl)) (fun _ _ => rfl)) (by decide)) (.cons rfl (.cons rfl .nil)) rfl (fun _ _ hl => setsL_rev2 (by decide) hl) (fun _ => rfl) (fun _ hk hn => (swapped_dum hk hn).trans rfl)) SXs.nil) SXs.nil) (SXs.cons 
  (SX.ifs (ST.cmp (o := .gt) (SE.bop (o := .mul) (SE.bop (o := .sub) (SE.callP (SE.built (by decide +kernel) N.n_len N.b_len (fun _ _ => .bi .len) (by decide +kernel)) (SL.cons (SE.var rfl (.inl rfl) (by decide +kernel)) SL.nil (fun _ _ => rfl)) (fun _ _ => rfl) (fun _ => rfl) (fun _ => rfl)) (SE.callP (SE.built (by decide +kernel) N.n_len N.b_len (fun _ _ => .bi .len) (by decide +kernel)) (SL.cons (SE.var rfl (.inl rfl) (by decide +kernel)) SL.nil (fun _ _ => rfl)) (fun _ _ => rfl) (fun _ => rfl) (fun _ => rfl))) (SE.globE (f := fun t => .int _ t) (by decide +kernel) N.k_MOVE_COST (fun _ _ _ => .int _ _) (by decide +kernel))) (SE.var rfl (.inl rfl) (by decide +kernel)) rfl) (SXs.cons (SX.ret (SE.bop (o := .add) (SE.var rfl (.inl rfl) (by decide +kernel)) SE.intc)) SXs.nil) SXs.nil) (SXs.cons 
  (SX.asg1 (SE.callP (SE.built (by decide +kernel) N.n_list N.b_list (fun _ _ => .bi .list) (by decide +kernel)) (SL.cons (SE.callP (SE.built (by decide +kernel) N.n_range N.b_range (fun _ _ => .bi .range) (by decide +kernel)) (SL.cons (SE.globE (f := fun t => .int _ t) (by decide +kernel) N.k_MOVE_COST (fun _ _ _ => .int _ _) (by decide +kernel)) (SL.cons (SE.bop (o := .mul) (SE.globE (f := fun t => .int _ t) (by decide +kernel) N.k_MOVE_COST (fun _ _ _ => .int _ _) (by decide +kernel)) (SE.bop (o := .add) (SE.callP (SE.built (by decide +kernel) N.n_len N.b_len (fun _ _ => .bi .len) (by decide +kernel)) (SL.cons (SE.var rfl (.inl rfl) (by decide +kernel)) SL.nil (fun _ _ => rfl)) (fun _ _ => rfl) (fun _ => rfl) (fun _ => rfl)) SE.intc)) (SL.cons (SE.globE (f := fun t => .int _ t) (by decide +kernel) N.k_MOVE_COST (fun _ _ _ => .int _ _) (by decide +kernel)) SL.nil (fun _ _ => rfl)) (fun _ _ => rfl)) (fun _ _ => rfl)) (fun _ _ => rfl) (fun _ => rfl) (fun _ => rfl)) SL.nil (fun _ _ => rfl)) (fun _ _ => rfl) (fun _ => rfl) (fun _ => rfl)) rfl (.inl rfl) (fun _ _ _ => rfl)) (SXs.cons 
  (SX.asg1 SE.intc rfl (.inl rfl) (fun _ _ _ => rfl)) (SXs.cons 
  (SX.for (SE.callP (SE.built (by decide +kernel) N.n_range N.b_range (fun _ _ => .bi .range) (by decide +kernel)) (SL.cons (SE.callP (SE.built (by decide +kernel) N.n_len N.b_len (fun _ _ => .bi .len) (by decide +kernel)) (SL.cons (SE.var rfl (.inl rfl) (by decide +kernel)) SL.nil (fun _ _ => rfl)) (fun _ _ => rfl) (fun _ => rfl) (fun _ => rfl)) SL.nil (fun _ _ => rfl)) (fun _ _ => rfl) (fun _ => rfl) (fun _ => rfl)) (SXs.cons (SX.asg1 (SE.sub (SE.var rfl (.inl rfl) (by decide +kernel)) (SE.var rfl (.inl rfl) (by decide +kernel)) (fun _ _ => rfl)) rfl (.inl rfl) (fun _ _ _ => rfl)) (SXs.cons (SX.asg2 (SE.bop (o := .mul) (SE.var rfl (.inl rfl) (by decide +kernel)) (SE.globE (f := fun t => .int _ t) (by decide +kernel) N.k_MOVE_COST (fun _ _ _ => .int _ _) (by decide +kernel))) (.cons rfl (.inl rfl) (.cons rfl (.inl rfl) .nil))) (SXs.cons (SX.asg1 SE.intc rfl (.inl rfl) (fun _ _ _ => rfl)) (SXs.cons (SX.for (SE.callP (SE.built (by decide +kernel) N.n_range N.b_range (fun _ _ => .bi .range) (by decide +kernel)) (SL.cons (SE.callP (SE.built (by decide +kernel) N.n_len N.b_len (fun _ _ => .bi .len) (by decide +kernel)) (SL.cons (SE.var rfl (.inl rfl) (by decide +kernel)) SL.nil (fun _ _ => rfl)) (fun _ _ => rfl) (fun _ => rfl) (fun _ => rfl)) SL.nil (fun _ _ => rfl)) (fun _ _ => rfl) (fun _ => rfl) (fun _ => rfl)) (SXs.cons (SX.asg1 (SE.bop (o := .add) (SE.var rfl (.inl rfl) (by decide +kernel)) (SE.callP (SE.glob (by decide +kernel) N.f0 (fun _ _ => .fn 0) (by decide +kernel)) (SL.cons (SE.var rfl (.inl rfl) (by decide +kernel)) (SL.cons (SE.sub (SE.var rfl (.inl rfl) (by decide +kernel)) (SE.var rfl (.inl rfl) (by decide +kernel)) (fun _ _ => rfl)) SL.nil (fun _ _ => rfl)) (fun _ _ => rfl)) (fun _ _ => rfl) (fun _ => rfl) (fun _ => rfl))) rfl (.inl rfl) (fun _ _ _ => rfl)) (SXs.cons (SX.asg1 (SE.sub (SE.var rfl (.inl rfl) (by decide +kernel)) (SE.var rfl (.inl rfl) (by decide +kernel)) (fun _ _ => rfl)) rfl (.inl rfl) (fun _ _ _ => rfl)) (SXs.cons (SX.asg1 (SE.bop (o := .add) (SE.callP (SE.built (by decide +kernel) N.n_min N.b_min (fun _ _ => .bi .min) (by decide +kernel)) (SL.cons (SE.var rfl (.inl rfl) (by decide +kernel)) (SL.cons (SE.var rfl (.inl rfl) (by decide +kernel)) SL.nil (fun _ _ => rfl)) (fun _ _ => rfl)) (fun _ _ => rfl) (fun _ => rfl) (fun _ => rfl)) (SE.globE (f := fun t => .int _ t) (by decide +kernel) N.k_MOVE_COST (fun _ _ _ => .int _ _) (by decide +kernel))) rfl (.inl rfl) (fun _ _ _ => rfl)) (SXs.cons (SX.asg1 (SE.callP (SE.built (by decide +kernel) N.n_min N.b_min (fun _ _ => .bi .min) (by decide +kernel)) (SL.cons (SE.var rfl (.inl rfl) (by decide +kernel)) (SL.cons (SE.var rfl (.inl rfl) (by decide +kernel)) SL.nil (fun _ _ => rfl)) (fun _ _ => rfl)) (fun _ _ => rfl) (fun _ => rfl) (fun _ => rfl)) rfl (.inl rfl) (fun _ _ _ => rfl)) (SXs.cons (SX.set (SE.var rfl (.inl rfl) (by decide +kernel)) (SE.var rfl (.inl rfl) (by decide +kernel)) (SE.var rfl (.inl rfl) (by decide +kernel)) (fun _ => rfl)) (SXs.cons (SX.ifs (ST.cmp (o := .lt) (SE.var rfl (.inl rfl) (by decide +kernel)) (SE.var rfl (.inl rfl) (by decide +kernel)) rfl) (SXs.cons (SX.asg1 (SE.var rfl (.inl rfl) (by decide +kernel)) rfl (.inl rfl) (fun _ _ _ => rfl)) SXs.nil) SXs.nil) SXs.nil)))))) rfl (.inl rfl) (fun _ _ => rfl)) (SXs.cons (SX.ifs (ST.cmp (o := .gt) (SE.var rfl (.inl rfl) (by decide +kernel)) (SE.var rfl (.inl rfl) (by decide +kernel)) rfl) (SXs.cons (SX.ret (SE.bop (o := .add) (SE.var rfl (.inl rfl) (by decide +kernel)) SE.intc)) SXs.nil) SXs.nil) SXs.nil))))) rfl (.inl rfl) (fun _ _ => rfl)) (SXs.cons 
  (SX.ret (SE.var rfl (.inl rfl) (by decide +kernel))) SXs.nil)))))))))))))))))
noncomputable def nm2 : List (Str × NameKind) := [(Str.ofString "a", .local), (Str.ofString "x", .local), (Str.ofString "lo", .local), (Str.ofString "hi", .local), (Str.ofString "key", .local), (Str.ofString "mid", .local), (Str.ofString "ValueError", .globalImplicit), (Str.ofString "len", .globalImplicit)]
noncomputable def cx2 : Ctx := ⟨nm2, [], false⟩
-- bisect_right
theorem code2_ok (N : Names B) : SXs prog w B cx2 (bod 15) code2 :=
  (SXs.cons 
  (SX.ifs (ST.cmp (o := .lt) (SE.var rfl (.inl rfl) (by decide +kernel)) SE.intc rfl) (SXs.cons SX.no SXs.nil) SXs.nil) (SXs.cons 
  (SX.ifs (ST.cmp (o := .is) (SE.var rfl (.inl rfl) (by decide +kernel)) SE.nonec rfl) (SXs.cons (SX.asg1 (SE.callP (SE.built (by decide +kernel) N.n_len N.b_len (fun _ _ => .bi .len) (by decide +kernel)) (SL.cons (SE.var rfl (.inl rfl) (by decide +kernel)) SL.nil (fun _ _ => rfl)) (fun _ _ => rfl) (fun _ => rfl) (fun _ => rfl)) rfl (.inl rfl) (fun _ _ _ => rfl)) SXs.nil) SXs.nil) (SXs.cons 
  (SX.ifs (ST.cmp (o := .is) (SE.var rfl (.inl rfl) (by decide +kernel)) SE.nonec rfl) (SXs.cons (SX.whl (ST.cmp (o := .lt) (SE.var rfl (.inl rfl) (by decide +kernel)) (SE.var rfl (.inl rfl) (by decide +kernel)) rfl) (SXs.cons (SX.asg1 (SE.bop (o := .fdiv) (SE.bop (o := .add) (SE.var rfl (.inl rfl) (by decide +kernel)) (SE.var rfl (.inl rfl) (by decide +kernel))) SE.intc) rfl (.inl rfl) (fun _ _ _ => rfl)) (SXs.cons (SX.ifs (ST.cmp (o := .lt) (SE.var rfl (.inl rfl) (by decide +kernel)) (SE.sub (SE.var rfl (.inl rfl) (by decide +kernel)) (SE.var rfl (.inl rfl) (by decide +kernel)) (fun _ _ => rfl)) rfl) (SXs.cons (SX.asg1 (SE.var rfl (.inl rfl) (by decide +kernel)) rfl (.inl rfl) (fun _ _ _ => rfl)) SXs.nil) (SXs.cons (SX.asg1 (SE.bop (o := .add) (SE.var rfl (.inl rfl) (by decide +kernel)) SE.intc) rfl (.inl rfl) (fun _ _ _ => rfl)) SXs.nil)) SXs.nil))) SXs.nil) (SXs.cons (SX.whl (ST.cmp (o := .lt) (SE.var rfl (.inl rfl) (by decide +kernel)) (SE.var rfl (.inl rfl) (by decide +kernel)) rfl) (SXs.cons (SX.asg1 (SE.bop (o := .fdiv) (SE.bop (o := .add) (SE.var rfl (.inl rfl) (by decide +kernel)) (SE.var rfl (.inl rfl) (by decide +kernel))) SE.intc) rfl (.inl rfl) (fun _ _ _ => rfl)) (SXs.cons (SX.ifs (ST.cmp (o := .lt) (SE.var rfl (.inl rfl) (by decide +kernel)) (SE.callP (SE.var rfl (.inl rfl) (by decide +kernel)) (SL.cons (SE.sub (SE.var rfl (.inl rfl) (by decide +kernel)) (SE.var rfl (.inl rfl) (by decide +kernel)) (fun _ _ => rfl)) SL.nil (fun _ _ => rfl)) (fun _ _ => rfl) (fun _ => rfl) (fun _ => rfl)) rfl) (SXs.cons (SX.asg1 (SE.var rfl (.inl rfl) (by decide +kernel)) rfl (.inl rfl) (fun _ _ _ => rfl)) SXs.nil) (SXs.cons (SX.asg1 (SE.bop (o := .add) (SE.var rfl (.inl rfl) (by decide +kernel)) SE.intc) rfl (.inl rfl) (fun _ _ _ => rfl)) SXs.nil)) SXs.nil))) SXs.nil)) (SXs.cons 
  (SX.ret (SE.var rfl (.inl rfl) (by decide +kernel))) SXs.nil))))
noncomputable def nm3 : List (Str × NameKind) := [(Str.ofString "a", .local), (Str.ofString "x", .local), (Str.ofString "lo", .local), (Str.ofString "hi", .local), (Str.ofString "key", .local), (Str.ofString "bisect_left", .globalImplicit)]
noncomputable def cx3 : Ctx := ⟨nm3, [], false⟩
-- insort_left
theorem code3_ok (N : Names B) : SXs prog w B cx3 (bod 16) code3 :=
  (SXs.cons 
  (SX.ifs (ST.cmp (o := .is) (SE.var rfl (.inl rfl) (by decide +kernel)) SE.nonec rfl) (SXs.cons (SX.asg1 (SE.callP (SE.glob (by decide +kernel) N.f4 (fun _ _ => .fn 4) (by decide +kernel)) (SL.cons (SE.var rfl (.inl rfl) (by decide +kernel)) (SL.cons (SE.var rfl (.inl rfl) (by decide +kernel)) (SL.cons (SE.var rfl (.inl rfl) (by decide +kernel)) (SL.cons (SE.var rfl (.inl rfl) (by decide +kernel)) SL.nil (fun _ _ => rfl)) (fun _ _ => rfl)) (fun _ _ => rfl)) (fun _ _ => rfl)) (fun _ _ => rfl) (fun _ => rfl) (fun _ => rfl)) rfl (.inl rfl) (fun _ _ _ => rfl)) SXs.nil) (SXs.cons (SX.asg1 (SE.callK (SE.glob (by decide +kernel) N.f4 (fun _ _ => .fn 4) (by decide +kernel)) (SL.cons (SE.var rfl (.inl rfl) (by decide +kernel)) (SL.cons (SE.callP (SE.var rfl (.inl rfl) (by decide +kernel)) (SL.cons (SE.var rfl (.inl rfl) (by decide +kernel)) SL.nil (fun _ _ => rfl)) (fun _ _ => rfl) (fun _ => rfl) (fun _ => rfl)) (SL.cons (SE.var rfl (.inl rfl) (by decide +kernel)) (SL.cons (SE.var rfl (.inl rfl) (by decide +kernel)) SL.nil (fun _ _ => rfl)) (fun _ _ => rfl)) (fun _ _ => rfl)) (fun _ _ => rfl)) (SE.var rfl (.inl rfl) (by decide +kernel)) (fun _ _ => rfl) (fun _ => rfl) (fun _ => rfl)) rfl (.inl rfl) (fun _ _ _ => rfl)) SXs.nil)) (SXs.cons 
  (SX.exp (SE.ins (SE.var rfl (.inl rfl) (by decide +kernel)) (SE.var rfl (.inl rfl) (by decide +kernel)) (SE.var rfl (.inl rfl) (by decide +kernel)) (fun _ => rfl) (fun _ => rfl) rfl) (fun _ => rfl)) SXs.nil))
noncomputable def nm4 : List (Str × NameKind) := [(Str.ofString "a", .local), (Str.ofString "x", .local), (Str.ofString "lo", .local), (Str.ofString "hi", .local), (Str.ofString "key", .local), (Str.ofString "mid", .local), (Str.ofString "ValueError", .globalImplicit), (Str.ofString "len", .globalImplicit)]
noncomputable def cx4 : Ctx := ⟨nm4, [], false⟩
-- bisect_left
theorem code4_ok (N : Names B) : SXs prog w B cx4 (bod 17) code4 :=
  (SXs.cons 
  (SX.ifs (ST.cmp (o := .lt) (SE.var rfl (.inl rfl) (by decide +kernel)) SE.intc rfl) (SXs.cons SX.no SXs.nil) SXs.nil) (SXs.cons 
  (SX.ifs (ST.cmp (o := .is) (SE.var rfl (.inl rfl) (by decide +kernel)) SE.nonec rfl) (SXs.cons (SX.asg1 (SE.callP (SE.built (by decide +kernel) N.n_len N.b_len (fun _ _ => .bi .len) (by decide +kernel)) (SL.cons (SE.var rfl (.inl rfl) (by decide +kernel)) SL.nil (fun _ _ => rfl)) (fun _ _ => rfl) (fun _ => rfl) (fun _ => rfl)) rfl (.inl rfl) (fun _ _ _ => rfl)) SXs.nil) SXs.nil) (SXs.cons 
  (SX.ifs (ST.cmp (o := .is) (SE.var rfl (.inl rfl) (by decide +kernel)) SE.nonec rfl) (SXs.cons (SX.whl (ST.cmp (o := .lt) (SE.var rfl (.inl rfl) (by decide +kernel)) (SE.var rfl (.inl rfl) (by decide +kernel)) rfl) (SXs.cons (SX.asg1 (SE.bop (o := .fdiv) (SE.bop (o := .add) (SE.var rfl (.inl rfl) (by decide +kernel)) (SE.var rfl (.inl rfl) (by decide +kernel))) SE.intc) rfl (.inl rfl) (fun _ _ _ => rfl)) (SXs.cons (SX.ifs (ST.cmp (o := .lt) (SE.sub (SE.var rfl (.inl rfl) (by decide +kernel)) (SE.var rfl (.inl rfl) (by decide +kernel)) (fun _ _ => rfl)) (SE.var rfl (.inl rfl) (by decide +kernel)) rfl) (SXs.cons (SX.asg1 (SE.bop (o := .add) (SE.var rfl (.inl rfl) (by decide +kernel)) SE.intc) rfl (.inl rfl) (fun _ _ _ => rfl)) SXs.nil) (SXs.cons (SX.asg1 (SE.var rfl (.inl rfl) (by decide +kernel)) rfl (.inl rfl) (fun _ _ _ => rfl)) SXs.nil)) SXs.nil))) SXs.nil) (SXs.cons (SX.whl (ST.cmp (o := .lt) (SE.var rfl (.inl rfl) (by decide +kernel)) (SE.var rfl (.inl rfl) (by decide +kernel)) rfl) (SXs.cons (SX.asg1 (SE.bop (o := .fdiv) (SE.bop (o := .add) (SE.var rfl (.inl rfl) (by decide +kernel)) (SE.var rfl (.inl rfl) (by decide +kernel))) SE.intc) rfl (.inl rfl) (fun _ _ _ => rfl)) (SXs.cons (SX.ifs (ST.cmp (o := .lt) (SE.callP (SE.var rfl (.inl rfl) (by decide +kernel)) (SL.cons (SE.sub (SE.var rfl (.inl rfl) (by decide +kernel)) (SE.var rfl (.inl rfl) (by decide +kernel)) (fun _ _ => rfl)) SL.nil (fun _ _ => rfl)) (fun _ _ => rfl) (fun _ => rfl) (fun _ => rfl)) (SE.var rfl (.inl rfl) (by decide +kernel)) rfl) (SXs.cons (SX.asg1 (SE.bop (o := .add) (SE.var rfl (.inl rfl) (by decide +kernel)) SE.intc) rfl (.inl rfl) (fun _ _ _ => rfl)) SXs.nil) (SXs.cons (SX.asg1 (SE.var rfl (.inl rfl) (by decide +kernel)) rfl (.inl rfl) (fun _ _ _ => rfl)) SXs.nil)) SXs.nil))) SXs.nil)) (SXs.cons 
  (SX.ret (SE.var rfl (.inl rfl) (by decide +kernel))) SXs.nil))))
noncomputable def nm5 : List (Str × NameKind) := [(Str.ofString "r", .local), (Str.ofString "g", .local), (Str.ofString "b", .local), (Str.ofString "maxc", .local), (Str.ofString "minc", .local), (Str.ofString "sumc", .local), (Str.ofString "rangec", .local), (Str.ofString "l", .local), (Str.ofString "s", .local), (Str.ofString "rc", .local), (Str.ofString "gc", .local), (Str.ofString "bc", .local), (Str.ofString "h", .local), (Str.ofString "max", .globalImplicit), (Str.ofString "min", .globalImplicit)]
noncomputable def cx5 : Ctx := ⟨nm5, [], false⟩
-- rgb_to_hls
theorem code5_ok (N : Names B) : SXs prog w B cx5 (bod 19) code5 :=
  (SXs.cons 
  (SX.asg1 (SE.callP (SE.built (by decide +kernel) N.n_max N.b_max (fun _ _ => .bi .max) (by decide +kernel)) (SL.cons (SE.var rfl (.inl rfl) (by decide +kernel)) (SL.cons (SE.var rfl (.inl rfl) (by decide +kernel)) (SL.cons (SE.var rfl (.inl rfl) (by decide +kernel)) SL.nil (fun _ _ => rfl)) (fun _ _ => rfl)) (fun _ _ => rfl)) (fun _ _ => rfl) (fun _ => rfl) (fun _ => rfl)) rfl (.inl rfl) (fun _ _ _ => rfl)) (SXs.cons 
  (SX.asg1 (SE.callP (SE.built (by decide +kernel) N.n_min N.b_min (fun _ _ => .bi .min) (by decide +kernel)) (SL.cons (SE.var rfl (.inl rfl) (by decide +kernel)) (SL.cons (SE.var rfl (.inl rfl) (by decide +kernel)) (SL.cons (SE.var rfl (.inl rfl) (by decide +kernel)) SL.nil (fun _ _ => rfl)) (fun _ _ => rfl)) (fun _ _ => rfl)) (fun _ _ => rfl) (fun _ => rfl) (fun _ => rfl)) rfl (.inl rfl) (fun _ _ _ => rfl)) (SXs.cons 
  (SX.asg1 (SE.bop (o := .add) (SE.var rfl (.inl rfl) (by decide +kernel)) (SE.var rfl (.inl rfl) (by decide +kernel))) rfl (.inl rfl) (fun _ _ _ => rfl)) (SXs.cons 
  (SX.asg1 (SE.bop (o := .sub) (SE.var rfl (.inl rfl) (by decide +kernel)) (SE.var rfl (.inl rfl) (by decide +kernel))) rfl (.inl rfl) (fun _ _ _ => rfl)) (SXs.cons 
  (SX.asg1 (SE.bop (o := .div) (SE.var rfl (.inl rfl) (by decide +kernel)) (SE.fltc (by decide) rfl)) rfl (.inl rfl) (fun _ _ _ => rfl)) (SXs.cons 
  (SX.ifs (ST.cmp (o := .eq) (SE.var rfl (.inl rfl) (by decide +kernel)) (SE.var rfl (.inl rfl) (by decide +kernel)) rfl) (SXs.cons (SX.ret (SE.tup (SL.cons (SE.fltc (by decide) rfl) (SL.cons (SE.var rfl (.inl rfl) (by decide +kernel)) (SL.cons (SE.fltc (by decide) rfl) SL.nil (fun _ _ => rfl)) (fun _ _ => rfl)) (fun _ _ => rfl)) (by decide))) SXs.nil) SXs.nil) (SXs.cons 
  (SX.ifs (ST.cmp (o := .le) (SE.var rfl (.inl rfl) (by decide +kernel)) (SE.fltc (by decide) rfl) rfl) (SXs.cons (SX.asg1 (SE.bop (o := .div) (SE.var rfl (.inl rfl) (by decide +kernel)) (SE.var rfl (.inl rfl) (by decide +kernel))) rfl (.inl rfl) (fun _ _ _ => rfl)) SXs.nil) (SXs.cons (SX.asg1 (SE.bop (o := .div) (SE.var rfl (.inl rfl) (by decide +kernel)) (SE.bop (o := .sub) (SE.bop (o := .sub) (SE.fltc (by decide) rfl) (SE.var rfl (.inl rfl) (by decide +kernel))) (SE.var rfl (.inl rfl) (by decide +kernel)))) rfl (.inl rfl) (fun _ _ _ => rfl)) SXs.nil)) (SXs.cons 
  (SX.asg1 (SE.bop (o := .div) (SE.bop (o := .sub) (SE.var rfl (.inl rfl) (by decide +kernel)) (SE.var rfl (.inl rfl) (by decide +kernel))) (SE.var rfl (.inl rfl) (by decide +kernel))) rfl (.inl rfl) (fun _ _ _ => rfl)) (SXs.cons 
  (SX.asg1 (SE.bop (o := .div) (SE.bop (o := .sub) (SE.var rfl (.inl rfl) (by decide +kernel)) (SE.var rfl (.inl rfl) (by decide +kernel))) (SE.var rfl (.inl rfl) (by decide +kernel))) rfl (.inl rfl) (fun _ _ _ => rfl)) (SXs.cons 
  (SX.asg1 (SE.bop (o := .div) (SE.bop (o := .sub) (SE.var rfl (.inl rfl) (by decide +kernel)) (SE.var rfl (.inl rfl) (by decide +kernel))) (SE.var rfl (.inl rfl) (by decide +kernel))) rfl (.inl rfl) (fun _ _ _ => rfl)) (SXs.cons 
  (SX.ifs (ST.cmp (o := .eq) (SE.var rfl (.inl rfl) (by decide +kernel)) (SE.var rfl (.inl rfl) (by decide +kernel)) rfl) (SXs.cons (SX.asg1 (SE.bop (o := .sub) (SE.var rfl (.inl rfl) (by decide +kernel)) (SE.var rfl (.inl rfl) (by decide +kernel))) rfl (.inl rfl) (fun _ _ _ => rfl)) SXs.nil) (SXs.cons (SX.ifs (ST.cmp (o := .eq) (SE.var rfl (.inl rfl) (by decide +kernel)) (SE.var rfl (.inl rfl) (by decide +kernel)) rfl) (SXs.cons (SX.asg1 (SE.bop (o := .sub) (SE.bop (o := .add) (SE.fltc (by decide) rfl) (SE.var rfl (.inl rfl) (by decide +kernel))) (SE.var rfl (.inl rfl) (by decide +kernel))) rfl (.inl rfl) (fun _ _ _ => rfl)) SXs.nil) (SXs.cons (SX.asg1 (SE.bop (o := .sub) (SE.bop (o := .add) (SE.fltc (by decide) rfl) (SE.var rfl (.inl rfl) (by decide +kernel))) (SE.var rfl (.inl rfl) (by decide +kernel))) rfl (.inl rfl) (fun _ _ _ => rfl)) SXs.nil)) SXs.nil)) (SXs.cons 
  (SX.asg1 (SE.bop (o := .mod) (SE.bop (o := .div) (SE.var rfl (.inl rfl) (by decide +kernel)) (SE.fltc (by decide) rfl)) (SE.fltc (by decide) rfl)) rfl (.inl rfl) (fun _ _ _ => rfl)) (SXs.cons 
  (SX.ret (SE.tup (SL.cons (SE.var rfl (.inl rfl) (by decide +kernel)) (SL.cons (SE.var rfl (.inl rfl) (by decide +kernel)) (SL.cons (SE.var rfl (.inl rfl) (by decide +kernel)) SL.nil (fun _ _ => rfl)) (fun _ _ => rfl)) (fun _ _ => rfl)) (by decide))) SXs.nil)))))))))))))
noncomputable def nm6 : List (Str × NameKind) := [(Str.ofString "r", .local), (Str.ofString "g", .local), (Str.ofString "b", .local), (Str.ofString "maxc", .local), (Str.ofString "minc", .local), (Str.ofString "rangec", .local), (Str.ofString "v", .local), (Str.ofString "s", .local), (Str.ofString "rc", .local), (Str.ofString "gc", .local), (Str.ofString "bc", .local), (Str.ofString "h", .local), (Str.ofString "max", .globalImplicit), (Str.ofString "min", .globalImplicit)]
noncomputable def cx6 : Ctx := ⟨nm6, [], false⟩
-- rgb_to_hsv
theorem code6_ok (N : Names B) : SXs prog w B cx6 (bod 20) code6 :=
  (SXs.cons 
  (SX.asg1 (SE.callP (SE.built (by decide +kernel) N.n_max N.b_max (fun _ _ => .bi .max) (by decide +kernel)) (SL.cons (SE.var rfl (.inl rfl) (by decide +kernel)) (SL.cons (SE.var rfl (.inl rfl) (by decide +kernel)) (SL.cons (SE.var rfl (.inl rfl) (by decide +kernel)) SL.nil (fun _ _ => rfl)) (fun _ _ => rfl)) (fun _ _ => rfl)) (fun _ _ => rfl) (fun _ => rfl) (fun _ => rfl)) rfl (.inl rfl) (fun _ _ _ => rfl)) (SXs.cons 
  (SX.asg1 (SE.callP (SE.built (by decide +kernel) N.n_min N.b_min (fun _ _ => .bi .min) (by decide +kernel)) (SL.cons (SE.var rfl (.inl rfl) (by decide +kernel)) (SL.cons (SE.var rfl (.inl rfl) (by decide +kernel)) (SL.cons (SE.var rfl (.inl rfl) (by decide +kernel)) SL.nil (fun _ _ => rfl)) (fun _ _ => rfl)) (fun _ _ => rfl)) (fun _ _ => rfl) (fun _ => rfl) (fun _ => rfl)) rfl (.inl rfl) (fun _ _ _ => rfl)) (SXs.cons 
  (SX.asg1 (SE.bop (o := .sub) (SE.var rfl (.inl rfl) (by decide +kernel)) (SE.var rfl (.inl rfl) (by decide +kernel))) rfl (.inl rfl) (fun _ _ _ => rfl)) (SXs.cons 
  (SX.asg1 (SE.var rfl (.inl rfl) (by decide +kernel)) rfl (.inl rfl) (fun _ _ _ => rfl)) (SXs.cons 
  (SX.ifs (ST.cmp (o := .eq) (SE.var rfl (.inl rfl) (by decide +kernel)) (SE.var rfl (.inl rfl) (by decide +kernel)) rfl) (SXs.cons (SX.ret (SE.tup (SL.cons (SE.fltc (by decide) rfl) (SL.cons (SE.fltc (by decide) rfl) (SL.cons (SE.var rfl (.inl rfl) (by decide +kernel)) SL.nil (fun _ _ => rfl)) (fun _ _ => rfl)) (fun _ _ => rfl)) (by decide))) SXs.nil) SXs.nil) (SXs.cons 
  (SX.asg1 (SE.bop (o := .div) (SE.var rfl (.inl rfl) (by decide +kernel)) (SE.var rfl (.inl rfl) (by decide +kernel))) rfl (.inl rfl) (fun _ _ _ => rfl)) (SXs.cons 
  (SX.asg1 (SE.bop (o := .div) (SE.bop (o := .sub) (SE.var rfl (.inl rfl) (by decide +kernel)) (SE.var rfl (.inl rfl) (by decide +kernel))) (SE.var rfl (.inl rfl) (by decide +kernel))) rfl (.inl rfl) (fun _ _ _ => rfl)) (SXs.cons 
  (SX.asg1 (SE.bop (o := .div) (SE.bop (o := .sub) (SE.var rfl (.inl rfl) (by decide +kernel)) (SE.var rfl (.inl rfl) (by decide +kernel))) (SE.var rfl (.inl rfl) (by decide +kernel))) rfl (.inl rfl) (fun _ _ _ => rfl)) (SXs.cons 
  (SX.asg1 (SE.bop (o := .div) (SE.bop (o := .sub) (SE.var rfl (.inl rfl) (by decide +kernel)) (SE.var rfl (.inl rfl) (by decide +kernel))) (SE.var rfl (.inl rfl) (by decide +kernel))) rfl (.inl rfl) (fun _ _ _ => rfl)) (SXs.cons 
  (SX.ifs (ST.cmp (o := .eq) (SE.var rfl (.inl rfl) (by decide +kernel)) (SE.var rfl (.inl rfl) (by decide +kernel)) rfl) (SXs.cons (SX.asg1 (SE.bop (o := .sub) (SE.var rfl (.inl rfl) (by decide +kernel)) (SE.var rfl (.inl rfl) (by decide +kernel))) rfl (.inl rfl) (fun _ _ _ => rfl)) SXs.nil) (SXs.cons (SX.ifs (ST.cmp (o := .eq) (SE.var rfl (.inl rfl) (by decide +kernel)) (SE.var rfl (.inl rfl) (by decide +kernel)) rfl) (SXs.cons (SX.asg1 (SE.bop (o := .sub) (SE.bop (o := .add) (SE.fltc (by decide) rfl) (SE.var rfl (.inl rfl) (by decide +kernel))) (SE.var rfl (.inl rfl) (by decide +kernel))) rfl (.inl rfl) (fun _ _ _ => rfl)) SXs.nil) (SXs.cons (SX.asg1 (SE.bop (o := .sub) (SE.bop (o := .add) (SE.fltc (by decide) rfl) (SE.var rfl (.inl rfl) (by decide +kernel))) (SE.var rfl (.inl rfl) (by decide +kernel))) rfl (.inl rfl) (fun _ _ _ => rfl)) SXs.nil)) SXs.nil)) (SXs.cons 
  (SX.asg1 (SE.bop (o := .mod) (SE.bop (o := .div) (SE.var rfl (.inl rfl) (by decide +kernel)) (SE.fltc (by decide) rfl)) (SE.fltc (by decide) rfl)) rfl (.inl rfl) (fun _ _ _ => rfl)) (SXs.cons 
  (SX.ret (SE.tup (SL.cons (SE.var rfl (.inl rfl) (by decide +kernel)) (SL.cons (SE.var rfl (.inl rfl) (by decide +kernel)) (SL.cons (SE.var rfl (.inl rfl) (by decide +kernel)) SL.nil (fun _ _ => rfl)) (fun _ _ => rfl)) (fun _ _ => rfl)) (by decide))) SXs.nil))))))))))))
noncomputable def nm7 : List (Str × NameKind) := [(Str.ofString "h", .local), (Str.ofString "s", .local), (Str.ofString "v", .local), (Str.ofString "i", .local), (Str.ofString "f", .local), (Str.ofString "p", .local), (Str.ofString "q", .local), (Str.ofString "t", .local), (Str.ofString "int", .globalImplicit)]
noncomputable def cx7 : Ctx := ⟨nm7, [], false⟩
-- hsv_to_rgb
theorem code7_ok (N : Names B) : SXs prog w B cx7 (bod 21) code7 :=
  (SXs.cons 
  (SX.ifs (ST.cmp (o := .eq) (SE.var rfl (.inl rfl) (by decide +kernel)) (SE.fltc (by decide) rfl) rfl) (SXs.cons (SX.ret (SE.tup (SL.cons (SE.var rfl (.inl rfl) (by decide +kernel)) (SL.cons (SE.var rfl (.inl rfl) (by decide +kernel)) (SL.cons (SE.var rfl (.inl rfl) (by decide +kernel)) SL.nil (fun _ _ => rfl)) (fun _ _ => rfl)) (fun _ _ => rfl)) (by decide))) SXs.nil) SXs.nil) (SXs.cons 
  (SX.asg1 (SE.callP (SE.built (by decide +kernel) N.n_int N.b_int (fun _ _ => .bi .int) (by decide +kernel)) (SL.cons (SE.bop (o := .mul) (SE.var rfl (.inl rfl) (by decide +kernel)) (SE.fltc (by decide) rfl)) SL.nil (fun _ _ => rfl)) (fun _ _ => rfl) (fun _ => rfl) (fun _ => rfl)) rfl (.inl rfl) (fun _ _ _ => rfl)) (SXs.cons 
  (SX.asg1 (SE.bop (o := .sub) (SE.bop (o := .mul) (SE.var rfl (.inl rfl) (by decide +kernel)) (SE.fltc (by decide) rfl)) (SE.var rfl (.inl rfl) (by decide +kernel))) rfl (.inl rfl) (fun _ _ _ => rfl)) (SXs.cons 
  (SX.asg1 (SE.bop (o := .mul) (SE.var rfl (.inl rfl) (by decide +kernel)) (SE.bop (o := .sub) (SE.fltc (by decide) rfl) (SE.var rfl (.inl rfl) (by decide +kernel)))) rfl (.inl rfl) (fun _ _ _ => rfl)) (SXs.cons 
  (SX.asg1 (SE.bop (o := .mul) (SE.var rfl (.inl rfl) (by decide +kernel)) (SE.bop (o := .sub) (SE.fltc (by decide) rfl) (SE.bop (o := .mul) (SE.var rfl (.inl rfl) (by decide +kernel)) (SE.var rfl (.inl rfl) (by decide +kernel))))) rfl (.inl rfl) (fun _ _ _ => rfl)) (SXs.cons 
  (SX.asg1 (SE.bop (o := .mul) (SE.var rfl (.inl rfl) (by decide +kernel)) (SE.bop (o := .sub) (SE.fltc (by decide) rfl) (SE.bop (o := .mul) (SE.var rfl (.inl rfl) (by decide +kernel)) (SE.bop (o := .sub) (SE.fltc (by decide) rfl) (SE.var rfl (.inl rfl) (by decide +kernel)))))) rfl (.inl rfl) (fun _ _ _ => rfl)) (SXs.cons 
  (SX.asg1 (SE.bop (o := .mod) (SE.var rfl (.inl rfl) (by decide +kernel)) SE.intc) rfl (.inl rfl) (fun _ _ _ => rfl)) (SXs.cons 
  (SX.ifs (ST.cmp (o := .eq) (SE.var rfl (.inl rfl) (by decide +kernel)) SE.intc rfl) (SXs.cons (SX.ret (SE.tup (SL.cons (SE.var rfl (.inl rfl) (by decide +kernel)) (SL.cons (SE.var rfl (.inl rfl) (by decide +kernel)) (SL.cons (SE.var rfl (.inl rfl) (by decide +kernel)) SL.nil (fun _ _ => rfl)) (fun _ _ => rfl)) (fun _ _ => rfl)) (by decide))) SXs.nil) SXs.nil) (SXs.cons 
  (SX.ifs (ST.cmp (o := .eq) (SE.var rfl (.inl rfl) (by decide +kernel)) SE.intc rfl) (SXs.cons (SX.ret (SE.tup (SL.cons (SE.var rfl (.inl rfl) (by decide +kernel)) (SL.cons (SE.var rfl (.inl rfl) (by decide +kernel)) (SL.cons (SE.var rfl (.inl rfl) (by decide +kernel)) SL.nil (fun _ _ => rfl)) (fun _ _ => rfl)) (fun _ _ => rfl)) (by decide))) SXs.nil) SXs.nil) (SXs.cons 
  (SX.ifs (ST.cmp (o := .eq) (SE.var rfl (.inl rfl) (by decide +kernel)) SE.intc rfl) (SXs.cons (SX.ret (SE.tup (SL.cons (SE.var rfl (.inl rfl) (by decide +kernel)) (SL.cons (SE.var rfl (.inl rfl) (by decide +kernel)) (SL.cons (SE.var rfl (.inl rfl) (by decide +kernel)) SL.nil (fun _ _ => rfl)) (fun _ _ => rfl)) (fun _ _ => rfl)) (by decide))) SXs.nil) SXs.nil) (SXs.cons 
  (SX.ifs (ST.cmp (o := .eq) (SE.var rfl (.inl rfl) (by decide +kernel)) SE.intc rfl) (SXs.cons (SX.ret (SE.tup (SL.cons (SE.var rfl (.inl rfl) (by decide +kernel)) (SL.cons (SE.var rfl (.inl rfl) (by decide +kernel)) (SL.cons (SE.var rfl (.inl rfl) (by decide +kernel)) SL.nil (fun _ _ => rfl)) (fun _ _ => rfl)) (fun _ _ => rfl)) (by decide))) SXs.nil) SXs.nil) (SXs.cons 
  (SX.ifs (ST.cmp (o := .eq) (SE.var rfl (.inl rfl) (by decide +kernel)) SE.intc rfl) (SXs.cons (SX.ret (SE.tup (SL.cons (SE.var rfl (.inl rfl) (by decide +kernel)) (SL.cons (SE.var rfl (.inl rfl) (by decide +kernel)) (SL.cons (SE.var rfl (.inl rfl) (by decide +kernel)) SL.nil (fun _ _ => rfl)) (fun _ _ => rfl)) (fun _ _ => rfl)) (by decide))) SXs.nil) SXs.nil) (SXs.cons 
  (SX.ifs (ST.cmp (o := .eq) (SE.var rfl (.inl rfl) (by decide +kernel)) SE.intc rfl) (SXs.cons (SX.ret (SE.tup (SL.cons (SE.var rfl (.inl rfl) (by decide +kernel)) (SL.cons (SE.var rfl (.inl rfl) (by decide +kernel)) (SL.cons (SE.var rfl (.inl rfl) (by decide +kernel)) SL.nil (fun _ _ => rfl)) (fun _ _ => rfl)) (fun _ _ => rfl)) (by decide))) SXs.nil) SXs.nil) SXs.nil)))))))))))))
noncomputable def nm8 : List (Str × NameKind) := [(Str.ofString "rings", .local), (Str.ofString "prime", .local), (Str.ofString "paints", .local), (Str.ofString "ring", .local), (Str.ofString "step", .local), (Str.ofString "red", .local), (Str.ofString "green", .local), (Str.ofString "blue", .local), (Str.ofString "range", .globalImplicit), (Str.ofString "hsv_to_rgb", .globalImplicit)]
noncomputable def cx8 : Ctx := ⟨nm8, [], false⟩
-- _law_paints
theorem code8_ok (N : Names B) : SXs prog w B cx8 (bod 23) code8 :=
  (SXs.cons 
  (SX.asg1 (SE.bop (o := .mul) (SE.lst (SL.cons (SE.tup (SL.cons SE.intc (SL.cons SE.intc (SL.cons SE.intc SL.nil (fun _ _ => rfl)) (fun _ _ => rfl)) (fun _ _ => rfl)) (by decide)) SL.nil (fun _ _ => rfl)) (by decide)) (SE.var rfl (.inl rfl) (by decide +kernel))) rfl (.inl rfl) (fun _ _ _ => rfl)) (SXs.cons 
  (SX.for (SE.callP (SE.built (by decide +kernel) N.n_range N.b_range (fun _ _ => .bi .range) (by decide +kernel)) (SL.cons SE.intc (SL.cons (SE.bop (o := .add) (SE.var rfl (.inl rfl) (by decide +kernel)) SE.intc) SL.nil (fun _ _ => rfl)) (fun _ _ => rfl)) (fun _ _ => rfl) (fun _ => rfl) (fun _ => rfl)) (SXs.cons (SX.for (SE.callP (SE.built (by decide +kernel) N.n_range N.b_range (fun _ _ => .bi .range) (by decide +kernel)) (SL.cons (SE.bop (o := .mul) SE.intc (SE.var rfl (.inl rfl) (by decide +kernel))) SL.nil (fun _ _ => rfl)) (fun _ _ => rfl) (fun _ => rfl) (fun _ => rfl)) (SXs.cons (SX.asgT (SE.comp (SE.callP (SE.glob (by decide +kernel) N.f7 (fun _ _ => .fn 7) (by decide +kernel)) (SL.cons (SE.bop (o := .div) (SE.var rfl (.inl rfl) (by decide +kernel)) (SE.bop (o := .mul) SE.intc (SE.var rfl (.inl rfl) (by decide +kernel)))) (SL.cons (SE.fltc (by decide) rfl) (SL.cons (SE.var rfl (.inl rfl) (by decide +kernel)) SL.nil (fun _ _ => rfl)) (fun _ _ => rfl)) (fun _ _ => rfl)) (fun _ _ => rfl) (fun _ => rfl) (fun _ => rfl)) (SE.callP (SE.built (by decide +kernel) N.n_int N.b_int (fun _ _ => .bi .int) (by decide +kernel)) (SL.cons (SE.bop (o := .add) (SE.var rfl (.inl rfl) (by decide +kernel)) (SE.fltc (by decide) rfl)) SL.nil (fun _ _ => rfl)) (fun _ _ => rfl) (fun _ => rfl) (fun _ => rfl)) ⟨rfl, by decide +kernel, by decide +kernel, by decide +kernel, by decide +kernel⟩ ⟨_, _, _, rfl, rfl, rfl⟩ (fun _ _ => rfl)) (.cons rfl (.inl rfl) (.cons rfl (.inl rfl) (.cons rfl (.inl rfl) .nil))) (.inr ⟨_, rfl⟩) (fun _ => rfl) (fun _ hk hn => (swapped_dum hk hn).trans rfl)) (SXs.cons (SX.set (SE.tup (SL.cons (SE.var rfl (.inl rfl) (by decide +kernel)) (SL.cons (SE.var rfl (.inl rfl) (by decide +kernel)) (SL.cons (SE.var rfl (.inl rfl) (by decide +kernel)) SL.nil (fun _ _ => rfl)) (fun _ _ => rfl)) (fun _ _ => rfl)) (by decide)) (SE.var rfl (.inl rfl) (by decide +kernel)) (SE.bop (o := .mod) (SE.bop (o := .add) (SE.bop (o := .sub) (SE.var rfl (.inl rfl) (by decide +kernel)) (SE.var rfl (.inl rfl) (by decide +kernel))) (SE.bop (o := .mul) (SE.bop (o := .add) (SE.bop (o := .mul) SE.intc (SE.var rfl (.inl rfl) (by decide +kernel))) SE.intc) (SE.bop (o := .sub) (SE.var rfl (.inl rfl) (by decide +kernel)) (SE.var rfl (.inl rfl) (by decide +kernel))))) (SE.var rfl (.inl rfl) (by decide +kernel))) (fun _ => rfl)) SXs.nil)) rfl (.inl rfl) (fun _ _ => rfl)) SXs.nil) rfl (.inl rfl) (fun _ _ => rfl)) (SXs.cons 
  (SX.ret (SE.var rfl (.inl rfl) (by decide +kernel))) SXs.nil)))
noncomputable def nm9 : List (Str × NameKind) := [(Str.ofString "turns", .local), (Str.ofString "share", .local), (Str.ofString "value", .local), (Str.ofString "row", .local), (Str.ofString "both", .local), (Str.ofString "k", .local), (Str.ofString "paint", .local), (Str.ofString "hue", .local), (Str.ofString "light", .local), (Str.ofString "depth", .local), (Str.ofString "range", .globalImplicit), (Str.ofString "hsv_to_rgb", .globalImplicit), (Str.ofString "rgb_to_hls", .globalImplicit), (Str.ofString "min", .globalImplicit), (Str.ofString "insort_left", .globalImplicit)]
noncomputable def cx9 : Ctx := ⟨nm9, [], true⟩
-- _law_names
set_option maxRecDepth 20000 in
theorem code9_ok (N : Names B) : SXs prog w B cx9 (bod 24) code9 :=
  (SXs.cons 
  (SX.asg1 (SE.lst SL.nil (by decide)) rfl (.inl rfl) (fun _ _ _ => rfl)) (SXs.cons 
  (SX.asg1 (SE.bop (o := .mul) (SE.var rfl (.inl rfl) (by decide +kernel)) (SE.bop (o := .sub) SE.intc (SE.var rfl (.inl rfl) (by decide +kernel)))) rfl (.inl rfl) (fun _ _ _ => rfl)) (SXs.cons 
  (SX.for (SE.callP (SE.built (by decide +kernel) N.n_range N.b_range (fun _ _ => .bi .range) (by decide +kernel)) (SL.cons SE.intc SL.nil (fun _ _ => rfl)) (fun _ _ => rfl) (fun _ => rfl) (fun _ => rfl)) (SXs.cons (SX.asg1 (SE.callP (SE.glob (by decide +kernel) N.f7 (fun _ _ => .fn 7) (by decide +kernel)) (SL.cons (SE.bop (o := .div) (SE.bop (o := .add) (SE.bop (o := .mul) SE.intc (SE.bop (o := .add) (SE.var rfl (.inl rfl) (by decide +kernel)) (SE.var rfl (.inl rfl) (by decide +kernel)))) SE.intc) SE.intc) (SL.cons (SE.bop (o := .div) (SE.var rfl (.inl rfl) (by decide +kernel)) SE.intc) (SL.cons (SE.bop (o := .div) (SE.var rfl (.inl rfl) (by decide +kernel)) SE.intc) SL.nil (fun _ _ => rfl)) (fun _ _ => rfl)) (fun _ _ => rfl)) (fun _ _ => rfl) (fun _ => rfl) (fun _ => rfl)) rfl (.inl rfl) (fun _ _ _ => rfl)) (SXs.cons (SX.asgT (SE.callS (SE.glob (by decide +kernel) N.f5 (fun _ _ => .fn 5) (by decide +kernel)) (SE.var rfl (.inl rfl) (by decide +kernel)) (fun _ => rfl)) (.cons rfl (.inl rfl) (.cons rfl (.inl rfl) (.cons rfl (.inl rfl) .nil))) (.inr ⟨_, rfl⟩) (fun _ => rfl) (fun _ hk hn => (swapped_dum hk hn).trans rfl)) (SXs.cons (SX.ifs (ST.not (ST.chain (o1 := .lt) (o2 := .lt) (SE.neg SE.intc) (SE.bop (o := .mul) (SE.bop (o := .sub) (SE.bop (o := .sub) (SE.bop (o := .mul) (SE.var rfl (.inl rfl) (by decide +kernel)) SE.intc) (SE.bop (o := .mul) SE.intc (SE.bop (o := .mod) (SE.bop (o := .add) (SE.var rfl (.inl rfl) (by decide +kernel)) (SE.var rfl (.inl rfl) (by decide +kernel))) SE.intc))) SE.intc) SE.intc) SE.intc rfl)) (SXs.cons (SX.ret (SE.strc (by decide +kernel))) SXs.nil) SXs.nil) (SXs.cons (SX.ifs (ST.bool (STA.orCons (ST.cmp (o := .ne) (SE.var rfl (.inl rfl) (by decide +kernel)) (SE.bop (o := .div) (SE.var rfl (.inl rfl) (by decide +kernel)) SE.intc) rfl) (STA.orCons (ST.cmp (o := .ne) (SE.var rfl (.inl rfl) (by decide +kernel)) (SE.bop (o := .div) (SE.bop (o := .mul) (SE.var rfl (.inl rfl) (by decide +kernel)) (SE.var rfl (.inl rfl) (by decide +kernel))) (SE.callP (SE.built (by decide +kernel) N.n_min N.b_min (fun _ _ => .bi .min) (by decide +kernel)) (SL.cons (SE.var rfl (.inl rfl) (by decide +kernel)) (SL.cons (SE.bop (o := .sub) SE.intc (SE.var rfl (.inl rfl) (by decide +kernel))) SL.nil (fun _ _ => rfl)) (fun _ _ => rfl)) (fun _ _ => rfl) (fun _ => rfl) (fun _ => rfl))) rfl) STA.orNil))) (SXs.cons (SX.ret (SE.strc (by decide +kernel))) SXs.nil) SXs.nil) (SXs.cons (SX.exp (SE.callK (SE.glob (by decide +kernel) N.f3 (fun _ _ => .fn 3) (by decide +kernel)) (SL.cons (SE.var rfl (.inl rfl) (by decide +kernel)) (SL.cons (SE.tup (SL.cons (SE.var rfl (.inl rfl) (by decide +kernel)) (SL.cons (SE.sub (SE.strc (by decide +kernel)) (SE.var rfl (.inl rfl) (by decide +kernel)) (fun _ _ => rfl)) SL.nil (fun _ _ => rfl)) (fun _ _ => rfl)) (by decide)) SL.nil (fun _ _ => rfl)) (fun _ _ => rfl)) (SE.lam rfl rfl rfl rfl rfl rfl rfl) (fun _ _ => rfl) (fun _ => rfl) (fun _ => rfl)) (fun _ => rfl)) SXs.nil))))) rfl (.inl rfl) (fun _ _ => rfl)) (SXs.cons 
  (SX.exp (SE.callK (SE.glob (by decide +kernel) N.f3 (fun _ _ => .fn 3) (by decide +kernel)) (SL.cons (SE.var rfl (.inl rfl) (by decide +kernel)) (SL.cons (SE.tup (SL.cons (SE.sub (SE.sub (SE.var rfl (.inl rfl) (by decide +kernel)) SE.intc (fun _ _ => rfl)) SE.intc (fun _ _ => rfl)) (SL.cons (SE.strc (by decide +kernel)) SL.nil (fun _ _ => rfl)) (fun _ _ => rfl)) (by decide)) SL.nil (fun _ _ => rfl)) (fun _ _ => rfl)) (SE.lam rfl rfl rfl rfl rfl rfl rfl) (fun _ _ => rfl) (fun _ => rfl) (fun _ => rfl)) (fun _ => rfl)) (SXs.cons 
  (SX.ifs (ST.cmp (o := .ne) (SE.sub (SE.sub (SE.var rfl (.inl rfl) (by decide +kernel)) SE.intc (fun _ _ => rfl)) SE.intc (fun _ _ => rfl)) (SE.strc (by decide +kernel)) rfl) (SXs.cons (SX.ret (SE.strc (by decide +kernel))) SXs.nil) SXs.nil) (SXs.cons 
  (SX.ret (SE.join (SE.strc (by decide +kernel)) (SE.comp (SE.var rfl (.inl rfl) (by decide +kernel)) (SE.sub (SE.var rfl (.inl rfl) (by decide +kernel)) SE.intc (fun _ _ => rfl)) ⟨rfl, by decide +kernel, by decide +kernel, by decide +kernel, by decide +kernel⟩ ⟨_, _, _, rfl, rfl, rfl⟩ (fun _ _ => rfl)) (fun _ => rfl) (fun _ => rfl) rfl)) SXs.nil))))))
noncomputable def nm10 : List (Str × NameKind) := [(Str.ofString "script", .cell), (Str.ofString "heaps", .local), (Str.ofString "rings", .local), (Str.ofString "prime", .cell), (Str.ofString "sixth", .cell), (Str.ofString "factor", .local), (Str.ofString "paints", .cell), (Str.ofString "corners", .local), (Str.ofString "starts", .local), (Str.ofString "turns", .local), (Str.ofString "homes", .local), (Str.ofString "power", .local), (Str.ofString "start", .local), (Str.ofString "whole", .local), (Str.ofString "rest", .local), (Str.ofString "turn", .local), (Str.ofString "square", .local), (Str.ofString "cube", .local), (Str.ofString "due", .local), (Str.ofString "names", .cell), (Str.ofString "kin", .local), (Str.ofString "enumerate", .globalImplicit), (Str.ofString "int", .globalImplicit), (Str.ofString "_law_paints", .globalImplicit), (Str.ofString "range", .globalImplicit), (Str.ofString "int_divmod", .globalImplicit), (Str.ofString "bisect_right", .globalImplicit), (Str.ofString "rgb_to_hsv", .globalImplicit), (Str.ofString "sorted", .globalImplicit), (Str.ofString "_law_names", .globalImplicit), (Str.ofString "_levenshtein_distance", .globalImplicit), (Str.ofString "min", .globalImplicit)]
noncomputable def cx10 : Ctx := ⟨nm10, [], false⟩
-- law 1
theorem law1_ok (N : Names B) : SX prog w B cx10 (stm 25 1) law1 := (SX.asg1 (SE.bop (o := .add) SE.intc (SE.bop (o := .mod) (SE.sub (SE.var rfl (.inl rfl) (by decide +kernel)) SE.intc (fun _ _ => rfl)) SE.intc)) rfl (.inl rfl) (fun _ _ _ => rfl))
-- law 2
theorem law2_ok (N : Names B) : SX prog w B cx10 (stm 25 2) law2 := (SX.asgT (SE.tup (SL.cons (SE.bop (o := .add) (SE.bop (o := .mul) (SE.bop (o := .mul) SE.intc (SE.var rfl (.inl rfl) (by decide +kernel))) (SE.bop (o := .add) (SE.var rfl (.inl rfl) (by decide +kernel)) SE.intc)) SE.intc) (SL.cons (SE.bop (o := .add) (SE.bop (o := .mul) SE.intc (SE.var rfl (.inl rfl) (by decide +kernel))) SE.intc) SL.nil (fun _ _ => rfl)) (fun _ _ => rfl)) (by decide)) (.cons rfl (.inr rfl) (.cons rfl (.inr rfl) .nil)) (.inr ⟨_, rfl⟩) (fun _ => rfl) (fun _ hk hn => (swapped_dum hk hn).trans rfl))
-- law 3
theorem law3_ok (N : Names B) : SX prog w B cx10 (stm 25 3) law3 := (SX.asg1 (SE.bop (o := .sub) (SE.bop (o := .mod) (SE.sub (SE.var rfl (.inl rfl) (by decide +kernel)) SE.intc (fun _ _ => rfl)) SE.intc) SE.intc) rfl (.inl rfl) (fun _ _ _ => rfl))
-- law 4
theorem law4_ok (N : Names B) : SX prog w B cx10 (stm 25 4) law4 := (SX.asg1 (SE.bop (o := .add) (SE.var rfl (.inl rfl) (by decide +kernel)) (SE.callP (SE.built (by decide +kernel) N.n_int N.b_int (fun _ _ => .bi .int) (by decide +kernel)) (SL.cons (SE.cmp (o := .eq) (SE.bop (o := .mod) (SE.var rfl (.inl rfl) (by decide +kernel)) (SE.var rfl (.inr rfl) (by decide +kernel))) SE.intc rfl) SL.nil (fun _ _ => rfl)) (fun _ _ => rfl) (fun _ => rfl) (fun _ => rfl))) rfl (.inl rfl) (fun _ _ _ => rfl))
-- law 5
theorem law5_ok (N : Names B) : SX prog w B cx10 (stm 25 5) law5 := (SX.asg1 (SE.callP (SE.glob (by decide +kernel) N.f8 (fun _ _ => .fn 8) (by decide +kernel)) (SL.cons (SE.var rfl (.inl rfl) (by decide +kernel)) (SL.cons (SE.var rfl (.inr rfl) (by decide +kernel)) SL.nil (fun _ _ => rfl)) (fun _ _ => rfl)) (fun _ _ => rfl) (fun _ => rfl) (fun _ => rfl)) rfl (.inr rfl) (fun _ _ _ => rfl))
-- law 6
theorem law6_ok (N : Names B) : SX prog w B cx10 (stm 25 6) law6 := (SX.asgC (SE.callP (SE.built (by decide +kernel) N.n_range N.b_range (fun _ _ => .bi .range) (by decide +kernel)) (SL.cons SE.intc SL.nil (fun _ _ => rfl)) (fun _ _ => rfl) (fun _ => rfl) (fun _ => rfl)) (SE.sub (SE.callS (SE.glob (by decide +kernel) N.f6 (fun _ _ => .fn 6) (by decide +kernel)) (SE.sub (SE.up rfl (by decide +kernel) (by decide +kernel)) (SE.bop (o := .mod) (SE.bop (o := .pow) (SE.up rfl (by decide +kernel) (by decide +kernel)) (SE.var rfl (.inl rfl) (by decide +kernel))) (SE.up rfl (by decide +kernel) (by decide +kernel))) (fun _ _ => rfl)) (fun _ => rfl)) SE.intc (fun _ _ => rfl)) ⟨rfl, by decide +kernel, by decide +kernel, by decide +kernel, by decide +kernel⟩ ⟨_, _, _, rfl, rfl, rfl⟩ (fun _ _ => rfl) rfl (fun _ hk hn => (swaps_dum hk hn).trans rfl))
-- law 7
theorem law7_ok (N : Names B) : SX prog w B cx10 (stm 25 7) law7 := (SX.asgC2 (SE.callP (SE.built (by decide +kernel) N.n_range N.b_range (fun _ _ => .bi .range) (by decide +kernel)) (SL.cons SE.intc (SL.cons (SE.bop (o := .add) (SE.var rfl (.inl rfl) (by decide +kernel)) SE.intc) SL.nil (fun _ _ => rfl)) (fun _ _ => rfl)) (fun _ _ => rfl) (fun _ => rfl) (fun _ => rfl)) (SE.callP (SE.built (by decide +kernel) N.n_range N.b_range (fun _ _ => .bi .range) (by decide +kernel)) (SL.cons (SE.var rfl (.inl rfl) (by decide +kernel)) SL.nil (fun _ _ => rfl)) (fun _ _ => rfl) (fun _ => rfl) (fun _ => rfl)) (SE.bop (o := .add) (SE.bop (o := .sub) (SE.var rfl (.inl rfl) (by decide +kernel)) (SE.var rfl (.inl rfl) (by decide +kernel))) (SE.bop (o := .mul) (SE.up rfl (by decide +kernel) (by decide +kernel)) (SE.var rfl (.inl rfl) (by decide +kernel)))) ⟨rfl, by decide +kernel, by decide +kernel, by decide +kernel, by decide +kernel⟩ ⟨_, _, _, rfl, rfl, rfl⟩ ⟨_, _, _, rfl, rfl, rfl⟩ (fun _ _ => rfl) (fun _ _ => rfl) rfl (fun _ hk hn => (swaps_dum hk hn).trans rfl))
-- law 8
theorem law8_ok (N : Names B) : SX prog w B cx10 (stm 25 8) law8 := (SX.asgW (xs := [Str.ofString "turns", Str.ofString "homes", Str.ofString "power"]) (SE.tup (SL.cons SE.intc (SL.cons (SE.lst SL.nil (by decide)) (SL.cons SE.intc SL.nil (fun _ _ => rfl)) (fun _ _ => rfl)) (fun _ _ => rfl)) (by decide)) (.cons rfl (.cons rfl (.cons rfl .nil))) rfl (fun _ _ hl => setsL_rev3 (by decide) (by decide) (by decide) hl) (fun _ => rfl) (fun _ hk hn => (swapped_dum hk hn).trans rfl))
-- law 9
theorem law9_ok (N : Names B) : SX prog w B cx10 (stm 25 9) law9 := (SX.for (SE.var rfl (.inl rfl) (by decide +kernel)) (SXs.cons (SX.asgW (xs := [Str.ofString "whole", Str.ofString "rest"]) (SE.tup (SL.cons (SE.bop (o := .fdiv) (SE.bop (o := .mul) (SE.var rfl (.inl rfl) (by decide +kernel)) (SE.var rfl (.inl rfl) (by decide +kernel))) (SE.var rfl (.inr rfl) (by decide +kernel))) (SL.cons (SE.bop (o := .mod) (SE.bop (o := .mul) (SE.var rfl (.inl rfl) (by decide +kernel)) (SE.var rfl (.inl rfl) (by decide +kernel))) (SE.var rfl (.inr rfl) (by decide +kernel))) SL.nil (fun _ _ => rfl)) (fun _ _ => rfl)) (by decide)) (.cons rfl (.cons rfl .nil)) rfl (fun _ _ hl => setsL_rev2 (by decide) hl) (fun _ => rfl) (fun _ hk hn => (swapped_dum hk hn).trans rfl)) (SXs.cons (SX.ifs (ST.bool (STA.orCons (ST.cmp (o := .ne) (SE.callP (SE.glob (by decide +kernel) N.f100 (fun _ _ => .fn 100) (by decide +kernel)) (SL.cons (SE.bop (o := .mul) (SE.var rfl (.inl rfl) (by decide +kernel)) (SE.var rfl (.inl rfl) (by decide +kernel))) (SL.cons (SE.var rfl (.inr rfl) (by decide +kernel)) SL.nil (fun _ _ => rfl)) (fun _ _ => rfl)) (fun _ _ => rfl) (fun _ => rfl) (fun _ => rfl)) (SE.tup (SL.cons (SE.var rfl (.inl rfl) (by decide +kernel)) (SL.cons (SE.var rfl (.inl rfl) (by decide +kernel)) SL.nil (fun _ _ => rfl)) (fun _ _ => rfl)) (by decide)) rfl) (STA.orCons (ST.cmp (o := .ne) (SE.callP (SE.glob (by decide +kernel) N.f100 (fun _ _ => .fn 100) (by decide +kernel)) (SL.cons (SE.bop (o := .mul) (SE.neg (SE.var rfl (.inl rfl) (by decide +kernel))) (SE.var rfl (.inl rfl) (by decide +kernel))) (SL.cons (SE.neg (SE.var rfl (.inr rfl) (by decide +kernel))) SL.nil (fun _ _ => rfl)) (fun _ _ => rfl)) (fun _ _ => rfl) (fun _ => rfl) (fun _ => rfl)) (SE.tup (SL.cons (SE.var rfl (.inl rfl) (by decide +kernel)) (SL.cons (SE.neg (SE.var rfl (.inl rfl) (by decide +kernel))) SL.nil (fun _ _ => rfl)) (fun _ _ => rfl)) (by decide)) rfl) STA.orNil))) (SXs.cons (SX.ret SE.boolc) SXs.nil) SXs.nil) (SXs.cons (SX.asg1 (SE.bop (o := .sub) (SE.callP (SE.glob (by decide +kernel) N.f2 (fun _ _ => .fn 2) (by decide +kernel)) (SL.cons (SE.var rfl (.inl rfl) (by decide +kernel)) (SL.cons (SE.sub (SE.callS (SE.glob (by decide +kernel) N.f6 (fun _ _ => .fn 6) (by decide +kernel)) (SE.sub (SE.var rfl (.inr rfl) (by decide +kernel)) (SE.var rfl (.inl rfl) (by decide +kernel)) (fun _ _ => rfl)) (fun _ => rfl)) SE.intc (fun _ _ => rfl)) SL.nil (fun _ _ => rfl)) (fun _ _ => rfl)) (fun _ _ => rfl) (fun _ => rfl) (fun _ => rfl)) SE.intc) rfl (.inl rfl) (fun _ _ _ => rfl)) (SXs.cons (SX.exp (SE.app (SE.var rfl (.inl rfl) (by decide +kernel)) (SE.bop (o := .mod) (SE.bop (o := .mul) (SE.var rfl (.inl rfl) (by decide +kernel)) (SE.bop (o := .pow) (SE.var rfl (.inr rfl) (by decide +kernel)) (SE.bop (o := .sub) SE.intc (SE.var rfl (.inl rfl) (by decide +kernel))))) (SE.var rfl (.inr rfl) (by decide +kernel))) (fun _ => rfl) (fun _ => rfl) rfl) (fun _ => rfl)) (SXs.cons (SX.asg1 (SE.bop (o := .add) (SE.var rfl (.inl rfl) (by decide +kernel)) (SE.var rfl (.inl rfl) (by decide +kernel))) rfl (.inl rfl) (fun _ _ _ => rfl)) (SXs.cons (SX.asg1 (SE.sub (SE.callP (SE.glob (by decide +kernel) N.f100 (fun _ _ => .fn 100) (by decide +kernel)) (SL.cons (SE.bop (o := .mul) (SE.var rfl (.inl rfl) (by decide +kernel)) (SE.var rfl (.inl rfl) (by decide +kernel))) (SL.cons (SE.var rfl (.inr rfl) (by decide +kernel)) SL.nil (fun _ _ => rfl)) (fun _ _ => rfl)) (fun _ _ => rfl) (fun _ => rfl) (fun _ => rfl)) SE.intc (fun _ _ => rfl)) rfl (.inl rfl) (fun _ _ _ => rfl)) SXs.nil)))))) rfl (.inl rfl) (fun _ _ => rfl))
-- law 10
theorem law10_ok (N : Names B) : SX prog w B cx10 (stm 25 10) law10 := (SX.ifs (ST.bool (STA.orCons (ST.cmp (o := .ne) (SE.callP (SE.built (by decide +kernel) N.n_sorted N.b_sorted (fun _ _ => .bi .sorted) (by decide +kernel)) (SL.cons (SE.var rfl (.inl rfl) (by decide +kernel)) SL.nil (fun _ _ => rfl)) (fun _ _ => rfl) (fun _ => rfl) (fun _ => rfl)) (SE.callP (SE.built (by decide +kernel) N.n_sorted N.b_sorted (fun _ _ => .bi .sorted) (by decide +kernel)) (SL.cons (SE.var rfl (.inl rfl) (by decide +kernel)) SL.nil (fun _ _ => rfl)) (fun _ _ => rfl) (fun _ => rfl) (fun _ => rfl)) rfl) (STA.orCons (ST.cmp (o := .ne) (SE.var rfl (.inl rfl) (by decide +kernel)) (SE.bop (o := .mod) (SE.bop (o := .pow) (SE.var rfl (.inr rfl) (by decide +kernel)) (SE.var rfl (.inl rfl) (by decide +kernel))) (SE.var rfl (.inr rfl) (by decide +kernel))) rfl) STA.orNil))) (SXs.cons (SX.ret SE.boolc) SXs.nil) SXs.nil)
-- law 11
theorem law11_ok (N : Names B) : SX prog w B cx10 (stm 25 11) law11 := (SX.asg1 (SE.callP (SE.built (by decide +kernel) N.n_int N.b_int (fun _ _ => .bi .int) (by decide +kernel)) (SL.cons (SE.cmp (o := .isin) (SE.bop (o := .mod) (SE.var rfl (.inl rfl) (by decide +kernel)) (SE.var rfl (.inr rfl) (by decide +kernel))) (SE.comp (SE.callP (SE.built (by decide +kernel) N.n_range N.b_range (fun _ _ => .bi .range) (by decide +kernel)) (SL.cons (SE.var rfl (.inr rfl) (by decide +kernel)) SL.nil (fun _ _ => rfl)) (fun _ _ => rfl) (fun _ => rfl) (fun _ => rfl)) (SE.bop (o := .mod) (SE.bop (o := .pow) (SE.var rfl (.inl rfl) (by decide +kernel)) SE.intc) (SE.up rfl (by decide +kernel) (by decide +kernel))) ⟨rfl, by decide +kernel, by decide +kernel, by decide +kernel, by decide +kernel⟩ ⟨_, _, _, rfl, rfl, rfl⟩ (fun _ _ => rfl)) rfl) SL.nil (fun _ _ => rfl)) (fun _ _ => rfl) (fun _ => rfl) (fun _ => rfl)) rfl (.inl rfl) (fun _ _ _ => rfl))
-- law 12
theorem law12_ok (N : Names B) : SX prog w B cx10 (stm 25 12) law12 := (SX.asg1 (SE.callP (SE.built (by decide +kernel) N.n_int N.b_int (fun _ _ => .bi .int) (by decide +kernel)) (SL.cons (SE.cmp (o := .isin) (SE.bop (o := .mod) (SE.var rfl (.inl rfl) (by decide +kernel)) (SE.var rfl (.inr rfl) (by decide +kernel))) (SE.comp (SE.callP (SE.built (by decide +kernel) N.n_range N.b_range (fun _ _ => .bi .range) (by decide +kernel)) (SL.cons (SE.var rfl (.inr rfl) (by decide +kernel)) SL.nil (fun _ _ => rfl)) (fun _ _ => rfl) (fun _ => rfl) (fun _ => rfl)) (SE.bop (o := .mod) (SE.bop (o := .pow) (SE.var rfl (.inl rfl) (by decide +kernel)) SE.intc) (SE.up rfl (by decide +kernel) (by decide +kernel))) ⟨rfl, by decide +kernel, by decide +kernel, by decide +kernel, by decide +kernel⟩ ⟨_, _, _, rfl, rfl, rfl⟩ (fun _ _ => rfl)) rfl) SL.nil (fun _ _ => rfl)) (fun _ _ => rfl) (fun _ => rfl) (fun _ => rfl)) rfl (.inl rfl) (fun _ _ _ => rfl))
-- law 13
theorem law13_ok (N : Names B) : SX prog w B cx10 (stm 25 13) law13 := (SX.asg1 (SE.sub (SE.sub (SE.lst (SL.cons (SE.lst (SL.cons SE.intc (SL.cons SE.intc SL.nil (fun _ _ => rfl)) (fun _ _ => rfl)) (by decide)) (SL.cons (SE.lst (SL.cons SE.intc (SL.cons SE.intc SL.nil (fun _ _ => rfl)) (fun _ _ => rfl)) (by decide)) SL.nil (fun _ _ => rfl)) (fun _ _ => rfl)) (by decide)) (SE.var rfl (.inl rfl) (by decide +kernel)) (fun _ _ => rfl)) (SE.var rfl (.inl rfl) (by decide +kernel)) (fun _ _ => rfl)) rfl (.inl rfl) (fun _ _ _ => rfl))
-- law 14
theorem law14_ok (N : Names B) : SX prog w B cx10 (stm 25 14) law14 := (SX.asg1 (SE.callP (SE.glob (by decide +kernel) N.f9 (fun _ _ => .fn 9) (by decide +kernel)) (SL.cons (SE.var rfl (.inl rfl) (by decide +kernel)) (SL.cons (SE.bop (o := .add) SE.intc (SE.bop (o := .mod) (SE.sub (SE.var rfl (.inl rfl) (by decide +kernel)) SE.intc (fun _ _ => rfl)) SE.intc)) (SL.cons (SE.bop (o := .add) SE.intc (SE.bop (o := .mod) (SE.bop (o := .fdiv) (SE.sub (SE.var rfl (.inl rfl) (by decide +kernel)) SE.intc (fun _ _ => rfl)) SE.intc) SE.intc)) SL.nil (fun _ _ => rfl)) (fun _ _ => rfl)) (fun _ _ => rfl)) (fun _ _ => rfl) (fun _ => rfl) (fun _ => rfl)) rfl (.inr rfl) (fun _ _ _ => rfl))
-- law 15
theorem law15_ok (N : Names B) : SX prog w B cx10 (stm 25 15) law15 := (SX.ifs (ST.bool (STA.orCons (ST.cmp (o := .ne) (SE.callP (SE.glob (by decide +kernel) N.f1 (fun _ _ => .fn 1) (by decide +kernel)) (SL.cons (SE.strc (by decide +kernel)) (SL.cons (SE.bop (o := .add) (SE.bop (o := .add) (SE.strc (by decide +kernel)) (SE.var rfl (.inr rfl) (by decide +kernel))) (SE.strc (by decide +kernel))) (SL.cons (SE.var rfl (.inl rfl) (by decide +kernel)) SL.nil (fun _ _ => rfl)) (fun _ _ => rfl)) (fun _ _ => rfl)) (fun _ _ => rfl) (fun _ => rfl) (fun _ => rfl)) (SE.var rfl (.inl rfl) (by decide +kernel)) rfl) (STA.orCons (ST.cmp (o := .ne) (SE.callP (SE.glob (by decide +kernel) N.f1 (fun _ _ => .fn 1) (by decide +kernel)) (SL.cons (SE.strc (by decide +kernel)) (SL.cons (SE.var rfl (.inr rfl) (by decide +kernel)) (SL.cons SE.intc SL.nil (fun _ _ => rfl)) (fun _ _ => rfl)) (fun _ _ => rfl)) (fun _ _ => rfl) (fun _ => rfl) (fun _ => rfl)) (SE.callP (SE.built (by decide +kernel) N.n_min N.b_min (fun _ _ => .bi .min) (by decide +kernel)) (SL.cons (SE.var rfl (.inl rfl) (by decide +kernel)) (SL.cons SE.intc SL.nil (fun _ _ => rfl)) (fun _ _ => rfl)) (fun _ _ => rfl) (fun _ => rfl) (fun _ => rfl)) rfl) STA.orNil))) (SXs.cons (SX.ret SE.boolc) SXs.nil) SXs.nil)
-- law 16
theorem law16_ok (N : Names B) : SX prog w B cx10 (stm 25 16) law16 := (SX.asg1 (SE.lst (SL.cons (SE.tup (SL.cons (SE.strc (by decide +kernel)) (SL.cons SE.intc SL.nil (fun _ _ => rfl)) (fun _ _ => rfl)) (by decide)) (SL.cons (SE.tup (SL.cons (SE.strc (by decide +kernel)) (SL.cons SE.intc SL.nil (fun _ _ => rfl)) (fun _ _ => rfl)) (by decide)) (SL.cons (SE.tup (SL.cons (SE.slice (SE.var rfl (.inr rfl) (by decide +kernel)) (SP.some SE.intc) (SP.some SE.intc) (fun _ _ => rfl)) (SL.cons SE.intc SL.nil (fun _ _ => rfl)) (fun _ _ => rfl)) (by decide)) (SL.cons (SE.tup (SL.cons (SE.bop (o := .add) (SE.var rfl (.inr rfl) (by decide +kernel)) (SE.var rfl (.inr rfl) (by decide +kernel))) (SL.cons SE.intc SL.nil (fun _ _ => rfl)) (fun _ _ => rfl)) (by decide)) (SL.cons (SE.tup (SL.cons (SE.bop (o := .mul) (SE.strc (by decide +kernel)) SE.intc) (SL.cons SE.intc SL.nil (fun _ _ => rfl)) (fun _ _ => rfl)) (by decide)) SL.nil (fun _ _ => rfl)) (fun _ _ => rfl)) (fun _ _ => rfl)) (fun _ _ => rfl)) (fun _ _ => rfl)) (by decide)) rfl (.inl rfl) (fun _ _ _ => rfl))
-- law 17
theorem law17_ok (N : Names B) : SX prog w B cx10 (stm 25 17) law17 := (SX.ifs (ST.cmp (o := .ne) (SE.comp (SE.var rfl (.inl rfl) (by decide +kernel)) (SE.callP (SE.glob (by decide +kernel) N.f1 (fun _ _ => .fn 1) (by decide +kernel)) (SL.cons (SE.up rfl (by decide +kernel) (by decide +kernel)) (SL.cons (SE.var rfl (.inl rfl) (by decide +kernel)) (SL.cons (SE.var rfl (.inl rfl) (by decide +kernel)) SL.nil (fun _ _ => rfl)) (fun _ _ => rfl)) (fun _ _ => rfl)) (fun _ _ => rfl) (fun _ => rfl) (fun _ => rfl)) ⟨rfl, by decide +kernel, by decide +kernel, by decide +kernel, by decide +kernel⟩ ⟨_, _, _, rfl, (.cons rfl (.cons rfl .nil))⟩ (fun _ _ => rfl)) (SE.lst (SL.cons SE.intc (SL.cons SE.intc (SL.cons SE.intc (SL.cons SE.intc (SL.cons SE.intc SL.nil (fun _ _ => rfl)) (fun _ _ => rfl)) (fun _ _ => rfl)) (fun _ _ => rfl)) (fun _ _ => rfl)) (by decide)) rfl) (SXs.cons (SX.ret SE.boolc) SXs.nil) SXs.nil)
-- law 18
theorem law18_ok (N : Names B) : SX prog w B cx10 (stm 25 18) law18 := (SX.ret (SE.cmp (o := .eq) (SE.callP (SE.glob (by decide +kernel) N.f1 (fun _ _ => .fn 1) (by decide +kernel)) (SL.cons (SE.var rfl (.inr rfl) (by decide +kernel)) (SL.cons (SE.strc (by decide +kernel)) (SL.cons (SE.bop (o := .sub) (SE.var rfl (.inl rfl) (by decide +kernel)) SE.intc) SL.nil (fun _ _ => rfl)) (fun _ _ => rfl)) (fun _ _ => rfl)) (fun _ _ => rfl) (fun _ => rfl) (fun _ => rfl)) (SE.var rfl (.inl rfl) (by decide +kernel)) rfl))
end Mine
end OfMSound34
noncomputable section OfMSound35
set_option autoImplicit false
set_option linter.unusedVariables false
namespace Mine
open PySem PySem.Calls PyProof.Rows PySem.SeqAt PySem.W
variable {prog : Program} {w : World} {B : Base} {C : Ctx}

structure FnH (B : Base) (m : Nat) (C : Ctx) (body : List Stmt) (fdL : FuncData) : Prop where
  obj : ∃ o, B.h₀.get? (B.fa m) = some o ∧ o.data = .func fdL ∧ o.cls = .type "function"
  code : CodeAt B.h₀ fdL.code fdL.qualname
  body : fdL.body = .stmts body
  names : fdL.scope.names = C.nm
  kind : fdL.scope.kind = .function
  co : fdL.scope.isCoroutine = false
  gen : fdL.scope.isGenerator = false
  clo : fdL.closure = []
  glo : fdL.globals = mainGlobals
  bui : fdL.builtins = builtinsNs
  lm : C.lm = true → fdL.code = .ref (B.tc 0) ∧ fdL.qualname ++ ".<locals>." ++ "<lambda>" = B.lq 0
structure CtxOk (C : Ctx) (ps : List Str) : Prop where
  dist : (C.nm.map (·.1)).Nodup
  noup : C.un = []
  nocell : ∀ p ∈ C.nm, p.2 ≠ .cell
  ps : C.nm.take ps.length = ps.map (·, .local)
theorem padL_get : ∀ {vs : List MV} {n k : Nat} {v : MV}, (padL vs n)[k]? = some (some v) → vs[k]? = some v
  | [], n, k, v, h => by
    exact absurd (show (nones n)[k]? = some (some v) from h) (nones_get n k)
  | x :: vs, n, 0, v, h => by
    have h : (some x :: padL vs (Nat.pred n))[0]? = some (some v) := h
    simp at h; subst h; rfl
  | x :: vs, n, k + 1, v, h => by
    have h : (some x :: padL vs (Nat.pred n))[k + 1]? = some (some v) := h
    rw [List.getElem?_cons_succ] at h ⊢
    exact padL_get h
theorem lookup_app {α : Type} {x : Str} {a : α} : ∀ {l l' : List (Str × α)}, (∀ p ∈ l, p.1 ≠ x) → (l ++ (x, a) :: l').lookup x = some a
  | [], l', _ => by simp
  | (y, b) :: l, l', h => by
    have hxy : (x == y) = false := beq_eq_false_iff_ne.mpr fun e => h (y, b) List.mem_cons_self e.symm
    rw [List.cons_append, List.lookup_cons, hxy]
    exact lookup_app fun p hp => h p (List.mem_cons_of_mem _ hp)
theorem zip_rev_lookup {x : Str} {u : Value} : ∀ {ps : List Str} {us : List Value} {k : Nat}, ps.Nodup → ps[k]? = some x → us[k]? = some u → (ps.zip us).reverse.lookup x = some u
  | [], _, _, _, h, _ => by simp at h
  | _ :: _, [], _, _, _, h => by simp at h
  | p :: ps, v :: us, 0, hd, h1, h2 => by
    simp at h1 h2; subst h1 h2
    rw [List.zip_cons_cons, List.reverse_cons]
    refine lookup_app fun q hq => ?_
    intro e
    have hq := List.mem_reverse.mp hq
    have := List.of_mem_zip hq
    rw [e] at this
    exact (List.nodup_cons.mp hd).1 this.1
  | p :: ps, v :: us, k + 1, hd, h1, h2 => by
    rw [List.getElem?_cons_succ] at h1 h2
    have ih := zip_rev_lookup (List.nodup_cons.mp hd).2 h1 h2
    rw [List.zip_cons_cons, List.reverse_cons]
    have key : ∀ (l r : List (Str × Value)), l.lookup x = some u → (l ++ r).lookup x = some u := by
      intro l
      induction l with
      | nil => intro r h; cases h
      | cons a l ih =>
        intro r h
        obtain ⟨y, b⟩ := a
        rw [List.cons_append]
        rw [List.lookup_cons] at h ⊢
        split
        · rename_i e; rw [e] at h; exact h
        · rename_i e; rw [e] at h; exact ih r h
    exact key _ _ ih
theorem CtxOk.local {ps : List Str} (O : CtxOk C ps) {k : Nat} {x : Str} (h : ps[k]? = some x) : C.nm[k]? = some (x, .local) := by
  have hk : k < ps.length := (List.getElem?_eq_some_iff.mp h).1
  have e : (C.nm.take ps.length)[k]? = (ps.map (·, NameKind.local))[k]? := by rw [O.ps]
  rw [List.getElem?_take, if_pos hk, List.getElem?_map, h] at e
  exact e
theorem CtxOk.psdist {ps : List Str} (O : CtxOk C ps) : ps.Nodup := by
  have h := (O.dist.sublist ((List.take_sublist ps.length C.nm).map _))
  rw [O.ps, List.map_map] at h
  have e : ((·.1) ∘ (·, NameKind.local) : Str → Str) = id := rfl
  rw [e, List.map_id] at h
  exact h
theorem CtxOk.back {ps : List Str} (O : CtxOk C ps) {k : Nat} {x : Str} {kd : NameKind} (hk : k < ps.length) (h : C.nm[k]? = some (x, kd)) : ps[k]? = some x := by
  have e : (C.nm.take ps.length)[k]? = (ps.map (·, NameKind.local))[k]? := by rw [O.ps]
  rw [List.getElem?_take, if_pos hk, List.getElem?_map, h, List.getElem?_eq_getElem hk] at e
  rw [List.getElem?_eq_getElem hk]
  simp at e
  rw [e.1]
theorem FnOk.of {m : Nat} {fd : Fn} {ps : List Str} {body : List Stmt} {fdL : FuncData} (H : FnH B m C body fdL) (O : CtxOk C ps) (S : SXs prog w B C body fd.body)
    (hb : ∀ as st (s : Shared) vs us kw kus ρ, Inv B as st s.heap → VRels B as s.heap vs us → KwR B as s.heap kw kus → FillTo fd vs kw ρ → ∃ full us', BindsTo s fdL ⟨us, kus⟩ (ps.zip us') ∧ VRels B as s.heap full us' ∧ full.length = ps.length ∧ ρ = padL full fd.nsl) : FnOk prog w B C m fd := by
  refine ⟨O.dist, O.noup, O.nocell, ?_⟩
  obtain ⟨o, h1, h2, h3⟩ := H.obj
  refine ⟨o, fdL, body, h1, h2, h3, H.code, H.body, S, H.names, H.kind, H.co, H.gen, H.clo, H.glo, H.bui, H.lm, fun as st s vs us kw kus ρ I rv rk hf => ?_⟩
  obtain ⟨full, us', g1, g2, g3, g4⟩ := hb as st s vs us kw kus ρ I rv rk hf
  refine ⟨_, g1, fun p hp => ?_, fun k x v e1 e2 => ?_⟩
  · have hm := List.of_mem_zip hp
    obtain ⟨k, hk, e⟩ := List.getElem_of_mem hm.1
    rw [H.names]
    have := O.local (k := k) (x := p.1) (by rw [List.getElem?_eq_getElem hk, e])
    exact lookup_of_get O.dist this
  · rw [g4] at e2
    have e3 := padL_get e2
    obtain ⟨u, e4, r⟩ := g2.get e3
    have hk : k < ps.length := by rw [← g3]; exact (List.getElem?_eq_some_iff.mp e3).1
    exact ⟨u, zip_rev_lookup O.psdist (O.back hk e1) e4, r⟩
theorem FnOk.plain {m : Nat} {fd : Fn} {ps : List Str} {body : List Stmt} {fdL : FuncData} (H : FnH B m C body fdL) (O : CtxOk C ps) (S : SXs prog w B C body fd.body) (hn : fd.np = ps.length) (hd : fd.dflt = []) (hk : fd.kw = false)
    (hb : ∀ us : List Value, us.length = ps.length → bindArgs fdL ⟨us, []⟩ = pure (ps.zip us)) : FnOk prog w B C m fd := by
  refine FnOk.of H O S fun as st s vs us kw kus ρ I rv rk hf => ?_
  obtain ⟨last, h1, h2, h3, h4⟩ := hf
  cases kw with
  | some _ =>
    have h1 : fd.kw = true ∧ _ := h1
    rw [hk] at h1; cases h1.1
  | none =>
    have h1 : last = (if fd.kw = true then [MV.none] else []) := h1
    have rk : kus = [] := rk
    subst rk
    rw [hk] at h1
    rw [hd] at h3 h4
    have hlen : vs.length = ps.length := by
      have : ([] : List MV).length = 0 := rfl
      (first | lia | omega)
    refine ⟨vs, us, .of_eq (hb us (by rw [← rv.length]; exact hlen)), rv, hlen, ?_⟩
    rw [h4, h1]
    simp
theorem FnOk.key {m : Nat} {fd : Fn} {ps : List Str} {body : List Stmt} {fdL : FuncData} {t : Tok} (H : FnH B m C body fdL) (O : CtxOk C ps) (S : SXs prog w B C body fd.body) (hl : ps.length = 5) (hn : fd.np = 4) (hd : fd.dflt = [.int 0, .none]) (hk : fd.kw = true)
    (hb2 : ∀ as st (s : Shared) a b, Inv B as st s.heap → BindsTo s fdL ⟨[a, b], []⟩ (ps.zip [a, b, .int 0 t, .none, .none]) ∧ ∀ k, BindsTo s fdL ⟨[a, b], [((Str.ofString "key"), k)]⟩ (ps.zip [a, b, .int 0 t, .none, k]))
    (hb3 : ∀ as st (s : Shared) a b c, Inv B as st s.heap → BindsTo s fdL ⟨[a, b, c], []⟩ (ps.zip [a, b, c, .none, .none]) ∧ ∀ k, BindsTo s fdL ⟨[a, b, c], [((Str.ofString "key"), k)]⟩ (ps.zip [a, b, c, .none, k]))
    (hb4 : ∀ as st (s : Shared) a b c d, Inv B as st s.heap → BindsTo s fdL ⟨[a, b, c, d], []⟩ (ps.zip [a, b, c, d, .none]) ∧ ∀ k, BindsTo s fdL ⟨[a, b, c, d], [((Str.ofString "key"), k)]⟩ (ps.zip [a, b, c, d, k])) : FnOk prog w B C m fd := by
  refine FnOk.of H O S fun as st s vs us kw kus ρ I rv rk hf => ?_
  obtain ⟨last, h1, h2, h3, h4⟩ := hf
  rw [hn] at h2 h3 h4
  rw [hd] at h3 h4
  have h3 : 4 ≤ vs.length + 2 := h3
  rw [hl]
  have hlast : ∃ lv ku, last = [lv] ∧ VRel B as s.heap lv ku ∧ ((kus = [] ∧ ku = .none) ∨ kus = [((Str.ofString "key"), ku)]) := by
    cases kw with
    | none =>
      have h1 : last = (if fd.kw = true then [MV.none] else []) := h1
      rw [hk] at h1
      exact ⟨.none, .none, h1, .none, .inl ⟨rk, rfl⟩⟩
    | some k =>
      have h1 : fd.kw = true ∧ last = [k] := h1
      obtain ⟨ku, e, r⟩ := rk
      exact ⟨k, ku, h1.2, r, .inr e⟩
  obtain ⟨lv, ku, e1, r1, hkus⟩ := hlast
  rw [e1] at h4
  cases vs with
  | nil => exact absurd h3 (by simp)
  | cons v1 vs =>
    cases vs with
    | nil => exact absurd h3 (by simp)
    | cons v2 vs =>
      cases vs with
      | nil =>
        obtain ⟨a, b, rfl, ra, rb⟩ := rv.two_i
        refine ⟨_, [a, b, .int 0 t, .none, ku], ?_, .cons ra (.cons rb (.cons (.int 0 t) (.cons .none (.cons r1 .nil)))), rfl, h4⟩
        rcases hkus with ⟨rfl, rfl⟩ | rfl
        · exact (hb2 as st s a b I).1
        · exact (hb2 as st s a b I).2 ku
      | cons v3 vs =>
        cases vs with
        | nil =>
          obtain ⟨a, b, c, rfl, ra, rb, rc⟩ := rv.three_i
          refine ⟨_, [a, b, c, .none, ku], ?_, .cons ra (.cons rb (.cons rc (.cons .none (.cons r1 .nil)))), rfl, h4⟩
          rcases hkus with ⟨rfl, rfl⟩ | rfl
          · exact (hb3 as st s a b c I).1
          · exact (hb3 as st s a b c I).2 ku
        | cons v4 vs =>
          cases vs with
          | nil =>
            obtain ⟨a, b, c, d, rfl, ra, rb, rc, rd⟩ := rv.four_i
            refine ⟨_, [a, b, c, d, ku], ?_, .cons ra (.cons rb (.cons rc (.cons rd (.cons r1 .nil)))), rfl, h4⟩
            rcases hkus with ⟨rfl, rfl⟩ | rfl
            · exact (hb4 as st s a b c d I).1
            · exact (hb4 as st s a b c d I).2 ku
          | cons v5 vs => exact absurd h2 (by simp)
end Mine
end OfMSound35
noncomputable section OfMSound36
set_option genInjectivity false
set_option autoImplicit false
set_option linter.unusedVariables false
namespace Mine
open PySem PySem.Calls PyProof.Rows PySem.SeqAt PySem.W
variable {prog : Program} {w : World} {B : Base} {C : Ctx}

structure ObjK (K : Frag) (a : Addr) (fdL : FuncData) (o : Obj) : Prop where
  g : K.lookup a = some o
  d : o.data = .func fdL
  c : o.cls = .type "function"
structure CodeK (K : Frag) (fdL : FuncData) (c : Addr) (o : Obj) (vs : Array Value) (t : Tok) : Prop where
  f : fdL.code = .ref c
  g : K.lookup c = some o
  k : o.cls = .type "code"
  d : o.data = .fields vs
  q : vs[1]? = some (.str fdL.qualname t)
structure FnK (K : Frag) (a : Addr) (nm : List (Str × NameKind)) (body : List Stmt) (fdL : FuncData) : Prop where
  obj : ∃ o, ObjK K a fdL o
  code : ∃ c o vs t, CodeK K fdL c o vs t
  body : fdL.body = .stmts body
  names : fdL.scope.names = nm
  kind : fdL.scope.kind = .function
  co : fdL.scope.isCoroutine = false
  gen : fdL.scope.isGenerator = false
  clo : fdL.closure = []
  glo : fdL.globals = mainGlobals
  bui : fdL.builtins = builtinsNs
theorem FnK.fnH {K : Frag} {a : Addr} {nm : List (Str × NameKind)} {body : List Stmt} {fdL : FuncData} {m : Nat} (F : FnK K a nm body fdL) (X : K.In B.h₀) (ha : B.fa m = a) (hn : C.nm = nm) (hl : C.lm = true → fdL.code = .ref (B.tc 0) ∧ fdL.qualname ++ ".<locals>." ++ "<lambda>" = B.lq 0) : FnH B m C body fdL := by
  obtain ⟨o, h1, h2, h3⟩ := F.obj
  obtain ⟨c, o', vs, t, g1, g2, g3, g4, g5⟩ := F.code
  exact ⟨⟨o, by rw [ha]; exact X _ _ h1, h2, h3⟩, ⟨c, o', vs, t, g1, X _ _ g2, g3, g4, g5⟩, F.body, F.names.trans hn.symm, F.kind, F.co, F.gen, F.clo, F.glo, F.bui, hl⟩
noncomputable def faOf : Nat → Addr
  | 0 => 21 | 1 => 28 | 2 => 79 | 3 => 88 | 4 => 97 | 5 => 104 | 6 => 111 | 7 => 118 | 8 => 123 | 9 => 128 | 10 => 133 | 100 => 70
  | 101 => 63 | 102 => 49 | 103 => 56 | 104 => 35
  | _ => 21
noncomputable def psN (nm : List (Str × NameKind)) (n : Nat) : List Str := (nm.take n).map (·.1)
structure KeyX (K : Frag) (ps : List Str) (fdL : FuncData) (T : Addr) (oT : Obj) (D : Addr) (oD : Obj) (t : Tok) : Prop where
  h1 : K.lookup T = some oT
  h2 : oT.cls = .type "tuple"
  h3 : K.lookup D = some oD
  h4 : oD.cls = .type "dict"
  g1 : ∀ S a b, peek [(T, oT), (D, oD)] S (bindArgs fdL ⟨[a, b], []⟩) = some (ps.zip [a, b, .int 0 t, .none, .none])
  g2 : ∀ S a b k, peek [(T, oT), (D, oD)] S (bindArgs fdL ⟨[a, b], [((Str.ofString "key"), k)]⟩) = some (ps.zip [a, b, .int 0 t, .none, k])
  g3 : ∀ S a b c, peek [(T, oT), (D, oD)] S (bindArgs fdL ⟨[a, b, c], []⟩) = some (ps.zip [a, b, c, .none, .none])
  g4 : ∀ S a b c k, peek [(T, oT), (D, oD)] S (bindArgs fdL ⟨[a, b, c], [((Str.ofString "key"), k)]⟩) = some (ps.zip [a, b, c, .none, k])
  g5 : ∀ S a b c d, peek [(T, oT), (D, oD)] S (bindArgs fdL ⟨[a, b, c, d], []⟩) = some (ps.zip [a, b, c, d, .none])
  g6 : ∀ S a b c d k, peek [(T, oT), (D, oD)] S (bindArgs fdL ⟨[a, b, c, d], [((Str.ofString "key"), k)]⟩) = some (ps.zip [a, b, c, d, k])
structure KeyB (K : Frag) (ps : List Str) (fdL : FuncData) : Prop where
  ex : ∃ T oT D oD t, KeyX K ps fdL T oT D oD t
structure TabX (K : Frag) (fd : FuncData) (c P : Addr) (oc : Obj) (vs : Array Value) (file : Str) (tf : Tok) (flags : Int) (tg : Tok) (inF : Bool) (text : Int) (tt : Tok) : Prop where
  a3 : fd.code = .ref c
  a4 : K.lookup c = some oc
  a5 : oc.cls = .type "code"
  a6 : oc.data = .fields vs
  a7 : vs[11]? = some (.ref P)
  a8 : vs.getD 11 .none = .ref P
  a9 : vs.getD 18 .none = .str file tf
  a10 : vs.getD 7 .none = .int flags tg
  a11 : vs.getD 9 .none = .bool inF
  a12 : vs.getD 10 .none = .int text tt
  a13 : K.lookup P = some { cls := .none, data := .fields #[] }
  a14 : c ≠ P
structure TabK (K : Frag) (a : Addr) (fd : FuncData) (c P : Addr) : Prop where
  ex : ∃ oc vs file tf flags tg inF text tt, TabX K fd c P oc vs file tf flags tg inF text tt
theorem TabK.at {K : Frag} {a : Addr} {fd : FuncData} {c P : Addr} (T : TabK K a fd c P) {h : Heap} (X : K.In h) : fd.code = .ref c ∧ h.IsCode c P #[] ∧ h.TableAt c P #[] := by
  obtain ⟨oc, vs, file, tf, flags, tg, inF, text, tt, a3, a4, a5, a6, a7, a8, a9, a10, a11, a12, a13, a14⟩ := T.ex
  refine ⟨a3, ⟨oc, vs, file, tf, flags, tg, inF, text, tt, _, X _ _ a4, a6, a8, a9, a10, a11, a12, X _ _ a13, rfl, ?_, a14⟩, ⟨oc, vs, X _ _ a4, a5, a6, a7⟩, X _ _ a13⟩
  show TriplesOk []
  unfold TriplesOk; trivial
structure HeadK (K : Frag) where
  d0 : FuncData
  d1 : FuncData
  d2 : FuncData
  d3 : FuncData
  d4 : FuncData
  d5 : FuncData
  d6 : FuncData
  d7 : FuncData
  d8 : FuncData
  d9 : FuncData
  d10 : FuncData
  d100 : FuncData
  d101 : FuncData
  d102 : FuncData
  d103 : FuncData
  d104 : FuncData
  k0 : FnK K 21 nm0 (bod 4) d0
  k1 : FnK K 28 nm1 (bod 5) d1
  k2 : FnK K 79 nm2 (bod 15) d2
  k3 : FnK K 88 nm3 (bod 16) d3
  k4 : FnK K 97 nm4 (bod 17) d4
  k5 : FnK K 104 nm5 (bod 19) d5
  k6 : FnK K 111 nm6 (bod 20) d6
  k7 : FnK K 118 nm7 (bod 21) d7
  k8 : FnK K 123 nm8 (bod 23) d8
  k9 : FnK K 128 nm9 (bod 24) d9
  k10 : FnK K 133 nm10 (bod 25) d10
  p10 : ∀ a, bindArgs d10 ⟨[a], []⟩ = pure [(Str.ofString "script", a)]
  p0 : ∀ a b, bindArgs d0 ⟨[a, b], []⟩ = pure ((psN nm0 2).zip [a, b])
  p1 : ∀ a b c, bindArgs d1 ⟨[a, b, c], []⟩ = pure ((psN nm1 3).zip [a, b, c])
  p2 : KeyB K (psN nm2 5) d2
  p3 : KeyB K (psN nm3 5) d3
  p4 : KeyB K (psN nm4 5) d4
  p5 : ∀ a b c, bindArgs d5 ⟨[a, b, c], []⟩ = pure ((psN nm5 3).zip [a, b, c])
  p6 : ∀ a b c, bindArgs d6 ⟨[a, b, c], []⟩ = pure ((psN nm6 3).zip [a, b, c])
  p7 : ∀ a b c, bindArgs d7 ⟨[a, b, c], []⟩ = pure ((psN nm7 3).zip [a, b, c])
  p8 : ∀ a b, bindArgs d8 ⟨[a, b], []⟩ = pure ((psN nm8 2).zip [a, b])
  p9 : ∀ a b c, bindArgs d9 ⟨[a, b, c], []⟩ = pure ((psN nm9 3).zip [a, b, c])
  c9 : Addr
  P9 : Addr
  c102 : Addr
  P102 : Addr
  c103 : Addr
  P103 : Addr
  t9 : TabK K 128 d9 c9 P9
  t102 : TabK K 49 d102 c102 P102
  t103 : TabK K 56 d103 c103 P103
  ne1 : P9 ≠ P102
  ne2 : P9 ≠ P103
  ne3 : P102 ≠ P103
  o100 : ∃ o, ObjK K 70 d100 o
  o101 : ∃ o, ObjK K 63 d101 o
  o102 : ∃ o, ObjK K 49 d102 o
  o103 : ∃ o, ObjK K 56 d103 o
  o104 : ∃ o, ObjK K 35 d104 o
  m0 : nsIn K mainGlobals (Str.ofString "_substitution_cost") = some (some (.ref 21))
  m1 : nsIn K mainGlobals (Str.ofString "_levenshtein_distance") = some (some (.ref 28))
  m2 : nsIn K mainGlobals (Str.ofString "bisect_right") = some (some (.ref 79))
  m3 : nsIn K mainGlobals (Str.ofString "insort_left") = some (some (.ref 88))
  m4 : nsIn K mainGlobals (Str.ofString "bisect_left") = some (some (.ref 97))
  m5 : nsIn K mainGlobals (Str.ofString "rgb_to_hls") = some (some (.ref 104))
  m6 : nsIn K mainGlobals (Str.ofString "rgb_to_hsv") = some (some (.ref 111))
  m7 : nsIn K mainGlobals (Str.ofString "hsv_to_rgb") = some (some (.ref 118))
  m8 : nsIn K mainGlobals (Str.ofString "_law_paints") = some (some (.ref 123))
  m9 : nsIn K mainGlobals (Str.ofString "_law_names") = some (some (.ref 128))
  m100 : nsIn K mainGlobals (Str.ofString "int_divmod") = some (some (.ref 70))
  c1 : ∃ t, nsIn K mainGlobals (Str.ofString "_MOVE_COST") = some (some (.int 2 t))
  c2 : ∃ t, nsIn K mainGlobals (Str.ofString "_CASE_COST") = some (some (.int 1 t))
  c3 : ∃ t, nsIn K mainGlobals (Str.ofString "_MAX_STRING_SIZE") = some (some (.int 40 t))
  n1 : nsIn K mainGlobals (Str.ofString "len") = some none
  n2 : nsIn K mainGlobals (Str.ofString "range") = some none
  n3 : nsIn K mainGlobals (Str.ofString "list") = some none
  n4 : nsIn K mainGlobals (Str.ofString "min") = some none
  n5 : nsIn K mainGlobals (Str.ofString "max") = some none
  n6 : nsIn K mainGlobals (Str.ofString "int") = some none
  n7 : nsIn K mainGlobals (Str.ofString "sorted") = some none
  n8 : nsIn K mainGlobals (Str.ofString "enumerate") = some none
  n9 : nsIn K mainGlobals (Str.ofString "sum") = some none
structure HeadB (K : Frag) (h : Heap) (mg mb : Str → Option Value) : Prop where
  X : K.In h
  lim : h.NoLimit
  gl : h.Ns mainGlobals mg
  bl : h.Ns builtinsNs mb
  bu : ∀ x : Str, x ≠ "__name__" → mb x = bootBuiltins x
  bmain : ∃ bm ob, mg "__builtins__" = some (.ref bm) ∧ bm ≠ builtinsNs ∧ h.get? bm = some ob ∧ ob.cls = .type "module" ∧ ob.dict = some builtinsNs ∧ ob.data = .plain
theorem ns_tab {h : Heap} {a P c : Addr} {m : Str → Option Value} {ps : Array Value} (n : h.Ns a m) (t : h.TableAt c P ps) : P ≠ a := by
  rintro rfl
  obtain ⟨o, es, ep, ho, hd, _⟩ := n
  have := t.2
  rw [ho] at this; cases this; cases hd
theorem faOf_ok {K : Frag} (H : HeadK K) (m : Nat) : ∃ o fd, K.lookup (faOf m) = some o ∧ o.data = .func fd ∧ o.cls = .type "function" := by
  unfold faOf
  split
  · obtain ⟨o, r⟩ := H.k0.obj; exact ⟨o, _, r.g, r.d, r.c⟩
  · obtain ⟨o, r⟩ := H.k1.obj; exact ⟨o, _, r.g, r.d, r.c⟩
  · obtain ⟨o, r⟩ := H.k2.obj; exact ⟨o, _, r.g, r.d, r.c⟩
  · obtain ⟨o, r⟩ := H.k3.obj; exact ⟨o, _, r.g, r.d, r.c⟩
  · obtain ⟨o, r⟩ := H.k4.obj; exact ⟨o, _, r.g, r.d, r.c⟩
  · obtain ⟨o, r⟩ := H.k5.obj; exact ⟨o, _, r.g, r.d, r.c⟩
  · obtain ⟨o, r⟩ := H.k6.obj; exact ⟨o, _, r.g, r.d, r.c⟩
  · obtain ⟨o, r⟩ := H.k7.obj; exact ⟨o, _, r.g, r.d, r.c⟩
  · obtain ⟨o, r⟩ := H.k8.obj; exact ⟨o, _, r.g, r.d, r.c⟩
  · obtain ⟨o, r⟩ := H.k9.obj; exact ⟨o, _, r.g, r.d, r.c⟩
  · obtain ⟨o, r⟩ := H.k10.obj; exact ⟨o, _, r.g, r.d, r.c⟩
  · obtain ⟨o, r⟩ := H.o100; exact ⟨o, _, r.g, r.d, r.c⟩
  · obtain ⟨o, r⟩ := H.o101; exact ⟨o, _, r.g, r.d, r.c⟩
  · obtain ⟨o, r⟩ := H.o102; exact ⟨o, _, r.g, r.d, r.c⟩
  · obtain ⟨o, r⟩ := H.o103; exact ⟨o, _, r.g, r.d, r.c⟩
  · obtain ⟨o, r⟩ := H.o104; exact ⟨o, _, r.g, r.d, r.c⟩
  · obtain ⟨o, r⟩ := H.k0.obj; exact ⟨o, _, r.g, r.d, r.c⟩
noncomputable def three {α : Type} (a b c : α) : Nat → α
  | 1 => b
  | 2 => c
  | _ => a
theorem HeadB.base {K : Frag} {h : Heap} {mg mb : Str → Option Value} (Y : HeadB K h mg mb) (H : HeadK K) (va : Nat → Int) (hs : (va 0).natAbs ≤ 10000) :
    ∃ B : Base, B.h₀ = h ∧ B.mg = mg ∧ B.mb = mb ∧ B.va = va ∧ B.fa = faOf ∧ B.tc = three H.c9 H.c102 H.c103 ∧ B.tp = three H.P9 H.P102 H.P103 ∧
      B.lq = three (H.d9.qualname ++ ".<locals>." ++ "<lambda>") (H.d102.qualname ++ ".<locals>." ++ "inner") (H.d103.qualname ++ ".<locals>." ++ "inner") ∧ B.ps₀ = fun _ => #[] := by
  obtain ⟨bm, ob, b1, b2, b3, b4, b5, b6⟩ := Y.bmain
  obtain ⟨x1, y1, z1⟩ := H.t9.at Y.X
  obtain ⟨x2, y2, z2⟩ := H.t102.at Y.X
  obtain ⟨x3, y3, z3⟩ := H.t103.at Y.X
  have ht : ∀ t, h.TableAt (three H.c9 H.c102 H.c103 t) (three H.P9 H.P102 H.P103 t) #[] := fun t => by
    match t with
    | 0 => exact z1
    | 1 => exact z2
    | 2 => exact z3
    | _ + 3 => exact z1
  obtain ⟨mc, n1, n2⟩ := Y.lim
  refine ⟨⟨h, three H.c9 H.c102 H.c103, three H.P9 H.P102 H.P103, three (H.d9.qualname ++ ".<locals>." ++ "<lambda>") (H.d102.qualname ++ ".<locals>." ++ "inner") (H.d103.qualname ++ ".<locals>." ++ "inner"), faOf, va, hs, Y.lim, mg, mb, Y.gl, fun t => ns_tab Y.gl (ht t), Y.bl, fun t => ns_tab Y.bl (ht t), fun _ => #[], ht, fun t => ns_tab n1 (ht t), fun t u e => ?_, ⟨bm, ob, b1, b2, fun t => ?_, b3, b4, b5, b6⟩, fun f => ?_⟩, rfl, rfl, rfl, rfl, rfl, rfl, rfl, rfl, rfl⟩
  · match t, u, e with
    | 0, 0, _ => exact ⟨rfl, rfl, rfl⟩
    | 0, 1, e => exact absurd e H.ne1
    | 0, 2, e => exact absurd e H.ne2
    | 0, _ + 3, _ => exact ⟨rfl, rfl, rfl⟩
    | 1, 0, e => exact absurd e.symm H.ne1
    | 1, 1, _ => exact ⟨rfl, rfl, rfl⟩
    | 1, 2, e => exact absurd e H.ne3
    | 1, _ + 3, e => exact absurd e.symm H.ne1
    | 2, 0, e => exact absurd e.symm H.ne2
    | 2, 1, e => exact absurd e.symm H.ne3
    | 2, 2, _ => exact ⟨rfl, rfl, rfl⟩
    | 2, _ + 3, e => exact absurd e.symm H.ne2
    | _ + 3, 0, _ => exact ⟨rfl, rfl, rfl⟩
    | _ + 3, 1, e => exact absurd e H.ne1
    | _ + 3, 2, e => exact absurd e H.ne2
    | _ + 3, _ + 3, _ => exact ⟨rfl, rfl, rfl⟩
  · rintro q
    have := (ht t).2
    rw [← q, b3] at this; cases this; cases b6
  · obtain ⟨o, fd, q1, q2, q3⟩ := faOf_ok H f
    exact ⟨o, fd, Y.X _ _ q1, q2, q3⟩
theorem bootE : bootBuiltins (Str.ofString "len") = some (biVal .len) ∧ bootBuiltins (Str.ofString "range") = some (biVal .range) ∧ bootBuiltins (Str.ofString "list") = some (biVal .list) ∧ bootBuiltins (Str.ofString "min") = some (biVal .min) ∧
    bootBuiltins (Str.ofString "max") = some (biVal .max) ∧ bootBuiltins (Str.ofString "int") = some (biVal .int) ∧ bootBuiltins (Str.ofString "sorted") = some (biVal .sorted) ∧
    bootBuiltins (Str.ofString "enumerate") = some (.type "enumerate") ∧ bootBuiltins (Str.ofString "sum") = some (.builtin "sum") := by decide +kernel
theorem HeadB.names {K : Frag} {h : Heap} {mg mb : Str → Option Value} (Y : HeadB K h mg mb) (H : HeadK K) (e1 : B.mg = mg) (e2 : B.mb = mb) (e3 : B.fa = faOf) : Names B := by
  obtain ⟨q1, q2, q3, q4, q5, q6, q7, q8, q9⟩ := bootE
  have g {n : Str} {v : Value} (q : nsIn K mainGlobals n = some (some v)) : B.mg n = some v := by rw [e1]; exact mg_of Y.X Y.gl q
  have no {n : Str} (q : nsIn K mainGlobals n = some none) : B.mg n = none := by rw [e1]; exact mg_none_of Y.X Y.gl q
  have bu {n : Str} {v : Value} (hn : n ≠ "__name__") (q : bootBuiltins n = some v) : B.mb n = some v := by rw [e2, Y.bu n hn]; exact q
  obtain ⟨t1, c1⟩ := H.c1
  obtain ⟨t2, c2⟩ := H.c2
  obtain ⟨t3, c3⟩ := H.c3
  exact {
    f0 := by rw [e3]; exact g H.m0
    f1 := by rw [e3]; exact g H.m1
    f2 := by rw [e3]; exact g H.m2
    f3 := by rw [e3]; exact g H.m3
    f4 := by rw [e3]; exact g H.m4
    f5 := by rw [e3]; exact g H.m5
    f6 := by rw [e3]; exact g H.m6
    f7 := by rw [e3]; exact g H.m7
    f8 := by rw [e3]; exact g H.m8
    f9 := by rw [e3]; exact g H.m9
    f100 := by rw [e3]; exact g H.m100
    k_MOVE_COST := ⟨t1, g c1⟩
    k_CASE_COST := ⟨t2, g c2⟩
    k_MAX_STRING_SIZE := ⟨t3, g c3⟩
    n_len := no H.n1
    n_range := no H.n2
    n_list := no H.n3
    n_min := no H.n4
    n_max := no H.n5
    n_int := no H.n6
    n_sorted := no H.n7
    n_enumerate := no H.n8
    n_sum := no H.n9
    b_len := bu (by decide +kernel) q1
    b_range := bu (by decide +kernel) q2
    b_list := bu (by decide +kernel) q3
    b_min := bu (by decide +kernel) q4
    b_max := bu (by decide +kernel) q5
    b_int := bu (by decide +kernel) q6
    b_sorted := bu (by decide +kernel) q7
    b_enumerate := bu (by decide +kernel) q8
    b_sum := bu (by decide +kernel) q9 }
theorem HeadB.inv {K : Frag} {h : Heap} {mg mb : Str → Option Value} (Y : HeadB K h mg mb) (H : HeadK K) (e0 : B.h₀ = h) (e1 : B.tc = three H.c9 H.c102 H.c103) (e2 : B.tp = three H.P9 H.P102 H.P103) (e3 : B.ps₀ = fun _ => #[]) : Inv B [] [] B.h₀ := by
  refine ⟨rfl, List.nodup_nil, fun i a l h => by simp at h, fun a h => by simp at h, fun a o _ e => e, fun t => ⟨#[], ?_, ?_, fun pos c h => ?_⟩⟩
  · rw [e3, e0, e1, e2]
    match t with
    | 0 => exact (H.t9.at Y.X).2.1
    | 1 => exact (H.t102.at Y.X).2.1
    | 2 => exact (H.t103.at Y.X).2.1
    | _ + 3 => exact (H.t9.at Y.X).2.1
  · have := B.tab t
    rw [e3] at this ⊢
    exact this
  · rw [e3] at h
    have h : codeAmong pos [] = some c := h
    cases h
end Mine
end OfMSound36
noncomputable section OfMSound37
set_option autoImplicit false
set_option linter.unusedVariables false
namespace Mine
open PySem PySem.Calls PyProof.Rows PySem.SeqAt PySem.W
variable {prog : Program} {w : World} {B : Base} {C : Ctx}

theorem len_two {l : List Value} (h : l.length = 2) : ∃ a b, l = [a, b] := by
  cases l with
  | nil => exact absurd h (by decide)
  | cons a l =>
    cases l with
    | nil => exact absurd h (by simp)
    | cons b l =>
      have : l = [] := List.length_eq_zero_iff.mp (Nat.add_right_cancel (m := 2) h)
      exact ⟨a, b, by rw [this]⟩
theorem len_three {l : List Value} (h : l.length = 3) : ∃ a b c, l = [a, b, c] := by
  cases l with
  | nil => exact absurd h (by decide)
  | cons a l =>
    obtain ⟨b, c, rfl⟩ := len_two (Nat.add_right_cancel (m := 1) h)
    exact ⟨a, b, c, rfl⟩
theorem bind2 {fdL : FuncData} {ps : List Str} (hl : ps.length = 2) (h : ∀ a b, bindArgs fdL ⟨[a, b], []⟩ = pure (ps.zip [a, b])) (us : List Value) (hu : us.length = ps.length) : bindArgs fdL ⟨us, []⟩ = pure (ps.zip us) := by
  obtain ⟨a, b, rfl⟩ := len_two (hu.trans hl)
  exact h a b
theorem bind3 {fdL : FuncData} {ps : List Str} (hl : ps.length = 3) (h : ∀ a b c, bindArgs fdL ⟨[a, b, c], []⟩ = pure (ps.zip [a, b, c])) (us : List Value) (hu : us.length = ps.length) : bindArgs fdL ⟨us, []⟩ = pure (ps.zip us) := by
  obtain ⟨a, b, c, rfl⟩ := len_three (hu.trans hl)
  exact h a b c
theorem FnOk.keyK {K : Frag} {m : Nat} {fd : Fn} {ps : List Str} {body : List Stmt} {fdL : FuncData} (X : K.In B.h₀) (H : FnH B m C body fdL) (O : CtxOk C ps) (S : SXs prog w B C body fd.body) (hl : ps.length = 5) (hn : fd.np = 4) (hd : fd.dflt = [.int 0, .none]) (hk : fd.kw = true) (b : KeyB K ps fdL) : FnOk prog w B C m fd := by
  obtain ⟨T, oT, D, oD, t, h1, h2, h3, h4, g1, g2, g3, g4, g5, g6⟩ := b.ex
  have key : ∀ as st (s : Shared), Inv B as st s.heap → Frag.In [(T, oT), (D, oD)] s.heap := fun as st s I a o e => by
    have e : (if (a == T) = true then some oT else if (a == D) = true then some oD else none) = some o := by
      simp only [List.lookup] at e
      split at e
      · rename_i q; rw [q]; simpa using e
      · rename_i q; rw [q]
        split at e
        · rename_i q'; rw [q']; simpa using e
        · cases e
    split at e
    · rename_i q; cases e
      rw [beq_iff_eq.mp q]
      exact I.get0 (X _ _ h1) (by rw [h2]; exact fun e => nomatch e)
    · split at e
      · rename_i q; cases e
        rw [beq_iff_eq.mp q]
        exact I.get0 (X _ _ h3) (by rw [h4]; exact fun e => nomatch e)
      · cases e
  exact FnOk.key (t := t) H O S hl hn hd hk
    (fun as st s a b I => ⟨kp_binds (key as st s I) fun S => g1 S a b, fun k => kp_binds (key as st s I) fun S => g2 S a b k⟩)
    (fun as st s a b c I => ⟨kp_binds (key as st s I) fun S => g3 S a b c, fun k => kp_binds (key as st s I) fun S => g4 S a b c k⟩)
    (fun as st s a b c d I => ⟨kp_binds (key as st s I) fun S => g5 S a b c d, fun k => kp_binds (key as st s I) fun S => g6 S a b c d k⟩)
theorem o0 : CtxOk cx0 (psN nm0 2) := ⟨by decide +kernel, rfl, by decide +kernel, by decide +kernel⟩
theorem o1 : CtxOk cx1 (psN nm1 3) := ⟨by decide +kernel, rfl, by decide +kernel, by decide +kernel⟩
theorem o2 : CtxOk cx2 (psN nm2 5) := ⟨by decide +kernel, rfl, by decide +kernel, by decide +kernel⟩
theorem o3 : CtxOk cx3 (psN nm3 5) := ⟨by decide +kernel, rfl, by decide +kernel, by decide +kernel⟩
theorem o4 : CtxOk cx4 (psN nm4 5) := ⟨by decide +kernel, rfl, by decide +kernel, by decide +kernel⟩
theorem o5 : CtxOk cx5 (psN nm5 3) := ⟨by decide +kernel, rfl, by decide +kernel, by decide +kernel⟩
theorem o6 : CtxOk cx6 (psN nm6 3) := ⟨by decide +kernel, rfl, by decide +kernel, by decide +kernel⟩
theorem o7 : CtxOk cx7 (psN nm7 3) := ⟨by decide +kernel, rfl, by decide +kernel, by decide +kernel⟩
theorem o8 : CtxOk cx8 (psN nm8 2) := ⟨by decide +kernel, rfl, by decide +kernel, by decide +kernel⟩
theorem o9 : CtxOk cx9 (psN nm9 3) := ⟨by decide +kernel, rfl, by decide +kernel, by decide +kernel⟩
theorem HeadB.fns {K : Frag} {h : Heap} {mg mb : Str → Option Value} (Y : HeadB K h mg mb) (H : HeadK K) (e0 : B.h₀ = h) (e3 : B.fa = faOf) (N : Names B) (l1 : H.d9.code = .ref (B.tc 0)) (l2 : H.d9.qualname ++ ".<locals>." ++ "<lambda>" = B.lq 0) :
    ∀ m fd, Mine.fns m = some fd → ∃ C, FnOk prog w B C m fd := by
  have X : K.In B.h₀ := by rw [e0]; exact Y.X
  have fa {m a : Nat} (e : faOf m = a) : B.fa m = a := by rw [e3]; exact e
  intro m fd hm
  unfold Mine.fns at hm
  split at hm <;> cases hm
  · exact ⟨cx0, FnOk.plain (H.k0.fnH X (fa rfl) rfl (fun e => absurd e (by decide))) o0 (code0_ok N) rfl rfl rfl (bind2 rfl H.p0)⟩
  · exact ⟨cx1, FnOk.plain (H.k1.fnH X (fa rfl) rfl (fun e => absurd e (by decide))) o1 (code1_ok N) rfl rfl rfl (bind3 rfl H.p1)⟩
  · exact ⟨cx2, FnOk.keyK X (H.k2.fnH X (fa rfl) rfl (fun e => absurd e (by decide))) o2 (code2_ok N) rfl rfl rfl rfl H.p2⟩
  · exact ⟨cx3, FnOk.keyK X (H.k3.fnH X (fa rfl) rfl (fun e => absurd e (by decide))) o3 (code3_ok N) rfl rfl rfl rfl H.p3⟩
  · exact ⟨cx4, FnOk.keyK X (H.k4.fnH X (fa rfl) rfl (fun e => absurd e (by decide))) o4 (code4_ok N) rfl rfl rfl rfl H.p4⟩
  · exact ⟨cx5, FnOk.plain (H.k5.fnH X (fa rfl) rfl (fun e => absurd e (by decide))) o5 (code5_ok N) rfl rfl rfl (bind3 rfl H.p5)⟩
  · exact ⟨cx6, FnOk.plain (H.k6.fnH X (fa rfl) rfl (fun e => absurd e (by decide))) o6 (code6_ok N) rfl rfl rfl (bind3 rfl H.p6)⟩
  · exact ⟨cx7, FnOk.plain (H.k7.fnH X (fa rfl) rfl (fun e => absurd e (by decide))) o7 (code7_ok N) rfl rfl rfl (bind3 rfl H.p7)⟩
  · exact ⟨cx8, FnOk.plain (H.k8.fnH X (fa rfl) rfl (fun e => absurd e (by decide))) o8 (code8_ok N) rfl rfl rfl (bind2 rfl H.p8)⟩
  · exact ⟨cx9, FnOk.plain (H.k9.fnH X (fa rfl) rfl fun _ => ⟨l1, l2⟩) o9 (code9_ok N) rfl rfl rfl (bind3 rfl H.p9)⟩
end Mine
end OfMSound37
noncomputable section OfMSound38
set_option autoImplicit false
set_option linter.unusedVariables false
namespace Mine
open PySem PySem.Calls PyProof.Rows PySem.SeqAt PySem.W
variable {prog : Program} {w : World} {B : Base} {C : Ctx}

section
variable {as as' : List Addr} {s : Shared} {st : St} {h h' : Heap} {N : List Addr}
theorem Inv.but (I : Inv B as st h) (hk : ∀ b o, b ∉ N → h.get? b = some o → h'.get? b = some o) (h0 : ∀ a ∈ N, B.h₀.get? a = none) (hno : ∀ a ∈ N, ∀ o, h.get? a = some o → ¬ ImmO o ∧ ¬ MutO o) : Inv B as st h' := by
  have im : Imm h h' := fun a o e i => hk a o (fun hm => (hno a hm o e).1 i) e
  have mu : ∀ a o, h.get? a = some o → MutO o → h'.get? a = some o := fun a o e m => hk a o (fun hm => (hno a hm o e).2 m) e
  refine ⟨I.len, I.nodup, fun i a l e1 e2 => ?_, I.above, fun b o hb e => hk b o (fun hm => by rw [h0 b hm] at e; cases e) (I.old b o hb e), ?_⟩
  · obtain ⟨items, ⟨n, ho⟩, v⟩ := I.lists i a l e1 e2
    exact ⟨items, ⟨n, mu a _ ho rfl⟩, v.imm im (List.prefix_refl _)⟩
  · intro t
    obtain ⟨ps, a, b, e⟩ := I.tab t
    have eP : h'.get? (B.tp t) = some _ := mu _ _ b.2 rfl
    have eT := b.2
    obtain ⟨⟨oc, vc, q1, q2, q3, q4⟩, _⟩ := b
    have eC : h'.get? (B.tc t) = some oc := im _ _ q1 (by unfold ImmO; rw [q3]; exact .inr q2)
    refine ⟨ps, ?_, ⟨⟨oc, vc, eC, q2, q3, q4⟩, eP⟩, fun pos c hc => (e pos c hc).imm im⟩
    obtain ⟨o, vs, file, tf, flags, tg, inF, text, tt, op, a1, r1, r2, r3, r4, r5, r6, b1, r⟩ := a
    rw [q1] at a1; cases a1
    refine ⟨oc, vs, file, tf, flags, tg, inF, text, tt, op, eC, r1, r2, r3, r4, r5, r6, ?_, r⟩
    exact hk _ _ (fun hm => (hno _ hm _ eT).2 rfl) b1
theorem Go.but {tk : Nat} (I : Inv B as st s.heap) (hk : ∀ b o, b ∉ N → s.heap.get? b = some o → h'.get? b = some o) (h0 : ∀ a ∈ N, B.h₀.get? a = none) (hno : ∀ a ∈ N, ∀ o, s.heap.get? a = some o → ¬ ImmO o ∧ ¬ MutO o) (hl : ∀ a ∈ N, ∃ o', h'.get? a = some o') : Go B N as as st s { s with heap := h', toks := tk } :=
  ⟨List.prefix_refl _, fun _ h => .inl h, ⟨fun a o e => by
    by_cases hm : a ∈ N
    · exact hl a hm
    · exact ⟨o, hk a o hm e⟩, fun a o e i => hk a o (fun hm => (hno a hm o e).1 i) e, fun a o e _ hm => hk a o hm e⟩, I.but hk h0 hno, ⟨rfl, rfl⟩⟩
theorem EnvR.but {ρ up : Sl} {env : Env} (V : EnvR B C ρ up env as h) (s : Stp N h h') (p : as <+: as') (hN : ∀ a ∈ Ws env, a ∉ N) : EnvR B C ρ up env as' h' := by
  have hc : ∀ {x : Str} {c : Addr}, env.cells.lookup x = some c → c ∉ N := fun {x c} e => hN c (List.mem_cons_of_mem _ (lookup_mem e))
  obtain ⟨m, hn, hv⟩ := V.ns
  refine ⟨V.kind, V.names, V.dist, ⟨m, s.ns hn (hN _ List.mem_cons_self), fun k x v e1 e2 => ?_⟩, fun k x v e1 e2 => ?_, fun k x v e1 e2 e3 => ?_, V.glo, V.bui, fun k x e => ?_, V.cinj, fun a ha => ?_, V.lmc⟩
  · obtain ⟨u, e, r⟩ := hv k x v e1 e2
    exact ⟨u, e, r.stp s p⟩
  · obtain ⟨c, u, e, i, r⟩ := V.cel k x v e1 e2
    exact ⟨c, u, e, s.cell i (hc e), r.stp s p⟩
  · obtain ⟨c, u, e, i, r⟩ := V.upr k x v e1 e2 e3
    exact ⟨c, u, e, s.cell i (hc e), r.stp s p⟩
  · obtain ⟨c, v, e1, e2⟩ := V.celx k x e
    exact ⟨c, v, e1, s.cell e2 (hc e1)⟩
  · obtain ⟨o, e⟩ := V.wlive a ha
    exact s.live a o e
theorem keeps_type {M : Model} {h : Heap} {n : String} : KeepsAt M (.type n) h := ⟨.machine, .inr (.inl rfl), fun A Q E s _ q => wpAny_pure q⟩
theorem keeps_sum {M : Model} {h : Heap} : KeepsAt M (.builtin "sum") h := ⟨.machine, .inr (.inl rfl), fun A Q E s _ q => wpAny_pure q⟩
end
theorem call_gen {A : Around} {s : Shared} {env : Env} {Q : Value → Shared → Prop} {fe e : Expr} {es : List Expr} {p : Pos} (he : Plain1 e) (hp : (backTo p (starEach es env)).any (·.1) = false)
    (hcall : eval (.Call fe (e :: es) [] p) env = (do callWith p (← eval fe env) [] (backTo p (starEach (e :: es) env)) (backToKw p (keywordEach [] env))))
    (h : wpAny (model prog w) A (eval fe env) (fun f s1 => wpAny (model prog w) A (spliced (backTo p (starEach (e :: es) env))) (fun us s2 => KeepsAt (model prog w) f s2.heap ∧ wpAny (model prog w) A (call f us) Q No s2) No s1) No s) :
    wpAny (model prog w) A (eval (.Call fe (e :: es) [] p) env) Q No s := by
  refine Call_ (wp_to h ?_) hcall
  intro f s1 fin
  rw [he es env] at fin ⊢
  exact callWith_of (P := KeepsAt (model prog w) f) (by show ((false || (backTo p (starEach es env)).any (·.1)) || false) = false; rw [hp]; rfl) (fun _ q => q) (evalArgs_plain fin)
theorem spliced_one {A : Around} {s : Shared} {env : Env} {Q : List Value → Shared → Prop} {e : Expr} {p : Pos} (he : Plain1 e) (h : wpAny (model prog w) A (eval e env) (fun u s1 => Q [u] s1) No s) : wpAny (model prog w) A (spliced (backTo p (starEach [e] env))) Q No s := by
  exact wpAny_items_cons (wp_to h fun u s1 q => wpAny_items_nil q) (he [] env)
theorem elt_run {A : Around} {as : List Addr} {s : Shared} {st : St} {env : Env} {ρ up : Sl} {n : Nat} {c : Calls} {x y sm sc : Str} {p1 p2 p3 p4 p5 p6 p7 p8 p9 : Pos} {kk kx ky : Nat} {iv xv : Int} {la : Addr} {vals : List Value} {ns : List Int} (R : Room n A) (V : EnvR B C ρ up env as s.heap) (I : Inv B as st s.heap) (hc : SC prog w B n c) (N : Names B)
    (ex : SE prog w B C (.Name x p1) (cVar kx)) (ek : SE prog w B C (.Name y p4) (cVar ky)) (gx : ρ[kx]? = some (some (.int xv))) (gk : ρ[ky]? = some (some (.int iv)))
    (hsm : C.nm.lookup sm = some .globalImplicit) (esm : sm = Str.ofString "sum") (hsc : C.nm.lookup sc = some .cell) (hcell : ∃ a, env.cells.lookup sc = some a ∧ s.heap.IsCell a (some (.ref la)))
    (hdb : (sm == ("__debug__" : Str)) = false) (hdc : (sc == ("__debug__" : Str)) = false)
    (hcall : eval (.Call (.Name sm p2) [.Subscript (.Name sc p3) (.Slice (some (.Name y p4)) none (some (.Constant (.int 3) kk p5)) p6) p7] [] p8) env = (do callWith p8 (← eval (.Name sm p2) env) [] (backTo p8 (starEach [.Subscript (.Name sc p3) (.Slice (some (.Name y p4)) none (some (.Constant (.int 3) kk p5)) p6) p7] env)) (backToKw p8 (keywordEach [] env))))
    (ht : ∀ o r, letTemporaryGo (.Name sc p3) o r = pure ())
    (hl : B.h₀.IsList la vals.toArray) (hi : IntsAre vals ns) (hz : vals.length ≤ 63) :
    wpAny (model prog w) A (eval (.BinOp (.Name x p1) .Add (.Call (.Name sm p2) [.Subscript (.Name sc p3) (.Slice (some (.Name y p4)) none (some (.Constant (.int 3) kk p5)) p6) p7] [] p8) p9) env)
      (fun u s' => ∃ z t as', u = .int z t ∧ Go B [] as as' st s s') No s := by
  have e1 : cVar kx c ρ up st = .ok (.int xv) st := by show hVar kx ρ st = _; unfold hVar; rw [getN_eq, gx]; rfl
  have e2 : cVar ky c ρ up st = .ok (.int iv) st := by show hVar ky ρ st = _; unfold hVar; rw [getN_eq, gk]; rfl
  refine wpAny_BinOp (wp_to (ex n c hc _ _ _ _ _ e1 A env as s R V I) ?_)
  refine Pst.all fun u1 s1 as1 G1 r1 => ?_
  obtain ⟨tx, rfl⟩ := r1.int_i
  have V1 := V.stp G1.stp G1.pre
  have hcell1 : ∃ a, env.cells.lookup sc = some a ∧ s1.heap.IsCell a (some (.ref la)) := by
    obtain ⟨a, q1, q2⟩ := hcell
    exact ⟨a, q1, G1.stp.cell q2 (fun h => nomatch h)⟩
  refine call_gen (fun _ _ => rfl) rfl hcall ?_
  refine Name_function_global V1.kind (by unfold Env.kindOf; rw [V1.names]; exact hsm) (loadGlobal_builtin (by rw [V1.glo]; exact G1.inv.globals) (by rw [esm]; exact N.n_sum) (by rw [V1.bui]; exact G1.inv.builtins) (by rw [esm]; exact N.b_sum) ?_) hdb
  refine spliced_one (fun _ _ => rfl) ?_
  refine wpAny_Subscript_Slice_step (T := "list") list_getitem_lookup ?_ ht
  obtain ⟨a, q1, q2⟩ := hcell1
  refine wpAny_Name (wpAny_loadName_cell V1.kind (by unfold Env.kindOf; rw [V1.names]; exact hsc) q1 q2 ?_) hdc
  refine wpAny_Slice ?_
  rw [evalPart_some, evalPart_none, evalPart_some]
  refine wp_to (ek n c hc _ _ _ _ _ e2 A env as1 s1 R V1 G1.inv) ?_
  refine Pst.all fun u2 s2 as2 G2 r2 => ?_
  obtain ⟨tk, rfl⟩ := r2.int_i
  refine wpAny_pure (wpAny_Constant_int ?_)
  have hl2 : s2.heap.IsList la vals.toArray := by
    obtain ⟨o, ho, hc', r⟩ := hl
    exact ⟨o, G2.inv.get0 ho (by rw [hc']; exact fun e => nomatch e), hc', r⟩
  have hl3 := hl2.push { cls := .type "slice", data := .fields #[.int iv tk, .none, .int 3 s2.toks] }
  refine ⟨hl3.typeIs, wpAny_getItem_list_slice hl3 (Heap.IsSliceOf.new ..) (.int _ _) .none (.int _ _) (by decide) ?_ (by rw [List.size_toArray]; unfold sizeLine; (first | lia | omega))⟩
  refine ⟨keeps_sum, ?_⟩
  obtain ⟨xs, hxs⟩ := (hi.pick (some iv) none (some 3)).allInts.items
  have hxs : slicePick vals.toArray (some iv) none (some 3) = intItems xs := by simpa using hxs
  rw [hxs]
  have G3 : Go B [] as as2 st s { s2 with heap := (s2.heap.push { cls := .type "slice", data := .fields #[.int iv tk, .none, .int 3 s2.toks] }).push { cls := .type "list", data := .seq (intItems xs) }, toks := s2.toks + 1 } :=
    (G1.trans G2).trans ⟨List.prefix_refl _, fun _ h => .inl h, (Stp.push _ _ _).trans0 (.push _ _ _), (G2.inv.push _).push _, ⟨rfl, rfl⟩⟩
  refine sum_intListG R.hd (l := (s2.heap.push { cls := .type "slice", data := .fields #[.int iv tk, .none, .int 3 s2.toks] }).objs.size) ⟨_, Heap.get?_push_size _ rfl, rfl, 0, rfl⟩ fun h' tk' t' hk => ?_
  refine PyProof.Rows.add_int ⟨_, _, as2, rfl, G3.trans ⟨List.prefix_refl _, fun _ h => .inl h, .all hk, G3.inv.keeps hk, ⟨rfl, rfl⟩⟩⟩
end Mine
end OfMSound38
noncomputable section OfMSound39
set_option autoImplicit false
set_option linter.unusedVariables false
namespace Mine
open PySem PySem.Calls PyProof.Rows PySem.SeqAt PySem.W
variable {prog : Program} {w : World} {B : Base} {C : Ctx}

theorem obj_no {vs : Array Value} {h : Heap} {a : Addr} {o : Obj} (ho : h.get? a = some o) (hd : o.data = .fields vs) (h1 : o.cls ≠ .none) (h2 : o.cls ≠ .type "range") (h3 : o.cls ≠ .type "code") : ¬ ImmO o ∧ ¬ MutO o := by
  constructor
  · intro i; unfold ImmO at i; rw [hd] at i; rcases i with i | i
    · exact h2 i
    · exact h3 i
  · intro m; unfold MutO at m; rw [hd] at m; exact h1 m
theorem enum_no {h : Heap} {e it : Addr} {i : Int} {x : Value} {o : Obj} (he : IsEnum h e it i x) (ho : h.get? e = some o) : ¬ ImmO o ∧ ¬ MutO o := by
  have he : h.get? e = some _ := he
  rw [he] at ho; cases ho
  exact obj_no he rfl (fun e => nomatch e) (show Value.type "enumerate" ≠ .type "range" by decide) (show Value.type "enumerate" ≠ .type "code" by decide)
theorem enumOut_no {h : Heap} {e it a : Addr} {i : Int} {x : Value} {o : Obj} (he : IsEnumOut h e it i x a) (ho : h.get? e = some o) : ¬ ImmO o ∧ ¬ MutO o := by
  have he : h.get? e = some _ := he
  rw [he] at ho; cases ho
  exact obj_no he rfl (fun e => nomatch e) (show Value.type "enumerate" ≠ .type "range" by decide) (show Value.type "enumerate" ≠ .type "code" by decide)
theorem iter_no {h : Heap} {it l : Addr} {i : Nat} {o : Obj} (hi : h.IsListIter it l i) (ho : h.get? it = some o) : ¬ ImmO o ∧ ¬ MutO o := by
  obtain ⟨o', ho', hc, hd⟩ := hi
  rw [ho] at ho'; cases ho'
  exact obj_no ho hd (by rw [hc]; exact fun e => nomatch e) (by rw [hc]; decide) (by rw [hc]; decide)
theorem pre_eq {as as' : List Addr} {st st' : St} {h h' : Heap} (p : as <+: as') (I : Inv B as st h) (I' : Inv B as' st' h') (e : st'.length = st.length) : as' = as := by
  obtain ⟨r, rfl⟩ := p
  have h1 := I.len
  have h2 := I'.len
  rw [List.length_append, h1, e] at h2
  have : r = [] := List.length_eq_zero_iff.mp (by (first | lia | omega))
  rw [this, List.append_nil]

noncomputable def mints (zs : List Int) : List MV := zs.map .int
theorem mints_get : ∀ {i : Nat}, i < 3 → ∃ vi : Int, (mints [1, 3983, 6])[i]? = some (.int vi)
  | 0, _ => ⟨_, rfl⟩
  | 1, _ => ⟨_, rfl⟩
  | 2, _ => ⟨_, rfl⟩
  | n + 3, h => absurd h (by (first | lia | omega))
theorem Go.fix {W as as' : List Addr} {st st' : St} {s s' : Shared} {h : Heap} (G : Go B W as as' st' s s') (I : Inv B as st h) (e : st'.length = st.length) : Go B W as as st' s s' := by
  have q := pre_eq G.pre I G.inv e
  subst q; exact G
set_option maxHeartbeats 400000 in
theorem asgEnum {A : Around} {s0 : Shared} {env : Env} {ρ : Sl} {n : Nat} {elt target iter : Expr} {scope : Scope} {pos : Pos} {j : Nat} {x : Str} {q p : Pos} {kk kx : Nat}
    (R : Room n A) (V0 : EnvR B C ρ [] env [] s0.heap) (F : Fresh B env) (I0 : Inv B [] [] s0.heap)
    (K : CompOk scope C) (T : TgtC (compCtx scope.names C) [kk, kx] true target) (hkx : kk ≠ kx ∧ kk < 5 ∧ kx < 5) (htt : ∃ es a b, target = .Tuple es a b)
    (hs : ∀ env x, foldedSetIterable iter env x = pure x) (hj : C.nm[j]? = some (x, .local)) (hsw : ∀ env : Env, env.scope.kind = .function → env.scope.names = C.nm → swapsWith (.ListComp elt [⟨target, iter, [], 0⟩] scope pos) (some (.Name x q)) p.line env = pure true)
    (hit : ∀ (Q : Value → Shared → Prop), (∀ s1 e it l, Go B [] [] [l] [mints [1, 3983, 6]] s0 s1 → IsEnum s1.heap e it ((0 : Nat) : Int) .none → s1.heap.IsListIter it l 0 → s0.heap.get? e = none → s0.heap.get? it = none → e ≠ it → Q (.ref e) s1) → wpAny (model prog w) A (eval iter env) Q No s0)
    (helt : ∀ cenv ρc as st s iv xv, EnvR B (compCtx scope.names C) ρc ρ cenv as s.heap → Inv B as st s.heap → (∀ y c, cenv.cells.lookup y = some c → env.cells.lookup y = some c) → (∀ y c, (y, NameKind.free) ∈ scope.names → env.cells.lookup y = some c → cenv.cells.lookup y = some c) → (∃ W, (∀ a ∈ W, s0.heap.get? a = none) ∧ Stp W s0.heap s.heap) → ρc[kk]? = some (some (.int iv)) → ρc[kx]? = some (some (.int xv)) →
      wpAny (model prog w) A (eval elt cenv) (fun u s' => ∃ z t as', u = .int z t ∧ Go B [] as as' st s s') No s) :
    wpAny (model prog w) A (exec (.Assign [.Name x q] (.ListComp elt [⟨target, iter, [], 0⟩] scope pos) p) env)
      (fun fl s' => fl = .next ∧ ∃ a0 a1 z0 z1 z2, Go B (Ws env) [] [a0, a1] [mints [1, 3983, 6], mints [z0, z1, z2]] s0 s' ∧ EnvR B C (ρ.set j (some (.lst 1))) [] env [a0, a1] s'.heap) No s0 := by
  refine wpAny_gen fun Q hQ => ?_
  rw [exec_Assign_Name_used _ _ _ _ (hsw env V0.kind V0.names)]
  refine wpAny_bind (wpAny_standAt ?_)
  refine wpAny_bind (m := evalThenUse _ _ _) ?_
  show wpAny _ A (comprehension (.ListComp elt [⟨target, iter, [], 0⟩] scope pos) scope env (firstIterPos [⟨target, iter, [], 0⟩] pos) (newList []) (firstAsync [⟨target, iter, [], 0⟩]) (firstIter [⟨target, iter, [], 0⟩] env) (some (assign (.Name x q) env)) >>= fun _ => pure ()) _ _ _
  refine wpAny_bind (wpAny_comprehension_free (use := some (assign (.Name x q) env)) (Q := fun _ s' => wpAny (model prog w) A (pure ()) _ No s') rfl (hs env) (closure_run (cl_good K V0).1) K.kind K.loc (hit _ fun s1 e it l G1 he1 hi1 e0 i0 hei => ?_))
  have V1 := V0.stp G1.stp G1.pre
  refine wpAny_pyIter_enum he1 ?_
  refine wpAny_newObj_type ?_
  have P3 : Pst B [l] ([mints [1, 3983, 6]] ++ [[]]) (.lst 1) s1 (.ref s1.heap.objs.size) { s1 with heap := s1.heap.push { cls := .type "list", dict := none, data := .seq ([] : List Value).toArray 0, slots := #[] }, toks := s1.toks } := Pst.list (n := 0) G1.inv rfl .nil
  obtain ⟨as3, G3, r3⟩ := P3
  have hD : as3[1]? = some s1.heap.objs.size := by
    exact r3.lst_r
  have has3 : as3 = [l, s1.heap.objs.size] := by
    have h1 := G3.inv.len
    obtain ⟨r, rfl⟩ := G3.pre
    have h1 : r.length = 1 := by simpa using h1
    obtain ⟨a, rfl⟩ := List.length_eq_one_iff.mp h1
    simp at hD; subst hD; rfl
  subst has3
  clear hD
  generalize s1.heap.objs.size = D at G3 r3 ⊢
  generalize hs3 : ({ s1 with heap := s1.heap.push { cls := .type "list", dict := none, data := .seq ([] : List Value).toArray 0, slots := #[] }, toks := s1.toks } : Shared) = s3 at G3
  have V3 := V1.stp G3.stp G3.pre
  refine wpAny_newFunctionEnv K.nocell (by intro y hy; simp at hy) (fun h₁ hns₁ hsb₁ => ?_) K.kind
  have hnL : s3.heap.get? s3.heap.objs.size = none := hNoneAt _
  have hk4 : ∀ a o, s3.heap.get? a = some o → h₁.get? a = some o := fun a o e => (hsb₁.2 a (Nat.ne_of_lt (Heap.lt_size e))).trans (Heap.get?_push_of_some _ e)
  generalize s3.heap.objs.size = L at hns₁ hsb₁ hnL ⊢
  have h0L : B.h₀.get? L = none := G3.inv.new0 hnL
  have G4 : Go B [] [l, D] [l, D] ([mints [1, 3983, 6]] ++ [[]]) s3 { s3 with heap := h₁, toks := s3.toks + ([] : List (Str × Value)).length } := ⟨List.prefix_refl _, fun _ h => .inl h, .all hk4, G3.inv.keeps hk4, ⟨rfl, rfl⟩⟩
  generalize hs4 : ({ s3 with heap := h₁, toks := s3.toks + ([] : List (Str × Value)).length } : Shared) = s4 at G4
  have hns4 : s4.heap.Ns L (fun x => ([] : List (Str × Value)).reverse.lookup x) := by rw [← hs4]; exact hns₁
  have V4 := V3.stp G4.stp G4.pre
  have V4' : EnvR B (compCtx scope.names C) (nones 5) ρ (compEnvC scope (clFold (cellF env) scope.names []) L env) [l, D] s4.heap := comp_env K V4 hns4
  have G04 : Go B [] [] [l, D] [mints [1, 3983, 6], []] s0 s4 := (G1.trans G3).trans G4
  have hsL : s0.heap.get? L = none := (G1.trans G3).stp.dead hnL
  have keepN : ∀ {W : List Addr} {s s' : Shared} {as as' : List Addr} {st' : St} {a : Addr} {o : Obj}, Go B W as as' st' s s' → a ∉ W → s.heap.get? a = some o → ¬ MutO o → s'.heap.get? a = some o := fun G hW e m => G.stp.keep _ _ e m hW
  have keepE : ∀ {W : List Addr} {s s' : Shared} {as as' : List Addr} {st' : St} {i : Int} {x : Value}, Go B W as as' st' s s' → e ∉ W → IsEnum s.heap e it i x → IsEnum s'.heap e it i x := fun G hW q => keepN G hW q (enum_no q q).2
  have keepI : ∀ {W : List Addr} {s s' : Shared} {as as' : List Addr} {st' : St} {i : Nat}, Go B W as as' st' s s' → it ∉ W → s.heap.IsListIter it l i → s'.heap.IsListIter it l i := fun G hW q => by
    obtain ⟨o, ho, r⟩ := id q
    exact ⟨o, keepN G hW ho (iter_no q ho).2, r⟩
  have nil_ : ∀ a : Addr, a ∉ ([] : List Addr) := fun _ h => nomatch h
  have he4 := keepE (G3.trans G4) (nil_ _) he1
  have hi4 := keepI (G3.trans G4) (nil_ _) hi1
  have hN : ∀ a ∈ [L, e, it], s0.heap.get? a = none := fun a ha => by
    simp only [List.mem_cons, List.not_mem_nil, or_false] at ha
    rcases ha with rfl | rfl | rfl
    · exact hsL
    · exact e0
    · exact i0
  have h0e : B.h₀.get? e = none := I0.new0 e0
  have h0i : B.h₀.get? it = none := I0.new0 i0
  have eL : e ≠ L := by
    rintro rfl
    obtain ⟨o, es, ep, ho, hd, _⟩ := hns4
    have he4 : s4.heap.get? e = some _ := he4
    rw [he4] at ho; cases ho; cases hd
  have iL : it ≠ L := by
    rintro rfl
    obtain ⟨o, es, ep, ho, hd, _⟩ := hns4
    obtain ⟨o', ho', _, hd'⟩ := hi4
    rw [ho] at ho'; cases ho'; rw [hd] at hd'; cases hd'
  have hWs : ∀ a ∈ Ws (compEnvC scope (clFold (cellF env) scope.names []) L env), a ∉ [e, it] := fun a ha hm => by
    have hx : a = e ∨ a = it := by simpa using hm
    rcases List.mem_cons.mp ha with rfl | ha
    · rcases hx with hx | hx
      · exact eL hx.symm
      · exact iL hx.symm
    · obtain ⟨pp, hp, rfl⟩ := List.mem_map.mp ha
      obtain ⟨o, ho⟩ := V0.wlive _ (List.mem_cons_of_mem _ (lookup_mem ((cl_good K V0).2 pp hp)))
      rcases hx with hx | hx
      · rw [hx, e0] at ho; cases ho
      · rw [hx, i0] at ho; cases ho
  have hLW : L ∉ Ws env := fun hm => by
    obtain ⟨o, e⟩ := V0.wlive L hm
    rw [hsL] at e; cases e
  obtain ⟨es, ta, tb, rfl⟩ := htt
  have loop : codeAny (model prog w) A (.compLoop (.ListComp elt [⟨.Tuple es ta tb, iter, [], 0⟩] scope pos) 0 (.ref e) (.ref D) (compEnvC scope (clFold (cellF env) scope.names []) L env))
      (compPost (model prog w) A No (some (assign (.Name x q) env)) (fun _ s' => wpAny (model prog w) A (pure ()) (fun _ s' => wpAny (model prog w) A (pure Flow.next) Q No s') No s') (.ref D) L) s4 := by
    refine compLoop_listC (fun m s' => Ex4 fun i ρ3 zs old => And8 (m = 3 - i) (i ≤ 3) (zs.length = i) (ρ3.length = 5) (Go B ([] ++ [L, e, it]) [] [l, D] [mints [1, 3983, 6], mints zs] s0 s') (EnvR B (compCtx scope.names C) ρ3 ρ (compEnvC scope (clFold (cellF env) scope.names []) L env) [l, D] s'.heap) (IsEnum s'.heap e it ((i : Nat) : Int) old) (s'.heap.IsListIter it l i)) ?_ 3
      ⟨0, nones 5, [], .none, rfl, by (first | lia | omega), rfl, nones_length 5, G04.of0, V4', he4, hi4⟩
    rintro m s5 ⟨i, ρ5, zs, old, hm, hi, hz, hρ, G5, V5, he5, hi5⟩ E' N K' hN' hK'
    obtain ⟨la, items, hla, hPL, rl⟩ := G5.inv.plist (i := 0) (l := mints [1, 3983, 6]) rfl
    have hla : l = la := by simpa using hla
    subst hla
    have hl := hPL.isList
    have hlen : 3 = items.length := rl.length
    by_cases hi3 : i = 3
    · subst hi3
      refine wpAny_pyNext_enum_end R.hd he5 hi5 hl (by rw [List.getElem?_toArray]; exact List.getElem?_eq_none (by (first | lia | omega))) fun h' hx => ?_
      obtain ⟨oi, hoi, _⟩ := id hi5
      have Gf := G5.endObj hN (List.mem_cons_of_mem _ (List.mem_cons_of_mem _ List.mem_cons_self)) h0i hoi (iter_no hi5 hoi).1 (iter_no hi5 hoi).2 hx
      obtain ⟨m', hn, _⟩ := V5.ns
      have hn' : h'.Ns L m' := hn.extBut hx (Ne.symm iL)
      have V2 := V0.stp Gf.stp Gf.pre
      refine hN' _ ?_
      refine wpAny_assign_Name (store_name hj (.inl rfl) V2 Gf.inv F (.lst (i := 1) rfl) fun s3 G3 V3 => ?_)
      have hn3 := G3.stp.ns hn' hLW
      refine ⟨_, hn3, fun h' hs' => ?_⟩
      obtain ⟨o, ho, hi, hm⟩ := ns_obj hn3
      have G4 : Go B (Ws env) [] [l, D] [mints [1, 3983, 6], mints zs] s0 { s3 with heap := h' } := ((Gf.of0.trans G3).mono (fun a ha => List.mem_append_left _ ha) : Go B (Ws env ++ [L]) [] [l, D] _ s0 s3).endObj (fun a ha => by rw [List.mem_singleton.mp ha]; exact hsL) (List.mem_singleton.mpr rfl) h0L ho hi hm hs'.extBut
      match zs, hz, G4 with
      | [z0, z1, z2], _, G4 => exact wpAny_pure (wpAny_pure (hQ _ _ ⟨rfl, l, D, z0, z1, z2, G4, V3.endObj ho hi hs'.extBut hLW fun c v q => ns_ne_cell hn3 q⟩))
    · have hi' : i < 3 := by (first | lia | omega)
      obtain ⟨vi, hvi⟩ : ∃ vi : Int, (mints [1, 3983, 6])[i]? = some (.int vi) := mints_get hi'
      obtain ⟨u, hu, ru⟩ := rl.get hvi
      obtain ⟨tv, rfl⟩ := ru.int_i
      refine wpAny_pyNext_enum_item he5 hi5 hl (x := .int vi tv) (by rw [List.getElem?_toArray]; exact hu) hei fun h6 ho6 hi6 hT6 hz6 hk6 => ?_
      have helt5 : e < s5.heap.objs.size := Heap.lt_size he5
      have N2 : ∀ a ∈ [e, it], B.h₀.get? a = none := fun a ha => by
        rcases List.mem_cons.mp ha with rfl | ha
        · exact h0e
        · rw [List.mem_singleton.mp ha]; exact h0i
      have G6 : Go B [e, it] [l, D] [l, D] [mints [1, 3983, 6], mints zs] s5 { s5 with heap := h6, toks := s5.toks + 1 } := Go.but G5.inv (fun b o hb => hk6 b o (fun q => hb (by simp [q])) (fun q => hb (by simp [q]))) N2 (fun a ha o ho => by
        rcases List.mem_cons.mp ha with rfl | ha
        · exact enum_no he5 ho
        · rw [List.mem_singleton.mp ha] at ho; exact iter_no hi5 ho) (fun a ha => by
        rcases List.mem_cons.mp ha with rfl | ha
        · exact ⟨_, ho6⟩
        · rw [List.mem_singleton.mp ha]; obtain ⟨o, ho, _⟩ := hi6; exact ⟨o, ho⟩)
      have V6 := V5.but G6.stp G6.pre hWs
      refine hK' _ _ (wpAny_letOwnedTupleGo_enum ho6 fun h7 he7 hs7 => ?_)
      have hs7 : Heap.SameBut e h6 h7 := hs7
      have G7 : Go B [e] [l, D] [l, D] [mints [1, 3983, 6], mints zs] { s5 with heap := h6, toks := s5.toks + 1 } { s5 with heap := h7, toks := s5.toks + 1 } := Go.but G6.inv (fun b o hb q => (hs7.2 b (fun q => hb (by simp [q]))).trans q) (fun a ha => N2 a (by simp at ha; simp [ha])) (fun a ha o ho => by
        rw [List.mem_singleton.mp ha] at ho
        exact enumOut_no ho6 ho) (fun a ha => by
        rw [List.mem_singleton.mp ha]; exact ⟨_, he7⟩)
      have V7 := V6.but G7.stp G7.pre (fun a ha hm => hWs a ha (by simp at hm; simp [hm]))
      have hi7 : h7.IsListIter it l (i + 1) := by
        obtain ⟨o, ho, r⟩ := hi6
        exact ⟨o, (hs7.2 it (Ne.symm hei)).trans ho, r⟩
      have hT7 : h7.IsTuple s5.heap.objs.size [Value.int (i : Int) s5.toks, .int vi tv].toArray := ⟨_, (hs7.2 _ (Nat.ne_of_gt helt5)).trans hT6, rfl, 0, rfl⟩
      have r7 : VRel B [l, D] h7 (.tup [.int (i : Int), .int vi]) (.ref s5.heap.objs.size) := .tup hT7 (.cons (.int _ _) (.cons (.int _ _) .nil))
      have es : setTargetK ρ5 [kk, kx] true (.tup [.int (i : Int), .int vi]) (none : Option Sl) some = some ((ρ5.set kk (some (.int (i : Int)))).set kx (some (.int vi))) := by
        show setK ρ5 kk _ (fun r => setK r kx _ (fun r => some r)) = _
        rw [setK_eq, setK_eq]
      refine target_run (s := { s5 with heap := h7, toks := s5.toks + 1 }) R.hd T es (fun h => nomatch h) r7 V7 G7.inv h0L fun ρ8 s8 e8 G8 V8 => ?_
      cases e8
      have eNL : e ∉ [L] := fun hm => eL (List.mem_singleton.mp hm)
      have iNL : it ∉ [L] := fun hm => iL (List.mem_singleton.mp hm)
      have G8 : Go B [L] [l, D] [l, D] [mints [1, 3983, 6], mints zs] { s5 with heap := h7, toks := s5.toks + 1 } s8 := G8
      have he8 := keepE (s := { s5 with heap := h7, toks := s5.toks + 1 }) G8 eNL he7
      have hi8 := keepI (s := { s5 with heap := h7, toks := s5.toks + 1 }) G8 iNL hi7
      have G58 : Go B ([] ++ [L, e, it]) [] [l, D] [mints [1, 3983, 6], mints zs] s0 s8 := ((G5.trans (G6.mono fun a ha => List.mem_cons_of_mem _ ha)).trans (G7.mono fun a ha => by rw [List.mem_singleton.mp ha]; exact List.mem_cons_of_mem _ List.mem_cons_self)).trans (G8.mono fun a ha => by rw [List.mem_singleton.mp ha]; exact List.mem_cons_self)
      refine wp_any (helt _ _ [l, D] _ s8 (i : Int) vi V8 G58.inv (fun y c e => cl_lookup K V0 e) (fun y c hf e => cl_has K V0 hf e) ⟨[L, e, it], hN, G58.stp⟩ (by
        rw [List.getElem?_set, if_neg (Ne.symm hkx.1), List.getElem?_set, if_pos rfl, if_pos (by (first | lia | omega))]) (by
        rw [List.getElem?_set, if_pos rfl, if_pos (by rw [List.length_set]; (first | lia | omega))])) ?_
      rintro u9 s9 ⟨z, tz, as9, rfl, G9⟩
      have G9 := G9.fix G58.inv rfl
      obtain ⟨D', ditems, hD', ⟨dn, hdl⟩, rd⟩ := G9.inv.tlist (i := 1) (l := mints zs) rfl
      have hD' : D = D' := by simpa using hD'
      subst hD'
      have hdlen : zs.length = ditems.length := by rw [← rd.length]; simp [mints]
      refine append_run hdl (by (first | lia | omega)) ?_
      have G10 := upd_post (u := .none) (l := mints zs) (t := s9.toks) (f := (·.push (.int z tz))) (items' := ditems ++ [.int z tz]) (l' := mints zs ++ [.int z]) G9.inv (i := 1) rfl hdl (by simp) (rd.append (.cons (.int _ _) .nil))
      have hst : mints zs ++ [.int z] = mints (zs ++ [z]) := by simp [mints]
      rw [hst] at G10
      have hG := G9.trans G10
      refine ⟨3 - (i + 1), by (first | lia | omega), i + 1, _, zs ++ [z], .int vi tv, rfl, by (first | lia | omega), by simp [hz], by simp [hρ], G58.trans hG.of0, V8.stp hG.stp hG.pre, ?_, keepI hG (nil_ _) hi8⟩
      have := keepE hG (nil_ _) he8
      rw [show ((i + 1 : Nat) : Int) = (i : Int) + 1 by (first | lia | omega)]
      exact this
  exact codeAny_compStart_list loop (wpAny_pyIter_enum he4 loop)
end Mine
end OfMSound39
noncomputable section OfMSound40
set_option autoImplicit false
set_option linter.unusedVariables false
namespace Mine
open PySem PySem.Calls PyProof.Rows PySem.SeqAt PySem.W
variable {prog : Program} {w : World} {B : Base} {C : Ctx}

noncomputable def noC : Calls := fun _ _ _ _ => .no
theorem noC_ok {n : Nat} : SC prog w B n noC := fun f vs kw st v st' h => nomatch h
theorem enum_iter {A : Around} {s0 : Shared} {env : Env} {ρ : Sl} {n : Nat} {en : Str} {pe pc : Pos} {le : Expr} {fe : FE} {Q : Value → Shared → Prop} (R : Room n A) (V0 : EnvR B C ρ [] env [] s0.heap) (I0 : Inv B [] [] s0.heap) (N : Names B)
    (hl : SE prog w B C le fe) (hfe : fe noC ρ [] [] = .ok (.lst 0) [mints [1, 3983, 6]]) (hp1 : Plain1 le) (hen : C.nm.lookup en = some .globalImplicit) (een : en = Str.ofString "enumerate") (hdb : (en == ("__debug__" : Str)) = false)
    (hcall : eval (.Call (.Name en pe) [le] [] pc) env = (do callWith pc (← eval (.Name en pe) env) [] (backTo pc (starEach [le] env)) (backToKw pc (keywordEach [] env))))
    (h : ∀ s1 e it l, Go B [] [] [l] [mints [1, 3983, 6]] s0 s1 → IsEnum s1.heap e it ((0 : Nat) : Int) .none → s1.heap.IsListIter it l 0 → s0.heap.get? e = none → s0.heap.get? it = none → e ≠ it → Q (.ref e) s1) :
    wpAny (model prog w) A (eval (.Call (.Name en pe) [le] [] pc) env) Q No s0 := by
  refine call_gen hp1 rfl hcall ?_
  refine Name_function_global V0.kind (by unfold Env.kindOf; rw [V0.names]; exact hen) (loadGlobal_builtin (by rw [V0.glo]; exact I0.globals) (by rw [een]; exact N.n_enumerate) (by rw [V0.bui]; exact I0.builtins) (by rw [een]; exact N.b_enumerate) ?_) hdb
  refine spliced_one hp1 (wp_to (hl n noC noC_ok _ _ _ _ _ hfe A env [] s0 R V0 I0) ?_)
  refine Pst.all fun u s1 as1 G1 r1 => ?_
  refine ⟨keeps_type, ?_⟩
  obtain ⟨l, items, hl0, hL, _⟩ := G1.inv.list (i := 0) rfl
  have e1 : as1 = [l] := by
    have := G1.inv.len
    obtain ⟨a, rfl⟩ := List.length_eq_one_iff.mp this
    simp at hl0; rw [hl0]
  subst e1
  obtain ⟨_, rfl, ha⟩ := r1.lst_i
  rename_i a
  have ha : l = a := by simpa using ha
  subst ha
  refine call_enumerate_list hL fun h' he hi hsz hk => ?_
  have dead : ∀ a, s1.heap.objs.size ≤ a → s0.heap.get? a = none := fun a ha => by
    cases e : s0.heap.get? a with
    | none => rfl
    | some o =>
      obtain ⟨o', e'⟩ := G1.stp.live a o e
      exact absurd (Heap.lt_size e') (Nat.not_lt.mpr ha)
  exact h _ _ _ l (G1.trans ⟨List.prefix_refl _, fun _ h => .inl h, .all hk, G1.inv.keeps hk, ⟨rfl, rfl⟩⟩) he hi (dead _ (Nat.le_succ _)) (dead _ (Nat.le_refl _)) (Nat.succ_ne_self _)
theorem law0_run (N : Names B) {A : Around} {s0 : Shared} {env : Env} {ρ : Sl} {n : Nat} {la : Addr} {vals : List Value} {ns : List Int} (R : Room n A) (V0 : EnvR B cx10 ρ [] env [] s0.heap) (F : Fresh B env) (I0 : Inv B [] [] s0.heap)
    (hcell : ∃ a, env.cells.lookup (Str.ofString "script") = some a ∧ s0.heap.IsCell a (some (.ref la))) (hl : B.h₀.IsList la vals.toArray) (hi : IntsAre vals ns) (hz : vals.length ≤ 63) :
    wpAny (model prog w) A (exec (stm 25 0) env)
      (fun fl s' => fl = .next ∧ ∃ a0 a1 z0 z1 z2, Go B (Ws env) [] [a0, a1] [mints [1, 3983, 6], mints [z0, z1, z2]] s0 s' ∧ EnvR B cx10 (ρ.set 1 (some (.lst 1))) [] env [a0, a1] s'.heap) No s0 := by
  refine asgEnum (kk := 1) (kx := 2) (j := 1) R V0 F I0 ⟨rfl, by decide +kernel, by decide +kernel, by decide +kernel, by decide +kernel⟩ ⟨_, _, _, rfl, .cons rfl (.cons rfl .nil)⟩ (by decide) ⟨_, _, _, rfl⟩ (fun _ _ => rfl) rfl (fun _ hk hn => (swaps_dum hk hn).trans rfl)
    (fun Q h => ?_) (fun cenv ρc as st s iv xv V I c1 c2 hW gk gx => ?_)
  · exact enum_iter R V0 I0 N (SE.lst (SL.cons SE.intc (SL.cons SE.intc (SL.cons SE.intc SL.nil (fun _ _ => rfl)) (fun _ _ => rfl)) (fun _ _ => rfl)) (by decide)) rfl (fun _ _ => rfl) (by decide +kernel) rfl (by decide +kernel) rfl h
  · obtain ⟨a, q1, q2⟩ := hcell
    obtain ⟨W, w1, w2⟩ := hW
    refine elt_run (sm := Str.ofString "sum") (sc := Str.ofString "script") (c := noC) (kx := 2) (ky := 1) R V I noC_ok N (SE.var rfl (.inl rfl) (by decide +kernel)) (SE.var rfl (.inl rfl) (by decide +kernel)) gx gk (by decide +kernel) rfl (by decide +kernel) ⟨a, c2 _ _ (by decide +kernel) q1, w2.cell q2 (fun hm => ?_)⟩ (by decide +kernel) (by decide +kernel) rfl (fun _ _ => rfl) hl hi hz
    obtain ⟨o, ho, _⟩ := q2
    rw [w1 a hm] at ho; cases ho
end Mine
end OfMSound40
noncomputable section OfMSound41
set_option autoImplicit false
set_option linter.unusedVariables false
namespace Mine
open PySem PySem.Calls PyProof.Rows PySem.SeqAt PySem.W
variable {prog : Program} {w : World} {B : Base} {C : Ctx}

theorem wp_execs_append {M : Model} {Γ : PySem.Ctx} {env : Env} {l2 : List Stmt} {Q : Flow → Pos → Shared → Prop} {E : Value → Pos → Shared → Prop} : ∀ (l1 : List Stmt) (p : Pos) (s : Shared),
    Sem.wp M Γ (execs l1 env) (fun fl p s => match fl with | .next => Sem.wp M Γ (execs l2 env) Q E p s | fl => Q fl p s) E p s → Sem.wp M Γ (execs (l1 ++ l2) env) Q E p s
  | [], p, s, h => h
  | t :: ts, p, s, h => by
    rw [List.cons_append]
    rw [execs_cons, Sem.wp_bind'] at h ⊢
    refine Sem.wp_mono M Γ _ (fun f p' s' h' => ?_) (fun _ _ _ h' => h') _ _ h
    cases f with
    | next => exact wp_execs_append ts p' s' h'
    | _ => exact h'
theorem wpAny_execs_append {M : Model} {A : Around} {env : Env} {l1 l2 : List Stmt} {Q : Flow → Shared → Prop} {E : Value → Shared → Prop} {s : Shared}
    (h : wpAny M A (execs l1 env) (fun fl s => match fl with | .next => wpAny M A (execs l2 env) Q E s | fl => Q fl s) E s) : wpAny M A (execs (l1 ++ l2) env) Q E s := fun Γ p hΓ => by
  refine wp_execs_append l1 p s (Sem.wp_mono M Γ _ (fun f p' s' h' => ?_) (fun _ _ _ h' => h') _ _ (h Γ p hΓ))
  cases f with
  | next => exact h' Γ p' hΓ
  | _ => exact h'
theorem SXs.part {n : Nat} {c : Calls} {ts us : List Stmt} {f : FX} {ρ ρ' : Sl} {st st' : St} {A : Around} {env : Env} {as : List Addr} {s : Shared} {Q : Flow → Shared → Prop} (h1 : SXs prog w B C ts f) (hc : SC prog w B n c) (e : f c ρ st = .nx ρ' st') (R : Room n A) (V : EnvR B C ρ [] env as s.heap) (F : Fresh B env) (I : Inv B as st s.heap)
    (h : ∀ as' s', Go B (Ws env) as as' st' s s' → EnvR B C ρ' [] env as' s'.heap → wpAny (model prog w) A (execs us env) Q No s') : wpAny (model prog w) A (execs (ts ++ us) env) Q No s := by
  refine wpAny_execs_append (wp_to (h1 n c hc ρ st (by rw [e]; exact fun h => nomatch h) A env as s R V F I) fun fl s' p => ?_)
  rw [e] at p
  obtain ⟨rfl, as', G, V'⟩ := p
  exact h as' s' G V'
noncomputable def Base.withVa (B : Base) (va : Nat → Int) (hs : (va 0).natAbs ≤ 10000) : Base := { B with va := va, small := hs }
noncomputable def Reb (B B' : Base) (as as' : List Addr) (h : Heap) (v v' : MV) : Prop := ∀ u, VRel B as h v u → VRel B' as' h v' u
theorem Inv.reb {as : List Addr} {st st' : St} {h : Heap} {va : Nat → Int} {hs : (va 0).natAbs ≤ 10000} (I : Inv B as st h) (hl : st'.length = st.length)
    (hst : ∀ (i : Nat) (l' : List MV), st'[i]? = some l' → ∃ l, st[i]? = some l ∧ ∀ items, VRels B (as.take i) h l items → VRels (B.withVa va hs) (as.take i) h l' items) : Inv (B.withVa va hs) as st' h :=
  ⟨I.len.trans hl.symm, I.nodup, fun i a l' e1 e2 => by
    obtain ⟨l, e3, hx⟩ := hst i l' e2
    obtain ⟨items, p, r⟩ := I.lists i a l e1 e3
    exact ⟨items, p, hx items r⟩, I.above, I.old, I.tab⟩
theorem EnvR.reb {ρ ρ' : Sl} {env : Env} {as as' : List Addr} {h : Heap} {va : Nat → Int} {hs : (va 0).natAbs ≤ 10000} (V : EnvR B C ρ [] env as h)
    (hρ : ∀ (k : Nat) (v' : MV), ρ'[k]? = some (some v') → ∃ v, ρ[k]? = some (some v) ∧ Reb B (B.withVa va hs) as as' h v v') : EnvR (B.withVa va hs) C ρ' [] env as' h := by
  obtain ⟨m, hn, hv⟩ := V.ns
  refine ⟨V.kind, V.names, V.dist, ⟨m, hn, fun k x v e1 e2 => ?_⟩, fun k x v e1 e2 => ?_, fun k x v e1 e2 => (by cases e2), V.glo, V.bui, V.celx, V.cinj, V.wlive, V.lmc⟩
  · obtain ⟨v0, e3, r⟩ := hρ k v e2
    obtain ⟨u, e4, r4⟩ := hv k x v0 e1 e3
    exact ⟨u, e4, r u r4⟩
  · obtain ⟨v0, e3, r⟩ := hρ k v e2
    obtain ⟨c, u, e4, i, r4⟩ := V.cel k x v0 e1 e3
    exact ⟨c, u, e4, i, r u r4⟩
noncomputable def AllAt (P : Nat → MV → Prop) : Nat → Sl → Prop
  | _, [] => True
  | n, none :: r => AllAt P (n + 1) r
  | n, some v :: r => P n v ∧ AllAt P (n + 1) r
theorem AllAt.get {P : Nat → MV → Prop} {v : MV} : ∀ {ρ : Sl} {n k : Nat}, AllAt P n ρ → ρ[k]? = some (some v) → P (n + k) v := by
  intro ρ
  induction ρ with
  | nil => exact fun _ e => nomatch e
  | cons o r ih =>
    intro n k H e
    cases k with
    | zero =>
      cases e
      exact H.1
    | succ k =>
      have H' : AllAt P (n + 1) r := by
        cases o with
        | none => exact H
        | some v => exact H.2
      have := ih (k := k) H' e
      rwa [Nat.add_assoc, Nat.add_comm 1 k] at this
theorem all_nones {P : Nat → MV → Prop} : ∀ {m n : Nat}, AllAt P n (nones m) := by
  intro m
  induction m with
  | zero => exact trivial
  | succ m ih => exact fun {n} => ih (n := n + 1)
theorem EnvR.rebL {ρ ρ' : Sl} {env : Env} {as as' : List Addr} {h : Heap} {va : Nat → Int} {hs : (va 0).natAbs ≤ 10000} (V : EnvR B C ρ [] env as h)
    (H : AllAt (fun k v' => ∃ v, ρ[k]? = some (some v) ∧ Reb B (B.withVa va hs) as as' h v v') 0 ρ') : EnvR (B.withVa va hs) C ρ' [] env as' h := V.reb fun k v' e => by
  have := H.get e
  rwa [Nat.zero_add] at this
section
variable {B' : Base} {as as' : List Addr} {h : Heap}
theorem Reb.any {v : MV} : Reb B B' as as' h v .any := fun u _ => .any u
theorem Reb.int {z : Int} : Reb B B' as as' h (.int z) (.int z) := fun u r => by obtain ⟨_, rfl⟩ := r.int_i; exact .int _ _
theorem Reb.toLin {z : Int} {k : Nat} {a b : Int} (e : z = a * B'.va k + b) : Reb B B' as as' h (.int z) (.lin k a b) := fun u r => by
  obtain ⟨_, rfl⟩ := r.int_i; rw [e]; exact .lin _ _ _ _
theorem Reb.lin {k k' : Nat} {a b a' b' : Int} (e : a * B.va k + b = a' * B'.va k' + b') : Reb B B' as as' h (.lin k a b) (.lin k' a' b') := fun u r => by
  obtain ⟨_, rfl⟩ := r.lin_i; rw [e]; exact .lin _ _ _ _
theorem Reb.str {x : List Nat} : Reb B B' as as' h (.str x) (.str x) := fun u r => by
  obtain ⟨_, rfl⟩ := r.str_i
  exact .str _ _
theorem Reb.lst {i : Nat} (e : as'[i]? = as[i]?) : Reb B B' as as' h (.lst i) (.lst i) := fun u r => by
  obtain ⟨_, rfl, q⟩ := r.lst_i
  exact .lst (e.trans q)
end
end Mine
end OfMSound41
noncomputable section OfMSound42
set_option autoImplicit false
set_option linter.unusedVariables false
namespace Mine
open PySem PySem.Calls PyProof.Rows PySem.SeqAt PySem.W
variable {prog : Program} {w : World} {B : Base} {C : Ctx}

theorem cellsFrom_has {x : Str} : ∀ {names : List (Str × NameKind)} {n : Nat} {acc : List (Str × Addr)}, ((x, NameKind.cell) ∈ names ∨ ∃ a, (x, a) ∈ acc) → ∃ a, (x, a) ∈ cellsFrom n names acc
  | [], _, _, h => by
    rcases h with h | h
    · cases h
    · exact h
  | (y, k) :: r, n, acc, h => by
    unfold cellsFrom
    split
    · refine cellsFrom_has ?_
      rcases h with h | ⟨a, h⟩
      · rcases List.mem_cons.mp h with h | h
        · cases h; exact .inr ⟨n, List.mem_cons_self⟩
        · exact .inl h
      · exact .inr ⟨a, List.mem_cons_of_mem _ h⟩
    · rename_i hk
      refine cellsFrom_has ?_
      rcases h with h | h
      · rcases List.mem_cons.mp h with h | h
        · cases h; exact absurd rfl hk
        · exact .inl h
      · exact .inr h
theorem noneFrom {h : Heap} {a : Addr} (ha : h.objs.size ≤ a) : h.get? a = none := by
  cases e : h.get? a with
  | none => rfl
  | some o => exact absurd (Heap.lt_size e) (Nat.not_lt.mpr ha)
theorem cells_live {s₀ s : Shared} {L : Addr} {m cm : Str → Option Value} {cs : List (Str × Addr)} (x : InCallC s₀ L m cs cm s) {p : Str × Addr} (hp : p ∈ cs) (hd : (cs.map (·.1)).Nodup) : ∃ o, s.heap.get? p.2 = some o := by
  have : cs.lookup p.1 = some p.2 := by
    clear x
    induction cs with
    | nil => cases hp
    | cons q r ih =>
      obtain ⟨q1, q2⟩ := q
      rw [List.map_cons, List.nodup_cons] at hd
      rcases List.mem_cons.mp hp with e | hp
      · rw [e]; simp
      · have : (p.1 == q1) = false := beq_eq_false_iff_ne.mpr fun e => hd.1 (e ▸ List.mem_map.mpr ⟨p, hp, rfl⟩)
        rw [List.lookup_cons, this]
        exact ih hp hd.2
  obtain ⟨o, ho, _⟩ := x.cell _ _ this
  exact ⟨o, ho⟩
theorem cellsFrom_names : ∀ {names : List (Str × NameKind)} {n : Nat} {acc : List (Str × Addr)}, ((cellsFrom n names acc).map (·.1)) = ((names.filter (·.2 == .cell)).map (·.1)).reverse ++ acc.map (·.1)
  | [], _, _ => rfl
  | (y, k) :: r, n, acc => by
    unfold cellsFrom
    split
    · rename_i hk
      rw [cellsFrom_names, List.filter_cons, if_pos hk]
      simp
    · rename_i hk
      rw [cellsFrom_names, List.filter_cons, if_neg hk]
noncomputable def sl0 : Sl := some .any :: nones 29
theorem law_enter {fdL : FuncData} {n : Nat} {A : Around} {s : Shared} {la : Addr} {Q : Value → Shared → Prop} (H : FnH B 10 cx10 (bod 25) fdL) (hfa : B.fa 10 = 133) (hb : ∀ a, bindArgs fdL ⟨[a], []⟩ = pure [(Str.ofString "script", a)]) (R : Room (n + 1) A) (I : Inv B [] [] s.heap)
    (h : ∀ A' env s1, EnvR B cx10 sl0 [] env [] s1.heap → Fresh B env → Inv B [] [] s1.heap → Sme s s1 → (∃ a, env.cells.lookup (Str.ofString "script") = some a ∧ s1.heap.IsCell a (some (.ref la))) → Room n A' → wpAny (model prog w) A' (execs (bod 25) env) (fun fl s' => Q (match fl with | .ret v => v | _ => .none) s') No s1) :
    wpAny (model prog w) A (call (.ref 133) [.ref la]) Q No s := by
  obtain ⟨o, e1, e2, e3⟩ := H.obj
  rw [hfa] at e1
  have hd := R.dep
  have hkc : fdL.scope.names.lookup (Str.ofString "script") = some .cell := by rw [H.names]; decide +kernel
  have hsome : ((cellsFrom (s.heap.objs.size + 1) fdL.scope.names []).lookup (Str.ofString "script")).isSome = true := by
    obtain ⟨a, ha⟩ := cellsFrom_has (n := s.heap.objs.size + 1) (acc := []) (.inl (lookup_some_mem hkc))
    obtain ⟨b, hb'⟩ := lookup_isSome ha
    rw [hb']; rfl
  refine wpAny_call (codeAny_call_cells (by (first | lia | omega)) (I.get0 e1 (by rw [e3]; exact fun e => nomatch e)) e2 I.lim (H.code.imm (imm0 I)).rec H.body (hb _) H.clo (fun x hx => ?_) (fun s₁ x => ?_) H.co H.gen H.kind)
  · rw [List.mem_singleton.mp hx]; exact .inr ⟨hkc, hsome⟩
  obtain ⟨h₁, tk, hs1⟩ := x.toInCall.same
  have hkeep := x.toInCall.keep
  have hfresh := x.toInCall.fresh
  have I1 : Inv B [] [] s₁.heap := I.keeps hkeep
  have hW : ∀ a ∈ Ws (callEnvC fdL s.heap.objs.size 133), s.heap.objs.size ≤ a := fun a ha => by
    rcases List.mem_cons.mp ha with rfl | ha
    · exact hfresh
    · obtain ⟨p, hp, rfl⟩ := List.mem_map.mp ha
      exact Nat.le_of_lt (Nat.lt_of_le_of_lt hfresh (x.above p.1 p.2 hp))
  have hcellN : ∀ y, (y, NameKind.cell) ∈ nm10 → ∃ c, (callEnvC fdL s.heap.objs.size 133).cells.lookup y = some c := fun y hy => by
    obtain ⟨a, ha⟩ := cellsFrom_has (x := y) (names := fdL.scope.names) (n := s.heap.objs.size + 1) (acc := []) (.inl (by rw [H.names]; exact hy))
    exact lookup_isSome ha
  have hko : (callEnvC fdL s.heap.objs.size 133).kindOf (Str.ofString "script") = some .cell := hkc
  have hcm : bindC (callEnvC fdL s.heap.objs.size 133).kindOf [(Str.ofString "script", Value.ref la)] (fun _ => none) (Str.ofString "script") = some (.ref la) := by
    unfold bindC bindC
    rw [hko, if_neg (by decide)]
    simp
  obtain ⟨c0, hc0⟩ := hcellN (Str.ofString "script") (by decide +kernel)
  have hi0 := x.cell _ _ hc0
  rw [hcm] at hi0
  have V : EnvR B cx10 sl0 [] (callEnvC fdL s.heap.objs.size 133) [] s₁.heap := by
    refine ⟨H.kind, H.names, by decide +kernel, ⟨_, x.toInCall.ns, fun k y v g1 g2 => ?_⟩, fun k y v g1 g2 => ?_, fun k y v g1 g2 => (by cases g2), H.glo, H.bui, fun k y g => ?_, fun y z c g1 g2 => name_of_addr x.apart (lookup_some_mem g1) (lookup_some_mem g2), fun a ha => ?_, fun e => absurd e (by decide)⟩
    · match k, g1, g2 with
      | 0, g1, _ => cases g1
      | k + 1, _, g2 => exact absurd (show (nones 29)[k]? = some (some v) from g2) (nones_get _ _)
    · match k, g1, g2 with
      | 0, g1, g2 =>
        cases g1; cases g2
        exact ⟨c0, _, hc0, hi0, .any _⟩
      | k + 1, _, g2 => exact absurd (show (nones 29)[k]? = some (some v) from g2) (nones_get _ _)
    · obtain ⟨c, hc⟩ := hcellN y (List.mem_of_getElem? g)
      exact ⟨c, _, hc, x.cell _ _ hc⟩
    · rcases List.mem_cons.mp ha with rfl | ha
      · obtain ⟨o, _, _, ho, _⟩ := x.toInCall.ns; exact ⟨o, ho⟩
      · obtain ⟨p, hp, rfl⟩ := List.mem_map.mp ha
        obtain ⟨p1, p2⟩ := p
        have hc2 : ∃ o, s₁.heap.get? p2 = some o := by
          have h1 := cells_live x hp (by
            show ((cellsFrom (s.heap.objs.size + 1) fdL.scope.names []).map (·.1)).Nodup
            rw [cellsFrom_names, H.names]
            decide +kernel)
          exact h1
        exact hc2
  refine wp_any (h (A.deeper _) _ s₁ V (fun a ha => I.new0 (noneFrom (hW a ha))) I1 (by rw [hs1]; exact ⟨rfl, rfl⟩) ⟨c0, hc0, hi0⟩ R.deeper) fun fl s' p => p
end Mine
end OfMSound42
noncomputable section OfMRun
set_option autoImplicit false
set_option linter.unusedVariables false
namespace Mine
open PySem
noncomputable def codeA : FX := xCons law1 (xCons law2 (xCons law3 (xCons law4 xNil)))
noncomputable def codeB : FX := xCons law5 (xCons law6 (xCons law7 (xCons law8 (xCons law9 (xCons law10 (xCons law11 (xCons law12 (xCons law13 xNil))))))))
noncomputable def codeC : FX := xCons law14 xNil
noncomputable def codeD : FX := xCons law15 (xCons law16 (xCons law17 (xCons law18 xNil)))
noncomputable def cs : Calls := calls fns 8
noncomputable def anys : List MV := [.any, .any, .any]
noncomputable def slA : Sl := some .any :: some (.lst 1) :: nones 28
noncomputable def stA (g z1 : Int) : St := [anys, [.lin 2 3 g, .int z1, .lin 1 1 0]]
noncomputable def slA4 (g p z f : Int) : Sl := some .any :: some (.lst 1) :: some (.int g) :: some (.int p) :: some (.int z) :: some (.int f) :: nones 24
noncomputable def slB (g p z r : Int) : Sl := some .any :: some (.lst 1) :: some (.int g) :: some (.int p) :: some (.int z) :: some (.lin 0 p r) :: nones 24
noncomputable def stB : St := [anys, [.any, .any, .lin 1 1 0]]
noncomputable def dueOf (t : Nat) : Nat := ([0, 4, 8, 6, 8, 4] : List Nat).getD (t % 6) 0
noncomputable def intAt (ρ : Sl) (k : Nat) (z : Int) : Bool := ob (getN ρ k) false fun o => ob o false fun v => intV v false fun i => ieq i z
noncomputable def lin110 (v : MV) : Bool := match v with
  | .none => false
  | .bool _ => false
  | .int _ => false
  | .lin x a b => bsel (Nat.beq x 1) (bsel (ieq a 1) (ieq b 0) false) false
  | .any => false
  | .flt _ => false
  | .str _ => false
  | .tup _ => false
  | .lst _ => false
  | .rng _ _ _ => false
  | .fn _ => false
  | .bi _ => false
  | .lam => false
noncomputable def lst1At (ρ : Sl) : Bool := ob (getN ρ 1) false fun o => ob o false fun v => lstV v false fun i => Nat.beq i 1
noncomputable def chkB (t : Nat) (ρ : Sl) (st : St) : Bool :=
  bsel (intAt ρ 9 (.ofNat t)) (bsel (intAt ρ 18 (.ofNat (dueOf t))) (bsel (lst1At ρ) (ob (getN st 0) false fun l0 => bsel (lenK l0 fun n => Nat.beq n 3) (ob (getN st 1) false fun l => lenK l fun n => bsel (Nat.beq n 3) (ob (getN l 2) false lin110) false) false) false) false) false
noncomputable def okB (g p z r : Int) (t : Nat) : Bool := (codeB cs (slB g p z r) stB).b false (chkB t) (fun _ _ => false)
noncomputable def slC (t : Nat) : Sl := none :: some (.lst 1) :: none :: none :: none :: none :: none :: none :: none :: some (.int (.ofNat t)) :: none :: none :: none :: none :: none :: none :: none :: none :: some (.int (.ofNat (dueOf t))) :: nones 10
noncomputable def stC (c : Int) : St := [anys, [.any, .any, .lin 4 16 c]]
noncomputable def rotOf (t : Nat) : List Nat := ([[114, 121, 103, 82, 89, 71], [71, 114, 121, 103, 82, 89], [89, 71, 114, 121, 103, 82], [82, 89, 71, 114, 121, 103], [103, 82, 89, 71, 114, 121], [121, 103, 82, 89, 71, 114]] : List (List Nat)).getD (t % 6) []
noncomputable def strAt (ρ : Sl) (k : Nat) (s : List Nat) : Bool := ob (getN ρ k) false fun o => ob o false fun v => strV v false fun i => eqL i s
noncomputable def chkC (t : Nat) (ρ : Sl) (st : St) : Bool := bsel (intAt ρ 18 (.ofNat (dueOf t))) (ob (getN ρ 19) false fun o => ob o false fun v => strV v false fun i => eqL i (rotOf t)) false
noncomputable def okC (t : Nat) (c : Int) : Bool := (codeC cs (slC t) (stC c)).b false (chkC t) (fun _ _ => false)
noncomputable def slD (t : Nat) : Sl := none :: none :: none :: none :: none :: none :: none :: none :: none :: none :: none :: none :: none :: none :: none :: none :: none :: none :: some (.int (.ofNat (dueOf t))) :: some (.str (rotOf t)) :: nones 10
noncomputable def isTrue' (v : MV) : Bool := boolV v false fun b => b
noncomputable def okD (t : Nat) : Bool := (codeD cs (slD t) []).b false (fun _ _ => false) (fun v _ => isTrue' v)
end Mine
end OfMRun
noncomputable section OfMRunC
set_option autoImplicit false
namespace Mine
open PySem
set_option maxRecDepth 100000
def tsL : List Nat := [0, 1, 2, 3, 4, 5, 6, 7, 8, 9, 10, 11, 12, 13, 14, 15, 16, 17, 18, 19, 20, 21, 23, 24, 30]
theorem rc0_0 : okC 0 0 = true := by decide +kernel
theorem rc0_1 : okC 0 1 = true := by decide +kernel
theorem rc0_2 : okC 0 2 = true := by decide +kernel
theorem rc0_3 : okC 0 3 = true := by decide +kernel
theorem rc0_4 : okC 0 4 = true := by decide +kernel
theorem rc0_5 : okC 0 5 = true := by decide +kernel
theorem rc0_6 : okC 0 6 = true := by decide +kernel
theorem rc0_7 : okC 0 7 = true := by decide +kernel
theorem rc0_8 : okC 0 8 = true := by decide +kernel
theorem rc0_9 : okC 0 9 = true := by decide +kernel
theorem rc0_10 : okC 0 10 = true := by decide +kernel
theorem rc0_11 : okC 0 11 = true := by decide +kernel
theorem rc0_12 : okC 0 12 = true := by decide +kernel
theorem rc0_13 : okC 0 13 = true := by decide +kernel
theorem rc0_14 : okC 0 14 = true := by decide +kernel
theorem rc0_15 : okC 0 15 = true := by decide +kernel
theorem rc0 : ∀ c : Nat, c < 16 → okC 0 (.ofNat c) = true
  | 0, _ => rc0_0
  | 1, _ => rc0_1
  | 2, _ => rc0_2
  | 3, _ => rc0_3
  | 4, _ => rc0_4
  | 5, _ => rc0_5
  | 6, _ => rc0_6
  | 7, _ => rc0_7
  | 8, _ => rc0_8
  | 9, _ => rc0_9
  | 10, _ => rc0_10
  | 11, _ => rc0_11
  | 12, _ => rc0_12
  | 13, _ => rc0_13
  | 14, _ => rc0_14
  | 15, _ => rc0_15
  | n + 16, h => absurd h (by omega)
theorem rc1_0 : okC 1 0 = true := by decide +kernel
theorem rc1_1 : okC 1 1 = true := by decide +kernel
theorem rc1_2 : okC 1 2 = true := by decide +kernel
theorem rc1_3 : okC 1 3 = true := by decide +kernel
theorem rc1_4 : okC 1 4 = true := by decide +kernel
theorem rc1_5 : okC 1 5 = true := by decide +kernel
theorem rc1_6 : okC 1 6 = true := by decide +kernel
theorem rc1_7 : okC 1 7 = true := by decide +kernel
theorem rc1_8 : okC 1 8 = true := by decide +kernel
theorem rc1_9 : okC 1 9 = true := by decide +kernel
theorem rc1_10 : okC 1 10 = true := by decide +kernel
theorem rc1_11 : okC 1 11 = true := by decide +kernel
theorem rc1_12 : okC 1 12 = true := by decide +kernel
theorem rc1_13 : okC 1 13 = true := by decide +kernel
theorem rc1_14 : okC 1 14 = true := by decide +kernel
theorem rc1_15 : okC 1 15 = true := by decide +kernel
theorem rc1 : ∀ c : Nat, c < 16 → okC 1 (.ofNat c) = true
  | 0, _ => rc1_0
  | 1, _ => rc1_1
  | 2, _ => rc1_2
  | 3, _ => rc1_3
  | 4, _ => rc1_4
  | 5, _ => rc1_5
  | 6, _ => rc1_6
  | 7, _ => rc1_7
  | 8, _ => rc1_8
  | 9, _ => rc1_9
  | 10, _ => rc1_10
  | 11, _ => rc1_11
  | 12, _ => rc1_12
  | 13, _ => rc1_13
  | 14, _ => rc1_14
  | 15, _ => rc1_15
  | n + 16, h => absurd h (by omega)
theorem rc2_0 : okC 2 0 = true := by decide +kernel
theorem rc2_1 : okC 2 1 = true := by decide +kernel
theorem rc2_2 : okC 2 2 = true := by decide +kernel
theorem rc2_3 : okC 2 3 = true := by decide +kernel
theorem rc2_4 : okC 2 4 = true := by decide +kernel
theorem rc2_5 : okC 2 5 = true := by decide +kernel
theorem rc2_6 : okC 2 6 = true := by decide +kernel
theorem rc2_7 : okC 2 7 = true := by decide +kernel
theorem rc2_8 : okC 2 8 = true := by decide +kernel
theorem rc2_9 : okC 2 9 = true := by decide +kernel
theorem rc2_10 : okC 2 10 = true := by decide +kernel
theorem rc2_11 : okC 2 11 = true := by decide +kernel
theorem rc2_12 : okC 2 12 = true := by decide +kernel
theorem rc2_13 : okC 2 13 = true := by decide +kernel
theorem rc2_14 : okC 2 14 = true := by decide +kernel
theorem rc2_15 : okC 2 15 = true := by decide +kernel
theorem rc2 : ∀ c : Nat, c < 16 → okC 2 (.ofNat c) = true
  | 0, _ => rc2_0
  | 1, _ => rc2_1
  | 2, _ => rc2_2
  | 3, _ => rc2_3
  | 4, _ => rc2_4
  | 5, _ => rc2_5
  | 6, _ => rc2_6
  | 7, _ => rc2_7
  | 8, _ => rc2_8
  | 9, _ => rc2_9
  | 10, _ => rc2_10
  | 11, _ => rc2_11
  | 12, _ => rc2_12
  | 13, _ => rc2_13
  | 14, _ => rc2_14
  | 15, _ => rc2_15
  | n + 16, h => absurd h (by omega)
theorem rc3_0 : okC 3 0 = true := by decide +kernel
theorem rc3_1 : okC 3 1 = true := by decide +kernel
theorem rc3_2 : okC 3 2 = true := by decide +kernel
theorem rc3_3 : okC 3 3 = true := by decide +kernel
theorem rc3_4 : okC 3 4 = true := by decide +kernel
theorem rc3_5 : okC 3 5 = true := by decide +kernel
theorem rc3_6 : okC 3 6 = true := by decide +kernel
theorem rc3_7 : okC 3 7 = true := by decide +kernel
theorem rc3_8 : okC 3 8 = true := by decide +kernel
theorem rc3_9 : okC 3 9 = true := by decide +kernel
theorem rc3_10 : okC 3 10 = true := by decide +kernel
theorem rc3_11 : okC 3 11 = true := by decide +kernel
theorem rc3_12 : okC 3 12 = true := by decide +kernel
theorem rc3_13 : okC 3 13 = true := by decide +kernel
theorem rc3_14 : okC 3 14 = true := by decide +kernel
theorem rc3_15 : okC 3 15 = true := by decide +kernel
theorem rc3 : ∀ c : Nat, c < 16 → okC 3 (.ofNat c) = true
  | 0, _ => rc3_0
  | 1, _ => rc3_1
  | 2, _ => rc3_2
  | 3, _ => rc3_3
  | 4, _ => rc3_4
  | 5, _ => rc3_5
  | 6, _ => rc3_6
  | 7, _ => rc3_7
  | 8, _ => rc3_8
  | 9, _ => rc3_9
  | 10, _ => rc3_10
  | 11, _ => rc3_11
  | 12, _ => rc3_12
  | 13, _ => rc3_13
  | 14, _ => rc3_14
  | 15, _ => rc3_15
  | n + 16, h => absurd h (by omega)
theorem rc4_0 : okC 4 0 = true := by decide +kernel
theorem rc4_1 : okC 4 1 = true := by decide +kernel
theorem rc4_2 : okC 4 2 = true := by decide +kernel
theorem rc4_3 : okC 4 3 = true := by decide +kernel
theorem rc4_4 : okC 4 4 = true := by decide +kernel
theorem rc4_5 : okC 4 5 = true := by decide +kernel
theorem rc4_6 : okC 4 6 = true := by decide +kernel
theorem rc4_7 : okC 4 7 = true := by decide +kernel
theorem rc4_8 : okC 4 8 = true := by decide +kernel
theorem rc4_9 : okC 4 9 = true := by decide +kernel
theorem rc4_10 : okC 4 10 = true := by decide +kernel
theorem rc4_11 : okC 4 11 = true := by decide +kernel
theorem rc4_12 : okC 4 12 = true := by decide +kernel
theorem rc4_13 : okC 4 13 = true := by decide +kernel
theorem rc4_14 : okC 4 14 = true := by decide +kernel
theorem rc4_15 : okC 4 15 = true := by decide +kernel
theorem rc4 : ∀ c : Nat, c < 16 → okC 4 (.ofNat c) = true
  | 0, _ => rc4_0
  | 1, _ => rc4_1
  | 2, _ => rc4_2
  | 3, _ => rc4_3
  | 4, _ => rc4_4
  | 5, _ => rc4_5
  | 6, _ => rc4_6
  | 7, _ => rc4_7
  | 8, _ => rc4_8
  | 9, _ => rc4_9
  | 10, _ => rc4_10
  | 11, _ => rc4_11
  | 12, _ => rc4_12
  | 13, _ => rc4_13
  | 14, _ => rc4_14
  | 15, _ => rc4_15
  | n + 16, h => absurd h (by omega)
theorem rc5_0 : okC 5 0 = true := by decide +kernel
theorem rc5_1 : okC 5 1 = true := by decide +kernel
theorem rc5_2 : okC 5 2 = true := by decide +kernel
theorem rc5_3 : okC 5 3 = true := by decide +kernel
theorem rc5_4 : okC 5 4 = true := by decide +kernel
theorem rc5_5 : okC 5 5 = true := by decide +kernel
theorem rc5_6 : okC 5 6 = true := by decide +kernel
theorem rc5_7 : okC 5 7 = true := by decide +kernel
theorem rc5_8 : okC 5 8 = true := by decide +kernel
theorem rc5_9 : okC 5 9 = true := by decide +kernel
theorem rc5_10 : okC 5 10 = true := by decide +kernel
theorem rc5_11 : okC 5 11 = true := by decide +kernel
theorem rc5_12 : okC 5 12 = true := by decide +kernel
theorem rc5_13 : okC 5 13 = true := by decide +kernel
theorem rc5_14 : okC 5 14 = true := by decide +kernel
theorem rc5_15 : okC 5 15 = true := by decide +kernel
theorem rc5 : ∀ c : Nat, c < 16 → okC 5 (.ofNat c) = true
  | 0, _ => rc5_0
  | 1, _ => rc5_1
  | 2, _ => rc5_2
  | 3, _ => rc5_3
  | 4, _ => rc5_4
  | 5, _ => rc5_5
  | 6, _ => rc5_6
  | 7, _ => rc5_7
  | 8, _ => rc5_8
  | 9, _ => rc5_9
  | 10, _ => rc5_10
  | 11, _ => rc5_11
  | 12, _ => rc5_12
  | 13, _ => rc5_13
  | 14, _ => rc5_14
  | 15, _ => rc5_15
  | n + 16, h => absurd h (by omega)
theorem rc6_0 : okC 6 0 = true := by decide +kernel
theorem rc6_1 : okC 6 1 = true := by decide +kernel
theorem rc6_2 : okC 6 2 = true := by decide +kernel
theorem rc6_3 : okC 6 3 = true := by decide +kernel
theorem rc6_4 : okC 6 4 = true := by decide +kernel
theorem rc6_5 : okC 6 5 = true := by decide +kernel
theorem rc6_6 : okC 6 6 = true := by decide +kernel
theorem rc6_7 : okC 6 7 = true := by decide +kernel
theorem rc6_8 : okC 6 8 = true := by decide +kernel
theorem rc6_9 : okC 6 9 = true := by decide +kernel
theorem rc6_10 : okC 6 10 = true := by decide +kernel
theorem rc6_11 : okC 6 11 = true := by decide +kernel
theorem rc6_12 : okC 6 12 = true := by decide +kernel
theorem rc6_13 : okC 6 13 = true := by decide +kernel
theorem rc6_14 : okC 6 14 = true := by decide +kernel
theorem rc6_15 : okC 6 15 = true := by decide +kernel
theorem rc6 : ∀ c : Nat, c < 16 → okC 6 (.ofNat c) = true
  | 0, _ => rc6_0
  | 1, _ => rc6_1
  | 2, _ => rc6_2
  | 3, _ => rc6_3
  | 4, _ => rc6_4
  | 5, _ => rc6_5
  | 6, _ => rc6_6
  | 7, _ => rc6_7
  | 8, _ => rc6_8
  | 9, _ => rc6_9
  | 10, _ => rc6_10
  | 11, _ => rc6_11
  | 12, _ => rc6_12
  | 13, _ => rc6_13
  | 14, _ => rc6_14
  | 15, _ => rc6_15
  | n + 16, h => absurd h (by omega)
theorem rc7_0 : okC 7 0 = true := by decide +kernel
theorem rc7_1 : okC 7 1 = true := by decide +kernel
theorem rc7_2 : okC 7 2 = true := by decide +kernel
theorem rc7_3 : okC 7 3 = true := by decide +kernel
theorem rc7_4 : okC 7 4 = true := by decide +kernel
theorem rc7_5 : okC 7 5 = true := by decide +kernel
theorem rc7_6 : okC 7 6 = true := by decide +kernel
theorem rc7_7 : okC 7 7 = true := by decide +kernel
theorem rc7_8 : okC 7 8 = true := by decide +kernel
theorem rc7_9 : okC 7 9 = true := by decide +kernel
theorem rc7_10 : okC 7 10 = true := by decide +kernel
theorem rc7_11 : okC 7 11 = true := by decide +kernel
theorem rc7_12 : okC 7 12 = true := by decide +kernel
theorem rc7_13 : okC 7 13 = true := by decide +kernel
theorem rc7_14 : okC 7 14 = true := by decide +kernel
theorem rc7_15 : okC 7 15 = true := by decide +kernel
theorem rc7 : ∀ c : Nat, c < 16 → okC 7 (.ofNat c) = true
  | 0, _ => rc7_0
  | 1, _ => rc7_1
  | 2, _ => rc7_2
  | 3, _ => rc7_3
  | 4, _ => rc7_4
  | 5, _ => rc7_5
  | 6, _ => rc7_6
  | 7, _ => rc7_7
  | 8, _ => rc7_8
  | 9, _ => rc7_9
  | 10, _ => rc7_10
  | 11, _ => rc7_11
  | 12, _ => rc7_12
  | 13, _ => rc7_13
  | 14, _ => rc7_14
  | 15, _ => rc7_15
  | n + 16, h => absurd h (by omega)
theorem rc8_0 : okC 8 0 = true := by decide +kernel
theorem rc8_1 : okC 8 1 = true := by decide +kernel
theorem rc8_2 : okC 8 2 = true := by decide +kernel
theorem rc8_3 : okC 8 3 = true := by decide +kernel
theorem rc8_4 : okC 8 4 = true := by decide +kernel
theorem rc8_5 : okC 8 5 = true := by decide +kernel
theorem rc8_6 : okC 8 6 = true := by decide +kernel
theorem rc8_7 : okC 8 7 = true := by decide +kernel
theorem rc8_8 : okC 8 8 = true := by decide +kernel
theorem rc8_9 : okC 8 9 = true := by decide +kernel
theorem rc8_10 : okC 8 10 = true := by decide +kernel
theorem rc8_11 : okC 8 11 = true := by decide +kernel
theorem rc8_12 : okC 8 12 = true := by decide +kernel
theorem rc8_13 : okC 8 13 = true := by decide +kernel
theorem rc8_14 : okC 8 14 = true := by decide +kernel
theorem rc8_15 : okC 8 15 = true := by decide +kernel
theorem rc8 : ∀ c : Nat, c < 16 → okC 8 (.ofNat c) = true
  | 0, _ => rc8_0
  | 1, _ => rc8_1
  | 2, _ => rc8_2
  | 3, _ => rc8_3
  | 4, _ => rc8_4
  | 5, _ => rc8_5
  | 6, _ => rc8_6
  | 7, _ => rc8_7
  | 8, _ => rc8_8
  | 9, _ => rc8_9
  | 10, _ => rc8_10
  | 11, _ => rc8_11
  | 12, _ => rc8_12
  | 13, _ => rc8_13
  | 14, _ => rc8_14
  | 15, _ => rc8_15
  | n + 16, h => absurd h (by omega)
theorem rc9_0 : okC 9 0 = true := by decide +kernel
theorem rc9_1 : okC 9 1 = true := by decide +kernel
theorem rc9_2 : okC 9 2 = true := by decide +kernel
theorem rc9_3 : okC 9 3 = true := by decide +kernel
theorem rc9_4 : okC 9 4 = true := by decide +kernel
theorem rc9_5 : okC 9 5 = true := by decide +kernel
theorem rc9_6 : okC 9 6 = true := by decide +kernel
theorem rc9_7 : okC 9 7 = true := by decide +kernel
theorem rc9_8 : okC 9 8 = true := by decide +kernel
theorem rc9_9 : okC 9 9 = true := by decide +kernel
theorem rc9_10 : okC 9 10 = true := by decide +kernel
theorem rc9_11 : okC 9 11 = true := by decide +kernel
theorem rc9_12 : okC 9 12 = true := by decide +kernel
theorem rc9_13 : okC 9 13 = true := by decide +kernel
theorem rc9_14 : okC 9 14 = true := by decide +kernel
theorem rc9_15 : okC 9 15 = true := by decide +kernel
theorem rc9 : ∀ c : Nat, c < 16 → okC 9 (.ofNat c) = true
  | 0, _ => rc9_0
  | 1, _ => rc9_1
  | 2, _ => rc9_2
  | 3, _ => rc9_3
  | 4, _ => rc9_4
  | 5, _ => rc9_5
  | 6, _ => rc9_6
  | 7, _ => rc9_7
  | 8, _ => rc9_8
  | 9, _ => rc9_9
  | 10, _ => rc9_10
  | 11, _ => rc9_11
  | 12, _ => rc9_12
  | 13, _ => rc9_13
  | 14, _ => rc9_14
  | 15, _ => rc9_15
  | n + 16, h => absurd h (by omega)
theorem rc10_0 : okC 10 0 = true := by decide +kernel
theorem rc10_1 : okC 10 1 = true := by decide +kernel
theorem rc10_2 : okC 10 2 = true := by decide +kernel
theorem rc10_3 : okC 10 3 = true := by decide +kernel
theorem rc10_4 : okC 10 4 = true := by decide +kernel
theorem rc10_5 : okC 10 5 = true := by decide +kernel
theorem rc10_6 : okC 10 6 = true := by decide +kernel
theorem rc10_7 : okC 10 7 = true := by decide +kernel
theorem rc10_8 : okC 10 8 = true := by decide +kernel
theorem rc10_9 : okC 10 9 = true := by decide +kernel
theorem rc10_10 : okC 10 10 = true := by decide +kernel
theorem rc10_11 : okC 10 11 = true := by decide +kernel
theorem rc10_12 : okC 10 12 = true := by decide +kernel
theorem rc10_13 : okC 10 13 = true := by decide +kernel
theorem rc10_14 : okC 10 14 = true := by decide +kernel
theorem rc10_15 : okC 10 15 = true := by decide +kernel
theorem rc10 : ∀ c : Nat, c < 16 → okC 10 (.ofNat c) = true
  | 0, _ => rc10_0
  | 1, _ => rc10_1
  | 2, _ => rc10_2
  | 3, _ => rc10_3
  | 4, _ => rc10_4
  | 5, _ => rc10_5
  | 6, _ => rc10_6
  | 7, _ => rc10_7
  | 8, _ => rc10_8
  | 9, _ => rc10_9
  | 10, _ => rc10_10
  | 11, _ => rc10_11
  | 12, _ => rc10_12
  | 13, _ => rc10_13
  | 14, _ => rc10_14
  | 15, _ => rc10_15
  | n + 16, h => absurd h (by omega)
theorem rc11_0 : okC 11 0 = true := by decide +kernel
theorem rc11_1 : okC 11 1 = true := by decide +kernel
theorem rc11_2 : okC 11 2 = true := by decide +kernel
theorem rc11_3 : okC 11 3 = true := by decide +kernel
theorem rc11_4 : okC 11 4 = true := by decide +kernel
theorem rc11_5 : okC 11 5 = true := by decide +kernel
theorem rc11_6 : okC 11 6 = true := by decide +kernel
theorem rc11_7 : okC 11 7 = true := by decide +kernel
theorem rc11_8 : okC 11 8 = true := by decide +kernel
theorem rc11_9 : okC 11 9 = true := by decide +kernel
theorem rc11_10 : okC 11 10 = true := by decide +kernel
theorem rc11_11 : okC 11 11 = true := by decide +kernel
theorem rc11_12 : okC 11 12 = true := by decide +kernel
theorem rc11_13 : okC 11 13 = true := by decide +kernel
theorem rc11_14 : okC 11 14 = true := by decide +kernel
theorem rc11_15 : okC 11 15 = true := by decide +kernel
theorem rc11 : ∀ c : Nat, c < 16 → okC 11 (.ofNat c) = true
  | 0, _ => rc11_0
  | 1, _ => rc11_1
  | 2, _ => rc11_2
  | 3, _ => rc11_3
  | 4, _ => rc11_4
  | 5, _ => rc11_5
  | 6, _ => rc11_6
  | 7, _ => rc11_7
  | 8, _ => rc11_8
  | 9, _ => rc11_9
  | 10, _ => rc11_10
  | 11, _ => rc11_11
  | 12, _ => rc11_12
  | 13, _ => rc11_13
  | 14, _ => rc11_14
  | 15, _ => rc11_15
  | n + 16, h => absurd h (by omega)
theorem rc12_0 : okC 12 0 = true := by decide +kernel
theorem rc12_1 : okC 12 1 = true := by decide +kernel
theorem rc12_2 : okC 12 2 = true := by decide +kernel
theorem rc12_3 : okC 12 3 = true := by decide +kernel
theorem rc12_4 : okC 12 4 = true := by decide +kernel
theorem rc12_5 : okC 12 5 = true := by decide +kernel
theorem rc12_6 : okC 12 6 = true := by decide +kernel
theorem rc12_7 : okC 12 7 = true := by decide +kernel
theorem rc12_8 : okC 12 8 = true := by decide +kernel
theorem rc12_9 : okC 12 9 = true := by decide +kernel
theorem rc12_10 : okC 12 10 = true := by decide +kernel
theorem rc12_11 : okC 12 11 = true := by decide +kernel
theorem rc12_12 : okC 12 12 = true := by decide +kernel
theorem rc12_13 : okC 12 13 = true := by decide +kernel
theorem rc12_14 : okC 12 14 = true := by decide +kernel
theorem rc12_15 : okC 12 15 = true := by decide +kernel
theorem rc12 : ∀ c : Nat, c < 16 → okC 12 (.ofNat c) = true
  | 0, _ => rc12_0
  | 1, _ => rc12_1
  | 2, _ => rc12_2
  | 3, _ => rc12_3
  | 4, _ => rc12_4
  | 5, _ => rc12_5
  | 6, _ => rc12_6
  | 7, _ => rc12_7
  | 8, _ => rc12_8
  | 9, _ => rc12_9
  | 10, _ => rc12_10
  | 11, _ => rc12_11
  | 12, _ => rc12_12
  | 13, _ => rc12_13
  | 14, _ => rc12_14
  | 15, _ => rc12_15
  | n + 16, h => absurd h (by omega)
theorem rc13_0 : okC 13 0 = true := by decide +kernel
theorem rc13_1 : okC 13 1 = true := by decide +kernel
theorem rc13_2 : okC 13 2 = true := by decide +kernel
theorem rc13_3 : okC 13 3 = true := by decide +kernel
theorem rc13_4 : okC 13 4 = true := by decide +kernel
theorem rc13_5 : okC 13 5 = true := by decide +kernel
theorem rc13_6 : okC 13 6 = true := by decide +kernel
theorem rc13_7 : okC 13 7 = true := by decide +kernel
theorem rc13_8 : okC 13 8 = true := by decide +kernel
theorem rc13_9 : okC 13 9 = true := by decide +kernel
theorem rc13_10 : okC 13 10 = true := by decide +kernel
theorem rc13_11 : okC 13 11 = true := by decide +kernel
theorem rc13_12 : okC 13 12 = true := by decide +kernel
theorem rc13_13 : okC 13 13 = true := by decide +kernel
theorem rc13_14 : okC 13 14 = true := by decide +kernel
theorem rc13_15 : okC 13 15 = true := by decide +kernel
theorem rc13 : ∀ c : Nat, c < 16 → okC 13 (.ofNat c) = true
  | 0, _ => rc13_0
  | 1, _ => rc13_1
  | 2, _ => rc13_2
  | 3, _ => rc13_3
  | 4, _ => rc13_4
  | 5, _ => rc13_5
  | 6, _ => rc13_6
  | 7, _ => rc13_7
  | 8, _ => rc13_8
  | 9, _ => rc13_9
  | 10, _ => rc13_10
  | 11, _ => rc13_11
  | 12, _ => rc13_12
  | 13, _ => rc13_13
  | 14, _ => rc13_14
  | 15, _ => rc13_15
  | n + 16, h => absurd h (by omega)
theorem rc14_0 : okC 14 0 = true := by decide +kernel
theorem rc14_1 : okC 14 1 = true := by decide +kernel
theorem rc14_2 : okC 14 2 = true := by decide +kernel
theorem rc14_3 : okC 14 3 = true := by decide +kernel
theorem rc14_4 : okC 14 4 = true := by decide +kernel
theorem rc14_5 : okC 14 5 = true := by decide +kernel
theorem rc14_6 : okC 14 6 = true := by decide +kernel
theorem rc14_7 : okC 14 7 = true := by decide +kernel
theorem rc14_8 : okC 14 8 = true := by decide +kernel
theorem rc14_9 : okC 14 9 = true := by decide +kernel
theorem rc14_10 : okC 14 10 = true := by decide +kernel
theorem rc14_11 : okC 14 11 = true := by decide +kernel
theorem rc14_12 : okC 14 12 = true := by decide +kernel
theorem rc14_13 : okC 14 13 = true := by decide +kernel
theorem rc14_14 : okC 14 14 = true := by decide +kernel
theorem rc14_15 : okC 14 15 = true := by decide +kernel
theorem rc14 : ∀ c : Nat, c < 16 → okC 14 (.ofNat c) = true
  | 0, _ => rc14_0
  | 1, _ => rc14_1
  | 2, _ => rc14_2
  | 3, _ => rc14_3
  | 4, _ => rc14_4
  | 5, _ => rc14_5
  | 6, _ => rc14_6
  | 7, _ => rc14_7
  | 8, _ => rc14_8
  | 9, _ => rc14_9
  | 10, _ => rc14_10
  | 11, _ => rc14_11
  | 12, _ => rc14_12
  | 13, _ => rc14_13
  | 14, _ => rc14_14
  | 15, _ => rc14_15
  | n + 16, h => absurd h (by omega)
theorem rc15_0 : okC 15 0 = true := by decide +kernel
theorem rc15_1 : okC 15 1 = true := by decide +kernel
theorem rc15_2 : okC 15 2 = true := by decide +kernel
theorem rc15_3 : okC 15 3 = true := by decide +kernel
theorem rc15_4 : okC 15 4 = true := by decide +kernel
theorem rc15_5 : okC 15 5 = true := by decide +kernel
theorem rc15_6 : okC 15 6 = true := by decide +kernel
theorem rc15_7 : okC 15 7 = true := by decide +kernel
theorem rc15_8 : okC 15 8 = true := by decide +kernel
theorem rc15_9 : okC 15 9 = true := by decide +kernel
theorem rc15_10 : okC 15 10 = true := by decide +kernel
theorem rc15_11 : okC 15 11 = true := by decide +kernel
theorem rc15_12 : okC 15 12 = true := by decide +kernel
theorem rc15_13 : okC 15 13 = true := by decide +kernel
theorem rc15_14 : okC 15 14 = true := by decide +kernel
theorem rc15_15 : okC 15 15 = true := by decide +kernel
theorem rc15 : ∀ c : Nat, c < 16 → okC 15 (.ofNat c) = true
  | 0, _ => rc15_0
  | 1, _ => rc15_1
  | 2, _ => rc15_2
  | 3, _ => rc15_3
  | 4, _ => rc15_4
  | 5, _ => rc15_5
  | 6, _ => rc15_6
  | 7, _ => rc15_7
  | 8, _ => rc15_8
  | 9, _ => rc15_9
  | 10, _ => rc15_10
  | 11, _ => rc15_11
  | 12, _ => rc15_12
  | 13, _ => rc15_13
  | 14, _ => rc15_14
  | 15, _ => rc15_15
  | n + 16, h => absurd h (by omega)
theorem rc16_0 : okC 16 0 = true := by decide +kernel
theorem rc16_1 : okC 16 1 = true := by decide +kernel
theorem rc16_2 : okC 16 2 = true := by decide +kernel
theorem rc16_3 : okC 16 3 = true := by decide +kernel
theorem rc16_4 : okC 16 4 = true := by decide +kernel
theorem rc16_5 : okC 16 5 = true := by decide +kernel
theorem rc16_6 : okC 16 6 = true := by decide +kernel
theorem rc16_7 : okC 16 7 = true := by decide +kernel
theorem rc16_8 : okC 16 8 = true := by decide +kernel
theorem rc16_9 : okC 16 9 = true := by decide +kernel
theorem rc16_10 : okC 16 10 = true := by decide +kernel
theorem rc16_11 : okC 16 11 = true := by decide +kernel
theorem rc16_12 : okC 16 12 = true := by decide +kernel
theorem rc16_13 : okC 16 13 = true := by decide +kernel
theorem rc16_14 : okC 16 14 = true := by decide +kernel
theorem rc16_15 : okC 16 15 = true := by decide +kernel
theorem rc16 : ∀ c : Nat, c < 16 → okC 16 (.ofNat c) = true
  | 0, _ => rc16_0
  | 1, _ => rc16_1
  | 2, _ => rc16_2
  | 3, _ => rc16_3
  | 4, _ => rc16_4
  | 5, _ => rc16_5
  | 6, _ => rc16_6
  | 7, _ => rc16_7
  | 8, _ => rc16_8
  | 9, _ => rc16_9
  | 10, _ => rc16_10
  | 11, _ => rc16_11
  | 12, _ => rc16_12
  | 13, _ => rc16_13
  | 14, _ => rc16_14
  | 15, _ => rc16_15
  | n + 16, h => absurd h (by omega)
theorem rc17_0 : okC 17 0 = true := by decide +kernel
theorem rc17_1 : okC 17 1 = true := by decide +kernel
theorem rc17_2 : okC 17 2 = true := by decide +kernel
theorem rc17_3 : okC 17 3 = true := by decide +kernel
theorem rc17_4 : okC 17 4 = true := by decide +kernel
theorem rc17_5 : okC 17 5 = true := by decide +kernel
theorem rc17_6 : okC 17 6 = true := by decide +kernel
theorem rc17_7 : okC 17 7 = true := by decide +kernel
theorem rc17_8 : okC 17 8 = true := by decide +kernel
theorem rc17_9 : okC 17 9 = true := by decide +kernel
theorem rc17_10 : okC 17 10 = true := by decide +kernel
theorem rc17_11 : okC 17 11 = true := by decide +kernel
theorem rc17_12 : okC 17 12 = true := by decide +kernel
theorem rc17_13 : okC 17 13 = true := by decide +kernel
theorem rc17_14 : okC 17 14 = true := by decide +kernel
theorem rc17_15 : okC 17 15 = true := by decide +kernel
theorem rc17 : ∀ c : Nat, c < 16 → okC 17 (.ofNat c) = true
  | 0, _ => rc17_0
  | 1, _ => rc17_1
  | 2, _ => rc17_2
  | 3, _ => rc17_3
  | 4, _ => rc17_4
  | 5, _ => rc17_5
  | 6, _ => rc17_6
  | 7, _ => rc17_7
  | 8, _ => rc17_8
  | 9, _ => rc17_9
  | 10, _ => rc17_10
  | 11, _ => rc17_11
  | 12, _ => rc17_12
  | 13, _ => rc17_13
  | 14, _ => rc17_14
  | 15, _ => rc17_15
  | n + 16, h => absurd h (by omega)
theorem rc18_0 : okC 18 0 = true := by decide +kernel
theorem rc18_1 : okC 18 1 = true := by decide +kernel
theorem rc18_2 : okC 18 2 = true := by decide +kernel
theorem rc18_3 : okC 18 3 = true := by decide +kernel
theorem rc18_4 : okC 18 4 = true := by decide +kernel
theorem rc18_5 : okC 18 5 = true := by decide +kernel
theorem rc18_6 : okC 18 6 = true := by decide +kernel
theorem rc18_7 : okC 18 7 = true := by decide +kernel
theorem rc18_8 : okC 18 8 = true := by decide +kernel
theorem rc18_9 : okC 18 9 = true := by decide +kernel
theorem rc18_10 : okC 18 10 = true := by decide +kernel
theorem rc18_11 : okC 18 11 = true := by decide +kernel
theorem rc18_12 : okC 18 12 = true := by decide +kernel
theorem rc18_13 : okC 18 13 = true := by decide +kernel
theorem rc18_14 : okC 18 14 = true := by decide +kernel
theorem rc18_15 : okC 18 15 = true := by decide +kernel
theorem rc18 : ∀ c : Nat, c < 16 → okC 18 (.ofNat c) = true
  | 0, _ => rc18_0
  | 1, _ => rc18_1
  | 2, _ => rc18_2
  | 3, _ => rc18_3
  | 4, _ => rc18_4
  | 5, _ => rc18_5
  | 6, _ => rc18_6
  | 7, _ => rc18_7
  | 8, _ => rc18_8
  | 9, _ => rc18_9
  | 10, _ => rc18_10
  | 11, _ => rc18_11
  | 12, _ => rc18_12
  | 13, _ => rc18_13
  | 14, _ => rc18_14
  | 15, _ => rc18_15
  | n + 16, h => absurd h (by omega)
theorem rc19_0 : okC 19 0 = true := by decide +kernel
theorem rc19_1 : okC 19 1 = true := by decide +kernel
theorem rc19_2 : okC 19 2 = true := by decide +kernel
theorem rc19_3 : okC 19 3 = true := by decide +kernel
theorem rc19_4 : okC 19 4 = true := by decide +kernel
theorem rc19_5 : okC 19 5 = true := by decide +kernel
theorem rc19_6 : okC 19 6 = true := by decide +kernel
theorem rc19_7 : okC 19 7 = true := by decide +kernel
theorem rc19_8 : okC 19 8 = true := by decide +kernel
theorem rc19_9 : okC 19 9 = true := by decide +kernel
theorem rc19_10 : okC 19 10 = true := by decide +kernel
theorem rc19_11 : okC 19 11 = true := by decide +kernel
theorem rc19_12 : okC 19 12 = true := by decide +kernel
theorem rc19_13 : okC 19 13 = true := by decide +kernel
theorem rc19_14 : okC 19 14 = true := by decide +kernel
theorem rc19_15 : okC 19 15 = true := by decide +kernel
theorem rc19 : ∀ c : Nat, c < 16 → okC 19 (.ofNat c) = true
  | 0, _ => rc19_0
  | 1, _ => rc19_1
  | 2, _ => rc19_2
  | 3, _ => rc19_3
  | 4, _ => rc19_4
  | 5, _ => rc19_5
  | 6, _ => rc19_6
  | 7, _ => rc19_7
  | 8, _ => rc19_8
  | 9, _ => rc19_9
  | 10, _ => rc19_10
  | 11, _ => rc19_11
  | 12, _ => rc19_12
  | 13, _ => rc19_13
  | 14, _ => rc19_14
  | 15, _ => rc19_15
  | n + 16, h => absurd h (by omega)
theorem rc20_0 : okC 20 0 = true := by decide +kernel
theorem rc20_1 : okC 20 1 = true := by decide +kernel
theorem rc20_2 : okC 20 2 = true := by decide +kernel
theorem rc20_3 : okC 20 3 = true := by decide +kernel
theorem rc20_4 : okC 20 4 = true := by decide +kernel
theorem rc20_5 : okC 20 5 = true := by decide +kernel
theorem rc20_6 : okC 20 6 = true := by decide +kernel
theorem rc20_7 : okC 20 7 = true := by decide +kernel
theorem rc20_8 : okC 20 8 = true := by decide +kernel
theorem rc20_9 : okC 20 9 = true := by decide +kernel
theorem rc20_10 : okC 20 10 = true := by decide +kernel
theorem rc20_11 : okC 20 11 = true := by decide +kernel
theorem rc20_12 : okC 20 12 = true := by decide +kernel
theorem rc20_13 : okC 20 13 = true := by decide +kernel
theorem rc20_14 : okC 20 14 = true := by decide +kernel
theorem rc20_15 : okC 20 15 = true := by decide +kernel
theorem rc20 : ∀ c : Nat, c < 16 → okC 20 (.ofNat c) = true
  | 0, _ => rc20_0
  | 1, _ => rc20_1
  | 2, _ => rc20_2
  | 3, _ => rc20_3
  | 4, _ => rc20_4
  | 5, _ => rc20_5
  | 6, _ => rc20_6
  | 7, _ => rc20_7
  | 8, _ => rc20_8
  | 9, _ => rc20_9
  | 10, _ => rc20_10
  | 11, _ => rc20_11
  | 12, _ => rc20_12
  | 13, _ => rc20_13
  | 14, _ => rc20_14
  | 15, _ => rc20_15
  | n + 16, h => absurd h (by omega)
theorem rc21_0 : okC 21 0 = true := by decide +kernel
theorem rc21_1 : okC 21 1 = true := by decide +kernel
theorem rc21_2 : okC 21 2 = true := by decide +kernel
theorem rc21_3 : okC 21 3 = true := by decide +kernel
theorem rc21_4 : okC 21 4 = true := by decide +kernel
theorem rc21_5 : okC 21 5 = true := by decide +kernel
theorem rc21_6 : okC 21 6 = true := by decide +kernel
theorem rc21_7 : okC 21 7 = true := by decide +kernel
theorem rc21_8 : okC 21 8 = true := by decide +kernel
theorem rc21_9 : okC 21 9 = true := by decide +kernel
theorem rc21_10 : okC 21 10 = true := by decide +kernel
theorem rc21_11 : okC 21 11 = true := by decide +kernel
theorem rc21_12 : okC 21 12 = true := by decide +kernel
theorem rc21_13 : okC 21 13 = true := by decide +kernel
theorem rc21_14 : okC 21 14 = true := by decide +kernel
theorem rc21_15 : okC 21 15 = true := by decide +kernel
theorem rc21 : ∀ c : Nat, c < 16 → okC 21 (.ofNat c) = true
  | 0, _ => rc21_0
  | 1, _ => rc21_1
  | 2, _ => rc21_2
  | 3, _ => rc21_3
  | 4, _ => rc21_4
  | 5, _ => rc21_5
  | 6, _ => rc21_6
  | 7, _ => rc21_7
  | 8, _ => rc21_8
  | 9, _ => rc21_9
  | 10, _ => rc21_10
  | 11, _ => rc21_11
  | 12, _ => rc21_12
  | 13, _ => rc21_13
  | 14, _ => rc21_14
  | 15, _ => rc21_15
  | n + 16, h => absurd h (by omega)
theorem rc23_0 : okC 23 0 = true := by decide +kernel
theorem rc23_1 : okC 23 1 = true := by decide +kernel
theorem rc23_2 : okC 23 2 = true := by decide +kernel
theorem rc23_3 : okC 23 3 = true := by decide +kernel
theorem rc23_4 : okC 23 4 = true := by decide +kernel
theorem rc23_5 : okC 23 5 = true := by decide +kernel
theorem rc23_6 : okC 23 6 = true := by decide +kernel
theorem rc23_7 : okC 23 7 = true := by decide +kernel
theorem rc23_8 : okC 23 8 = true := by decide +kernel
theorem rc23_9 : okC 23 9 = true := by decide +kernel
theorem rc23_10 : okC 23 10 = true := by decide +kernel
theorem rc23_11 : okC 23 11 = true := by decide +kernel
theorem rc23_12 : okC 23 12 = true := by decide +kernel
theorem rc23_13 : okC 23 13 = true := by decide +kernel
theorem rc23_14 : okC 23 14 = true := by decide +kernel
theorem rc23_15 : okC 23 15 = true := by decide +kernel
theorem rc23 : ∀ c : Nat, c < 16 → okC 23 (.ofNat c) = true
  | 0, _ => rc23_0
  | 1, _ => rc23_1
  | 2, _ => rc23_2
  | 3, _ => rc23_3
  | 4, _ => rc23_4
  | 5, _ => rc23_5
  | 6, _ => rc23_6
  | 7, _ => rc23_7
  | 8, _ => rc23_8
  | 9, _ => rc23_9
  | 10, _ => rc23_10
  | 11, _ => rc23_11
  | 12, _ => rc23_12
  | 13, _ => rc23_13
  | 14, _ => rc23_14
  | 15, _ => rc23_15
  | n + 16, h => absurd h (by omega)
theorem rc24_0 : okC 24 0 = true := by decide +kernel
theorem rc24_1 : okC 24 1 = true := by decide +kernel
theorem rc24_2 : okC 24 2 = true := by decide +kernel
theorem rc24_3 : okC 24 3 = true := by decide +kernel
theorem rc24_4 : okC 24 4 = true := by decide +kernel
theorem rc24_5 : okC 24 5 = true := by decide +kernel
theorem rc24_6 : okC 24 6 = true := by decide +kernel
theorem rc24_7 : okC 24 7 = true := by decide +kernel
theorem rc24_8 : okC 24 8 = true := by decide +kernel
theorem rc24_9 : okC 24 9 = true := by decide +kernel
theorem rc24_10 : okC 24 10 = true := by decide +kernel
theorem rc24_11 : okC 24 11 = true := by decide +kernel
theorem rc24_12 : okC 24 12 = true := by decide +kernel
theorem rc24_13 : okC 24 13 = true := by decide +kernel
theorem rc24_14 : okC 24 14 = true := by decide +kernel
theorem rc24_15 : okC 24 15 = true := by decide +kernel
theorem rc24 : ∀ c : Nat, c < 16 → okC 24 (.ofNat c) = true
  | 0, _ => rc24_0
  | 1, _ => rc24_1
  | 2, _ => rc24_2
  | 3, _ => rc24_3
  | 4, _ => rc24_4
  | 5, _ => rc24_5
  | 6, _ => rc24_6
  | 7, _ => rc24_7
  | 8, _ => rc24_8
  | 9, _ => rc24_9
  | 10, _ => rc24_10
  | 11, _ => rc24_11
  | 12, _ => rc24_12
  | 13, _ => rc24_13
  | 14, _ => rc24_14
  | 15, _ => rc24_15
  | n + 16, h => absurd h (by omega)
theorem rc30_0 : okC 30 0 = true := by decide +kernel
theorem rc30_1 : okC 30 1 = true := by decide +kernel
theorem rc30_2 : okC 30 2 = true := by decide +kernel
theorem rc30_3 : okC 30 3 = true := by decide +kernel
theorem rc30_4 : okC 30 4 = true := by decide +kernel
theorem rc30_5 : okC 30 5 = true := by decide +kernel
theorem rc30_6 : okC 30 6 = true := by decide +kernel
theorem rc30_7 : okC 30 7 = true := by decide +kernel
theorem rc30_8 : okC 30 8 = true := by decide +kernel
theorem rc30_9 : okC 30 9 = true := by decide +kernel
theorem rc30_10 : okC 30 10 = true := by decide +kernel
theorem rc30_11 : okC 30 11 = true := by decide +kernel
theorem rc30_12 : okC 30 12 = true := by decide +kernel
theorem rc30_13 : okC 30 13 = true := by decide +kernel
theorem rc30_14 : okC 30 14 = true := by decide +kernel
theorem rc30_15 : okC 30 15 = true := by decide +kernel
theorem rc30 : ∀ c : Nat, c < 16 → okC 30 (.ofNat c) = true
  | 0, _ => rc30_0
  | 1, _ => rc30_1
  | 2, _ => rc30_2
  | 3, _ => rc30_3
  | 4, _ => rc30_4
  | 5, _ => rc30_5
  | 6, _ => rc30_6
  | 7, _ => rc30_7
  | 8, _ => rc30_8
  | 9, _ => rc30_9
  | 10, _ => rc30_10
  | 11, _ => rc30_11
  | 12, _ => rc30_12
  | 13, _ => rc30_13
  | 14, _ => rc30_14
  | 15, _ => rc30_15
  | n + 16, h => absurd h (by omega)
theorem rcs : ∀ t : Nat, t ∈ tsL → ∀ c : Nat, c < 16 → okC t (.ofNat c) = true := by
  intro t ht
  simp only [tsL, List.mem_cons, List.not_mem_nil, or_false] at ht
  rcases ht with rfl | rfl | rfl | rfl | rfl | rfl | rfl | rfl | rfl | rfl | rfl | rfl | rfl | rfl | rfl | rfl | rfl | rfl | rfl | rfl | rfl | rfl | rfl | rfl | rfl
  · exact rc0
  · exact rc1
  · exact rc2
  · exact rc3
  · exact rc4
  · exact rc5
  · exact rc6
  · exact rc7
  · exact rc8
  · exact rc9
  · exact rc10
  · exact rc11
  · exact rc12
  · exact rc13
  · exact rc14
  · exact rc15
  · exact rc16
  · exact rc17
  · exact rc18
  · exact rc19
  · exact rc20
  · exact rc21
  · exact rc23
  · exact rc24
  · exact rc30
theorem rd0 : okD 0 = true := by decide +kernel
theorem rd1 : okD 1 = true := by decide +kernel
theorem rd2 : okD 2 = true := by decide +kernel
theorem rd3 : okD 3 = true := by decide +kernel
theorem rd4 : okD 4 = true := by decide +kernel
theorem rd5 : okD 5 = true := by decide +kernel
end Mine
end OfMRunC
noncomputable section OfMRunB
set_option autoImplicit false
namespace Mine
open PySem
set_option maxRecDepth 100000
theorem rb1_1 : okB 1 7 5 1 0 = true := by decide +kernel
theorem rb1_2 : okB 1 7 5 2 4 = true := by decide +kernel
theorem rb1_3 : okB 1 7 5 3 5 = true := by decide +kernel
theorem rb1_4 : okB 1 7 5 4 2 = true := by decide +kernel
theorem rb1_5 : okB 1 7 5 5 1 = true := by decide +kernel
theorem rb1_6 : okB 1 7 5 6 3 = true := by decide +kernel
theorem rb2_1 : okB 2 19 8 1 0 = true := by decide +kernel
theorem rb2_2 : okB 2 19 8 2 7 = true := by decide +kernel
theorem rb2_3 : okB 2 19 8 3 7 = true := by decide +kernel
theorem rb2_4 : okB 2 19 8 4 8 = true := by decide +kernel
theorem rb2_5 : okB 2 19 8 5 10 = true := by decide +kernel
theorem rb2_6 : okB 2 19 8 6 8 = true := by decide +kernel
theorem rb2_7 : okB 2 19 8 7 6 = true := by decide +kernel
theorem rb2_8 : okB 2 19 8 8 3 = true := by decide +kernel
theorem rb2_9 : okB 2 19 8 9 8 = true := by decide +kernel
theorem rb2_10 : okB 2 19 8 10 5 = true := by decide +kernel
theorem rb2_11 : okB 2 19 8 11 12 = true := by decide +kernel
theorem rb2_12 : okB 2 19 8 12 15 = true := by decide +kernel
theorem rb2_13 : okB 2 19 8 13 11 = true := by decide +kernel
theorem rb2_14 : okB 2 19 8 14 7 = true := by decide +kernel
theorem rb2_15 : okB 2 19 8 15 5 = true := by decide +kernel
theorem rb2_16 : okB 2 19 8 16 10 = true := by decide +kernel
theorem rb2_17 : okB 2 19 8 17 4 = true := by decide +kernel
theorem rb2_18 : okB 2 19 8 18 9 = true := by decide +kernel
theorem rb3_1 : okB 3 37 11 1 0 = true := by decide +kernel
theorem rb3_2 : okB 3 37 11 2 17 = true := by decide +kernel
theorem rb3_3 : okB 3 37 11 3 10 = true := by decide +kernel
theorem rb3_4 : okB 3 37 11 4 16 = true := by decide +kernel
theorem rb3_5 : okB 3 37 11 5 19 = true := by decide +kernel
theorem rb3_6 : okB 3 37 11 6 21 = true := by decide +kernel
theorem rb3_7 : okB 3 37 11 7 16 = true := by decide +kernel
theorem rb3_8 : okB 3 37 11 8 15 = true := by decide +kernel
theorem rb3_9 : okB 3 37 11 9 20 = true := by decide +kernel
theorem rb3_10 : okB 3 37 11 10 12 = true := by decide +kernel
theorem rb3_11 : okB 3 37 11 11 6 = true := by decide +kernel
theorem rb3_12 : okB 3 37 11 12 14 = true := by decide +kernel
theorem rb3_13 : okB 3 37 11 13 7 = true := by decide +kernel
theorem rb3_14 : okB 3 37 11 14 21 = true := by decide +kernel
theorem rb3_15 : okB 3 37 11 15 11 = true := by decide +kernel
theorem rb3_16 : okB 3 37 11 16 14 = true := by decide +kernel
theorem rb3_17 : okB 3 37 11 17 17 = true := by decide +kernel
theorem rb3_18 : okB 3 37 11 18 19 = true := by decide +kernel
theorem rb3_19 : okB 3 37 11 19 13 = true := by decide +kernel
theorem rb3_20 : okB 3 37 11 20 11 = true := by decide +kernel
theorem rb3_21 : okB 3 37 11 21 14 = true := by decide +kernel
theorem rb3_22 : okB 3 37 11 22 23 = true := by decide +kernel
theorem rb3_23 : okB 3 37 11 23 9 = true := by decide +kernel
theorem rb3_24 : okB 3 37 11 24 19 = true := by decide +kernel
theorem rb3_25 : okB 3 37 11 25 14 = true := by decide +kernel
theorem rb3_26 : okB 3 37 11 26 24 = true := by decide +kernel
theorem rb3_27 : okB 3 37 11 27 30 = true := by decide +kernel
theorem rb3_28 : okB 3 37 11 28 14 = true := by decide +kernel
theorem rb3_29 : okB 3 37 11 29 15 = true := by decide +kernel
theorem rb3_30 : okB 3 37 11 30 16 = true := by decide +kernel
theorem rb3_31 : okB 3 37 11 31 9 = true := by decide +kernel
theorem rb3_32 : okB 3 37 11 32 13 = true := by decide +kernel
theorem rb3_33 : okB 3 37 11 33 16 = true := by decide +kernel
theorem rb3_34 : okB 3 37 11 34 16 = true := by decide +kernel
theorem rb3_35 : okB 3 37 11 35 11 = true := by decide +kernel
theorem rb3_36 : okB 3 37 11 36 18 = true := by decide +kernel
theorem rb1 : ∀ r : Nat, 0 < r → r < 7 → ∃ t : Nat, t ∈ tsL ∧ okB 1 7 5 (.ofNat r) t = true
  | 0, h, _ => absurd h (by decide)
  | 1, _, _ => ⟨0, by decide, rb1_1⟩
  | 2, _, _ => ⟨4, by decide, rb1_2⟩
  | 3, _, _ => ⟨5, by decide, rb1_3⟩
  | 4, _, _ => ⟨2, by decide, rb1_4⟩
  | 5, _, _ => ⟨1, by decide, rb1_5⟩
  | 6, _, _ => ⟨3, by decide, rb1_6⟩
  | n + 7, _, h => absurd h (by omega)
theorem rb2 : ∀ r : Nat, 0 < r → r < 19 → ∃ t : Nat, t ∈ tsL ∧ okB 2 19 8 (.ofNat r) t = true
  | 0, h, _ => absurd h (by decide)
  | 1, _, _ => ⟨0, by decide, rb2_1⟩
  | 2, _, _ => ⟨7, by decide, rb2_2⟩
  | 3, _, _ => ⟨7, by decide, rb2_3⟩
  | 4, _, _ => ⟨8, by decide, rb2_4⟩
  | 5, _, _ => ⟨10, by decide, rb2_5⟩
  | 6, _, _ => ⟨8, by decide, rb2_6⟩
  | 7, _, _ => ⟨6, by decide, rb2_7⟩
  | 8, _, _ => ⟨3, by decide, rb2_8⟩
  | 9, _, _ => ⟨8, by decide, rb2_9⟩
  | 10, _, _ => ⟨5, by decide, rb2_10⟩
  | 11, _, _ => ⟨12, by decide, rb2_11⟩
  | 12, _, _ => ⟨15, by decide, rb2_12⟩
  | 13, _, _ => ⟨11, by decide, rb2_13⟩
  | 14, _, _ => ⟨7, by decide, rb2_14⟩
  | 15, _, _ => ⟨5, by decide, rb2_15⟩
  | 16, _, _ => ⟨10, by decide, rb2_16⟩
  | 17, _, _ => ⟨4, by decide, rb2_17⟩
  | 18, _, _ => ⟨9, by decide, rb2_18⟩
  | n + 19, _, h => absurd h (by omega)
theorem rb3 : ∀ r : Nat, 0 < r → r < 37 → ∃ t : Nat, t ∈ tsL ∧ okB 3 37 11 (.ofNat r) t = true
  | 0, h, _ => absurd h (by decide)
  | 1, _, _ => ⟨0, by decide, rb3_1⟩
  | 2, _, _ => ⟨17, by decide, rb3_2⟩
  | 3, _, _ => ⟨10, by decide, rb3_3⟩
  | 4, _, _ => ⟨16, by decide, rb3_4⟩
  | 5, _, _ => ⟨19, by decide, rb3_5⟩
  | 6, _, _ => ⟨21, by decide, rb3_6⟩
  | 7, _, _ => ⟨16, by decide, rb3_7⟩
  | 8, _, _ => ⟨15, by decide, rb3_8⟩
  | 9, _, _ => ⟨20, by decide, rb3_9⟩
  | 10, _, _ => ⟨12, by decide, rb3_10⟩
  | 11, _, _ => ⟨6, by decide, rb3_11⟩
  | 12, _, _ => ⟨14, by decide, rb3_12⟩
  | 13, _, _ => ⟨7, by decide, rb3_13⟩
  | 14, _, _ => ⟨21, by decide, rb3_14⟩
  | 15, _, _ => ⟨11, by decide, rb3_15⟩
  | 16, _, _ => ⟨14, by decide, rb3_16⟩
  | 17, _, _ => ⟨17, by decide, rb3_17⟩
  | 18, _, _ => ⟨19, by decide, rb3_18⟩
  | 19, _, _ => ⟨13, by decide, rb3_19⟩
  | 20, _, _ => ⟨11, by decide, rb3_20⟩
  | 21, _, _ => ⟨14, by decide, rb3_21⟩
  | 22, _, _ => ⟨23, by decide, rb3_22⟩
  | 23, _, _ => ⟨9, by decide, rb3_23⟩
  | 24, _, _ => ⟨19, by decide, rb3_24⟩
  | 25, _, _ => ⟨14, by decide, rb3_25⟩
  | 26, _, _ => ⟨24, by decide, rb3_26⟩
  | 27, _, _ => ⟨30, by decide, rb3_27⟩
  | 28, _, _ => ⟨14, by decide, rb3_28⟩
  | 29, _, _ => ⟨15, by decide, rb3_29⟩
  | 30, _, _ => ⟨16, by decide, rb3_30⟩
  | 31, _, _ => ⟨9, by decide, rb3_31⟩
  | 32, _, _ => ⟨13, by decide, rb3_32⟩
  | 33, _, _ => ⟨16, by decide, rb3_33⟩
  | 34, _, _ => ⟨16, by decide, rb3_34⟩
  | 35, _, _ => ⟨11, by decide, rb3_35⟩
  | 36, _, _ => ⟨18, by decide, rb3_36⟩
  | n + 37, _, h => absurd h (by omega)
end Mine
end OfMRunB
noncomputable section OfMSound43
set_option autoImplicit false
set_option linter.unusedVariables false
namespace Mine
open PySem PySem.Calls PyProof.Rows PySem.SeqAt PySem.W

noncomputable def sl2 (g : Int) : Sl := some .any :: some (.lst 1) :: some (.int g) :: nones 27
noncomputable def sl4 (g p z : Int) : Sl := some .any :: some (.lst 1) :: some (.int g) :: some (.int p) :: some (.int z) :: nones 25
theorem xCons_nx {f r : FX} {c : Calls} {ρ ρ1 ρ2 : Sl} {st st1 st2 : St} (h1 : f c ρ st = .nx ρ1 st1) (h2 : r c ρ1 st1 = .nx ρ2 st2) : xCons f r c ρ st = .nx ρ2 st2 := by
  show (f c ρ st).b .no (r c) .rt = _
  rw [h1]; exact h2
theorem xNil_nx {c : Calls} {ρ : Sl} {st : St} : xNil c ρ st = .nx ρ st := rfl
theorem sAsg1_nx {f : FE} {c : Calls} {k : Nat} {ρ : Sl} {st st' : St} {v : MV} (h : f c ρ [] st = .ok v st') : sAsg [k] f c ρ st = .nx (ρ.set k (some v)) st' := by
  show (f c ρ [] st).b RX.no (fun v st => setAllK ρ v [k] fun ρ => RX.nx ρ st) = _
  rw [h]
  exact setK_eq ρ k (some v) fun ρ => RX.nx ρ st'
theorem cBop_ok {o : Op2} {a b : FE} {c : Calls} {ρ up : Sl} {st st1 st2 : St} {x y : MV} (h1 : a c ρ up st = .ok x st1) (h2 : b c ρ up st1 = .ok y st2) : cBop o a b c ρ up st = bop o x y st2 := by
  show (a c ρ up st).b RV.no (fun x st => (b c ρ up st).b RV.no fun y st => bop o x y st) = _
  rw [h1]
  show (b c ρ up st1).b RV.no (fun y st => bop o x y st) = _
  rw [h2]; rfl
theorem law1_val (c : Calls) (z1 : Int) : law1 c slA (stA 0 z1) = .nx (sl2 1) (stA 0 z1) ∧ law1 c slA (stA 1 z1) = .nx (sl2 2) (stA 1 z1) ∧ law1 c slA (stA 2 z1) = .nx (sl2 3) (stA 2 z1) := ⟨rfl, rfl, rfl⟩
theorem law2_val (c : Calls) (st : St) : law2 c (sl2 1) st = .nx (sl4 1 7 5) st ∧ law2 c (sl2 2) st = .nx (sl4 2 19 8) st ∧ law2 c (sl2 3) st = .nx (sl4 3 37 11) st := ⟨rfl, rfl, rfl⟩
theorem law3_val (c : Calls) (g g0 p z z1 : Int) : law3 c (sl4 g p z) (stA g0 z1) = .nx (slA4 g p z (z1.fmod 8001 - 4000)) (stA g0 z1) := by
  refine (sAsg1_nx (v := .int (z1.fmod 8001 - 4000)) ?_).trans rfl
  refine (cBop_ok (st1 := stA g0 z1) (st2 := stA g0 z1) (x := .int (z1.fmod 8001)) (y := .int 4000) ((cBop_ok (st1 := stA g0 z1) (st2 := stA g0 z1) (x := .int z1) (y := .int 8001) rfl rfl).trans ?_) rfl).trans ?_
  · show ifmod z1 8001 (fun z => RV.ok (.int z) _) = _
    rw [ifmod_eq]
  · show isub _ 4000 (fun z => RV.ok (.int z) _) = _
    rw [isub_eq]
noncomputable def facOf (p z1 : Int) : Int := (z1.fmod 8001 - 4000) + if (z1.fmod 8001 - 4000).fmod p = 0 then 1 else 0
theorem law4_val (c : Calls) {g g0 p z z1 : Int} (hp : ieq p 0 = false) : law4 c (slA4 g p z (z1.fmod 8001 - 4000)) (stA g0 z1) = .nx (slA4 g p z (facOf p z1)) (stA g0 z1) := by
  have e : facOf p z1 = (z1.fmod 8001 - 4000) + if (z1.fmod 8001 - 4000).fmod p = 0 then 1 else 0 := rfl
  rw [e]
  generalize z1.fmod 8001 - 4000 = f
  refine (sAsg1_nx (v := .int (f + if f.fmod p = 0 then 1 else 0)) ?_).trans rfl
  have hm : cBop .mod (cVar 5) (cVar 3) c (slA4 g p z f) [] (stA g0 z1) = .ok (.int (f.fmod p)) (stA g0 z1) := by
    refine (cBop_ok (st1 := stA g0 z1) (st2 := stA g0 z1) (x := .int f) (y := .int p) rfl rfl).trans ?_
    show bsel (ieq p 0) RV.no (ifmod f p fun z => RV.ok (.int z) _) = _
    rw [hp, ifmod_eq]; rfl
  have hcmp : cCmp .eq (cBop .mod (cVar 5) (cVar 3)) (cCst (.int 0)) c (slA4 g p z f) [] (stA g0 z1) = .ok (.bool (ieq (f.fmod p) 0)) (stA g0 z1) := by
    show (cBop .mod (cVar 5) (cVar 3) c (slA4 g p z f) [] (stA g0 z1)).b RV.no (fun x st => (cCst (.int 0) c (slA4 g p z f) [] st).b RV.no fun y st => ob (cmpMV .eq x y st) RV.no fun t => RV.ok (.bool t) st) = _
    rw [hm]; rfl
  have hint : cCall (cCst (.bi .int)) (lCons (cCmp .eq (cBop .mod (cVar 5) (cVar 3)) (cCst (.int 0))) lNil) c (slA4 g p z f) [] (stA g0 z1) = .ok (.int (if f.fmod p = 0 then 1 else 0)) (stA g0 z1) := by
    show ((cCmp .eq (cBop .mod (cVar 5) (cVar 3)) (cCst (.int 0)) c (slA4 g p z f) [] (stA g0 z1)).b RL.no fun v st => (lNil c (slA4 g p z f) [] st).b RL.no fun vs st => .ok (v :: vs) st : RL).b RV.no (fun vs st => callV c (.bi .int) vs st) = _
    rw [hcmp, ieq_eq]
    by_cases h0 : f.fmod p = 0
    · rw [h0]; rfl
    · rw [if_neg h0, decide_eq_false h0]; rfl
  refine (cBop_ok (st1 := stA g0 z1) (st2 := stA g0 z1) (x := .int f) (y := .int (if f.fmod p = 0 then 1 else 0)) rfl hint).trans ?_
  show iadd f _ (fun z => RV.ok (.int z) _) = _
  rw [iadd_eq]
theorem codeA_val (c : Calls) (z1 : Int) : codeA c slA (stA 0 z1) = .nx (slA4 1 7 5 (facOf 7 z1)) (stA 0 z1) ∧ codeA c slA (stA 1 z1) = .nx (slA4 2 19 8 (facOf 19 z1)) (stA 1 z1) ∧ codeA c slA (stA 2 z1) = .nx (slA4 3 37 11 (facOf 37 z1)) (stA 2 z1) := by
  obtain ⟨a1, a2, a3⟩ := law1_val c z1
  refine ⟨?_, ?_, ?_⟩
  · exact xCons_nx a1 (xCons_nx (law2_val c _).1 (xCons_nx (law3_val c _ _ _ _ _) (xCons_nx (law4_val c rfl) xNil_nx)))
  · exact xCons_nx a2 (xCons_nx (law2_val c _).2.1 (xCons_nx (law3_val c _ _ _ _ _) (xCons_nx (law4_val c rfl) xNil_nx)))
  · exact xCons_nx a3 (xCons_nx (law2_val c _).2.2 (xCons_nx (law3_val c _ _ _ _ _) (xCons_nx (law4_val c rfl) xNil_nx)))
end Mine
end OfMSound43
noncomputable section OfMSound44
set_option autoImplicit false
set_option linter.unusedVariables false
namespace Mine
open PySem PySem.Calls PyProof.Rows PySem.SeqAt PySem.W
variable {prog : Program} {w : World} {B : Base} {C : Ctx}

theorem RX.b_true {r : RX} {k : Sl → St → Bool} {t : MV → St → Bool} (h : r.b false k t = true) : (∃ ρ st, r = .nx ρ st ∧ k ρ st = true) ∨ ∃ v st, r = .rt v st ∧ t v st = true := by
  cases r with
  | no => cases h
  | nx ρ st => exact .inl ⟨ρ, st, rfl, h⟩
  | rt v st => exact .inr ⟨v, st, rfl, h⟩
theorem tf : (false : Bool) ≠ true := by decide
theorem intV_t {v : MV} {k : Int → Bool} (h : intV v false k = true) : ∃ i, v = .int i ∧ k i = true := by
  cases v <;> first | exact absurd h tf | exact ⟨_, rfl, h⟩
theorem lstV_t {v : MV} {k : Nat → Bool} (h : lstV v false k = true) : ∃ i, v = .lst i ∧ k i = true := by
  cases v <;> first | exact absurd h tf | exact ⟨_, rfl, h⟩
theorem strV_t {v : MV} {k : List Nat → Bool} (h : strV v false k = true) : ∃ i, v = .str i ∧ k i = true := by
  cases v <;> first | exact absurd h tf | exact ⟨_, rfl, h⟩
theorem intAt_ok {ρ : Sl} {k : Nat} {z : Int} (h : intAt ρ k z = true) : ρ[k]? = some (some (.int z)) := by
  unfold intAt at h
  refine ob_el h tf fun o h1 h => ?_
  refine ob_el h tf fun v h2 h => ?_
  obtain ⟨i, h3, h⟩ := intV_t h
  rw [ieq_eq] at h
  rw [getN_eq] at h1
  rw [h1, h2, h3, of_decide_eq_true h]
theorem lst1At_ok {ρ : Sl} (h : lst1At ρ = true) : ρ[1]? = some (some (.lst 1)) := by
  unfold lst1At at h
  refine ob_el h tf fun o h1 h => ?_
  refine ob_el h tf fun v h2 h => ?_
  obtain ⟨i, h3, h⟩ := lstV_t h
  rw [getN_eq] at h1
  rw [h1, h2, h3, Nat.eq_of_beq_eq_true h]
theorem lin110_ok {v : MV} (h : lin110 v = true) : v = .lin 1 1 0 := by
  cases v <;> first | exact absurd h tf | skip
  rename_i x a b
  refine bsel_el (show bsel (Nat.beq x 1) (bsel (ieq a 1) (ieq b 0) false) false = true from h) tf fun h1 h => ?_
  refine bsel_el h tf fun h2 h => ?_
  rw [ieq_eq] at h2 h
  rw [Nat.eq_of_beq_eq_true h1, of_decide_eq_true h2, of_decide_eq_true h]
theorem chkB_ok {t : Nat} {ρ : Sl} {st : St} (h : chkB t ρ st = true) : ρ[9]? = some (some (.int (.ofNat t))) ∧ ρ[18]? = some (some (.int (.ofNat (dueOf t)))) ∧ ρ[1]? = some (some (.lst 1)) ∧ (∃ l0, st[0]? = some l0 ∧ l0.length = 3) ∧ ∃ x y, st[1]? = some [x, y, .lin 1 1 0] := by
  unfold chkB at h
  refine bsel_el h tf fun h1 h => ?_
  refine bsel_el h tf fun h2 h => ?_
  refine bsel_el h tf fun h3 h => ?_
  refine ob_el h tf fun l0 h4 h => ?_
  refine bsel_el h tf fun h5 h => ?_
  refine ob_el h tf fun l h6 h => ?_
  rw [lenK_eq] at h5 h
  refine bsel_el h tf fun h7 h => ?_
  refine ob_el h tf fun v h8 h => ?_
  rw [getN_eq] at h4 h6 h8
  refine ⟨intAt_ok h1, intAt_ok h2, lst1At_ok h3, ⟨l0, h4, Nat.eq_of_beq_eq_true h5⟩, ?_⟩
  have h9 := lin110_ok h
  subst h9
  have h10 := Nat.eq_of_beq_eq_true h7
  match l, h10 with
  | [x, y, z], _ =>
    simp at h8; subst h8
    exact ⟨x, y, h6⟩
theorem okB_ok {g p z r : Int} {t : Nat} (h : okB g p z r t = true) : ∃ ρ st, codeB cs (slB g p z r) stB = .nx ρ st ∧ chkB t ρ st = true := by
  rcases RX.b_true h with h | ⟨v, st, e, h⟩
  · exact h
  · cases h
theorem okC_ok {t : Nat} {c : Int} (h : okC t c = true) : ∃ ρ st, codeC cs (slC t) (stC c) = .nx ρ st ∧ ρ[18]? = some (some (.int (.ofNat (dueOf t)))) ∧ ρ[19]? = some (some (.str (rotOf t))) := by
  rcases RX.b_true h with ⟨ρ, st, e, h⟩ | ⟨v, st, e, h⟩
  · refine bsel_el (show bsel (intAt ρ 18 (.ofNat (dueOf t))) (ob (getN ρ 19) false fun o => ob o false fun v => strV v false fun i => eqL i (rotOf t)) false = true from h) tf fun h1 h => ?_
    refine ob_el h tf fun o h2 h => ?_
    refine ob_el h tf fun v h3 h => ?_
    obtain ⟨i, h4, h⟩ := strV_t h
    refine ⟨ρ, st, e, intAt_ok h1, ?_⟩
    rw [getN_eq] at h2
    rw [h2, h3, h4]
    rw [eqL_eq] at h
    rw [of_decide_eq_true h]
  · cases h
theorem okD_ok {t : Nat} (h : okD t = true) : ∃ st, codeD cs (slD t) [] = .rt (.bool true) st := by
  rcases RX.b_true h with ⟨ρ, st, e, h⟩ | ⟨v, st, e, h⟩
  · cases h
  · refine ⟨st, ?_⟩
    rw [e]
    cases v <;> first | exact absurd h tf | skip
    rename_i b
    have : b = true := h
    rw [this]
theorem okD_mod (t : Nat) : okD t = okD (t % 6) := by
  have h1 : dueOf t = dueOf (t % 6) := by unfold dueOf; rw [Nat.mod_mod]
  have h2 : rotOf t = rotOf (t % 6) := by unfold rotOf; rw [Nat.mod_mod]
  unfold okD slD
  rw [h1, h2]
theorem okD_all (t : Nat) : okD t = true := by
  rw [okD_mod]
  have : t % 6 < 6 := Nat.mod_lt _ (by decide)
  match t % 6, this with
  | 0, _ => exact rd0
  | 1, _ => exact rd1
  | 2, _ => exact rd2
  | 3, _ => exact rd3
  | 4, _ => exact rd4
  | 5, _ => exact rd5
end Mine
end OfMSound44
noncomputable section OfMSound45
set_option autoImplicit false
set_option linter.unusedVariables false
namespace Mine
open PySem PySem.Calls PyProof.Rows PySem.SeqAt PySem.W
variable {prog : Program} {w : World} {B : Base} {C : Ctx}

theorem sA (N : Names B) : SXs prog w B cx10 [stm 25 1, stm 25 2, stm 25 3, stm 25 4] codeA := by
  unfold codeA
  refine SXs.cons (@law1_ok prog w B N) ?_
  refine SXs.cons (@law2_ok prog w B N) ?_
  refine SXs.cons (@law3_ok prog w B N) ?_
  refine SXs.cons (@law4_ok prog w B N) ?_
  exact SXs.nil
theorem sB (N : Names B) : SXs prog w B cx10 [stm 25 5, stm 25 6, stm 25 7, stm 25 8, stm 25 9, stm 25 10, stm 25 11, stm 25 12, stm 25 13] codeB := by
  unfold codeB
  refine SXs.cons (@law5_ok prog w B N) ?_
  refine SXs.cons (@law6_ok prog w B N) ?_
  refine SXs.cons (@law7_ok prog w B N) ?_
  refine SXs.cons (@law8_ok prog w B N) ?_
  refine SXs.cons (@law9_ok prog w B N) ?_
  refine SXs.cons (@law10_ok prog w B N) ?_
  refine SXs.cons (@law11_ok prog w B N) ?_
  refine SXs.cons (@law12_ok prog w B N) ?_
  refine SXs.cons (@law13_ok prog w B N) ?_
  exact SXs.nil
theorem sC (N : Names B) : SXs prog w B cx10 [stm 25 14] codeC := by
  unfold codeC
  refine SXs.cons (@law14_ok prog w B N) ?_
  exact SXs.nil
theorem sD (N : Names B) : SXs prog w B cx10 [stm 25 15, stm 25 16, stm 25 17, stm 25 18] codeD := by
  unfold codeD
  refine SXs.cons (@law15_ok prog w B N) ?_
  refine SXs.cons (@law16_ok prog w B N) ?_
  refine SXs.cons (@law17_ok prog w B N) ?_
  refine SXs.cons (@law18_ok prog w B N) ?_
  exact SXs.nil
theorem bod_eq : bod 25 = stm 25 0 :: ([stm 25 1, stm 25 2, stm 25 3, stm 25 4] ++ ([stm 25 5, stm 25 6, stm 25 7, stm 25 8, stm 25 9, stm 25 10, stm 25 11, stm 25 12, stm 25 13] ++ ([stm 25 14] ++ [stm 25 15, stm 25 16, stm 25 17, stm 25 18]))) := rfl
theorem reb3 {B' : Base} {as as' : List Addr} {h : Heap} {a b c a' b' c' : MV} (h1 : Reb B B' as as' h a a') (h2 : Reb B B' as as' h b b') (h3 : Reb B B' as as' h c c') {items : List Value} (r : VRels B as h [a, b, c] items) : VRels B' as' h [a', b', c'] items := by
  obtain ⟨_, _, _, rfl, x, y, z⟩ := r.three_i; exact .cons (h1 _ x) (.cons (h2 _ y) (.cons (h3 _ z) .nil))
theorem store2 {as : List Addr} {h : Heap} {st : St} {l0 l1 l1' : List MV} {va : Nat → Int} {hs : (va 0).natAbs ≤ 10000} (I : Inv B as st h) (hst : st.length = 2) (h0 : st[0]? = some l0) (h0l : l0.length = 3) (h1 : st[1]? = some l1) (hx : ∀ (as : List Addr) items, VRels B as h l1 items → VRels (B.withVa va hs) as h l1' items) : Inv (B.withVa va hs) as [anys, l1'] h := by
  refine I.reb (by rw [hst]; rfl) fun i l' e => ?_
  match i, e with
  | 0, e =>
    cases e
    refine ⟨l0, h0, fun items r => ?_⟩
    match l0, h0l, r with
    | [a, b, c], _, r => exact reb3 .any .any .any r
  | 1, e =>
    cases e
    exact ⟨l1, h1, fun items r => hx _ items r⟩
  | i + 2, e => simp at e
theorem facOf_small (p z : Int) : (facOf p z).natAbs ≤ 4001 := by
  unfold facOf
  have h1 : 0 ≤ z.fmod 8001 := Int.fmod_nonneg_of_pos z (by decide)
  have h2 : z.fmod 8001 < 8001 := Int.fmod_lt_of_pos z (by decide)
  split <;> (first | lia | omega)
theorem facOf_ne {p z : Int} (hp : 1 < p) : facOf p z % p ≠ 0 := by
  unfold facOf
  generalize z.fmod 8001 - 4000 = f
  rw [Int.fmod_eq_emod_of_nonneg _ (by (first | lia | omega))]
  split
  · rename_i h
    rw [Int.add_emod, h]
    have : (1 : Int) % p = 1 := Int.emod_eq_of_lt (by decide) hp
    rw [this, Int.zero_add, this]; decide
  · rename_i h
    rw [Int.add_zero]; exact h
end Mine
end OfMSound45
noncomputable section OfMSound46
set_option autoImplicit false
set_option linter.unusedVariables false
namespace Mine
open PySem PySem.Calls PyProof.Rows PySem.SeqAt PySem.W
variable {prog : Program} {w : World} {B : Base} {C : Ctx}

noncomputable def vaOf (p z0 z1 z2 : Int) : Nat → Int
  | 0 => facOf p z1 / p
  | 1 => z2
  | 2 => z0.fdiv 3
  | 4 => z2 / 16
  | _ => 0
theorem vaOf_small {p z0 z1 z2 : Int} (hp : 1 < p) : (vaOf p z0 z1 z2 0).natAbs ≤ 10000 := by
  have h := facOf_small p z1
  show (facOf p z1 / p).natAbs ≤ 10000
  have h1 : (facOf p z1 / p).natAbs ≤ (facOf p z1).natAbs := Int.natAbs_ediv_le_natAbs _ _
  (first | lia | omega)
theorem law_tail {n : Nat} {A : Around} {env : Env} {s2 : Shared} {a0 a1 : Addr} {g0 g p z z0 z1 z2 : Int} {va : Nat → Int} {hs : (va 0).natAbs ≤ 10000}
    (hva : va = vaOf p z0 z1 z2) (hp : 1 < p) (hz0 : z0 = 3 * (z0.fdiv 3) + g0)
    (N : Names (B.withVa va hs)) (hc : SC prog w (B.withVa va hs) n cs)
    (hA : codeA cs slA (stA g0 z1) = .nx (slA4 g p z (facOf p z1)) (stA g0 z1))
    (hB : ∀ r : Nat, 0 < r → (r : Int) < p → ∃ t : Nat, t ∈ tsL ∧ okB g p z (.ofNat r) t = true)
    (R : Room n A) (V : EnvR B cx10 slA [] env [a0, a1] s2.heap) (F : Fresh B env) (I : Inv B [a0, a1] [mints [1, 3983, 6], mints [z0, z1, z2]] s2.heap) :
    wpAny (model prog w) A (execs ([stm 25 1, stm 25 2, stm 25 3, stm 25 4] ++ ([stm 25 5, stm 25 6, stm 25 7, stm 25 8, stm 25 9, stm 25 10, stm 25 11, stm 25 12, stm 25 13] ++ ([stm 25 14] ++ [stm 25 15, stm 25 16, stm 25 17, stm 25 18]))) env)
      (fun fl s' => fl = .ret (.bool true) ∧ OldK B.h₀ s'.heap ∧ Sme s2 s') No s2 := by
  have q0 : va 0 = facOf p z1 / p := by rw [hva]; rfl
  have q1 : va 1 = z2 := by rw [hva]; rfl
  have q2 : va 2 = z0.fdiv 3 := by rw [hva]; rfl
  have q4 : va 4 = z2 / 16 := by rw [hva]; rfl
  have F' : Fresh (B.withVa va hs) env := F
  -- part A
  have I2 : Inv (B.withVa va hs) [a0, a1] (stA g0 z1) s2.heap := store2 I rfl rfl rfl rfl fun as items r => reb3 (.toLin (by rw [show (B.withVa va hs).va 2 = va 2 from rfl, q2]; (first | lia | omega))) .int (.toLin (by rw [show (B.withVa va hs).va 1 = va 1 from rfl, q1]; (first | lia | omega))) r
  have V2 : EnvR (B.withVa va hs) cx10 slA [] env [a0, a1] s2.heap := V.rebL ⟨⟨_, rfl, .any⟩, ⟨_, rfl, .lst rfl⟩, all_nones⟩
  refine SXs.part (sA N) hc hA R V2 F' I2 fun as3 s3 G3 V3 => ?_
  have e3 := pre_eq G3.pre I2 G3.inv rfl
  subst e3
  -- part B
  have hfp : facOf p z1 % p ≠ 0 := facOf_ne hp
  have hr0 : 0 ≤ facOf p z1 % p := Int.emod_nonneg _ (by (first | lia | omega))
  have hr1 : facOf p z1 % p < p := Int.emod_lt_of_pos _ (by (first | lia | omega))
  obtain ⟨r, hr⟩ := Int.eq_ofNat_of_zero_le hr0
  rw [hr] at hfp hr1
  obtain ⟨t, ht, hok⟩ := hB r (by (first | lia | omega)) hr1
  obtain ⟨ρ5, st5, hrun, hchk⟩ := okB_ok hok
  obtain ⟨c9, c18, c1, ⟨l0, c0, c0l⟩, x, y, cst⟩ := chkB_ok hchk
  have hdm := Int.mul_ediv_add_emod (facOf p z1) p
  have I4 : Inv ((B.withVa va hs).withVa va hs) [a0, a1] stB s3.heap := store2 G3.inv rfl rfl rfl rfl fun as items r => reb3 .any .any (.lin rfl) r
  have V4 : EnvR ((B.withVa va hs).withVa va hs) cx10 (slB g p z (.ofNat r)) [] env [a0, a1] s3.heap := V3.rebL ⟨⟨_, rfl, .any⟩, ⟨_, rfl, .lst rfl⟩, ⟨_, rfl, .int⟩, ⟨_, rfl, .int⟩, ⟨_, rfl, .int⟩, ⟨_, rfl, .toLin (by
        rw [show ((B.withVa va hs).withVa va hs).va 0 = va 0 from rfl, q0]
        have : (Int.ofNat r) = facOf p z1 % p := hr.symm
        rw [this]; exact hdm.symm)⟩, all_nones⟩
  refine SXs.part (sB N) hc hrun R V4 F' I4 fun as5 s5 G5 V5 => ?_
  have hlen5 : as5.take 2 = [a0, a1] := by
    obtain ⟨rr, hrr⟩ := G5.pre
    rw [← hrr]; rfl
  have hget1 : as5[1]? = some a1 := by
    obtain ⟨rr, hrr⟩ := G5.pre
    rw [← hrr]; rfl
  -- part C
  obtain ⟨c, hcc⟩ := Int.eq_ofNat_of_zero_le (Int.emod_nonneg z2 (show (16 : Int) ≠ 0 by decide))
  have hc16 : z2 % 16 < 16 := Int.emod_lt_of_pos _ (by decide)
  rw [hcc] at hc16
  obtain ⟨ρ7, st7, hrunC, d18, d19⟩ := okC_ok (rcs t ht c (by (first | lia | omega)))
  have hdm2 := Int.mul_ediv_add_emod z2 16
  have I5t := G5.inv.take 2
  rw [hlen5] at I5t
  have hst5 : (st5.take 2).length = 2 := by
    have h1 := I5t.len
    rw [← h1]; rfl
  have I6 : Inv (((B.withVa va hs).withVa va hs).withVa va hs) [a0, a1] (stC (.ofNat c)) s5.heap := store2 I5t hst5 (l0 := l0) (by rw [List.getElem?_take, if_pos (by (first | lia | omega))]; exact c0) c0l (by rw [List.getElem?_take, if_pos (by (first | lia | omega))]; exact cst) fun as items r => reb3 .any .any (.lin (by
    rw [show ((B.withVa va hs).withVa va hs).va 1 = va 1 from rfl, show (((B.withVa va hs).withVa va hs).withVa va hs).va 4 = va 4 from rfl, q1, q4]
    have : (Int.ofNat c) = z2 % 16 := hcc.symm
    rw [this]; (first | lia | omega))) r
  have V6 : EnvR (((B.withVa va hs).withVa va hs).withVa va hs) cx10 (slC t) [] env [a0, a1] s5.heap := V5.rebL ⟨⟨_, c1, .lst (by rw [hget1]; rfl)⟩, ⟨_, c9, .int⟩, ⟨_, c18, .int⟩, all_nones⟩
  refine SXs.part (sC N) hc hrunC R V6 F' I6 fun as7 s7 G7 V7 => ?_
  -- part D
  obtain ⟨st9, hrunD⟩ := okD_ok (okD_all t)
  have I8 : Inv ((((B.withVa va hs).withVa va hs).withVa va hs).withVa va hs) [] [] s7.heap := by
    have := G7.inv.take 0
    exact this.reb rfl fun i l' e => by cases e
  have V8 : EnvR ((((B.withVa va hs).withVa va hs).withVa va hs).withVa va hs) cx10 (slD t) [] env [] s7.heap := V7.rebL ⟨⟨_, d18, .int⟩, ⟨_, d19, .str⟩, all_nones⟩
  refine wp_to (sD N n cs hc (slD t) [] (by rw [hrunD]; exact fun h => nomatch h) A env [] s7 R V8 F' I8) fun fl s9 p => ?_
  rw [hrunD] at p
  obtain ⟨u, as9, rfl, G9, r9⟩ := p
  (first | obtain rfl := r9.nil_i | obtain ⟨_, rfl⟩ := r9.int_i | obtain rfl := r9.none_i | obtain rfl := r9.bool_i | obtain ⟨_, rfl⟩ := r9.lin_i | obtain ⟨_, rfl, _⟩ := r9.flt_i | obtain ⟨_, rfl⟩ := r9.str_i | obtain rfl := r9.fn_i | obtain rfl := r9.bi_i | cases r9)
  exact ⟨rfl, G9.inv.oldK, ((G3.sme.trans G5.sme).trans G7.sme).trans G9.sme⟩
end Mine
end OfMSound46
noncomputable section OfMSound47
set_option autoImplicit false
set_option linter.unusedVariables false
namespace Mine
open PySem PySem.Calls PyProof.Rows PySem.SeqAt PySem.W
variable {prog : Program} {w : World} {C : Ctx}

theorem law_call {K : Frag} {mg mb : Str → Option Value} {A : Around} {s : Shared} {la : Addr} {vals : List Value} {ns : List Int} (H : HeadK K) (Y : HeadB K s.heap mg mb)
    (dv : ∀ B : Base, B.h₀ = s.heap → B.mg = mg → B.mb = mb → B.fa = faOf → B.tc = three H.c9 H.c102 H.c103 → B.lq = three (H.d9.qualname ++ ".<locals>." ++ "<lambda>") (H.d102.qualname ++ ".<locals>." ++ "inner") (H.d103.qualname ++ ".<locals>." ++ "inner") → DivOk prog w B)
    (R : Room 21 A) (hl : s.heap.IsList la vals.toArray) (hi : IntsAre vals ns) (hz : vals.length ≤ 63) :
    wpAny (model prog w) A (call (.ref 133) [.ref la]) (fun v s' => v = .bool true ∧ OldK s.heap s'.heap ∧ Sme s s') No s := by
  obtain ⟨B, e0, e1, e2, e3, e4, e5, e6, e7, e8⟩ := Y.base H (fun _ => 0) (by decide)
  have l1 : H.d9.code = .ref (B.tc 0) := by rw [e5]; exact (H.t9.at Y.X).1
  have l2 : H.d9.qualname ++ ".<locals>." ++ "<lambda>" = B.lq 0 := by rw [e7]; rfl
  have X : K.In B.h₀ := by rw [e0]; exact Y.X
  have N : Names B := Y.names H e1 e2 e4
  have I0 : Inv B [] [] s.heap := by have := Y.inv H e0 e5 e6 e8; rw [e0] at this; exact this
  refine law_enter (n := 20) (H.k10.fnH X (by rw [e4]; rfl) rfl (fun e => absurd e (by decide))) (by rw [e4]; rfl) H.p10 R I0 fun A' env s1 V F I1 S1 hcell R1 => ?_
  rw [bod_eq]
  refine wpAny_execs_cons (wp_to (law0_run N R1 V F I1 hcell (by rw [e0]; exact hl) hi hz) ?_)
  rintro fl s2 ⟨rfl, a0, a1, z0, z1, z2, G, V2⟩
  have tail : ∀ (g0 g p z : Int), 1 < p → z0 = 3 * z0.fdiv 3 + g0 → codeA cs slA (stA g0 z1) = .nx (slA4 g p z (facOf p z1)) (stA g0 z1) → (∀ r : Nat, 0 < r → (r : Int) < p → ∃ t : Nat, t ∈ tsL ∧ okB g p z (.ofNat r) t = true) →
      wpAny (model prog w) A' (execs ([stm 25 1, stm 25 2, stm 25 3, stm 25 4] ++ ([stm 25 5, stm 25 6, stm 25 7, stm 25 8, stm 25 9, stm 25 10, stm 25 11, stm 25 12, stm 25 13] ++ ([stm 25 14] ++ [stm 25 15, stm 25 16, stm 25 17, stm 25 18]))) env)
        (fun fl s' => (match fl with | .ret v => v | _ => Value.none) = .bool true ∧ OldK s.heap s'.heap ∧ Sme s s') No s2 := by
    intro g0 g p z hp hz0 hA hB
    have hs := vaOf_small (p := p) (z0 := z0) (z1 := z1) (z2 := z2) hp
    have N' : Names (B.withVa (vaOf p z0 z1 z2) hs) := Y.names H (B := B.withVa (vaOf p z0 z1 z2) hs) e1 e2 e4
    have hc : SC prog w (B.withVa (vaOf p z0 z1 z2) hs) 20 cs := calls_sound (Y.fns H (B := B.withVa (vaOf p z0 z1 z2) hs) e0 e4 N' l1 l2) (dv (B.withVa (vaOf p z0 z1 z2) hs) e0 e1 e2 e4 e5 e7) 8
    refine wp_to (law_tail (hs := hs) rfl hp hz0 N' hc hA hB R1 V2 F G.inv) ?_
    rintro fl s3 ⟨rfl, o3, m3⟩
    rw [e0] at o3
    exact ⟨rfl, o3, (S1.trans G.sme).trans m3⟩
  have hg0 : 0 ≤ z0.fmod 3 := Int.fmod_nonneg_of_pos z0 (by decide)
  have hg3 : z0.fmod 3 < 3 := Int.fmod_lt_of_pos z0 (by decide)
  have hdm := Int.mul_fdiv_add_fmod z0 3
  obtain ⟨v1, v2, v3⟩ := codeA_val cs z1
  have hcase : z0.fmod 3 = 0 ∨ z0.fmod 3 = 1 ∨ z0.fmod 3 = 2 := by (first | lia | omega)
  rcases hcase with hg | hg | hg
  · exact tail 0 1 7 5 (by decide) (by (first | lia | omega)) v1 fun r h0 h1 => rb1 r h0 (by (first | lia | omega))
  · exact tail 1 2 19 8 (by decide) (by (first | lia | omega)) v2 fun r h0 h1 => rb2 r h0 (by (first | lia | omega))
  · exact tail 2 3 37 11 (by decide) (by (first | lia | omega)) v3 fun r h0 h1 => rb3 r h0 (by (first | lia | omega))
end Mine
end OfMSound47
noncomputable section OfMD1
set_option autoImplicit false
set_option linter.unusedVariables false
namespace Mine

noncomputable def digs (β : Nat) : Nat → Nat → List Nat
  | _, 0 => []
  | x, m + 1 => x % β :: digs β (x / β) m
noncomputable def valD (β : Nat) : List Nat → Nat
  | [] => 0
  | d :: r => d + β * valD β r
theorem digs_length (β : Nat) : ∀ (m x : Nat), (digs β x m).length = m
  | 0, _ => rfl
  | m + 1, x => by show (digs β (x / β) m).length + 1 = m + 1; rw [digs_length β m]
theorem digs_one {β x : Nat} (h : x < β) : digs β x 1 = [x] := by
  show [x % β] = [x]
  rw [Nat.mod_eq_of_lt h]
theorem digs_add {β : Nat} (hβ : 0 < β) : ∀ (k l x : Nat), digs β x (k + l) = digs β (x % β ^ k) k ++ digs β (x / β ^ k) l
  | 0, l, x => by
    rw [Nat.zero_add, Nat.pow_zero, Nat.div_one]; rfl
  | k + 1, l, x => by
    rw [show k + 1 + l = (k + l) + 1 by (first | lia | omega)]
    show x % β :: digs β (x / β) (k + l) = (x % β ^ (k + 1) % β :: digs β (x % β ^ (k + 1) / β) k) ++ _
    rw [digs_add hβ k l (x / β)]
    have e1 : x % β ^ (k + 1) % β = x % β := Nat.mod_mod_of_dvd x ⟨β ^ k, by rw [Nat.pow_succ, Nat.mul_comm]⟩
    have e2 : x % β ^ (k + 1) / β = x / β % β ^ k := by rw [Nat.pow_succ, Nat.mul_comm, Nat.mod_mul_right_div_self]
    have e3 : x / β / β ^ k = x / β ^ (k + 1) := by rw [Nat.div_div_eq_div_mul, Nat.pow_succ, Nat.mul_comm]
    rw [e1, e2, e3]; rfl
theorem valD_digs {β : Nat} : ∀ (m x : Nat), x < β ^ m → valD β (digs β x m) = x
  | 0, x, h => by simp at h; subst h; rfl
  | m + 1, x, h => by
    show x % β + β * valD β (digs β (x / β) m) = x
    rw [valD_digs m (x / β) (Nat.div_lt_of_lt_mul (by rw [Nat.pow_succ, Nat.mul_comm] at h; exact h))]
    exact Nat.mod_add_div x β
theorem valD_append (β : Nat) : ∀ (l r : List Nat), valD β (l ++ r) = valD β l + β ^ l.length * valD β r
  | [], r => by simp [valD]
  | d :: l, r => by
    show d + β * valD β (l ++ r) = d + β * valD β l + β ^ (l.length + 1) * valD β r
    rw [valD_append β l r, Nat.mul_add, Nat.pow_succ, Nat.mul_comm (β ^ l.length) β, Nat.mul_assoc, Nat.add_assoc]
noncomputable def divL (β b : Nat) : List Nat → Nat → List Nat × Nat
  | [], r => ([], r)
  | d :: ds, r => let q := (r * β + d) / b; let p := divL β b ds ((r * β + d) % b); (q :: p.1, p.2)
theorem divL_length (β b : Nat) : ∀ (ds : List Nat) (r : Nat), (divL β b ds r).1.length = ds.length
  | [], _ => rfl
  | d :: ds, r => congrArg Nat.succ (divL_length β b ds _)
theorem divL_val {β b : Nat} (hb : 0 < b) : ∀ (ds : List Nat) (r : Nat), r < b → valD β (divL β b ds r).1.reverse * b + (divL β b ds r).2 = r * β ^ ds.length + valD β ds.reverse ∧ (divL β b ds r).2 < b
  | [], r, hr => by simp [divL, valD]; exact hr
  | d :: ds, r, hr => by
    have hm : (r * β + d) % b < b := Nat.mod_lt _ hb
    obtain ⟨h1, h2⟩ := divL_val hb ds ((r * β + d) % b) hm
    refine ⟨?_, h2⟩
    show valD β ((r * β + d) / b :: (divL β b ds ((r * β + d) % b)).1).reverse * b + (divL β b ds ((r * β + d) % b)).2 = r * β ^ (ds.length + 1) + valD β (d :: ds).reverse
    rw [List.reverse_cons, List.reverse_cons, valD_append, valD_append, List.length_reverse, List.length_reverse, divL_length]
    show (valD β (divL β b ds ((r * β + d) % b)).1.reverse + β ^ ds.length * ((r * β + d) / b + β * 0)) * b + (divL β b ds ((r * β + d) % b)).2 = r * β ^ (ds.length + 1) + (valD β ds.reverse + β ^ ds.length * (d + β * 0))
    rw [Nat.mul_zero, Nat.add_zero, Nat.add_zero]
    generalize valD β (divL β b ds ((r * β + d) % b)).1.reverse = Q at h1 ⊢
    generalize (divL β b ds ((r * β + d) % b)).2 = S at h1 h2 ⊢
    generalize valD β ds.reverse = V at h1 ⊢
    have hd := Nat.div_add_mod (r * β + d) b
    generalize (r * β + d) / b = q at hd ⊢
    generalize (r * β + d) % b = m at h1 hd ⊢
    generalize hB : β ^ ds.length = B at h1 ⊢
    have e1 : β ^ (ds.length + 1) = B * β := by rw [Nat.pow_succ, hB]
    rw [e1]
    have e2 : (Q + B * q) * b = Q * b + B * (b * q) := by rw [Nat.add_mul, Nat.mul_assoc, Nat.mul_comm q b]
    have e3 : r * (B * β) + B * d = B * (r * β + d) := by rw [Nat.mul_add]; congr 1; rw [Nat.mul_comm B β, ← Nat.mul_assoc, Nat.mul_comm (r * β) B]
    rw [e2]
    have e4 : B * (b * q) + m * B = B * (r * β + d) := by rw [← hd, Nat.mul_add, Nat.mul_comm m B]
    rw [← e3] at e4
    generalize B * (b * q) = t1 at e4 ⊢
    generalize m * B = t2 at e4 h1
    generalize r * (B * β) = t3 at e4 ⊢
    generalize B * d = t4 at e4 ⊢
    generalize Q * b = t5 at h1 ⊢
    clear e1 e2 e3 hd hB h2 hm
    (first | lia | omega)
theorem divmod_of {Q S x b : Nat} (h : Q * b + S = x) (hS : S < b) : Q = x / b ∧ S = x % b := by
  have hb : 0 < b := by (first | lia | omega)
  constructor
  · rw [← h, Nat.mul_comm, Nat.mul_add_div hb, Nat.div_eq_of_lt hS, Nat.add_zero]
  · rw [← h, Nat.mul_comm, Nat.mul_add_mod, Nat.mod_eq_of_lt hS]
theorem xor_low (x s : Nat) : (x ||| x / 2 ^ s * 2 ^ s) - (x &&& x / 2 ^ s * 2 ^ s) = x % 2 ^ s := by
  have h1 : x ||| x / 2 ^ s * 2 ^ s = x := by
    apply Nat.eq_of_testBit_eq
    intro i
    rw [Nat.testBit_or, Nat.testBit_mul_two_pow, Nat.testBit_div_two_pow]
    by_cases h : s ≤ i
    · simp [h, show i - s + s = i by (first | lia | omega)]
    · simp [h]
  have h2 : x &&& x / 2 ^ s * 2 ^ s = x / 2 ^ s * 2 ^ s := by
    apply Nat.eq_of_testBit_eq
    intro i
    rw [Nat.testBit_and, Nat.testBit_mul_two_pow, Nat.testBit_div_two_pow]
    by_cases h : s ≤ i
    · simp [h, show i - s + s = i by (first | lia | omega)]
    · simp [h]
  rw [h1, h2]
  have := Nat.div_add_mod x (2 ^ s)
  rw [Nat.mul_comm] at this
  (first | lia | omega)
end Mine
end OfMD1
noncomputable section OfMD2
set_option autoImplicit false
set_option linter.unusedVariables false
namespace Mine
open PySem PySem.Calls PyProof.Rows PySem.SeqAt PySem.W
variable {prog : Program} {w : World} {B : Base} {C : Ctx}

noncomputable def cInv (a : FE) : FE := fun c ρ up st => (a c ρ up st).b .no fun v st => intV v .no fun x => .ok (.int (-x - 1)) st
noncomputable def cBit (a : FE) : FE := fun c ρ up st => (a c ρ up st).b .no fun v st => intV v .no fun x => .ok (.int (Builtin.Int.intBits x)) st
noncomputable def shlV (x n : Int) (st : St) : RV := if 0 ≤ n ∧ n ≤ 1000000 ∧ x.natAbs < 2 ^ 64 then .ok (.int (x * 2 ^ n.toNat)) st else .no
noncomputable def cShl (a b : FE) : FE := fun c ρ up st => (a c ρ up st).b .no fun x st => (b c ρ up st).b .no fun y st => intV x .no fun i => intV y .no fun n => shlV i n st
noncomputable def dmV (x y : Int) (st : St) : RV := if y ≠ 0 ∧ y.natAbs ≤ 1000000 then .ok (.tup [.int (x.fdiv y), .int (x.fmod y)]) st else .no
noncomputable def cDm (a b : FE) : FE := fun c ρ up st => (a c ρ up st).b .no fun x st => (b c ρ up st).b .no fun y st => intV x .no fun i => intV y .no fun n => dmV i n st
noncomputable def cRev (l : FE) : FE := fun c ρ up st => (l c ρ up st).b .no fun w st => lstV w .no fun i => ob (getN st i) .no fun vs => bsel (Nat.ble vs.length 4096) (.ok .none (st.set i vs.reverse)) .no
noncomputable def revRun (k i : Nat) (b : FX) (c : Calls) : Nat → Sl → St → RX
  | 0, ρ, st => .nx ρ st
  | n + 1, ρ, st => ob (getN st i) .no fun l => ob (getN l n) .no fun v => (b c (ρ.set k (some v)) st).b .no (revRun k i b c n) .rt
noncomputable def sForR (k : Nat) (e : FE) (b : FX) : FX := fun c ρ st => (e c ρ [] st).b .no fun it st => lstV it .no fun i => ob (getN st i) .no fun l => revRun k i b c l.length ρ st

theorem SE.inv {e : Expr} {f : FE} {p : Pos} (h1 : SE prog w B C e f) : SE prog w B C (.UnaryOp .Invert e p) (cInv f) := by
  intro n c hc ρ up st v st' h A env as s R V I
  refine RV.b_el h nv fun x st1 g1 h => ?_
  obtain ⟨i, hi, h⟩ := intV_ok h nv
  subst hi; cases h
  refine wpAny_UnaryOp (wp_to (h1 n c hc _ _ _ _ _ g1 A env as s R V I) ?_)
  refine Pst.all fun u1 s1 as1 G1 r1 => ?_
  (first | obtain rfl := r1.nil_i | obtain ⟨_, rfl⟩ := r1.int_i | obtain rfl := r1.none_i | obtain rfl := r1.bool_i | obtain ⟨_, rfl⟩ := r1.lin_i | obtain ⟨_, rfl, _⟩ := r1.flt_i | obtain ⟨_, rfl⟩ := r1.str_i | obtain rfl := r1.fn_i | obtain rfl := r1.bi_i | cases r1)
  exact PyProof.Rows.invert_int ((Pst.tok G1.inv (.int _ _)).seq G1)
theorem SE.bit {e : Expr} {f : FE} {q p : Pos} (h1 : SE prog w B C e f) (hbase : ∀ env, attributeBase e "bit_length" env (eval e env) = eval e env) (hline : (q.endLine == p.line) = true) : SE prog w B C (.Call (.Attribute e "bit_length" q) [] [] p) (cBit f) := by
  intro n c hc ρ up st v st' h A env as s R V I
  refine RV.b_el h nv fun x st1 g1 h => ?_
  obtain ⟨i, hi, h⟩ := intV_ok h nv
  subst hi; cases h
  refine PySem.Call_method0 (hbase env) hline (wp_to (h1 n c hc _ _ _ _ _ g1 A env as s R V I) ?_)
  refine Pst.all fun u s1 as1 G1 r1 => ?_
  (first | obtain rfl := r1.nil_i | obtain ⟨_, rfl⟩ := r1.int_i | obtain rfl := r1.none_i | obtain rfl := r1.bool_i | obtain ⟨_, rfl⟩ := r1.lin_i | obtain ⟨_, rfl, _⟩ := r1.flt_i | obtain ⟨_, rfl⟩ := r1.str_i | obtain rfl := r1.fn_i | obtain rfl := r1.bi_i | cases r1)
  refine ⟨"int", "int.bit_length", PySem.F.plainAttrs_int, PyProof.Rows.slot_int_bit_length, PyProof.Rows.type_int_bit_length, typeIs_int _ _ _, fun a e => (by cases e), ?_⟩
  exact callWith_builtin rfl (PyProof.Rows.evalArgs_none (PyProof.Rows.call_int_bit_length ((Pst.tok G1.inv (.int _ _)).seq G1)))
theorem SE.shl {e1 e2 : Expr} {f1 f2 : FE} {p : Pos} (h1 : SE prog w B C e1 f1) (h2 : SE prog w B C e2 f2) : SE prog w B C (.BinOp e1 .LShift e2 p) (cShl f1 f2) := by
  intro n c hc ρ up st v st' h A env as s R V I
  refine RV.b_el h nv fun x st1 g1 h => ?_
  refine RV.b_el h nv fun y st2 g2 h => ?_
  obtain ⟨i, hi, h⟩ := intV_ok h nv
  obtain ⟨j, hj, h⟩ := intV_ok h nv
  subst hi hj
  have h : shlV i j st2 = .ok v st' := h
  unfold shlV at h
  split at h
  · rename_i hh
    obtain ⟨q1, q2, q3⟩ := hh
    cases h
    refine wpAny_BinOp (wp_to (h1 n c hc _ _ _ _ _ g1 A env as s R V I) ?_)
    refine Pst.all fun u1 s1 as1 G1 r1 => ?_
    refine wp_to (h2 n c hc _ _ _ _ _ g2 A env as1 s1 R (V.stp G1.stp G1.pre) G1.inv) ?_
    refine Pst.all fun u2 s2 as2 G2 r2 => ?_
    (first | obtain rfl := r1.nil_i | obtain ⟨_, rfl⟩ := r1.int_i | obtain rfl := r1.none_i | obtain rfl := r1.bool_i | obtain ⟨_, rfl⟩ := r1.lin_i | obtain ⟨_, rfl, _⟩ := r1.flt_i | obtain ⟨_, rfl⟩ := r1.str_i | obtain rfl := r1.fn_i | obtain rfl := r1.bi_i | cases r1); (first | obtain rfl := r2.nil_i | obtain ⟨_, rfl⟩ := r2.int_i | obtain rfl := r2.none_i | obtain rfl := r2.bool_i | obtain ⟨_, rfl⟩ := r2.lin_i | obtain ⟨_, rfl, _⟩ := r2.flt_i | obtain ⟨_, rfl⟩ := r2.str_i | obtain rfl := r2.fn_i | obtain rfl := r2.bi_i | cases r2)
    exact PyProof.Rows.lshift_int_small q1 q2 q3 (((Pst.tok G2.inv (.int _ _)).seq G2).seq G1)
  · cases h
theorem keeps_divmod {M : Model} {h : Heap} : KeepsAt M (.builtin "divmod") h := ⟨.machine, .inr (.inl rfl), fun A Q E s _ q => wpAny_pure q⟩
theorem spliced_two {A : Around} {s : Shared} {env : Env} {Q : List Value → Shared → Prop} {e e' : Expr} {p : Pos} (he : Plain1 e) (he' : Plain1 e') (h : wpAny (model prog w) A (eval e env) (fun u s1 => wpAny (model prog w) A (eval e' env) (fun u' s2 => Q [u, u'] s2) No s1) No s) : wpAny (model prog w) A (spliced (backTo p (starEach [e, e'] env))) Q No s :=
  wpAny_items_cons (wp_to h fun u s1 q => wpAny_items_cons (wp_to q fun u' s2 q' => wpAny_items_nil q') (he' [] env)) (he [e'] env)
theorem spliced_three {A : Around} {s : Shared} {env : Env} {Q : List Value → Shared → Prop} {e e' e'' : Expr} {p : Pos} (he : Plain1 e) (he' : Plain1 e') (he'' : Plain1 e'') (h : wpAny (model prog w) A (eval e env) (fun u s1 => wpAny (model prog w) A (eval e' env) (fun u' s2 => wpAny (model prog w) A (eval e'' env) (fun u'' s3 => Q [u, u', u''] s3) No s2) No s1) No s) : wpAny (model prog w) A (spliced (backTo p (starEach [e, e', e''] env))) Q No s :=
  wpAny_items_cons (wp_to h fun u s1 q => wpAny_items_cons (wp_to q fun u' s2 q' => wpAny_items_cons (wp_to q' fun u'' s3 q'' => wpAny_items_nil q'') (he'' [] env)) (he' [e''] env)) (he [e', e''] env)
theorem SE.dm {fn : Str} {e1 e2 : Expr} {f1 f2 : FE} {pf p : Pos} (h1 : SE prog w B C e1 f1) (h2 : SE prog w B C e2 f2) (he1 : Plain1 e1) (he2 : Plain1 e2) (hl : C.nm.lookup fn = some .globalImplicit) (hg : B.mg fn = none) (hb : B.mb fn = some (.builtin "divmod")) (hd : (fn == ("__debug__" : Str)) = false)
    (hp : ∀ env, (backTo p (starEach [e2] env)).any (·.1) = false)
    (hcall : ∀ env, eval (.Call (.Name fn pf) [e1, e2] [] p) env = (do callWith p (← eval (.Name fn pf) env) [] (backTo p (starEach [e1, e2] env)) (backToKw p (keywordEach [] env)))) :
    SE prog w B C (.Call (.Name fn pf) [e1, e2] [] p) (cDm f1 f2) := by
  intro n c hc ρ up st v st' h A env as s R V I
  refine RV.b_el h nv fun x st1 g1 h => ?_
  refine RV.b_el h nv fun y st2 g2 h => ?_
  obtain ⟨i, hi, h⟩ := intV_ok h nv
  obtain ⟨j, hj, h⟩ := intV_ok h nv
  subst hi hj
  have h : dmV i j st2 = .ok v st' := h
  unfold dmV at h
  split at h
  · rename_i hh
    obtain ⟨q1, q2⟩ := hh
    cases h
    refine call_gen he1 (hp env) (hcall env) ?_
    refine Name_function_global V.kind (by unfold Env.kindOf; rw [V.names]; exact hl) (loadGlobal_builtin (by rw [V.glo]; exact I.globals) hg (by rw [V.bui]; exact I.builtins) hb ?_) hd
    refine spliced_two he1 he2 (wp_to (h1 n c hc _ _ _ _ _ g1 A env as s R V I) ?_)
    refine Pst.all fun u1 s1 as1 G1 r1 => ?_
    refine wp_to (h2 n c hc _ _ _ _ _ g2 A env as1 s1 R (V.stp G1.stp G1.pre) G1.inv) ?_
    refine Pst.all fun u2 s2 as2 G2 r2 => ?_
    (first | obtain rfl := r1.nil_i | obtain ⟨_, rfl⟩ := r1.int_i | obtain rfl := r1.none_i | obtain rfl := r1.bool_i | obtain ⟨_, rfl⟩ := r1.lin_i | obtain ⟨_, rfl, _⟩ := r1.flt_i | obtain ⟨_, rfl⟩ := r1.str_i | obtain rfl := r1.fn_i | obtain rfl := r1.bi_i | cases r1); (first | obtain rfl := r2.nil_i | obtain ⟨_, rfl⟩ := r2.int_i | obtain rfl := r2.none_i | obtain rfl := r2.bool_i | obtain ⟨_, rfl⟩ := r2.lin_i | obtain ⟨_, rfl, _⟩ := r2.flt_i | obtain ⟨_, rfl⟩ := r2.str_i | obtain rfl := r2.fn_i | obtain rfl := r2.bi_i | cases r2)
    refine ⟨keeps_divmod, PyProof.Rows.divmod_int q1 ?_ (.inl (PyProof.noPylong_small (by (first | lia | omega))))⟩
    exact ((Pst.tup (vs := [.int _, .int _]) (us := [.int _ _, .int _ _]) G2.inv (.cons (.int _ _) (.cons (.int _ _) .nil))).seq G2).seq G1
  · cases h
theorem SE.rev {e : Expr} {f : FE} {q p : Pos} (h1 : SE prog w B C e f) (hbase : ∀ env, attributeBase e "reverse" env (eval e env) = eval e env) (hline : (q.endLine == p.line) = true) : SE prog w B C (.Call (.Attribute e "reverse" q) [] [] p) (cRev f) := by
  intro n c hc ρ up st v st' h A env as s R V I
  refine RV.b_el h nv fun lv st1 g1 h => ?_
  obtain ⟨i, hi, h⟩ := lstV_ok h nv
  subst hi
  refine ob_el h nv fun l g3 h => ?_
  refine bsel_el h nv fun hn h => ?_
  cases h
  have hn := ble_iff.mp hn
  refine PySem.Call_method0 (hbase env) hline (wp_to (h1 n c hc _ _ _ _ _ g1 A env as s R V I) ?_)
  refine Pst.all fun u1 s1 as1 G1 r1 => ?_
  obtain ⟨a, rfl, e⟩ := r1.lst_i
  rw [getN_eq] at g3
  obtain ⟨a', items, ha, ⟨k, hl⟩, rl⟩ := G1.inv.tlist g3
  rw [e] at ha; cases ha
  refine method_list (items := items) ⟨k, hl⟩ PySem.F.slot_list_reverse PySem.F.type_list_reverse (callWith_builtin rfl (PyProof.Rows.evalArgs_none ?_))
  refine call_meets PySem.F.slot_list_reverse ⟨_, hl, rfl⟩ PySem.F.entry_list_reverse (PySem.F.args_list_reverse_1 _) (AutoSeq1.list_reverse_list_0 a items.toArray k (by rw [List.size_toArray, ← rl.length]; unfold sizeLine; (first | lia | omega))) ⟨hl, ?_⟩
  have G2 := upd_post (u := .none) (l := l) (t := s1.toks) (f := fun x => x.reverse) (items' := items.reverse) (l' := l.reverse) G1.inv e hl (by simp) rl.reverse
  exact ⟨as1, G1.trans G2, .none⟩
end Mine
end OfMD2
noncomputable section OfMD3
set_option autoImplicit false
set_option linter.unusedVariables false
namespace Mine
open PySem PySem.Calls PyProof.Rows PySem.SeqAt PySem.W
variable {prog : Program} {w : World} {B : Base} {C : Ctx}

theorem rev_no {h : Heap} {it l : Addr} {i : Int} {o : Obj} (hi : h.IsRevIter it l i) (ho : h.get? it = some o) : ¬ ImmO o ∧ ¬ MutO o := by
  obtain ⟨o', ho', hc, hd⟩ := hi
  rw [ho] at ho'; cases ho'
  constructor
  · intro i; unfold ImmO at i; rw [hd] at i
    rcases i with i | i <;> rw [hc] at i <;> exact absurd i (by decide)
  · intro m; unfold MutO at m; rw [hd] at m
    have m : o.cls = .none := m
    rw [hc] at m; cases m
theorem ob_ne {β : Type} {r : Option β} {k : β → RX} (h : ob r .no k ≠ .no) : ∃ x, r = some x ∧ ob r .no k = k x ∧ k x ≠ .no := by
  cases r with
  | none => exact absurd rfl h
  | some x => exact ⟨x, rfl, rfl, h⟩
theorem SX.forR {e : Expr} {bs : List Stmt} {f : FE} {g : FX} {k : Nat} {x fn : Str} {q p pf pc : Pos} (h1 : SE prog w B C e f) (h2 : SXs prog w B C bs g) (hk : C.nm[k]? = some (x, .local)) (he : Plain1 e)
    (hl : C.nm.lookup fn = some .globalImplicit) (hg : B.mg fn = none) (hb : B.mb fn = some (.type "reversed")) (hd : (fn == ("__debug__" : Str)) = false)
    (hcall : ∀ env, eval (.Call (.Name fn pf) [e] [] pc) env = (do callWith pc (← eval (.Name fn pf) env) [] (backTo pc (starEach [e] env)) (backToKw pc (keywordEach [] env))))
    (hs : ∀ env v, foldedSetIterable (.Call (.Name fn pf) [e] [] pc) env v = pure v) :
    SX prog w B C (.For (.Name x q) (.Call (.Name fn pf) [e] [] pc) bs [] p) (sForR k f g) := by
  intro n c hc ρ st h A env as s R V F hI
  refine RV.b_nel (k := fun it st => lstV it .no fun i => ob (getN st i) .no fun l => revRun k i g c l.length ρ st) h fun it st1 e1 e2 h => ?_
  have e3 : sForR k f g c ρ st = lstV it .no fun i => ob (getN st1 i) .no fun l => revRun k i g c l.length ρ st1 := e2
  rw [e3]
  cases it with
  | lst i =>
    have h : ob (getN st1 i) .no (fun l => revRun k i g c l.length ρ st1) ≠ .no := h
    obtain ⟨l, hl0, e4, h⟩ := ob_ne h
    have e5 : (lstV (.lst i) .no fun i => ob (getN st1 i) .no fun l => revRun k i g c l.length ρ st1) = revRun k i g c l.length ρ st1 := e4
    rw [e5]
    rw [getN_eq] at hl0
    generalize hr : revRun k i g c l.length ρ st1 = r at h
    refine wpAny_For (call_gen he rfl (hcall env) ?_) (hs env)
    refine Name_function_global V.kind (by unfold Env.kindOf; rw [V.names]; exact hl) (loadGlobal_builtin (by rw [V.glo]; exact hI.globals) hg (by rw [V.bui]; exact hI.builtins) hb ?_) hd
    refine spliced_one he (wp_to (h1 n c hc _ _ _ _ _ e1 A env as s R V hI) ?_)
    refine Pst.all fun u s1 as1 G1 r1 => ?_
    refine ⟨keeps_type, ?_⟩
    obtain ⟨a, rfl, ea⟩ := r1.lst_i
    obtain ⟨a', items, ha, hPL, rl⟩ := G1.inv.plist hl0
    rw [ea] at ha; cases ha
    have V1 := V.stp G1.stp G1.pre
    refine call_reversed_list hPL.isList ?_
    have hnI : s1.heap.get? s1.heap.objs.size = none := hNoneAt _
    have hit2 : (s1.heap.push (revObj a ((items.toArray.size : Int) - 1))).IsRevIter s1.heap.objs.size a ((l.length : Int) - 1) := by
      have : ((items.toArray.size : Int) - 1) = ((l.length : Int) - 1) := by rw [List.size_toArray, rl.length]
      rw [this]
      exact ⟨_, Heap.get?_push_size _ rfl, rfl, rfl⟩
    have G2 : Go B [] as1 as1 st1 s1 { s1 with heap := s1.heap.push (revObj a ((items.toArray.size : Int) - 1)) } := ⟨List.prefix_refl _, fun _ h => .inl h, .push _ _ _, G1.inv.push _, ⟨rfl, rfl⟩⟩
    generalize s1.heap.push (revObj a ((items.toArray.size : Int) - 1)) = h2' at hit2 G2 ⊢
    generalize s1.heap.objs.size = I at hnI hit2 ⊢
    have V2 := V1.stp G2.stp G2.pre
    have hIW : I ∉ Ws env := fun hm => by
      obtain ⟨o, e⟩ := V1.wlive I hm
      rw [hnI] at e; cases e
    have hIW' : ∀ a ∈ Ws env, a ∉ [I] := fun a ha hm => hIW (List.mem_singleton.mp hm ▸ ha)
    have h0 : B.h₀.get? I = none := G1.inv.new0 hnI
    have keepI : ∀ {W : List Addr} {s s' : Shared} {as as' : List Addr} {st' : St} {i : Int}, Go B W as as' st' s s' → I ∉ W → s.heap.IsRevIter I a i → s'.heap.IsRevIter I a i := fun G hW q => by
      obtain ⟨o, ho, r⟩ := id q
      exact ⟨o, G.stp.keep _ _ ho (rev_no q ho).2 hW, r⟩
    refine wpAny_pyIter_revIter hit2 ?_
    refine forLoopC (fun m s' => Ex4 fun d ρ3 st3 as3 => And6 (m = d + 1) (revRun k i g c d ρ3 st3 = r) (Go B (Ws env ++ [I]) as1 as3 st3 s1 s') (EnvR B C ρ3 [] env as3 s'.heap) (s'.heap.IsRevIter I a ((d : Int) - 1)) (as3[i]? = some a)) ?_ (l.length + 1) ⟨l.length, ρ, st1, as1, rfl, hr, G2.of0, V2, hit2, ea⟩
    rintro m s3 ⟨d, ρ3, st3, as3, rfl, e6, G3, V3, t3, ea3⟩ E' N K' F' P' hP' hnx hrt hN' hK'
    cases d with
    | zero =>
      have e6 : RX.nx ρ3 st3 = r := e6
      subst e6
      refine wpAny_pyNext_rev_end R.hd (by simpa using t3) fun h' hx => ?_
      obtain ⟨o, ho, _⟩ := id t3
      have Gf := G3.endObj (N := [I]) (fun a ha => by rw [List.mem_singleton.mp ha]; exact hnI) (List.mem_singleton.mpr rfl) h0 ho (rev_no t3 ho).1 (rev_no t3 ho).2 hx
      exact hN' _ (wpAny_execs_nil (hP' _ _ ⟨rfl, as3, G1.of0.trans Gf, V3.endObj ho (rev_no t3 ho).1 hx hIW fun c v q => by
        rintro rfl
        obtain ⟨o', ho', hd'⟩ := q
        obtain ⟨o2, ho2, _, hd2⟩ := t3
        rw [ho'] at ho2; cases ho2
        rw [hd'] at hd2; cases hd2⟩))
    | succ d =>
      have e6 : ob (getN st3 i) .no (fun l => ob (getN l d) .no fun v => (g c (ρ3.set k (some v)) st3).b .no (revRun k i g c d) .rt) = r := e6
      have hn : RX.no ≠ r := fun q => h q.symm
      refine ob_el e6 hn fun l3 q1 e7 => ?_
      refine ob_el e7 hn fun mv q2 e8 => ?_
      rw [getN_eq] at q1 q2
      obtain ⟨a3, items3, ha3, hPL3, rl3⟩ := G3.inv.plist q1
      rw [ea3] at ha3; cases ha3
      obtain ⟨u, hu, ru⟩ := rl3.get q2
      refine wpAny_pyNext_rev_item (i := d) (by have : (((d + 1 : Nat) : Int) - 1) = (d : Int) := by (first | lia | omega)
                                                rw [this] at t3; exact t3) hPL3.isList (by rw [List.getElem?_toArray]; exact hu) fun h' hit4 hs4 => ?_
      obtain ⟨o, ho, _⟩ := id t3
      have G4 : Go B [I] as3 as3 st3 s3 { s3 with heap := h', toks := s3.toks } := Go.but G3.inv (fun b o hb q => (hs4.2 b (fun q => hb (by simp [q]))).trans q) (fun a ha => by rw [List.mem_singleton.mp ha]; exact h0) (fun a ha o ho => by rw [List.mem_singleton.mp ha] at ho; exact rev_no t3 ho) (fun a ha => by
        rw [List.mem_singleton.mp ha]; obtain ⟨o, ho, _⟩ := hit4; exact ⟨o, ho⟩)
      have V4 := V3.but G4.stp G4.pre hIW'
      have G34 : Go B (Ws env ++ [I]) as1 as3 st3 s1 { s3 with heap := h' } := G3.trans (G4.mono fun a ha => List.mem_append_right _ ha)
      refine hK' _ _ (wpAny_assign_Name (store_name (s := { s3 with heap := h' }) hk (.inl rfl) V4 G4.inv F (ru.stp G4.stp G4.pre) fun s5 G5 V5 => ?_))
      have t5 := keepI (s := { s3 with heap := h' }) G5 hIW hit4
      have G35 : Go B (Ws env ++ [I]) as1 as3 st3 s1 s5 := G34.trans (G5.mono fun a ha => List.mem_append_left _ ha)
      have hg' : g c (ρ3.set k (some mv)) st3 ≠ .no := by
        intro q
        rw [q] at e8
        exact h e8.symm
      refine wp_any (h2 n c hc _ st3 hg' A env as3 s5 R V5 F G35.inv) fun fl s6 pst => ?_
      generalize g c (ρ3.set k (some mv)) st3 = qq at e8 pst
      cases qq with
      | no => exact pst.elim
      | nx ρ6 st6 =>
        obtain ⟨rfl, as6, G6, V6⟩ := pst
        have e9 : revRun k i g c d ρ6 st6 = r := e8
        have ea6 : as6[i]? = some a := by
          obtain ⟨rr, hrr⟩ := G6.pre
          rw [← hrr, List.getElem?_append_left (List.getElem?_eq_some_iff.mp ea3).1]; exact ea3
        exact hnx _ ⟨d + 1, Nat.lt_succ_self _, d, ρ6, st6, as6, rfl, e9, G35.trans (G6.mono fun a ha => List.mem_append_left _ ha), V6, keepI G6 hIW t5, ea6⟩
      | rt v st6 =>
        obtain ⟨u6, as6, rfl, G6, r6⟩ := pst
        have e9 : RX.rt v st6 = r := e8
        subst e9
        exact hrt _ _ ⟨u6, as6, rfl, G1.of0.trans ((G35.trans (G6.mono fun a ha => List.mem_append_left _ ha)).drop fun a ha => by rw [List.mem_singleton.mp ha]; exact hnI), r6⟩
  | _ => exact absurd rfl h
end Mine
end OfMD3
noncomputable section OfMD4
set_option autoImplicit false
set_option linter.unusedVariables false
namespace Mine
open PySem PySem.Calls PyProof.Rows PySem.SeqAt PySem.W
variable {prog : Program} {w : World} {B : Base} {C : Ctx}

structure NamesD (B : Base) : Prop where
  f100 : B.mg (Str.ofString "int_divmod") = some (.ref (B.fa 100))
  f101 : B.mg (Str.ofString "_divmod_pos") = some (.ref (B.fa 101))
  f102 : B.mg (Str.ofString "_int2digits") = some (.ref (B.fa 102))
  f103 : B.mg (Str.ofString "_digits2int") = some (.ref (B.fa 103))
  f104 : B.mg (Str.ofString "_div2n1n") = some (.ref (B.fa 104))
  lim : ∃ t, B.mg (Str.ofString "_DIV_LIMIT") = some (.int 4000 t)
  n_divmod : B.mg (Str.ofString "divmod") = none
  n_reversed : B.mg (Str.ofString "reversed") = none
  n_len : B.mg (Str.ofString "len") = none
  b_divmod : B.mb (Str.ofString "divmod") = some (.builtin "divmod")
  b_reversed : B.mb (Str.ofString "reversed") = some (.type "reversed")
  b_len : B.mb (Str.ofString "len") = some (biVal .len)
noncomputable def nm104 : List (Str × NameKind) := [(Str.ofString "a", .local), (Str.ofString "b", .local), (Str.ofString "n", .local), (Str.ofString "pad", .local), (Str.ofString "half_n", .local), (Str.ofString "mask", .local), (Str.ofString "b1", .local), (Str.ofString "b2", .local), (Str.ofString "q1", .local), (Str.ofString "r", .local), (Str.ofString "q2", .local), (Str.ofString "_DIV_LIMIT", .globalImplicit), (Str.ofString "divmod", .globalImplicit), (Str.ofString "_div3n2n", .globalImplicit)]
noncomputable def cx104 : Ctx := ⟨nm104, [], false⟩
noncomputable def nm101 : List (Str × NameKind) := [(Str.ofString "a", .local), (Str.ofString "b", .local), (Str.ofString "n", .local), (Str.ofString "a_digits", .local), (Str.ofString "r", .local), (Str.ofString "q_digits", .local), (Str.ofString "a_digit", .local), (Str.ofString "q_digit", .local), (Str.ofString "q", .local), (Str.ofString "_int2digits", .globalImplicit), (Str.ofString "reversed", .globalImplicit), (Str.ofString "_div2n1n", .globalImplicit), (Str.ofString "_digits2int", .globalImplicit)]
noncomputable def cx101 : Ctx := ⟨nm101, [], false⟩
noncomputable def nm100 : List (Str × NameKind) := [(Str.ofString "a", .local), (Str.ofString "b", .local), (Str.ofString "q", .local), (Str.ofString "r", .local), (Str.ofString "ZeroDivisionError", .globalImplicit), (Str.ofString "int_divmod", .globalImplicit), (Str.ofString "_divmod_pos", .globalImplicit)]
noncomputable def cx100 : Ctx := ⟨nm100, [], false⟩
noncomputable def xNo : FX := fun _ _ _ => .no
theorem SXs.no' {ts : List Stmt} : SXs prog w B C ts xNo := fun n c hc ρ st h => absurd rfl h
noncomputable def code104 : FX := xCons (sIf (tCmp .le (cBop .sub (cBit (cVar 0)) (cVar 2)) (cCst (.int 4000))) (xCons (sRet (cDm (cVar 0) (cVar 1))) xNil) xNil) xNo
theorem code104_ok (N : NamesD B) : SXs prog w B cx104 (bod 8) code104 :=
  SXs.cons (SX.ifs (ST.cmp (o := .le) (SE.bop (o := .sub) (SE.bit (SE.var rfl (.inl rfl) (by decide +kernel)) (fun _ => rfl) rfl) (SE.var rfl (.inl rfl) (by decide +kernel))) (SE.globE (f := fun t => .int _ t) (by decide +kernel) N.lim (fun _ _ _ => .int _ _) (by decide +kernel)) rfl)
    (SXs.cons (SX.ret (SE.dm (SE.var rfl (.inl rfl) (by decide +kernel)) (SE.var rfl (.inl rfl) (by decide +kernel)) (fun _ _ => rfl) (fun _ _ => rfl) (by decide +kernel) N.n_divmod N.b_divmod (by decide +kernel) (fun _ => rfl) (fun _ => rfl))) SXs.nil) SXs.nil) SXs.no'
noncomputable def bodyR : FX := xCons (sAsgT [7, 4] (cCall (cCst (.fn 104)) (lCons (cBop .add (cShl (cVar 4) (cVar 2)) (cVar 6)) (lCons (cVar 1) (lCons (cVar 2) lNil))))) (xCons (sExp (cApp (cVar 5) (cVar 7))) xNil)
noncomputable def code101 : FX := xCons (sAsg [2] (cBit (cVar 1))) (xCons (sAsg [3] (cCall (cCst (.fn 102)) (lCons (cVar 0) (lCons (cVar 2) lNil)))) (xCons (sAsg [4] (cCst (.int 0))) (xCons (sAsg [5] (cLst lNil)) (xCons (sForR 6 (cVar 3) bodyR)
  (xCons (sExp (cRev (cVar 5))) (xCons (sAsg [8] (cCall (cCst (.fn 103)) (lCons (cVar 5) (lCons (cVar 2) lNil)))) (xCons (sRet (cTup (lCons (cVar 8) (lCons (cVar 4) lNil)))) xNil)))))))
theorem bodyR_ok (N : NamesD B) {bs : List Stmt} {x : Expr} {p : Pos} {q : Pos} {e1 : Expr} (h : True) : True := trivial
theorem code101_ok (N : NamesD B) : SXs prog w B cx101 (bod 12) code101 :=
  SXs.cons (SX.asg1 (SE.bit (SE.var rfl (.inl rfl) (by decide +kernel)) (fun _ => rfl) rfl) rfl (.inl rfl) (fun _ _ _ => rfl))
  (SXs.cons (SX.asg1 (SE.callP (SE.glob (by decide +kernel) N.f102 (fun _ _ => .fn 102) (by decide +kernel)) (SL.cons (SE.var rfl (.inl rfl) (by decide +kernel)) (SL.cons (SE.var rfl (.inl rfl) (by decide +kernel)) SL.nil (fun _ _ => rfl)) (fun _ _ => rfl)) (fun _ _ => rfl) (fun _ => rfl) (fun _ => rfl)) rfl (.inl rfl) (fun _ _ _ => rfl))
  (SXs.cons (SX.asg1 SE.intc rfl (.inl rfl) (fun _ _ _ => rfl))
  (SXs.cons (SX.asg1 (SE.lst SL.nil (by decide)) rfl (.inl rfl) (fun _ _ _ => rfl))
  (SXs.cons (SX.forR (SE.var rfl (.inl rfl) (by decide +kernel))
    (SXs.cons (SX.asgT (SE.callP (SE.glob (by decide +kernel) N.f104 (fun _ _ => .fn 104) (by decide +kernel)) (SL.cons (SE.bop (o := .add) (SE.shl (SE.var rfl (.inl rfl) (by decide +kernel)) (SE.var rfl (.inl rfl) (by decide +kernel))) (SE.var rfl (.inl rfl) (by decide +kernel))) (SL.cons (SE.var rfl (.inl rfl) (by decide +kernel)) (SL.cons (SE.var rfl (.inl rfl) (by decide +kernel)) SL.nil (fun _ _ => rfl)) (fun _ _ => rfl)) (fun _ _ => rfl)) (fun _ _ => rfl) (fun _ => rfl) (fun _ => rfl)) (.cons rfl (.inl rfl) (.cons rfl (.inl rfl) .nil)) (.inr ⟨_, rfl⟩) (fun _ => rfl) (fun _ hk hn => (swapped_dum hk hn).trans rfl))
    (SXs.cons (SX.exp (SE.app (SE.var rfl (.inl rfl) (by decide +kernel)) (SE.var rfl (.inl rfl) (by decide +kernel)) (fun _ => rfl) (fun _ => rfl) rfl) (fun _ => rfl)) SXs.nil))
    rfl (fun _ _ => rfl) (by decide +kernel) N.n_reversed N.b_reversed (by decide +kernel) (fun _ => rfl) (fun _ _ => rfl))
  (SXs.cons (SX.exp (SE.rev (SE.var rfl (.inl rfl) (by decide +kernel)) (fun _ => rfl) rfl) (fun _ => rfl))
  (SXs.cons (SX.asg1 (SE.callP (SE.glob (by decide +kernel) N.f103 (fun _ _ => .fn 103) (by decide +kernel)) (SL.cons (SE.var rfl (.inl rfl) (by decide +kernel)) (SL.cons (SE.var rfl (.inl rfl) (by decide +kernel)) SL.nil (fun _ _ => rfl)) (fun _ _ => rfl)) (fun _ _ => rfl) (fun _ => rfl) (fun _ => rfl)) rfl (.inl rfl) (fun _ _ _ => rfl))
  (SXs.cons (SX.ret (SE.tup (SL.cons (SE.var rfl (.inl rfl) (by decide +kernel)) (SL.cons (SE.var rfl (.inl rfl) (by decide +kernel)) SL.nil (fun _ _ => rfl)) (fun _ _ => rfl)) (by decide))) SXs.nil)))))))
noncomputable def call2 (f : Nat) (a b : FE) : FE := cCall (cCst (.fn f)) (lCons a (lCons b lNil))
noncomputable def tup2 (a b : FE) : FE := cTup (lCons a (lCons b lNil))
noncomputable def code100 : FX := xCons (sIf (tCmp .eq (cVar 1) (cCst (.int 0))) (xCons sNo xNil)
  (xCons (sIf (tCmp .lt (cVar 1) (cCst (.int 0))) (xCons (sAsgT [2, 3] (call2 100 (cNeg (cVar 0)) (cNeg (cVar 1)))) (xCons (sRet (tup2 (cVar 2) (cNeg (cVar 3)))) xNil))
    (xCons (sIf (tCmp .lt (cVar 0) (cCst (.int 0))) (xCons (sAsgT [2, 3] (call2 100 (cInv (cVar 0)) (cVar 1))) (xCons (sRet (tup2 (cInv (cVar 2)) (cBop .add (cVar 1) (cInv (cVar 3))))) xNil))
      (xCons (sRet (call2 101 (cVar 0) (cVar 1))) xNil)) xNil)) xNil)) xNil
theorem code100_ok (N : NamesD B) : SXs prog w B cx100 (bod 13) code100 :=
  SXs.cons (SX.ifs (ST.cmp (o := .eq) (SE.var rfl (.inl rfl) (by decide +kernel)) SE.intc rfl) (SXs.cons SX.no SXs.nil)
    (SXs.cons (SX.ifs (ST.cmp (o := .lt) (SE.var rfl (.inl rfl) (by decide +kernel)) SE.intc rfl)
      (SXs.cons (SX.asgT (SE.callP (SE.glob (by decide +kernel) N.f100 (fun _ _ => .fn 100) (by decide +kernel)) (SL.cons (SE.neg (SE.var rfl (.inl rfl) (by decide +kernel))) (SL.cons (SE.neg (SE.var rfl (.inl rfl) (by decide +kernel))) SL.nil (fun _ _ => rfl)) (fun _ _ => rfl)) (fun _ _ => rfl) (fun _ => rfl) (fun _ => rfl)) (.cons rfl (.inl rfl) (.cons rfl (.inl rfl) .nil)) (.inr ⟨_, rfl⟩) (fun _ => rfl) (fun _ hk hn => (swapped_dum hk hn).trans rfl))
      (SXs.cons (SX.ret (SE.tup (SL.cons (SE.var rfl (.inl rfl) (by decide +kernel)) (SL.cons (SE.neg (SE.var rfl (.inl rfl) (by decide +kernel))) SL.nil (fun _ _ => rfl)) (fun _ _ => rfl)) (by decide))) SXs.nil))
      (SXs.cons (SX.ifs (ST.cmp (o := .lt) (SE.var rfl (.inl rfl) (by decide +kernel)) SE.intc rfl)
        (SXs.cons (SX.asgT (SE.callP (SE.glob (by decide +kernel) N.f100 (fun _ _ => .fn 100) (by decide +kernel)) (SL.cons (SE.inv (SE.var rfl (.inl rfl) (by decide +kernel))) (SL.cons (SE.var rfl (.inl rfl) (by decide +kernel)) SL.nil (fun _ _ => rfl)) (fun _ _ => rfl)) (fun _ _ => rfl) (fun _ => rfl) (fun _ => rfl)) (.cons rfl (.inl rfl) (.cons rfl (.inl rfl) .nil)) (.inr ⟨_, rfl⟩) (fun _ => rfl) (fun _ hk hn => (swapped_dum hk hn).trans rfl))
        (SXs.cons (SX.ret (SE.tup (SL.cons (SE.inv (SE.var rfl (.inl rfl) (by decide +kernel))) (SL.cons (SE.bop (o := .add) (SE.var rfl (.inl rfl) (by decide +kernel)) (SE.inv (SE.var rfl (.inl rfl) (by decide +kernel)))) SL.nil (fun _ _ => rfl)) (fun _ _ => rfl)) (by decide))) SXs.nil))
        (SXs.cons (SX.ret (SE.callP (SE.glob (by decide +kernel) N.f101 (fun _ _ => .fn 101) (by decide +kernel)) (SL.cons (SE.var rfl (.inl rfl) (by decide +kernel)) (SL.cons (SE.var rfl (.inl rfl) (by decide +kernel)) SL.nil (fun _ _ => rfl)) (fun _ _ => rfl)) (fun _ _ => rfl) (fun _ => rfl) (fun _ => rfl))) SXs.nil)) SXs.nil)) SXs.nil)) SXs.nil
end Mine
end OfMD4
noncomputable section OfMD5
set_option autoImplicit false
set_option linter.unusedVariables false
namespace Mine
open PySem PySem.Calls PyProof.Rows PySem.SeqAt PySem.W
variable {prog : Program} {w : World} {B : Base} {C : Ctx}

structure CloS (B : Base) (C : Ctx) (body : List Stmt) (fd : FuncData) (ps : List Str) : Prop where
  body : fd.body = .stmts body
  names : fd.scope.names = C.nm
  kind : fd.scope.kind = .function
  co : fd.scope.isCoroutine = false
  gen : fd.scope.isGenerator = false
  glo : fd.globals = mainGlobals
  bui : fd.builtins = builtinsNs
  bind : ∀ us : List Value, us.length = ps.length → bindArgs fd ⟨us, []⟩ = pure (ps.zip us)
  inj : ∀ x y c, fd.closure.lookup x = some c → fd.closure.lookup y = some c → x = y
  new : ∀ p ∈ fd.closure, B.h₀.get? p.2 = none
structure CloAt (fi : Addr) (fd : FuncData) (h : Heap) : Prop where
  obj : ∃ o, h.get? fi = some o ∧ o.data = .func fd ∧ o.cls = .type "function"
  code : CodeAt h fd.code fd.qualname
  live : ∀ p ∈ fd.closure, ∃ o, h.get? p.2 = some o
theorem CloAt.stp {W : List Addr} {fi : Addr} {fd : FuncData} {h h' : Heap} (J : CloAt fi fd h) (s : Stp W h h') : CloAt fi fd h' := by
  obtain ⟨o, h1, h2, h3⟩ := J.obj
  refine ⟨⟨o, s.imm _ _ h1 (by unfold ImmO; rw [h2]; trivial), h2, h3⟩, J.code.stp s, fun p hp => ?_⟩
  obtain ⟨o, ho⟩ := J.live p hp
  exact s.live _ _ ho
theorem keeps_clo {M : Model} {fi : Addr} {fd : FuncData} {h : Heap} (J : CloAt fi fd h) : KeepsAt M (.ref fi) h := by
  obtain ⟨o, h1, h2, h3⟩ := J.obj
  exact ⟨_, .inl rfl, looks_fn h1 h2⟩
theorem enter_clo {n : Nat} {A : Around} {as : List Addr} {st : St} {s : Shared} {fi : Addr} {fd : FuncData} {body : List Stmt} {ps : List Str} {vs : List MV} {us : List Value} {k : Nat} {Q : Value → Shared → Prop} (S : CloS B C body fd ps) (J : CloAt fi fd s.heap) (O : CtxOk C ps) (hlm : C.lm = false) (R : Room (n + 1) A) (I : Inv B as st s.heap)
    (rv : VRels B as s.heap vs us) (hlen : vs.length = ps.length)
    (h : ∀ A' env s1, Room n A' → env.cells = fd.closure → s.heap.get? env.locals = none → B.h₀.get? env.locals = none → Go B [] as as st s s1 → EnvR B C (padL vs k) [] env as s1.heap →
      wpAny (model prog w) A' (execs body env) (fun fl s' => Q (match fl with | .ret v => v | _ => .none) s') No s1) :
    wpAny (model prog w) A (call (.ref fi) us []) Q No s := by
  obtain ⟨o, e1, e2, e3⟩ := J.obj
  have hl := R.dep
  have hul : us.length = ps.length := by rw [← rv.length]; exact hlen
  have hloc : ∀ p ∈ ps.zip us, fd.scope.names.lookup p.1 = some .local := fun p hp => by
    have hm := List.of_mem_zip hp
    obtain ⟨k, hk, e⟩ := List.getElem_of_mem hm.1
    rw [S.names]
    have := O.local (k := k) (x := p.1) (by rw [List.getElem?_eq_getElem hk, e])
    exact lookup_of_get O.dist this
  refine wpAny_call (codeAny_call_def (by (first | lia | omega)) e1 e2 I.lim J.code.rec S.body (.of_eq (S.bind us hul)) (fun x hx => O.nocell x (S.names ▸ hx)) hloc (fun h₀ hns hk => ?_) S.co S.gen S.kind)
  have hnL : s.heap.get? s.heap.objs.size = none := hNoneAt _
  generalize s.heap.objs.size = L at hns hnL ⊢
  have h0L : B.h₀.get? L = none := I.new0 hnL
  have G1 : Go B [] as as st s { s with heap := h₀, toks := s.toks + (ps.zip us).length } := ⟨List.prefix_refl _, fun _ h => .inl h, .all hk, I.keeps hk, ⟨rfl, rfl⟩⟩
  generalize hs1 : ({ s with heap := h₀, toks := s.toks + (ps.zip us).length } : Shared) = s1 at G1
  have hns1 : s1.heap.Ns L (fun x => (ps.zip us).reverse.lookup x) := by rw [← hs1]; exact hns
  have hnc : ∀ (k : Nat) (x : Str), C.nm[k]? ≠ some (x, NameKind.cell) := fun k x e => O.nocell _ (List.mem_of_getElem? e) rfl
  have V : EnvR B C (padL vs k) [] (callEnv fd L fi) as s1.heap := by
    refine ⟨S.kind, S.names, O.dist, ⟨_, hns1, fun k x v g1 g2 => ?_⟩, fun k x v g1 => absurd g1 (hnc k x), fun k x v g1 g2 => (by cases g2), S.glo, S.bui, fun k x g1 => absurd g1 (hnc k x), S.inj, fun a ha => ?_, fun hm => (by rw [hlm] at hm; cases hm)⟩
    · have e3 := padL_get g2
      obtain ⟨u, e4, r⟩ := rv.get e3
      have hk : k < ps.length := by rw [← hlen]; exact (List.getElem?_eq_some_iff.mp e3).1
      exact ⟨u, zip_rev_lookup O.psdist (O.back hk g1) e4, r.stp G1.stp G1.pre⟩
    · rcases List.mem_cons.mp ha with rfl | ha
      · obtain ⟨o, _, _, ho, _⟩ := hns1; exact ⟨o, ho⟩
      · obtain ⟨p, hp, rfl⟩ := List.mem_map.mp ha
        obtain ⟨o, ho⟩ := J.live p hp
        exact G1.stp.live _ _ ho
  exact wp_any (h (A.deeper _) _ s1 R.deeper rfl hnL h0L G1 V) fun fl s' p => p

noncomputable def EI (B : Base) (as : List Addr) (st : St) (s : Shared) (z : Int) : Value → Shared → Prop := fun u s' => ∃ t, u = .int z t ∧ Go B [] as as st s s'
section
variable {A : Around} {as : List Addr} {st : St} {s : Shared} {env : Env} {ρ : Sl} {n : Nat}
theorem EI.seq {s1 s2 : Shared} {z : Int} {u : Value} (G : Go B [] as as st s s1) (p : EI B as st s1 z u s2) : EI B as st s z u s2 := by
  obtain ⟨t, e, G2⟩ := p
  exact ⟨t, e, G.trans G2⟩
theorem EI.tok {z : Int} {t : Nat} {tt : Tok} (I : Inv B as st s.heap) : EI B as st s z (.int z tt) { s with toks := t } := ⟨_, rfl, .tok I⟩
theorem evLoc {k : Nat} {x : Str} {p : Pos} {z : Int} (V : EnvR B C ρ [] env as s.heap) (I : Inv B as st s.heap) (hk : C.nm[k]? = some (x, .local)) (hz : ρ[k]? = some (some (.int z))) (hd : (x == ("__debug__" : Str)) = false) : wpAny (model prog w) A (eval (.Name x p) env) (EI B as st s z) No s := by
  obtain ⟨m, hn, hv⟩ := V.ns
  obtain ⟨u, hu, r⟩ := hv k x _ hk hz
  have hl : env.kindOf x = some .local := by unfold Env.kindOf; rw [V.names]; exact lookup_of_get V.dist hk
  (first | obtain rfl := r.nil_i | obtain ⟨_, rfl⟩ := r.int_i | obtain rfl := r.none_i | obtain rfl := r.bool_i | obtain ⟨_, rfl⟩ := r.lin_i | obtain ⟨_, rfl, _⟩ := r.flt_i | obtain ⟨_, rfl⟩ := r.str_i | obtain rfl := r.fn_i | obtain rfl := r.bi_i | cases r)
  exact wpAny_Name (wpAny_loadName_local V.kind hl hn hu ⟨_, rfl, .refl [] I⟩) hd
theorem evInt {z : Int} {k : Nat} {p : Pos} (I : Inv B as st s.heap) : wpAny (model prog w) A (eval (.Constant (.int z) k p) env) (EI B as st s z) No s := wpAny_Constant_int (.tok I)
theorem evFree {x : Str} {p : Pos} {c : Addr} {v : Value} {Q : Value → Shared → Prop} (V : EnvR B C ρ [] env as s.heap) (hk : C.nm.lookup x = some .free) (hc : env.cells.lookup x = some c) (hv : s.heap.IsCell c (some v)) (hd : (x == ("__debug__" : Str)) = false) (hd' : (x == ("__classdict__" : Str)) = false) (h : Q v s) : wpAny (model prog w) A (eval (.Name x p) env) Q No s :=
  wpAny_Name (wpAny_loadName_free V.kind (by unfold Env.kindOf; rw [V.names]; exact hk) hc hv h hd') hd
theorem evFreeI {x : Str} {p : Pos} {c : Addr} {z : Int} {t : Tok} (V : EnvR B C ρ [] env as s.heap) (I : Inv B as st s.heap) (hk : C.nm.lookup x = some .free) (hc : env.cells.lookup x = some c) (hv : s.heap.IsCell c (some (.int z t))) (hd : (x == ("__debug__" : Str)) = false) (hd' : (x == ("__classdict__" : Str)) = false) : wpAny (model prog w) A (eval (.Name x p) env) (EI B as st s z) No s :=
  evFree V hk hc hv hd hd' ⟨_, rfl, .refl [] I⟩
theorem evBin {e1 e2 : Expr} {o : Operator} {p : Pos} {x y z : Int} (h1 : wpAny (model prog w) A (eval e1 env) (EI B as st s x) No s) (h2 : ∀ s', Go B [] as as st s s' → wpAny (model prog w) A (eval e2 env) (EI B as st s' y) No s')
    (ho : ∀ (s' : Shared) t u (Q : Value → Shared → Prop), Inv B as st s'.heap → Q (.int z s'.toks) { s' with toks := s'.toks + 1 } → wpAny (model prog w) A (binaryOp o (.int x t) (.int y u)) Q No s') : wpAny (model prog w) A (eval (.BinOp e1 o e2 p) env) (EI B as st s z) No s := by
  refine wpAny_BinOp (wp_to h1 ?_)
  rintro u1 s1 ⟨t1, rfl, G1⟩
  refine wp_to (h2 s1 G1) ?_
  rintro u2 s2 ⟨t2, rfl, G2⟩
  exact ho s2 t1 t2 _ G2.inv (((EI.tok G2.inv).seq G2).seq G1)
theorem asgI {e : Expr} {x : Str} {q p : Pos} {rest : List Stmt} {k : Nat} {z : Int} {Q : Flow → Shared → Prop} (V : EnvR B C ρ [] env as s.heap) (h0 : B.h₀.get? env.locals = none) (hk : C.nm[k]? = some (x, .local)) (hs : swapsWith e (some (.Name x q)) p.line env = pure false)
    (he : wpAny (model prog w) A (eval e env) (EI B as st s z) No s) (h : ∀ s', Go B [env.locals] as as st s s' → EnvR B C (ρ.set k (some (.int z))) [] env as s'.heap → wpAny (model prog w) A (execs rest env) Q No s') : wpAny (model prog w) A (execs (.Assign [.Name x q] e p :: rest) env) Q No s := by
  refine wpAny_execs_cons (wpAny_Assign_Name (wp_to he ?_) hs)
  rintro u s1 ⟨t, rfl, G1⟩
  exact store_local hk (V.stp G1.stp G1.pre) G1.inv h0 (.int _ _) fun s2 G2 V2 => h s2 (G1.of0.trans G2) V2
end
end Mine
end OfMD5
noncomputable section OfMD6
set_option autoImplicit false
set_option linter.unusedVariables false
namespace Mine
open PySem PySem.Calls PyProof.Rows PySem.SeqAt PySem.W
variable {prog : Program} {w : World} {B : Base} {C : Ctx}

noncomputable def mi (n : Nat) : MV := .int n
noncomputable def updD (β : Nat) (ds : List MV) (l m x : Nat) : List MV := ds.take l ++ (digs β x m).map mi ++ ds.drop (l + m)
theorem updD_length {β : Nat} {ds : List MV} {l m x : Nat} (h : l + m ≤ ds.length) : (updD β ds l m x).length = ds.length := by
  unfold updD
  rw [List.length_append, List.length_append, List.length_take, List.length_map, digs_length, List.length_drop]
  (first | lia | omega)
theorem updD_one {β : Nat} {ds : List MV} {l x : Nat} (h : l + 1 ≤ ds.length) (hx : x < β) : ds.set l (mi x) = updD β ds l 1 x := by
  unfold updD
  rw [digs_one hx]
  rw [List.set_eq_take_append_cons_drop, if_pos (by (first | lia | omega))]
  simp
theorem updD_two {β : Nat} (hβ : 0 < β) {ds : List MV} {l k m x : Nat} (hk : k ≤ m) (h : l + m ≤ ds.length) : updD β (updD β ds l k (x % β ^ k)) (l + k) (m - k) (x / β ^ k) = updD β ds l m x := by
  have e := digs_add hβ k (m - k) x
  rw [show k + (m - k) = m by (first | lia | omega)] at e
  unfold updD
  rw [e, List.map_append]
  have hl1 : (ds.take l ++ (digs β (x % β ^ k) k).map mi).length = l + k := by
    rw [List.length_append, List.length_take, List.length_map, digs_length]; (first | lia | omega)
  rw [List.take_left' hl1]
  rw [show l + k + (m - k) = (l + k) + (m - k) from rfl, ← List.drop_drop, List.drop_left' hl1, List.drop_drop]
  rw [show l + k + (m - k) = l + m by (first | lia | omega)]
  simp only [List.append_assoc]
theorem shr_nat (x s : Nat) : (x : Int).fdiv (2 ^ s) = ((x / 2 ^ s : Nat) : Int) := by
  have e1 : (2 : Int) ^ s = ((2 ^ s : Nat) : Int) := by push_cast; rfl
  rw [e1, Int.fdiv_eq_ediv_of_nonneg _ (Int.natCast_nonneg _)]
  exact (Int.natCast_ediv _ _).symm
theorem not_not (x : Int) : Builtin.bitNot (Builtin.bitNot x) = x := by show -(-x - 1) - 1 = x; (first | lia | omega)
theorem and_nat (x y : Nat) : Builtin.bitAnd (x : Int) (y : Int) = ((x &&& y : Nat) : Int) := by
  unfold Builtin.bitAnd
  rw [decide_eq_true (Int.natCast_nonneg x), decide_eq_true (Int.natCast_nonneg y)]
  rfl
theorem or_nat (x y : Nat) : Builtin.bitOr (x : Int) (y : Int) = ((x ||| y : Nat) : Int) := by
  unfold Builtin.bitOr Builtin.bitAnd
  have h1 : ¬ (0 ≤ Builtin.bitNot (x : Int)) := by show ¬ (0 ≤ -(x : Int) - 1); (first | lia | omega)
  have h2 : ¬ (0 ≤ Builtin.bitNot (y : Int)) := by show ¬ (0 ≤ -(y : Int) - 1); (first | lia | omega)
  rw [decide_eq_false h1, decide_eq_false h2]
  show Builtin.bitNot (Builtin.bitNot ((((Builtin.bitNot (Builtin.bitNot (x : Int))).toNat ||| (Builtin.bitNot (Builtin.bitNot (y : Int))).toNat : Nat)) : Int)) = _
  rw [not_not, not_not, not_not]; rfl
theorem xor_nat (x s : Nat) : Builtin.bitXor (x : Int) (((x / 2 ^ s : Nat) : Int) * 2 ^ s) = ((x % 2 ^ s : Nat) : Int) := by
  have e1 : ((x / 2 ^ s : Nat) : Int) * 2 ^ s = ((x / 2 ^ s * 2 ^ s : Nat) : Int) := by push_cast; rfl
  rw [e1]
  have h1 : 0 ≤ (x : Int) := Int.natCast_nonneg x
  have h2 : 0 ≤ ((x / 2 ^ s * 2 ^ s : Nat) : Int) := Int.natCast_nonneg _
  have := xor_low x s
  generalize x / 2 ^ s * 2 ^ s = y at this h2 ⊢
  unfold Builtin.bitXor
  rw [or_nat, and_nat, ← this]
  have hle : x &&& y ≤ x ||| y := Nat.le_trans Nat.and_le_left Nat.left_le_or
  (first | lia | omega)
end Mine
end OfMD6
noncomputable section OfMD7
set_option autoImplicit false
set_option linter.unusedVariables false
set_option maxHeartbeats 1000000
namespace Mine
open PySem PySem.Calls PyProof.Rows PySem.SeqAt PySem.W
variable {prog : Program} {w : World} {B : Base} {C : Ctx}

noncomputable def nmI1 : List (Str × NameKind) := [(Str.ofString "x", .local), (Str.ofString "L", .local), (Str.ofString "R", .local), (Str.ofString "mid", .local), (Str.ofString "shift", .local), (Str.ofString "upper", .local), (Str.ofString "lower", .local), (Str.ofString "a_digits", .free), (Str.ofString "inner", .free), (Str.ofString "n", .free)]
noncomputable def cxI1 : Ctx := ⟨nmI1, [], false⟩
noncomputable def bodI1 : List Stmt := bodOf (stm 10 1)
noncomputable def q1 (i : Nat) : Stmt := bodI1.getD i (.Pass ⟨0, 0, 0, 0⟩)
theorem bodI1_eq : bodI1 = [q1 0, q1 1, q1 2, q1 3, q1 4, q1 5, q1 6] := rfl
theorem oI1 : CtxOk cxI1 (psN nmI1 3) := ⟨by decide +kernel, rfl, by decide +kernel, by decide +kernel⟩
structure Cells1 (fd : FuncData) (fi cn ca ci D : Addr) (ν : Nat) (h : Heap) : Prop where
  n : ∃ t, fd.closure.lookup (Str.ofString "n") = some cn ∧ h.IsCell cn (some (.int ν t))
  a : fd.closure.lookup (Str.ofString "a_digits") = some ca ∧ h.IsCell ca (some (.ref D))
  i : fd.closure.lookup (Str.ofString "inner") = some ci ∧ h.IsCell ci (some (.ref fi))
theorem Cells1.stp {W : List Addr} {fd : FuncData} {fi cn ca ci D : Addr} {ν : Nat} {h h' : Heap} (K : Cells1 fd fi cn ca ci D ν h) (s : Stp W h h') (hn : cn ∉ W) (ha : ca ∉ W) (hi : ci ∉ W) : Cells1 fd fi cn ca ci D ν h' := by
  obtain ⟨⟨t, k1, k2⟩, ⟨k3, k4⟩, ⟨k5, k6⟩⟩ := K
  exact ⟨⟨t, k1, s.cell k2 hn⟩, ⟨k3, s.cell k4 ha⟩, ⟨k5, s.cell k6 hi⟩⟩
theorem cell_live {h : Heap} {c : Addr} {v : Option Value} (q : h.IsCell c v) {L : Addr} (hL : h.get? L = none) : c ∉ [L] := fun hm => by
  obtain ⟨o, ho, _⟩ := q
  rw [List.mem_singleton.mp hm, hL] at ho; cases ho
theorem cBop_okD {o : Op2} {a b : FE} {c : Calls} {ρ up : Sl} {st st1 st2 : St} {x y : MV} (h1 : a c ρ up st = .ok x st1) (h2 : b c ρ up st1 = .ok y st2) : cBop o a b c ρ up st = bop o x y st2 := by
  show (a c ρ up st).b RV.no (fun x st => (b c ρ up st).b RV.no fun y st => bop o x y st) = _
  rw [h1]
  show (b c ρ up st1).b RV.no (fun y st => bop o x y st) = _
  rw [h2]; rfl
theorem var_okD {k : Nat} {c : Calls} {ρ up : Sl} {st : St} {v : MV} (h : ρ[k]? = some (some v)) : cVar k c ρ up st = .ok v st := by
  show hVar k ρ st = _
  unfold hVar; rw [getN_eq, h]; rfl
theorem test_ok {i j : Nat} {c : Calls} {ρ : Sl} {st : St} {a b : Int} (hi : ρ[i]? = some (some (.int a))) (hj : ρ[j]? = some (some (.int b))) : tCmp .eq (cBop .add (cVar i) (cCst (.int 1))) (cVar j) c ρ [] st = .ok (decide (a + 1 = b)) st := by
  have e1 : cBop .add (cVar i) (cCst (.int 1)) c ρ [] st = .ok (.int (a + 1)) st := by
    refine (cBop_okD (x := .int a) (y := .int 1) (st1 := st) (st2 := st) (var_okD hi) rfl).trans ?_
    show iadd a 1 (fun z => RV.ok (.int z) st) = _
    rw [iadd_eq]
  show (cBop .add (cVar i) (cCst (.int 1)) c ρ [] st).b RB.no (fun x st => (cVar j c ρ [] st).b RB.no fun y st => ob (cmpMV .eq x y st) RB.no fun t => RB.ok t st) = _
  rw [e1]
  show (cVar j c ρ [] st).b RB.no (fun y st => ob (cmpMV .eq (.int (a + 1)) y st) RB.no fun t => RB.ok t st) = _
  rw [var_okD hj]
  show RB.ok (ieq (a + 1) b) st = _
  rw [ieq_eq]
noncomputable def In1 (prog : Program) (w : World) (B : Base) (fd : FuncData) (fi cn ca ci D : Addr) (ν kD : Nat) (d : Nat) : Prop :=
  ∀ m, 1 ≤ m → m ≤ 2 ^ d → ∀ (x l : Nat) A as st (s : Shared) ds us, Room (d + 1) A → Inv B as st s.heap → CloAt fi fd s.heap → Cells1 fd fi cn ca ci D ν s.heap → as[kD]? = some D → st[kD]? = some ds → l + m ≤ ds.length → ds.length ≤ 4096 → x < (2 ^ ν) ^ m → x < 2 ^ 60 →
    VRels B as s.heap [.int x, .int l, .int ((l + m : Nat) : Int)] us →
    wpAny (model prog w) A (call (.ref fi) us []) (fun v s' => v = .none ∧ Go B [] as as (st.set kD (updD (2 ^ ν) ds l m x)) s s') No s
theorem Go.newL {as : List Addr} {st' : St} {s s' : Shared} {L : Addr} (G : Go B [L] as as st' s s') (hL : s.heap.get? L = none) : Go B [] as as st' s s' :=
  (show Go B ([] ++ [L]) as as st' s s' from G).drop (fun a ha => by rw [List.mem_singleton.mp ha]; exact hL)
theorem inner1_body {fd : FuncData} {fi cn ca ci D : Addr} {ν kD : Nat} (S : CloS B cxI1 bodI1 fd (psN nmI1 3)) (hν : ν ≤ 64) (d : Nat) (ih : ∀ d', d = d' + 1 → In1 prog w B fd fi cn ca ci D ν kD d') : In1 prog w B fd fi cn ca ci D ν kD d := by
  intro m h1 h2 x l A as st s ds us R I J K hkD hds hlm hdl hx hx60 rv
  have hgen : ∀ A' env s1, Room d A' → env.cells = fd.closure → s.heap.get? env.locals = none → B.h₀.get? env.locals = none → Go B [] as as st s s1 → EnvR B cxI1 (padL [.int (x : Int), .int (l : Int), .int ((l + m : Nat) : Int)] 10) [] env as s1.heap →
      wpAny (model prog w) A' (execs bodI1 env) (fun fl s' => (match fl with | .ret v => v | _ => Value.none) = .none ∧ Go B [] as as (st.set kD (updD (2 ^ ν) ds l m x)) s s') No s1 := by
    intro A' env s1 R1 hcl hL h0L G1 V1
    have K1 := K.stp G1.stp (fun h => nomatch h) (fun h => nomatch h) (fun h => nomatch h)
    have J1 := J.stp G1.stp
    obtain ⟨⟨tn0, kn1, kn2⟩, ⟨ka1, ka2⟩, ⟨ki1, ki2⟩⟩ := K
    have wn := cell_live kn2 hL
    have wa := cell_live ka2 hL
    have wi := cell_live ki2 hL
    have inv1 := G1.inv
    rw [bodI1_eq]
    refine wpAny_execs_cons (wpAny_If (wp_to ((ST.cmp (o := .eq) (SE.bop (o := .add) (SE.var rfl (.inl rfl) (by decide +kernel)) SE.intc) (SE.var rfl (.inl rfl) (by decide +kernel)) rfl : ST prog w B cxI1 _ (tCmp .eq (cBop .add (cVar 1) (cCst (.int 1))) (cVar 2))) d noC noC_ok _ [] st _ st (test_ok rfl rfl) A' env as s1 R1 V1 inv1) ?_))
    rintro b s2 ⟨hb, as2, G2⟩
    have G2 := G2.fix inv1 rfl
    have V2 := V1.stp G2.stp G2.pre
    have K2 := K1.stp G2.stp (fun h => nomatch h) (fun h => nomatch h) (fun h => nomatch h)
    have J2 := J1.stp G2.stp
    have G02 := G1.trans G2
    by_cases hm : m = 1
    · subst hm
      have hb : b = true := by rw [hb]; exact decide_eq_true (by push_cast; (first | lia | omega))
      subst hb
      obtain ⟨_, ⟨ka3, ka4⟩, _⟩ := K2
      refine wpAny_execs_cons (wpAny_Assign_Subscript (wp_to (evLoc V2 G2.inv (k := 0) rfl rfl (by decide +kernel)) ?_) rfl)
      rintro u s3 ⟨tx, rfl, G3⟩
      have V3 := V2.stp G3.stp G3.pre
      refine evFree V3 (by decide +kernel) (by rw [hcl]; exact ka3) (G3.stp.cell ka4 fun h => nomatch h) (by decide +kernel) (by decide +kernel) ?_
      refine wp_to (evLoc V3 G3.inv (k := 1) rfl rfl (by decide +kernel)) ?_
      rintro u s4 ⟨tl, rfl, G4⟩
      obtain ⟨a', items, ha, ⟨ne, hg⟩, rl⟩ := G4.inv.tlist hds
      rw [hkD] at ha; cases ha
      have hlen := rl.length
      refine setItem_run (j := l) rfl hg (by rw [List.size_toArray, ← hlen]; (first | lia | omega)) (by (first | lia | omega)) ?_
      have G5 := upd_post (u := .none) (l := ds) (t := s4.toks) (f := (·.setIfInBounds l (.int (x : Int) tx))) (items' := items.set l (.int (x : Int) tx)) (l' := ds.set l (mi x)) G4.inv hkD hg (by simp) (rl.set (.int _ _))
      refine wpAny_execs_cons (wpAny_Return_none ⟨rfl, ?_⟩)
      rw [← updD_one hlm (by simpa using hx)]
      exact ((G02.trans G3).trans G4).trans G5
    · have hb : b = false := by rw [hb]; exact decide_eq_false (by push_cast; (first | lia | omega))
      subst hb
      obtain ⟨d', rfl⟩ : ∃ d', d = d' + 1 := by
        cases d with
        | zero => exfalso; simp at h2; (first | lia | omega)
        | succ d' => exact ⟨d', rfl⟩
      have ih' := ih d' rfl
      refine wpAny_execs_nil ?_
      have hk1 : 1 ≤ m / 2 := by (first | lia | omega)
      have hk2 : m / 2 ≤ m := Nat.div_le_self _ _
      have hp2 : 2 ^ (d' + 1) = 2 * 2 ^ d' := by rw [Nat.pow_succ, Nat.mul_comm]
      have hk3 : m / 2 ≤ 2 ^ d' := by (first | lia | omega)
      have hk4 : m - m / 2 ≤ 2 ^ d' := by (first | lia | omega)
      have hmid : ((l : Int) + ((l + m : Nat) : Int)).fdiv (2 ^ (1 : Int).toNat) = ((l + m / 2 : Nat) : Int) := by
        have := shr_nat (l + (l + m)) 1
        rw [show ((l + (l + m) : Nat) : Int) = (l : Int) + ((l + m : Nat) : Int) by push_cast; (first | lia | omega)] at this
        rw [show ((1 : Int).toNat) = 1 by rfl, this]
        congr 1
        (first | lia | omega)
      have hl1 : l ≤ 4096 := by (first | lia | omega)
      have hm1 : m ≤ 4096 := by (first | lia | omega)
      generalize hk : m / 2 = k at *
      have hkν : k * ν ≤ 262144 := Nat.le_trans (Nat.mul_le_mul (by (first | lia | omega) : k ≤ 4096) hν) (by decide)
      have hpow : (2 ^ ν) ^ k = 2 ^ (k * ν) := by rw [← Nat.pow_mul, Nat.mul_comm]
      refine asgI (k := 3) (z := ((l + k : Nat) : Int)) V2 h0L rfl rfl (evBin (x := (l : Int) + ((l + m : Nat) : Int)) (y := 1)
        (evBin (x := (l : Int)) (y := ((l + m : Nat) : Int)) (evLoc V2 G2.inv (k := 1) rfl rfl (by decide +kernel)) (fun s' G' => evLoc (V2.stp G'.stp G'.pre) G'.inv (k := 2) rfl rfl (by decide +kernel)) fun s' t u Q I q => PyProof.Rows.add_int q)
        (fun s' G' => evInt G'.inv) fun s' t u Q I q => PyProof.Rows.rshift_int (by decide) (by rw [hmid]; exact q)) fun s3 G3 V3 => ?_
      have K3 := K2.stp G3.stp wn wa wi
      obtain ⟨⟨tn3, kn3, kn4⟩, _, _⟩ := id K3
      refine asgI (k := 4) (z := ((k * ν : Nat) : Int)) V3 h0L rfl rfl (evBin (x := (k : Int)) (y := (ν : Int))
        (evBin (x := ((l + k : Nat) : Int)) (y := (l : Int)) (evLoc V3 G3.inv (k := 3) rfl rfl (by decide +kernel)) (fun s' G' => evLoc (V3.stp G'.stp G'.pre) G'.inv (k := 1) rfl rfl (by decide +kernel)) fun s' t u Q I q => PyProof.Rows.sub_int (by rw [show ((l + k : Nat) : Int) - (l : Int) = (k : Int) by push_cast; (first | lia | omega)]; exact q))
        (fun s' G' => evFreeI (V3.stp G'.stp G'.pre) G'.inv (by decide +kernel) (by rw [hcl]; exact kn3) (G'.stp.cell kn4 fun h => nomatch h) (by decide +kernel) (by decide +kernel))
        fun s' t u Q I q => PyProof.Rows.mul_int (by rw [show (k : Int) * (ν : Int) = ((k * ν : Nat) : Int) by push_cast; rfl]; exact q) (mulOk_right (by (first | lia | omega)))) fun s4 G4 V4 => ?_
      refine asgI (k := 5) (z := ((x / 2 ^ (k * ν) : Nat) : Int)) V4 h0L rfl rfl (evBin (x := (x : Int)) (y := ((k * ν : Nat) : Int)) (evLoc V4 G4.inv (k := 0) rfl rfl (by decide +kernel)) (fun s' G' => evLoc (V4.stp G'.stp G'.pre) G'.inv (k := 4) rfl rfl (by decide +kernel))
        fun s' t u Q I q => PyProof.Rows.rshift_int (Int.natCast_nonneg _) (by rw [Int.toNat_natCast, shr_nat]; exact q)) fun s5 G5 V5 => ?_
      have hup : x / 2 ^ (k * ν) < 2 ^ 60 := Nat.lt_of_le_of_lt (Nat.div_le_self _ _) hx60
      refine asgI (k := 6) (z := ((x % 2 ^ (k * ν) : Nat) : Int)) V5 h0L rfl rfl (evBin (x := (x : Int)) (y := ((x / 2 ^ (k * ν) : Nat) : Int) * 2 ^ (k * ν)) (evLoc V5 G5.inv (k := 0) rfl rfl (by decide +kernel))
        (fun s' G' => evBin (x := ((x / 2 ^ (k * ν) : Nat) : Int)) (y := ((k * ν : Nat) : Int)) (evLoc (V5.stp G'.stp G'.pre) G'.inv (k := 5) rfl rfl (by decide +kernel)) (fun s'' G'' => evLoc ((V5.stp G'.stp G'.pre).stp G''.stp G''.pre) G''.inv (k := 4) rfl rfl (by decide +kernel))
          fun s' t u Q I q => PyProof.Rows.lshift_int_small (Int.natCast_nonneg _) (by (first | lia | omega)) (by rw [Int.natAbs_natCast]; exact Nat.lt_trans hup (by decide)) (by rw [Int.toNat_natCast]; exact q))
        fun s' t u Q I q => PyProof.Rows.xor_int (by rw [xor_nat]; exact q)) fun s6 G6 V6 => ?_
      have K6 := ((K3.stp G4.stp wn wa wi).stp G5.stp wn wa wi).stp G6.stp wn wa wi
      have J6 := (((J2.stp G3.stp).stp G4.stp).stp G5.stp).stp G6.stp
      have G26 := ((G3.trans G4).trans G5).trans G6
      have G06 : Go B [env.locals] as as st s s6 := G02.of0.trans G26
      have hlow : x % 2 ^ (k * ν) < (2 ^ ν) ^ k := by rw [hpow]; exact Nat.mod_lt _ (Nat.two_pow_pos _)
      have hhigh : x / 2 ^ (k * ν) < (2 ^ ν) ^ (m - k) := by
        rw [← hpow]
        refine Nat.div_lt_of_lt_mul ?_
        rw [← Nat.pow_add, show k + (m - k) = m by (first | lia | omega)]; exact hx
      have inter : interactive env = false := by unfold interactive; rw [V6.kind]; rfl
      obtain ⟨_, _, ⟨ki3, ki4⟩⟩ := id K6
      refine wpAny_execs_cons (wpAny_Expr (wp_to (Q := fun v s' => v = .none ∧ Go B [] as as (st.set kD (updD (2 ^ ν) ds l k (x % 2 ^ (k * ν)))) s6 s') (call_gen (fun _ _ => rfl) rfl rfl (evFree V6 (by decide +kernel) (by rw [hcl]; exact ki3) ki4 (by decide +kernel) (by decide +kernel) (spliced_three (fun _ _ => rfl) (fun _ _ => rfl) (fun _ _ => rfl) (wp_to (evLoc V6 G6.inv (k := 6) rfl rfl (by decide +kernel)) ?_)))) ?_) inter rfl)
      · rintro u1 t1 ⟨tt1, rfl, H1⟩
        refine wp_to (evLoc (V6.stp H1.stp H1.pre) H1.inv (k := 1) rfl rfl (by decide +kernel)) ?_
        rintro u2 t2 ⟨tt2, rfl, H2⟩
        refine wp_to (evLoc ((V6.stp H1.stp H1.pre).stp H2.stp H2.pre) H2.inv (k := 3) rfl rfl (by decide +kernel)) ?_
        rintro u3 t3 ⟨tt3, rfl, H3⟩
        have H := (H1.trans H2).trans H3
        refine ⟨keeps_clo (J6.stp H.stp), wp_to (ih' k hk1 hk3 _ l A' as st t3 ds _ R1 H.inv (J6.stp H.stp) (K6.stp H.stp (fun h => nomatch h) (fun h => nomatch h) (fun h => nomatch h)) hkD hds (by (first | lia | omega)) hdl hlow (Nat.lt_of_le_of_lt (Nat.mod_le _ _) hx60) (.cons (.int _ _) (.cons (.int _ _) (.cons (.int _ _) .nil)))) ?_⟩
        rintro v t4 ⟨rfl, H4⟩
        exact ⟨rfl, H.trans H4⟩
      rintro v s7 ⟨rfl, G7⟩
      have hkD' : kD < st.length := (List.getElem?_eq_some_iff.mp hds).1
      have V7 := V6.stp G7.stp G7.pre
      have K7 := K6.stp G7.stp (fun h => nomatch h) (fun h => nomatch h) (fun h => nomatch h)
      have J7 := J6.stp G7.stp
      obtain ⟨_, _, ⟨ki5, ki6⟩⟩ := id K7
      refine wpAny_execs_cons (wpAny_Expr (wp_to (Q := fun v s' => v = .none ∧ Go B [] as as (st.set kD (updD (2 ^ ν) ds l m x)) s7 s') (call_gen (fun _ _ => rfl) rfl rfl (evFree V7 (by decide +kernel) (by rw [hcl]; exact ki5) ki6 (by decide +kernel) (by decide +kernel) (spliced_three (fun _ _ => rfl) (fun _ _ => rfl) (fun _ _ => rfl) (wp_to (evLoc V7 G7.inv (k := 5) rfl rfl (by decide +kernel)) ?_)))) ?_) inter rfl)
      · rintro u1 t1 ⟨tt1, rfl, H1⟩
        refine wp_to (evLoc (V7.stp H1.stp H1.pre) H1.inv (k := 3) rfl rfl (by decide +kernel)) ?_
        rintro u2 t2 ⟨tt2, rfl, H2⟩
        refine wp_to (evLoc ((V7.stp H1.stp H1.pre).stp H2.stp H2.pre) H2.inv (k := 2) rfl rfl (by decide +kernel)) ?_
        rintro u3 t3 ⟨tt3, rfl, H3⟩
        have H := (H1.trans H2).trans H3
        have hr : ((l + m : Nat) : Int) = (((l + k) + (m - k) : Nat) : Int) := by congr 1; (first | lia | omega)
        refine ⟨keeps_clo (J7.stp H.stp), wp_to (ih' (m - k) (by (first | lia | omega)) hk4 (x / 2 ^ (k * ν)) (l + k) A' as _ t3 (updD (2 ^ ν) ds l k (x % 2 ^ (k * ν))) _ R1 H.inv (J7.stp H.stp) (K7.stp H.stp (fun h => nomatch h) (fun h => nomatch h) (fun h => nomatch h)) hkD (by rw [List.getElem?_set, if_pos rfl, if_pos hkD']) (by rw [updD_length (by (first | lia | omega))]; (first | lia | omega)) (by rw [updD_length (by (first | lia | omega))]; exact hdl) hhigh hup (.cons (.int _ _) (.cons (.int _ _) (.cons (by rw [hr]; exact .int _ _) .nil)))) ?_⟩
        rintro v t4 ⟨rfl, H4⟩
        refine ⟨rfl, ?_⟩
        have e := updD_two (β := 2 ^ ν) (Nat.two_pow_pos ν) (ds := ds) (l := l) (k := k) (m := m) (x := x) hk2 hlm
        rw [hpow] at e
        rw [List.set_set, e] at H4
        exact H.trans H4
      rintro v s8 ⟨rfl, G8⟩
      exact wpAny_execs_nil ⟨rfl, ((G06.trans G7.of0).trans G8.of0).newL hL⟩
  exact enter_clo (k := 10) S J oI1 rfl R I rv rfl hgen
end Mine
namespace Mine
open PySem PySem.Calls PyProof.Rows PySem.SeqAt PySem.W
theorem inner1 {prog : Program} {w : World} {B : Base} {fd : FuncData} {fi cn ca ci D : Addr} {ν kD : Nat} (S : CloS B cxI1 bodI1 fd (psN nmI1 3)) (hν : ν ≤ 64) : ∀ d, In1 prog w B fd fi cn ca ci D ν kD d
  | 0 => inner1_body S hν 0 fun d' e => nomatch e
  | d + 1 => inner1_body S hν (d + 1) fun d' e => by cases e; exact inner1 S hν d
end Mine
end OfMD7
noncomputable section OfMD8
set_option autoImplicit false
set_option linter.unusedVariables false
set_option maxHeartbeats 1000000
namespace Mine
open PySem PySem.Calls PyProof.Rows PySem.SeqAt PySem.W
variable {prog : Program} {w : World} {B : Base} {C : Ctx}

noncomputable def nmI2 : List (Str × NameKind) := [(Str.ofString "L", .local), (Str.ofString "R", .local), (Str.ofString "mid", .local), (Str.ofString "shift", .local), (Str.ofString "digits", .free), (Str.ofString "inner", .free), (Str.ofString "n", .free)]
noncomputable def cxI2 : Ctx := ⟨nmI2, [], false⟩
noncomputable def bodI2 : List Stmt := bodOf (stm 11 0)
noncomputable def q2 (i : Nat) : Stmt := bodI2.getD i (.Pass ⟨0, 0, 0, 0⟩)
theorem bodI2_eq : bodI2 = [q2 0, q2 1, q2 2, q2 3] := rfl
theorem oI2 : CtxOk cxI2 (psN nmI2 2) := ⟨by decide +kernel, rfl, by decide +kernel, by decide +kernel⟩
structure Cells2 (fd : FuncData) (fi cn ca ci D : Addr) (ν : Nat) (h : Heap) : Prop where
  n : ∃ t, fd.closure.lookup (Str.ofString "n") = some cn ∧ h.IsCell cn (some (.int ν t))
  a : fd.closure.lookup (Str.ofString "digits") = some ca ∧ h.IsCell ca (some (.ref D))
  i : fd.closure.lookup (Str.ofString "inner") = some ci ∧ h.IsCell ci (some (.ref fi))
theorem Cells2.stp {W : List Addr} {fd : FuncData} {fi cn ca ci D : Addr} {ν : Nat} {h h' : Heap} (K : Cells2 fd fi cn ca ci D ν h) (s : Stp W h h') (hn : cn ∉ W) (ha : ca ∉ W) (hi : ci ∉ W) : Cells2 fd fi cn ca ci D ν h' := by
  obtain ⟨⟨t, k1, k2⟩, ⟨k3, k4⟩, ⟨k5, k6⟩⟩ := K
  exact ⟨⟨t, k1, s.cell k2 hn⟩, ⟨k3, s.cell k4 ha⟩, ⟨k5, s.cell k6 hi⟩⟩
noncomputable def sl (qs : List Nat) (l m : Nat) : List Nat := (qs.drop l).take m
theorem sl_two {qs : List Nat} {l k m : Nat} (hk : k ≤ m) : sl qs l m = sl qs l k ++ sl qs (l + k) (m - k) := by
  unfold sl
  rw [← List.drop_drop]
  have := List.take_add (l := qs.drop l) (i := k) (j := m - k)
  rw [show k + (m - k) = m by (first | lia | omega)] at this
  exact this
theorem sl_length {qs : List Nat} {l m : Nat} (h : l + m ≤ qs.length) : (sl qs l m).length = m := by
  unfold sl; rw [List.length_take, List.length_drop]; (first | lia | omega)
noncomputable def In2 (prog : Program) (w : World) (B : Base) (fd : FuncData) (fi cn ca ci D : Addr) (ν kD : Nat) (qs : List Nat) (d : Nat) : Prop :=
  ∀ m, 1 ≤ m → m ≤ 2 ^ d → ∀ (l : Nat) A as st (s : Shared) us, Room (d + 1) A → Inv B as st s.heap → CloAt fi fd s.heap → Cells2 fd fi cn ca ci D ν s.heap → as[kD]? = some D → st[kD]? = some (qs.map mi) → l + m ≤ qs.length → qs.length ≤ 4096 → valD (2 ^ ν) (sl qs l m) < 2 ^ 60 →
    VRels B as s.heap [.int l, .int ((l + m : Nat) : Int)] us →
    wpAny (model prog w) A (call (.ref fi) us []) (EI B as st s (valD (2 ^ ν) (sl qs l m) : Nat)) No s
theorem inner2_body {fd : FuncData} {fi cn ca ci D : Addr} {ν kD : Nat} {qs : List Nat} (S : CloS B cxI2 bodI2 fd (psN nmI2 2)) (hν : ν ≤ 64) (d : Nat) (ih : ∀ d', d = d' + 1 → In2 prog w B fd fi cn ca ci D ν kD qs d') : In2 prog w B fd fi cn ca ci D ν kD qs d := by
  intro m h1 h2 l A as st s us R I J K hkD hds hlm hdl hx60 rv
  have hgen : ∀ A' env s1, Room d A' → env.cells = fd.closure → s.heap.get? env.locals = none → B.h₀.get? env.locals = none → Go B [] as as st s s1 → EnvR B cxI2 (padL [.int (l : Int), .int ((l + m : Nat) : Int)] 7) [] env as s1.heap →
      wpAny (model prog w) A' (execs bodI2 env) (fun fl s' => EI B as st s (valD (2 ^ ν) (sl qs l m) : Nat) (match fl with | .ret v => v | _ => Value.none) s') No s1 := by
    intro A' env s1 R1 hcl hL h0L G1 V1
    have K1 := K.stp G1.stp (fun h => nomatch h) (fun h => nomatch h) (fun h => nomatch h)
    have J1 := J.stp G1.stp
    obtain ⟨⟨tn0, kn1, kn2⟩, ⟨ka1, ka2⟩, ⟨ki1, ki2⟩⟩ := K
    have wn := cell_live kn2 hL
    have wa := cell_live ka2 hL
    have wi := cell_live ki2 hL
    have inv1 := G1.inv
    rw [bodI2_eq]
    refine wpAny_execs_cons (wpAny_If (wp_to ((ST.cmp (o := .eq) (SE.bop (o := .add) (SE.var rfl (.inl rfl) (by decide +kernel)) SE.intc) (SE.var rfl (.inl rfl) (by decide +kernel)) rfl : ST prog w B cxI2 _ (tCmp .eq (cBop .add (cVar 0) (cCst (.int 1))) (cVar 1))) d noC noC_ok _ [] st _ st (test_ok rfl rfl) A' env as s1 R1 V1 inv1) ?_))
    rintro b s2 ⟨hb, as2, G2⟩
    have G2 := G2.fix inv1 rfl
    have V2 := V1.stp G2.stp G2.pre
    have K2 := K1.stp G2.stp (fun h => nomatch h) (fun h => nomatch h) (fun h => nomatch h)
    have J2 := J1.stp G2.stp
    have G02 := G1.trans G2
    by_cases hm : m = 1
    · subst hm
      have hb : b = true := by rw [hb]; exact decide_eq_true (by push_cast; (first | lia | omega))
      subst hb
      obtain ⟨_, ⟨ka3, ka4⟩, _⟩ := K2
      have hl : l < qs.length := by (first | lia | omega)
      have hval : valD (2 ^ ν) (sl qs l 1) = qs[l] := by
        unfold sl
        rw [List.drop_eq_getElem_cons hl]
        show qs[l] + 2 ^ ν * valD (2 ^ ν) [] = qs[l]
        show qs[l] + 2 ^ ν * 0 = qs[l]
        rw [Nat.mul_zero, Nat.add_zero]
      rw [hval]
      have hitem : item (.lst kD) (Int.ofNat l) st = some (mi qs[l]) := by
        show ob (getN st kD) none (fun l' => itemI l' (Int.ofNat l)) = _
        rw [getN_eq, hds]
        show getN (qs.map mi) l = _
        rw [getN_eq, List.getElem?_map, List.getElem?_eq_getElem hl]; rfl
      refine wpAny_execs_cons (wpAny_Return_some (Subscript_ (evFree V2 (by decide +kernel) (by rw [hcl]; exact ka3) ka4 (by decide +kernel) (by decide +kernel) ?_)))
      refine wp_to (evLoc V2 G2.inv (k := 0) rfl rfl (by decide +kernel)) ?_
      rintro u s3 ⟨tl, rfl, G3⟩
      refine wp_to (item_sound (i := Int.ofNat l) hitem (by show l ≤ 4096; (first | lia | omega)) (.lst hkD) G3.inv fun _ _ => rfl) ?_
      refine Pst.all fun u s4 as4 G4 r4 => ?_
      have G4 := G4.fix G3.inv rfl
      (first | obtain rfl := r4.nil_i | obtain ⟨_, rfl⟩ := r4.int_i | obtain rfl := r4.none_i | obtain rfl := r4.bool_i | obtain ⟨_, rfl⟩ := r4.lin_i | obtain ⟨_, rfl, _⟩ := r4.flt_i | obtain ⟨_, rfl⟩ := r4.str_i | obtain rfl := r4.fn_i | obtain rfl := r4.bi_i | cases r4)
      exact ⟨_, rfl, (G02.trans G3).trans G4⟩
    · have hb : b = false := by rw [hb]; exact decide_eq_false (by push_cast; (first | lia | omega))
      subst hb
      obtain ⟨d', rfl⟩ : ∃ d', d = d' + 1 := by
        cases d with
        | zero => exfalso; simp at h2; (first | lia | omega)
        | succ d' => exact ⟨d', rfl⟩
      have ih' := ih d' rfl
      refine wpAny_execs_nil ?_
      have hk1 : 1 ≤ m / 2 := by (first | lia | omega)
      have hk2 : m / 2 ≤ m := Nat.div_le_self _ _
      have hp2 : 2 ^ (d' + 1) = 2 * 2 ^ d' := by rw [Nat.pow_succ, Nat.mul_comm]
      have hk3 : m / 2 ≤ 2 ^ d' := by (first | lia | omega)
      have hk4 : m - m / 2 ≤ 2 ^ d' := by (first | lia | omega)
      have hmid : ((l : Int) + ((l + m : Nat) : Int)).fdiv (2 ^ (1 : Int).toNat) = ((l + m / 2 : Nat) : Int) := by
        have := shr_nat (l + (l + m)) 1
        rw [show ((l + (l + m) : Nat) : Int) = (l : Int) + ((l + m : Nat) : Int) by push_cast; (first | lia | omega)] at this
        rw [show ((1 : Int).toNat) = 1 by rfl, this]
        congr 1
        (first | lia | omega)
      have hl1 : l ≤ 4096 := by (first | lia | omega)
      have hm1 : m ≤ 4096 := by (first | lia | omega)
      generalize hk : m / 2 = k at *
      have hkν : k * ν ≤ 262144 := Nat.le_trans (Nat.mul_le_mul (by (first | lia | omega) : k ≤ 4096) hν) (by decide)
      have hpow : (2 ^ ν) ^ k = 2 ^ (k * ν) := by rw [← Nat.pow_mul, Nat.mul_comm]
      have hsum : valD (2 ^ ν) (sl qs l m) = valD (2 ^ ν) (sl qs (l + k) (m - k)) * 2 ^ (k * ν) + valD (2 ^ ν) (sl qs l k) := by
        rw [sl_two hk2, valD_append, sl_length (by (first | lia | omega)), hpow, Nat.mul_comm, Nat.add_comm]
      have hlo : valD (2 ^ ν) (sl qs l k) < 2 ^ 60 := by rw [hsum] at hx60; (first | lia | omega)
      have hhi : valD (2 ^ ν) (sl qs (l + k) (m - k)) < 2 ^ 60 := by
        have : valD (2 ^ ν) (sl qs (l + k) (m - k)) * 1 ≤ valD (2 ^ ν) (sl qs (l + k) (m - k)) * 2 ^ (k * ν) := Nat.mul_le_mul_left _ (Nat.two_pow_pos _)
        rw [hsum] at hx60; (first | lia | omega)
      refine asgI (k := 2) (z := ((l + k : Nat) : Int)) V2 h0L rfl rfl (evBin (x := (l : Int) + ((l + m : Nat) : Int)) (y := 1)
        (evBin (x := (l : Int)) (y := ((l + m : Nat) : Int)) (evLoc V2 G2.inv (k := 0) rfl rfl (by decide +kernel)) (fun s' G' => evLoc (V2.stp G'.stp G'.pre) G'.inv (k := 1) rfl rfl (by decide +kernel)) fun s' t u Q I q => PyProof.Rows.add_int q)
        (fun s' G' => evInt G'.inv) fun s' t u Q I q => PyProof.Rows.rshift_int (by decide) (by rw [hmid]; exact q)) fun s3 G3 V3 => ?_
      have K3 := K2.stp G3.stp wn wa wi
      obtain ⟨⟨tn3, kn3, kn4⟩, _, _⟩ := id K3
      refine asgI (k := 3) (z := ((k * ν : Nat) : Int)) V3 h0L rfl rfl (evBin (x := (k : Int)) (y := (ν : Int))
        (evBin (x := ((l + k : Nat) : Int)) (y := (l : Int)) (evLoc V3 G3.inv (k := 2) rfl rfl (by decide +kernel)) (fun s' G' => evLoc (V3.stp G'.stp G'.pre) G'.inv (k := 0) rfl rfl (by decide +kernel)) fun s' t u Q I q => PyProof.Rows.sub_int (by rw [show ((l + k : Nat) : Int) - (l : Int) = (k : Int) by push_cast; (first | lia | omega)]; exact q))
        (fun s' G' => evFreeI (V3.stp G'.stp G'.pre) G'.inv (by decide +kernel) (by rw [hcl]; exact kn3) (G'.stp.cell kn4 fun h => nomatch h) (by decide +kernel) (by decide +kernel))
        fun s' t u Q I q => PyProof.Rows.mul_int (by rw [show (k : Int) * (ν : Int) = ((k * ν : Nat) : Int) by push_cast; rfl]; exact q) (mulOk_right (by (first | lia | omega)))) fun s4 G4 V4 => ?_
      have K4 := K3.stp G4.stp wn wa wi
      have J4 := (J2.stp G3.stp).stp G4.stp
      have G04 : Go B [env.locals] as as st s s4 := (G02.of0.trans G3).trans G4
      obtain ⟨_, _, ⟨ki3, ki4⟩⟩ := id K4
      refine wpAny_execs_cons (wpAny_Return_some (wp_to (Q := EI B as st s4 (valD (2 ^ ν) (sl qs l m) : Nat)) (evBin (x := ((valD (2 ^ ν) (sl qs (l + k) (m - k)) : Nat) : Int) * 2 ^ (k * ν)) (y := ((valD (2 ^ ν) (sl qs l k) : Nat) : Int))
        (evBin (x := ((valD (2 ^ ν) (sl qs (l + k) (m - k)) : Nat) : Int)) (y := ((k * ν : Nat) : Int))
          (call_gen (fun _ _ => rfl) rfl rfl (evFree V4 (by decide +kernel) (by rw [hcl]; exact ki3) ki4 (by decide +kernel) (by decide +kernel) (spliced_two (fun _ _ => rfl) (fun _ _ => rfl) (wp_to (evLoc V4 G4.inv (k := 2) rfl rfl (by decide +kernel)) ?_))))
          (fun s' G' => evLoc (V4.stp G'.stp G'.pre) G'.inv (k := 3) rfl rfl (by decide +kernel))
          fun s' t u Q I q => PyProof.Rows.lshift_int_small (Int.natCast_nonneg _) (by (first | lia | omega)) (by rw [Int.natAbs_natCast]; exact Nat.lt_trans hhi (by decide)) (by rw [Int.toNat_natCast]; exact q))
        (fun s' G' => call_gen (fun _ _ => rfl) rfl rfl (evFree (V4.stp G'.stp G'.pre) (by decide +kernel) (by rw [hcl]; exact ki3) (G'.stp.cell ki4 fun h => nomatch h) (by decide +kernel) (by decide +kernel) (spliced_two (fun _ _ => rfl) (fun _ _ => rfl) (wp_to (evLoc (V4.stp G'.stp G'.pre) G'.inv (k := 0) rfl rfl (by decide +kernel)) ?_))))
        fun s' t u Q I q => PyProof.Rows.add_int (by
          have e : ((valD (2 ^ ν) (sl qs (l + k) (m - k)) : Nat) : Int) * 2 ^ (k * ν) + ((valD (2 ^ ν) (sl qs l k) : Nat) : Int) = ((valD (2 ^ ν) (sl qs l m) : Nat) : Int) := by rw [hsum]; push_cast; rfl
          rw [e]; exact q)) ?_))
      · rintro u1 t1 ⟨tt1, rfl, H1⟩
        refine wp_to (evLoc (V4.stp H1.stp H1.pre) H1.inv (k := 1) rfl rfl (by decide +kernel)) ?_
        rintro u2 t2 ⟨tt2, rfl, H2⟩
        have H := H1.trans H2
        have hr : ((l + m : Nat) : Int) = (((l + k) + (m - k) : Nat) : Int) := by congr 1; (first | lia | omega)
        refine ⟨keeps_clo (J4.stp H.stp), wp_to (ih' (m - k) (by (first | lia | omega)) hk4 (l + k) A' as st t2 _ R1 H.inv (J4.stp H.stp) (K4.stp H.stp (fun h => nomatch h) (fun h => nomatch h) (fun h => nomatch h)) hkD hds (by (first | lia | omega)) hdl hhi (.cons (.int _ _) (.cons (by rw [hr]; exact .int _ _) .nil))) ?_⟩
        exact fun _ _ p => p.seq H
      · rintro u1 t1 ⟨tt1, rfl, H1⟩
        have G'' := G'
        refine wp_to (evLoc ((V4.stp G'.stp G'.pre).stp H1.stp H1.pre) H1.inv (k := 2) rfl rfl (by decide +kernel)) ?_
        rintro u2 t2 ⟨tt2, rfl, H2⟩
        have H := H1.trans H2
        refine ⟨keeps_clo ((J4.stp G'.stp).stp H.stp), wp_to (ih' k hk1 hk3 l A' as st t2 _ R1 H.inv ((J4.stp G'.stp).stp H.stp) ((K4.stp G'.stp (fun h => nomatch h) (fun h => nomatch h) (fun h => nomatch h)).stp H.stp (fun h => nomatch h) (fun h => nomatch h) (fun h => nomatch h)) hkD hds (by (first | lia | omega)) hdl hlo (.cons (.int _ _) (.cons (.int _ _) .nil))) ?_⟩
        exact fun _ _ p => p.seq H
      rintro u s5 ⟨t5, rfl, G5⟩
      exact ⟨t5, rfl, (G04.trans G5.of0).newL hL⟩
  exact enter_clo (k := 7) S J oI2 rfl R I rv rfl hgen
theorem inner2 {fd : FuncData} {fi cn ca ci D : Addr} {ν kD : Nat} {qs : List Nat} (S : CloS B cxI2 bodI2 fd (psN nmI2 2)) (hν : ν ≤ 64) : ∀ d, In2 prog w B fd fi cn ca ci D ν kD qs d
  | 0 => inner2_body S hν 0 fun d' e => nomatch e
  | d + 1 => inner2_body S hν (d + 1) fun d' e => by cases e; exact inner2 S hν d
end Mine
end OfMD8
noncomputable section OfMD9
set_option autoImplicit false
set_option linter.unusedVariables false
namespace Mine
open PySem PySem.Calls PyProof.Rows PySem.SeqAt PySem.W
variable {prog : Program} {w : World} {B : Base} {C : Ctx}

theorem enterC2 {m n k : Nat} {A : Around} {as : List Addr} {st : St} {s : Shared} {fdL : FuncData} {body : List Stmt} {x0 x1 : Str} {k0 k1 : NameKind} {v0 v1 : MV} {u0 u1 : Value} {Q : Value → Shared → Prop} (H : FnH B m C body fdL) (hdist : (C.nm.map (·.1)).Nodup) (hlm : C.lm = false)
    (h0 : C.nm[0]? = some (x0, k0)) (h1 : C.nm[1]? = some (x1, k1)) (hk0 : k0 = .local ∨ k0 = .cell) (hk1 : k1 = .local ∨ k1 = .cell) (hne : x0 ≠ x1) (hb : ∀ a b, bindArgs fdL ⟨[a, b], []⟩ = pure [(x0, a), (x1, b)]) (R : Room (n + 1) A) (I : Inv B as st s.heap) (rv0 : VRel B as s.heap v0 u0) (rv1 : VRel B as s.heap v1 u1)
    (h : ∀ A' env s1, Room n A' → env.code = fdL.code → env.qual = fdL.qualname ++ ".<locals>." → (∀ a ∈ Ws env, s.heap.get? a = none) → Fresh B env → Go B [] as as st s s1 → EnvR B C (some v0 :: some v1 :: nones k) [] env as s1.heap →
      wpAny (model prog w) A' (execs body env) (fun fl s' => Q (match fl with | .ret v => v | _ => .none) s') No s1) : wpAny (model prog w) A (call (.ref (B.fa m)) [u0, u1] []) Q No s := by
  obtain ⟨o, e1, e2, e3⟩ := H.obj
  have hd := R.dep
  have l0 : fdL.scope.names.lookup x0 = some k0 := by rw [H.names]; exact lookup_of_get hdist h0
  have l1 : fdL.scope.names.lookup x1 = some k1 := by rw [H.names]; exact lookup_of_get hdist h1
  have hsome : ∀ {y : Str}, fdL.scope.names.lookup y = some .cell → ((cellsFrom (s.heap.objs.size + 1) fdL.scope.names []).lookup y).isSome = true := fun hy => by
    obtain ⟨a, ha⟩ := cellsFrom_has (n := s.heap.objs.size + 1) (acc := []) (.inl (lookup_some_mem hy))
    obtain ⟨b, hb'⟩ := lookup_isSome ha
    rw [hb']; rfl
  refine wpAny_call (codeAny_call_cells (by (first | lia | omega)) (I.get0 e1 (by rw [e3]; exact fun e => nomatch e)) e2 I.lim (H.code.imm (imm0 I)).rec H.body (hb _ _) H.clo (fun x hx => ?_) (fun s₁ x => ?_) H.co H.gen H.kind)
  · rcases List.mem_cons.mp hx with rfl | hx
    · rcases hk0 with rfl | rfl
      · exact .inl l0
      · exact .inr ⟨l0, hsome l0⟩
    · rw [List.mem_singleton.mp hx]
      rcases hk1 with rfl | rfl
      · exact .inl l1
      · exact .inr ⟨l1, hsome l1⟩
  obtain ⟨h₁, tk, hs1⟩ := x.toInCall.same
  have hkeep := x.toInCall.keep
  have hfresh := x.toInCall.fresh
  have I1 : Inv B as st s₁.heap := I.keeps hkeep
  have S1 : Stp [] s.heap s₁.heap := .all hkeep
  have G1 : Go B [] as as st s s₁ := ⟨List.prefix_refl _, fun _ h => .inl h, S1, I1, by rw [hs1]; exact ⟨rfl, rfl⟩⟩
  have hW : ∀ a ∈ Ws (callEnvC fdL s.heap.objs.size (B.fa m)), s.heap.objs.size ≤ a := fun a ha => by
    rcases List.mem_cons.mp ha with rfl | ha
    · exact hfresh
    · obtain ⟨p, hp, rfl⟩ := List.mem_map.mp ha
      exact Nat.le_of_lt (Nat.lt_of_le_of_lt hfresh (x.above p.1 p.2 hp))
  have hcellN : ∀ y, (y, NameKind.cell) ∈ C.nm → ∃ c, (callEnvC fdL s.heap.objs.size (B.fa m)).cells.lookup y = some c := fun y hy => by
    obtain ⟨a, ha⟩ := cellsFrom_has (x := y) (names := fdL.scope.names) (n := s.heap.objs.size + 1) (acc := []) (.inl (by rw [H.names]; exact hy))
    exact lookup_isSome ha
  have ko0 : (callEnvC fdL s.heap.objs.size (B.fa m)).kindOf x0 = some k0 := l0
  have ko1 : (callEnvC fdL s.heap.objs.size (B.fa m)).kindOf x1 = some k1 := l1
  have V : EnvR B C (some v0 :: some v1 :: nones k) [] (callEnvC fdL s.heap.objs.size (B.fa m)) as s₁.heap := by
    refine ⟨H.kind, H.names, hdist, ⟨_, x.toInCall.ns, fun k' y v g1 g2 => ?_⟩, fun k' y v g1 g2 => ?_, fun k y v g1 g2 => (by cases g2), H.glo, H.bui, fun k y g => ?_, fun y z c g1 g2 => name_of_addr x.apart (lookup_some_mem g1) (lookup_some_mem g2), fun a ha => ?_, fun e => (by rw [hlm] at e; cases e)⟩
    · match k', g1, g2 with
      | 0, g1, g2 =>
        rw [h0] at g1; cases g1; cases g2
        refine ⟨u0, ?_, rv0.stp S1 (List.prefix_refl _)⟩
        unfold bindL bindL bindL
        rw [ko0, ko1]
        rcases hk1 with rfl | rfl <;> simp [hne]
      | 1, g1, g2 =>
        rw [h1] at g1; cases g1; cases g2
        refine ⟨u1, ?_, rv1.stp S1 (List.prefix_refl _)⟩
        unfold bindL bindL bindL
        rw [ko1]
        simp
      | k' + 2, _, g2 => exact absurd (show (nones k)[k']? = some (some v) from g2) (nones_get _ _)
    · match k', g1, g2 with
      | 0, g1, g2 =>
        rw [h0] at g1; cases g1; cases g2
        obtain ⟨c, hc⟩ := hcellN x0 (List.mem_of_getElem? h0)
        have := x.cell _ _ hc
        refine ⟨c, u0, hc, ?_, rv0.stp S1 (List.prefix_refl _)⟩
        have e : bindC (callEnvC fdL s.heap.objs.size (B.fa m)).kindOf [(x0, u0), (x1, u1)] (fun _ => none) x0 = some u0 := by
          unfold bindC bindC bindC
          rw [ko0, ko1]
          rcases hk1 with rfl | rfl <;> simp [hne]
        rw [e] at this; exact this
      | 1, g1, g2 =>
        rw [h1] at g1; cases g1; cases g2
        obtain ⟨c, hc⟩ := hcellN x1 (List.mem_of_getElem? h1)
        have := x.cell _ _ hc
        refine ⟨c, u1, hc, ?_, rv1.stp S1 (List.prefix_refl _)⟩
        have e : bindC (callEnvC fdL s.heap.objs.size (B.fa m)).kindOf [(x0, u0), (x1, u1)] (fun _ => none) x1 = some u1 := by
          unfold bindC bindC bindC
          rw [ko1]
          simp
        rw [e] at this; exact this
      | k' + 2, _, g2 => exact absurd (show (nones k)[k']? = some (some v) from g2) (nones_get _ _)
    · obtain ⟨c, hc⟩ := hcellN y (List.mem_of_getElem? g)
      exact ⟨c, _, hc, x.cell _ _ hc⟩
    · rcases List.mem_cons.mp ha with rfl | ha
      · obtain ⟨o, _, _, ho, _⟩ := x.toInCall.ns; exact ⟨o, ho⟩
      · obtain ⟨p, hp, rfl⟩ := List.mem_map.mp ha
        exact cells_live x hp (by
          show ((cellsFrom (s.heap.objs.size + 1) fdL.scope.names []).map (·.1)).Nodup
          rw [cellsFrom_names, H.names, List.map_nil, List.append_nil]
          exact List.pairwise_reverse.mpr ((hdist.sublist (List.filter_sublist.map _)).imp fun h => h.symm))
  exact wp_any (h (A.deeper _) _ s₁ R.deeper rfl rfl (fun a ha => noneFrom (hW a ha)) (fun a ha => I.new0 (noneFrom (hW a ha))) G1 V) fun fl s' p => p

theorem defC {t : Nat} {A : Around} {as : List Addr} {st : St} {s : Shared} {env : Env} {ρ : Sl} {name : Str} {params : Arguments} {body : List Stmt} {scope : Scope} {pos : Pos} {k : Nat} {Q : Flow → Shared → Prop} (V : EnvR B C ρ [] env as s.heap) (F : Fresh B env) (I : Inv B as st s.heap)
    (hk : C.nm[k]? = some (name, .cell)) (hcode : env.code = .ref (B.tc t)) (hq : qualnameIn env name name = B.lq t) (hd0 : params.defaults = []) (hk0 : params.kw_defaults = []) (ha : annTrees params none env = []) (hdoc : docOf body = none)
    (hfree : ∀ p ∈ scope.names, p.2 = .free → C.nm.lookup p.1 = some .cell) (hne : ∃ p ∈ scope.names, p.2 = .free)
    (h : ∀ s' fi ct pm c' cl, Go B (Ws env) as as st s s' → EnvR B C (ρ.set k (some .any)) [] env as s'.heap → (∀ p ∈ cl, env.cells.lookup p.1 = some p.2) → (∀ y c, (y, NameKind.free) ∈ scope.names → env.cells.lookup y = some c → cl.lookup y = some c) →
      CloAt fi (fnX name (B.lq t) params body scope cl .none .none .none pm none c' ct) s'.heap → (∃ c, env.cells.lookup name = some c ∧ s'.heap.IsCell c (some (.ref fi))) → Q .next s') :
    wpAny (model prog w) A (exec (.FunctionDef name params body [] none [] scope none name pos) env) Q No s := by
  refine nestDef_K hd0 hk0 ha ?_
  have hfr : ∀ p ∈ scope.names, p.2 = .free → ∃ a, env.cells.lookup p.1 = some a := fun p hp hf => by
    obtain ⟨k2, hk2⟩ := get_of_lookup (hfree p hp hf)
    obtain ⟨c, _, e, _⟩ := V.celx k2 p.1 hk2
    exact ⟨c, e⟩
  have hclo := closure_run hfr
  have cg : ∀ p ∈ clFold (cellF env) scope.names [], env.cells.lookup p.1 = some p.2 := fun p hp => by
    rcases clFold_mem hp with h2 | ⟨h2, h3⟩
    · cases h2
    · obtain ⟨a, ha⟩ := hfr _ h3 rfl
      have e : cellF env p.1 = a := by unfold cellF; rw [ha]; rfl
      rw [h2, e]; exact ha
  have ch : ∀ y c, (y, NameKind.free) ∈ scope.names → env.cells.lookup y = some c → (clFold (cellF env) scope.names []).lookup y = some c := fun y c hy e => by
    obtain ⟨a, ha⟩ := clFold_has (c := cellF env) (cs := []) (.inl hy)
    obtain ⟨b, hb⟩ := lookup_isSome ha
    rw [hb]
    have := cg _ (lookup_some_mem hb)
    rw [e] at this; cases this; rfl
  have hnem : (clFold (cellF env) scope.names []).isEmpty = false := by
    obtain ⟨p, hp, hf⟩ := hne
    obtain ⟨a, ha⟩ := clFold_has (c := cellF env) (cs := []) (x := p.1) (.inl (by rw [← hf]; exact hp))
    cases hc : clFold (cellF env) scope.names [] with
    | nil => rw [hc] at ha; cases ha
    | cons _ _ => rfl
  rw [hq, makeFunction_eq]
  simp only [List.zip_nil_right, List.filterMap_nil, List.isEmpty_nil, if_true, pure_bind]
  unfold makeTail
  have hclo : closureFor scope env = pure (clFold (cellF env) scope.names []) := hclo
  rw [hclo]
  refine wpAny_bind (wpAny_pure ?_)
  rw [hnem]
  simp only [Bool.false_eq_true, if_false]
  refine wpAny_bind (wpAny_newTextTuple ?_)
  generalize hoT : ({ cls := .type "tuple", data := .seq ((List.mergeSort (clFold (cellF env) scope.names []) fun a b => decide (a.1.cps.toList ≤ b.1.cps.toList)).map (Value.ref ·.2)).toArray } : Obj) = oT
  have I1 : Inv B as st (s.heap.push oT) := I.push oT
  refine wpAny_bind (functionCode_run (s := { s with heap := s.heap.push oT }) I1 hcode fun c' h' tk hx X' hcodeAt => ?_)
  have I2 : Inv B as st h' := I1.ext hx X'
  have hgl : ({ s with heap := h', toks := tk } : Shared).heap.Ns env.globals B.mg := by rw [V.glo]; exact I2.globals
  obtain ⟨bm, o, e1, e2, e3, e4, e5, e6, e7⟩ := B.bat
  refine wpAny_bind (wpAny_builtinsFor hgl e1 e2 (I2.old _ _ e3 e4) e5 e6 e7 ?_)
  refine wpAny_bind (wpAny_nsGet hgl ?_)
  rw [hdoc]
  refine wpAny_bind (wpAny_pure (wpAny_newObj_type ?_))
  have S1 : Stp [] s.heap h' := (Stp.push _ _ _).trans0 (tab_stp (I1.tab t) hx X')
  generalize hof : ({ cls := .type "function", data := .func { name := name, qualname := B.lq t, params := params, body := .stmts body, scope := scope, globals := env.globals, closure := clFold (cellF env) scope.names [], defaults := .none, kwdefaults := .none, doc := .none, pyModule := (B.mg "__name__").getD .none, annotations := none, code := c', closureTuple := .ref s.heap.objs.size, builtins := builtinsNs } } : Obj) = oF
  have G2 : Go B [] as as st s { s with heap := h'.push oF, toks := tk } := ⟨List.prefix_refl _, fun _ h => .inl h, S1.trans0 (.push _ _ _), I2.push _, ⟨rfl, rfl⟩⟩
  have hfi : (h'.push oF).get? h'.objs.size = some oF := Heap.get?_push_size _ (by rw [← hof]; rfl)
  have hcd2 : CodeAt (h'.push oF) c' (B.lq t) := hcodeAt.stp (W := []) (.push _ _ _)
  generalize hs2 : ({ s with heap := h'.push oF, toks := tk } : Shared) = s2 at G2
  have V2 := V.stp G2.stp G2.pre
  have J2 : CloAt h'.objs.size (fnX name (B.lq t) params body scope (clFold (cellF env) scope.names []) .none .none .none ((B.mg "__name__").getD .none) none c' (.ref s.heap.objs.size)) s2.heap := by
    rw [← hs2]
    refine ⟨⟨oF, hfi, by rw [← hof, V.glo], by rw [← hof]⟩, hcd2, fun p hp => ?_⟩
    have := V2.wlive p.2 (List.mem_cons_of_mem _ (lookup_mem (cg p hp)))
    rw [← hs2] at this; exact this
  -- the store
  have hl : env.kindOf name = some .cell := by unfold Env.kindOf; rw [V.names]; exact lookup_of_get V.dist hk
  obtain ⟨c, v₀, hc, hcell⟩ := V2.celx k name hk
  refine wpAny_storeName_cell V.kind hl hc hcell fun h3 hc3 hs3 => ?_
  obtain ⟨o, ho, hi, hm⟩ := cell_obj hcell
  have hl' : ∃ o', h3.get? c = some o' := by obtain ⟨o', e, _⟩ := cell_obj hc3; exact ⟨o', e⟩
  have G3 : Go B (Ws env) as as st s2 { s2 with heap := h3 } := ⟨List.prefix_refl _, fun _ h => .inl h, .same hs3 ho hi (.inl (List.mem_cons_of_mem _ (lookup_mem hc))) hl', G2.inv.same hs3 ho hi hm (F.cel hc) hl', ⟨rfl, rfl⟩⟩
  exact h _ _ _ _ _ _ (G2.of0.trans G3) (V2.setCell hk hc hcell hc3 hs3 (.any _) rfl) cg ch (J2.stp G3.stp) ⟨c, hc, hc3⟩
end Mine
end OfMD9
noncomputable section OfMD10
set_option autoImplicit false
set_option linter.unusedVariables false
set_option maxHeartbeats 1000000
namespace Mine
open PySem PySem.Calls PyProof.Rows PySem.SeqAt PySem.W
variable {prog : Program} {w : World} {B : Base} {C : Ctx}

noncomputable def nm102 : List (Str × NameKind) := [(Str.ofString "a", .local), (Str.ofString "n", .cell), (Str.ofString "a_digits", .cell), (Str.ofString "inner", .cell), (Str.ofString "len", .globalImplicit)]
noncomputable def cx102 : Ctx := ⟨nm102, [], false⟩
noncomputable def r1 (i : Nat) : Stmt := (bod 10).getD i (.Pass ⟨0, 0, 0, 0⟩)
theorem bod10_eq : bod 10 = [r1 0, r1 1, r1 2, r1 3] := rfl
noncomputable def parOf : Stmt → Arguments
  | .FunctionDef _ p _ _ _ _ _ _ _ _ => p
  | _ => ⟨[], [], none, [], [], none, []⟩
noncomputable def scoOf : Stmt → Scope
  | .FunctionDef _ _ _ _ _ _ s _ _ _ => s
  | _ => { kind := .function, names := [], isGenerator := false, isCoroutine := false, more := [] }
noncomputable def dN (a ν : Nat) : Nat := (Builtin.Int.intBits (a : Int) + ν - 1) / ν
noncomputable def zerosC : FE := cBop .mul (cLst (lCons (cCst (.int 0)) lNil)) (cBop .fdiv (cBop .sub (cBop .add (cBit (cVar 0)) (cVar 1)) (cCst (.int 1))) (cVar 1))
theorem zeros_ok {c : Calls} {ρ : Sl} {st : St} {a ν : Nat} (h0 : ρ[0]? = some (some (.int (a : Int)))) (h1 : ρ[1]? = some (some (.int (ν : Int)))) (hν : 1 ≤ ν) (hν2 : ν ≤ 64) (hd : dN a ν ≤ 64) : zerosC c ρ [] st = .ok (.lst (st.length + 1)) (st ++ [[.int 0]] ++ [(List.replicate (dN a ν) 0).map mi]) := by
  have e0 : cLst (lCons (cCst (.int 0)) lNil) c ρ [] st = .ok (.lst st.length) (st ++ [[.int 0]]) := by
    show newL [.int 0] st = _
    unfold newL; rw [lenK_eq, appK_eq]
  have e1 : cBit (cVar 0) c ρ [] (st ++ [[.int 0]]) = .ok (.int (Builtin.Int.intBits (a : Int))) (st ++ [[.int 0]]) := by
    show (cVar 0 c ρ [] (st ++ [[.int 0]])).b RV.no _ = _
    rw [var_okD h0]; rfl
  have e2 : cBop .add (cBit (cVar 0)) (cVar 1) c ρ [] (st ++ [[.int 0]]) = .ok (.int ((Builtin.Int.intBits (a : Int) : Int) + (ν : Int))) (st ++ [[.int 0]]) := by
    refine (cBop_okD e1 (var_okD h1)).trans ?_
    show iadd ((Builtin.Int.intBits (a : Int) : Nat) : Int) (ν : Int) (fun z => RV.ok (.int z) (st ++ [[.int 0]])) = _
    rw [iadd_eq]
  have e3 : cBop .sub (cBop .add (cBit (cVar 0)) (cVar 1)) (cCst (.int 1)) c ρ [] (st ++ [[.int 0]]) = .ok (.int ((Builtin.Int.intBits (a : Int) : Int) + (ν : Int) - 1)) (st ++ [[.int 0]]) := by
    refine (cBop_okD (y := .int 1) (st2 := st ++ [[.int 0]]) e2 rfl).trans ?_
    show isub (((Builtin.Int.intBits (a : Int) : Nat) : Int) + (ν : Int)) 1 (fun z => RV.ok (.int z) (st ++ [[.int 0]])) = _
    rw [isub_eq]
  have hdi : ((Builtin.Int.intBits (a : Int) : Int) + (ν : Int) - 1).fdiv (ν : Int) = Int.ofNat (dN a ν) := by
    have e : (Builtin.Int.intBits (a : Int) : Int) + (ν : Int) - 1 = ((Builtin.Int.intBits (a : Int) + ν - 1 : Nat) : Int) := by (first | lia | omega)
    rw [e, Int.fdiv_eq_ediv_of_nonneg _ (Int.natCast_nonneg _)]
    exact (Int.natCast_ediv _ _).symm
  have e4 : cBop .fdiv (cBop .sub (cBop .add (cBit (cVar 0)) (cVar 1)) (cCst (.int 1))) (cVar 1) c ρ [] (st ++ [[.int 0]]) = .ok (.int (Int.ofNat (dN a ν))) (st ++ [[.int 0]]) := by
    refine (cBop_okD e3 (var_okD h1)).trans ?_
    show bsel (ieq (ν : Int) 0) RV.no (bsel (iabs (ν : Int) 1000000) (ifdiv (((Builtin.Int.intBits (a : Int) : Nat) : Int) + (ν : Int) - 1) (ν : Int) fun z => RV.ok (.int z) (st ++ [[.int 0]])) RV.no) = _
    rw [ieq_eq, decide_eq_false (by (first | lia | omega)), (iabs_iff _ _).mpr (by (first | lia | omega)), ifdiv_eq, hdi]; rfl
  refine (cBop_okD e0 e4).trans ?_
  show bsel (Nat.ble (dN a ν) 64) (ob (getN (st ++ [[.int 0]]) st.length) .no fun xs => lenK xs fun m => bsel (Nat.ble m 4096) (repK xs (dN a ν) fun z => newL z (st ++ [[.int 0]])) .no) .no = _
  rw [ble_iff.mpr hd, getN_eq, List.getElem?_append_right (Nat.le_refl _), Nat.sub_self]
  show lenK [MV.int 0] (fun m => bsel (Nat.ble m 4096) (repK [MV.int 0] (dN a ν) fun z => newL z (st ++ [[.int 0]])) .no) = _
  rw [lenK_eq]
  show repK [MV.int 0] (dN a ν) (fun z => newL z (st ++ [[.int 0]])) = _
  rw [repK_eq]
  have : (List.replicate (dN a ν) [MV.int 0]).flatten = (List.replicate (dN a ν) 0).map mi := by
    rw [List.map_replicate]
    generalize dN a ν = d
    induction d with
    | zero => rfl
    | succ d ih => rw [List.replicate_succ, List.replicate_succ, List.flatten_cons, ih]; rfl
  rw [this]
  unfold newL
  rw [lenK_eq, appK_eq, List.length_append]; rfl
theorem bits_pow {a ν : Nat} (hν : 1 ≤ ν) : a < (2 ^ ν) ^ dN a ν := by
  unfold dN Builtin.Int.intBits
  by_cases h : a = 0
  · subst h; exact Nat.pow_pos (Nat.two_pow_pos _)
  · have h0 : ((a : Int) == 0) = false := by simp; exact h
    rw [h0]
    simp only [Bool.false_eq_true, if_false, Int.natAbs_natCast]
    rw [← Nat.pow_mul]
    refine Nat.lt_of_lt_of_le (Nat.lt_log2_self (n := a)) (Nat.pow_le_pow_right (by decide) ?_)
    have := Nat.div_add_mod (a.log2 + 1 + ν - 1) ν
    have h2 := Nat.mod_lt (a.log2 + 1 + ν - 1) (show 0 < ν by (first | lia | omega))
    generalize ν * ((a.log2 + 1 + ν - 1) / ν) = z at this ⊢
    (first | lia | omega)
theorem digs_zero {β : Nat} : ∀ m, digs β 0 m = List.replicate m 0
  | 0 => rfl
  | m + 1 => by
    show 0 % β :: digs β (0 / β) m = _
    rw [Nat.zero_mod, Nat.zero_div, digs_zero m]; rfl

theorem len_ok {c : Calls} {ρ : Sl} {st : St} {k j : Nat} {l : List MV} (h : ρ[k]? = some (some (.lst j))) (hl : st[j]? = some l) (hn : l.length ≤ 1000000) : cCall (cCst (.bi .len)) (lCons (cVar k) lNil) c ρ [] st = .ok (.int (l.length : Int)) st := by
  show ((cVar k c ρ [] st).b RL.no fun v st => (lNil c ρ [] st).b RL.no fun vs st => .ok (v :: vs) st : RL).b RV.no (fun vs st => callV c (.bi .len) vs st) = _
  rw [var_okD h]
  show b_len (.lst j) st = _
  show ob (getN st j) RV.no (fun l => lenK l fun n => bsel (Nat.ble n 1000000) (RV.ok (.int (.ofNat n)) st) RV.no) = _
  rw [getN_eq, hl]
  show lenK l (fun n => bsel (Nat.ble n 1000000) (RV.ok (.int (.ofNat n)) st) RV.no) = _
  rw [lenK_eq, ble_iff.mpr hn]; rfl
theorem go_grow {as as' : List Addr} {st' : St} {s s' : Shared} {W : List Addr} (G : Go B W as as' st' s s') (hW : ∀ a ∈ W, s.heap.get? a = none) : Go B [] as as' st' s s' := (show Go B ([] ++ W) as as' st' s s' from G).drop hW
theorem f102 {fdL : FuncData} {A : Around} {as : List Addr} {st : St} {s : Shared} {a ν : Nat} {ta tn : Tok} (N : NamesD B) (H : FnH B 102 cx102 (bod 10) fdL) (hb : ∀ a b, bindArgs fdL ⟨[a, b], []⟩ = pure [(Str.ofString "a", a), (Str.ofString "n", b)]) (hcode : fdL.code = .ref (B.tc 1)) (hlq : fdL.qualname ++ ".<locals>." ++ "inner" = B.lq 1)
    (hν : 1 ≤ ν) (hν2 : ν ≤ 64) (ha : a < 2 ^ 40) (hd : dN a ν ≤ 32) (R : Room 8 A) (I : Inv B as st s.heap) :
    wpAny (model prog w) A (call (.ref (B.fa 102)) [.int (a : Int) ta, .int (ν : Int) tn] []) (Pst B as (st ++ [[.int 0]] ++ [(digs (2 ^ ν) a (dN a ν)).map mi]) (.lst (st.length + 1)) s) No s := by
  refine enterC2 (n := 7) (k := 3) H (by decide +kernel) rfl (x0 := Str.ofString "a") (x1 := Str.ofString "n") (k0 := .local) (k1 := .cell) (v0 := .int (a : Int)) (v1 := .int (ν : Int)) rfl rfl (.inl rfl) (.inr rfl) (by decide +kernel) hb R I (.int _ _) (.int _ _) fun A' env s1 R1 hcd hqu hW F G1 V1 => ?_
  rw [bod10_eq]
  have hz : zerosC noC (some (.int (a : Int)) :: some (.int (ν : Int)) :: nones 3) [] st = _ := zeros_ok rfl rfl hν hν2 (by (first | lia | omega))
  have hSX : SX prog w B cx102 (r1 0) (sAsg [2] zerosC) := SX.asg1 (SE.bop (o := .mul) (SE.lst (SL.cons SE.intc SL.nil (fun _ _ => rfl)) (by decide)) (SE.bop (o := .fdiv) (SE.bop (o := .sub) (SE.bop (o := .add) (SE.bit (SE.var rfl (.inl rfl) (by decide +kernel)) (fun _ => rfl) rfl) (SE.var rfl (.inr rfl) (by decide +kernel))) SE.intc) (SE.var rfl (.inr rfl) (by decide +kernel)))) rfl (.inr rfl) (fun _ _ _ => rfl)
  have hrun : sAsg [2] zerosC noC (some (.int (a : Int)) :: some (.int (ν : Int)) :: nones 3) st = .nx [some (.int (a : Int)), some (.int (ν : Int)), some (.lst (st.length + 1)), none, none] (st ++ [[.int 0]] ++ [(List.replicate (dN a ν) 0).map mi]) := by
    show (zerosC noC _ [] st).b RX.no (fun v st => setAllK _ v [2] fun ρ => RX.nx ρ st) = _
    rw [hz]; rfl
  refine wpAny_execs_cons (wp_to (hSX 7 noC noC_ok _ st (by rw [hrun]; exact fun h => nomatch h) A' env as s1 R1 V1 F G1.inv) fun fl s2 p => ?_)
  rw [hrun] at p
  obtain ⟨rfl, as2, G2, V2⟩ := p
  have G02 := G1.of0.trans G2
  generalize hzs : (List.replicate (dN a ν) 0).map mi = zs at G2 V2 G02
  have hzl : zs.length = dN a ν := by rw [← hzs]; simp
  have hst2 : (st ++ [[MV.int 0]] ++ [zs])[st.length + 1]? = some zs := by
    rw [List.getElem?_append_right (by simp)]; simp
  -- the inner function made
  refine wpAny_execs_cons (defC (t := 1) (k := 3) V2 F G2.inv rfl (by rw [hcd, hcode]) ?_ rfl rfl rfl rfl (by decide +kernel) ⟨(Str.ofString "a_digits", .free), by decide +kernel, rfl⟩ fun s3 fi ct pm c' cl G3 V3 cg ch J3 hci => ?_)
  · show (if env.kindOf (Str.ofString "inner") == some .globalExplicit then _ else env.qual ++ "inner") = B.lq 1
    have : env.kindOf (Str.ofString "inner") = some .cell := by unfold Env.kindOf; rw [V2.names]; decide +kernel
    rw [this, if_neg (by decide), hqu]; exact hlq
  obtain ⟨ci, ci1, ci2⟩ := hci
  have G03 := G02.trans G3
  obtain ⟨cn, un, cn1, cn2, rn⟩ := V3.cel 1 (Str.ofString "n") (.int (ν : Int)) rfl rfl
  obtain ⟨ca, ua, ca1, ca2, ra⟩ := V3.cel 2 (Str.ofString "a_digits") (.lst (st.length + 1)) rfl rfl
  obtain ⟨tn', rfl⟩ := rn.int_i
  obtain ⟨D, rfl, hD⟩ := ra.lst_i
  have hfree : ∀ y, (y, NameKind.free) ∈ nmI1 → ∀ c, env.cells.lookup y = some c → cl.lookup y = some c := fun y hy c e => ch y c hy e
  have S : CloS B cxI1 bodI1 (fnX (Str.ofString "inner") (B.lq 1) (parOf (stm 10 1)) bodI1 (scoOf (stm 10 1)) cl .none .none .none pm none c' ct) (psN nmI1 3) :=
    ⟨rfl, rfl, rfl, rfl, rfl, rfl, rfl, bind3 rfl (fun _ _ _ => rfl), fun x y c e1 e2 => V3.cinj x y c (cg _ (lookup_some_mem e1)) (cg _ (lookup_some_mem e2)), fun p hp => F.cel (cg p hp)⟩
  have K3 : Cells1 (fnX (Str.ofString "inner") (B.lq 1) (parOf (stm 10 1)) bodI1 (scoOf (stm 10 1)) cl .none .none .none pm none c' ct) fi cn ca ci D ν s3.heap :=
    ⟨⟨tn', hfree _ (by decide +kernel) _ cn1, cn2⟩, ⟨hfree _ (by decide +kernel) _ ca1, ca2⟩, ⟨hfree _ (by decide +kernel) _ ci1, ci2⟩⟩
  have hP := bits_pow (a := a) hν
  have hDat : as2[st.length + 1]? = some D := hD
  have hzs3 := hst2
  have E : ∀ (s5 : Shared) (ds : List MV), Go B (Ws env) as as2 (st ++ [[.int 0]] ++ [ds]) s s5 → EnvR B cx102 [some (.int (a : Int)), some (.int (ν : Int)), some (.lst (st.length + 1)), some .any, none] [] env as2 s5.heap → ds = (digs (2 ^ ν) a (dN a ν)).map mi →
      wpAny (model prog w) A' (execs [r1 3] env) (fun fl s' => Pst B as (st ++ [[.int 0]] ++ [(digs (2 ^ ν) a (dN a ν)).map mi]) (.lst (st.length + 1)) s (match fl with | .ret v => v | _ => Value.none) s') No s5 := by
    intro s5 ds G5 V5 hds
    subst hds
    refine wpAny_execs_cons (wpAny_Return_some (wp_to ((SE.var (x := Str.ofString "a_digits") (k := 2) rfl (.inr rfl) (by decide +kernel) : SE prog w B cx102 _ (cVar 2)) 7 noC noC_ok _ [] _ _ _ (var_okD rfl) A' env as2 s5 R1 V5 G5.inv) ?_))
    refine Pst.all fun u s6 as6 G6 r6 => ?_
    exact ⟨as6, go_grow (G5.trans G6.of0) hW, r6⟩
  refine wpAny_execs_cons (wpAny_If (wp_to ((ST.val (SE.var (k := 0) rfl (.inl rfl) (by decide +kernel)) (fun _ => rfl) : ST prog w B cx102 _ (tVal (cVar 0))) 7 noC noC_ok _ [] _ (!(decide ((a : Int) = 0))) (st ++ [[MV.int 0]] ++ [zs]) ?_ A' env as2 s3 R1 V3 G3.inv) ?_))
  · show (cVar 0 noC _ [] _).b RB.no (fun v st => ob (truth v) RB.no fun b => RB.ok b st) = _
    rw [var_okD (v := .int (a : Int)) rfl]
    show RB.ok (!(ieq (a : Int) 0)) _ = _
    rw [ieq_eq]
  rintro b s4 ⟨hb4, as4, G4⟩
  have G4 := G4.fix G3.inv rfl
  have V4 := V3.stp G4.stp G4.pre
  have G04 := G03.trans G4.of0
  by_cases ha0 : a = 0
  · have hb4 : b = false := by rw [hb4, ha0]; rfl
    subst hb4
    refine wpAny_execs_nil ?_
    refine E s4 zs G04 V4 ?_
    rw [← hzs, ha0, digs_zero]
  · have hb4 : b = true := by rw [hb4, decide_eq_false (by (first | lia | omega))]; rfl
    subst hb4
    have J4 := J3.stp G4.stp
    have K4 := K3.stp G4.stp (fun h => nomatch h) (fun h => nomatch h) (fun h => nomatch h)
    have hd1 : 1 ≤ dN a ν := by
      rcases Nat.eq_zero_or_pos (dN a ν) with h | h
      · rw [h] at hP; simp at hP; exact absurd hP ha0
      · exact h
    have inter : interactive env = false := by unfold interactive; rw [V4.kind]; rfl
    refine wpAny_execs_cons (wpAny_Expr (wp_to (Q := fun v s' => v = .none ∧ Go B [] as2 as2 ((st ++ [[MV.int 0]] ++ [zs]).set (st.length + 1) (updD (2 ^ ν) zs 0 (dN a ν) a)) s4 s') (call_gen (fun _ _ => rfl) rfl rfl (wpAny_Name (wpAny_loadName_cell V4.kind (by unfold Env.kindOf; rw [V4.names]; decide +kernel) ci1 (G4.stp.cell ci2 fun h => nomatch h)
      (spliced_three (fun _ _ => rfl) (fun _ _ => rfl) (fun _ _ => rfl) (wp_to (evLoc V4 G4.inv (k := 0) rfl rfl (by decide +kernel)) ?_))) (by decide +kernel))) ?_) inter rfl)
    · rintro u1 t1 ⟨tt1, rfl, H1⟩
      refine wp_to (evInt H1.inv) ?_
      rintro u2 t2 ⟨tt2, rfl, H2⟩
      have H12 := H1.trans H2
      refine wp_to ((SE.callP (SE.built (by decide +kernel) N.n_len N.b_len (fun _ _ => .bi .len) (by decide +kernel)) (SL.cons (SE.var (x := Str.ofString "a_digits") (k := 2) rfl (.inr rfl) (by decide +kernel)) SL.nil (fun _ _ => rfl)) (fun _ _ => rfl) (fun _ => rfl) (fun _ => rfl) : SE prog w B cx102 _ (cCall (cCst (.bi .len)) (lCons (cVar 2) lNil))) 7 noC noC_ok _ [] _ _ _ (len_ok rfl hst2 (by rw [hzl]; (first | lia | omega))) A' env as2 t2 R1 (V4.stp H12.stp H12.pre) H12.inv) ?_
      rintro u3 t3 ⟨as5, H3, r3⟩
      have H3 := H3.fix H12.inv rfl
      (first | obtain rfl := r3.nil_i | obtain ⟨_, rfl⟩ := r3.int_i | obtain rfl := r3.none_i | obtain rfl := r3.bool_i | obtain ⟨_, rfl⟩ := r3.lin_i | obtain ⟨_, rfl, _⟩ := r3.flt_i | obtain ⟨_, rfl⟩ := r3.str_i | obtain rfl := r3.fn_i | obtain rfl := r3.bi_i | cases r3)
      have H := H12.trans H3
      refine ⟨keeps_clo (J4.stp H.stp), wp_to (inner1 (kD := st.length + 1) (D := D) S hν2 5 (dN a ν) hd1 (by (first | lia | omega)) a 0 A' as2 _ t3 zs _ (R1.le (by decide)) H.inv (J4.stp H.stp) (K4.stp H.stp (fun h => nomatch h) (fun h => nomatch h) (fun h => nomatch h)) hDat hst2 (by rw [hzl]; (first | lia | omega)) (by rw [hzl]; (first | lia | omega)) hP (Nat.lt_trans ha (by decide)) (.cons (.int _ _) (.cons (.int _ _) (.cons (by rw [hzl, Nat.zero_add]; exact .int _ _) .nil)))) ?_⟩
      rintro v t4 ⟨rfl, H4⟩
      exact ⟨rfl, H.trans H4⟩
    rintro v s5 ⟨rfl, G5⟩
    refine wpAny_execs_nil ?_
    have hset : (st ++ [[MV.int 0]] ++ [zs]).set (st.length + 1) (updD (2 ^ ν) zs 0 (dN a ν) a) = st ++ [[.int 0]] ++ [updD (2 ^ ν) zs 0 (dN a ν) a] := by
      rw [List.set_append_right _ _ (by simp)]; simp
    rw [hset] at G5
    refine E s5 _ (G04.trans G5.of0) (V4.stp G5.stp G5.pre) ?_
    unfold updD
    rw [List.take_zero, Nat.zero_add, ← hzl, List.drop_length, List.append_nil, List.nil_append, hzl]
end Mine
end OfMD10
noncomputable section OfMD11
set_option autoImplicit false
set_option linter.unusedVariables false
set_option maxHeartbeats 1000000
namespace Mine
open PySem PySem.Calls PyProof.Rows PySem.SeqAt PySem.W
variable {prog : Program} {w : World} {B : Base} {C : Ctx}

noncomputable def nm103 : List (Str × NameKind) := [(Str.ofString "digits", .cell), (Str.ofString "n", .cell), (Str.ofString "inner", .cell), (Str.ofString "len", .globalImplicit)]
noncomputable def cx103 : Ctx := ⟨nm103, [], false⟩
noncomputable def g1 (i : Nat) : Stmt := (bod 11).getD i (.Pass ⟨0, 0, 0, 0⟩)
theorem bod11_eq : bod 11 = [g1 0, g1 1] := rfl
theorem sl_all (qs : List Nat) : sl qs 0 qs.length = qs := by unfold sl; rw [List.drop_zero, List.take_length]
theorem f103 {fdL : FuncData} {A : Around} {as : List Addr} {st : St} {s : Shared} {qs : List Nat} {ν kD : Nat} {D : Addr} {tn : Tok} (N : NamesD B) (H : FnH B 103 cx103 (bod 11) fdL) (hb : ∀ a b, bindArgs fdL ⟨[a, b], []⟩ = pure [(Str.ofString "digits", a), (Str.ofString "n", b)]) (hcode : fdL.code = .ref (B.tc 2)) (hlq : fdL.qualname ++ ".<locals>." ++ "inner" = B.lq 2)
    (hν2 : ν ≤ 64) (hkD : as[kD]? = some D) (hds : st[kD]? = some (qs.map mi)) (hd : qs.length ≤ 32) (hv : valD (2 ^ ν) qs < 2 ^ 60) (R : Room 8 A) (I : Inv B as st s.heap) :
    wpAny (model prog w) A (call (.ref (B.fa 103)) [.ref D, .int (ν : Int) tn] []) (EI B as st s (valD (2 ^ ν) qs : Nat)) No s := by
  refine enterC2 (n := 7) (k := 2) H (by decide +kernel) rfl (x0 := Str.ofString "digits") (x1 := Str.ofString "n") (k0 := .cell) (k1 := .cell) (v0 := .lst kD) (v1 := .int (ν : Int)) rfl rfl (.inr rfl) (.inr rfl) (by decide +kernel) hb R I (.lst hkD) (.int _ _) fun A' env s1 R1 hcd hqu hW F G1 V1 => ?_
  rw [bod11_eq]
  -- the inner function made
  refine wpAny_execs_cons (defC (t := 2) (k := 2) V1 F G1.inv rfl (by rw [hcd, hcode]) ?_ rfl rfl rfl rfl (by decide +kernel) ⟨(Str.ofString "digits", .free), by decide +kernel, rfl⟩ fun s3 fi ct pm c' cl G3 V3 cg ch J3 hci => ?_)
  · show (if env.kindOf (Str.ofString "inner") == some .globalExplicit then _ else env.qual ++ "inner") = B.lq 2
    have : env.kindOf (Str.ofString "inner") = some .cell := by unfold Env.kindOf; rw [V1.names]; decide +kernel
    rw [this, if_neg (by decide), hqu]; exact hlq
  obtain ⟨ci, ci1, ci2⟩ := hci
  have G03 := G1.of0.trans G3
  obtain ⟨cn, un, cn1, cn2, rn⟩ := V3.cel 1 (Str.ofString "n") (.int (ν : Int)) rfl rfl
  obtain ⟨ca, ua, ca1, ca2, ra⟩ := V3.cel 0 (Str.ofString "digits") (.lst kD) rfl rfl
  obtain ⟨tn', rfl⟩ := rn.int_i
  obtain ⟨D', rfl, hD⟩ := ra.lst_i
  rw [hkD] at hD; cases hD
  have hfree : ∀ y, (y, NameKind.free) ∈ nmI2 → ∀ c, env.cells.lookup y = some c → cl.lookup y = some c := fun y hy c e => ch y c hy e
  have S : CloS B cxI2 bodI2 (fnX (Str.ofString "inner") (B.lq 2) (parOf (stm 11 0)) bodI2 (scoOf (stm 11 0)) cl .none .none .none pm none c' ct) (psN nmI2 2) :=
    ⟨rfl, rfl, rfl, rfl, rfl, rfl, rfl, bind2 rfl (fun _ _ => rfl), fun x y c e1 e2 => V3.cinj x y c (cg _ (lookup_some_mem e1)) (cg _ (lookup_some_mem e2)), fun p hp => F.cel (cg p hp)⟩
  have K3 : Cells2 (fnX (Str.ofString "inner") (B.lq 2) (parOf (stm 11 0)) bodI2 (scoOf (stm 11 0)) cl .none .none .none pm none c' ct) fi cn ca ci D ν s3.heap :=
    ⟨⟨tn', hfree _ (by decide +kernel) _ cn1, cn2⟩, ⟨hfree _ (by decide +kernel) _ ca1, ca2⟩, ⟨hfree _ (by decide +kernel) _ ci1, ci2⟩⟩
  refine wpAny_execs_cons (wpAny_Return_some (wpAny_IfExp (wpAny_isTrue_value (wp_to ((SE.var (x := Str.ofString "digits") (k := 0) rfl (.inr rfl) (by decide +kernel) : SE prog w B cx103 _ (cVar 0)) 7 noC noC_ok _ [] _ _ _ (var_okD (v := .lst kD) rfl) A' env as s3 R1 V3 G3.inv) ?_) rfl)))
  refine Pst.all fun u s4 as4 G4 r4 => ?_
  have e4 := pre_eq G4.pre G3.inv G4.inv rfl
  subst e4
  obtain ⟨D', rfl, hD⟩ := r4.lst_i
  rw [hkD] at hD; cases hD
  obtain ⟨a3, items, ha3, hPL3, rl3⟩ := G4.inv.plist hds
  rw [hkD] at ha3; cases ha3
  have hlen : items.length = qs.length := by rw [← rl3.length, List.length_map]
  refine wpAny_truthy_list hPL3.isList (by rw [List.size_toArray, hlen]; (first | lia | omega)) ?_
  have G5 : Go B [] as4 as4 st s4 { s4 with toks := s4.toks + 1 + 1 } := .tok G4.inv
  generalize ({ s4 with toks := s4.toks + 1 + 1 } : Shared) = s5 at G5 ⊢
  have G35 := G4.trans G5
  have V5 := V3.stp G35.stp G35.pre
  have G05 := G03.trans G35.of0
  have J5 := J3.stp G35.stp
  have K5 := K3.stp G35.stp (fun h => nomatch h) (fun h => nomatch h) (fun h => nomatch h)
  by_cases h0 : qs = []
  · have hi : items = [] := List.eq_nil_of_length_eq_zero (by rw [hlen, h0]; rfl)
    subst hi h0
    show wpAny _ _ (eval _ env) _ _ _
    refine wp_to (evInt G5.inv) ?_
    rintro u s6 ⟨t6, rfl, G6⟩
    exact ⟨t6, rfl, go_grow (G05.trans G6.of0) hW⟩
  · have hi : (!(items.toArray).isEmpty) = true := by
      cases items with
      | nil => exact absurd (List.eq_nil_of_length_eq_zero hlen.symm) h0
      | cons _ _ => rfl
    rw [hi]
    have hd1 : 1 ≤ qs.length := by
      cases qs with
      | nil => exact absurd rfl h0
      | cons _ _ => exact Nat.le_add_left 1 _
    show wpAny _ _ (eval _ env) _ _ _
    refine wp_to (Q := EI B as4 st s5 (valD (2 ^ ν) qs : Nat)) (call_gen (fun _ _ => rfl) rfl rfl (wpAny_Name (wpAny_loadName_cell V5.kind (by unfold Env.kindOf; rw [V5.names]; decide +kernel) ci1 (G35.stp.cell ci2 fun h => nomatch h)
      (spliced_two (fun _ _ => rfl) (fun _ _ => rfl) (wp_to (evInt G5.inv) ?_))) (by decide +kernel))) ?_
    · rintro u2 t2 ⟨tt2, rfl, H2⟩
      refine wp_to ((SE.callP (SE.built (by decide +kernel) N.n_len N.b_len (fun _ _ => .bi .len) (by decide +kernel)) (SL.cons (SE.var (x := Str.ofString "digits") (k := 0) rfl (.inr rfl) (by decide +kernel)) SL.nil (fun _ _ => rfl)) (fun _ _ => rfl) (fun _ => rfl) (fun _ => rfl) : SE prog w B cx103 _ (cCall (cCst (.bi .len)) (lCons (cVar 0) lNil))) 7 noC noC_ok _ [] _ _ _ (len_ok rfl hds (by rw [List.length_map]; (first | lia | omega))) A' env as4 t2 R1 (V5.stp H2.stp H2.pre) H2.inv) ?_
      rintro u3 t3 ⟨as5, H3, r3⟩
      have H3 := H3.fix H2.inv rfl
      (first | obtain rfl := r3.nil_i | obtain ⟨_, rfl⟩ := r3.int_i | obtain rfl := r3.none_i | obtain rfl := r3.bool_i | obtain ⟨_, rfl⟩ := r3.lin_i | obtain ⟨_, rfl, _⟩ := r3.flt_i | obtain ⟨_, rfl⟩ := r3.str_i | obtain rfl := r3.fn_i | obtain rfl := r3.bi_i | cases r3)
      have H := H2.trans H3
      have hin := fun (tt3 : Tok) => inner2 (kD := kD) (D := D) (qs := qs) (prog := prog) (w := w) (B := B) (fi := fi) (cn := cn) (ca := ca) (ci := ci) S hν2 5 qs.length hd1 (by (first | lia | omega)) 0 A' as4 st t3 [.int 0 tt2, .int ((qs.map mi).length : Int) tt3] (R1.le (by decide)) H.inv (J5.stp H.stp) (K5.stp H.stp (fun h => nomatch h) (fun h => nomatch h) (fun h => nomatch h)) hkD hds (by (first | lia | omega)) (by (first | lia | omega)) (by rw [sl_all]; exact hv) (.cons (.int _ _) (.cons (by rw [List.length_map, Nat.zero_add]; exact .int _ _) .nil))
      rw [sl_all] at hin
      exact ⟨keeps_clo (J5.stp H.stp), wp_to (hin _) fun _ _ p => p.seq H⟩
    · rintro u s6 ⟨t6, rfl, G6⟩
      exact ⟨t6, rfl, go_grow (G05.trans G6.of0) hW⟩
end Mine
end OfMD11
noncomputable section OfMD12
set_option autoImplicit false
set_option linter.unusedVariables false
set_option maxHeartbeats 1000000
namespace Mine
open PySem PySem.Calls PyProof.Rows PySem.SeqAt PySem.W

section
variable {c : Calls} {ρ ρ' up : Sl} {st st' st'' : St} {v v' : MV}
theorem xC_nx {s r : FX} (h : s c ρ st = .nx ρ' st') : xCons s r c ρ st = r c ρ' st' := by
  show (s c ρ st).b .no (r c) .rt = _
  rw [h]; rfl
theorem xC_rt {s r : FX} (h : s c ρ st = .rt v st') : xCons s r c ρ st = .rt v st' := by
  show (s c ρ st).b .no (r c) .rt = _
  rw [h]; rfl
theorem sIf_t {t : FT} {b e : FX} (h : t c ρ [] st = .ok true st') : sIf t b e c ρ st = b c ρ st' := by
  show (t c ρ [] st).b .no (fun q st => bsel q (b c ρ st) (e c ρ st)) = _
  rw [h]; rfl
theorem sIf_f {t : FT} {b e : FX} (h : t c ρ [] st = .ok false st') : sIf t b e c ρ st = e c ρ st' := by
  show (t c ρ [] st).b .no (fun q st => bsel q (b c ρ st) (e c ρ st)) = _
  rw [h]; rfl
theorem sRet_ok {e : FE} (h : e c ρ [] st = .ok v st') : sRet e c ρ st = .rt v st' := by
  show (e c ρ [] st).b RX.no RX.rt = _
  rw [h]; rfl
theorem sAsg_ok {e : FE} {k : Nat} (h : e c ρ [] st = .ok v st') : sAsg [k] e c ρ st = .nx (ρ.set k (some v)) st' := by
  show (e c ρ [] st).b RX.no (fun v st => setAllK ρ v [k] fun ρ => RX.nx ρ st) = _
  rw [h]
  show setK ρ k (some v) (fun ρ => RX.nx ρ st') = _
  rw [setK_eq]
theorem sAsgT_ok {e : FE} {k j : Nat} (h : e c ρ [] st = .ok (.tup [v, v']) st') : sAsgT [k, j] e c ρ st = .nx ((ρ.set k (some v)).set j (some v')) st' := by
  show (e c ρ [] st).b RX.no (fun v st => unpV v st RX.no fun l => setManyK ρ [k, j] l RX.no fun ρ => RX.nx ρ st) = _
  rw [h]
  show setK ρ k (some v) (fun ρ => setK ρ j (some v') fun ρ => RX.nx ρ st') = _
  rw [setK_eq, setK_eq]
theorem sExp_ok {e : FE} (h : e c ρ [] st = .ok .none st') : sExp e c ρ st = .nx ρ st' := by
  show (e c ρ [] st).b RX.no (fun v st => noneV v RX.no (RX.nx ρ st)) = _
  rw [h]; rfl
theorem cBit_ok {e : FE} {x : Int} (h : e c ρ up st = .ok (.int x) st') : cBit e c ρ up st = .ok (.int (Builtin.Int.intBits x)) st' := by
  show (e c ρ up st).b RV.no _ = _
  rw [h]; rfl
theorem cInv_ok {e : FE} {x : Int} (h : e c ρ up st = .ok (.int x) st') : cInv e c ρ up st = .ok (.int (-x - 1)) st' := by
  show (e c ρ up st).b RV.no _ = _
  rw [h]; rfl
theorem cNeg_ok {e : FE} {x : Int} (h : e c ρ up st = .ok (.int x) st') : cNeg e c ρ up st = .ok (.int (-x)) st' := by
  show (e c ρ up st).b RV.no negV = _
  rw [h]
  show isub 0 x (fun z => RV.ok (.int z) st') = _
  rw [isub_eq, Int.zero_sub]
theorem cAdd_ok {a b : FE} {x y : Int} (h1 : a c ρ up st = .ok (.int x) st') (h2 : b c ρ up st' = .ok (.int y) st'') : cBop .add a b c ρ up st = .ok (.int (x + y)) st'' := by
  refine (cBop_okD h1 h2).trans ?_
  show iadd x y (fun z => RV.ok (.int z) st'') = _
  rw [iadd_eq]
theorem cSub_ok {a b : FE} {x y : Int} (h1 : a c ρ up st = .ok (.int x) st') (h2 : b c ρ up st' = .ok (.int y) st'') : cBop .sub a b c ρ up st = .ok (.int (x - y)) st'' := by
  refine (cBop_okD h1 h2).trans ?_
  show isub x y (fun z => RV.ok (.int z) st'') = _
  rw [isub_eq]
theorem cShl_ok {a b : FE} {x n : Int} (h1 : a c ρ up st = .ok (.int x) st') (h2 : b c ρ up st' = .ok (.int n) st'') (hh : 0 ≤ n ∧ n ≤ 1000000 ∧ x.natAbs < 2 ^ 64) : cShl a b c ρ up st = .ok (.int (x * 2 ^ n.toNat)) st'' := by
  show (a c ρ up st).b RV.no (fun x st => (b c ρ up st).b .no fun y st => intV x .no fun i => intV y .no fun n => shlV i n st) = _
  rw [h1]
  show (b c ρ up st').b RV.no (fun y st => intV (.int x) .no fun i => intV y .no fun n => shlV i n st) = _
  rw [h2]
  show shlV x n st'' = _
  unfold shlV
  rw [if_pos hh]
theorem cDm_ok {a b : FE} {x n : Int} (h1 : a c ρ up st = .ok (.int x) st') (h2 : b c ρ up st' = .ok (.int n) st'') (hh : n ≠ 0 ∧ n.natAbs ≤ 1000000) : cDm a b c ρ up st = .ok (.tup [.int (x.fdiv n), .int (x.fmod n)]) st'' := by
  show (a c ρ up st).b RV.no (fun x st => (b c ρ up st).b .no fun y st => intV x .no fun i => intV y .no fun n => dmV i n st) = _
  rw [h1]
  show (b c ρ up st').b RV.no (fun y st => intV (.int x) .no fun i => intV y .no fun n => dmV i n st) = _
  rw [h2]
  show dmV x n st'' = _
  unfold dmV
  rw [if_pos hh]
theorem lNil_ok : lNil c ρ up st = .ok [] st := rfl
theorem lCons_ok {e : FE} {r : FL} {vs : List MV} (h1 : e c ρ up st = .ok v st') (h2 : r c ρ up st' = .ok vs st'') : lCons e r c ρ up st = .ok (v :: vs) st'' := by
  show (e c ρ up st).b RL.no (fun v st => (r c ρ up st).b .no fun vs st => .ok (v :: vs) st) = _
  rw [h1]
  show (r c ρ up st').b RL.no (fun vs st => .ok (v :: vs) st) = _
  rw [h2]; rfl
theorem cTup_ok {es : FL} {vs : List MV} (h : es c ρ up st = .ok vs st') : cTup es c ρ up st = .ok (.tup vs) st' := by
  show (es c ρ up st).b RV.no _ = _
  rw [h]; rfl
theorem call_ok {m : Nat} {es : FL} {vs : List MV} (h : es c ρ up st = .ok vs st') : cCall (cCst (.fn m)) es c ρ up st = c (.fn m) vs none st' := by
  show (es c ρ up st).b RV.no (fun vs st => callV c (.fn m) vs st) = _
  rw [h]; rfl
theorem tLe_ok {a b : FE} {x y : Int} (h1 : a c ρ up st = .ok (.int x) st') (h2 : b c ρ up st' = .ok (.int y) st'') : tCmp .le a b c ρ up st = .ok (ile x y) st'' := by
  show (a c ρ up st).b RB.no (fun x st => (b c ρ up st).b .no fun y st => ob (cmpMV .le x y st) .no fun t => .ok t st) = _
  rw [h1]
  show (b c ρ up st').b RB.no (fun y st => ob (cmpMV .le (.int x) y st) .no fun t => .ok t st) = _
  rw [h2]; rfl
theorem tLt_ok {a b : FE} {x y : Int} (h1 : a c ρ up st = .ok (.int x) st') (h2 : b c ρ up st' = .ok (.int y) st'') : tCmp .lt a b c ρ up st = .ok (decide (x < y)) st'' := by
  show (a c ρ up st).b RB.no (fun x st => (b c ρ up st).b .no fun y st => ob (cmpMV .lt x y st) .no fun t => .ok t st) = _
  rw [h1]
  show (b c ρ up st').b RB.no (fun y st => ob (cmpMV .lt (.int x) y st) .no fun t => .ok t st) = _
  rw [h2, ← ilt_eq]; rfl
theorem tEq_ok {a b : FE} {x y : Int} (h1 : a c ρ up st = .ok (.int x) st') (h2 : b c ρ up st' = .ok (.int y) st'') : tCmp .eq a b c ρ up st = .ok (decide (x = y)) st'' := by
  show (a c ρ up st).b RB.no (fun x st => (b c ρ up st).b .no fun y st => ob (cmpMV .eq x y st) .no fun t => .ok t st) = _
  rw [h1]
  show (b c ρ up st').b RB.no (fun y st => ob (cmpMV .eq (.int x) y st) .no fun t => .ok t st) = _
  rw [h2, ← ieq_eq]; rfl
theorem cRev_ok {e : FE} {i : Nat} {l : List MV} (h : e c ρ up st = .ok (.lst i) st') (hl : st'[i]? = some l) (hn : l.length ≤ 4096) : cRev e c ρ up st = .ok .none (st'.set i l.reverse) := by
  show (e c ρ up st).b RV.no (fun w st => lstV w .no fun i => ob (getN st i) .no fun vs => bsel (Nat.ble vs.length 4096) (.ok .none (st.set i vs.reverse)) .no) = _
  rw [h]
  show ob (getN st' i) RV.no (fun vs => bsel (Nat.ble vs.length 4096) (.ok .none (st'.set i vs.reverse)) .no) = _
  rw [getN_eq, hl]
  show bsel (Nat.ble l.length 4096) (RV.ok .none (st'.set i l.reverse)) .no = _
  rw [ble_iff.mpr hn]; rfl
theorem cApp_ok {a b : FE} {i : Nat} {l : List MV} (h1 : a c ρ up st = .ok (.lst i) st') (h2 : b c ρ up st' = .ok v st'') (hp : plain v = true) (hl : st''[i]? = some l) (hn : l.length ≤ 4096) : cApp a b c ρ up st = .ok .none (st''.set i (l ++ [v])) := by
  show (a c ρ up st).b RV.no (fun w st => lstV w .no fun i => (b c ρ up st).b .no fun v st => bsel (plain v) (ob (getN st i) .no fun vs => lenK vs fun n => bsel (Nat.ble n 4096) (appK vs [v] fun vs => setK st i vs fun st => .ok .none st) .no) .no) = _
  rw [h1]
  show (b c ρ up st').b RV.no (fun v st => bsel (plain v) (ob (getN st i) .no fun vs => lenK vs fun n => bsel (Nat.ble n 4096) (appK vs [v] fun vs => setK st i vs fun st => .ok .none st) .no) .no) = _
  rw [h2]
  show bsel (plain v) (ob (getN st'' i) RV.no fun vs => lenK vs fun n => bsel (Nat.ble n 4096) (appK vs [v] fun vs => setK st'' i vs fun st => .ok .none st) .no) .no = _
  rw [hp]
  show ob (getN st'' i) RV.no (fun vs => lenK vs fun n => bsel (Nat.ble n 4096) (appK vs [v] fun vs => setK st'' i vs fun st => .ok .none st) .no) = _
  rw [getN_eq, hl]
  show lenK l (fun n => bsel (Nat.ble n 4096) (appK l [v] fun vs => setK st'' i vs fun st => RV.ok .none st) .no) = _
  rw [lenK_eq, ble_iff.mpr hn]
  show appK l [v] (fun vs => setK st'' i vs fun st => RV.ok .none st) = _
  rw [appK_eq, setK_eq]
theorem cLst_ok {es : FL} {vs : List MV} (h : es c ρ up st = .ok vs st') : cLst es c ρ up st = .ok (.lst st'.length) (st' ++ [vs]) := by
  show (es c ρ up st).b RV.no newL = _
  rw [h]
  show newL vs st' = _
  unfold newL
  rw [lenK_eq, appK_eq]
theorem runF_rt {fd : Fn} (h : fd.body c ρ st = .rt v st') (hp : plain v = true) : runF c fd ρ st = .ok v (st'.take st.length) := by
  unfold runF
  rw [lenK_eq, h]
  show endV st.length v st' = _
  unfold endV
  rw [hp]
  show takeK st.length st' (fun st => RV.ok v st) = _
  rw [takeK_eq]
end
noncomputable def natsOf : List MV → Option (List Nat)
  | [] => some []
  | .int z :: r => if 0 ≤ z then (natsOf r).map (z.toNat :: ·) else none
  | _ => none
theorem natsOf_mi : ∀ qs : List Nat, natsOf (qs.map mi) = some qs
  | [] => rfl
  | q :: qs => by
    show (if 0 ≤ (q : Int) then (natsOf (qs.map mi)).map ((q : Int).toNat :: ·) else none) = _
    rw [if_pos (Int.natCast_nonneg q), natsOf_mi qs]; rfl
theorem natsOf_ok : ∀ {l : List MV} {qs : List Nat}, natsOf l = some qs → l = qs.map mi
  | [], qs, h => by cases h; rfl
  | x :: r, qs, h => by
    cases x with
    | int z =>
      have h : (if 0 ≤ z then (natsOf r).map (z.toNat :: ·) else none) = some qs := h
      split at h
      · rename_i hz
        cases hr : natsOf r with
        | none => rw [hr] at h; cases h
        | some q =>
          rw [hr] at h; cases h
          rw [natsOf_ok hr, List.map_cons]
          congr 1
          show MV.int z = MV.int (z.toNat : Int)
          rw [Int.toNat_of_nonneg hz]
      · cases h
    | _ => cases h
noncomputable def e102 (a ν : Int) (st : St) : RV := if 0 ≤ a ∧ a < 1099511627776 ∧ 1 ≤ ν ∧ ν ≤ 64 ∧ dN a.toNat ν.toNat ≤ 32 then .ok (.lst (st.length + 1)) (st ++ [[.int 0]] ++ [(digs (2 ^ ν.toNat) a.toNat (dN a.toNat ν.toNat)).map mi]) else .no
noncomputable def e103l (l : List MV) (ν : Int) (st : St) : RV := ob (natsOf l) .no fun qs => if 0 ≤ ν ∧ ν ≤ 64 ∧ qs.length ≤ 32 ∧ valD (2 ^ ν.toNat) qs < 2 ^ 60 then .ok (.int (valD (2 ^ ν.toNat) qs : Nat)) st else .no
noncomputable def e103 (k : Nat) (ν : Int) (st : St) : RV := ob st[k]? .no fun l => e103l l ν st
noncomputable def fd104 : Fn := ⟨3, 11, [], false, code104⟩
noncomputable def c0 : Calls := fun f vs kw st => match f, vs, kw with
  | .fn m, [x, y], none => if m = 102 then intV x .no fun a => intV y .no fun ν => e102 a ν st else if m = 103 then lstV x .no fun k => intV y .no fun ν => e103 k ν st else .no
  | .fn m, [x, y, z], none => if m = 104 then runF noC fd104 (padL [x, y, z] 11) st else .no
  | _, _, _ => .no
theorem bits_le {x k : Nat} (h : x < 2 ^ k) (hk : 1 ≤ k) : Builtin.Int.intBits (x : Int) ≤ k := by
  unfold Builtin.Int.intBits
  by_cases h0 : x = 0
  · subst h0; exact Nat.zero_le _
  · have e : ((x : Int) == 0) = false := by simp; exact h0
    rw [e]
    simp only [Bool.false_eq_true, if_false, Int.natAbs_natCast]
    have := (Nat.log2_lt h0).mpr h
    (first | lia | omega)
theorem fdiv_nat (x b : Nat) : (x : Int).fdiv (b : Int) = ((x / b : Nat) : Int) := by
  rw [Int.fdiv_eq_ediv_of_nonneg _ (Int.natCast_nonneg _)]; exact (Int.natCast_ediv _ _).symm
theorem fmod_nat (x b : Nat) : (x : Int).fmod (b : Int) = ((x % b : Nat) : Int) := by
  rw [Int.fmod_eq_emod_of_nonneg _ (Int.natCast_nonneg _)]; exact (Int.natCast_emod _ _).symm
theorem eval104 {x b ν : Nat} {st : St} (hx : x < 2 ^ 12) (hb : 0 < b) (hb2 : b ≤ 1000000) : runF noC fd104 (padL [.int x, .int b, .int ν] 11) st = .ok (.tup [.int ((x / b : Nat) : Int), .int ((x % b : Nat) : Int)]) st := by
  have hb12 := bits_le hx (by decide)
  have ht : tCmp .le (cBop .sub (cBit (cVar 0)) (cVar 2)) (cCst (.int 4000)) noC (padL [.int x, .int b, .int ν] 11) [] st = .ok true st := by
    rw [tLe_ok (cSub_ok (cBit_ok (var_okD (v := .int x) rfl)) (var_okD (v := .int ν) rfl)) (show cCst (.int 4000) noC (padL [.int x, .int b, .int ν] 11) [] st = .ok (.int 4000) st from rfl), ile_eq, decide_eq_true (by (first | lia | omega))]
  have h : code104 noC (padL [.int x, .int b, .int ν] 11) st = .rt (.tup [.int ((x / b : Nat) : Int), .int ((x % b : Nat) : Int)]) st := by
    rw [← fdiv_nat, ← fmod_nat]
    exact xC_rt ((sIf_t ht).trans (xC_rt (sRet_ok (cDm_ok (var_okD (v := .int x) rfl) (var_okD (v := .int b) rfl) ⟨by (first | lia | omega), by (first | lia | omega)⟩))))
  have := runF_rt (c := noC) (fd := fd104) h rfl
  rw [List.take_length] at this
  exact this
end Mine
end OfMD12
noncomputable section OfMD13
set_option autoImplicit false
set_option linter.unusedVariables false
set_option maxHeartbeats 1000000
namespace Mine
open PySem PySem.Calls PyProof.Rows PySem.SeqAt PySem.W

noncomputable def fd101 : Fn := ⟨2, 9, [], false, code101⟩
theorem c0_102 {a ν : Int} {st : St} : c0 (.fn 102) [.int a, .int ν] none st = e102 a ν st := by
  show (if (102 : Nat) = 102 then e102 a ν st else if (102 : Nat) = 103 then RV.no else RV.no) = _
  rw [if_pos rfl]
theorem c0_103 {k : Nat} {ν : Int} {st : St} : c0 (.fn 103) [.lst k, .int ν] none st = e103 k ν st := by
  show (if (103 : Nat) = 102 then RV.no else if (103 : Nat) = 103 then e103 k ν st else RV.no) = _
  rw [if_neg (by decide), if_pos rfl]
theorem c0_104 {x y z : MV} {st : St} : c0 (.fn 104) [x, y, z] none st = runF noC fd104 (padL [x, y, z] 11) st := by
  show (if (104 : Nat) = 104 then runF noC fd104 (padL [x, y, z] 11) st else RV.no) = _
  rw [if_pos rfl]
theorem bodyR_run {a x : MV} {b ν r d : Nat} {acc : List Nat} {st : St} {k : Nat} {o7 o8 : Option MV} (hb : 0 < b) (hb2 : b ≤ 63) (hν : ν ≤ 6) (hr : r < b) (hd : d < 2 ^ ν) (hk : st[k]? = some (acc.map mi)) (hl : acc.length ≤ 4096) :
    bodyR c0 [some a, some (.int b), some (.int ν), some x, some (.int r), some (.lst k), some (mi d), o7, o8] st =
      .nx [some a, some (.int b), some (.int ν), some x, some (.int ((r * 2 ^ ν + d) % b : Nat)), some (.lst k), some (mi d), some (.int ((r * 2 ^ ν + d) / b : Nat)), o8] (st.set k ((acc ++ [(r * 2 ^ ν + d) / b]).map mi)) := by
  have hβ : 2 ^ ν ≤ 2 ^ 6 := Nat.pow_le_pow_right (by decide) hν
  have hx : r * 2 ^ ν + d < 2 ^ 12 := by
    have h1 : r * 2 ^ ν ≤ 62 * 2 ^ 6 := Nat.mul_le_mul (by (first | lia | omega)) hβ
    (first | lia | omega)
  have e1 : cShl (cVar 4) (cVar 2) c0 [some a, some (.int b), some (.int ν), some x, some (.int r), some (.lst k), some (mi d), o7, o8] [] st = .ok (.int ((r : Int) * 2 ^ ((ν : Int)).toNat)) st :=
    cShl_ok (var_okD (v := .int r) rfl) (var_okD (v := .int ν) rfl) ⟨Int.natCast_nonneg _, by (first | lia | omega), by
      rw [Int.natAbs_natCast]; exact Nat.lt_of_lt_of_le (by (first | lia | omega) : r < 64) (by decide)⟩
  have e2 : cBop .add (cShl (cVar 4) (cVar 2)) (cVar 6) c0 [some a, some (.int b), some (.int ν), some x, some (.int r), some (.lst k), some (mi d), o7, o8] [] st = .ok (.int ((r * 2 ^ ν + d : Nat) : Int)) st := by
    refine (cAdd_ok e1 (var_okD (v := .int d) rfl)).trans ?_
    rw [Int.toNat_natCast]
    congr 2
  have e3 : cCall (cCst (.fn 104)) (lCons (cBop .add (cShl (cVar 4) (cVar 2)) (cVar 6)) (lCons (cVar 1) (lCons (cVar 2) lNil))) c0 [some a, some (.int b), some (.int ν), some x, some (.int r), some (.lst k), some (mi d), o7, o8] [] st
      = .ok (.tup [.int ((r * 2 ^ ν + d) / b : Nat), .int ((r * 2 ^ ν + d) % b : Nat)]) st := by
    refine (call_ok (lCons_ok e2 (lCons_ok (var_okD (v := .int b) rfl) (lCons_ok (var_okD (v := .int ν) rfl) lNil_ok)))).trans ?_
    exact c0_104.trans (eval104 hx hb (by (first | lia | omega)))
  refine (xC_nx (sAsgT_ok e3)).trans ?_
  refine (xC_nx (ρ' := [some a, some (.int b), some (.int ν), some x, some (.int ((r * 2 ^ ν + d) % b : Nat)), some (.lst k), some (mi d), some (.int ((r * 2 ^ ν + d) / b : Nat)), o8]) (sExp_ok (cApp_ok (i := k) (v := .int ((r * 2 ^ ν + d) / b : Nat)) (var_okD rfl) (var_okD rfl) rfl hk (by rw [List.length_map]; exact hl)))).trans ?_
  rw [List.map_append]; rfl
theorem revRun_succ {k i m : Nat} {b : FX} {c : Calls} {ρ : Sl} {st : St} {l : List MV} {v : MV} (h1 : st[i]? = some l) (h2 : l[m]? = some v) : revRun k i b c (m + 1) ρ st = (b c (ρ.set k (some v)) st).b .no (revRun k i b c m) .rt := by
  show ob (getN st i) RX.no (fun l => ob (getN l m) RX.no fun v => (b c (ρ.set k (some v)) st).b .no (revRun k i b c m) .rt) = _
  rw [getN_eq, h1]
  show ob (getN l m) RX.no (fun v => (b c (ρ.set k (some v)) st).b .no (revRun k i b c m) .rt) = _
  rw [getN_eq, h2]; rfl
theorem get3 (st : St) (x y z : List MV) : (st ++ [x, y, z])[st.length + 1]? = some y ∧ (st ++ [x, y, z])[st.length + 2]? = some z ∧ ∀ z', (st ++ [x, y, z]).set (st.length + 2) z' = st ++ [x, y, z'] := by
  refine ⟨?_, ?_, fun z' => ?_⟩
  · rw [List.getElem?_append_right (by (first | lia | omega)), show st.length + 1 - st.length = 1 by (first | lia | omega)]; rfl
  · rw [List.getElem?_append_right (by (first | lia | omega)), show st.length + 2 - st.length = 2 by (first | lia | omega)]; rfl
  · rw [List.set_append_right _ _ (by (first | lia | omega)), show st.length + 2 - st.length = 2 by (first | lia | omega)]; rfl
theorem loopD {st : St} {a x : MV} {x0 : List MV} {b ν : Nat} {ds : List Nat} (hb : 0 < b) (hb2 : b ≤ 63) (hν : ν ≤ 6) (hds : ∀ d ∈ ds, d < 2 ^ ν) : ∀ (m : Nat), m ≤ ds.length → ∀ (r : Nat) (acc : List Nat) (o6 o7 : Option MV), r < b → acc.length + m ≤ 4096 →
    ∃ o6' o7', revRun 6 (st.length + 1) bodyR c0 m [some a, some (.int b), some (.int ν), some x, some (.int r), some (.lst (st.length + 2)), o6, o7, none] (st ++ [x0, ds.map mi, acc.map mi]) =
      .nx [some a, some (.int b), some (.int ν), some x, some (.int (divL (2 ^ ν) b (ds.take m).reverse r).2), some (.lst (st.length + 2)), o6', o7', none] (st ++ [x0, ds.map mi, (acc ++ (divL (2 ^ ν) b (ds.take m).reverse r).1).map mi])
  | 0, _, r, acc, o6, o7, _, _ => ⟨o6, o7, by
    rw [List.take_zero]
    show RX.nx _ _ = RX.nx [_, _, _, _, some (.int (r : Int)), _, _, _, _] (st ++ [x0, ds.map mi, (acc ++ []).map mi])
    rw [List.append_nil]⟩
  | m + 1, hm, r, acc, o6, o7, hr, hl => by
    have hm' : m < ds.length := hm
    obtain ⟨g1, g2, g3⟩ := get3 st x0 (ds.map mi) (acc.map mi)
    have e : (ds.take (m + 1)).reverse = ds[m] :: (ds.take m).reverse := by
      rw [← List.take_append_getElem hm', List.reverse_append]; rfl
    obtain ⟨o6', o7', ih⟩ := loopD hb hb2 hν hds m (Nat.le_of_lt hm') ((r * 2 ^ ν + ds[m]) % b) (acc ++ [(r * 2 ^ ν + ds[m]) / b]) (some (mi ds[m])) (some (.int ((r * 2 ^ ν + ds[m]) / b : Nat))) (Nat.mod_lt _ hb) (by rw [List.length_append, List.length_singleton]; (first | lia | omega))
    refine ⟨o6', o7', ?_⟩
    rw [revRun_succ g1 (v := mi ds[m]) (by rw [List.getElem?_map, List.getElem?_eq_getElem hm']; rfl)]
    have hbody := bodyR_run (a := a) (x := x) (o7 := o7) (o8 := none) hb hb2 hν hr (hds _ (List.getElem_mem hm')) g2 (by (first | lia | omega))
    have hbody : bodyR c0 ([some a, some (.int b), some (.int ν), some x, some (.int r), some (.lst (st.length + 2)), o6, o7, none].set 6 (some (mi ds[m]))) (st ++ [x0, ds.map mi, acc.map mi]) = _ := hbody
    rw [hbody, g3]
    refine Eq.trans ih ?_
    rw [e]
    show RX.nx _ _ = RX.nx [_, _, _, _, some (.int (divL (2 ^ ν) b (ds.take m).reverse ((r * 2 ^ ν + ds[m]) % b)).2), _, _, _, _] (st ++ [x0, ds.map mi, (acc ++ ((r * 2 ^ ν + ds[m]) / b) :: (divL (2 ^ ν) b (ds.take m).reverse ((r * 2 ^ ν + ds[m]) % b)).1).map mi])
    rw [List.append_assoc, List.singleton_append]
theorem digs_lt {β : Nat} (hβ : 0 < β) : ∀ (m x : Nat), ∀ d ∈ digs β x m, d < β
  | 0, _, d, h => by cases h
  | m + 1, x, d, h => by
    rcases List.mem_cons.mp (show d ∈ x % β :: digs β (x / β) m from h) with rfl | h
    · exact Nat.mod_lt _ hβ
    · exact digs_lt hβ m _ d h
theorem eval101 {a b ν : Nat} {st : St} (ha : a < 2 ^ 32) (hb : 0 < b) (hb2 : b ≤ 63) (hν : Builtin.Int.intBits (b : Int) = ν) (hν1 : 1 ≤ ν) (hν2 : ν ≤ 6) : runF c0 fd101 (padL [.int a, .int b] 9) st = .ok (.tup [.int ((a / b : Nat) : Int), .int ((a % b : Nat) : Int)]) st := by
  have hbits := bits_le ha (by decide)
  have hai : (a : Int) < 1099511627776 := by
    have h2 : a < 4294967296 := ha
    (first | lia | omega)
  have hab : a / b < 2 ^ 60 := by
    have h2 : a < 4294967296 := ha
    have h3 : a / b ≤ a := Nat.div_le_self _ _
    have h4 : a / b < 1152921504606846976 := by (first | lia | omega)
    exact h4
  clear ha
  have hd : dN a ν ≤ 32 := by
    unfold dN
    exact Nat.div_le_of_le_mul (by (first | lia | omega))
  have hP := bits_pow (a := a) hν1
  have hβ : 0 < 2 ^ ν := Nat.two_pow_pos ν
  generalize hm : dN a ν = m at hd hP
  have hlen := digs_length (2 ^ ν) m a
  obtain ⟨o6, o7, hloop⟩ := loopD (st := st) (a := .int a) (x := .lst (st.length + 1)) (x0 := [MV.int 0]) hb hb2 hν2 (digs_lt hβ m a) m (by rw [hlen]; exact Nat.le_refl _) 0 [] none none hb (by rw [List.length_nil]; (first | lia | omega))
  obtain ⟨dv1, dv2⟩ := divL_val (β := 2 ^ ν) hb (digs (2 ^ ν) a m).reverse 0 hb
  have hq := divL_length (2 ^ ν) b (digs (2 ^ ν) a m).reverse 0
  rw [List.reverse_reverse, valD_digs m a hP, Nat.zero_mul, Nat.zero_add] at dv1
  rw [List.length_reverse, hlen] at hq
  rw [List.take_of_length_le (by rw [hlen]; exact Nat.le_refl _), List.nil_append] at hloop
  generalize divL (2 ^ ν) b (digs (2 ^ ν) a m).reverse 0 = p at dv1 dv2 hq hloop
  obtain ⟨qs, S⟩ := p
  have dv1 : valD (2 ^ ν) qs.reverse * b + S = a := dv1
  have dv2 : S < b := dv2
  have hq : qs.length = m := hq
  obtain ⟨hQ, hS⟩ := divmod_of dv1 dv2
  obtain ⟨g1, g2, g3⟩ := get3 st [MV.int 0] ((digs (2 ^ ν) a m).map mi) (qs.map mi)
  have hbody : code101 c0 (padL [.int a, .int b] 9) st = .rt (.tup [.int ((a / b : Nat) : Int), .int ((a % b : Nat) : Int)]) (st ++ [[MV.int 0], (digs (2 ^ ν) a m).map mi, qs.reverse.map mi]) := by
    refine (xC_nx (ρ' := [some (.int a), some (.int b), some (.int ν), none, none, none, none, none, none]) (st' := st) ?_).trans ?_
    · refine (sAsg_ok (cBit_ok (var_okD (v := .int b) rfl))).trans ?_
      rw [hν]; rfl
    refine (xC_nx (ρ' := [some (.int a), some (.int b), some (.int ν), some (.lst (st.length + 1)), none, none, none, none, none]) (st' := st ++ [[.int 0]] ++ [(digs (2 ^ ν) a m).map mi]) ?_).trans ?_
    · refine sAsg_ok ((call_ok (lCons_ok (var_okD (v := .int a) rfl) (lCons_ok (var_okD (v := .int ν) rfl) lNil_ok))).trans ?_)
      rw [c0_102]
      unfold e102
      rw [Int.toNat_natCast, Int.toNat_natCast, hm, if_pos ⟨Int.natCast_nonneg _, hai, by (first | lia | omega), by (first | lia | omega), hd⟩]
    refine (xC_nx (ρ' := [some (.int a), some (.int b), some (.int ν), some (.lst (st.length + 1)), some (.int (0 : Nat)), none, none, none, none]) (sAsg_ok (v := .int 0) rfl)).trans ?_
    refine (xC_nx (ρ' := [some (.int a), some (.int b), some (.int ν), some (.lst (st.length + 1)), some (.int (0 : Nat)), some (.lst (st.length + 2)), none, none, none]) (st' := st ++ [[.int 0], (digs (2 ^ ν) a m).map mi, ([] : List Nat).map mi]) ?_).trans ?_
    · refine (sAsg_ok (cLst_ok lNil_ok)).trans ?_
      rw [List.append_assoc, List.append_assoc, List.length_append]; rfl
    refine (xC_nx (ρ' := [some (.int a), some (.int b), some (.int ν), some (.lst (st.length + 1)), some (.int S), some (.lst (st.length + 2)), o6, o7, none]) (st' := st ++ [[.int 0], (digs (2 ^ ν) a m).map mi, qs.map mi]) ?_).trans ?_
    · refine Eq.trans ?_ hloop
      show (cVar 3 c0 [some (.int a), some (.int b), some (.int ν), some (.lst (st.length + 1)), some (.int (0 : Nat)), some (.lst (st.length + 2)), none, none, none] [] _).b RX.no (fun it st2 => lstV it .no fun i => ob (getN st2 i) .no fun l => revRun 6 i bodyR c0 l.length _ st2) = _
      rw [var_okD (v := .lst (st.length + 1)) rfl]
      show ob (getN _ (st.length + 1)) RX.no (fun (l : List MV) => revRun 6 (st.length + 1) bodyR c0 l.length _ _) = _
      rw [getN_eq, (get3 st [MV.int 0] ((digs (2 ^ ν) a m).map mi) (([] : List Nat).map mi)).1]
      show revRun 6 (st.length + 1) bodyR c0 ((digs (2 ^ ν) a m).map mi).length _ _ = _
      rw [List.length_map, hlen]
    refine (xC_nx (ρ' := [some (.int a), some (.int b), some (.int ν), some (.lst (st.length + 1)), some (.int S), some (.lst (st.length + 2)), o6, o7, none]) (st' := st ++ [[.int 0], (digs (2 ^ ν) a m).map mi, qs.reverse.map mi]) ?_).trans ?_
    · refine (sExp_ok (cRev_ok (i := st.length + 2) (var_okD rfl) g2 (by rw [List.length_map]; (first | lia | omega)))).trans ?_
      rw [g3, List.map_reverse]
    refine (xC_nx (ρ' := [some (.int a), some (.int b), some (.int ν), some (.lst (st.length + 1)), some (.int S), some (.lst (st.length + 2)), o6, o7, some (.int (a / b : Nat))]) (st' := st ++ [[.int 0], (digs (2 ^ ν) a m).map mi, qs.reverse.map mi]) ?_).trans ?_
    · refine sAsg_ok ((call_ok (lCons_ok (var_okD (v := .lst (st.length + 2)) rfl) (lCons_ok (var_okD (v := .int ν) rfl) lNil_ok))).trans ?_)
      rw [c0_103]
      unfold e103
      rw [(get3 st [MV.int 0] ((digs (2 ^ ν) a m).map mi) (qs.reverse.map mi)).2.1]
      show e103l (qs.reverse.map mi) (ν : Int) _ = _
      unfold e103l
      rw [natsOf_mi]
      show (if 0 ≤ (ν : Int) ∧ (ν : Int) ≤ 64 ∧ qs.reverse.length ≤ 32 ∧ valD (2 ^ ((ν : Int)).toNat) qs.reverse < 2 ^ 60 then RV.ok (.int (valD (2 ^ ((ν : Int)).toNat) qs.reverse : Nat)) _ else .no) = _
      rw [Int.toNat_natCast, hQ, List.length_reverse, hq, if_pos ⟨Int.natCast_nonneg _, by (first | lia | omega), hd, hab⟩]
    refine xC_rt ((sRet_ok (cTup_ok (lCons_ok (var_okD (v := .int (a / b : Nat)) rfl) (lCons_ok (var_okD (v := .int S) rfl) lNil_ok)))).trans ?_)
    rw [hS]
  have hb1 : fd101.body = code101 := rfl
  rw [← hb1] at hbody
  have := runF_rt hbody rfl
  rw [List.take_left'  rfl] at this
  exact this
end Mine
end OfMD13
noncomputable section OfMD14
set_option autoImplicit false
set_option linter.unusedVariables false
set_option maxHeartbeats 1000000
namespace Mine
open PySem PySem.Calls PyProof.Rows PySem.SeqAt PySem.W

noncomputable def fd100 : Fn := ⟨2, 4, [], false, code100⟩
noncomputable def cc : Nat → Calls
  | 0 => fun f vs kw st => match f, vs, kw with
    | .fn m, [x, y], none => if m = 101 then runF c0 fd101 (padL [x, y] 9) st else .no
    | _, _, _ => .no
  | k + 1 => fun f vs kw st => match f, vs, kw with
    | .fn m, [x, y], none => if m = 101 then runF c0 fd101 (padL [x, y] 9) st else if m = 100 then runF (cc k) fd100 (padL [x, y] 4) st else .no
    | _, _, _ => .no
theorem cc_101 {x y : MV} {st : St} : ∀ k, cc k (.fn 101) [x, y] none st = runF c0 fd101 (padL [x, y] 9) st
  | 0 => by
    show (if (101 : Nat) = 101 then runF c0 fd101 (padL [x, y] 9) st else RV.no) = _
    rw [if_pos rfl]
  | k + 1 => by
    show (if (101 : Nat) = 101 then runF c0 fd101 (padL [x, y] 9) st else if (101 : Nat) = 100 then runF (cc k) fd100 (padL [x, y] 4) st else RV.no) = _
    rw [if_pos rfl]
theorem cc_100 {x y : MV} {st : St} {k : Nat} : cc (k + 1) (.fn 100) [x, y] none st = runF (cc k) fd100 (padL [x, y] 4) st := by
  show (if (100 : Nat) = 101 then runF c0 fd101 (padL [x, y] 9) st else if (100 : Nat) = 100 then runF (cc k) fd100 (padL [x, y] 4) st else RV.no) = _
  rw [if_neg (by decide), if_pos rfl]
theorem bits_pos {b : Nat} (hb : 0 < b) : 1 ≤ Builtin.Int.intBits (b : Int) := by
  unfold Builtin.Int.intBits
  have e : ((b : Int) == 0) = false := by simp; (first | lia | omega)
  rw [e]
  simp only [Bool.false_eq_true, if_false]
  (first | lia | omega)
theorem div101 {a b : Nat} {st : St} (ha : a < 2 ^ 32) (hb : 0 < b) (hb2 : b ≤ 63) : runF c0 fd101 (padL [.int a, .int b] 9) st = .ok (.tup [.int ((a / b : Nat) : Int), .int ((a % b : Nat) : Int)]) st :=
  eval101 ha hb hb2 rfl (bits_pos hb) (bits_le (Nat.lt_of_le_of_lt hb2 (by decide)) (by decide))
theorem call2_ok {m : Nat} {a b : FE} {c : Calls} {ρ up : Sl} {st : St} {x y : MV} (h1 : a c ρ up st = .ok x st) (h2 : b c ρ up st = .ok y st) : call2 m a b c ρ up st = c (.fn m) [x, y] none st := call_ok (lCons_ok h1 (lCons_ok h2 lNil_ok))
theorem tup2_ok {a b : FE} {c : Calls} {ρ up : Sl} {st : St} {x y : MV} (h1 : a c ρ up st = .ok x st) (h2 : b c ρ up st = .ok y st) : tup2 a b c ρ up st = .ok (.tup [x, y]) st := cTup_ok (lCons_ok h1 (lCons_ok h2 lNil_ok))
theorem cst_ok {v : MV} {c : Calls} {ρ up : Sl} {st : St} : cCst v c ρ up st = .ok v st := rfl
theorem div100_0 {a b : Nat} {k : Nat} {st : St} (ha : a < 2 ^ 32) (hb : 0 < b) (hb2 : b ≤ 63) : runF (cc k) fd100 (padL [.int a, .int b] 4) st = .ok (.tup [.int ((a / b : Nat) : Int), .int ((a % b : Nat) : Int)]) st := by
  have h : fd100.body (cc k) (padL [.int a, .int b] 4) st = .rt (.tup [.int ((a / b : Nat) : Int), .int ((a % b : Nat) : Int)]) st := by
    have hb1 : fd100.body = code100 := rfl
    rw [hb1]
    refine xC_rt ((sIf_f (st' := st) ((tEq_ok (y := 0) (var_okD (v := .int b) rfl) cst_ok).trans (by rw [decide_eq_false (by (first | lia | omega))]))).trans ?_)
    refine xC_rt ((sIf_f (st' := st) ((tLt_ok (y := 0) (var_okD (v := .int b) rfl) cst_ok).trans (by rw [decide_eq_false (by (first | lia | omega))]))).trans ?_)
    refine xC_rt ((sIf_f (st' := st) ((tLt_ok (y := 0) (var_okD (v := .int a) rfl) cst_ok).trans (by rw [decide_eq_false (by (first | lia | omega))]))).trans ?_)
    exact xC_rt (sRet_ok ((call2_ok (var_okD (v := .int a) rfl) (var_okD (v := .int b) rfl)).trans ((cc_101 k).trans (div101 ha hb hb2))))
  have := runF_rt h rfl
  rw [List.take_length] at this
  exact this
theorem fdm_of {a b q r : Int} (hb : 0 < b) (h : b * q + r = a) (h0 : 0 ≤ r) (h1 : r < b) : a.fdiv b = q ∧ a.fmod b = r := by
  rw [Int.fdiv_eq_ediv_of_nonneg _ (Int.le_of_lt hb), Int.fmod_eq_emod_of_nonneg _ (Int.le_of_lt hb)]
  exact (Int.ediv_emod_unique hb).mpr ⟨by (first | lia | omega), h0, h1⟩
theorem div100_1 {a : Int} {b : Nat} {k : Nat} {st : St} (ha : a.natAbs < 2 ^ 31) (hb : 0 < b) (hb2 : b ≤ 63) : runF (cc (k + 1)) fd100 (padL [.int a, .int b] 4) st = .ok (.tup [.int (a.fdiv b), .int (a.fmod b)]) st := by
  have ha2 : a.natAbs < 2147483648 := ha
  clear ha
  by_cases hn : 0 ≤ a
  · obtain ⟨n, rfl⟩ := Int.eq_ofNat_of_zero_le hn
    rw [fdiv_nat, fmod_nat]
    exact div100_0 (show n < 4294967296 by (first | lia | omega)) hb hb2
  · obtain ⟨n, hn⟩ := Int.eq_ofNat_of_zero_le (show 0 ≤ -a - 1 by (first | lia | omega))
    have hn2 : n < 2 ^ 32 := show n < 4294967296 by (first | lia | omega)
    have hdm := Nat.div_add_mod n b
    have hml := Nat.mod_lt n hb
    have hnat : (b : Int) * ((n / b : Nat) : Int) + ((n % b : Nat) : Int) = (n : Int) := by
      have h2 : ((b * (n / b) + n % b : Nat) : Int) = (n : Int) := by rw [hdm]
      rw [← h2, Int.natCast_add, Int.natCast_mul]
    have e := div100_0 (k := k) (st := st) hn2 hb hb2
    generalize n / b = q at hnat hdm e
    generalize n % b = r at hnat hdm hml e
    obtain ⟨e1, e2⟩ := fdm_of (a := a) (b := b) (q := -(q : Int) - 1) (r := (b : Int) + (-(r : Int) - 1)) (by (first | lia | omega)) (by
      rw [Int.mul_sub, Int.mul_neg, Int.mul_one]
      generalize (b : Int) * (q : Int) = z at hnat ⊢
      (first | lia | omega)) (by (first | lia | omega)) (by (first | lia | omega))
    rw [e1, e2]
    have h : fd100.body (cc (k + 1)) (padL [.int a, .int b] 4) st = .rt (.tup [.int (-(q : Int) - 1), .int ((b : Int) + (-(r : Int) - 1))]) st := by
      have hb1 : fd100.body = code100 := rfl
      rw [hb1]
      refine xC_rt ((sIf_f (st' := st) ((tEq_ok (y := 0) (var_okD (v := .int b) rfl) cst_ok).trans (by rw [decide_eq_false (by (first | lia | omega))]))).trans ?_)
      refine xC_rt ((sIf_f (st' := st) ((tLt_ok (y := 0) (var_okD (v := .int b) rfl) cst_ok).trans (by rw [decide_eq_false (by (first | lia | omega))]))).trans ?_)
      refine xC_rt ((sIf_t (st' := st) ((tLt_ok (y := 0) (var_okD (v := .int a) rfl) cst_ok).trans (by rw [decide_eq_true (by (first | lia | omega))]))).trans ?_)
      refine (xC_nx (ρ' := [some (.int a), some (.int b), some (.int q), some (.int r)]) (st' := st) (sAsgT_ok (v := .int q) (v' := .int r) ((call2_ok (x := .int n) ((cInv_ok (var_okD (v := .int a) rfl)).trans (by rw [hn])) (var_okD (v := .int b) rfl)).trans (cc_100.trans e)))).trans ?_
      exact xC_rt (sRet_ok (tup2_ok (cInv_ok (var_okD (v := .int q) rfl)) (cAdd_ok (var_okD (v := .int b) rfl) (cInv_ok (var_okD (v := .int r) rfl)))))
    have := runF_rt h rfl
    rw [List.take_length] at this
    exact this
theorem div100_2 {a b : Int} {st : St} (ha : a.natAbs < 2 ^ 31) (hb : 0 < b.natAbs) (hb2 : b.natAbs ≤ 63) : runF (cc 2) fd100 (padL [.int a, .int b] 4) st = .ok (.tup [.int (a.fdiv b), .int (a.fmod b)]) st := by
  by_cases hn : 0 ≤ b
  · obtain ⟨n, rfl⟩ := Int.eq_ofNat_of_zero_le hn
    exact div100_1 ha (by (first | lia | omega)) (by (first | lia | omega))
  · obtain ⟨n, hn⟩ := Int.eq_ofNat_of_zero_le (show 0 ≤ -b by (first | lia | omega))
    have e := div100_1 (a := -a) (b := n) (k := 0) (st := st) (by rw [Int.natAbs_neg]; exact ha) (by (first | lia | omega)) (by (first | lia | omega))
    have e1 : (-a).fdiv (n : Int) = a.fdiv b := by rw [← hn]; exact Int.neg_fdiv_neg a b
    have e2 : -((-a).fmod (n : Int)) = a.fmod b := by
      rw [Int.fmod_def, Int.fmod_def, e1, ← hn, Int.neg_mul]
      (first | lia | omega)
    rw [e1] at e
    rw [← e2]
    generalize (-a).fmod (n : Int) = r at e
    have h : fd100.body (cc 2) (padL [.int a, .int b] 4) st = .rt (.tup [.int (a.fdiv b), .int (-r)]) st := by
      have hb1 : fd100.body = code100 := rfl
      rw [hb1]
      refine xC_rt ((sIf_f (st' := st) ((tEq_ok (y := 0) (var_okD (v := .int b) rfl) cst_ok).trans (by rw [decide_eq_false (by (first | lia | omega))]))).trans ?_)
      refine xC_rt ((sIf_t (st' := st) ((tLt_ok (y := 0) (var_okD (v := .int b) rfl) cst_ok).trans (by rw [decide_eq_true (by (first | lia | omega))]))).trans ?_)
      refine (xC_nx (ρ' := [some (.int a), some (.int b), some (.int (a.fdiv b)), some (.int r)]) (st' := st) (sAsgT_ok (v := .int (a.fdiv b)) (v' := .int r) ((call2_ok (cNeg_ok (var_okD (v := .int a) rfl)) ((cNeg_ok (var_okD (v := .int b) rfl)).trans (by rw [hn]))).trans (cc_100.trans e)))).trans ?_
      exact xC_rt (sRet_ok (tup2_ok (var_okD (v := .int (a.fdiv b)) rfl) (cNeg_ok (var_okD (v := .int r) rfl))))
    have := runF_rt h rfl
    rw [List.take_length] at this
    exact this
end Mine
end OfMD14
noncomputable section OfMD15
set_option genInjectivity false
set_option autoImplicit false
set_option linter.unusedVariables false
set_option maxHeartbeats 1000000
namespace Mine
open PySem PySem.Calls PyProof.Rows PySem.SeqAt PySem.W
variable {prog : Program} {w : World} {B : Base} {C : Ctx}

structure DivH (B : Base) where
  N : NamesD B
  d100 : FuncData
  d101 : FuncData
  d102 : FuncData
  d103 : FuncData
  d104 : FuncData
  H100 : FnH B 100 cx100 (bod 13) d100
  H101 : FnH B 101 cx101 (bod 12) d101
  H102 : FnH B 102 cx102 (bod 10) d102
  H103 : FnH B 103 cx103 (bod 11) d103
  H104 : FnH B 104 cx104 (bod 8) d104
  p100 : ∀ a b, bindArgs d100 ⟨[a, b], []⟩ = pure ((psN nm100 2).zip [a, b])
  p101 : ∀ a b, bindArgs d101 ⟨[a, b], []⟩ = pure ((psN nm101 2).zip [a, b])
  p102 : ∀ a b, bindArgs d102 ⟨[a, b], []⟩ = pure [(Str.ofString "a", a), (Str.ofString "n", b)]
  p103 : ∀ a b, bindArgs d103 ⟨[a, b], []⟩ = pure [(Str.ofString "digits", a), (Str.ofString "n", b)]
  p104 : ∀ a b c, bindArgs d104 ⟨[a, b, c], []⟩ = pure ((psN nm104 3).zip [a, b, c])
  q102 : d102.code = .ref (B.tc 1)
  q103 : d103.code = .ref (B.tc 2)
  l102 : d102.qualname ++ ".<locals>." ++ "inner" = B.lq 1
  l103 : d103.qualname ++ ".<locals>." ++ "inner" = B.lq 2
theorem o100 : CtxOk cx100 (psN nm100 2) := ⟨by decide +kernel, rfl, by decide +kernel, by decide +kernel⟩
theorem o101 : CtxOk cx101 (psN nm101 2) := ⟨by decide +kernel, rfl, by decide +kernel, by decide +kernel⟩
theorem o104 : CtxOk cx104 (psN nm104 3) := ⟨by decide +kernel, rfl, by decide +kernel, by decide +kernel⟩
theorem DivH.fn100 (D : DivH B) : FnOk prog w B cx100 100 fd100 := FnOk.plain D.H100 o100 (code100_ok D.N) rfl rfl rfl (bind2 rfl D.p100)
theorem DivH.fn101 (D : DivH B) : FnOk prog w B cx101 101 fd101 := FnOk.plain D.H101 o101 (code101_ok D.N) rfl rfl rfl (bind2 rfl D.p101)
theorem DivH.fn104 (D : DivH B) : FnOk prog w B cx104 104 fd104 := FnOk.plain D.H104 o104 (code104_ok D.N) rfl rfl rfl (bind3 rfl D.p104)
theorem fill2 {fd : Fn} {x y : MV} (h1 : fd.np = 2) (h2 : fd.dflt = []) (h3 : fd.kw = false) : FillTo fd [x, y] none (padL [x, y] fd.nsl) := by
  refine ⟨[], by rw [h3]; rfl, by rw [h1]; exact Nat.le_refl _, by rw [h1, h2]; exact Nat.le_refl _, ?_⟩
  rw [h2, List.drop_nil]; rfl
theorem fill3 {fd : Fn} {x y z : MV} (h1 : fd.np = 3) (h2 : fd.dflt = []) (h3 : fd.kw = false) : FillTo fd [x, y, z] none (padL [x, y, z] fd.nsl) := by
  refine ⟨[], by rw [h3]; rfl, by rw [h1]; exact Nat.le_refl _, by rw [h1, h2]; exact Nat.le_refl _, ?_⟩
  rw [h2, List.drop_nil]; rfl
theorem e102_sound {a ν : Int} {st st' : St} {v : MV} (D : DivH B) (h : e102 a ν st = .ok v st') {A : Around} {as : List Addr} {s : Shared} {ta tn : Tok} (R : Room 8 A) (I : Inv B as st s.heap) : wpAny (model prog w) A (call (.ref (B.fa 102)) [.int a ta, .int ν tn] []) (Pst B as st' v s) No s := by
  unfold e102 at h
  split at h
  · rename_i hh
    obtain ⟨h1, h2, h3, h4, h5⟩ := hh
    obtain ⟨a, rfl⟩ := Int.eq_ofNat_of_zero_le h1
    obtain ⟨ν, rfl⟩ := Int.eq_ofNat_of_zero_le (show 0 ≤ ν by (first | lia | omega))
    cases h
    rw [Int.toNat_natCast, Int.toNat_natCast] at h5 ⊢
    exact f102 D.N D.H102 D.p102 D.q102 D.l102 (by (first | lia | omega)) (by (first | lia | omega)) (show a < 1099511627776 by (first | lia | omega)) h5 R I
  · cases h
theorem e103_sound {k : Nat} {ν : Int} {st st' : St} {v : MV} (D : DivH B) (h : e103 k ν st = .ok v st') {A : Around} {as : List Addr} {s : Shared} {a : Addr} {tn : Tok} (R : Room 8 A) (I : Inv B as st s.heap) (hk : as[k]? = some a) : wpAny (model prog w) A (call (.ref (B.fa 103)) [.ref a, .int ν tn] []) (Pst B as st' v s) No s := by
  refine ob_el (show ob st[k]? RV.no (fun l => e103l l ν st) = .ok v st' from h) nv fun l hl h1 => ?_
  refine ob_el (show ob (natsOf l) RV.no _ = .ok v st' from h1) nv fun qs hq h2 => ?_
  have e := natsOf_ok hq
  subst e
  clear h h1
  have h : (if 0 ≤ ν ∧ ν ≤ 64 ∧ qs.length ≤ 32 ∧ valD (2 ^ ν.toNat) qs < 2 ^ 60 then RV.ok (.int (valD (2 ^ ν.toNat) qs : Nat)) st else .no) = .ok v st' := h2
  split at h
  · rename_i hh
    obtain ⟨h1, h2, h3, h4⟩ := hh
    obtain ⟨ν, rfl⟩ := Int.eq_ofNat_of_zero_le h1
    cases h
    rw [Int.toNat_natCast] at h4 ⊢
    refine wp_to (f103 D.N D.H103 D.p103 D.q103 D.l103 (by (first | lia | omega)) hk hl h3 h4 R I) ?_
    rintro u s' ⟨t, rfl, G⟩
    exact ⟨as, G, .int _ _⟩
  · cases h
theorem c0_sc (D : DivH B) : SC prog w B 8 c0 := by
  intro f vs kw st v st' h A as s fv us kus R I rf rv rk
  unfold c0 at h
  split at h
  · have rk : kus = [] := rk
    subst rk
    (first | obtain rfl := rf.nil_i | obtain ⟨_, rfl⟩ := rf.int_i | obtain rfl := rf.none_i | obtain rfl := rf.bool_i | obtain ⟨_, rfl⟩ := rf.lin_i | obtain ⟨_, rfl, _⟩ := rf.flt_i | obtain ⟨_, rfl⟩ := rf.str_i | obtain rfl := rf.fn_i | obtain rfl := rf.bi_i | cases rf)
    obtain ⟨_, _, rfl, r0, r1⟩ := rv.two_i
    split at h
    · rename_i hm; subst hm
      obtain ⟨a, ha, h⟩ := intV_ok h nv
      obtain ⟨ν, hν, h⟩ := intV_ok h nv
      subst ha hν
      (first | obtain rfl := r0.nil_i | obtain ⟨_, rfl⟩ := r0.int_i | obtain rfl := r0.none_i | obtain rfl := r0.bool_i | obtain ⟨_, rfl⟩ := r0.lin_i | obtain ⟨_, rfl, _⟩ := r0.flt_i | obtain ⟨_, rfl⟩ := r0.str_i | obtain rfl := r0.fn_i | obtain rfl := r0.bi_i | cases r0); (first | obtain rfl := r1.nil_i | obtain ⟨_, rfl⟩ := r1.int_i | obtain rfl := r1.none_i | obtain rfl := r1.bool_i | obtain ⟨_, rfl⟩ := r1.lin_i | obtain ⟨_, rfl, _⟩ := r1.flt_i | obtain ⟨_, rfl⟩ := r1.str_i | obtain rfl := r1.fn_i | obtain rfl := r1.bi_i | cases r1)
      exact e102_sound D h R I
    · split at h
      · rename_i hm; subst hm
        obtain ⟨k, hk, h⟩ := lstV_ok h nv
        obtain ⟨ν, hν, h⟩ := intV_ok h nv
        subst hk hν
        (first | obtain rfl := r1.nil_i | obtain ⟨_, rfl⟩ := r1.int_i | obtain rfl := r1.none_i | obtain rfl := r1.bool_i | obtain ⟨_, rfl⟩ := r1.lin_i | obtain ⟨_, rfl, _⟩ := r1.flt_i | obtain ⟨_, rfl⟩ := r1.str_i | obtain rfl := r1.fn_i | obtain rfl := r1.bi_i | cases r1)
        obtain ⟨_, rfl, e⟩ := r0.lst_i
        exact e103_sound D h R I e
      · cases h
  · have rk : kus = [] := rk
    subst rk
    (first | obtain rfl := rf.nil_i | obtain ⟨_, rfl⟩ := rf.int_i | obtain rfl := rf.none_i | obtain rfl := rf.bool_i | obtain ⟨_, rfl⟩ := rf.lin_i | obtain ⟨_, rfl, _⟩ := rf.flt_i | obtain ⟨_, rfl⟩ := rf.str_i | obtain rfl := rf.fn_i | obtain rfl := rf.bi_i | cases rf)
    split at h
    · rename_i hm; subst hm
      exact runF_sound D.fn104 (n := 7) noC_ok (fill3 rfl rfl rfl) h R I rv rfl
    · cases h
  · cases h
theorem cc_sc (D : DivH B) : ∀ k, SC prog w B (9 + k) (cc k) := by
  intro k
  induction k with
  | zero =>
    intro f vs kw st v st' h A as s fv us kus R I rf rv rk
    unfold cc at h
    split at h
    · have rk : kus = [] := rk
      subst rk
      (first | obtain rfl := rf.nil_i | obtain ⟨_, rfl⟩ := rf.int_i | obtain rfl := rf.none_i | obtain rfl := rf.bool_i | obtain ⟨_, rfl⟩ := rf.lin_i | obtain ⟨_, rfl, _⟩ := rf.flt_i | obtain ⟨_, rfl⟩ := rf.str_i | obtain rfl := rf.fn_i | obtain rfl := rf.bi_i | cases rf)
      split at h
      · rename_i hm; subst hm
        exact runF_sound D.fn101 (n := 8) (c0_sc D) (fill2 rfl rfl rfl) h R I rv rfl
      · cases h
    · cases h
  | succ k ih =>
    intro f vs kw st v st' h A as s fv us kus R I rf rv rk
    unfold cc at h
    split at h
    · have rk : kus = [] := rk
      subst rk
      (first | obtain rfl := rf.nil_i | obtain ⟨_, rfl⟩ := rf.int_i | obtain rfl := rf.none_i | obtain rfl := rf.bool_i | obtain ⟨_, rfl⟩ := rf.lin_i | obtain ⟨_, rfl, _⟩ := rf.flt_i | obtain ⟨_, rfl⟩ := rf.str_i | obtain rfl := rf.fn_i | obtain rfl := rf.bi_i | cases rf)
      split at h
      · rename_i hm; subst hm
        exact runF_sound D.fn101 (n := 8) (c0_sc D) (fill2 rfl rfl rfl) h (R.le (by (first | lia | omega))) I rv rfl
      · split at h
        · rename_i hm; subst hm
          exact runF_sound D.fn100 (n := 9 + k) ih (fill2 rfl rfl rfl) h R I rv rfl
        · cases h
    · cases h
theorem okDiv_ok {n : Int} (h : okDiv n = true) : 0 < n.natAbs ∧ n.natAbs ≤ 63 := by
  have key : ∀ {b c : Bool}, bsel b true c = true → b = true ∨ c = true := fun {b c} h => by cases b; exact .inr h; exact .inl rfl
  unfold okDiv at h
  simp only [ieq_eq] at h
  rcases key h with h | h
  · rw [of_decide_eq_true h]; decide
  rcases key h with h | h
  · rw [of_decide_eq_true h]; decide
  rcases key h with h | h
  · rw [of_decide_eq_true h]; decide
  rcases key h with h | h
  · rw [of_decide_eq_true h]; decide
  rcases key h with h | h
  · rw [of_decide_eq_true h]; decide
  · rw [of_decide_eq_true h]; decide
theorem small_ok {as : List Addr} {h : Heap} {x : MV} {u : Value} {n : Int} {st : St} (hs : smallL x = true) (r : VRel B as h x u) : ∃ X t, u = .int X t ∧ X.natAbs < 2 ^ 31 ∧
    (∀ q st', bop .fdiv x (.int n) st = .ok q st' → ∀ as' h' t, VRel B as' h' q (.int (X.fdiv n) t)) ∧ (∀ q st', bop .mod x (.int n) st = .ok q st' → ∀ as' h' t, VRel B as' h' q (.int (X.fmod n) t)) := by
  cases x with
  | int i =>
    obtain ⟨t, rfl⟩ := r.int_i
    have hs := (iabs_iff _ _).mp (show iabs i 1000000 = true from hs)
    refine ⟨i, t, rfl, show i.natAbs < 2147483648 by (first | lia | omega), fun q st' e as' h' t => ?_, fun q st' e as' h' t => ?_⟩
    · have e : bopI .fdiv i n st = .ok q st' := e
      unfold bopI at e
      refine bsel_nel e nv fun h1 e => ?_
      refine bsel_el e nv fun h2 e => ?_
      rw [ifdiv_eq] at e; cases e
      exact .int _ _
    · have e : bopI .mod i n st = .ok q st' := e
      unfold bopI at e
      refine bsel_nel e nv fun h1 e => ?_
      rw [ifmod_eq] at e; cases e
      exact .int _ _
  | lin k a b =>
    have hs : bsel (Nat.beq k 0) (bsel (iabs a 4096) (iabs b 1000000) false) false = true := hs
    refine bsel_el hs (by decide) fun h0 hs => ?_
    refine bsel_el hs (by decide) fun h1 hs => ?_
    have h0 := beq_iff.mp h0
    have h1 := (iabs_iff _ _).mp h1
    have h2 := (iabs_iff _ _).mp hs
    subst h0
    obtain ⟨t, rfl⟩ := r.lin_i
    have hv := B.small
    refine ⟨a * B.va 0 + b, t, rfl, ?_, fun q st' e as' h' t => ?_, fun q st' e as' h' t => ?_⟩
    · have h3 : (a * B.va 0).natAbs ≤ 4096 * 10000 := by rw [Int.natAbs_mul]; exact Nat.mul_le_mul h1 hv
      show (a * B.va 0 + b).natAbs < 2147483648
      generalize a * B.va 0 = z at h3 ⊢
      (first | lia | omega)
    · have e : bopLI .fdiv 0 a b n st = .ok q st' := e
      unfold bopLI at e
      refine bsel_nel e nv fun g1 e => ?_
      refine bsel_el e nv fun g2 e => ?_
      refine bsel_el e nv fun g3 e => ?_
      rw [ieq_eq] at g1 g3
      obtain ⟨rfl, r⟩ := linK_ok (B := B) e
      have hy := decide_false g1
      have hm := of_decide_eq_true g3
      have hd : a = a.fdiv n * n := by have := Int.mul_fdiv_add_fmod a n; rw [hm, Int.add_zero] at this; rw [Int.mul_comm]; exact this.symm
      rw [show (a * B.va 0 + b).fdiv n = a.fdiv n * B.va 0 + b.fdiv n by
        conv => lhs; rw [hd, show a.fdiv n * n * B.va 0 + b = b + (a.fdiv n * B.va 0) * n by rw [Int.add_comm, Int.mul_right_comm]]
        rw [Int.add_mul_fdiv_right _ _ hy, Int.add_comm]]
      exact r _ _ _
    · have e : bopLI .mod 0 a b n st = .ok q st' := e
      unfold bopLI at e
      refine bsel_nel e nv fun g1 e => ?_
      refine bsel_el e nv fun g3 e => ?_
      rw [ieq_eq] at g1 g3
      rw [forceI_eq] at e; cases e
      have hm := of_decide_eq_true g3
      have hd : a = a.fdiv n * n := by have := Int.mul_fdiv_add_fmod a n; rw [hm, Int.add_zero] at this; rw [Int.mul_comm]; exact this.symm
      rw [show (a * B.va 0 + b).fmod n = b.fmod n by
        conv => lhs; rw [hd, show a.fdiv n * n * B.va 0 + b = b + (a.fdiv n * B.va 0) * n by rw [Int.add_comm, Int.mul_right_comm]]
        rw [Int.add_mul_fmod_self_right]]
      exact .int _ _
  | _ => cases hs
theorem divOk (D : DivH B) : DivOk prog w B := by
  intro vs st v st' h A as s us R I rv
  revert rv
  refine args_el (show args vs RV.no (fun _ => .no) (fun x y => intV y .no fun n => bsel (smallL x) (bsel (okDiv n) ((bop .fdiv x y st).b .no fun q _ => (bop .mod x y st).b .no fun r _ => .ok (.tup [q, r]) st) .no) .no) (fun _ _ _ => RV.no) = RV.ok v st' from h) nv (fun _ h => nomatch h) (fun x y h1 rv => ?_) (fun _ _ _ h => nomatch h)
  obtain ⟨n, hn, h2⟩ := intV_ok h1 nv
  subst hn
  refine bsel_el h2 nv fun hs h3 => ?_
  refine bsel_el h3 nv fun hd h4 => ?_
  refine RV.b_el h4 nv fun q stq hq h5 => ?_
  refine RV.b_el h5 nv fun r str hr h6 => ?_
  cases h6
  obtain ⟨_, _, rfl, r0, r1⟩ := rv.two_i
  obtain ⟨X, tx, rfl, hX, fq, fr⟩ := small_ok (n := n) (st := st) hs r0
  obtain ⟨tn, rfl⟩ := r1.int_i
  obtain ⟨d1, d2⟩ := okDiv_ok hd
  refine wp_to (runF_sound D.fn100 (n := 11) (cc_sc D 2) (vs := [.int X, .int n]) (fill2 rfl rfl rfl) (div100_2 (st := st) hX d1 d2) R I (.cons (.int _ _) (.cons (.int _ _) .nil)) rfl) ?_
  refine Pst.all fun u s' as' G ru => ?_
  refine ⟨as', G, ?_⟩
  obtain ⟨_, _, rfl, ht, rs⟩ := ru.tup_i
  obtain ⟨_, _, rfl, ra, rb⟩ := rs.two_i
  (first | obtain rfl := ra.nil_i | obtain ⟨_, rfl⟩ := ra.int_i | obtain rfl := ra.none_i | obtain rfl := ra.bool_i | obtain ⟨_, rfl⟩ := ra.lin_i | obtain ⟨_, rfl, _⟩ := ra.flt_i | obtain ⟨_, rfl⟩ := ra.str_i | obtain rfl := ra.fn_i | obtain rfl := ra.bi_i | cases ra); (first | obtain rfl := rb.nil_i | obtain ⟨_, rfl⟩ := rb.int_i | obtain rfl := rb.none_i | obtain rfl := rb.bool_i | obtain ⟨_, rfl⟩ := rb.lin_i | obtain ⟨_, rfl, _⟩ := rb.flt_i | obtain ⟨_, rfl⟩ := rb.str_i | obtain rfl := rb.fn_i | obtain rfl := rb.bi_i | cases rb)
  exact .tup ht (.cons (fq _ _ hq _ _ _) (.cons (fr _ _ hr _ _ _) .nil))
end Mine
end OfMD15
noncomputable section OfMD16
set_option autoImplicit false
set_option linter.unusedVariables false
namespace Mine
open PySem PySem.Calls PyProof.Rows PySem.SeqAt PySem.W
variable {prog : Program} {w : World} {B : Base} {C : Ctx}

structure HeadD (K : Frag) (H : HeadK K) : Prop where
  k100 : FnK K 70 nm100 (bod 13) H.d100
  k101 : FnK K 63 nm101 (bod 12) H.d101
  k102 : FnK K 49 nm102 (bod 10) H.d102
  k103 : FnK K 56 nm103 (bod 11) H.d103
  k104 : FnK K 35 nm104 (bod 8) H.d104
  p100 : ∀ a b, bindArgs H.d100 ⟨[a, b], []⟩ = pure ((psN nm100 2).zip [a, b])
  p101 : ∀ a b, bindArgs H.d101 ⟨[a, b], []⟩ = pure ((psN nm101 2).zip [a, b])
  p102 : ∀ a b, bindArgs H.d102 ⟨[a, b], []⟩ = pure [(Str.ofString "a", a), (Str.ofString "n", b)]
  p103 : ∀ a b, bindArgs H.d103 ⟨[a, b], []⟩ = pure [(Str.ofString "digits", a), (Str.ofString "n", b)]
  p104 : ∀ a b c, bindArgs H.d104 ⟨[a, b, c], []⟩ = pure ((psN nm104 3).zip [a, b, c])
  m101 : nsIn K mainGlobals (Str.ofString "_divmod_pos") = some (some (.ref 63))
  m102 : nsIn K mainGlobals (Str.ofString "_int2digits") = some (some (.ref 49))
  m103 : nsIn K mainGlobals (Str.ofString "_digits2int") = some (some (.ref 56))
  m104 : nsIn K mainGlobals (Str.ofString "_div2n1n") = some (some (.ref 35))
  lim : ∃ t, nsIn K mainGlobals (Str.ofString "_DIV_LIMIT") = some (some (.int 4000 t))
  n1 : nsIn K mainGlobals (Str.ofString "divmod") = some none
  n2 : nsIn K mainGlobals (Str.ofString "reversed") = some none
theorem bootE2 : bootBuiltins (Str.ofString "divmod") = some (.builtin "divmod") ∧ bootBuiltins (Str.ofString "reversed") = some (.type "reversed") := by decide +kernel
theorem HeadB.div {K : Frag} {h : Heap} {mg mb : Str → Option Value} (Y : HeadB K h mg mb) (H : HeadK K) (D : HeadD K H) (e0 : B.h₀ = h) (e1 : B.mg = mg) (e2 : B.mb = mb) (e3 : B.fa = faOf) (e4 : B.tc = three H.c9 H.c102 H.c103)
    (e5 : B.lq = three (H.d9.qualname ++ ".<locals>." ++ "<lambda>") (H.d102.qualname ++ ".<locals>." ++ "inner") (H.d103.qualname ++ ".<locals>." ++ "inner")) : DivOk prog w B := by
  obtain ⟨q1, q2⟩ := bootE2
  have X : K.In B.h₀ := by rw [e0]; exact Y.X
  have N0 := Y.names H e1 e2 e3
  have g {n : Str} {v : Value} (q : nsIn K mainGlobals n = some (some v)) : B.mg n = some v := by rw [e1]; exact mg_of Y.X Y.gl q
  have no {n : Str} (q : nsIn K mainGlobals n = some none) : B.mg n = none := by rw [e1]; exact mg_none_of Y.X Y.gl q
  have bu {n : Str} {v : Value} (hn : n ≠ "__name__") (q : bootBuiltins n = some v) : B.mb n = some v := by rw [e2, Y.bu n hn]; exact q
  have fa {m a : Nat} (e : faOf m = a) : B.fa m = a := by rw [e3]; exact e
  obtain ⟨t, lim⟩ := D.lim
  have N : NamesD B := {
    f100 := N0.f100
    f101 := by rw [e3]; exact g D.m101
    f102 := by rw [e3]; exact g D.m102
    f103 := by rw [e3]; exact g D.m103
    f104 := by rw [e3]; exact g D.m104
    lim := ⟨t, g lim⟩
    n_divmod := no D.n1
    n_reversed := no D.n2
    n_len := N0.n_len
    b_divmod := bu (by decide +kernel) q1
    b_reversed := bu (by decide +kernel) q2
    b_len := N0.b_len }
  refine divOk {
    N := N
    d100 := H.d100
    d101 := H.d101
    d102 := H.d102
    d103 := H.d103
    d104 := H.d104
    H100 := D.k100.fnH X (fa rfl) rfl (fun e => absurd e (by decide))
    H101 := D.k101.fnH X (fa rfl) rfl (fun e => absurd e (by decide))
    H102 := D.k102.fnH X (fa rfl) rfl (fun e => absurd e (by decide))
    H103 := D.k103.fnH X (fa rfl) rfl (fun e => absurd e (by decide))
    H104 := D.k104.fnH X (fa rfl) rfl (fun e => absurd e (by decide))
    p100 := D.p100
    p101 := D.p101
    p102 := D.p102
    p103 := D.p103
    p104 := D.p104
    q102 := by rw [e4]; exact (H.t102.at Y.X).1
    q103 := by rw [e4]; exact (H.t103.at Y.X).1
    l102 := by rw [e5]; rfl
    l103 := by rw [e5]; rfl }
end Mine
end OfMD16
section OfLast
open PySem PySem.W PyProof.Rows
namespace Mine
theorem withK {K : Frag} {h : Heap} {P : Prop} (X : K.In h) (f : (H : HeadK K) → HeadD K H → P) (H : HeadK K) (D : HeadD K H) : P := f H D
end Mine
end OfLast
open PySem PySem.W PyProof.Rows
open PySem.W.X PySem.W.ZRun
set_option maxRecDepth 100000 in
theorem Mine.said0 : looksOpen PySem.Challenge.rw_ty0060_01.row.prog = true := by
  rw [PySem.W.Fast.te12908688711261696721]
  kernel_rfl
set_option maxRecDepth 100000 in
theorem Mine.said1 : PySem.Challenge.rw_ty0060_01.row.partSaid = true := by
  delta OpenRow.partSaid
  rw [Mine.said0]
  kernel_rfl
set_option maxRecDepth 100000 in
theorem Mine.said2 : PySem.Challenge.rw_ty0060_01.row.wellSaid = true := by
  delta OpenRow.wellSaid
  rw [Mine.said1]
  kernel_rfl
set_option maxRecDepth 100000 in
theorem Mine.said : PySem.Challenge.rw_ty0060_01.wellSaid = true := by
  delta OpenLaw.wellSaid
  rw [Mine.said2, PySem.W.Fast.te8326940854005059898, PySem.W.Fast.te17119622794617984870, PySem.W.Fast.te9558739934217749035]
  kernel_rfl
local macro_rules
  | `(tactic| refine $f:ident $as*) => do
    if f.getId == ``PySem.W.holds_openX then
      let h := Lean.mkIdent `hl
      `(tactic| (refine' $f $as*; (case $h:ident => exact fun w => by kernel_rfl)))
    else Lean.Macro.throwUnsupported
set_option maxRecDepth 100000 in
set_option maxHeartbeats 8000000 in
theorem PySem.Challenge.cw_ty0060_01_holds : PySem.Challenge.rw_ty0060_01.Holds := by
  w_on
  refine holds_law Mine.said fun said => ?_
  z_head
  (case hw => w_witness2)
  k_fill
  intro w s₀ s₁ mg mb G y fa o pm cd doc dV kV ho hd hcd hD hmg hg args vals as L hpre hlay hrd hwl hlo
  z_open y L KX ZH ZN ZT
  refine Ground.open G ?_
  intro T B D TE TW
  wrow_args hpre hlay hrd hwl hlo
  obtain ⟨hat, hsz⟩ := script_at L
  have htk := script_toks L ZT
  rw [ZN] at hat hsz
  subst hat
  x_fa T KX hmg
  refine Mine.withK KX ?_ {
    d0 := _
    d1 := _
    d2 := _
    d3 := _
    d4 := _
    d5 := _
    d6 := _
    d7 := _
    d8 := _
    d9 := _
    d10 := _
    d100 := _
    d101 := _
    d102 := _
    d103 := _
    d104 := _
    k0 := ⟨⟨_, rfl, rfl, rfl⟩, ⟨_, _, _, _, rfl, rfl, rfl, rfl, rfl⟩, rfl, rfl, rfl, rfl, rfl, rfl, rfl, rfl⟩
    k1 := ⟨⟨_, rfl, rfl, rfl⟩, ⟨_, _, _, _, rfl, rfl, rfl, rfl, rfl⟩, rfl, rfl, rfl, rfl, rfl, rfl, rfl, rfl⟩
    k2 := ⟨⟨_, rfl, rfl, rfl⟩, ⟨_, _, _, _, rfl, rfl, rfl, rfl, rfl⟩, rfl, rfl, rfl, rfl, rfl, rfl, rfl, rfl⟩
    k3 := ⟨⟨_, rfl, rfl, rfl⟩, ⟨_, _, _, _, rfl, rfl, rfl, rfl, rfl⟩, rfl, rfl, rfl, rfl, rfl, rfl, rfl, rfl⟩
    k4 := ⟨⟨_, rfl, rfl, rfl⟩, ⟨_, _, _, _, rfl, rfl, rfl, rfl, rfl⟩, rfl, rfl, rfl, rfl, rfl, rfl, rfl, rfl⟩
    k5 := ⟨⟨_, rfl, rfl, rfl⟩, ⟨_, _, _, _, rfl, rfl, rfl, rfl, rfl⟩, rfl, rfl, rfl, rfl, rfl, rfl, rfl, rfl⟩
    k6 := ⟨⟨_, rfl, rfl, rfl⟩, ⟨_, _, _, _, rfl, rfl, rfl, rfl, rfl⟩, rfl, rfl, rfl, rfl, rfl, rfl, rfl, rfl⟩
    k7 := ⟨⟨_, rfl, rfl, rfl⟩, ⟨_, _, _, _, rfl, rfl, rfl, rfl, rfl⟩, rfl, rfl, rfl, rfl, rfl, rfl, rfl, rfl⟩
    k8 := ⟨⟨_, rfl, rfl, rfl⟩, ⟨_, _, _, _, rfl, rfl, rfl, rfl, rfl⟩, rfl, rfl, rfl, rfl, rfl, rfl, rfl, rfl⟩
    k9 := ⟨⟨_, rfl, rfl, rfl⟩, ⟨_, _, _, _, rfl, rfl, rfl, rfl, rfl⟩, rfl, rfl, rfl, rfl, rfl, rfl, rfl, rfl⟩
    k10 := ⟨⟨_, rfl, rfl, rfl⟩, ⟨_, _, _, _, rfl, rfl, rfl, rfl, rfl⟩, rfl, rfl, rfl, rfl, rfl, rfl, rfl, rfl⟩
    p10 := fun _ => rfl
    p0 := fun _ _ => rfl
    p1 := fun _ _ _ => rfl
    p2 := ⟨71, _, 72, _, _, rfl, rfl, rfl, rfl, fun _ _ _ => rfl, fun _ _ _ _ => rfl, fun _ _ _ _ => rfl, fun _ _ _ _ _ => rfl, fun _ _ _ _ _ => rfl, fun _ _ _ _ _ _ => rfl⟩
    p3 := ⟨80, _, 81, _, _, rfl, rfl, rfl, rfl, fun _ _ _ => rfl, fun _ _ _ _ => rfl, fun _ _ _ _ => rfl, fun _ _ _ _ _ => rfl, fun _ _ _ _ _ => rfl, fun _ _ _ _ _ _ => rfl⟩
    p4 := ⟨89, _, 90, _, _, rfl, rfl, rfl, rfl, fun _ _ _ => rfl, fun _ _ _ _ => rfl, fun _ _ _ _ => rfl, fun _ _ _ _ _ => rfl, fun _ _ _ _ _ => rfl, fun _ _ _ _ _ _ => rfl⟩
    p5 := fun _ _ _ => rfl
    p6 := fun _ _ _ => rfl
    p7 := fun _ _ _ => rfl
    p8 := fun _ _ => rfl
    p9 := fun _ _ _ => rfl
    c9 := _
    P9 := _
    c102 := _
    P102 := _
    c103 := _
    P103 := _
    t9 := ⟨_, _, _, _, _, _, _, _, _, rfl, rfl, rfl, rfl, rfl, rfl, rfl, rfl, rfl, rfl, rfl, by decide⟩
    t102 := ⟨_, _, _, _, _, _, _, _, _, rfl, rfl, rfl, rfl, rfl, rfl, rfl, rfl, rfl, rfl, rfl, by decide⟩
    t103 := ⟨_, _, _, _, _, _, _, _, _, rfl, rfl, rfl, rfl, rfl, rfl, rfl, rfl, rfl, rfl, rfl, by decide⟩
    ne1 := by decide
    ne2 := by decide
    ne3 := by decide
    o100 := ⟨_, rfl, rfl, rfl⟩
    o101 := ⟨_, rfl, rfl, rfl⟩
    o102 := ⟨_, rfl, rfl, rfl⟩
    o103 := ⟨_, rfl, rfl, rfl⟩
    o104 := ⟨_, rfl, rfl, rfl⟩
    m0 := rfl
    m1 := rfl
    m2 := rfl
    m3 := rfl
    m4 := rfl
    m5 := rfl
    m6 := rfl
    m7 := rfl
    m8 := rfl
    m9 := rfl
    m100 := rfl
    c1 := ⟨_, rfl⟩
    c2 := ⟨_, rfl⟩
    c3 := ⟨_, rfl⟩
    n1 := rfl
    n2 := rfl
    n3 := rfl
    n4 := rfl
    n5 := rfl
    n6 := rfl
    n7 := rfl
    n8 := rfl
    n9 := rfl } {
    k100 := ⟨⟨_, rfl, rfl, rfl⟩, ⟨_, _, _, _, rfl, rfl, rfl, rfl, rfl⟩, rfl, rfl, rfl, rfl, rfl, rfl, rfl, rfl⟩
    k101 := ⟨⟨_, rfl, rfl, rfl⟩, ⟨_, _, _, _, rfl, rfl, rfl, rfl, rfl⟩, rfl, rfl, rfl, rfl, rfl, rfl, rfl, rfl⟩
    k102 := ⟨⟨_, rfl, rfl, rfl⟩, ⟨_, _, _, _, rfl, rfl, rfl, rfl, rfl⟩, rfl, rfl, rfl, rfl, rfl, rfl, rfl, rfl⟩
    k103 := ⟨⟨_, rfl, rfl, rfl⟩, ⟨_, _, _, _, rfl, rfl, rfl, rfl, rfl⟩, rfl, rfl, rfl, rfl, rfl, rfl, rfl, rfl⟩
    k104 := ⟨⟨_, rfl, rfl, rfl⟩, ⟨_, _, _, _, rfl, rfl, rfl, rfl, rfl⟩, rfl, rfl, rfl, rfl, rfl, rfl, rfl, rfl⟩
    p100 := fun _ _ => rfl
    p101 := fun _ _ => rfl
    p102 := fun _ _ => rfl
    p103 := fun _ _ => rfl
    p104 := fun _ _ _ => rfl
    m101 := rfl
    m102 := rfl
    m103 := rfl
    m104 := rfl
    lim := ⟨_, rfl⟩
    n1 := rfl
    n2 := rfl }
  intro H HD
  have Y : Mine.HeadB _ s₁.heap mg mb := ⟨KX, T.nolimit, T.g, T.b, T.builtins, T.bmain⟩
  rename_i _ _ _ _ _ _ _ _ _ _ hI _ hlen _ hL _ _
  refine Mine.wp_any (Mine.law_call H Y (fun B e0 e1 e2 e3 e4 e5 => Y.div H HD e0 e1 e2 e3 e4 e5) ⟨rfl, by decide, by decide⟩ hL hI (by have := hI.length; omega)) ?_
  rintro v s' ⟨rfl, hold, hgens, hos⟩
  exact ⟨.inl ⟨_, _, [], rfl, fun _ => rfl, ReadsW.bool true, by first | rfl | wrow_post, fun _ => ⟨List.nodup_nil, fun _ hm => nomatch hm⟩⟩, hold, hos, .of_eq (hgens.trans hg)⟩
