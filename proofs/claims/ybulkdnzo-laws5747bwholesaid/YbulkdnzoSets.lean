/-
  S5747B: THE PLAIN PART: a byte as a set of bits, the elements of a list by their bits. No walk here.
-/
import Derived.Laws.Entries
import Derived.Laws.Shifts
namespace Go.Proofs.Ybulkdnzo.lawS5747BWhole

/-- '1 << n' at a byte. -/
def shlV (n : Int) : Int := IntKind.u8.wrap (1 * 2 ^ min n.toNat 8)
theorem sh_eq (n : Int) (h : 0 ≤ n) : Op.shift .shl .u8 1 .u8 n = pure (.int .u8 (shlV n)) := shift_shl_any .u8 .u8 1 n h

/-- Is b among the first k numbers? -/
def has (zs : List Int) (b : Int) : Nat → Bool
  | 0 => false
  | k + 1 => has zs b k || (zs[k]?.getD 0 == b)

/-- The byte whose bit b is on where 'p b', of the bits below n. -/
def maskTo (p : Nat → Bool) : Nat → Int
  | 0 => 0
  | n + 1 => maskTo p n + if p n then 2 ^ n else 0

/-- What setOf has gathered behind k elements. -/
def setTo (zs : List Int) : Nat → Int
  | 0 => 0
  | k + 1 => bits .or .u8 (setTo zs k) (shlV (zs[k]?.getD 0))

def bit8 (a0 a1 a2 a3 a4 a5 a6 a7 : Bool) : Int :=
  (if a0 then 1 else 0) + (if a1 then 2 else 0) + (if a2 then 4 else 0) + (if a3 then 8 else 0) + (if a4 then 16 else 0) + (if a5 then 32 else 0) + (if a6 then 64 else 0) + (if a7 then 128 else 0)

theorem mask8 (p : Nat → Bool) : maskTo p 8 = bit8 (p 0) (p 1) (p 2) (p 3) (p 4) (p 5) (p 6) (p 7) := by
  simp [maskTo, bit8]

set_option maxRecDepth 100000 in
theorem or_none : ∀ a0 a1 a2 a3 a4 a5 a6 a7 : Bool, bits .or .u8 (bit8 a0 a1 a2 a3 a4 a5 a6 a7) 0 = bit8 a0 a1 a2 a3 a4 a5 a6 a7 := by decide +kernel

set_option maxRecDepth 100000 in
theorem or_bit : ∀ (n : Fin 8) (a0 a1 a2 a3 a4 a5 a6 a7 : Bool), bits .or .u8 (bit8 a0 a1 a2 a3 a4 a5 a6 a7) (2 ^ n.val) =
    bit8 (a0 || n.val == 0) (a1 || n.val == 1) (a2 || n.val == 2) (a3 || n.val == 3) (a4 || n.val == 4) (a5 || n.val == 5) (a6 || n.val == 6) (a7 || n.val == 7) := by decide +kernel

theorem shl_high (n : Int) (h : 8 ≤ n) : shlV n = 0 := by
  have : min n.toNat 8 = 8 := by omega
  unfold shlV; rw [this]; decide

theorem shl_low (n : Nat) (h : n < 8) : shlV (n : Int) = 2 ^ n := by
  have : min (n : Int).toNat 8 = n := by omega
  unfold shlV; rw [this]
  have : ∀ m : Fin 8, IntKind.u8.wrap (1 * 2 ^ m.val) = 2 ^ m.val := by decide
  exact this ⟨n, h⟩

theorem or_step (p : Nat → Bool) (z : Int) (h : 0 ≤ z) : bits .or .u8 (maskTo p 8) (shlV z) = maskTo (fun b => p b || z == (b : Int)) 8 := by
  rw [mask8, mask8]
  by_cases h8 : 8 ≤ z
  · have e : ∀ b : Nat, b < 8 → (z == (b : Int)) = false := fun b hb => by simp; omega
    rw [shl_high z h8, or_none]
    simp only [e 0 (by omega), e 1 (by omega), e 2 (by omega), e 3 (by omega), e 4 (by omega), e 5 (by omega), e 6 (by omega), e 7 (by omega), Bool.or_false]
  · obtain ⟨n, rfl⟩ := Int.eq_ofNat_of_zero_le h
    have hn : n < 8 := by omega
    rw [shl_low n hn]
    have e : ∀ b : Nat, ((n : Int) == (b : Int)) = (n == b) := fun b => by rw [Bool.eq_iff_iff]; simp; omega
    simp only [e]
    exact or_bit ⟨n, hn⟩ _ _ _ _ _ _ _ _

theorem setTo_eq (zs : List Int) (h : ∀ j : Nat, 0 ≤ zs[j]?.getD 0) : ∀ k, setTo zs k = maskTo (fun b => has zs b k) 8
  | 0 => by simp [setTo, maskTo, has]
  | k + 1 => by
    rw [setTo, setTo_eq zs h k, or_step _ _ (h k)]
    rfl

theorem pow_bd (n : Nat) (h : n < 8) : (1 : Int) ≤ 2 ^ n ∧ (2 : Int) ^ n ≤ 128 := by
  have : ∀ m : Fin 8, (1 : Int) ≤ 2 ^ m.val ∧ (2 : Int) ^ m.val ≤ 128 := by decide
  exact this ⟨n, h⟩

theorem maskTo_bd (p : Nat → Bool) : ∀ n : Nat, 0 ≤ maskTo p n ∧ maskTo p n + 1 ≤ 2 ^ n
  | 0 => by simp [maskTo]
  | n + 1 => by
    have := maskTo_bd p n
    rw [maskTo, Int.pow_succ]
    split <;> omega

/-- The weight ahead of round b. -/
def wt (b : Nat) : Int := 2 ^ b % 256
theorem wt_low (b : Nat) (h : b < 8) : wt b = 2 ^ b := by have := pow_bd b h; unfold wt; omega
theorem wt_step (b : Nat) : wt (b + 1) = wt b * 2 % 256 := by unfold wt; rw [Int.pow_succ]; omega
theorem wt_bd (b : Nat) : 0 ≤ wt b ∧ wt b ≤ 255 := by unfold wt; omega
/-- The sum fits a byte. -/
theorem sum_bd (p : Nat → Bool) (b : Nat) (h : b < 8) : 0 ≤ maskTo p b ∧ 0 ≤ wt b ∧ wt b ≤ 128 ∧ maskTo p b + wt b ≤ 255 := by
  have h1 := maskTo_bd p b
  have h2 := pow_bd b h
  rw [wt_low b h]
  omega
theorem mask_on (p : Nat → Bool) (b : Nat) (h : b < 8) (hp : p b = true) : maskTo p (b + 1) = maskTo p b + wt b := by
  rw [maskTo, hp, wt_low b h]; rfl
theorem mask_off (p : Nat → Bool) (b : Nat) (hp : p b = false) : maskTo p (b + 1) = maskTo p b := by
  rw [maskTo, hp]; simp

theorem has_mono (zs : List Int) (b : Int) (k : Nat) (h : has zs b k = true) : ∀ n, k ≤ n → has zs b n = true
  | 0, hn => by obtain rfl : k = 0 := by omega
                exact h
  | n + 1, hn => by
    by_cases e : k = n + 1
    · rw [← e]; exact h
    · rw [has, has_mono zs b k h n (by omega)]; rfl
theorem has_hit (zs : List Int) (b : Int) (k n : Nat) (h : (zs[k]?.getD 0 == b) = true) (hn : k < n) : has zs b n = true :=
  has_mono zs b (k + 1) (by rw [has, h, Bool.or_true]) n hn
theorem has_miss (zs : List Int) (b : Int) (k : Nat) (h0 : has zs b k = false) (h : (zs[k]?.getD 0 == b) = false) : has zs b (k + 1) = false := by
  rw [has, h0, h]; rfl

end Go.Proofs.Ybulkdnzo.lawS5747BWhole
