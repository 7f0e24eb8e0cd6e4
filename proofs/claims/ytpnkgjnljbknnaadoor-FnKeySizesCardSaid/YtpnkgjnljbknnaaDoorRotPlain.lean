/-
  Plain laws, with no program in sight: turning 28 bits, functions that keep the or of words, a table of sixteen turns. Conditions: none.
-/
import Derived.Test.YtpnkgjnljbknnaaDoorPlain
import Derived.Test.YtpnkgjnljbknnaaDoorLists
namespace Go.Proofs.YtpnkgjnljbknnaaDoor

/-- Functions of words that keep 'or'. -/
def OrHom (f : BitVec 64 → BitVec 64) : Prop := ∀ x y, f (x ||| y) = f x ||| f y

theorem OrHom.id : OrHom (fun x => x) := fun _ _ => rfl
theorem or4 (a b c d : BitVec 64) : (a ||| b) ||| (c ||| d) = (a ||| c) ||| (b ||| d) := by
  rw [BitVec.or_assoc, BitVec.or_assoc, ← BitVec.or_assoc b, BitVec.or_comm b, BitVec.or_assoc c]
theorem and_or (x y c : BitVec 64) : (x ||| y) &&& c = (x &&& c) ||| (y &&& c) := by
  apply BitVec.eq_of_getLsbD_eq
  intro i _
  simp
  cases x.getLsbD i <;> cases y.getLsbD i <;> cases c.getLsbD i <;> rfl
theorem OrHom.or {f g : BitVec 64 → BitVec 64} (hf : OrHom f) (hg : OrHom g) : OrHom (fun x => f x ||| g x) := fun x y => by
  show f (x ||| y) ||| g (x ||| y) = _
  rw [hf, hg, or4]
theorem OrHom.shl {f : BitVec 64 → BitVec 64} (hf : OrHom f) (n : Nat) : OrHom (fun x => f x <<< n) := fun x y => by
  show f (x ||| y) <<< n = _
  rw [hf, BitVec.shiftLeft_or_distrib]
theorem OrHom.shr {f : BitVec 64 → BitVec 64} (hf : OrHom f) (n : Nat) : OrHom (fun x => f x >>> n) := fun x y => by
  show f (x ||| y) >>> n = _
  rw [hf, BitVec.ushiftRight_or_distrib]
theorem OrHom.and {f : BitVec 64 → BitVec 64} (hf : OrHom f) (c : BitVec 64) : OrHom (fun x => f x &&& c) := fun x y => by
  show f (x ||| y) &&& c = _
  rw [hf, and_or]
theorem OrHom.comp {f g : BitVec 64 → BitVec 64} (hf : OrHom f) (hg : OrHom g) : OrHom (fun x => f (g x)) := fun x y => by
  show f (g (x ||| y)) = _
  rw [hg, hf]

/-- Two such functions that agree at zero and at the first N bits agree at every word of N bits. -/
theorem or_ext {f g : BitVec 64 → BitVec 64} (hf : OrHom f) (hg : OrHom g) (N : Nat) (hN : N ≤ 64) (h0 : f 0#64 = g 0#64)
    (h : ∀ i, i < N → f (1#64 <<< i) = g (1#64 <<< i)) (x : BitVec 64) (hx : ∀ j, N ≤ j → x.getLsbD j = false) : f x = g x := by
  have key : ∀ n, n ≤ N → ∀ x : BitVec 64, (∀ j, n ≤ j → x.getLsbD j = false) → f x = g x := by
    intro n
    induction n with
    | zero =>
      intro _ x hx
      have : x = 0#64 := by
        apply BitVec.eq_of_getLsbD_eq
        intro i _
        rw [hx i (Nat.zero_le _)]; simp
      rw [this, h0]
    | succ n ih =>
      intro hn x hx
      by_cases hb : x.getLsbD n = true
      · have e : x = (x ^^^ 1#64 <<< n) ||| (1#64 <<< n) := by
          apply BitVec.eq_of_getLsbD_eq
          intro i hi
          rw [BitVec.getLsbD_or, BitVec.getLsbD_xor]
          by_cases hin : i = n
          · subst hin; simp [hb, hi]
          · have : (1#64 <<< n).getLsbD i = false := by simp; omega
            rw [this]; simp
        have h1 : f (x ^^^ 1#64 <<< n) = g (x ^^^ 1#64 <<< n) := by
          apply ih (by omega)
          intro j hj
          by_cases hjn : j = n
          · subst hjn
            simp [hb]
            omega
          · have := hx j (by omega)
            simp [this]
            omega
        rw [e, hf, hg, h n (by omega), h1]
      · apply ih (by omega)
        intro j hj
        by_cases hjn : j = n
        · subst hjn; simpa using hb
        · exact hx j (by omega)
  exact key N (Nat.le_refl _) x hx

/-! ### 28 bits -/
def Low28 (y : BitVec 64) : Prop := ∀ j, 28 ≤ j → y.getLsbD j = false
theorem mask_bit (m : BitVec 64) (n : Nat) (hm : m.toNat < 2 ^ n) (j : Nat) (h : n ≤ j) : m.getLsbD j = false := by
  apply Nat.testBit_lt_two_pow
  exact Nat.lt_of_lt_of_le hm (Nat.pow_le_pow_right (by decide) h)
theorem low28_and (y : BitVec 64) : Low28 (y &&& 268435455#64) := by
  intro j hj
  rw [BitVec.getLsbD_and, mask_bit 268435455#64 28 (by decide) j hj, Bool.and_false]
theorem low28_lt {y : BitVec 64} (h : y.toNat < 268435456) : Low28 y := mask_bit y 28 (by simpa using h)

/-- 28 bits turned to the left. -/
def turn (r : Nat) (y : BitVec 64) : BitVec 64 := ((y <<< r) ||| (y >>> (28 - r))) &&& 268435455#64
theorem turn_hom (r : Nat) : OrHom (turn r) := .and (.or (.shl .id _) (.shr .id _)) _
theorem turn_low (r : Nat) (y : BitVec 64) : Low28 (turn r y) := low28_and _

/-- The same as a word of 32 bits is turned. -/
def turnW1 (y : BitVec 64) : BitVec 64 := ((((y <<< 5) &&& 4294967295#64) >>> 4) ||| (((y <<< 4) &&& 4294967295#64) >>> 31)) &&& 4294967295#64
def turnW2 (y : BitVec 64) : BitVec 64 := ((((y <<< 6) &&& 4294967295#64) >>> 4) ||| (((y <<< 4) &&& 4294967295#64) >>> 30)) &&& 4294967295#64
theorem turnW1_hom : OrHom turnW1 := .and (.or (.shr (.and (.shl .id _) _) _) (.shr (.and (.shl .id _) _) _)) _
theorem turnW2_hom : OrHom turnW2 := .and (.or (.shr (.and (.shl .id _) _) _) (.shr (.and (.shl .id _) _) _)) _
theorem turnW1_eq (y : BitVec 64) (h : Low28 y) : turnW1 y = turn 1 y :=
  or_ext turnW1_hom (turn_hom 1) 28 (by decide) (by decide +kernel) (by decide +kernel) y h
theorem turnW2_eq (y : BitVec 64) (h : Low28 y) : turnW2 y = turn 2 y :=
  or_ext turnW2_hom (turn_hom 2) 28 (by decide) (by decide +kernel) (by decide +kernel) y h

/-! ### the sixteen turns -/
def rotK (y : BitVec 64) : Nat → BitVec 64
  | 0 => y
  | k + 1 => turn (ksL.getD k 0) (rotK y k)
theorem rotK_hom : ∀ k, OrHom (fun y => rotK y k)
  | 0 => OrHom.id
  | k + 1 => OrHom.comp (turn_hom (ksL.getD k 0)) (rotK_hom k)
theorem rotK_low (y : BitVec 64) (h : Low28 y) : ∀ k, Low28 (rotK y k)
  | 0 => h
  | _ + 1 => turn_low _ _
theorem rotK_all (y : BitVec 64) (h : Low28 y) : rotK y 16 = y :=
  or_ext (rotK_hom 16) OrHom.id 28 (by decide) (by decide +kernel) (by decide +kernel) y h
theorem ksL_12 : ∀ k, k < 16 → ksL.getD k 0 = 1 ∨ ksL.getD k 0 = 2 := by decide +kernel
theorem ksL_1 : ∀ k, k < 16 → (ksL.getD k 0 = 1 ↔ (k = 0 ∨ k = 1 ∨ k = 8 ∨ k = 15)) := by decide +kernel
theorem rotK_step1 (y z : BitVec 64) (k : Nat) (hz : z = rotK y k) (hl : Low28 z) (hk : ksL.getD k 0 = 1) : turnW1 z = rotK y (k + 1) := by
  rw [turnW1_eq z hl, rotK, hk, hz]
theorem rotK_step2 (y z : BitVec 64) (k : Nat) (hz : z = rotK y k) (hl : Low28 z) (hk : ksL.getD k 0 = 2) : turnW2 z = rotK y (k + 1) := by
  rw [turnW2_eq z hl, rotK, hk, hz]

theorem r_u32 (x : BitVec 64) : IntKind.u32.wrap (B x) = B (x &&& 4294967295#64) := by
  unfold B
  rw [BitVec.toNat_and]
  have : (4294967295#64).toNat = 2 ^ 32 - 1 := by decide
  rw [this, Nat.and_two_pow_sub_one_eq_mod]
  simp [IntKind.wrap, IntKind.bits, IntKind.signed]
theorem wrap32_of_64 (n : Int) : IntKind.u32.wrap n = IntKind.u32.wrap (IntKind.u64.wrap n) := by
  simp only [IntKind.wrap, IntKind.bits, IntKind.signed]
  simp
theorem r_shl32 (x : BitVec 64) (n : Nat) : IntKind.u32.wrap (B x * 2 ^ n) = B ((x <<< n) &&& 4294967295#64) := by
  rw [wrap32_of_64, r_shl, r_u32]
theorem r_or32 (x y : BitVec 64) : bits .or .u32 (B x) (B y) = B ((x ||| y) &&& 4294967295#64) := by
  show IntKind.u32.wrap ((BitVec.ofInt 32 (B x) ||| BitVec.ofInt 32 (B y)).toNat : Int) = _
  have ex : ∀ z : BitVec 64, BitVec.ofInt 32 (B z) = z.setWidth 32 := by
    intro z
    unfold B
    rw [BitVec.ofInt_natCast]
    apply BitVec.eq_of_toNat_eq
    simp
  rw [ex, ex, ← BitVec.setWidth_or, BitVec.toNat_setWidth, ← r_u32]
  unfold B
  simp [IntKind.wrap, IntKind.bits, IntKind.signed]
end Go.Proofs.YtpnkgjnljbknnaaDoor
