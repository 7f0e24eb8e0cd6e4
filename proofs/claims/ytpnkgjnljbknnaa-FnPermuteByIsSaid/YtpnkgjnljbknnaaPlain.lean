/-
  Plain laws, with no program in sight: words of 64 bits as the model's integers, the exchanges of bits, the permutation by places of bits, 48 bits spread out. Conditions: none.
-/
import Derived.Laws.Bits64b
namespace Go.Proofs.Ytpnkgjnljbknnaa

/-- A word of 64 bits as the model's integer. -/
def B (x : BitVec 64) : Int := (x.toNat : Int)

theorem B_lt (x : BitVec 64) : B x < 18446744073709551616 := by
  have := x.isLt; unfold B; omega
theorem B_nonneg (x : BitVec 64) : 0 ≤ B x := by unfold B; omega
theorem B_inj {x y : BitVec 64} (h : B x = B y) : x = y := by
  apply BitVec.eq_of_toNat_eq; unfold B at h; omega
theorem B_ofInt {n : Int} (h0 : 0 ≤ n) (h1 : n ≤ 18446744073709551615) : n = B (BitVec.ofInt 64 n) := by
  unfold B
  rw [BitVec.toNat_ofInt]
  omega
theorem ofInt_B (x : BitVec 64) : BitVec.ofInt 64 (B x) = x := by
  unfold B
  rw [BitVec.ofInt_natCast]
  simp
theorem ofInt_lit (n : Nat) : BitVec.ofInt 64 (OfNat.ofNat n : Int) = BitVec.ofNat 64 (OfNat.ofNat n) := by
  show BitVec.ofInt 64 ((n : Nat) : Int) = _
  rw [BitVec.ofInt_natCast]
  rfl
theorem wrap_toNat (x : BitVec 64) : IntKind.u64.wrap (x.toNat : Int) = B x := by
  rw [IntKind.wrap_u64]
  unfold B
  have := x.isLt
  omega
theorem r_and (x y : BitVec 64) : bits .and .u64 (B x) (B y) = B (x &&& y) := by
  show IntKind.u64.wrap ((BitVec.ofInt 64 (B x) &&& BitVec.ofInt 64 (B y)).toNat : Int) = _
  rw [ofInt_B, ofInt_B, wrap_toNat]
theorem r_or (x y : BitVec 64) : bits .or .u64 (B x) (B y) = B (x ||| y) := by
  show IntKind.u64.wrap ((BitVec.ofInt 64 (B x) ||| BitVec.ofInt 64 (B y)).toNat : Int) = _
  rw [ofInt_B, ofInt_B, wrap_toNat]
theorem r_xor (x y : BitVec 64) : bits .xor .u64 (B x) (B y) = B (x ^^^ y) := by
  show IntKind.u64.wrap ((BitVec.ofInt 64 (B x) ^^^ BitVec.ofInt 64 (B y)).toNat : Int) = _
  rw [ofInt_B, ofInt_B, wrap_toNat]
theorem r_andc (x : BitVec 64) (n : Nat) : bits .and .u64 (B x) (OfNat.ofNat n) = B (x &&& BitVec.ofNat 64 (OfNat.ofNat n)) := by
  show IntKind.u64.wrap ((BitVec.ofInt 64 (B x) &&& BitVec.ofInt 64 (OfNat.ofNat n)).toNat : Int) = _
  rw [ofInt_B, ofInt_lit, wrap_toNat]
theorem r_shl (x : BitVec 64) (n : Nat) : IntKind.u64.wrap (B x * 2 ^ n) = B (x <<< n) := by
  rw [IntKind.wrap_u64]
  unfold B
  rw [BitVec.toNat_shiftLeft, Nat.shiftLeft_eq]
  have : ((x.toNat : Int) * 2 ^ n) = ((x.toNat * 2 ^ n : Nat) : Int) := by
    rw [Int.natCast_mul, Int.natCast_pow]; rfl
  have h64 : (18446744073709551616 : Int) = ((2 ^ 64 : Nat) : Int) := by decide
  rw [this, h64, ← Int.natCast_emod]
theorem r_shr (x : BitVec 64) (n : Nat) : B x / 2 ^ n = B (x >>> n) := by
  unfold B
  rw [BitVec.toNat_ushiftRight, Nat.shiftRight_eq_div_pow, Int.natCast_ediv, Int.natCast_pow]
  rfl
theorem r_shl_min (x : BitVec 64) (n : Nat) : IntKind.u64.wrap (B x * 2 ^ min n 64) = B (x <<< n) := by
  rw [r_shl]
  by_cases h : n ≤ 64
  · rw [Nat.min_eq_left h]
  · rw [Nat.min_eq_right (by omega)]
    have h1 : x <<< 64 = 0#64 := BitVec.shiftLeft_eq_zero (Nat.le_refl 64)
    have h2 : x <<< n = 0#64 := BitVec.shiftLeft_eq_zero (by omega)
    rw [h1, h2]
theorem r_shr_min (x : BitVec 64) (n : Nat) : B x / 2 ^ min n 64 = B (x >>> n) := by
  rw [r_shr]
  by_cases h : n ≤ 64
  · rw [Nat.min_eq_left h]
  · rw [Nat.min_eq_right (by omega)]
    have h1 : x >>> 64 = 0#64 := BitVec.ushiftRight_eq_zero (Nat.le_refl 64)
    have h2 : x >>> n = 0#64 := BitVec.ushiftRight_eq_zero (by omega)
    rw [h1, h2]
theorem r_wrap (x : BitVec 64) : IntKind.u64.wrap (B x) = B x := wrap_toNat x
theorem r_shl1 (x : BitVec 64) : IntKind.u64.wrap (B x * 2) = B (x <<< 1) := r_shl x 1
theorem r_shr1 (x : BitVec 64) : B x / 2 = B (x >>> 1) := r_shr x 1

def Lin (f : BitVec 64 → BitVec 64) : Prop := ∀ x y, f (x ^^^ y) = f x ^^^ f y

theorem Lin.zero {f : BitVec 64 → BitVec 64} (h : Lin f) : f 0#64 = 0#64 := by
  have := h 0#64 0#64
  simpa using this

theorem lin_ext {f g : BitVec 64 → BitVec 64} (hf : Lin f) (hg : Lin g)
    (h : ∀ i, i < 64 → f (1#64 <<< i) = g (1#64 <<< i)) (x : BitVec 64) : f x = g x := by
  have key : ∀ n, n ≤ 64 → ∀ x : BitVec 64, (∀ j, n ≤ j → x.getLsbD j = false) → f x = g x := by
    intro n
    induction n with
    | zero =>
      intro _ x hx
      have : x = 0#64 := by
        apply BitVec.eq_of_getLsbD_eq
        intro i _
        rw [hx i (Nat.zero_le _)]; simp
      subst this
      rw [hf.zero, hg.zero]
    | succ n ih =>
      intro hn x hx
      by_cases hb : x.getLsbD n = true
      · have e : x = (x ^^^ 1#64 <<< n) ^^^ (1#64 <<< n) := by
          rw [BitVec.xor_assoc, BitVec.xor_self, BitVec.xor_zero]
        have h1 : f (x ^^^ 1#64 <<< n) = g (x ^^^ 1#64 <<< n) := by
          apply ih (by omega)
          intro j hj
          by_cases hjn : j = n
          · subst hjn
            simp [hb]
            omega
          · have := hx j (by omega)
            simp [this]
            omega
        rw [e, hf, hg, h n (by omega), h1]
      · apply ih (by omega)
        intro j hj
        by_cases hjn : j = n
        · subst hjn; simpa using hb
        · exact hx j (by omega)
  exact key 64 (Nat.le_refl _) x (fun j hj => BitVec.getLsbD_of_ge x j hj)

/-! ### permutation by places -/
def permStep (x out : BitVec 64) (n : Nat) : BitVec 64 := (out <<< 1) ||| ((x >>> n) &&& 1#64)
def permB (x : BitVec 64) (l : List Nat) : BitVec 64 := l.foldl (permStep x) 0#64

theorem permStep_xor (x y a b : BitVec 64) (n : Nat) :
    permStep (x ^^^ y) (a ^^^ b) n = permStep x a n ^^^ permStep y b n := by
  apply BitVec.eq_of_getLsbD_eq
  intro i hi
  by_cases h0 : i = 0
  · subst h0; simp [permStep]
  · simp [permStep, h0, hi]

theorem permB_xor (x y : BitVec 64) (l : List Nat) : permB (x ^^^ y) l = permB x l ^^^ permB y l := by
  have key : ∀ (l : List Nat) (a b : BitVec 64), l.foldl (permStep (x ^^^ y)) (a ^^^ b) = l.foldl (permStep x) a ^^^ l.foldl (permStep y) b := by
    intro l
    induction l with
    | nil => intro a b; rfl
    | cons n l ih => intro a b; simp only [List.foldl_cons]; rw [permStep_xor, ih]
  have := key l 0#64 0#64
  simpa [permB] using this

theorem permB_lin (l : List Nat) : Lin (fun x => permB x l) := fun x y => permB_xor x y l

theorem permB_snoc (x : BitVec 64) (l : List Nat) (n : Nat) : permB x (l ++ [n]) = permStep x (permB x l) n := by
  simp [permB, List.foldl_append]

theorem permB_take (x : BitVec 64) (l : List Nat) (k : Nat) (h : k < l.length) :
    permB x (l.take (k + 1)) = permStep x (permB x (l.take k)) (l.getD k 0) := by
  rw [← permB_snoc, List.take_succ_eq_append_getElem h]
  simp [List.getD, h]

/-- The round of the loop that lays the bits at their places. -/
theorem place_step (x a : BitVec 64) (n L k : Nat) (h : k < L) :
    (a <<< (L - k)) ||| (((x >>> n) &&& 1#64) <<< (L - 1 - k)) = permStep x a n <<< (L - (k + 1)) := by
  have e : L - k = 1 + (L - (k + 1)) := by omega
  have e2 : L - 1 - k = L - (k + 1) := by omega
  rw [e, e2, permStep, BitVec.shiftLeft_or_distrib, BitVec.shiftLeft_add]

/-! ### the exchanges of bits -/
def s1 (b : BitVec 64) : BitVec 64 := b ^^^ (b >>> 48 ^^^ b <<< 48 ^^^ (b >>> 48) <<< 48 ^^^ (b <<< 48) >>> 48)
def s2 (b : BitVec 64) : BitVec 64 :=
  b ^^^ ((b >>> 32 &&& 0xff00ff#64) <<< 32 ^^^ (b &&& 0xff00ff00#64) ^^^ (b >>> 32 &&& 0xff00ff#64) <<< 8 ^^^ (b &&& 0xff00ff00#64) <<< 24)
def s3 (b : BitVec 64) : BitVec 64 :=
  b ^^^ ((b &&& 0x0f0f00000f0f0000#64) ^^^ (b &&& 0x0000f0f00000f0f0#64) ^^^ (b &&& 0x0f0f00000f0f0000#64) >>> 12 ^^^ (b &&& 0x0000f0f00000f0f0#64) <<< 12)
def s4 (b : BitVec 64) : BitVec 64 :=
  b ^^^ ((b &&& 0x3300330033003300#64) ^^^ (b &&& 0x00cc00cc00cc00cc#64) ^^^ (b &&& 0x3300330033003300#64) >>> 6 ^^^ (b &&& 0x00cc00cc00cc00cc#64) <<< 6)
def s5 (b : BitVec 64) : BitVec 64 :=
  b ^^^ ((b &&& 0xaaaaaaaa55555555#64) ^^^ (b &&& 0xaaaaaaaa55555555#64) >>> 33 ^^^ (b &&& 0xaaaaaaaa55555555#64) <<< 33)
def initX (b : BitVec 64) : BitVec 64 := s5 (s4 (s3 (s2 (s1 b))))
def finX (b : BitVec 64) : BitVec 64 := s1 (s2 (s3 (s4 (s5 b))))

theorem and_xor (x y c : BitVec 64) : (x ^^^ y) &&& c = (x &&& c) ^^^ (y &&& c) := by
  apply BitVec.eq_of_getLsbD_eq
  intro i _
  simp
  cases x.getLsbD i <;> cases y.getLsbD i <;> cases c.getLsbD i <;> rfl

theorem xor4 (a b c d : BitVec 64) : (a ^^^ b) ^^^ (c ^^^ d) = (a ^^^ c) ^^^ (b ^^^ d) := by
  rw [BitVec.xor_assoc, BitVec.xor_assoc, ← BitVec.xor_assoc b, BitVec.xor_comm b, BitVec.xor_assoc c]
theorem Lin.id : Lin (fun x => x) := fun _ _ => rfl
theorem Lin.xor {f g : BitVec 64 → BitVec 64} (hf : Lin f) (hg : Lin g) : Lin (fun x => f x ^^^ g x) := fun x y => by
  show f (x ^^^ y) ^^^ g (x ^^^ y) = _
  rw [hf, hg, xor4]
theorem Lin.shl {f : BitVec 64 → BitVec 64} (hf : Lin f) (n : Nat) : Lin (fun x => f x <<< n) := fun x y => by
  show f (x ^^^ y) <<< n = _
  rw [hf, BitVec.shiftLeft_xor_distrib]
theorem Lin.shr {f : BitVec 64 → BitVec 64} (hf : Lin f) (n : Nat) : Lin (fun x => f x >>> n) := fun x y => by
  show f (x ^^^ y) >>> n = _
  rw [hf, BitVec.ushiftRight_xor_distrib]
theorem Lin.and {f : BitVec 64 → BitVec 64} (hf : Lin f) (c : BitVec 64) : Lin (fun x => f x &&& c) := fun x y => by
  show f (x ^^^ y) &&& c = _
  rw [hf, and_xor]
theorem s1_lin : Lin s1 := .xor .id (.xor (.xor (.xor (.shr .id _) (.shl .id _)) (.shl (.shr .id _) _)) (.shr (.shl .id _) _))
theorem s2_lin : Lin s2 := .xor .id (.xor (.xor (.xor (.shl (.and (.shr .id _) _) _) (.and .id _)) (.shl (.and (.shr .id _) _) _)) (.shl (.and .id _) _))
theorem s3_lin : Lin s3 := .xor .id (.xor (.xor (.xor (.and .id _) (.and .id _)) (.shr (.and .id _) _)) (.shl (.and .id _) _))
theorem s4_lin : Lin s4 := .xor .id (.xor (.xor (.xor (.and .id _) (.and .id _)) (.shr (.and .id _) _)) (.shl (.and .id _) _))
theorem s5_lin : Lin s5 := .xor .id (.xor (.xor (.and .id _) (.shr (.and .id _) _)) (.shl (.and .id _) _))

theorem initX_lin : Lin initX := fun x y => by simp only [initX]; rw [s1_lin, s2_lin, s3_lin, s4_lin, s5_lin]
theorem finX_lin : Lin finX := fun x y => by simp only [finX]; rw [s5_lin, s4_lin, s3_lin, s2_lin, s1_lin]

theorem fin_init (x : BitVec 64) : finX (initX x) = x :=
  lin_ext (f := fun x => finX (initX x)) (g := fun x => x) (fun x y => by simp only []; rw [initX_lin, finX_lin]) (fun _ _ => rfl) (by decide +kernel) x
theorem init_fin (x : BitVec 64) : initX (finX x) = x :=
  lin_ext (f := fun x => initX (finX x)) (g := fun x => x) (fun x y => by simp only []; rw [finX_lin, initX_lin]) (fun _ _ => rfl) (by decide +kernel) x

/-- The places of the initial permutation, the lowest bit is 0: eight rows, each from its first bit on (counted from 1, the highest) in steps of eight. -/
def ipL : List Nat := [58, 60, 62, 64, 57, 59, 61, 63].flatMap fun f => (List.range 8).map fun j => 64 - f + 8 * j
theorem ipL_len : ipL.length = 64 := by decide +kernel

theorem init_perm (x : BitVec 64) : initX x = permB x ipL :=
  lin_ext initX_lin (permB_lin ipL) (by decide +kernel) x

/-! ### the final permutation as the reference lays it: bit for bit at its place -/
def putB (x : BitVec 64) : Nat → BitVec 64
  | 0 => 0#64
  | m + 1 => putB x m ||| (((x >>> (63 - m)) &&& 1#64) <<< ipL.getD m 0)

theorem or_eq_xor (a b : BitVec 64) (h : ∀ i, a.getLsbD i = true → b.getLsbD i = true → False) : a ||| b = a ^^^ b := by
  apply BitVec.eq_of_getLsbD_eq
  intro i _
  have := h i
  rw [BitVec.getLsbD_or, BitVec.getLsbD_xor]
  cases ha : a.getLsbD i <;> cases hb : b.getLsbD i <;> simp_all

theorem one_bit (x : BitVec 64) (s d i : Nat) (h : (((x >>> s) &&& 1#64) <<< d).getLsbD i = true) : i = d := by
  simp at h
  omega

theorem putB_bit (x : BitVec 64) (m i : Nat) (h : (putB x m).getLsbD i = true) : ∃ a, a < m ∧ ipL.getD a 0 = i := by
  induction m with
  | zero => simp [putB] at h
  | succ m ih =>
    rw [putB, BitVec.getLsbD_or, Bool.or_eq_true] at h
    rcases h with h | h
    · obtain ⟨a, ha, e⟩ := ih h
      exact ⟨a, by omega, e⟩
    · exact ⟨m, by omega, (one_bit _ _ _ _ h).symm⟩

theorem ipL_apart : ∀ m, m < 64 → ∀ a, a < m → ipL.getD a 0 ≠ ipL.getD m 0 := by decide +kernel

theorem putB_succ (x : BitVec 64) (m : Nat) (h : m < 64) : putB x (m + 1) = putB x m ^^^ (((x >>> (63 - m)) &&& 1#64) <<< ipL.getD m 0) := by
  rw [putB]
  apply or_eq_xor
  intro i h1 h2
  obtain ⟨a, ha, e⟩ := putB_bit x m i h1
  exact ipL_apart m h a ha (e.trans (one_bit _ _ _ _ h2))

theorem putB_lin (m : Nat) (hm : m ≤ 64) : Lin (fun x => putB x m) := by
  induction m with
  | zero => intro x y; simp [putB]
  | succ m ih =>
    intro x y
    show putB (x ^^^ y) (m + 1) = putB x (m + 1) ^^^ putB y (m + 1)
    rw [putB_succ _ m (by omega), putB_succ _ m (by omega), putB_succ _ m (by omega)]
    have h1 : putB (x ^^^ y) m = putB x m ^^^ putB y m := ih (by omega) x y
    rw [h1, BitVec.ushiftRight_xor_distrib, and_xor, BitVec.shiftLeft_xor_distrib, xor4]

theorem fin_put (x : BitVec 64) : finX x = putB x 64 :=
  lin_ext finX_lin (putB_lin 64 (Nat.le_refl _)) (by decide +kernel) x

/-! ### 48 bits spread out -/
def unpackX (x : BitVec 64) : BitVec 64 :=
  ((x >>> 6) &&& 255#64) ||| ((x >>> 18) &&& 255#64) <<< 8 ||| ((x >>> 30) &&& 255#64) <<< 16 ||| ((x >>> 42) &&& 255#64) <<< 24 |||
  (x &&& 255#64) <<< 32 ||| ((x >>> 12) &&& 255#64) <<< 40 ||| ((x >>> 24) &&& 255#64) <<< 48 ||| ((x >>> 36) &&& 255#64) <<< 56

theorem bits255 (i : Nat) : (255#64).getLsbD i = decide (i < 8) := by
  by_cases h : i < 64
  · revert i; decide
  · rw [BitVec.getLsbD_of_ge _ _ (by omega)]
    simp; omega
theorem chunk_bit (x : BitVec 64) (a s i : Nat) : (((x >>> a) &&& 255#64) <<< s).getLsbD i = (decide (i < 64) && (decide (s ≤ i) && (decide (i - s < 8) && x.getLsbD (a + (i - s))))) := by
  rw [BitVec.getLsbD_shiftLeft, BitVec.getLsbD_and, BitVec.getLsbD_ushiftRight, bits255]
  by_cases h1 : i < 64 <;> by_cases h2 : i < s <;> by_cases h3 : i - s < 8 <;> simp [h1, h2, h3] <;> omega

theorem unpack_eq (x : BitVec 64) : unpackX x = ((x >>> 6) &&& 255#64) <<< 0 ||| ((x >>> 18) &&& 255#64) <<< 8 ||| ((x >>> 30) &&& 255#64) <<< 16 ||| ((x >>> 42) &&& 255#64) <<< 24 |||
  ((x >>> 0) &&& 255#64) <<< 32 ||| ((x >>> 12) &&& 255#64) <<< 40 ||| ((x >>> 24) &&& 255#64) <<< 48 ||| ((x >>> 36) &&& 255#64) <<< 56 := by
  simp only [unpackX, BitVec.shiftLeft_zero, BitVec.ushiftRight_zero]

theorem unpack_bit (x : BitVec 64) (i : Nat) (h : i < 64) : (unpackX x).getLsbD i = x.getLsbD ([6, 18, 30, 42, 0, 12, 24, 36].getD (i / 8) 0 + i % 8) := by
  rw [unpack_eq]
  simp only [BitVec.getLsbD_or, chunk_bit, h, decide_true, Bool.true_and]
  obtain ⟨m, b, hm, hb, rfl⟩ : ∃ m b, m < 8 ∧ b < 8 ∧ i = 8 * m + b := ⟨i / 8, i % 8, by omega, by omega, by omega⟩
  have e1 : (8 * m + b) / 8 = m := by omega
  have e2 : (8 * m + b) % 8 = b := by omega
  rw [e1, e2]
  match m, hm with
  | 0, _ | 1, _ | 2, _ | 3, _ | 4, _ | 5, _ | 6, _ | 7, _ =>
    simp (disch := omega) only [decide_eq_true, decide_eq_false, Bool.true_and, Bool.false_and, Bool.or_false, Bool.false_or]
    refine congrArg x.getLsbD ?_
    simp [List.getD]
    try omega

theorem low48_bit (j : Nat) (h : 48 ≤ j) : (281474976710655#64).getLsbD j = false := by
  apply Nat.testBit_lt_two_pow
  exact Nat.lt_of_lt_of_le (show (281474976710655#64).toNat < 2 ^ 48 by decide) (Nat.pow_le_pow_right (by decide) h)

theorem unpack_at : ∀ j, j < 48 → 8 * [4, 0, 5, 1, 6, 2, 7, 3].getD (j / 6) 0 + j % 6 < 64 ∧
    [6, 18, 30, 42, 0, 12, 24, 36].getD ((8 * [4, 0, 5, 1, 6, 2, 7, 3].getD (j / 6) 0 + j % 6) / 8) 0 + (8 * [4, 0, 5, 1, 6, 2, 7, 3].getD (j / 6) 0 + j % 6) % 8 = j := by decide

theorem unpack_inj (x y : BitVec 64) (h : unpackX (x &&& 281474976710655#64) = unpackX (y &&& 281474976710655#64)) :
    x &&& 281474976710655#64 = y &&& 281474976710655#64 := by
  apply BitVec.eq_of_getLsbD_eq
  intro j _
  by_cases hj : j < 48
  · obtain ⟨h1, h2⟩ := unpack_at j hj
    have a := unpack_bit (x &&& 281474976710655#64) _ h1
    have b := unpack_bit (y &&& 281474976710655#64) _ h1
    rw [h2] at a b
    rw [← a, ← b, h]
  · rw [BitVec.getLsbD_and, BitVec.getLsbD_and, low48_bit j (by omega), Bool.and_false, Bool.and_false]
end Go.Proofs.Ytpnkgjnljbknnaa
