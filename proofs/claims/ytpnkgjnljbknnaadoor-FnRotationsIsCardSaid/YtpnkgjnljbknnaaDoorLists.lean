/-
  The numbers of the tables, taken off the data that the given rows list; the final permutation by its table. Conditions: none.
-/
import Derived.Test.YtpnkgjnljbknnaaDoorPlain
import Derived.Test.YtpnkgjnljbknnaaDoorRows
namespace Go.Proofs.YtpnkgjnljbknnaaDoor

/-- An array's numbers. -/
def numOf : DataW Unit → Nat
  | .lit (.int _ z) => z.toNat
  | _ => 0
def numsOf : DataW Unit → List Nat
  | .agg parts => parts.map numOf
  | _ => []
def fpL : List Nat := numsOf Rows.laid_loop_example_pub_g03027_pub_des_finalPermutation
theorem fpL_len : fpL.length = 64 := by decide +kernel
def exL : List Nat := numsOf Rows.laid_loop_example_pub_g03027_pub_des_expansionFunction
theorem exL_len : exL.length = 48 := by decide +kernel
def pfL : List Nat := numsOf Rows.laid_loop_example_pub_g03027_pub_des_permutationFunction
theorem pfL_len : pfL.length = 32 := by decide +kernel
def c1L : List Nat := numsOf Rows.laid_loop_example_pub_g03027_pub_des_permutedChoice1
theorem c1L_len : c1L.length = 56 := by decide +kernel
def c2L : List Nat := numsOf Rows.laid_loop_example_pub_g03027_pub_des_permutedChoice2
theorem c2L_len : c2L.length = 48 := by decide +kernel
def ksL : List Nat := numsOf Rows.laid_loop_example_pub_g03027_pub_des_ksRotations
theorem ksL_len : ksL.length = 16 := by decide +kernel
def exT : List Nat := numsOf Rows.laid_loop_example_pub_g03027_spec_expansion
theorem exT_len : exT.length = 48 := by decide +kernel
def mxT : List Nat := numsOf Rows.laid_loop_example_pub_g03027_spec_mixing
theorem mxT_len : mxT.length = 32 := by decide +kernel
def c1T : List Nat := numsOf Rows.laid_loop_example_pub_g03027_spec_choice1
theorem c1T_len : c1T.length = 56 := by decide +kernel
def c2T : List Nat := numsOf Rows.laid_loop_example_pub_g03027_spec_choice2
theorem c2T_len : c2T.length = 48 := by decide +kernel
theorem fin_perm (x : BitVec 64) : finX x = permB x fpL :=
  lin_ext finX_lin (permB_lin fpL) (by decide +kernel) x
end Go.Proofs.YtpnkgjnljbknnaaDoor
