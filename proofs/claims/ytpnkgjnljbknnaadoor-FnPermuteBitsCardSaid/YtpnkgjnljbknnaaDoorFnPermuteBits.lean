/-
  laws.FnPermuteBits returns true for every table number and every two words of 64 bits: a permuted sum is the sum of the permuted numbers. Conditions: the package's tables lie as the program's text lays them (tied).
-/
import Derived.Test.YtpnkgjnljbknnaaDoorCards
import Derived.Test.YtpnkgjnljbknnaaDoorTie
import Derived.Test.YtpnkgjnljbknnaaDoorTables
import Derived.ProofKit
import Derived.OpenShut
import Derived.LaidMore
import Derived.Lay
import Derived.SevenTiedAt
import Derived.Stop.Joined
import Derived.Stop.LaidErr
import Derived.OpenVars
import Derived.Lib.Hide
namespace Go.Proofs.YtpnkgjnljbknnaaDoor.fnPermuteBits
open Go.ChangeShapes Go.WideShapes Go.ChangeAt Go.RowKit
set_option linter.unusedVariables false
set_option maxRecDepth 100000

theorem own : ownKnob Tryd.prog.godebug = none := by kernel_rfl
theorem laidOut : laidOutB Tryd.prog = true := by kernel_rfl
theorem listed {α : Type} : ∀ {l : List α}, l.length = 6 → ∃ g1 g2 g3 g4 g5 g6, l = [g1, g2, g3, g4, g5, g6]
  | [g1, g2, g3, g4, g5, g6], _ => ⟨g1, g2, g3, g4, g5, g6, rfl⟩

theorem walk_out (a0 : Int) (x y : BitVec 64) (w : World) (h : a0 < 0 ∨ 5 < a0) :
    Calls Tryd.prog 4 #[.int .i64 a0, .int .u64 (B x), .int .u64 (B y)] w fun e w' => e = .returned (.bool true) ∧ Below w.heap.size w w' := by
  rcases h with h | h
  · go_enter Tryd.func4, Tryd.ntmps4
    go_wp2
    go_ret
    exact ⟨rfl, Below.refl _ _⟩
  · have h' : ¬ a0 < 0 := by omega
    go_enter Tryd.func4, Tryd.ntmps4
    go_wp2
    go_ret
    exact ⟨rfl, Below.refl _ _⟩

theorem walk0 (x y : BitVec 64) (w : World) (h0 : Tab w 4 .u8 ipL)  :
    Calls Tryd.prog 4 #[.int .i64 0, .int .u64 (B x), .int .u64 (B y)] w fun e w' => e = .returned (.bool true) ∧ Below w.heap.size w w' := by
  have H0 := Lib.hid h0
  clear h0
  have hq : ∀ y, (B y == B y) = true := fun y => by simp
  have hx := permB_xor
  have a3 := r_xor
  have a4 := r_andc
  have q3 := zz0_one_ne
  go_enter Tryd.func4, Tryd.ntmps4
  go_wp2_with (first
    | (go_at_call 29; ((with_reducible refine (zz0_one _ H0.out).mono ?_); rintro e w' ⟨rfl, rfl⟩))
    | (go_at_call 29; ((with_reducible refine (zz0_any _ _ H0.out).mono ?_); rintro e w' ⟨rfl, rfl⟩))
    | go_in)
  go_ret
  exact ⟨rfl, Below.refl _ _⟩

theorem walk1 (x y : BitVec 64) (w : World) (h0 : Tab w 4 .u8 ipL) (h : Tab w 5 .u8 fpL) :
    Calls Tryd.prog 4 #[.int .i64 1, .int .u64 (B x), .int .u64 (B y)] w fun e w' => e = .returned (.bool true) ∧ Below w.heap.size w w' := by
  have H0 := Lib.hid h0
  have H := Lib.hid h
  clear h0 h
  have hq : ∀ y, (B y == B y) = true := fun y => by simp
  have hx := permB_xor
  have a3 := r_xor
  have a4 := r_andc
  have q3 := zz0_one_ne
  go_enter Tryd.func4, Tryd.ntmps4
  go_wp2_with (first
    | (go_at_call 29; ((with_reducible refine (zz0_one _ H0.out).mono ?_); rintro e w' ⟨rfl, rfl⟩))
    | (go_at_call 29; ((with_reducible refine (zz1_any _ _ H.out).mono ?_); rintro e w' ⟨rfl, rfl⟩))
    | go_in)
  go_ret
  exact ⟨rfl, Below.refl _ _⟩

theorem walk2 (x y : BitVec 64) (w : World) (h0 : Tab w 4 .u8 ipL) (h : Tab w 6 .u8 exL) :
    Calls Tryd.prog 4 #[.int .i64 2, .int .u64 (B x), .int .u64 (B y)] w fun e w' => e = .returned (.bool true) ∧ Below w.heap.size w w' := by
  have H0 := Lib.hid h0
  have H := Lib.hid h
  clear h0 h
  have hq : ∀ y, (B y == B y) = true := fun y => by simp
  have hx := permB_xor
  have a3 := r_xor
  have a4 := r_andc
  have q3 := zz0_one_ne
  go_enter Tryd.func4, Tryd.ntmps4
  go_wp2_with (first
    | (go_at_call 29; ((with_reducible refine (zz0_one _ H0.out).mono ?_); rintro e w' ⟨rfl, rfl⟩))
    | (go_at_call 29; ((with_reducible refine (zz2_any _ _ H.out).mono ?_); rintro e w' ⟨rfl, rfl⟩))
    | go_in)
  go_ret
  exact ⟨rfl, Below.refl _ _⟩

theorem walk3 (x y : BitVec 64) (w : World) (h0 : Tab w 4 .u8 ipL) (h : Tab w 7 .u8 pfL) :
    Calls Tryd.prog 4 #[.int .i64 3, .int .u64 (B x), .int .u64 (B y)] w fun e w' => e = .returned (.bool true) ∧ Below w.heap.size w w' := by
  have H0 := Lib.hid h0
  have H := Lib.hid h
  clear h0 h
  have hq : ∀ y, (B y == B y) = true := fun y => by simp
  have hx := permB_xor
  have a3 := r_xor
  have a4 := r_andc
  have q3 := zz0_one_ne
  go_enter Tryd.func4, Tryd.ntmps4
  go_wp2_with (first
    | (go_at_call 29; ((with_reducible refine (zz0_one _ H0.out).mono ?_); rintro e w' ⟨rfl, rfl⟩))
    | (go_at_call 29; ((with_reducible refine (zz3_any _ _ H.out).mono ?_); rintro e w' ⟨rfl, rfl⟩))
    | go_in)
  go_ret
  exact ⟨rfl, Below.refl _ _⟩

theorem walk4 (x y : BitVec 64) (w : World) (h0 : Tab w 4 .u8 ipL) (h : Tab w 8 .u8 c1L) :
    Calls Tryd.prog 4 #[.int .i64 4, .int .u64 (B x), .int .u64 (B y)] w fun e w' => e = .returned (.bool true) ∧ Below w.heap.size w w' := by
  have H0 := Lib.hid h0
  have H := Lib.hid h
  clear h0 h
  have hq : ∀ y, (B y == B y) = true := fun y => by simp
  have hx := permB_xor
  have a3 := r_xor
  have a4 := r_andc
  have q3 := zz0_one_ne
  go_enter Tryd.func4, Tryd.ntmps4
  go_wp2_with (first
    | (go_at_call 29; ((with_reducible refine (zz0_one _ H0.out).mono ?_); rintro e w' ⟨rfl, rfl⟩))
    | (go_at_call 29; ((with_reducible refine (zz4_any _ _ H.out).mono ?_); rintro e w' ⟨rfl, rfl⟩))
    | go_in)
  go_ret
  exact ⟨rfl, Below.refl _ _⟩

theorem walk5 (x y : BitVec 64) (w : World) (h0 : Tab w 4 .u8 ipL) (h : Tab w 9 .u8 c2L) :
    Calls Tryd.prog 4 #[.int .i64 5, .int .u64 (B x), .int .u64 (B y)] w fun e w' => e = .returned (.bool true) ∧ Below w.heap.size w w' := by
  have H0 := Lib.hid h0
  have H := Lib.hid h
  clear h0 h
  have hq : ∀ y, (B y == B y) = true := fun y => by simp
  have hx := permB_xor
  have a3 := r_xor
  have a4 := r_andc
  have q3 := zz0_one_ne
  go_enter Tryd.func4, Tryd.ntmps4
  go_wp2_with (first
    | (go_at_call 29; ((with_reducible refine (zz0_one _ H0.out).mono ?_); rintro e w' ⟨rfl, rfl⟩))
    | (go_at_call 29; ((with_reducible refine (zz5_any _ _ H.out).mono ?_); rintro e w' ⟨rfl, rfl⟩))
    | go_in)
  go_ret
  exact ⟨rfl, Below.refl _ _⟩

theorem walk (a0 a1 a2 : Int) (w0 : (Lit.int .i64 a0).wf = true) (w1 : (Lit.int .u64 a1).wf = true) (w2 : (Lit.int .u64 a2).wf = true) (w : World)
    (h : Tab w 4 .u8 ipL ∧ Tab w 5 .u8 fpL ∧ Tab w 6 .u8 exL ∧ Tab w 7 .u8 pfL ∧ Tab w 8 .u8 c1L ∧ Tab w 9 .u8 c2L) :
    Calls Tryd.prog 4 #[.int .i64 a0, .int .u64 a1, .int .u64 a2] w fun e w' => e = .returned (.bool true) ∧ Below w.heap.size w w' := by
  obtain ⟨x, rfl⟩ := word_of w1
  obtain ⟨y, rfl⟩ := word_of w2
  obtain ⟨h0, h1, h2, h3, h4, h5⟩ := h
  by_cases ho : a0 < 0 ∨ 5 < a0
  · exact walk_out a0 x y w ho
  · rcases (show a0 = 0 ∨ a0 = 1 ∨ a0 = 2 ∨ a0 = 3 ∨ a0 = 4 ∨ a0 = 5 by omega) with rfl | rfl | rfl | rfl | rfl | rfl
    · exact walk0 x y w h0
    · exact walk1 x y w h0 h1
    · exact walk2 x y w h0 h2
    · exact walk3 x y w h0 h3
    · exact walk4 x y w h0 h4
    · exact walk5 x y w h0 h5

/-- What the row's list gives: each table's block holds its numbers. -/
theorem tables {W : World} (h : laidMetH Tryd.prog Rows.fnPermuteBitsRow.laid W) : Tab W 4 .u8 ipL ∧ Tab W 5 .u8 fpL ∧ Tab W 6 .u8 exL ∧ Tab W 7 .u8 pfL ∧ Tab W 8 .u8 c1L ∧ Tab W 9 .u8 c2L := by
  rw [MakeChecks.laidMetH_plain _ _ _ (by kernel_rfl)] at h
  have e : Rows.fnPermuteBitsRow.laid = [( "loop.example/pub-g03027/pub/des.initialPermutation", Lib.tabData .u8 (ipL.map fun (n : Nat) => (n : Int))), ( "loop.example/pub-g03027/pub/des.finalPermutation", Lib.tabData .u8 (fpL.map fun (n : Nat) => (n : Int))), ( "loop.example/pub-g03027/pub/des.expansionFunction", Lib.tabData .u8 (exL.map fun (n : Nat) => (n : Int))), ( "loop.example/pub-g03027/pub/des.permutationFunction", Lib.tabData .u8 (pfL.map fun (n : Nat) => (n : Int))), ( "loop.example/pub-g03027/pub/des.permutedChoice1", Lib.tabData .u8 (c1L.map fun (n : Nat) => (n : Int))), ( "loop.example/pub-g03027/pub/des.permutedChoice2", Lib.tabData .u8 (c2L.map fun (n : Nat) => (n : Int)))] := by kernel_rfl
  rw [e] at h
  refine ⟨?_, ?_, ?_, ?_, ?_, ?_⟩
  · exact tab_of_var (by kernel_rfl) (Lib.tabIs_of_head (g := 4) (t := 60) (e := 5) (n := 64) (by kernel_rfl) (by kernel_rfl) Tryd.underlying60 Tryd.underlying5 (by kernel_rfl) (by kernel_rfl) h) rfl
  · exact tab_of_var (by kernel_rfl) (Lib.tabIs_of_head (g := 5) (t := 60) (e := 5) (n := 64) (by kernel_rfl) (by kernel_rfl) Tryd.underlying60 Tryd.underlying5 (by kernel_rfl) (by kernel_rfl) h.tail) rfl
  · exact tab_of_var (by kernel_rfl) (Lib.tabIs_of_head (g := 6) (t := 61) (e := 5) (n := 48) (by kernel_rfl) (by kernel_rfl) Tryd.underlying61 Tryd.underlying5 (by kernel_rfl) (by kernel_rfl) h.tail.tail) rfl
  · exact tab_of_var (by kernel_rfl) (Lib.tabIs_of_head (g := 7) (t := 62) (e := 5) (n := 32) (by kernel_rfl) (by kernel_rfl) Tryd.underlying62 Tryd.underlying5 (by kernel_rfl) (by kernel_rfl) h.tail.tail.tail) rfl
  · exact tab_of_var (by kernel_rfl) (Lib.tabIs_of_head (g := 8) (t := 63) (e := 5) (n := 56) (by kernel_rfl) (by kernel_rfl) Tryd.underlying63 Tryd.underlying5 (by kernel_rfl) (by kernel_rfl) h.tail.tail.tail.tail) rfl
  · exact tab_of_var (by kernel_rfl) (Lib.tabIs_of_head (g := 9) (t := 61) (e := 5) (n := 48) (by kernel_rfl) (by kernel_rfl) Tryd.underlying61 Tryd.underlying5 (by kernel_rfl) (by kernel_rfl) h.tail.tail.tail.tail.tail) rfl

theorem lifted (os : Os) (started : os.Started) (H : Type) (enc : TypeId × Value → H) :
    ReturnsInHanded {} Tryd.checked os 4 .any (fun w args => (Rows.fnPermuteBitsSpec.pre enc Tryd.prog Tryd.f4 Rows.fnPermuteBitsRow.domain false w args ∧ laidMetH Tryd.prog Rows.fnPermuteBitsRow.laid w) ∧ sizedMet enc Tryd.prog Tryd.f4 (OpenSpec.ofChange Rows.fnPermuteBitsSpec) false w args)
      (Rows.fnPermuteBitsSpec.post enc Tryd.prog Tryd.f4 false true false false) := by
  refine returnsInHanded_of_change_and (C := Tryd.checked) (X := fun w _ => laidMetH Tryd.prog Rows.fnPermuteBitsRow.laid w) (fun _ _ _ hh h => h.of_heap hh) own started (by kernel_rfl) Tryd.func4
    (ChangeSpec.witness_shaped (enc := enc) (C := Tryd.checked) (os := os) (X := fun w _ => laidMetH Tryd.prog Rows.fnPermuteBitsRow.laid w) false (World.laidAll Tryd.prog os Rows.fnPermuteBitsRow.laid) #[.int .i64 0, .int .u64 0, .int .u64 0] 8 (World.laidAll_os _ _ _)
      (World.shaped_of_ZipB (by kernel_rfl) (by kernel_rfl)) (by kernel_rfl) (by kernel_rfl) (by kernel_rfl)
      (by rw [MakeChecks.laidMetH_plain _ _ _ (by kernel_rfl)]; exact laidMet_laidAll _ (by kernel_rfl) (by kernel_rfl))) ?_
  intro W base args ds gs before hval0 hW hc _ hL hsz0
  have hval : ∀ (j : Nat) t v, Tryd.f4.params[j]? = some t → args[j]? = some v → Value.okWide Tryd.prog W .any base t v := hval0
  have hW' := hW
  obtain ⟨p, q, hA0, hV, rfl, hfz, hnd⟩ := hW
  have hA : DataW.TrodAll enc Tryd.prog W 0 (fun _ => true) true Tryd.f4.params.toList args.toList ds p := hA0
  rw [Tryd.params4] at hA hval
  obtain ⟨v0, vs0, d0, ds0, p0, q0, hargs, rfl, rfl, h0, r0⟩ := trodAll_cons hA
  obtain ⟨v1, vs1, d1, ds1, p1, q1, rfl, rfl, rfl, h1, r1⟩ := trodAll_cons r0
  obtain ⟨v2, vs2, d2, ds2, p2, q2, rfl, rfl, rfl, h2, r2⟩ := trodAll_cons r1
  obtain ⟨rfl, rfl, rfl⟩ := trodAll_nil r2
  obtain rfl : args = #[v0, v1, v2] := by cases args; simp_all
  obtain ⟨g1, g2, g3, g4, g5, g6, rfl⟩ := listed (vars_length hV)
  obtain ⟨a0, rfl, rfl, rfl, w0⟩ := open_int Tryd.underlying3 (hval 0 3 v0 rfl rfl) h0
  obtain ⟨a1, rfl, rfl, rfl, w1⟩ := open_int Tryd.underlying25 (hval 1 25 v1 rfl rfl) h1
  obtain ⟨a2, rfl, rfl, rfl, w2⟩ := open_int Tryd.underlying25 (hval 2 25 v2 rfl rfl) h2
  clear hA0 hval0
  simp only [List.append_nil] at hW'
  refine (walk a0 a1 a2 w0 w1 w2 W (tables hL)).mono fun e W' ⟨he, hg⟩ => ?_
  subst he
  exact ⟨_, rfl, _, _, _, [], [], q, hW', (trodAll_cons_mk (shut_bool Tryd.underlying4 _) trodAll_mk0), (trodAll_cons_mk (shut_int Tryd.underlying3 w0) (trodAll_cons_mk (shut_int Tryd.underlying25 w1) (trodAll_cons_mk (shut_int Tryd.underlying25 w2) trodAll_mk0))), hg.trodVars laidOut (by kernel_rfl) hV, hg.frame _, fun h => by cases h⟩

theorem said : Rows.FnPermuteBitsSaid :=
  OpenClaim.holds_of_wide 4 Tryd.f4 rfl rfl rfl rfl rfl rfl rfl ⟨rfl, rfl, rfl, rfl, rfl⟩ rfl rfl rfl rfl rfl (by kernel_rfl) Tryd.func4 (by kernel_rfl)
    (of_decide_eq_true (by kernel_rfl)) (by unfold Func.isWrapper; first | (rw [if_pos (by decide +kernel)]; kernel_rfl) | (rw [if_neg (by decide +kernel)]; exact ⟨rfl, rfl⟩))
    (fun os started H enc _ => lifted os started H enc)

theorem plain (f : FuncId) (fn : Func) (hf : Tryd.pinned.checked.prog.funcNamed Tryd.f4.name = some f) (hfn : Tryd.pinned.checked.prog.funcs[f]? = some fn) :
    false = Tryd.pinned.checked.prog.looks [] ∧ ∀ (j : Nat) t, fn.params[j]? = some t → Tryd.pinned.checked.prog.wantsStandIn t = false := by
  obtain rfl : f = 4 := Option.some.inj ((show Tryd.prog.funcNamed Tryd.f4.name = some 4 by kernel_rfl).symm.trans hf) |>.symm
  obtain rfl : fn = Tryd.f4 := (Option.some.inj (Tryd.func4.symm.trans hfn)).symm
  refine ⟨by kernel_rfl, fun j t ht => ?_⟩
  rw [Tryd.params4] at ht
  have hm : t ∈ [3, 25, 25] := by simpa using Array.mem_of_getElem? ht
  have hall : ([3, 25, 25].all fun u => !Tryd.prog.wantsStandIn u) = true := by kernel_rfl
  exact (show Tryd.prog.wantsStandIn t = false by simpa using List.all_eq_true.1 hall t hm)

theorem card : Rows.FnPermuteBitsCardSaid :=
  Claim7.holds_tied_plain_at .later [] _ _ _ _ said (fun _ h => by cases h) (by kernel_rfl) (fun _ h => by cases h) fnPermuteBits_row_tie rfl ⟨rfl, rfl⟩ (by kernel_rfl) rfl plain (by kernel_rfl)
#print axioms card
end Go.Proofs.YtpnkgjnljbknnaaDoor.fnPermuteBits
