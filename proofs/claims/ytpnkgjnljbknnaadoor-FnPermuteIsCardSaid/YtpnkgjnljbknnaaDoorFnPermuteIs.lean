/-
  laws.FnPermuteIs returns true for every table number and every word of 64 bits: the tables are those of the reference. Conditions: the package's tables lie as the program's text lays them (tied).
-/
import Derived.Test.YtpnkgjnljbknnaaDoorCards
import Derived.Test.YtpnkgjnljbknnaaDoorTie
import Derived.Test.YtpnkgjnljbknnaaDoorTables
import Derived.ProofKit
import Derived.OpenShut
import Derived.LaidMore
import Derived.Lay
import Derived.SevenTiedAt
import Derived.Stop.Joined
import Derived.Stop.LaidErr
import Derived.OpenVars
import Derived.Lib.Hide
namespace Go.Proofs.YtpnkgjnljbknnaaDoor.fnPermuteIs
open Go.ChangeShapes Go.WideShapes Go.ChangeAt Go.RowKit
set_option linter.unusedVariables false
set_option maxRecDepth 100000

theorem own : ownKnob Tryd.prog.godebug = none := by kernel_rfl
theorem laidOut : laidOutB Tryd.prog = true := by kernel_rfl
theorem listed {α : Type} : ∀ {l : List α}, l.length = 10 → ∃ g1 g2 g3 g4 g5 g6 g7 g8 g9 g10, l = [g1, g2, g3, g4, g5, g6, g7, g8, g9, g10]
  | [g1, g2, g3, g4, g5, g6, g7, g8, g9, g10], _ => ⟨g1, g2, g3, g4, g5, g6, g7, g8, g9, g10, rfl⟩

theorem walk_out (a0 : Int) (x : BitVec 64) (w : World) (h : a0 < 0 ∨ 5 < a0) :
    Calls Tryd.prog 5 #[.int .i64 a0, .int .u64 (B x)] w fun e w' => e = .returned (.bool true) ∧ Below w.heap.size w w' := by
  have h0 : (a0 == 0) = false := by simp only [beq_eq_false_iff_ne]; omega
  have h1 : (a0 == 1) = false := by simp only [beq_eq_false_iff_ne]; omega
  have h2 : (a0 == 2) = false := by simp only [beq_eq_false_iff_ne]; omega
  have h3 : (a0 == 3) = false := by simp only [beq_eq_false_iff_ne]; omega
  have h4 : (a0 == 4) = false := by simp only [beq_eq_false_iff_ne]; omega
  have h5 : (a0 == 5) = false := by simp only [beq_eq_false_iff_ne]; omega
  clear h
  go_enter Tryd.func5, Tryd.ntmps5
  go_wp2
  go_ret
  exact ⟨rfl, Below.refl _ _⟩

theorem walk0 (x : BitVec 64) (w : World) (h : Tab w 4 .u8 ipL)  :
    Calls Tryd.prog 5 #[.int .i64 0, .int .u64 (B x)] w fun e w' => e = .returned (.bool true) ∧ Below w.heap.size w w' := by
  have H := Lib.hid h
  clear h
  have hq : ∀ y, (B y == B y) = true := fun y => by simp
  have a4 := r_andc
  go_enter Tryd.func5, Tryd.ntmps5
  go_wp2_with (first
    | (go_at_call 29; ((with_reducible refine (zz0_any _ _ H.out).mono ?_); rintro e w' ⟨rfl, rfl⟩))
    | (go_at_call 14; ((with_reducible refine (specInit_any _ _).mono ?_); rintro e w' ⟨rfl, hb⟩))
    | go_in)
  go_ret
  exact ⟨rfl, by assumption⟩

theorem walk1 (x : BitVec 64) (w : World) (h : Tab w 5 .u8 fpL)  :
    Calls Tryd.prog 5 #[.int .i64 1, .int .u64 (B x)] w fun e w' => e = .returned (.bool true) ∧ Below w.heap.size w w' := by
  have H := Lib.hid h
  clear h
  have hq : ∀ y, (B y == B y) = true := fun y => by simp
  have a4 := r_andc
  go_enter Tryd.func5, Tryd.ntmps5
  go_wp2_with (first
    | (go_at_call 29; ((with_reducible refine (zz1_any _ _ H.out).mono ?_); rintro e w' ⟨rfl, rfl⟩))
    | (go_at_call 15; ((with_reducible refine (specFin_any _ _).mono ?_); rintro e w' ⟨rfl, hb⟩; rw [← fin_put, fin_perm]))
    | go_in)
  go_ret
  exact ⟨rfl, by assumption⟩

theorem walk2 (x : BitVec 64) (w : World) (h : Tab w 6 .u8 exL) (g : Tab w 0 .i64 exT) :
    Calls Tryd.prog 5 #[.int .i64 2, .int .u64 (B x)] w fun e w' => e = .returned (.bool true) ∧ Below w.heap.size w w' := by
  have H := Lib.hid h
  have G := Lib.hid g
  clear h g
  have hq : ∀ y, (B y == B y) = true := fun y => by simp
  have a4 := r_andc
  have a6 := r_u32
  go_enter Tryd.func5, Tryd.ntmps5
  go_wp2_with (first
    | (go_at_call 29; ((with_reducible refine (zz2_any _ _ H.out).mono ?_); rintro e w' ⟨rfl, rfl⟩))
    | (go_at_call 16; ((with_reducible refine (expand_any _ _ G.out).mono ?_); rintro e w' ⟨rfl, rfl⟩))
    | go_in)
  go_ret
  exact ⟨rfl, Below.refl _ _⟩

theorem walk3 (x : BitVec 64) (w : World) (h : Tab w 7 .u8 pfL) (g : Tab w 1 .i64 mxT) :
    Calls Tryd.prog 5 #[.int .i64 3, .int .u64 (B x)] w fun e w' => e = .returned (.bool true) ∧ Below w.heap.size w w' := by
  have H := Lib.hid h
  have G := Lib.hid g
  clear h g
  have hq : ∀ y, (B y == B y) = true := fun y => by simp
  have a4 := r_andc
  have a5 := r_wrap
  have a6 := r_u32
  go_enter Tryd.func5, Tryd.ntmps5
  go_wp2_with (first
    | (go_at_call 29; ((with_reducible refine (zz3_any _ _ H.out).mono ?_); rintro e w' ⟨rfl, rfl⟩))
    | (go_at_call 17; ((with_reducible refine (mix_any _ _ G.out).mono ?_); rintro e w' ⟨rfl, rfl⟩))
    | go_in)
  go_ret
  exact ⟨rfl, Below.refl _ _⟩

theorem walk4 (x : BitVec 64) (w : World) (h : Tab w 8 .u8 c1L) (g : Tab w 2 .i64 c1T) :
    Calls Tryd.prog 5 #[.int .i64 4, .int .u64 (B x)] w fun e w' => e = .returned (.bool true) ∧ Below w.heap.size w w' := by
  have H := Lib.hid h
  have G := Lib.hid g
  clear h g
  have hq : ∀ y, (B y == B y) = true := fun y => by simp
  have a4 := r_andc
  go_enter Tryd.func5, Tryd.ntmps5
  go_wp2_with (first
    | (go_at_call 29; ((with_reducible refine (zz4_any _ _ H.out).mono ?_); rintro e w' ⟨rfl, rfl⟩))
    | (go_at_call 18; ((with_reducible refine (choice1_any _ _ G.out).mono ?_); rintro e w' ⟨rfl, rfl⟩))
    | go_in)
  go_ret
  exact ⟨rfl, Below.refl _ _⟩

theorem walk5 (x : BitVec 64) (w : World) (h : Tab w 9 .u8 c2L) (g : Tab w 3 .i64 c2T) :
    Calls Tryd.prog 5 #[.int .i64 5, .int .u64 (B x)] w fun e w' => e = .returned (.bool true) ∧ Below w.heap.size w w' := by
  have H := Lib.hid h
  have G := Lib.hid g
  clear h g
  have hq : ∀ y, (B y == B y) = true := fun y => by simp
  have a4 := r_andc
  go_enter Tryd.func5, Tryd.ntmps5
  go_wp2_with (first
    | (go_at_call 29; ((with_reducible refine (zz5_any _ _ H.out).mono ?_); rintro e w' ⟨rfl, rfl⟩))
    | (go_at_call 19; ((with_reducible refine (choice2_any _ _ G.out).mono ?_); rintro e w' ⟨rfl, rfl⟩))
    | go_in)
  go_ret
  exact ⟨rfl, Below.refl _ _⟩

theorem walk (a0 a1 : Int) (w0 : (Lit.int .i64 a0).wf = true) (w1 : (Lit.int .u64 a1).wf = true) (w : World)
    (h : Tab w 0 .i64 exT ∧ Tab w 1 .i64 mxT ∧ Tab w 2 .i64 c1T ∧ Tab w 3 .i64 c2T ∧ Tab w 4 .u8 ipL ∧ Tab w 5 .u8 fpL ∧ Tab w 6 .u8 exL ∧ Tab w 7 .u8 pfL ∧ Tab w 8 .u8 c1L ∧ Tab w 9 .u8 c2L) :
    Calls Tryd.prog 5 #[.int .i64 a0, .int .u64 a1] w fun e w' => e = .returned (.bool true) ∧ Below w.heap.size w w' := by
  obtain ⟨x, rfl⟩ := word_of w1
  obtain ⟨g0, g1, g2, g3, h0, h1, h2, h3, h4, h5⟩ := h
  by_cases ho : a0 < 0 ∨ 5 < a0
  · exact walk_out a0 x w ho
  · rcases (show a0 = 0 ∨ a0 = 1 ∨ a0 = 2 ∨ a0 = 3 ∨ a0 = 4 ∨ a0 = 5 by omega) with rfl | rfl | rfl | rfl | rfl | rfl
    · exact walk0 x w h0
    · exact walk1 x w h1
    · exact walk2 x w h2 g0
    · exact walk3 x w h3 g1
    · exact walk4 x w h4 g2
    · exact walk5 x w h5 g3

/-- What the row's list gives: each table's block holds its numbers. -/
theorem tables {W : World} (h : laidMetH Tryd.prog Rows.fnPermuteIsRow.laid W) : Tab W 0 .i64 exT ∧ Tab W 1 .i64 mxT ∧ Tab W 2 .i64 c1T ∧ Tab W 3 .i64 c2T ∧ Tab W 4 .u8 ipL ∧ Tab W 5 .u8 fpL ∧ Tab W 6 .u8 exL ∧ Tab W 7 .u8 pfL ∧ Tab W 8 .u8 c1L ∧ Tab W 9 .u8 c2L := by
  rw [MakeChecks.laidMetH_plain _ _ _ (by kernel_rfl)] at h
  have e : Rows.fnPermuteIsRow.laid = [( "loop.example/pub-g03027/spec.expansion", Lib.tabData .i64 (exT.map fun (n : Nat) => (n : Int))), ( "loop.example/pub-g03027/spec.mixing", Lib.tabData .i64 (mxT.map fun (n : Nat) => (n : Int))), ( "loop.example/pub-g03027/spec.choice1", Lib.tabData .i64 (c1T.map fun (n : Nat) => (n : Int))), ( "loop.example/pub-g03027/spec.choice2", Lib.tabData .i64 (c2T.map fun (n : Nat) => (n : Int))), ( "loop.example/pub-g03027/pub/des.initialPermutation", Lib.tabData .u8 (ipL.map fun (n : Nat) => (n : Int))), ( "loop.example/pub-g03027/pub/des.finalPermutation", Lib.tabData .u8 (fpL.map fun (n : Nat) => (n : Int))), ( "loop.example/pub-g03027/pub/des.expansionFunction", Lib.tabData .u8 (exL.map fun (n : Nat) => (n : Int))), ( "loop.example/pub-g03027/pub/des.permutationFunction", Lib.tabData .u8 (pfL.map fun (n : Nat) => (n : Int))), ( "loop.example/pub-g03027/pub/des.permutedChoice1", Lib.tabData .u8 (c1L.map fun (n : Nat) => (n : Int))), ( "loop.example/pub-g03027/pub/des.permutedChoice2", Lib.tabData .u8 (c2L.map fun (n : Nat) => (n : Int)))] := by kernel_rfl
  rw [e] at h
  refine ⟨?_, ?_, ?_, ?_, ?_, ?_, ?_, ?_, ?_, ?_⟩
  · exact tab_of_var (by kernel_rfl) (Lib.tabIs_of_head (g := 0) (t := 48) (e := 3) (n := 48) (by kernel_rfl) (by kernel_rfl) Tryd.underlying48 Tryd.underlying3 (by kernel_rfl) (by kernel_rfl) h) rfl
  · exact tab_of_var (by kernel_rfl) (Lib.tabIs_of_head (g := 1) (t := 49) (e := 3) (n := 32) (by kernel_rfl) (by kernel_rfl) Tryd.underlying49 Tryd.underlying3 (by kernel_rfl) (by kernel_rfl) h.tail) rfl
  · exact tab_of_var (by kernel_rfl) (Lib.tabIs_of_head (g := 2) (t := 50) (e := 3) (n := 56) (by kernel_rfl) (by kernel_rfl) Tryd.underlying50 Tryd.underlying3 (by kernel_rfl) (by kernel_rfl) h.tail.tail) rfl
  · exact tab_of_var (by kernel_rfl) (Lib.tabIs_of_head (g := 3) (t := 48) (e := 3) (n := 48) (by kernel_rfl) (by kernel_rfl) Tryd.underlying48 Tryd.underlying3 (by kernel_rfl) (by kernel_rfl) h.tail.tail.tail) rfl
  · exact tab_of_var (by kernel_rfl) (Lib.tabIs_of_head (g := 4) (t := 60) (e := 5) (n := 64) (by kernel_rfl) (by kernel_rfl) Tryd.underlying60 Tryd.underlying5 (by kernel_rfl) (by kernel_rfl) h.tail.tail.tail.tail) rfl
  · exact tab_of_var (by kernel_rfl) (Lib.tabIs_of_head (g := 5) (t := 60) (e := 5) (n := 64) (by kernel_rfl) (by kernel_rfl) Tryd.underlying60 Tryd.underlying5 (by kernel_rfl) (by kernel_rfl) h.tail.tail.tail.tail.tail) rfl
  · exact tab_of_var (by kernel_rfl) (Lib.tabIs_of_head (g := 6) (t := 61) (e := 5) (n := 48) (by kernel_rfl) (by kernel_rfl) Tryd.underlying61 Tryd.underlying5 (by kernel_rfl) (by kernel_rfl) h.tail.tail.tail.tail.tail.tail) rfl
  · exact tab_of_var (by kernel_rfl) (Lib.tabIs_of_head (g := 7) (t := 62) (e := 5) (n := 32) (by kernel_rfl) (by kernel_rfl) Tryd.underlying62 Tryd.underlying5 (by kernel_rfl) (by kernel_rfl) h.tail.tail.tail.tail.tail.tail.tail) rfl
  · exact tab_of_var (by kernel_rfl) (Lib.tabIs_of_head (g := 8) (t := 63) (e := 5) (n := 56) (by kernel_rfl) (by kernel_rfl) Tryd.underlying63 Tryd.underlying5 (by kernel_rfl) (by kernel_rfl) h.tail.tail.tail.tail.tail.tail.tail.tail) rfl
  · exact tab_of_var (by kernel_rfl) (Lib.tabIs_of_head (g := 9) (t := 61) (e := 5) (n := 48) (by kernel_rfl) (by kernel_rfl) Tryd.underlying61 Tryd.underlying5 (by kernel_rfl) (by kernel_rfl) h.tail.tail.tail.tail.tail.tail.tail.tail.tail) rfl

theorem lifted (os : Os) (started : os.Started) (H : Type) (enc : TypeId × Value → H) :
    ReturnsInHanded {} Tryd.checked os 5 .any (fun w args => (Rows.fnPermuteIsSpec.pre enc Tryd.prog Tryd.f5 Rows.fnPermuteIsRow.domain false w args ∧ laidMetH Tryd.prog Rows.fnPermuteIsRow.laid w) ∧ sizedMet enc Tryd.prog Tryd.f5 (OpenSpec.ofChange Rows.fnPermuteIsSpec) false w args)
      (Rows.fnPermuteIsSpec.post enc Tryd.prog Tryd.f5 false true false false) := by
  refine returnsInHanded_of_change_and (C := Tryd.checked) (X := fun w _ => laidMetH Tryd.prog Rows.fnPermuteIsRow.laid w) (fun _ _ _ hh h => h.of_heap hh) own started (by kernel_rfl) Tryd.func5
    (ChangeSpec.witness_shaped (enc := enc) (C := Tryd.checked) (os := os) (X := fun w _ => laidMetH Tryd.prog Rows.fnPermuteIsRow.laid w) false (World.laidAll Tryd.prog os Rows.fnPermuteIsRow.laid) #[.int .i64 0, .int .u64 0] 8 (World.laidAll_os _ _ _)
      (World.shaped_of_ZipB (by kernel_rfl) (by kernel_rfl)) (by kernel_rfl) (by kernel_rfl) (by kernel_rfl)
      (by rw [MakeChecks.laidMetH_plain _ _ _ (by kernel_rfl)]; exact laidMet_laidAll _ (by kernel_rfl) (by kernel_rfl))) ?_
  intro W base args ds gs before hval0 hW hc _ hL hsz0
  have hval : ∀ (j : Nat) t v, Tryd.f5.params[j]? = some t → args[j]? = some v → Value.okWide Tryd.prog W .any base t v := hval0
  have hW' := hW
  obtain ⟨p, q, hA0, hV, rfl, hfz, hnd⟩ := hW
  have hA : DataW.TrodAll enc Tryd.prog W 0 (fun _ => true) true Tryd.f5.params.toList args.toList ds p := hA0
  rw [Tryd.params5] at hA hval
  obtain ⟨v0, vs0, d0, ds0, p0, q0, hargs, rfl, rfl, h0, r0⟩ := trodAll_cons hA
  obtain ⟨v1, vs1, d1, ds1, p1, q1, rfl, rfl, rfl, h1, r1⟩ := trodAll_cons r0
  obtain ⟨rfl, rfl, rfl⟩ := trodAll_nil r1
  obtain rfl : args = #[v0, v1] := by cases args; simp_all
  obtain ⟨g1, g2, g3, g4, g5, g6, g7, g8, g9, g10, rfl⟩ := listed (vars_length hV)
  obtain ⟨a0, rfl, rfl, rfl, w0⟩ := open_int Tryd.underlying3 (hval 0 3 v0 rfl rfl) h0
  obtain ⟨a1, rfl, rfl, rfl, w1⟩ := open_int Tryd.underlying25 (hval 1 25 v1 rfl rfl) h1
  clear hA0 hval0
  simp only [List.append_nil] at hW'
  refine (walk a0 a1 w0 w1 W (tables hL)).mono fun e W' ⟨he, hg⟩ => ?_
  subst he
  exact ⟨_, rfl, _, _, _, [], [], q, hW', (trodAll_cons_mk (shut_bool Tryd.underlying4 _) trodAll_mk0), (trodAll_cons_mk (shut_int Tryd.underlying3 w0) (trodAll_cons_mk (shut_int Tryd.underlying25 w1) trodAll_mk0)), hg.trodVars laidOut (by kernel_rfl) hV, hg.frame _, fun h => by cases h⟩

theorem said : Rows.FnPermuteIsSaid :=
  OpenClaim.holds_of_wide 5 Tryd.f5 rfl rfl rfl rfl rfl rfl rfl ⟨rfl, rfl, rfl, rfl, rfl⟩ rfl rfl rfl rfl rfl (by kernel_rfl) Tryd.func5 (by kernel_rfl)
    (of_decide_eq_true (by kernel_rfl)) (by unfold Func.isWrapper; first | (rw [if_pos (by decide +kernel)]; kernel_rfl) | (rw [if_neg (by decide +kernel)]; exact ⟨rfl, rfl⟩))
    (fun os started H enc _ => lifted os started H enc)

theorem plain (f : FuncId) (fn : Func) (hf : Tryd.pinned.checked.prog.funcNamed Tryd.f5.name = some f) (hfn : Tryd.pinned.checked.prog.funcs[f]? = some fn) :
    false = Tryd.pinned.checked.prog.looks [] ∧ ∀ (j : Nat) t, fn.params[j]? = some t → Tryd.pinned.checked.prog.wantsStandIn t = false := by
  obtain rfl : f = 5 := Option.some.inj ((show Tryd.prog.funcNamed Tryd.f5.name = some 5 by kernel_rfl).symm.trans hf) |>.symm
  obtain rfl : fn = Tryd.f5 := (Option.some.inj (Tryd.func5.symm.trans hfn)).symm
  refine ⟨by kernel_rfl, fun j t ht => ?_⟩
  rw [Tryd.params5] at ht
  have hm : t ∈ [3, 25] := by simpa using Array.mem_of_getElem? ht
  have hall : ([3, 25].all fun u => !Tryd.prog.wantsStandIn u) = true := by kernel_rfl
  exact (show Tryd.prog.wantsStandIn t = false by simpa using List.all_eq_true.1 hall t hm)

theorem card : Rows.FnPermuteIsCardSaid :=
  Claim7.holds_tied_plain_at .later [] _ _ _ _ said (fun _ h => by cases h) (by kernel_rfl) (fun _ h => by cases h) fnPermuteIs_row_tie rfl ⟨rfl, rfl⟩ (by kernel_rfl) rfl plain (by kernel_rfl)
#print axioms card
end Go.Proofs.YtpnkgjnljbknnaaDoor.fnPermuteIs
