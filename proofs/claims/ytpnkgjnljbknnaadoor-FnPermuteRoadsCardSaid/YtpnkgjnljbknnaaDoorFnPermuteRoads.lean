/-
  laws.FnPermuteRoads returns true for every word of 64 bits: both permutations by exchanges of bits are those by tables. Conditions: the package's tables lie as the program's text lays them (tied).
-/
import Derived.Test.YtpnkgjnljbknnaaDoorCards
import Derived.Test.YtpnkgjnljbknnaaDoorTie
import Derived.Test.YtpnkgjnljbknnaaDoorTables
import Derived.ProofKit
import Derived.OpenShut
import Derived.LaidMore
import Derived.Lay
import Derived.SevenTiedAt
import Derived.Stop.Joined
import Derived.Stop.LaidErr
import Derived.OpenVars
import Derived.Lib.Hide
namespace Go.Proofs.YtpnkgjnljbknnaaDoor.fnPermuteRoads
open Go.ChangeShapes Go.WideShapes Go.ChangeAt Go.RowKit
set_option linter.unusedVariables false
set_option maxRecDepth 100000

theorem own : ownKnob Tryd.prog.godebug = none := by kernel_rfl
theorem laidOut : laidOutB Tryd.prog = true := by kernel_rfl
theorem listed {α : Type} : ∀ {l : List α}, l.length = 6 → ∃ g1 g2 g3 g4 g5 g6, l = [g1, g2, g3, g4, g5, g6]
  | [g1, g2, g3, g4, g5, g6], _ => ⟨g1, g2, g3, g4, g5, g6, rfl⟩

theorem walk (a0 : Int) (w0 : (Lit.int .u64 a0).wf = true) (w : World)
    (h : Tab w 4 .u8 ipL ∧ Tab w 5 .u8 fpL ∧ Tab w 6 .u8 exL ∧ Tab w 7 .u8 pfL ∧ Tab w 8 .u8 c1L ∧ Tab w 9 .u8 c2L) :
    Calls Tryd.prog 8 #[.int .u64 a0] w fun e w' => e = .returned (.bool true) ∧ Below w.heap.size w w' := by
  obtain ⟨x, rfl⟩ := word_of w0
  have H0 := Lib.hid h.1
  have H1 := Lib.hid h.2.1
  clear h w0
  have hq : ∀ y, (B y == B y) = true := fun y => by simp
  have q1 : ∀ x, permB x ipL = initX x := fun x => (init_perm x).symm
  have q2 : ∀ x, permB x fpL = finX x := fun x => (fin_perm x).symm
  have q3 : (B (initX 1#64) != 0) = true := by decide +kernel
  go_enter Tryd.func8, Tryd.ntmps8
  go_wp2_with (first
    | (go_at_call 41; ((with_reducible refine (init_one _).mono ?_); rintro e w' ⟨rfl, rfl⟩))
    | (go_at_call 41; ((with_reducible refine (init_any _ _).mono ?_); rintro e w' ⟨rfl, rfl⟩))
    | (go_at_call 42; ((with_reducible refine (final_any _ _).mono ?_); rintro e w' ⟨rfl, rfl⟩))
    | (go_at_call 29; ((with_reducible refine (zz0_any _ _ H0.out).mono ?_); rintro e w' ⟨rfl, rfl⟩))
    | (go_at_call 29; ((with_reducible refine (zz1_any _ _ H1.out).mono ?_); rintro e w' ⟨rfl, rfl⟩))
    | go_in)
  go_ret
  exact ⟨rfl, Below.refl _ _⟩

/-- What the row's list gives: each table's block holds its numbers. -/
theorem tables {W : World} (h : laidMetH Tryd.prog Rows.fnPermuteRoadsRow.laid W) : Tab W 4 .u8 ipL ∧ Tab W 5 .u8 fpL ∧ Tab W 6 .u8 exL ∧ Tab W 7 .u8 pfL ∧ Tab W 8 .u8 c1L ∧ Tab W 9 .u8 c2L := by
  rw [MakeChecks.laidMetH_plain _ _ _ (by kernel_rfl)] at h
  have e : Rows.fnPermuteRoadsRow.laid = [( "loop.example/pub-g03027/pub/des.initialPermutation", Lib.tabData .u8 (ipL.map fun (n : Nat) => (n : Int))), ( "loop.example/pub-g03027/pub/des.finalPermutation", Lib.tabData .u8 (fpL.map fun (n : Nat) => (n : Int))), ( "loop.example/pub-g03027/pub/des.expansionFunction", Lib.tabData .u8 (exL.map fun (n : Nat) => (n : Int))), ( "loop.example/pub-g03027/pub/des.permutationFunction", Lib.tabData .u8 (pfL.map fun (n : Nat) => (n : Int))), ( "loop.example/pub-g03027/pub/des.permutedChoice1", Lib.tabData .u8 (c1L.map fun (n : Nat) => (n : Int))), ( "loop.example/pub-g03027/pub/des.permutedChoice2", Lib.tabData .u8 (c2L.map fun (n : Nat) => (n : Int)))] := by kernel_rfl
  rw [e] at h
  refine ⟨?_, ?_, ?_, ?_, ?_, ?_⟩
  · exact tab_of_var (by kernel_rfl) (Lib.tabIs_of_head (g := 4) (t := 60) (e := 5) (n := 64) (by kernel_rfl) (by kernel_rfl) Tryd.underlying60 Tryd.underlying5 (by kernel_rfl) (by kernel_rfl) h) rfl
  · exact tab_of_var (by kernel_rfl) (Lib.tabIs_of_head (g := 5) (t := 60) (e := 5) (n := 64) (by kernel_rfl) (by kernel_rfl) Tryd.underlying60 Tryd.underlying5 (by kernel_rfl) (by kernel_rfl) h.tail) rfl
  · exact tab_of_var (by kernel_rfl) (Lib.tabIs_of_head (g := 6) (t := 61) (e := 5) (n := 48) (by kernel_rfl) (by kernel_rfl) Tryd.underlying61 Tryd.underlying5 (by kernel_rfl) (by kernel_rfl) h.tail.tail) rfl
  · exact tab_of_var (by kernel_rfl) (Lib.tabIs_of_head (g := 7) (t := 62) (e := 5) (n := 32) (by kernel_rfl) (by kernel_rfl) Tryd.underlying62 Tryd.underlying5 (by kernel_rfl) (by kernel_rfl) h.tail.tail.tail) rfl
  · exact tab_of_var (by kernel_rfl) (Lib.tabIs_of_head (g := 8) (t := 63) (e := 5) (n := 56) (by kernel_rfl) (by kernel_rfl) Tryd.underlying63 Tryd.underlying5 (by kernel_rfl) (by kernel_rfl) h.tail.tail.tail.tail) rfl
  · exact tab_of_var (by kernel_rfl) (Lib.tabIs_of_head (g := 9) (t := 61) (e := 5) (n := 48) (by kernel_rfl) (by kernel_rfl) Tryd.underlying61 Tryd.underlying5 (by kernel_rfl) (by kernel_rfl) h.tail.tail.tail.tail.tail) rfl

theorem lifted (os : Os) (started : os.Started) (H : Type) (enc : TypeId × Value → H) :
    ReturnsInHanded {} Tryd.checked os 8 .any (fun w args => (Rows.fnPermuteRoadsSpec.pre enc Tryd.prog Tryd.f8 Rows.fnPermuteRoadsRow.domain false w args ∧ laidMetH Tryd.prog Rows.fnPermuteRoadsRow.laid w) ∧ sizedMet enc Tryd.prog Tryd.f8 (OpenSpec.ofChange Rows.fnPermuteRoadsSpec) false w args)
      (Rows.fnPermuteRoadsSpec.post enc Tryd.prog Tryd.f8 false true false false) := by
  refine returnsInHanded_of_change_and (C := Tryd.checked) (X := fun w _ => laidMetH Tryd.prog Rows.fnPermuteRoadsRow.laid w) (fun _ _ _ hh h => h.of_heap hh) own started (by kernel_rfl) Tryd.func8
    (ChangeSpec.witness_shaped (enc := enc) (C := Tryd.checked) (os := os) (X := fun w _ => laidMetH Tryd.prog Rows.fnPermuteRoadsRow.laid w) false (World.laidAll Tryd.prog os Rows.fnPermuteRoadsRow.laid) #[.int .u64 0] 8 (World.laidAll_os _ _ _)
      (World.shaped_of_ZipB (by kernel_rfl) (by kernel_rfl)) (by kernel_rfl) (by kernel_rfl) (by kernel_rfl)
      (by rw [MakeChecks.laidMetH_plain _ _ _ (by kernel_rfl)]; exact laidMet_laidAll _ (by kernel_rfl) (by kernel_rfl))) ?_
  intro W base args ds gs before hval0 hW hc _ hL hsz0
  have hval : ∀ (j : Nat) t v, Tryd.f8.params[j]? = some t → args[j]? = some v → Value.okWide Tryd.prog W .any base t v := hval0
  have hW' := hW
  obtain ⟨p, q, hA0, hV, rfl, hfz, hnd⟩ := hW
  have hA : DataW.TrodAll enc Tryd.prog W 0 (fun _ => true) true Tryd.f8.params.toList args.toList ds p := hA0
  rw [Tryd.params8] at hA hval
  obtain ⟨v0, vs0, d0, ds0, p0, q0, hargs, rfl, rfl, h0, r0⟩ := trodAll_cons hA
  obtain ⟨rfl, rfl, rfl⟩ := trodAll_nil r0
  obtain rfl : args = #[v0] := by cases args; simp_all
  obtain ⟨g1, g2, g3, g4, g5, g6, rfl⟩ := listed (vars_length hV)
  obtain ⟨a0, rfl, rfl, rfl, w0⟩ := open_int Tryd.underlying25 (hval 0 25 v0 rfl rfl) h0
  clear hA0 hval0
  simp only [List.append_nil] at hW'
  refine (walk a0 w0 W (tables hL)).mono fun e W' ⟨he, hg⟩ => ?_
  subst he
  exact ⟨_, rfl, _, _, _, [], [], q, hW', (trodAll_cons_mk (shut_bool Tryd.underlying4 _) trodAll_mk0), (trodAll_cons_mk (shut_int Tryd.underlying25 w0) trodAll_mk0), hg.trodVars laidOut (by kernel_rfl) hV, hg.frame _, fun h => by cases h⟩

theorem said : Rows.FnPermuteRoadsSaid :=
  OpenClaim.holds_of_wide 8 Tryd.f8 rfl rfl rfl rfl rfl rfl rfl ⟨rfl, rfl, rfl, rfl, rfl⟩ rfl rfl rfl rfl rfl (by kernel_rfl) Tryd.func8 (by kernel_rfl)
    (of_decide_eq_true (by kernel_rfl)) (by unfold Func.isWrapper; first | (rw [if_pos (by decide +kernel)]; kernel_rfl) | (rw [if_neg (by decide +kernel)]; exact ⟨rfl, rfl⟩))
    (fun os started H enc _ => lifted os started H enc)

theorem plain (f : FuncId) (fn : Func) (hf : Tryd.pinned.checked.prog.funcNamed Tryd.f8.name = some f) (hfn : Tryd.pinned.checked.prog.funcs[f]? = some fn) :
    false = Tryd.pinned.checked.prog.looks [] ∧ ∀ (j : Nat) t, fn.params[j]? = some t → Tryd.pinned.checked.prog.wantsStandIn t = false := by
  obtain rfl : f = 8 := Option.some.inj ((show Tryd.prog.funcNamed Tryd.f8.name = some 8 by kernel_rfl).symm.trans hf) |>.symm
  obtain rfl : fn = Tryd.f8 := (Option.some.inj (Tryd.func8.symm.trans hfn)).symm
  refine ⟨by kernel_rfl, fun j t ht => ?_⟩
  rw [Tryd.params8] at ht
  have hm : t ∈ [25] := by simpa using Array.mem_of_getElem? ht
  have hall : ([25].all fun u => !Tryd.prog.wantsStandIn u) = true := by kernel_rfl
  exact (show Tryd.prog.wantsStandIn t = false by simpa using List.all_eq_true.1 hall t hm)

theorem card : Rows.FnPermuteRoadsCardSaid :=
  Claim7.holds_tied_plain_at .later [] _ _ _ _ said (fun _ h => by cases h) (by kernel_rfl) (fun _ h => by cases h) fnPermuteRoads_row_tie rfl ⟨rfl, rfl⟩ (by kernel_rfl) rfl plain (by kernel_rfl)
#print axioms card
end Go.Proofs.YtpnkgjnljbknnaaDoor.fnPermuteRoads
