/-
  laws.FnRotationsIs returns true for every number of 32 bits: a half of a key is turned by one bit for the words 1, 2, 9 and 16, by two for the others, and comes back. Conditions: the package's tables lie as the program's text lays them (tied).
-/
import Derived.Test.YtpnkgjnljbknnaaDoorCards
import Derived.Test.YtpnkgjnljbknnaaDoorTie
import Derived.Test.YtpnkgjnljbknnaaDoorRot
import Derived.ProofKit
import Derived.OpenShut
import Derived.LaidMore
import Derived.Lay
import Derived.SevenTiedAt
import Derived.Stop.Joined
import Derived.Stop.LaidErr
import Derived.OpenVars
import Derived.Lib.Hide
namespace Go.Proofs.YtpnkgjnljbknnaaDoor.fnRotationsIs
open Go.ChangeShapes Go.WideShapes Go.ChangeAt Go.RowKit
set_option linter.unusedVariables false
set_option maxRecDepth 100000

theorem own : ownKnob Tryd.prog.godebug = none := by kernel_rfl
theorem laidOut : laidOutB Tryd.prog = true := by kernel_rfl
theorem listed {α : Type} : ∀ {l : List α}, l.length = 1 → ∃ g1, l = [g1]
  | [g1], _ => ⟨g1, rfl⟩

theorem word32_of {n : Int} (h : (Lit.int .u32 n).wf = true) : ∃ x, n = B x ∧ x.toNat < 4294967296 := by
  have hb := bounds_u32 h
  refine ⟨BitVec.ofInt 64 n, B_ofInt hb.1 (by omega), ?_⟩
  have := B_ofInt hb.1 (by omega)
  unfold B at this
  omega

theorem walk_great (x : BitVec 64) (w : World) (h : 268435456 ≤ x.toNat) :
    Calls Tryd.prog 3 #[.int .u32 (B x)] w fun e w' => e = .returned (.bool true) ∧ Below w.heap.size w w' := by
  have hd : ((268435456 : Int) ≤ B x) = True := by unfold B; simp; omega
  go_enter Tryd.func3, Tryd.ntmps3
  go_wp2
  go_ret
  exact ⟨rfl, Below.refl _ _⟩

set_option maxHeartbeats 1600000 in
theorem walk_small (y : BitVec 64) (w : World) (h : y.toNat < 268435456) (ht : Tab w 10 .u8 ksL) :
    Calls Tryd.prog 3 #[.int .u32 (B y)] w fun e w' => e = .returned (.bool true) ∧ Below w.heap.size w w' := by
  have hd : ((268435456 : Int) ≤ B y) = False := by unfold B; simp; omega
  have hq : ∀ y, (B y == B y) = true := fun y => by simp
  have hq2 : ∀ y, (B y != B y) = false := fun y => by simp
  have hw := r_wrap
  have HY := Lib.hid (low28_lt h)
  have HT := Lib.hid ht
  clear h ht
  go_enter Tryd.func3, Tryd.ntmps3
  go_wp2_with (first
    | (go_at_call 9; ((with_reducible refine (rotations_any _ _ HY.out HT.out).mono ?_); rintro e w1 ⟨g, cap, rfl, hown, hbel⟩)))
  have hgs : g < w1.heap.size := (hown.lt g rfl).2
  have HO := Lib.hid hown
  have HB := Lib.hid hbel
  clear hown hbel hd
  go_loopw [4, 18] (fun v i wr => ∃ k : Nat, k ≤ 16 ∧ i = .int .i64 k ∧ v = .int .u64 (B (rotK y k)) ∧ Below w1.heap.size w1 wr) (fun _ i _ => 16 - (intOf i).toNat)
  case atStart => exact ⟨0, Nat.zero_le _, rfl, rfl, Below.refl _ _⟩
  case round =>
    obtain ⟨k, hk, rfl, rfl, hb⟩ := hrel
    obtain ⟨z, hz⟩ : ∃ z, z = rotK y k := ⟨_, rfl⟩
    rw [← hz]
    have HZ := Lib.hid hz
    clear hz
    by_cases hlt : k < 16
    · have hd : ((k : Int) < 16) = True := by simp; omega
      have hcell : wr.cell? ⟨g, k, none⟩ = some (.int .u32 (B (turn (ksL.getD k 0) z))) := by
        rw [hb.cell (p := ⟨g, k, none⟩) hgs, HO.out.cellAt k (by omega), rotRow_at y 16 k hlt hlt, rotK, HZ.out]
      have HB1 := Lib.hid hb
      have H12 := Lib.hid (ksL_12 k hlt)
      have HR : Hid (turn (ksL.getD k 0) z = rotK y (k + 1)) := Lib.hid (by rw [rotK, HZ.out])
      obtain ⟨r, hr⟩ : ∃ r, r = ksL.getD k 0 := ⟨_, rfl⟩
      have HC := Lib.hid (turnN_any k wr hlt)
      rw [← hr] at hcell H12 HR HC
      clear hr hb
      go_wp2_with (first
        | (go_at_call 11; ((with_reducible refine HC.out.mono ?_); rintro e w2 ⟨rfl, rfl⟩))
        | (go_at_call 10; ((with_reducible refine (turned_any _ _ _ H12.out).mono ?_); rintro e w2 ⟨rfl, hb2⟩)))
      go_roundw
      case rel => exact ⟨k + 1, by omega, by go_num, by rw [← HR.out], HB1.out.trans (Below.mono (by assumption) HB1.out.size)⟩
      case measure => simp [intOf]; omega
    · have hk16 : k = 16 := by omega
      have hd : ((k : Int) < 16) = False := by simp; omega
      have hcell : wr.cell? ⟨g, 15, none⟩ = some (.int .u32 (B y)) := by
        rw [hb.cell (p := ⟨g, 15, none⟩) hgs, HO.out.cellAt 15 (by omega), rotRow_at y 16 15 (by omega) (by omega), rotK_all y HY.out]
      have HB1 := Lib.hid hb
      clear hb
      go_wp2
      go_ret
      exact ⟨rfl, HB.out.trans (HB1.out.mono HB.out.size)⟩

theorem walk (a0 : Int) (w0 : (Lit.int .u32 a0).wf = true) (w : World) (h : Tab w 10 .u8 ksL) :
    Calls Tryd.prog 3 #[.int .u32 a0] w fun e w' => e = .returned (.bool true) ∧ Below w.heap.size w w' := by
  obtain ⟨x, rfl, _⟩ := word32_of w0
  by_cases hx : x.toNat < 268435456
  · exact walk_small x w hx h
  · exact walk_great x w (by omega)

/-- What the row's list gives: each table's block holds its numbers. -/
theorem tables {W : World} (h : laidMetH Tryd.prog Rows.fnRotationsIsRow.laid W) : Tab W 10 .u8 ksL := by
  rw [MakeChecks.laidMetH_plain _ _ _ (by kernel_rfl)] at h
  have e : Rows.fnRotationsIsRow.laid = [( "loop.example/pub-g03027/pub/des.ksRotations", Lib.tabData .u8 (ksL.map fun (n : Nat) => (n : Int)))] := by kernel_rfl
  rw [e] at h
  · exact tab_of_var (by kernel_rfl) (Lib.tabIs_of_head (g := 10) (t := 70) (e := 5) (n := 16) (by kernel_rfl) (by kernel_rfl) Tryd.underlying70 Tryd.underlying5 (by kernel_rfl) (by kernel_rfl) h) rfl

theorem lifted (os : Os) (started : os.Started) (H : Type) (enc : TypeId × Value → H) :
    ReturnsInHanded {} Tryd.checked os 3 .any (fun w args => (Rows.fnRotationsIsSpec.pre enc Tryd.prog Tryd.f3 Rows.fnRotationsIsRow.domain false w args ∧ laidMetH Tryd.prog Rows.fnRotationsIsRow.laid w) ∧ sizedMet enc Tryd.prog Tryd.f3 (OpenSpec.ofChange Rows.fnRotationsIsSpec) false w args)
      (Rows.fnRotationsIsSpec.post enc Tryd.prog Tryd.f3 false true false false) := by
  refine returnsInHanded_of_change_and (C := Tryd.checked) (X := fun w _ => laidMetH Tryd.prog Rows.fnRotationsIsRow.laid w) (fun _ _ _ hh h => h.of_heap hh) own started (by kernel_rfl) Tryd.func3
    (ChangeSpec.witness_shaped (enc := enc) (C := Tryd.checked) (os := os) (X := fun w _ => laidMetH Tryd.prog Rows.fnRotationsIsRow.laid w) false (World.laidAll Tryd.prog os Rows.fnRotationsIsRow.laid) #[.int .u32 0] 8 (World.laidAll_os _ _ _)
      (World.shaped_of_ZipB (by kernel_rfl) (by kernel_rfl)) (by kernel_rfl) (by kernel_rfl) (by kernel_rfl)
      (by rw [MakeChecks.laidMetH_plain _ _ _ (by kernel_rfl)]; exact laidMet_laidAll _ (by kernel_rfl) (by kernel_rfl))) ?_
  intro W base args ds gs before hval0 hW hc _ hL hsz0
  have hval : ∀ (j : Nat) t v, Tryd.f3.params[j]? = some t → args[j]? = some v → Value.okWide Tryd.prog W .any base t v := hval0
  have hW' := hW
  obtain ⟨p, q, hA0, hV, rfl, hfz, hnd⟩ := hW
  have hA : DataW.TrodAll enc Tryd.prog W 0 (fun _ => true) true Tryd.f3.params.toList args.toList ds p := hA0
  rw [Tryd.params3] at hA hval
  obtain ⟨v0, vs0, d0, ds0, p0, q0, hargs, rfl, rfl, h0, r0⟩ := trodAll_cons hA
  obtain ⟨rfl, rfl, rfl⟩ := trodAll_nil r0
  obtain rfl : args = #[v0] := by cases args; simp_all
  obtain ⟨g1, rfl⟩ := listed (vars_length hV)
  obtain ⟨a0, rfl, rfl, rfl, w0⟩ := open_int Tryd.underlying22 (hval 0 22 v0 rfl rfl) h0
  clear hA0 hval0
  simp only [List.append_nil] at hW'
  refine (walk a0 w0 W (tables hL)).mono fun e W' ⟨he, hg⟩ => ?_
  subst he
  exact ⟨_, rfl, _, _, _, [], [], q, hW', (trodAll_cons_mk (shut_bool Tryd.underlying4 _) trodAll_mk0), (trodAll_cons_mk (shut_int Tryd.underlying22 w0) trodAll_mk0), hg.trodVars laidOut (by kernel_rfl) hV, hg.frame _, fun h => by cases h⟩

theorem said : Rows.FnRotationsIsSaid :=
  OpenClaim.holds_of_wide 3 Tryd.f3 rfl rfl rfl rfl rfl rfl rfl ⟨rfl, rfl, rfl, rfl, rfl⟩ rfl rfl rfl rfl rfl (by kernel_rfl) Tryd.func3 (by kernel_rfl)
    (of_decide_eq_true (by kernel_rfl)) (by unfold Func.isWrapper; first | (rw [if_pos (by decide +kernel)]; kernel_rfl) | (rw [if_neg (by decide +kernel)]; exact ⟨rfl, rfl⟩))
    (fun os started H enc _ => lifted os started H enc)

theorem plain (f : FuncId) (fn : Func) (hf : Tryd.pinned.checked.prog.funcNamed Tryd.f3.name = some f) (hfn : Tryd.pinned.checked.prog.funcs[f]? = some fn) :
    false = Tryd.pinned.checked.prog.looks [] ∧ ∀ (j : Nat) t, fn.params[j]? = some t → Tryd.pinned.checked.prog.wantsStandIn t = false := by
  obtain rfl : f = 3 := Option.some.inj ((show Tryd.prog.funcNamed Tryd.f3.name = some 3 by kernel_rfl).symm.trans hf) |>.symm
  obtain rfl : fn = Tryd.f3 := (Option.some.inj (Tryd.func3.symm.trans hfn)).symm
  refine ⟨by kernel_rfl, fun j t ht => ?_⟩
  rw [Tryd.params3] at ht
  have hm : t ∈ [22] := by simpa using Array.mem_of_getElem? ht
  have hall : ([22].all fun u => !Tryd.prog.wantsStandIn u) = true := by kernel_rfl
  exact (show Tryd.prog.wantsStandIn t = false by simpa using List.all_eq_true.1 hall t hm)

theorem card : Rows.FnRotationsIsCardSaid :=
  Claim7.holds_tied_plain_at .later [] _ _ _ _ said (fun _ h => by cases h) (by kernel_rfl) (fun _ h => by cases h) fnRotationsIs_row_tie rfl ⟨rfl, rfl⟩ (by kernel_rfl) rfl plain (by kernel_rfl)
#print axioms card
end Go.Proofs.YtpnkgjnljbknnaaDoor.fnRotationsIs
