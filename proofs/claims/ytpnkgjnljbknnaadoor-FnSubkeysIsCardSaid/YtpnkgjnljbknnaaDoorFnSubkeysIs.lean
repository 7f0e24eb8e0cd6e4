/-
  laws.FnSubkeysIs returns true for every key of eight bytes: the words as the rounds use them are those of the reference's schedule, spread out. Conditions: the package's tables lie as the program's text lays them (tied).
-/
import Derived.Test.YtpnkgjnljbknnaaDoorCards
import Derived.Test.YtpnkgjnljbknnaaDoorTie
import Derived.Test.YtpnkgjnljbknnaaDoorKeys
import Derived.ProofKit
import Derived.OpenShut
import Derived.LaidMore
import Derived.Lay
import Derived.SevenTiedAt
import Derived.Stop.Joined
import Derived.Stop.LaidErr
import Derived.OpenVars
import Derived.Lib.Hide
namespace Go.Proofs.YtpnkgjnljbknnaaDoor.fnSubkeysIs
open Go.ChangeShapes Go.WideShapes Go.ChangeAt Go.RowKit
set_option linter.unusedVariables false
set_option maxRecDepth 100000

theorem own : ownKnob Tryd.prog.godebug = none := by kernel_rfl
theorem laidOut : laidOutB Tryd.prog = true := by kernel_rfl
theorem listed {α : Type} : ∀ {l : List α}, l.length = 5 → ∃ g1 g2 g3 g4 g5, l = [g1, g2, g3, g4, g5]
  | [g1, g2, g3, g4, g5], _ => ⟨g1, g2, g3, g4, g5, rfl⟩

theorem cells35 : Tryd.prog.cellsOf 35 = 8 := by kernel_rfl
theorem cells5 : Tryd.prog.cellsOf 5 = 1 := by kernel_rfl
/-- The byte at a place, as a word. -/
def byteOf (cs : Array Value) (i : Nat) : BitVec 64 :=
  match cs[i]? with
  | some (.int _ z) => BitVec.ofInt 64 z
  | _ => 0#64
theorem open_key {H : Type} {enc : TypeId × Value → H} {W : World} {r : Reach} {base base' : Nat} {sp : Nat → Bool} {held : Bool} {v : Value} {d : DataW H} {p : List MemPlace}
    (hv : Value.okWide Tryd.prog W r base 35 v) (h : DataW.Trod enc Tryd.prog W base' sp held 35 v d p) : ∃ b : Nat → BitVec 64, v = .agg (keyV b) := by
  simp only [Value.okWide, Tryd.underlying35] at hv
  obtain ⟨cs, rfl, hsz, _⟩ := hv
  rw [cells35] at hsz
  obtain ⟨fuel, hf⟩ := h
  obtain ⟨xs, m, _, _, _, hl, hel⟩ := DataW.trod_array Tryd.underlying35 hf
  refine ⟨byteOf cs, ?_⟩
  congr 1
  apply Array.ext_getElem?
  intro i
  by_cases hi : i < 8
  · have hE := hel i hi
    rw [cells5, Nat.mul_one, List.getElem?_eq_getElem (by omega)] at hE
    obtain ⟨z, e1, _, wz⟩ := DataW.trod_int Tryd.underlying5 hE
    have h1 : cs[i]? = some (.int .u8 z) := by
      have := congrArg (fun l => l[0]?) e1
      simpa [List.getElem?_take, List.getElem?_drop, Value.cells] using this
    have hz := bounds_u8 wz
    rw [keyV_at _ i hi, h1]
    simp only [byteOf, h1]
    rw [← B_ofInt hz.1 (by omega)]
  · rw [Array.getElem?_eq_none (by omega), Array.getElem?_eq_none (by simp [keyV]; omega)]

set_option maxHeartbeats 3200000 in
theorem walk (b : Nat → BitVec 64) (w : World)
    (h : Tab w 2 .i64 c1T ∧ Tab w 3 .i64 c2T ∧ Tab w 8 .u8 c1L ∧ Tab w 9 .u8 c2L ∧ Tab w 10 .u8 ksL) :
    Calls Tryd.prog 6 #[.agg (keyV b)] w fun e w' => e = .returned (.bool true) ∧ Below w.heap.size w w' := by
  have HT := Lib.hid h
  have h20 := Lib.hid (fun (W : World) (hb : Below w.heap.size w W) => sub_any b W (h.2.2.1.below hb) (h.2.2.2.1.below hb) (h.2.2.2.2.below hb))
  have h22 := Lib.hid (fun (W : World) => number_any b W)
  clear h
  rw [num_be] at h22
  have hsk : (Tryd.prog.info? 35).map (·.size) = some (keyV b).size := by kernel_rfl
  have hsz : (Tryd.prog.info? 36).map (·.size) = some (uV (beX b)).size := by kernel_rfl
  have hone := uV_one (beX b)
  have hz : zeros16.size = (uV (beX b)).size := by simp [uV]
  obtain ⟨K, hK⟩ : ∃ K, K = beX b := ⟨_, rfl⟩
  rw [← hK] at hsz hone hz h20 h22
  clear hK
  obtain ⟨cs, hcs⟩ : ∃ cs, cs = keyV b := ⟨_, rfl⟩
  rw [← hcs] at h20 h22 hsk ⊢
  clear hcs
  have hat := uV_at K
  obtain ⟨U, hUU⟩ : ∃ U, U = uV K := ⟨_, rfl⟩
  rw [← hUU] at hsz hone hz h20 hat
  have HSK := Lib.hid hsk
  have HSZ := Lib.hid hsz
  have HZ := Lib.hid hz
  have HONE := Lib.hid hone
  have HAT := Lib.hid hat
  have V1 := Lib.hid (heap_alloc_new w (.cells cs 35))
  have VB : Hid (Below w.heap.size w (w.alloc (.cells cs 35))) := Lib.hid ((Below.refl _ _).alloc (Nat.le_refl _) _)
  clear hsk hsz hone hz hUU hat
  go_enter Tryd.func6, Tryd.ntmps6
  go_wp2_with (refine wpList_load_row rfl 35 _ rfl w.heap.size rfl 35 cs _ _ V1.out Tryd.underlying35 rfl HSK.out ?_)
  refine (h20.out _ VB.out).mono ?_
  rintro e W1 ⟨rfl, hb1⟩
  have sz0 : w.heap.size < W1.heap.size := by have := hb1.size; simp at this; omega
  have x1 : W1.heap[w.heap.size]? = some (.cells cs 35) := (hb1.block w.heap.size (by simp)).trans V1.out
  have xb : Below w.heap.size w W1 := VB.out.trans (hb1.mono (by simp))
  have xr : (W1.alloc (.cells zeros16 36)).heap[W1.heap.size]? = some (.cells zeros16 36) := heap_alloc_new W1 _
  have XA := Lib.hid ((setRow_other (W1.alloc (.cells zeros16 36)) W1.heap.size w.heap.size U (by omega)).trans ((Below.heap_alloc W1 (.cells zeros16 36) w.heap.size sz0).trans x1))
  have XR := Lib.hid (setRow_heap (W1.alloc (.cells zeros16 36)) W1.heap.size zeros16 U 36 (0, 0) xr)
  have XB : Hid (Below w.heap.size w ((W1.alloc (.cells zeros16 36)).setRow W1.heap.size U)) := Lib.hid ((xb.alloc xb.size _).trans (below_row W1.heap.size U xb.size))
  have XS : Hid (W1.heap.size < ((W1.alloc (.cells zeros16 36)).setRow W1.heap.size U).heap.size) := Lib.hid (by simp)
  have XO := Lib.hid xr
  clear hb1 x1 xb xr sz0 V1 VB
  go_wp2_with (first
    | (refine wpList_store_row rfl 36 _ _ rfl W1.heap.size U rfl rfl 36 zeros16 XO.out HSZ.out HZ.out HONE.out ?_)
    | (refine wpList_load_row rfl 35 _ rfl w.heap.size rfl 35 cs _ _ XA.out Tryd.underlying35 rfl HSK.out ?_))
  generalize (W1.alloc (Obj.cells zeros16 36)).setRow W1.heap.size U = X at XA XR XB XS ⊢
  generalize W1.heap.size = R at XR XS ⊢
  refine (h22.out X).mono ?_
  rintro e X2 ⟨rfl, hb2⟩
  have B2 := Lib.hid (XB.out.trans (hb2.mono XB.out.size))
  have R2 := Lib.hid ((hb2.block R XS.out).trans XR.out)
  have S2 := Lib.hid (Nat.lt_of_lt_of_le XS.out hb2.size)
  clear hb2 XA XR XB XS XO
  go_wp2_with fail
  refine (schedule_any K X2 (HT.out.1.below B2.out) (HT.out.2.1.below B2.out)).mono ?_
  rintro e X3 ⟨g, cap, rfl, hown, hb3⟩
  have B3 := Lib.hid (B2.out.trans (hb3.mono B2.out.size))
  have R3 := Lib.hid ((hb3.block R S2.out).trans R2.out)
  have s3 : R < X3.heap.size := Nat.lt_of_lt_of_le S2.out hb3.size
  have g3 : g < X3.heap.size := (hown.lt g rfl).2
  have O3 := Lib.hid hown
  clear hown hb3 B2 R2 S2
  go_wp2_with fail
  go_loopw [12] (fun i wr => ∃ k : Nat, k ≤ 16 ∧ i = .int .i64 k ∧ Below X3.heap.size X3 wr) (fun i _ => 16 - (intOf i).toNat)
  case atStart => exact ⟨0, Nat.zero_le _, rfl, Below.refl _ _⟩
  case round =>
    obtain ⟨k, hk, rfl, hb⟩ := hrel
    by_cases hlt : k < 16
    · have hd : ((k : Int) < 16) = True := by simp; omega
      have c1 : wr.cell? ⟨R, k, none⟩ = some (.int .u64 (B (unpackX (subW K k)))) := by
        rw [hb.cell (p := ⟨R, k, none⟩) s3, cell_of_row _ _ _ _ _ _ R3.out, HAT.out k hlt]
      have c2 : wr.cell? ⟨g, k, none⟩ = some (.int .u64 (B (subW K k))) := by
        rw [hb.cell (p := ⟨g, k, none⟩) g3, O3.out.cellAt k (by omega), wordsV_at K 16 k hlt]
      have HB := Lib.hid hb
      have hq2 : ∀ y, (B y != B y) = false := fun y => by simp
      obtain ⟨s, hs⟩ : ∃ s, s = subW K k := ⟨_, rfl⟩
      rw [← hs] at c1 c2
      clear hs hb
      go_wp2
      go_quiet ((go_at_call 23; exact Calls.quiet_of_same (impl_unpack _ _)))
      go_wp2
      go_roundw
      case rel => exact ⟨k + 1, by omega, by go_num, below_drewN HB.out _⟩
      case measure => simp [intOf]; omega
    · have hk16 : k = 16 := by omega
      have hd : ((k : Int) < 16) = False := by simp; omega
      have HB := Lib.hid (B3.out.trans (hb.mono B3.out.size))
      have q3 := unpack_one_ne
      clear hb hk16
      go_wp2_with (go_at_call 23; ((with_reducible refine (impl_unpack_one _).mono ?_); rintro e w' ⟨rfl, rfl⟩))
      go_ret
      exact ⟨rfl, HB.out⟩

/-- What the row's list gives: each table's block holds its numbers. -/
theorem tables {W : World} (h : laidMetH Tryd.prog Rows.fnSubkeysIsRow.laid W) : Tab W 2 .i64 c1T ∧ Tab W 3 .i64 c2T ∧ Tab W 8 .u8 c1L ∧ Tab W 9 .u8 c2L ∧ Tab W 10 .u8 ksL := by
  rw [MakeChecks.laidMetH_plain _ _ _ (by kernel_rfl)] at h
  have e : Rows.fnSubkeysIsRow.laid = [( "loop.example/pub-g03027/spec.choice1", Lib.tabData .i64 (c1T.map fun (n : Nat) => (n : Int))), ( "loop.example/pub-g03027/spec.choice2", Lib.tabData .i64 (c2T.map fun (n : Nat) => (n : Int))), ( "loop.example/pub-g03027/pub/des.permutedChoice1", Lib.tabData .u8 (c1L.map fun (n : Nat) => (n : Int))), ( "loop.example/pub-g03027/pub/des.permutedChoice2", Lib.tabData .u8 (c2L.map fun (n : Nat) => (n : Int))), ( "loop.example/pub-g03027/pub/des.ksRotations", Lib.tabData .u8 (ksL.map fun (n : Nat) => (n : Int)))] := by kernel_rfl
  rw [e] at h
  refine ⟨?_, ?_, ?_, ?_, ?_⟩
  · exact tab_of_var (by kernel_rfl) (Lib.tabIs_of_head (g := 2) (t := 50) (e := 3) (n := 56) (by kernel_rfl) (by kernel_rfl) Tryd.underlying50 Tryd.underlying3 (by kernel_rfl) (by kernel_rfl) h) rfl
  · exact tab_of_var (by kernel_rfl) (Lib.tabIs_of_head (g := 3) (t := 48) (e := 3) (n := 48) (by kernel_rfl) (by kernel_rfl) Tryd.underlying48 Tryd.underlying3 (by kernel_rfl) (by kernel_rfl) h.tail) rfl
  · exact tab_of_var (by kernel_rfl) (Lib.tabIs_of_head (g := 8) (t := 63) (e := 5) (n := 56) (by kernel_rfl) (by kernel_rfl) Tryd.underlying63 Tryd.underlying5 (by kernel_rfl) (by kernel_rfl) h.tail.tail) rfl
  · exact tab_of_var (by kernel_rfl) (Lib.tabIs_of_head (g := 9) (t := 61) (e := 5) (n := 48) (by kernel_rfl) (by kernel_rfl) Tryd.underlying61 Tryd.underlying5 (by kernel_rfl) (by kernel_rfl) h.tail.tail.tail) rfl
  · exact tab_of_var (by kernel_rfl) (Lib.tabIs_of_head (g := 10) (t := 70) (e := 5) (n := 16) (by kernel_rfl) (by kernel_rfl) Tryd.underlying70 Tryd.underlying5 (by kernel_rfl) (by kernel_rfl) h.tail.tail.tail.tail) rfl

theorem lifted (os : Os) (started : os.Started) (H : Type) (enc : TypeId × Value → H) :
    ReturnsInHanded {} Tryd.checked os 6 .any (fun w args => (Rows.fnSubkeysIsSpec.pre enc Tryd.prog Tryd.f6 Rows.fnSubkeysIsRow.domain false w args ∧ laidMetH Tryd.prog Rows.fnSubkeysIsRow.laid w) ∧ sizedMet enc Tryd.prog Tryd.f6 (OpenSpec.ofChange Rows.fnSubkeysIsSpec) false w args)
      (Rows.fnSubkeysIsSpec.post enc Tryd.prog Tryd.f6 false true false false) := by
  refine returnsInHanded_of_change_and (C := Tryd.checked) (X := fun w _ => laidMetH Tryd.prog Rows.fnSubkeysIsRow.laid w) (fun _ _ _ hh h => h.of_heap hh) own started (by kernel_rfl) Tryd.func6
    (ChangeSpec.witness_shaped (enc := enc) (C := Tryd.checked) (os := os) (X := fun w _ => laidMetH Tryd.prog Rows.fnSubkeysIsRow.laid w) false (World.laidAll Tryd.prog os Rows.fnSubkeysIsRow.laid) #[.agg #[.int .u8 0, .int .u8 0, .int .u8 0, .int .u8 0, .int .u8 0, .int .u8 0, .int .u8 0, .int .u8 0]] 8 (World.laidAll_os _ _ _)
      (World.shaped_of_ZipB (by kernel_rfl) (by kernel_rfl)) (by kernel_rfl) (by kernel_rfl) (by kernel_rfl)
      (by rw [MakeChecks.laidMetH_plain _ _ _ (by kernel_rfl)]; exact laidMet_laidAll _ (by kernel_rfl) (by kernel_rfl))) ?_
  intro W base args ds gs before hval0 hW hc _ hL hsz0
  have hval : ∀ (j : Nat) t v, Tryd.f6.params[j]? = some t → args[j]? = some v → Value.okWide Tryd.prog W .any base t v := hval0
  have hW' := hW
  obtain ⟨p, q, hA0, hV, rfl, hfz, hnd⟩ := hW
  have hA : DataW.TrodAll enc Tryd.prog W 0 (fun _ => true) true Tryd.f6.params.toList args.toList ds p := hA0
  rw [Tryd.params6] at hA hval
  obtain ⟨v0, vs0, d0, ds0, p0, q0, hargs, rfl, rfl, h0, r0⟩ := trodAll_cons hA
  obtain ⟨rfl, rfl, rfl⟩ := trodAll_nil r0
  obtain rfl : args = #[v0] := by cases args; simp_all
  obtain ⟨g1, g2, g3, g4, g5, rfl⟩ := listed (vars_length hV)
  obtain ⟨b, rfl⟩ := open_key (hval 0 35 v0 rfl rfl) h0
  have lt0 : ∀ x ∈ p0, x.block < W.heap.size := by obtain ⟨m, hm⟩ := h0; exact DataW.trod_lt m _ _ _ hm
  clear hA0 hval0
  refine (walk b W (tables hL)).mono fun e W' ⟨he, bel⟩ => ?_
  subst he
  exact ⟨_, rfl, _, _, _, [], _, q, hW', trodAll_cons_mk (shut_bool Tryd.underlying4 _) trodAll_mk0, (trodAll_cons_mk (Below.trod laidOut (by kernel_rfl) (of_decide_eq_true (by kernel_rfl)) h0 bel lt0) trodAll_mk0), bel.trodVars laidOut (by kernel_rfl) hV, bel.frame _, fun h => by cases h⟩

theorem said : Rows.FnSubkeysIsSaid :=
  OpenClaim.holds_of_wide 6 Tryd.f6 rfl rfl rfl rfl rfl rfl rfl ⟨rfl, rfl, rfl, rfl, rfl⟩ rfl rfl rfl rfl rfl (by kernel_rfl) Tryd.func6 (by kernel_rfl)
    (of_decide_eq_true (by kernel_rfl)) (by unfold Func.isWrapper; first | (rw [if_pos (by decide +kernel)]; kernel_rfl) | (rw [if_neg (by decide +kernel)]; exact ⟨rfl, rfl⟩))
    (fun os started H enc _ => lifted os started H enc)

theorem plain (f : FuncId) (fn : Func) (hf : Tryd.pinned.checked.prog.funcNamed Tryd.f6.name = some f) (hfn : Tryd.pinned.checked.prog.funcs[f]? = some fn) :
    false = Tryd.pinned.checked.prog.looks [] ∧ ∀ (j : Nat) t, fn.params[j]? = some t → Tryd.pinned.checked.prog.wantsStandIn t = false := by
  obtain rfl : f = 6 := Option.some.inj ((show Tryd.prog.funcNamed Tryd.f6.name = some 6 by kernel_rfl).symm.trans hf) |>.symm
  obtain rfl : fn = Tryd.f6 := (Option.some.inj (Tryd.func6.symm.trans hfn)).symm
  refine ⟨by kernel_rfl, fun j t ht => ?_⟩
  rw [Tryd.params6] at ht
  have hm : t ∈ [35] := by simpa using Array.mem_of_getElem? ht
  have hall : ([35].all fun u => !Tryd.prog.wantsStandIn u) = true := by kernel_rfl
  exact (show Tryd.prog.wantsStandIn t = false by simpa using List.all_eq_true.1 hall t hm)

theorem card : Rows.FnSubkeysIsCardSaid :=
  Claim7.holds_tied_plain_at .later [] _ _ _ _ said (fun _ h => by cases h) (by kernel_rfl) (fun _ h => by cases h) fnSubkeysIs_row_tie rfl ⟨rfl, rfl⟩ (by kernel_rfl) rfl plain (by kernel_rfl)
#print axioms card
end Go.Proofs.YtpnkgjnljbknnaaDoor.fnSubkeysIs
