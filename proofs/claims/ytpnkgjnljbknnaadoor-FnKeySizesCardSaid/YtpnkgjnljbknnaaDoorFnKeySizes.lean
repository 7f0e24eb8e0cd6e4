/-
  laws.FnKeySizes returns true for every slice of bytes: a key of DES has eight bytes, one of triple DES 24. Conditions: the package's tables lie as the program's text lays them (tied).
-/
import Derived.Test.YtpnkgjnljbknnaaDoorCards
import Derived.Test.YtpnkgjnljbknnaaDoorTie
import Derived.Test.YtpnkgjnljbknnaaDoorSizes
import Derived.ProofKit
import Derived.OpenShut
import Derived.LaidMore
import Derived.Lay
import Derived.SevenTiedAt
import Derived.Stop.Joined
import Derived.Stop.LaidErr
import Derived.OpenVars
import Derived.Lib.Hide
import Derived.SizedLaws
namespace Go.Proofs.YtpnkgjnljbknnaaDoor.fnKeySizes
open Go.ChangeShapes Go.WideShapes Go.ChangeAt Go.RowKit
set_option linter.unusedVariables false
set_option maxRecDepth 100000

theorem own : ownKnob Tryd.prog.godebug = none := by kernel_rfl
theorem laidOut : laidOutB Tryd.prog = true := by kernel_rfl
theorem listed {α : Type} : ∀ {l : List α}, l.length = 3 → ∃ g1 g2 g3, l = [g1, g2, g3]
  | [g1, g2, g3], _ => ⟨g1, g2, g3, rfl⟩

def IsRow (k : IntKind) (w : World) (a : Option Addr) (len cap : Nat) (zs : List Int) : Prop :=
  (a = none ∧ len = 0 ∧ cap = 0 ∧ zs = []) ∨
  ∃ x, a = some x ∧ len ≤ cap ∧ cap ≤ maxLen ∧ zs.length = cap ∧ (∀ i, i < zs.length → w.cell? (x.add i) = some (.int k (zs.getD i 0))) ∧ ∀ n ∈ zs, (Lit.int k n).wf = true

abbrev eightZeros : Obj := .cells #[Value.int IntKind.u8 0, Value.int IntKind.u8 0, Value.int IntKind.u8 0, Value.int IntKind.u8 0, Value.int IntKind.u8 0, Value.int IntKind.u8 0, Value.int IntKind.u8 0, Value.int IntKind.u8 0] 5

theorem key_new (w : World) (ht : Tabs w) :
    Calls Tryd.prog 24 #[.slice (some ⟨w.heap.size, 0, none⟩) 8 8] (w.alloc eightZeros) fun e w' => e = .returned (.bool true) ∧ Below (w.alloc eightZeros).heap.size (w.alloc eightZeros) w' := by
  refine key_yes (fun _ => 0#64) ⟨w.heap.size, 0, none⟩ 8 (w.alloc eightZeros) (ht.below ((Below.refl _ _).alloc (Nat.le_refl _) _)) (fun j hj => ?_)
  have e : (⟨w.heap.size, 0, none⟩ : Addr).add j = ⟨w.heap.size, j, none⟩ := by
    unfold Addr.add
    by_cases h : j = 0 <;> simp [h]
  rw [e, cell_of_row _ _ _ _ _ _ (heap_alloc_new w eightZeros)]
  match j, hj with
  | 0, _ | 1, _ | 2, _ | 3, _ | 4, _ | 5, _ | 6, _ | 7, _ => rfl

theorem walk_great (ao : Option Addr) (L cap : Nat) (w : World) (h : 2147483647 < L) :
    Calls Tryd.prog 7 #[.slice ao L cap] w fun e w' => e = .returned (.bool true) ∧ Below w.heap.size w w' := by
  have hd : ((2147483647 : Int) < (L : Int)) = True := by simp; omega
  go_enter Tryd.func7, Tryd.ntmps7
  go_wp2
  go_ret
  exact ⟨rfl, Below.refl _ _⟩

set_option maxHeartbeats 800000 in
theorem walk_of (ao : Option Addr) (L cap : Nat) (r1 r2 : Bool) (w : World) (hs : L ≤ 2147483647) (ht : Tabs w)
    (h1 : ∀ W, Below w.heap.size w W → Calls Tryd.prog 24 #[.slice ao L cap] W fun e w' => e = .returned (.bool r1) ∧ Below W.heap.size W w')
    (h2 : ∀ W, Below w.heap.size w W → Calls Tryd.prog 25 #[.slice ao L cap] W fun e w' => e = .returned (.bool r2) ∧ Below W.heap.size W w')
    (e8 : ((L : Int) == 8) = r1) (e24 : ((L : Int) == 24) = r2) :
    Calls Tryd.prog 7 #[.slice ao L cap] w fun e w' => e = .returned (.bool true) ∧ Below w.heap.size w w' := by
  have hd : ((2147483647 : Int) < (L : Int)) = False := by simp; omega
  have hmk : ∀ w, (Instr.makeSlice 42 (.int .i64 8) (.int .i64 8)).run Tryd.prog w = .ok (.slice (some ⟨w.heap.size, 0, none⟩) 8 8) (w.alloc eightZeros) := fun _ => by kernel_rfl
  have HT := Lib.hid ht
  have H1 := Lib.hid h1
  have H2 := Lib.hid h2
  clear ht h1 h2
  go_enter Tryd.func7, Tryd.ntmps7
  go_wp2_with fail
  refine (H1.out w (Below.refl _ _)).mono ?_
  rintro e w1 ⟨rfl, hb1⟩
  have B1 := Lib.hid hb1
  clear hb1
  go_wp2_with fail
  refine (H2.out w1 B1.out).mono ?_
  rintro e w2 ⟨rfl, hb2⟩
  have B2 := Lib.hid (B1.out.trans (hb2.mono B1.out.size))
  clear hb2
  go_wp2_with fail
  refine (key_new w2 (HT.out.below B2.out)).mono ?_
  rintro e w3 ⟨rfl, hb3⟩
  have B3 := Lib.hid ((B2.out.alloc B2.out.size eightZeros).trans (hb3.mono (Nat.le_trans B2.out.size (by simp))))
  clear hb3
  go_wp2
  go_ret
  exact ⟨rfl, B3.out⟩

theorem walk (a0 : Option Addr) (len0 cap0 : Nat) (z0 : List Int) (w : World) (w0 : IsRow .u8 w a0 len0 cap0 z0) (ht : Tabs w) :
    Calls Tryd.prog 7 #[.slice a0 len0 cap0] w fun e w' => e = .returned (.bool true) ∧ Below w.heap.size w w' := by
  by_cases hbig : 2147483647 < len0
  · exact walk_great a0 len0 cap0 w hbig
  rcases w0 with ⟨rfl, rfl, rfl, _⟩ | ⟨ad, rfl, hl, hm, hz, hcell, hwz⟩
  · exact walk_of none 0 0 false false w (by omega) ht (fun W _ => key_nil W) (fun W _ => key3_nil W) rfl rfl
  have hcells : ∀ W, Below w.heap.size w W → ∀ j, j < len0 → W.cell? (ad.add j) = some (.int .u8 (B ((fun j => BitVec.ofInt 64 (z0.getD j 0)) j))) := by
    intro W hb j hj
    have hk := hcell j (by omega)
    have hwf := bounds_u8 (hwz (z0.getD j 0) (by rw [List.getD, List.getElem?_eq_getElem (by omega)]; exact List.getElem_mem _))
    rw [hb.cell (block_lt_of_cell hk), hk]
    show some (Value.int IntKind.u8 (z0.getD j 0)) = some (Value.int IntKind.u8 (B (BitVec.ofInt 64 (z0.getD j 0))))
    rw [← B_ofInt hwf.1 (by omega)]
  by_cases h8 : len0 = 8
  · subst h8
    exact walk_of (some ad) 8 cap0 true false w (by omega) ht (fun W hb => key_yes _ ad cap0 W (ht.below hb) (hcells W hb)) (fun W hb => key3_no _ ad 8 cap0 W (by omega) (by omega) (hcells W hb)) rfl rfl
  by_cases h24 : len0 = 24
  · subst h24
    exact walk_of (some ad) 24 cap0 false true w (by omega) ht (fun W hb => key_no _ ad 24 cap0 W (by omega) (by omega) (hcells W hb)) (fun W hb => key3_yes _ ad cap0 W (ht.below hb) (hcells W hb)) rfl rfl
  · exact walk_of (some ad) len0 cap0 false false w (by omega) ht (fun W hb => key_no _ ad len0 cap0 W (by omega) h8 (hcells W hb)) (fun W hb => key3_no _ ad len0 cap0 W (by omega) h24 (hcells W hb))
      (by simp only [beq_eq_false_iff_ne]; omega) (by simp only [beq_eq_false_iff_ne]; omega)

/-- What the row's list gives: each table's block holds its numbers. -/
theorem tables {W : World} (h : laidMetH Tryd.prog Rows.fnKeySizesRow.laid W) : Tab W 8 .u8 c1L ∧ Tab W 9 .u8 c2L ∧ Tab W 10 .u8 ksL := by
  rw [MakeChecks.laidMetH_plain _ _ _ (by kernel_rfl)] at h
  have e : Rows.fnKeySizesRow.laid = [( "loop.example/pub-g03027/pub/des.permutedChoice1", Lib.tabData .u8 (c1L.map fun (n : Nat) => (n : Int))), ( "loop.example/pub-g03027/pub/des.permutedChoice2", Lib.tabData .u8 (c2L.map fun (n : Nat) => (n : Int))), ( "loop.example/pub-g03027/pub/des.ksRotations", Lib.tabData .u8 (ksL.map fun (n : Nat) => (n : Int)))] := by kernel_rfl
  rw [e] at h
  refine ⟨?_, ?_, ?_⟩
  · exact tab_of_var (by kernel_rfl) (Lib.tabIs_of_head (g := 8) (t := 63) (e := 5) (n := 56) (by kernel_rfl) (by kernel_rfl) Tryd.underlying63 Tryd.underlying5 (by kernel_rfl) (by kernel_rfl) h) rfl
  · exact tab_of_var (by kernel_rfl) (Lib.tabIs_of_head (g := 9) (t := 61) (e := 5) (n := 48) (by kernel_rfl) (by kernel_rfl) Tryd.underlying61 Tryd.underlying5 (by kernel_rfl) (by kernel_rfl) h.tail) rfl
  · exact tab_of_var (by kernel_rfl) (Lib.tabIs_of_head (g := 10) (t := 70) (e := 5) (n := 16) (by kernel_rfl) (by kernel_rfl) Tryd.underlying70 Tryd.underlying5 (by kernel_rfl) (by kernel_rfl) h.tail.tail) rfl

theorem lifted (os : Os) (started : os.Started) (H : Type) (enc : TypeId × Value → H) :
    ReturnsInHanded {} Tryd.checked os 7 .any (fun w args => (Rows.fnKeySizesSpec.pre enc Tryd.prog Tryd.f7 Rows.fnKeySizesRow.domain false w args ∧ laidMetH Tryd.prog Rows.fnKeySizesRow.laid w) ∧ sizedMet enc Tryd.prog Tryd.f7 (OpenSpec.ofChange Rows.fnKeySizesSpec) false w args)
      (Rows.fnKeySizesSpec.post enc Tryd.prog Tryd.f7 false true false false) := by
  refine returnsInHanded_of_change_and (C := Tryd.checked) (X := fun w _ => laidMetH Tryd.prog Rows.fnKeySizesRow.laid w) (fun _ _ _ hh h => h.of_heap hh) own started (by kernel_rfl) Tryd.func7
    (ChangeSpec.witness_shaped (enc := enc) (C := Tryd.checked) (os := os) (X := fun w _ => laidMetH Tryd.prog Rows.fnKeySizesRow.laid w) false (World.laidAll Tryd.prog os Rows.fnKeySizesRow.laid) #[.slice none 0 0] 8 (World.laidAll_os _ _ _)
      (World.shaped_of_ZipB (by kernel_rfl) (by kernel_rfl)) (by kernel_rfl) (by kernel_rfl) (by kernel_rfl)
      (by rw [MakeChecks.laidMetH_plain _ _ _ (by kernel_rfl)]; exact laidMet_laidAll _ (by kernel_rfl) (by kernel_rfl))) ?_
  intro W base args ds gs before hval0 hW hc _ hL hsz0
  have hval : ∀ (j : Nat) t v, Tryd.f7.params[j]? = some t → args[j]? = some v → Value.okWide Tryd.prog W .any base t v := hval0
  have hW' := hW
  obtain ⟨p, q, hA0, hV, rfl, hfz, hnd⟩ := hW
  have hA : DataW.TrodAll enc Tryd.prog W 0 (fun _ => true) true Tryd.f7.params.toList args.toList ds p := hA0
  rw [Tryd.params7] at hA hval
  obtain ⟨v0, vs0, d0, ds0, p0, q0, hargs, rfl, rfl, h0, r0⟩ := trodAll_cons hA
  obtain ⟨rfl, rfl, rfl⟩ := trodAll_nil r0
  obtain rfl : args = #[v0] := by cases args; simp_all
  obtain ⟨g1, g2, g3, rfl⟩ := listed (vars_length hV)
  obtain ⟨a0, len0, cap0, rfl⟩ := okWide_slice Tryd.underlying42 (hval 0 42 v0 rfl rfl)
  have k0 := h0
  have lt0 : ∀ x ∈ p0, x.block < W.heap.size := by obtain ⟨m, hm⟩ := k0; exact DataW.trod_lt m _ _ _ hm
  obtain ⟨z0, w0⟩ : ∃ zs, IsRow .u8 W a0 len0 cap0 zs := by
    obtain ⟨fuel, hf⟩ := h0
    rcases open_ints Tryd.underlying42 Tryd.underlying5 (by kernel_rfl) hf with ⟨hcs, _⟩ | ⟨x, l, c, zs, hcs, _, hl, hm, hz, _, hcell, hwz⟩
    · simp [Value.cells] at hcs
      obtain ⟨rfl, rfl, rfl⟩ := hcs
      exact ⟨[], .inl ⟨rfl, rfl, rfl, rfl⟩⟩
    · simp [Value.cells] at hcs
      obtain ⟨rfl, rfl, rfl⟩ := hcs
      exact ⟨zs, .inr ⟨_, rfl, hl, hm, by simpa using hz, hcell, hwz⟩⟩
  clear hA0 hval0
  refine (walk a0 len0 cap0 z0 W w0 (tables hL)).mono fun e W' ⟨he, bel⟩ => ?_
  subst he
  exact ⟨_, rfl, _, _, _, [], _, q, hW', trodAll_cons_mk (shut_bool Tryd.underlying4 _) trodAll_mk0, (trodAll_cons_mk (Below.trod laidOut (by kernel_rfl) (of_decide_eq_true (by kernel_rfl)) k0 bel lt0) trodAll_mk0), bel.trodVars laidOut (by kernel_rfl) hV, bel.frame _, fun h => by cases h⟩

theorem said : Rows.FnKeySizesSaid :=
  OpenClaim.holds_of_wide 7 Tryd.f7 rfl rfl rfl rfl rfl rfl rfl ⟨rfl, rfl, rfl, rfl, rfl⟩ rfl rfl rfl rfl rfl (by kernel_rfl) Tryd.func7 (by kernel_rfl)
    (of_decide_eq_true (by kernel_rfl)) (by unfold Func.isWrapper; first | (rw [if_pos (by decide +kernel)]; kernel_rfl) | (rw [if_neg (by decide +kernel)]; exact ⟨rfl, rfl⟩))
    (fun os started H enc _ => lifted os started H enc)

theorem plain (f : FuncId) (fn : Func) (hf : Tryd.pinned.checked.prog.funcNamed Tryd.f7.name = some f) (hfn : Tryd.pinned.checked.prog.funcs[f]? = some fn) :
    false = Tryd.pinned.checked.prog.looks [] ∧ ∀ (j : Nat) t, fn.params[j]? = some t → Tryd.pinned.checked.prog.wantsStandIn t = false := by
  obtain rfl : f = 7 := Option.some.inj ((show Tryd.prog.funcNamed Tryd.f7.name = some 7 by kernel_rfl).symm.trans hf) |>.symm
  obtain rfl : fn = Tryd.f7 := (Option.some.inj (Tryd.func7.symm.trans hfn)).symm
  refine ⟨by kernel_rfl, fun j t ht => ?_⟩
  rw [Tryd.params7] at ht
  have hm : t ∈ [42] := by simpa using Array.mem_of_getElem? ht
  have hall : ([42].all fun u => !Tryd.prog.wantsStandIn u) = true := by kernel_rfl
  exact (show Tryd.prog.wantsStandIn t = false by simpa using List.all_eq_true.1 hall t hm)

theorem card : Rows.FnKeySizesCardSaid :=
  Claim7.holds_tied_plain_at .later [] _ _ _ _ said (fun _ h => by cases h) (by kernel_rfl) (fun _ h => by cases h) fnKeySizes_row_tie rfl ⟨rfl, rfl⟩ (by kernel_rfl) rfl plain (by kernel_rfl)
#print axioms card
end Go.Proofs.YtpnkgjnljbknnaaDoor.fnKeySizes
