/-
  Contracts of the functions that permute by a table of the package: each returns what the plain function says, for every word of 64 bits. Conditions: the package's tables lie in memory with the numbers that are named.
-/
import Derived.Test.YtpnkgjnljbknnaaDoorWalks
import Derived.Test.YtpnkgjnljbknnaaDoorRotPlain
import Derived.Laws.Rows
import Derived.Lib.LaidTab
namespace Go.Proofs.YtpnkgjnljbknnaaDoor
open Go.RowKit

/-- Numbers as integer values of one kind. -/
def vals (k : IntKind) (l : List Nat) : Array Value := (l.map fun (n : Nat) => Value.int k (n : Int)).toArray
theorem vals_at (k : IntKind) (l : List Nat) (i : Nat) (h : i < l.length) : (vals k l)[i]? = some (.int k ((l.getD i 0 : Nat) : Int)) := by
  simp [vals, List.getD, h]
theorem vals_size (k : IntKind) (l : List Nat) : (vals k l).size = l.length := by simp [vals]

/-- Block g holds just these numbers. -/
def Tab (w : World) (g : Nat) (k : IntKind) (l : List Nat) : Prop := ∃ t fr, w.heap[g]? = some (.cells (vals k l) t fr)

theorem Tab.lt {w : World} {g : Nat} {k : IntKind} {l : List Nat} (h : Tab w g k l) : g < w.heap.size := by
  obtain ⟨t, fr, h⟩ := h
  by_cases hg : g < w.heap.size
  · exact hg
  · rw [Array.getElem?_eq_none (by omega)] at h; cases h
theorem Tab.below {w w' : World} {g : Nat} {k : IntKind} {l : List Nat} (h : Tab w g k l) (hb : Below w.heap.size w w') : Tab w' g k l := by
  have hl := h.lt
  obtain ⟨t, fr, h⟩ := h
  exact ⟨t, fr, (hb.block g hl).trans h⟩
theorem Tab.cell {w : World} {g : Nat} {k : IntKind} {l : List Nat} (h : Tab w g k l) (i : Nat) (hi : i < l.length) :
    w.cell? ⟨g, i, none⟩ = some (.int k ((l.getD i 0 : Nat) : Int)) := by
  obtain ⟨t, fr, h⟩ := h
  rw [← vals_at k l i hi]
  simp [World.cell?, h]
theorem tab_of_var {w : World} {P : Program} {name : String} {g : Nat} {k : IntKind} {zs : List Int} {l : List Nat} (hg : P.globalNamed name = some g) (h : Lib.TabIs P w name k zs) (hz : zs = l.map fun (n : Nat) => (n : Int)) : Tab w g k l := by
  unfold Lib.TabIs World.var? at h
  rw [hg] at h
  simp only [Option.bind_some] at h
  split at h
  · rename_i cs t fr hh
    refine ⟨t, fr, ?_⟩
    rw [hh]
    have : cs = vals k l := by
      rw [← Option.some.inj h.symm, hz]
      simp [vals]
    rw [this]
  · cases h

theorem vars_length {H : Type} {enc : TypeId × Value → H} {P : Program} {w : World} {sp : Nat → Bool} : ∀ {ns : List String} {gs : List (DataW H)} {ps : List MemPlace}, DataW.TrodVars enc P w sp ns gs ps → gs.length = ns.length
  | [], [], _, _ => rfl
  | [], _ :: _, _, h => h.elim
  | _ :: _, [], _, h => h.elim
  | n :: ns, d :: ds, ps, h => by
    obtain ⟨g, t, cs, fuel, p, q, h1, h2, h3, h4, hs, e⟩ := h
    simp [vars_length hs]

theorem run_idx (l : List Nat) (i : Nat) (w : World) (t n : Nat) (hu : Tryd.prog.underlying t = some (.array n 3)) (hi : i < n) (hl : l.length = n) :
    (Instr.index t (.agg (vals .i64 l)) (.int .i64 (i : Int))).run Tryd.prog w = .ok (.int .i64 ((l.getD i 0 : Nat) : Int)) w := by
  have hin : (0 : Int) ≤ (i : Int) ∧ (i : Int) < (n : Int) := by omega
  have e := vals_at .i64 l i (by omega)
  simp [Instr.index, run_underlying hu, asIntOf, hin, go_sem]
  rw [if_pos hi, e]
  simp [go_sem]

theorem permute_tab (x : BitVec 64) (l : List Nat) (L g : Nat) (w : World) (hL : l.length = L) (hm : L ≤ 64) (h : Tab w g .u8 l) :
    Calls Tryd.prog 38 #[.int .u64 (B x), .slice (some ⟨g, 0, none⟩) L L] w fun e w' => e = .returned (.int .u64 (B (permB x l))) ∧ w = w' := by
  subst hL
  exact permute_any x l g 0 l.length w (by unfold maxLen; omega) (fun i hi => by rw [Nat.zero_add]; exact h.cell i hi)

theorem zz0_any (x : BitVec 64) (w : World) (h : Tab w 4 .u8 ipL) :
    Calls Tryd.prog 29 #[.int .i64 0, .int .u64 (B x)] w fun e w' => e = .returned (.int .u64 (B (permB x ipL))) ∧ w = w' := by
  have H := Lib.hid h
  clear h
  go_enter Tryd.func29, Tryd.ntmps29
  go_wp2_with (go_at_call 38; refine (permute_tab _ ipL 64 4 _ ipL_len (by decide) H.out).mono ?_; rintro e w' ⟨rfl, rfl⟩)
  go_ret
  exact ⟨rfl, rfl⟩

theorem zz1_any (x : BitVec 64) (w : World) (h : Tab w 5 .u8 fpL) :
    Calls Tryd.prog 29 #[.int .i64 1, .int .u64 (B x)] w fun e w' => e = .returned (.int .u64 (B (permB x fpL))) ∧ w = w' := by
  have H := Lib.hid h
  clear h
  go_enter Tryd.func29, Tryd.ntmps29
  go_wp2_with (go_at_call 38; refine (permute_tab _ fpL 64 5 _ fpL_len (by decide) H.out).mono ?_; rintro e w' ⟨rfl, rfl⟩)
  go_ret
  exact ⟨rfl, rfl⟩

theorem zz2_any (x : BitVec 64) (w : World) (h : Tab w 6 .u8 exL) :
    Calls Tryd.prog 29 #[.int .i64 2, .int .u64 (B x)] w fun e w' => e = .returned (.int .u64 (B (permB x exL))) ∧ w = w' := by
  have H := Lib.hid h
  clear h
  go_enter Tryd.func29, Tryd.ntmps29
  go_wp2_with (go_at_call 38; refine (permute_tab _ exL 48 6 _ exL_len (by decide) H.out).mono ?_; rintro e w' ⟨rfl, rfl⟩)
  go_ret
  exact ⟨rfl, rfl⟩

theorem zz3_any (x : BitVec 64) (w : World) (h : Tab w 7 .u8 pfL) :
    Calls Tryd.prog 29 #[.int .i64 3, .int .u64 (B x)] w fun e w' => e = .returned (.int .u64 (B (permB x pfL))) ∧ w = w' := by
  have H := Lib.hid h
  clear h
  go_enter Tryd.func29, Tryd.ntmps29
  go_wp2_with (go_at_call 38; refine (permute_tab _ pfL 32 7 _ pfL_len (by decide) H.out).mono ?_; rintro e w' ⟨rfl, rfl⟩)
  go_ret
  exact ⟨rfl, rfl⟩

theorem zz4_any (x : BitVec 64) (w : World) (h : Tab w 8 .u8 c1L) :
    Calls Tryd.prog 29 #[.int .i64 4, .int .u64 (B x)] w fun e w' => e = .returned (.int .u64 (B (permB x c1L))) ∧ w = w' := by
  have H := Lib.hid h
  clear h
  go_enter Tryd.func29, Tryd.ntmps29
  go_wp2_with (go_at_call 38; refine (permute_tab _ c1L 56 8 _ c1L_len (by decide) H.out).mono ?_; rintro e w' ⟨rfl, rfl⟩)
  go_ret
  exact ⟨rfl, rfl⟩

theorem zz5_any (x : BitVec 64) (w : World) (h : Tab w 9 .u8 c2L) :
    Calls Tryd.prog 29 #[.int .i64 5, .int .u64 (B x)] w fun e w' => e = .returned (.int .u64 (B (permB x c2L))) ∧ w = w' := by
  have H := Lib.hid h
  clear h
  go_enter Tryd.func29, Tryd.ntmps29
  go_wp2_with (go_at_call 38; refine (permute_tab _ c2L 48 9 _ c2L_len (by decide) H.out).mono ?_; rintro e w' ⟨rfl, rfl⟩)
  go_ret
  exact ⟨rfl, rfl⟩

theorem zz0_one (w : World) (h : Tab w 4 .u8 ipL) :
    Calls Tryd.prog 29 #[.int .i64 0, .int .u64 1] w fun e w' => e = .returned (.int .u64 (B (permB 1#64 ipL))) ∧ w = w' := zz0_any 1#64 w h
theorem init_one (w : World) :
    Calls Tryd.prog 41 #[.int .u64 1] w fun e w' => e = .returned (.int .u64 (B (initX 1#64))) ∧ w = w' := init_any 1#64 w
theorem zz0_one_ne : (B (permB 1#64 ipL) != 0) = true := by decide +kernel

/-! ### the reference, by tables of numbers that are counted from 1, the highest bit -/
theorem permB_high (x : BitVec 64) (l : List Nat) : ∀ j, l.length ≤ j → (permB x l).getLsbD j = false := by
  have key : ∀ (l : List Nat) (a : BitVec 64) (m : Nat), (∀ j, m ≤ j → a.getLsbD j = false) → ∀ j, m + l.length ≤ j → (l.foldl (permStep x) a).getLsbD j = false := by
    intro l
    induction l with
    | nil => intro a m h j hj; exact h j (by simpa using hj)
    | cons n l ih =>
      intro a m h j hj
      refine ih (permStep x a n) (m + 1) ?_ j (by simp at hj; omega)
      intro i hi
      have h1 := h (i - 1) (by omega)
      have h2 : ¬ i = 0 := by omega
      simp [permStep, h1, h2]
  intro j hj
  exact key l 0#64 0 (fun j _ => by simp) j (by omega)

theorem mix_low (x : BitVec 64) : permB x pfL &&& 4294967295#64 = permB x pfL := by
  apply BitVec.eq_of_getLsbD_eq
  intro j _
  rw [BitVec.getLsbD_and]
  by_cases hj : j < 32
  · have : (4294967295#64).getLsbD j = true := by revert j; decide
    rw [this, Bool.and_true]
  · rw [permB_high x pfL j (by rw [pfL_len]; omega), Bool.false_and]

theorem expand_at : ∀ k, k < 48 → exL.getD k 0 = 32 - exT.getD k 0 ∧ 1 ≤ exT.getD k 0 ∧ exT.getD k 0 ≤ 32 := by decide +kernel
set_option maxHeartbeats 800000 in
theorem expand_any (x : BitVec 64) (w : World) (h : Tab w 0 .i64 exT) :
    Calls Tryd.prog 16 #[.int .u32 (B x)] w fun e w' => e = .returned (.int .u64 (B (permB x exL))) ∧ w = w' := by
  have hB0 : B 0#64 = 0 := rfl
  obtain ⟨tt, fr, hg1⟩ := h
  have hsz : (Tryd.prog.info? 48).map (·.size) = some (vals .i64 exT).size := by kernel_rfl
  have hix : ∀ (i : Nat) (w : World), i < 48 → (Instr.index 48 (.agg (vals .i64 exT)) (.int .i64 (i : Int))).run Tryd.prog w = .ok (.int .i64 ((exT.getD i 0 : Nat) : Int)) w :=
    fun i w hi => run_idx exT i w 48 48 Tryd.underlying48 hi exT_len
  obtain ⟨cs, hcs⟩ : ∃ cs, cs = vals .i64 exT := ⟨_, rfl⟩
  rw [← hcs] at hg1 hsz hix
  clear hcs
  go_enter Tryd.func16, Tryd.ntmps16
  go_wp2_with (refine wpList_load_row rfl 48 _ rfl 0 rfl tt _ fr _ hg1 Tryd.underlying48 rfl hsz ?_)
  clear hg1 hsz
  go_loop [3, 7] (fun v i => ∃ k : Nat, k ≤ 48 ∧ i = .int .i64 k ∧ v = .int .u64 (B (permB x (exL.take k)))) (fun _ i => 48 - (intOf i).toNat)
  case atStart => exact ⟨0, Nat.zero_le _, rfl, by simp [permB, hB0]⟩
  case round =>
    obtain ⟨k, hk, rfl, rfl⟩ := hrel
    obtain ⟨y, hy⟩ : ∃ y, y = permB x (exL.take k) := ⟨_, rfl⟩
    rw [← hy]
    have HY := Lib.hid hy
    clear hy
    by_cases hlt : k < 48
    · have hat := expand_at k hlt
      have hidx := fun w => hix k w hlt
      clear hix
      obtain ⟨t, ht⟩ : ∃ t, t = exT.getD k 0 := ⟨_, rfl⟩
      rw [← ht] at hat hidx
      clear ht
      obtain ⟨n, hn⟩ : ∃ n, n = 32 - t := ⟨_, rfl⟩
      have hn2 : (32 : Int) - (t : Int) = (n : Int) := by omega
      have HN := Lib.hid hn
      have HN2 := Lib.hid hn2
      have HA := Lib.hid hat
      have t1 : t ≤ 32 := hat.2.2
      have hd : ((k : Int) < 48) = True := by simp; omega
      clear hn hn2 hat
      have a2 := r_or
      have l1 := r_shl1
      have a5 := r_wrap
      go_wp2_with (go_at_call 30; refine (bit_any _ _ _ n _ HN2.out (by omega) (by omega)).mono ?_; rintro e w' ⟨rfl, rfl⟩)
      go_round
      case rel =>
        refine ⟨k + 1, by omega, by go_num, ?_⟩
        rw [or_step x y exL k n (by rw [exL_len]; omega) (by rw [HA.out.1, HN.out]) HY.out]
      case measure => simp [intOf]; omega
    · have hkL : k = 48 := by omega
      have hidx := hix
      clear hix
      clear hidx
      go_wp2
      go_ret
      refine ⟨?_, rfl⟩
      have hy2 := HY.out
      have : y = permB x exL := by rw [hy2, hkL, List.take_of_length_le (by rw [exL_len]; omega)]
      subst this
      rfl

theorem mix_at : ∀ k, k < 32 → pfL.getD k 0 = 32 - mxT.getD k 0 ∧ 1 ≤ mxT.getD k 0 ∧ mxT.getD k 0 ≤ 32 := by decide +kernel
set_option maxHeartbeats 800000 in
theorem mix_any (x : BitVec 64) (w : World) (h : Tab w 1 .i64 mxT) :
    Calls Tryd.prog 17 #[.int .u32 (B x)] w fun e w' => e = .returned (.int .u32 (B (permB x pfL))) ∧ w = w' := by
  have hB0 : B 0#64 = 0 := rfl
  obtain ⟨tt, fr, hg1⟩ := h
  have hsz : (Tryd.prog.info? 49).map (·.size) = some (vals .i64 mxT).size := by kernel_rfl
  have hix : ∀ (i : Nat) (w : World), i < 32 → (Instr.index 49 (.agg (vals .i64 mxT)) (.int .i64 (i : Int))).run Tryd.prog w = .ok (.int .i64 ((mxT.getD i 0 : Nat) : Int)) w :=
    fun i w hi => run_idx mxT i w 49 32 Tryd.underlying49 hi mxT_len
  obtain ⟨cs, hcs⟩ : ∃ cs, cs = vals .i64 mxT := ⟨_, rfl⟩
  rw [← hcs] at hg1 hsz hix
  clear hcs
  go_enter Tryd.func17, Tryd.ntmps17
  go_wp2_with (refine wpList_load_row rfl 49 _ rfl 1 rfl tt _ fr _ hg1 Tryd.underlying49 rfl hsz ?_)
  clear hg1 hsz
  go_loop [3, 7] (fun v i => ∃ k : Nat, k ≤ 32 ∧ i = .int .i64 k ∧ v = .int .u64 (B (permB x (pfL.take k)))) (fun _ i => 32 - (intOf i).toNat)
  case atStart => exact ⟨0, Nat.zero_le _, rfl, by simp [permB, hB0]⟩
  case round =>
    obtain ⟨k, hk, rfl, rfl⟩ := hrel
    obtain ⟨y, hy⟩ : ∃ y, y = permB x (pfL.take k) := ⟨_, rfl⟩
    rw [← hy]
    have HY := Lib.hid hy
    clear hy
    by_cases hlt : k < 32
    · have hat := mix_at k hlt
      have hidx := fun w => hix k w hlt
      clear hix
      obtain ⟨t, ht⟩ : ∃ t, t = mxT.getD k 0 := ⟨_, rfl⟩
      rw [← ht] at hat hidx
      clear ht
      obtain ⟨n, hn⟩ : ∃ n, n = 32 - t := ⟨_, rfl⟩
      have hn2 : (32 : Int) - (t : Int) = (n : Int) := by omega
      have HN := Lib.hid hn
      have HN2 := Lib.hid hn2
      have HA := Lib.hid hat
      have t1 : t ≤ 32 := hat.2.2
      have hd : ((k : Int) < 32) = True := by simp; omega
      clear hn hn2 hat
      have a2 := r_or
      have l1 := r_shl1
      have a5 := r_wrap
      go_wp2_with (go_at_call 30; refine (bit_any _ _ _ n _ HN2.out (by omega) (by omega)).mono ?_; rintro e w' ⟨rfl, rfl⟩)
      go_round
      case rel =>
        refine ⟨k + 1, by omega, by go_num, ?_⟩
        rw [or_step x y pfL k n (by rw [pfL_len]; omega) (by rw [HA.out.1, HN.out]) HY.out]
      case measure => simp [intOf]; omega
    · have hkL : k = 32 := by omega
      have hidx := hix
      clear hix
      have hx := mix_low x
      have r32 := r_u32
      clear hidx
      go_wp2
      go_ret
      refine ⟨?_, rfl⟩
      have hy2 := HY.out
      have : y = permB x pfL := by rw [hy2, hkL, List.take_of_length_le (by rw [pfL_len]; omega)]
      subst this
      simp [hx]

theorem choice1_at : ∀ k, k < 56 → c1L.getD k 0 = 64 - c1T.getD k 0 ∧ 1 ≤ c1T.getD k 0 ∧ c1T.getD k 0 ≤ 64 := by decide +kernel
set_option maxHeartbeats 800000 in
theorem choice1_any (x : BitVec 64) (w : World) (h : Tab w 2 .i64 c1T) :
    Calls Tryd.prog 18 #[.int .u64 (B x)] w fun e w' => e = .returned (.int .u64 (B (permB x c1L))) ∧ w = w' := by
  have hB0 : B 0#64 = 0 := rfl
  obtain ⟨tt, fr, hg1⟩ := h
  have hsz : (Tryd.prog.info? 50).map (·.size) = some (vals .i64 c1T).size := by kernel_rfl
  have hix : ∀ (i : Nat) (w : World), i < 56 → (Instr.index 50 (.agg (vals .i64 c1T)) (.int .i64 (i : Int))).run Tryd.prog w = .ok (.int .i64 ((c1T.getD i 0 : Nat) : Int)) w :=
    fun i w hi => run_idx c1T i w 50 56 Tryd.underlying50 hi c1T_len
  obtain ⟨cs, hcs⟩ : ∃ cs, cs = vals .i64 c1T := ⟨_, rfl⟩
  rw [← hcs] at hg1 hsz hix
  clear hcs
  go_enter Tryd.func18, Tryd.ntmps18
  go_wp2_with (refine wpList_load_row rfl 50 _ rfl 2 rfl tt _ fr _ hg1 Tryd.underlying50 rfl hsz ?_)
  clear hg1 hsz
  go_loop [3, 7] (fun v i => ∃ k : Nat, k ≤ 56 ∧ i = .int .i64 k ∧ v = .int .u64 (B (permB x (c1L.take k)))) (fun _ i => 56 - (intOf i).toNat)
  case atStart => exact ⟨0, Nat.zero_le _, rfl, by simp [permB, hB0]⟩
  case round =>
    obtain ⟨k, hk, rfl, rfl⟩ := hrel
    obtain ⟨y, hy⟩ : ∃ y, y = permB x (c1L.take k) := ⟨_, rfl⟩
    rw [← hy]
    have HY := Lib.hid hy
    clear hy
    by_cases hlt : k < 56
    · have hat := choice1_at k hlt
      have hidx := fun w => hix k w hlt
      clear hix
      obtain ⟨t, ht⟩ : ∃ t, t = c1T.getD k 0 := ⟨_, rfl⟩
      rw [← ht] at hat hidx
      clear ht
      obtain ⟨n, hn⟩ : ∃ n, n = 64 - t := ⟨_, rfl⟩
      have hn2 : (64 : Int) - (t : Int) = (n : Int) := by omega
      have HN := Lib.hid hn
      have HN2 := Lib.hid hn2
      have HA := Lib.hid hat
      have t1 : t ≤ 64 := hat.2.2
      have hd : ((k : Int) < 56) = True := by simp; omega
      clear hn hn2 hat
      have a2 := r_or
      have l1 := r_shl1
      have a5 := r_wrap
      go_wp2_with (go_at_call 30; refine (bit_any _ _ _ n _ HN2.out (by omega) (by omega)).mono ?_; rintro e w' ⟨rfl, rfl⟩)
      go_round
      case rel =>
        refine ⟨k + 1, by omega, by go_num, ?_⟩
        rw [or_step x y c1L k n (by rw [c1L_len]; omega) (by rw [HA.out.1, HN.out]) HY.out]
      case measure => simp [intOf]; omega
    · have hkL : k = 56 := by omega
      have hidx := hix
      clear hix
      clear hidx
      go_wp2
      go_ret
      refine ⟨?_, rfl⟩
      have hy2 := HY.out
      have : y = permB x c1L := by rw [hy2, hkL, List.take_of_length_le (by rw [c1L_len]; omega)]
      subst this
      rfl

theorem choice2_at : ∀ k, k < 48 → c2L.getD k 0 = 56 - c2T.getD k 0 ∧ 1 ≤ c2T.getD k 0 ∧ c2T.getD k 0 ≤ 56 := by decide +kernel
set_option maxHeartbeats 800000 in
theorem choice2_any (x : BitVec 64) (w : World) (h : Tab w 3 .i64 c2T) :
    Calls Tryd.prog 19 #[.int .u64 (B x)] w fun e w' => e = .returned (.int .u64 (B (permB x c2L))) ∧ w = w' := by
  have hB0 : B 0#64 = 0 := rfl
  obtain ⟨tt, fr, hg1⟩ := h
  have hsz : (Tryd.prog.info? 48).map (·.size) = some (vals .i64 c2T).size := by kernel_rfl
  have hix : ∀ (i : Nat) (w : World), i < 48 → (Instr.index 48 (.agg (vals .i64 c2T)) (.int .i64 (i : Int))).run Tryd.prog w = .ok (.int .i64 ((c2T.getD i 0 : Nat) : Int)) w :=
    fun i w hi => run_idx c2T i w 48 48 Tryd.underlying48 hi c2T_len
  obtain ⟨cs, hcs⟩ : ∃ cs, cs = vals .i64 c2T := ⟨_, rfl⟩
  rw [← hcs] at hg1 hsz hix
  clear hcs
  go_enter Tryd.func19, Tryd.ntmps19
  go_wp2_with (refine wpList_load_row rfl 48 _ rfl 3 rfl tt _ fr _ hg1 Tryd.underlying48 rfl hsz ?_)
  clear hg1 hsz
  go_loop [3, 7] (fun v i => ∃ k : Nat, k ≤ 48 ∧ i = .int .i64 k ∧ v = .int .u64 (B (permB x (c2L.take k)))) (fun _ i => 48 - (intOf i).toNat)
  case atStart => exact ⟨0, Nat.zero_le _, rfl, by simp [permB, hB0]⟩
  case round =>
    obtain ⟨k, hk, rfl, rfl⟩ := hrel
    obtain ⟨y, hy⟩ : ∃ y, y = permB x (c2L.take k) := ⟨_, rfl⟩
    rw [← hy]
    have HY := Lib.hid hy
    clear hy
    by_cases hlt : k < 48
    · have hat := choice2_at k hlt
      have hidx := fun w => hix k w hlt
      clear hix
      obtain ⟨t, ht⟩ : ∃ t, t = c2T.getD k 0 := ⟨_, rfl⟩
      rw [← ht] at hat hidx
      clear ht
      obtain ⟨n, hn⟩ : ∃ n, n = 56 - t := ⟨_, rfl⟩
      have hn2 : (56 : Int) - (t : Int) = (n : Int) := by omega
      have HN := Lib.hid hn
      have HN2 := Lib.hid hn2
      have HA := Lib.hid hat
      have t1 : t ≤ 56 := hat.2.2
      have hd : ((k : Int) < 48) = True := by simp; omega
      clear hn hn2 hat
      have a2 := r_or
      have l1 := r_shl1
      have a5 := r_wrap
      go_wp2_with (go_at_call 30; refine (bit_any _ _ _ n _ HN2.out (by omega) (by omega)).mono ?_; rintro e w' ⟨rfl, rfl⟩)
      go_round
      case rel =>
        refine ⟨k + 1, by omega, by go_num, ?_⟩
        rw [or_step x y c2L k n (by rw [c2L_len]; omega) (by rw [HA.out.1, HN.out]) HY.out]
      case measure => simp [intOf]; omega
    · have hkL : k = 48 := by omega
      have hidx := hix
      clear hix
      clear hidx
      go_wp2
      go_ret
      refine ⟨?_, rfl⟩
      have hy2 := HY.out
      have : y = permB x c2L := by rw [hy2, hkL, List.take_of_length_le (by rw [c2L_len]; omega)]
      subst this
      rfl

end Go.Proofs.YtpnkgjnljbknnaaDoor
