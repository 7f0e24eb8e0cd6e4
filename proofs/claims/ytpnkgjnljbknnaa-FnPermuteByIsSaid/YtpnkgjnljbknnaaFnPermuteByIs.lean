/-
  laws.FnPermuteByIs returns true for every word of 64 bits and every slice of bytes: by a list of at most 64 places of bits, of which 0 is the lowest, the bits that stand there are laid behind each other, the first one the highest. Conditions: none.
-/
import Derived.Test.YtpnkgjnljbknnaaRows
import Derived.Test.YtpnkgjnljbknnaaByWalks
import Derived.WalkKit
import Derived.Lib.Hide
import Derived.ProofKit
import Derived.OpenShut
import Derived.ShutString
import Derived.ChangeOld
import Derived.Below
namespace Go.Proofs.Ytpnkgjnljbknnaa.fnPermuteByIs
open Go.ChangeShapes Go.WideShapes Go.ChangeAt Go.RowKit
open Go.ChangeMaps (open_string shut_string)
set_option linter.unusedVariables false

theorem own : ownKnob Try.prog.godebug = none := by kernel_rfl
theorem laidOut : laidOutB Try.prog = true := by kernel_rfl

/-- WHAT THE WALK IS TOLD OF A SLICE OF INTEGERS THAT CAME IN: it is nil; or it leads to a row of 'cap' cells, the numbers 'zs' (the first 'len' are its elements, the rest its spare room), each fitting its kind. -/
def IsRow (k : IntKind) (w : World) (a : Option Addr) (len cap : Nat) (zs : List Int) : Prop :=
  (a = none ∧ len = 0 ∧ cap = 0 ∧ zs = []) ∨
  ∃ x, a = some x ∧ len ≤ cap ∧ cap ≤ maxLen ∧ zs.length = cap ∧ (∀ i, i < zs.length → w.cell? (x.add i) = some (.int k (zs.getD i 0))) ∧ ∀ n ∈ zs, (Lit.int k n).wf = true

theorem add_plain (b off i : Nat) : (⟨b, off, none⟩ : Addr).add i = ⟨b, off + i, none⟩ := by
  unfold Addr.add
  by_cases h : i = 0 <;> simp [h]
theorem below_two {w w1 w2 : World} {o : Obj} (h1 : Below w.heap.size w w1) (h2 : Below (w1.alloc o).heap.size (w1.alloc o) w2) : Below w.heap.size w w2 :=
  (h1.alloc h1.size o).trans (h2.mono (Nat.le_trans h1.size (by simp)))

theorem walk_many (x : BitVec 64) (ao : Option Addr) (L cap : Nat) (w : World) (h : 64 < L) :
    Calls Try.prog 3 #[.int .u64 (B x), .slice ao L cap] w fun e w' => e = .returned (.bool true) ∧ Below w.heap.size w w' := by
  by_cases h2 : 2147483647 < L
  · go_enter Try.func3, Try.ntmps3
    go_wp2
    all_goals go_ret
    all_goals exact ⟨rfl, Below.refl _ _⟩
  · go_enter Try.func3, Try.ntmps3
    go_wp2
    all_goals go_ret
    all_goals exact ⟨rfl, Below.refl _ _⟩

theorem walk_none (x : BitVec 64) (ao : Option Addr) (cap : Nat) (w : World) (h : ao = none → cap = 0) :
    Calls Try.prog 3 #[.int .u64 (B x), .slice ao 0 cap] w fun e w' => e = .returned (.bool true) ∧ Below w.heap.size w w' := by
  have H := Lib.hid h
  clear h
  have hB0 : B (permB x []) = 0 := rfl
  go_enter Try.func3, Try.ntmps3
  go_wp2
  refine wp_loop_rounds 1 ?_
  rw [rounds_succ]
  go_wp2_with (first
    | (go_at_call 8; ((with_reducible refine (by_zero _ _ _ _ H.out).mono ?_); rintro e w1 ⟨rfl, hb1⟩))
    | (go_at_call 8; ((with_reducible refine (by_one _).mono ?_); rintro e w2 ⟨rfl, hb2⟩)))
  go_ret
  exact ⟨rfl, by apply below_two <;> assumption⟩

set_option maxHeartbeats 800000 in
theorem walk_some (x : BitVec 64) (l : List Nat) (b off L cap : Nat) (w : World) (hL : l.length = L) (hl : L ≤ 64) (h1 : 0 < L)
    (hc : ∀ i, i < L → w.cell? ⟨b, off + i, none⟩ = some (.int .u8 ((l.getD i 0 : Nat) : Int))) :
    Calls Try.prog 3 #[.int .u64 (B x), .slice (some ⟨b, off, none⟩) L cap] w fun e w' => e = .returned (.bool true) ∧ Below w.heap.size w w' := by
  have HC := Lib.hid (by_some x l ⟨b, off, none⟩ L cap w hL hl (fun i hi => by rw [add_plain]; exact hc i hi))
  have hB0 : B 0#64 = 0 := rfl
  have hq : ∀ y, (B y == B y) = true := fun y => by simp
  have HL := Lib.hid hL
  clear hL
  have e1 : ((2147483647 : Int) < (L : Int)) = False := by simp; omega
  have e2 : ((64 : Int) < (L : Int)) = False := by simp; omega
  go_enter Try.func3, Try.ntmps3
  go_wp2
  clear e1 e2
  go_loop [5, 16] (fun v i => ∃ k : Nat, k ≤ L ∧ i = .int .i64 k ∧ v = .int .u64 (B (permB x (l.take k)))) (fun _ i => L - (intOf i).toNat)
  case atStart => exact ⟨0, Nat.zero_le _, rfl, by simp [permB, hB0]⟩
  case round =>
    obtain ⟨k, hk, rfl, rfl⟩ := hrel
    obtain ⟨y, hy⟩ : ∃ y, y = permB x (l.take k) := ⟨_, rfl⟩
    rw [← hy]
    have HY := Lib.hid hy
    clear hy
    by_cases hlt : k < L
    · have hcell := hc k hlt
      clear hc
      obtain ⟨n, hn⟩ : ∃ n, n = l.getD k 0 := ⟨_, rfl⟩
      rw [← hn] at hcell
      have HN := Lib.hid hn
      clear hn
      have hd : ((k : Int) < L) = True := by simp; omega
      have a2 := r_or
      have a4 := r_andc
      have l1 := r_shl1
      by_cases hp : 63 < n
      · have hp2 : ((63 : Int) < (n : Int)) = True := by simp; omega
        go_wp2
        go_ret
        exact ⟨rfl, Below.refl _ _⟩
      · have hp2 : ((63 : Int) < (n : Int)) = False := by simp; omega
        have a3 := r_shr
        go_wp2
        go_round
        case rel =>
          refine ⟨k + 1, by omega, by go_num, ?_⟩
          rw [or_step x y l k n (by rw [HL.out]; omega) HN.out.symm HY.out]
        case measure => simp [intOf]; omega
    · have hkL : k = L := by omega
      clear hc
      have hy2 : y = permB x l := by rw [HY.out, hkL, ← HL.out]; simp
      subst hy2
      go_wp2_with (first
        | (go_at_call 8; ((with_reducible refine HC.out.mono ?_); rintro e w1 ⟨rfl, hb1⟩))
        | (go_at_call 8; ((with_reducible refine (by_one _).mono ?_); rintro e w2 ⟨rfl, hb2⟩)))
      go_ret
      exact ⟨rfl, by apply below_two <;> assumption⟩

theorem walk (a0 : Int) (a1 : Option Addr) (len1 cap1 : Nat) (z1 : List Int) (w : World) (w0 : (Lit.int .u64 a0).wf = true) (w1 : IsRow .u8 w a1 len1 cap1 z1) :
    Calls Try.prog 3 #[.int .u64 a0, .slice a1 len1 cap1] w fun e w' => e = .returned (.bool true) ∧ Below w.heap.size w w' := by
  obtain ⟨x, rfl⟩ := word_of w0
  by_cases hbig : 64 < len1
  · exact walk_many x a1 len1 cap1 w hbig
  by_cases h0 : len1 = 0
  · subst h0
    refine walk_none x a1 cap1 w (fun h => ?_)
    subst h
    rcases w1 with ⟨_, _, hcap, _⟩ | ⟨y, hy, _⟩
    · exact hcap
    · cases hy
  rcases w1 with ⟨_, hz, _⟩ | ⟨ad, rfl, hl, hm, hz, hcell, hwz⟩
  · exact absurd hz h0
  obtain ⟨b, off, spot⟩ := ad
  have hspot : spot = none := by
    have := World.cell?_spot (hcell 0 (by omega))
    simpa [Addr.add] using this
  subst hspot
  refine walk_some x ((z1.take len1).map Int.toNat) b off len1 cap1 w (by simp; omega) (by omega) (by omega) (fun i hi => ?_)
  have hg := hcell i (by omega)
  have hwf := bounds_u8 (hwz (z1.getD i 0) (by rw [List.getD, List.getElem?_eq_getElem (by omega)]; exact List.getElem_mem _))
  have e : (((z1.take len1).map Int.toNat).getD i 0 : Int) = z1.getD i 0 := by
    have h1 : i < z1.length := by omega
    simp only [List.getD, List.getElem?_map, List.getElem?_take, hi, if_true, List.getElem?_eq_getElem h1, Option.map_some, Option.getD_some] at hwf ⊢
    omega
  rw [e, ← hg, add_plain]

set_option maxRecDepth 100000 in
theorem lifted (os : Os) (started : os.Started) (H : Type) (enc : TypeId × Value → H) :
    ReturnsInHanded {} Try.checked os 3 .any (Rows.fnPermuteByIsSpec.pre6 enc Try.prog Try.f3 Rows.fnPermuteByIsRow.domain false) (Rows.fnPermuteByIsSpec.post enc Try.prog Try.f3 false true false false) := by
  refine returnsInHanded_of_change (C := Try.checked) own started (by kernel_rfl) Try.func3
    (ChangeSpec.witness6 (enc := enc) (C := Try.checked) false ⟨#[], #[.int .u64 0, .slice none 0 0], []⟩ 8 (by kernel_rfl) (by kernel_rfl) (by kernel_rfl) (by kernel_rfl)) ?_
  intro W base args ds gs before hval0 hW hcnd _
  have hval : ∀ (j : Nat) t v, Try.f3.params[j]? = some t → args[j]? = some v → Value.okWide Try.prog W .any base t v := hval0
  have hW' := hW
  obtain ⟨p, q, hA0, hV, rfl, hfz, hnd⟩ := hW
  have hA : DataW.TrodAll enc Try.prog W 0 (fun _ => true) true Try.f3.params.toList args.toList ds p := hA0
  rw [Try.params3] at hA hval
  obtain ⟨v0, vs0, d0, ds0, p0, q0, hargs, rfl, rfl, h0, r0⟩ := trodAll_cons hA
  obtain ⟨v1, vs1, d1, ds1, p1, q1, rfl, rfl, rfl, h1, r1⟩ := trodAll_cons r0
  obtain ⟨rfl, rfl, rfl⟩ := trodAll_nil r1
  obtain rfl : args = #[v0, v1] := by cases args; simp_all
  obtain ⟨rfl, rfl⟩ := trodVars_none hV
  obtain ⟨a0, rfl, rfl, rfl, w0⟩ := open_int Try.underlying22 (hval 0 22 v0 rfl rfl) h0
  obtain ⟨a1, len1, cap1, rfl⟩ := okWide_slice Try.underlying23 (hval 1 23 v1 rfl rfl)
  have k1 := h1
  have lt1 : ∀ x ∈ p1, x.block < W.heap.size := by obtain ⟨m, hm⟩ := k1; exact DataW.trod_lt m _ _ _ hm
  obtain ⟨z1, w1⟩ : ∃ zs, IsRow .u8 W a1 len1 cap1 zs := by
    obtain ⟨fuel, hf⟩ := h1
    rcases open_ints Try.underlying23 Try.underlying5 (by kernel_rfl) hf with ⟨hcs, _⟩ | ⟨x, l, c, zs, hcs, _, hl, hm, hz, _, hcell, hwz⟩
    · simp [Value.cells] at hcs
      obtain ⟨rfl, rfl, rfl⟩ := hcs
      exact ⟨[], .inl ⟨rfl, rfl, rfl, rfl⟩⟩
    · simp [Value.cells] at hcs
      obtain ⟨rfl, rfl, rfl⟩ := hcs
      exact ⟨zs, .inr ⟨_, rfl, hl, hm, by simpa using hz, hcell, hwz⟩⟩
  clear hA0 hval0
  refine (walk a0 a1 len1 cap1 z1 W w0 w1).mono fun e W' ⟨he, bel⟩ => ?_
  subst he
  exact ⟨_, rfl, _, _, _, [], _, [], hW', trodAll_mk1 (shut_bool Try.underlying4 _), (trodAll_cons_mk (shut_int Try.underlying22 w0) (trodAll_cons_mk (Below.trod laidOut (by kernel_rfl) (of_decide_eq_true (by kernel_rfl)) k1 bel lt1) trodAll_mk0)), rfl, bel.frame _, fun h => by cases h⟩

theorem over : Rows.fnPermuteByIsRow.holds Try.pinned (OpenSpec.ofChange Rows.fnPermuteByIsSpec) :=
  OpenClaim.holds_of_wide 3 Try.f3 rfl rfl rfl rfl rfl rfl rfl ⟨rfl, rfl, rfl, rfl, rfl⟩ rfl rfl rfl rfl rfl (by kernel_rfl) Try.func3 (by kernel_rfl)
    (of_decide_eq_true (by kernel_rfl)) (by unfold Func.isWrapper; first | (rw [if_pos (by decide +kernel)]; kernel_rfl) | (rw [if_neg (by decide +kernel)]; exact ⟨rfl, rfl⟩))
    (fun os started H enc _ => lifted os started H enc)

theorem proved : Rows.FnPermuteByIsSaid := over
#print axioms proved
end Go.Proofs.Ytpnkgjnljbknnaa.fnPermuteByIs
