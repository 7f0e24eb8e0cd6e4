/-
  Contracts of the functions that turn halves of a key: ksRotate of the package, Turned and Turn of the reference. Conditions: a half has 28 bits; the package's table of turns lies in memory.
-/
import Derived.Test.YtpnkgjnljbknnaaDoorTables
import Derived.Deep.QuietTactic
import Derived.BigQuiet
import Derived.Laws.OwnMore
import Derived.WalkSmall
namespace Go.Proofs.YtpnkgjnljbknnaaDoor
open Go.RowKit

/-! ### the reference -/
theorem turned1_any (y : BitVec 64) (w : World) :
    Calls Tryd.prog 10 #[.int .u64 (B y), .int .i64 1] w fun e w' => e = .returned (.int .u64 (B (turn 1 y))) ∧ Below w.heap.size w w' := by
  have a2 := r_or
  have a4 := r_andc
  have l1 := r_shl1
  have h27 : ∀ x, B x / (134217728 : Int) = B (x >>> 27) := fun x => r_shr x 27
  go_enter Tryd.func10, Tryd.ntmps10
  go_wp2
  go_quiet (fail)
  go_wp2
  go_ret
  exact ⟨rfl, below_drewN (Below.refl _ _) _⟩

theorem turned2_any (y : BitVec 64) (w : World) :
    Calls Tryd.prog 10 #[.int .u64 (B y), .int .i64 2] w fun e w' => e = .returned (.int .u64 (B (turn 2 y))) ∧ Below w.heap.size w w' := by
  have a2 := r_or
  have a4 := r_andc
  have l2 : ∀ x, IntKind.u64.wrap (B x * (4 : Int)) = B (x <<< 2) := fun x => r_shl x 2
  have h26 : ∀ x, B x / (67108864 : Int) = B (x >>> 26) := fun x => r_shr x 26
  go_enter Tryd.func10, Tryd.ntmps10
  go_wp2
  go_quiet (fail)
  go_wp2
  go_ret
  exact ⟨rfl, below_drewN (Below.refl _ _) _⟩

theorem turned_any (y : BitVec 64) (r : Nat) (w : World) (h : r = 1 ∨ r = 2) :
    Calls Tryd.prog 10 #[.int .u64 (B y), .int .i64 (r : Int)] w fun e w' => e = .returned (.int .u64 (B (turn r y))) ∧ Below w.heap.size w w' := by
  rcases h with rfl | rfl
  · exact turned1_any y w
  · exact turned2_any y w

theorem turnLit1 (w : World) : Calls Tryd.prog 11 #[.int .i64 1] w fun e w' => e = .returned (.int .i64 ((1 : Nat) : Int)) ∧ w = w' := by
  go_enter Tryd.func11, Tryd.ntmps11
  go_wp2
  go_ret
  exact ⟨rfl, rfl⟩
theorem turnLit2 (w : World) : Calls Tryd.prog 11 #[.int .i64 2] w fun e w' => e = .returned (.int .i64 ((1 : Nat) : Int)) ∧ w = w' := by
  go_enter Tryd.func11, Tryd.ntmps11
  go_wp2
  go_ret
  exact ⟨rfl, rfl⟩
theorem turnLit9 (w : World) : Calls Tryd.prog 11 #[.int .i64 9] w fun e w' => e = .returned (.int .i64 ((1 : Nat) : Int)) ∧ w = w' := by
  go_enter Tryd.func11, Tryd.ntmps11
  go_wp2
  go_ret
  exact ⟨rfl, rfl⟩
theorem turnLit16 (w : World) : Calls Tryd.prog 11 #[.int .i64 16] w fun e w' => e = .returned (.int .i64 ((1 : Nat) : Int)) ∧ w = w' := by
  go_enter Tryd.func11, Tryd.ntmps11
  go_wp2
  go_ret
  exact ⟨rfl, rfl⟩
theorem turnN_any (k : Nat) (w : World) (hk : k < 16) :
    Calls Tryd.prog 11 #[.int .i64 ((k : Int) + 1)] w fun e w' => e = .returned (.int .i64 ((ksL.getD k 0 : Nat) : Int)) ∧ w = w' := by
  obtain ⟨i, hi⟩ : ∃ i : Int, i = (k : Int) + 1 := ⟨_, rfl⟩
  rw [← hi]
  by_cases h1 : k = 0 ∨ k = 1 ∨ k = 8 ∨ k = 15
  · rw [(ksL_1 k hk).2 h1]
    rcases h1 with rfl | rfl | rfl | rfl
    · obtain rfl : i = 1 := by omega
      exact turnLit1 w
    · obtain rfl : i = 2 := by omega
      exact turnLit2 w
    · obtain rfl : i = 9 := by omega
      exact turnLit9 w
    · obtain rfl : i = 16 := by omega
      exact turnLit16 w
  · have h2 : ksL.getD k 0 = 2 := by
      have a := ksL_1 k hk
      rcases ksL_12 k hk with b | b
      · exact absurd (a.1 b) h1
      · exact b
    rw [h2]
    have e1 : (i == 1) = false := by simp only [beq_eq_false_iff_ne]; omega
    have e2 : (i == 2) = false := by simp only [beq_eq_false_iff_ne]; omega
    have e9 : (i == 9) = false := by simp only [beq_eq_false_iff_ne]; omega
    have e16 : (i == 16) = false := by simp only [beq_eq_false_iff_ne]; omega
    clear hi h1 h2 hk
    go_enter Tryd.func11, Tryd.ntmps11
    go_wp2
    go_ret
    exact ⟨rfl, rfl⟩

/-! ### the package: sixteen turned halves -/
/-- The sixteen numbers when the first k of them are laid. -/
def rotRow (y : BitVec 64) (k : Nat) : List Value := (List.range 16).map fun j => if j < k then .int .u32 (B (rotK y (j + 1))) else .int .u32 0
theorem rotRow_len (y : BitVec 64) (k : Nat) : (rotRow y k).length = 16 := by simp [rotRow]
theorem rotRow_at (y : BitVec 64) (k j : Nat) (hj : j < k) (h : j < 16) : (rotRow y k)[j]? = some (.int .u32 (B (rotK y (j + 1)))) := by
  simp [rotRow, h, hj]
theorem rotRow_zero (y : BitVec 64) (k j : Nat) (hj : k ≤ j) (h : j < 16) : (rotRow y k)[j]? = some (.int .u32 0) := by
  have : ¬ j < k := by omega
  simp [rotRow, h, this]
theorem rotRow_set (y : BitVec 64) (k : Nat) (hk : k < 16) : (rotRow y k).set k (.int .u32 (B (rotK y (k + 1)))) = rotRow y (k + 1) := by
  apply List.ext_getElem?
  intro j
  rw [List.getElem?_set]
  by_cases hj : j < 16
  · by_cases hjk : k = j
    · subst hjk
      rw [if_pos rfl, if_pos (by rw [rotRow_len]; exact hj), rotRow_at y (k + 1) k (by omega) hj]
    · rw [if_neg hjk]
      by_cases h2 : j < k
      · rw [rotRow_at y k j h2 hj, rotRow_at y (k + 1) j (by omega) hj]
      · rw [rotRow_zero y k j (by omega) hj, rotRow_zero y (k + 1) j (by omega) hj]
  · rw [if_neg (by omega), List.getElem?_eq_none (by rw [rotRow_len]; omega), List.getElem?_eq_none (by rw [rotRow_len]; omega)]

def RotPost (y : BitVec 64) (base : Nat) (w : World) (e : Ending) (w' : World) : Prop :=
  ∃ g cap, e = .returned (.slice (some ⟨g, 0, none⟩) 16 cap) ∧ w'.ownsRow base 22 1 (.slice (some ⟨g, 0, none⟩) 16 cap) 16 (rotRow y 16) ∧ Below base w w'

set_option maxHeartbeats 800000 in
theorem ksRotate_any (y : BitVec 64) (w : World) (hy : Low28 y) (ht : Tab w 10 .u8 ksL) :
    Calls Tryd.prog 37 #[.int .u32 (B y)] w fun e w' => RotPost y w.heap.size w e w' := by
  have hlt := ht.lt
  have hmk : ∀ w, (Instr.makeSlice 23 (.int .i64 16) (.int .i64 16)).run Tryd.prog w = .ok (.slice (some ⟨w.heap.size, 0, none⟩) 16 16) (w.alloc (.cells (rotRow 0#64 0).toArray 22)) := fun _ => by kernel_rfl
  have hz : rotRow 0#64 0 = rotRow y 0 := by simp [rotRow]
  rw [hz] at hmk
  obtain ⟨R0, hR0⟩ : ∃ R0, R0 = (rotRow y 0).toArray := ⟨_, rfl⟩
  rw [← hR0] at hmk
  have HR := Lib.hid hR0
  have HY := Lib.hid hy
  have HT := Lib.hid ht
  clear hz hR0 hy ht
  obtain ⟨H, hH⟩ : ∃ H, H = w.heap.size := ⟨_, rfl⟩
  go_enter Tryd.func37, Tryd.ntmps37
  go_wp2
  rw [← hH]
  obtain ⟨W, hW⟩ : ∃ W, W = w.alloc (.cells R0 22) := ⟨_, rfl⟩
  have hb0 : Below H w W := by rw [hW, hH]; exact (Below.refl _ _).alloc (Nat.le_refl _) _
  have ho0 : W.ownsRow H 22 1 (.slice (some ⟨H, 0, none⟩) 16 16) 16 (rotRow y 0) := by
    have := World.ownsRow_lit (e := 22) (size := 1) (base := H) w R0 16 (by omega) (by unfold maxLen; omega) (by rw [HR.out]; simp [rotRow_len])
    rw [← hH, ← hW, HR.out] at this
    exact this
  rw [← hW]
  have HB0 := Lib.hid hb0
  have HO0 := Lib.hid ho0
  have HH := Lib.hid hH
  clear hW hb0 ho0 hH HR hmk
  go_loopw [3, 4] (fun v i wr => ∃ k : Nat, k ≤ 16 ∧ i = .int .i64 k ∧ v = .int .u32 (B (rotK y k)) ∧ wr.ownsRow H 22 1 (.slice (some ⟨H, 0, none⟩) 16 16) 16 (rotRow y k) ∧ Below H w wr) (fun _ i _ => 16 - (intOf i).toNat)
  case atStart => exact ⟨0, Nat.zero_le _, rfl, rfl, HO0.out, HB0.out⟩
  case round =>
    obtain ⟨k, hk, rfl, rfl, hown, hbel⟩ := hrel
    obtain ⟨z, hz⟩ : ∃ z, z = rotK y k := ⟨_, rfl⟩
    rw [← hz]
    have HZ := Lib.hid hz
    clear hz
    by_cases hlt16 : k < 16
    · have hd : ((k : Int) < 16) = True := by simp; omega
      have hks : wr.cell? ⟨10, k, none⟩ = some (.int .u8 ((ksL.getD k 0 : Nat) : Int)) := by
        rw [hbel.cell (p := ⟨10, k, none⟩) (by rw [HH.out]; exact hlt)]
        exact HT.out.cell k hlt16
      have hold : wr.cell? ⟨H, k, none⟩ = some (.int .u32 0) := by
        rw [hown.cellAt k (by omega), rotRow_zero y k k (Nat.le_refl _) hlt16]
      have hfr : wr.frozen? ⟨H, k, none⟩ = false := hown.frozenAt k
      have hne : 10 ≠ H := by have := HH.out; omega
      have HW := Lib.hid hown
      have HB := Lib.hid hbel
      clear hown hbel
      have a1 := r_or32
      have l4 : ∀ x, IntKind.u32.wrap (B x * (16 : Int)) = B ((x <<< 4) &&& 4294967295#64) := fun x => r_shl32 x 4
      have h4 : ∀ x, B x / (16 : Int) = B (x >>> 4) := fun x => r_shr x 4
      rcases ksL_12 k hlt16 with hr | hr
      · have HK := Lib.hid hr
        rw [hr] at hks
        clear hr
        have l5 : ∀ x, IntKind.u32.wrap (B x * (32 : Int)) = B ((x <<< 5) &&& 4294967295#64) := fun x => r_shl32 x 5
        have h31 : ∀ x, B x / (2147483648 : Int) = B (x >>> 31) := fun x => r_shr x 31
        go_wp2
        go_roundw
        case rel =>
          have ev : turnW1 z = rotK y (k + 1) := rotK_step1 y z k HZ.out (by rw [HZ.out]; exact rotK_low y HY.out k) HK.out
          have hst := (HW.out.stored k (.int .u32 (B (turnW1 z)))).1
          rw [ev, rotRow_set y k hlt16] at hst
          exact ⟨k + 1, by omega, by go_num, by rw [← ev]; rfl, by rw [← ev] at hst; exact hst, HB.out.setCell (Nat.le_refl _) _⟩
        case measure => simp [intOf]; omega
      · have HK := Lib.hid hr
        rw [hr] at hks
        clear hr
        have l6 : ∀ x, IntKind.u32.wrap (B x * (64 : Int)) = B ((x <<< 6) &&& 4294967295#64) := fun x => r_shl32 x 6
        have h30 : ∀ x, B x / (1073741824 : Int) = B (x >>> 30) := fun x => r_shr x 30
        go_wp2
        go_roundw
        case rel =>
          have ev : turnW2 z = rotK y (k + 1) := rotK_step2 y z k HZ.out (by rw [HZ.out]; exact rotK_low y HY.out k) HK.out
          have hst := (HW.out.stored k (.int .u32 (B (turnW2 z)))).1
          rw [ev, rotRow_set y k hlt16] at hst
          exact ⟨k + 1, by omega, by go_num, by rw [← ev]; rfl, by rw [← ev] at hst; exact hst, HB.out.setCell (Nat.le_refl _) _⟩
        case measure => simp [intOf]; omega
    · have hk16 : k = 16 := by omega
      have HW := Lib.hid hown
      have HB := Lib.hid hbel
      have hrow : rotRow y k = rotRow y 16 := by rw [hk16]
      have HR2 := Lib.hid hrow
      clear hown hbel hrow
      have hd : ((k : Int) < 16) = False := by simp; omega
      go_wp2
      go_ret
      refine ⟨H, 16, rfl, ?_, ?_⟩
      · rw [← HH.out, ← HR2.out]; exact HW.out
      · rw [← HH.out]; exact HB.out

theorem info22 : (Tryd.prog.info? 22).map (fun i => (i.zero, i.size, i.bytes)) = some (some (.int .u32 0), 1, 4) := by kernel_rfl
theorem rotRow_one (y : BitVec 64) (k : Nat) : ∀ u ∈ rotRow y k, u.oneCell' = true := by
  intro u hu
  simp only [rotRow, List.mem_map] at hu
  obtain ⟨j, _, rfl⟩ := hu
  split <;> rfl
theorem owned_shape {w : World} {base : Nat} {e : TypeId} {size n : Nat} {v : Value} {xs : List Value} (h : w.ownsRow base e size v n xs) (hv : 0 < n) :
    ∃ g cap, v = .slice (some ⟨g, 0, none⟩) n cap := by
  rcases h.2 with ⟨_, h0⟩ | ⟨g, cap, cur, h, _⟩
  · omega
  · exact ⟨g, cap, h⟩

set_option maxHeartbeats 800000 in
theorem rotations_any (y : BitVec 64) (w : World) (hy : Low28 y) (ht : Tab w 10 .u8 ksL) :
    Calls Tryd.prog 9 #[.int .u32 (B y)] w fun e w' => RotPost y w.heap.size w e w' := by
  obtain ⟨i0, hi, hz0, hz1, hz2⟩ := info_parts info22
  have HY := Lib.hid hy
  have HT := Lib.hid ht
  clear hy ht
  go_enter Tryd.func9, Tryd.ntmps9
  go_wp2_with (first
    | (go_at_call 37; ((with_reducible refine (ksRotate_any _ _ HY.out HT.out).mono ?_); rintro e w1 ⟨g, cap, rfl, hown, hbel⟩))
    | (at_builtin; refine wpList_append_own _ rfl _ _ 23 rfl w.heap.size 22 i0 (.int .u32 0) 1 4 Tryd.underlying23 hi hz0 hz1 hz2 rfl (by decide) _ _ _ rfl (World.ownsRow_nil _ _ _ _) ⟨g, 0, none⟩ 16 cap (rotRow y 16) rfl (by rw [rotRow_len]) ?c0 (rotRow_one y 16) (by decide) (by decide) ?c1 ?_)
    | go_in)
  case c0 =>
    intro j u hu
    have hj : j < 16 := by
      have := (List.getElem?_eq_some_iff.1 hu).1
      rwa [rotRow_len] at this
    have e : (⟨g, 0, none⟩ : Addr).add j = ⟨g, j, none⟩ := by
      unfold Addr.add
      by_cases h : j = 0 <;> simp [h]
    rw [e, hown.cellAt j (by omega), hu]
  case c1 => exact hbel.size
  · intro v' w2 hown' hgrow _
    have hown2 : w2.ownsRow w.heap.size 22 1 v' 16 (rotRow y 16) := by simpa using hown'
    obtain ⟨g2, cap2, rfl⟩ := owned_shape hown2 (by decide)
    have hb : Below w.heap.size w w2 := hbel.grown hgrow hbel.size (fun k h => by cases h)
    have OW := Lib.hid hown2
    have HB := Lib.hid hb
    clear hown2 hown' hown hbel hgrow hb hi hz0 hz1 hz2
    go_wp2
    go_ret
    exact ⟨g2, cap2, rfl, OW.out, HB.out⟩
end Go.Proofs.YtpnkgjnljbknnaaDoor
