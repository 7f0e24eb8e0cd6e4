/-
  Contracts of beUint64 and generateSubkeys: the sixteen words of a key, spread out. Conditions: the key's eight bytes and the package's tables lie in memory; the sixteen words lie in one block that may be written.
-/
import Derived.Test.YtpnkgjnljbknnaaDoorRot
import Derived.StillTailTactics
namespace Go.Proofs.YtpnkgjnljbknnaaDoor
open Go.RowKit

/-- Eight bytes as a number, the first one the highest. -/
def beX (b : Nat → BitVec 64) : BitVec 64 :=
  b 7 ||| (b 6 <<< 8) ||| (b 5 <<< 16) ||| (b 4 <<< 24) ||| (b 3 <<< 32) ||| (b 2 <<< 40) ||| (b 1 <<< 48) ||| (b 0 <<< 56)

set_option maxHeartbeats 800000 in
theorem be_any (b : Nat → BitVec 64) (kb ko cap : Nat) (w : World) (hc : ∀ j, j < 8 → w.cell? ⟨kb, ko + j, none⟩ = some (.int .u8 (B (b j)))) :
    Calls Tryd.prog 43 #[.slice (some ⟨kb, ko, none⟩) 8 cap] w fun e w' => e = .returned (.int .u64 (B (beX b))) ∧ Below w.heap.size w w' := by
  have c0 : w.cell? ⟨kb, ko, none⟩ = some (.int .u8 (B (b 0))) := hc 0 (by decide)
  have c1 := hc 1 (by decide)
  have c2 := hc 2 (by decide)
  have c3 := hc 3 (by decide)
  have c4 := hc 4 (by decide)
  have c5 := hc 5 (by decide)
  have c6 := hc 6 (by decide)
  have c7 := hc 7 (by decide)
  clear hc
  have a2 := r_or
  have a5 := r_wrap
  have l8 : ∀ x, IntKind.u64.wrap (B x * (256 : Int)) = B (x <<< 8) := fun x => r_shl x 8
  have l16 : ∀ x, IntKind.u64.wrap (B x * (65536 : Int)) = B (x <<< 16) := fun x => r_shl x 16
  have l24 : ∀ x, IntKind.u64.wrap (B x * (16777216 : Int)) = B (x <<< 24) := fun x => r_shl x 24
  have l32 : ∀ x, IntKind.u64.wrap (B x * (4294967296 : Int)) = B (x <<< 32) := fun x => r_shl x 32
  have l40 : ∀ x, IntKind.u64.wrap (B x * (1099511627776 : Int)) = B (x <<< 40) := fun x => r_shl x 40
  have l48 : ∀ x, IntKind.u64.wrap (B x * (281474976710656 : Int)) = B (x <<< 48) := fun x => r_shl x 48
  have l56 : ∀ x, IntKind.u64.wrap (B x * (72057594037927936 : Int)) = B (x <<< 56) := fun x => r_shl x 56
  go_enter Tryd.func43, Tryd.ntmps43
  go_wp2
  go_quiet (fail)
  go_wp2
  go_ret
  exact ⟨rfl, below_drewN (Below.refl _ _) _⟩

/-! ### the sixteen words -/
def halfL (K : BitVec 64) : BitVec 64 := (permB K c1L >>> 28) &&& 4294967295#64
def halfR (K : BitVec 64) : BitVec 64 := ((permB K c1L <<< 4) &&& 4294967295#64) >>> 4
theorem halfL_eq (K : BitVec 64) : halfL K = permB K c1L >>> 28 := by
  apply BitVec.eq_of_getLsbD_eq
  intro j _
  rw [halfL, BitVec.getLsbD_and, BitVec.getLsbD_ushiftRight]
  by_cases hj : j < 32
  · have : (4294967295#64).getLsbD j = true := by revert j; decide
    rw [this, Bool.and_true]
  · rw [permB_high K c1L (28 + j) (by rw [c1L_len]; omega), Bool.false_and]
theorem halfL_low (K : BitVec 64) : Low28 (halfL K) := by
  intro j hj
  rw [halfL_eq, BitVec.getLsbD_ushiftRight]
  exact permB_high K c1L (28 + j) (by rw [c1L_len]; omega)
theorem halfR_eq (K : BitVec 64) : halfR K = permB K c1L &&& 268435455#64 :=
  or_ext (f := fun x => ((x <<< 4) &&& 4294967295#64) >>> 4) (g := fun x => x &&& 268435455#64) (.shr (.and (.shl .id _) _) _) (.and .id _) 64 (Nat.le_refl _) (by decide +kernel) (by decide +kernel) (permB K c1L) (fun j hj => BitVec.getLsbD_of_ge _ j hj)
theorem halfR_low (K : BitVec 64) : Low28 (halfR K) := by
  rw [halfR_eq]; exact low28_and _
/-- The word with the number i + 1, of 48 bits. -/
def subW (K : BitVec 64) (i : Nat) : BitVec 64 := permB ((rotK (halfL K) (i + 1) <<< 28) ||| rotK (halfR K) (i + 1)) c2L

/-- What the call leaves: only block cb is written; its sixteen cells from co on hold the words, spread out. -/
def Laid (K : BitVec 64) (cb co n : Nat) (t : TypeId) (k : Nat) (w w' : World) : Prop :=
  w.grownBy w' (some cb) ∧ ∃ cs', w'.heap[cb]? = some (.cells cs' t (0, 0)) ∧ cs'.size = n ∧ ∀ i, i < k → cs'[co + i]? = some (.int .u64 (B (unpackX (subW K i))))

theorem Laid.store {K : BitVec 64} {cb co n : Nat} {t : TypeId} {k : Nat} {w w' : World} (h : Laid K cb co n t k w w') (hn : co + k < n) :
    Laid K cb co n t (k + 1) w (w'.setCell ⟨cb, co + k, none⟩ (.int .u64 (B (unpackX (subW K k))))) := by
  obtain ⟨hg, cs, hcs, hsz, hall⟩ := h
  have hlt : cb < w'.heap.size := by
    by_cases hb : cb < w'.heap.size
    · exact hb
    · rw [Array.getElem?_eq_none (by omega)] at hcs; cases hcs
  refine ⟨⟨hg.os, hg.tape, hg.output, by simpa using hg.size, fun j hj hne => ?_⟩, cs.setIfInBounds (co + k) (.int .u64 (B (unpackX (subW K k)))), heap_setCell_same w' cb (co + k) cs t _ hcs, by simpa using hsz, fun i hi => ?_⟩
  · rw [heap_setCell_other w' ⟨cb, co + k, none⟩ j _ (fun e => hne (by simp [e]))]
    exact hg.block j hj hne
  · by_cases hik : i = k
    · subst hik
      rw [Array.getElem?_setIfInBounds_self_of_lt (by omega)]
    · rw [Array.getElem?_setIfInBounds_ne (by omega)]
      exact hall i (by omega)

theorem Laid.cell {K : BitVec 64} {cb co n : Nat} {t : TypeId} {k : Nat} {w w' : World} (h : Laid K cb co n t k w w') (j : Nat) (hj : j < n) :
    ∃ v, w'.cell? ⟨cb, j, none⟩ = some v := by
  obtain ⟨hg, cs, hcs, hsz, hall⟩ := h
  exact ⟨cs[j]'(by omega), by rw [cell_of_row w' cb j cs t (0, 0) hcs, Array.getElem?_eq_getElem]⟩
theorem Laid.frozen {K : BitVec 64} {cb co n : Nat} {t : TypeId} {k : Nat} {w w' : World} (h : Laid K cb co n t k w w') (j : Nat) :
    w'.frozen? ⟨cb, j, none⟩ = false := by
  obtain ⟨hg, cs, hcs, hsz, hall⟩ := h
  exact frozen_of_row w' cb j cs t hcs
theorem Laid.other {K : BitVec 64} {cb co n : Nat} {t : TypeId} {k : Nat} {w w' : World} (h : Laid K cb co n t k w w') (g : Nat) (hg : g < w.heap.size) (hne : g ≠ cb) :
    w'.heap[g]? = w.heap[g]? := h.1.block g hg (fun e => hne (Option.some.inj e))
theorem Tab.of_heap {w w' : World} {g : Nat} {k : IntKind} {l : List Nat} (h : Tab w g k l) (e : w'.heap[g]? = w.heap[g]?) : Tab w' g k l := by
  obtain ⟨t, fr, h⟩ := h
  exact ⟨t, fr, e.trans h⟩

theorem Laid.from {K : BitVec 64} {cb co n : Nat} {t : TypeId} {k : Nat} {w w3 w' : World} (hb : Below w.heap.size w w3) (h : Laid K cb co n t k w3 w') : Laid K cb co n t k w w' := by
  obtain ⟨hg, hc⟩ := h
  exact ⟨⟨hg.os.trans hb.os, hg.tape.trans hb.tape, hg.output.trans hb.output, Nat.le_trans hb.size hg.size, fun j hj hne => (hg.block j (Nat.lt_of_lt_of_le hj hb.size) hne).trans (hb.block j hj)⟩, hc⟩
theorem Laid.heap {K : BitVec 64} {cb co n : Nat} {t : TypeId} {k : Nat} {w w' w2 : World} (h : Laid K cb co n t k w w') (ho : w2.os = w'.os) (ht : w2.tape = w'.tape) (hp : w2.output = w'.output) (hh : w2.heap = w'.heap) : Laid K cb co n t k w w2 := by
  obtain ⟨hg, cs, hcs, hr⟩ := h
  exact ⟨⟨ho.trans hg.os, ht.trans hg.tape, hp.trans hg.output, by rw [hh]; exact hg.size, fun j hj hne => by rw [hh]; exact hg.block j hj hne⟩, cs, by rw [hh]; exact hcs, hr⟩

set_option maxHeartbeats 3200000 in
theorem gen_any (b : Nat → BitVec 64) (kb ko kcap cb co n : Nat) (cs : Array Value) (t : TypeId) (w : World)
    (hc : ∀ j, j < 8 → w.cell? ⟨kb, ko + j, none⟩ = some (.int .u8 (B (b j))))
    (hcb : w.heap[cb]? = some (.cells cs t (0, 0))) (hsz : cs.size = n) (hn : co + 16 ≤ n) (h10 : 10 < cb)
    (t8 : Tab w 8 .u8 c1L) (t9 : Tab w 9 .u8 c2L) (t10 : Tab w 10 .u8 ksL) :
    Calls Tryd.prog 39 #[.pointer (some ⟨cb, co, none⟩), .slice (some ⟨kb, ko, none⟩) 8 kcap] w fun e w' => e = .returned (.tuple #[]) ∧ Laid (beX b) cb co n t 16 w w' := by
  have hcbl : cb < w.heap.size := by
    by_cases hb : cb < w.heap.size
    · exact hb
    · rw [Array.getElem?_eq_none (by omega)] at hcb; cases hcb
  have HC := Lib.hid hc
  have HCB := Lib.hid hcb
  have HS := Lib.hid hsz
  have T8 := Lib.hid t8
  have T9 := Lib.hid t9
  have T10 := Lib.hid t10
  clear hc hcb hsz t8 t9 t10
  have a6 := r_u32
  have a4 := r_andc
  have l4 : ∀ x, IntKind.u64.wrap (B x * (16 : Int)) = B (x <<< 4) := fun x => r_shl x 4
  have h28 : ∀ x, B x / (268435456 : Int) = B (x >>> 28) := fun x => r_shr x 28
  have h4 : ∀ x, B x / (16 : Int) = B (x >>> 4) := fun x => r_shr x 4
  obtain ⟨K, hK⟩ : ∃ K, K = beX b := ⟨_, rfl⟩
  rw [← hK]
  have HK := Lib.hid hK
  clear hK
  have eL : permB K c1L >>> 28 &&& 4294967295#64 = halfL K := rfl
  have eR : (permB K c1L <<< 4 &&& 4294967295#64) >>> 4 = halfR K := rfl
  go_enter Tryd.func39, Tryd.ntmps39
  go_wp2_with (first
    | (go_at_call 43; ((with_reducible refine (be_any b _ _ _ _ HC.out).mono ?_); rintro e w1 ⟨rfl, hb1⟩; rw [← HK.out]))
    | (go_at_call 38; ((with_reducible refine (permute_tab _ c1L 56 8 _ c1L_len (by decide) (T8.out.below (by assumption))).mono ?_); rintro e w' ⟨rfl, rfl⟩)))
  have W8 := Lib.hid (T8.out.below hb1)
  have W9 := Lib.hid (T9.out.below hb1)
  have W10 := Lib.hid (T10.out.below hb1)
  refine (ksRotate_any (halfL K) w1 (halfL_low K) W10.out).mono ?_
  rintro e w2 ⟨gl, capl, rfl, ownl, hb2⟩
  have X10 := Lib.hid (W10.out.below hb2)
  have X9 := Lib.hid (W9.out.below hb2)
  have hgl := ownl.lt gl rfl
  have OL := Lib.hid ownl
  have HB1 := Lib.hid hb1
  have HB2 := Lib.hid hb2
  clear ownl hb1 hb2 W8 W9 W10
  go_wp2_with fail
  refine (ksRotate_any (halfR K) w2 (halfR_low K) X10.out).mono ?_
  rintro e w3 ⟨gr, capr, rfl, ownr, hb3⟩
  have Y9 := Lib.hid (X9.out.below hb3)
  have hgr := ownr.lt gr rfl
  have hsz1 := HB1.out.size
  have hsz2 := HB2.out.size
  have hsz3 := hb3.size
  have cellL : ∀ k, k < 16 → w3.cell? ⟨gl, k, none⟩ = some (.int .u32 (B (rotK (halfL K) (k + 1)))) := fun k hk => by
    rw [hb3.cell (p := ⟨gl, k, none⟩) hgl.2, OL.out.cellAt k (by omega), rotRow_at _ 16 k hk hk]
  have cellR : ∀ k, k < 16 → w3.cell? ⟨gr, k, none⟩ = some (.int .u32 (B (rotK (halfR K) (k + 1)))) := fun k hk => by
    rw [ownr.cellAt k (by omega), rotRow_at _ 16 k hk hk]
  have hb13 : Below w.heap.size w w3 := HB1.out.trans ((HB2.out.mono hsz1).trans (hb3.mono (Nat.le_trans hsz1 hsz2)))
  have hlaid0 : Laid K cb co n t 0 w3 w3 :=
    ⟨⟨rfl, rfl, rfl, Nat.le_refl _, fun j hj _ => rfl⟩, cs, (hb13.block cb hcbl).trans HCB.out, HS.out, fun i hi => absurd hi (by omega)⟩
  have HLD := Lib.hid hlaid0
  have H13 := Lib.hid hb13
  have hglne : gl ≠ cb := by omega
  have hgrne : gr ≠ cb := by omega
  have h9 : 9 < w3.heap.size := Y9.out.lt
  have hgl3 : gl < w3.heap.size := by omega
  have hgr3 : gr < w3.heap.size := hgr.2
  have CL := Lib.hid cellL
  have CR := Lib.hid cellR
  clear cellL cellR hlaid0 hb13 ownr hb3 OL HB1 HB2 X9 X10 eL eR hsz1 hsz2 hsz3 hgl hgr hcbl
  go_wp2_with fail
  go_loopw [8] (fun i wr => ∃ k : Nat, k ≤ 16 ∧ i = .int .i64 k ∧ Laid K cb co n t k w3 wr) (fun i _ => 16 - (intOf i).toNat)
  case atStart => exact ⟨0, Nat.zero_le _, rfl, HLD.out⟩
  case round =>
    obtain ⟨k, hk, rfl, hla⟩ := hrel
    by_cases hlt : k < 16
    · have hd : ((k : Int) < 16) = True := by simp; omega
      obtain ⟨zl, hzl⟩ : ∃ z, z = rotK (halfL K) (k + 1) := ⟨_, rfl⟩
      obtain ⟨zr, hzr⟩ : ∃ z, z = rotK (halfR K) (k + 1) := ⟨_, rfl⟩
      have cl : wr.cell? ⟨gl, k, none⟩ = some (.int .u32 (B zl)) := by
        rw [hzl, ← CL.out k hlt]
        exact World.cell?_of_block (w := w3) (hla.other gl hgl3 hglne)
      have cr : wr.cell? ⟨gr, k, none⟩ = some (.int .u32 (B zr)) := by
        rw [hzr, ← CR.out k hlt]
        exact World.cell?_of_block (w := w3) (hla.other gr hgr3 hgrne)
      have HT9 := Lib.hid (Y9.out.of_heap (hla.other 9 h9 (by omega)))
      obtain ⟨old, hold⟩ := hla.cell (co + k) (by omega)
      have hfr := hla.frozen (co + k)
      have HLA := Lib.hid hla
      have HZL := Lib.hid hzl
      have HZR := Lib.hid hzr
      have a2 := r_or
      have a5 := r_wrap
      have l28 : ∀ x, IntKind.u64.wrap (B x * (268435456 : Int)) = B (x <<< 28) := fun x => r_shl x 28
      clear hla hzl hzr
      go_wp2
      go_quiet (fail)
      go_wp2
      obtain ⟨W2, hW2⟩ : ∃ W2, W2 = (wr.drewN nq).drew := ⟨_, rfl⟩
      have LA2 : Laid K cb co n t k w3 W2 := HLA.out.heap (by rw [hW2]; rfl) (by rw [hW2]; rfl) (by rw [hW2]; rfl) (by rw [hW2]; rfl)
      have TA2 : Tab W2 9 .u8 c2L := HT9.out.of_heap (by rw [hW2]; rfl)
      have hold2 : W2.cell? ⟨cb, co + k, none⟩ = some old := by rw [hW2]; exact hold
      have hfr2 : W2.frozen? ⟨cb, co + k, none⟩ = false := LA2.frozen (co + k)
      refine wp_region_still_tail 9 (by kernel_rfl) (by kernel_rfl) ?_
      simp only [List.take_succ_cons, List.take_zero, List.drop_succ_cons, List.drop_zero]
      change wpStill _ _ (wr.drewN nq).drew (fun a' => wpList _ _ _ _ a' (wr.drewN nq).drew) _ _
      rw [← hW2]
      have HL2 := Lib.hid LA2
      have HT2 := Lib.hid TA2
      clear hW2 LA2 TA2 hold hfr HT9 HLA cl cr
      still_step
      still_step
      still_step
      still_step
      still_call ((permute_tab _ c2L 48 9 _ c2L_len (by decide) HT2.out).mono fun _ _ ⟨he, hw⟩ => ⟨he, hw.symm⟩)
      still_call ((unpack_any _ _).mono fun _ _ ⟨he, hw⟩ => ⟨he, hw.symm⟩)
      still_step
      still_step
      still_step
      refine wpStill_nil ?_
      go_wp2
      go_roundw
      case rel =>
        have hs := HL2.out.store (by omega)
        have ev : permB (zl <<< 28 ||| zr) c2L = subW K k := by rw [HZL.out, HZR.out]; rfl
        exact ⟨k + 1, by omega, by go_num, by rw [ev]; exact hs⟩
      case measure => simp [intOf]; omega
    · have hk16 : k = 16 := by omega
      have hd : ((k : Int) < 16) = False := by simp; omega
      have hla16 : Laid K cb co n t 16 w3 wr := by rw [← hk16]; exact hla
      have HLA := Lib.hid hla16
      clear hla hla16
      go_wp2
      go_end0
      exact ⟨rfl, Laid.from H13.out HLA.out⟩
end Go.Proofs.YtpnkgjnljbknnaaDoor
