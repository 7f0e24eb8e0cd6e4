/-
  Contracts of Number and Schedule of the reference, and of Subkeys of the thin package: the sixteen words of a key. Conditions: the tables of both lie in memory.
-/
import Derived.Test.YtpnkgjnljbknnaaDoorGen
namespace Go.Proofs.YtpnkgjnljbknnaaDoor
open Go.RowKit

/-- Eight bytes, as an array's values. -/
def keyV (b : Nat → BitVec 64) : Array Value := ((List.range 8).map fun j => Value.int .u8 (B (b j))).toArray
theorem keyV_at (b : Nat → BitVec 64) (j : Nat) (h : j < 8) : (keyV b)[j]? = some (.int .u8 (B (b j))) := by simp [keyV, h]

/-- The number that the first m bytes make, the first one the highest. -/
def numX (b : Nat → BitVec 64) : Nat → BitVec 64
  | 0 => 0#64
  | m + 1 => (numX b m <<< 8) ||| b m

theorem rev8 (a b c d e f g h : BitVec 64) : a ||| b ||| c ||| d ||| e ||| f ||| g ||| h = h ||| g ||| f ||| e ||| d ||| c ||| b ||| a := by ac_rfl

theorem num_be (b : Nat → BitVec 64) : numX b 8 = beX b := by
  simp only [numX, BitVec.shiftLeft_or_distrib, ← BitVec.shiftLeft_add, BitVec.zero_shiftLeft, BitVec.zero_or]
  rw [beX, rev8]

theorem run_idx8 (b : Nat → BitVec 64) (i : Nat) (w : World) (hi : i < 8) :
    (Instr.index 35 (.agg (keyV b)) (.int .i64 (i : Int))).run Tryd.prog w = .ok (.int .u8 (B (b i))) w := by
  have hin : (0 : Int) ≤ (i : Int) ∧ (i : Int) < 8 := by omega
  have e := keyV_at b i hi
  simp [Instr.index, run_underlying Tryd.underlying35, asIntOf, hin, go_sem]
  rw [if_pos hi, e]
  simp [go_sem]

set_option maxHeartbeats 800000 in
theorem number_any (b : Nat → BitVec 64) (w : World) :
    Calls Tryd.prog 22 #[.agg (keyV b)] w fun e w' => e = .returned (.int .u64 (B (numX b 8))) ∧ Below w.heap.size w w' := by
  have hB0 : B 0#64 = 0 := rfl
  have hsz : (Tryd.prog.info? 35).map (·.size) = some (keyV b).size := by kernel_rfl
  have hix := fun i w hi => run_idx8 b i w hi
  obtain ⟨cs, hcs⟩ : ∃ cs, cs = keyV b := ⟨_, rfl⟩
  rw [← hcs] at hsz hix ⊢
  clear hcs
  go_enter Tryd.func22, Tryd.ntmps22
  go_wp2_with (refine wpList_load_row rfl 35 _ rfl w.heap.size rfl _ _ _ _ (heap_alloc_new w _) Tryd.underlying35 rfl hsz ?_)
  have hb0 : ∀ o, Below w.heap.size w (w.alloc o) := fun o => (Below.refl _ _).alloc (Nat.le_refl _) o
  have HB := Lib.hid hb0
  clear hb0 hsz
  go_loop [3, 7] (fun v i => ∃ k : Nat, k ≤ 8 ∧ i = .int .i64 k ∧ v = .int .u64 (B (numX b k))) (fun _ i => 8 - (intOf i).toNat)
  case atStart => exact ⟨0, Nat.zero_le _, rfl, by simp [numX, hB0]⟩
  case round =>
    obtain ⟨k, hk, rfl, rfl⟩ := hrel
    obtain ⟨y, hy⟩ : ∃ y, y = numX b k := ⟨_, rfl⟩
    rw [← hy]
    have HY := Lib.hid hy
    clear hy
    by_cases hlt : k < 8
    · have hd : ((k : Int) < 8) = True := by simp; omega
      have hidx := fun w => hix k w hlt
      clear hix
      have a2 := r_or
      have a5 := r_wrap
      have l8 : ∀ x, IntKind.u64.wrap (B x * (256 : Int)) = B (x <<< 8) := fun x => r_shl x 8
      go_wp2
      go_round
      case rel => exact ⟨k + 1, by omega, by go_num, by rw [numX, ← HY.out]⟩
      case measure => simp [intOf]; omega
    · have hk8 : k = 8 := by omega
      have hd : ((k : Int) < 8) = False := by simp; omega
      clear hix
      have hy8 : y = numX b 8 := by rw [HY.out, hk8]
      clear hk8
      go_wp2
      go_ret
      exact ⟨rfl, HB.out _⟩

/-! ### the reference's schedule -/
def wordsV (K : BitVec 64) (k : Nat) : List Value := (List.range k).map fun j => .int .u64 (B (subW K j))
theorem wordsV_succ (K : BitVec 64) (k : Nat) : wordsV K (k + 1) = wordsV K k ++ [.int .u64 (B (subW K k))] := by
  simp [wordsV, List.range_succ]
theorem wordsV_at (K : BitVec 64) (k j : Nat) (h : j < k) : (wordsV K k)[j]? = some (.int .u64 (B (subW K j))) := by simp [wordsV, h]
theorem info25 : (Tryd.prog.info? 25).map (fun i => (i.zero, i.size, i.bytes)) = some (some (.int .u64 0), 1, 8) := by kernel_rfl

def SchedPost (K : BitVec 64) (base : Nat) (w : World) (e : Ending) (w' : World) : Prop :=
  ∃ g cap, e = .returned (.slice (some ⟨g, 0, none⟩) 16 cap) ∧ w'.ownsRow base 25 1 (.slice (some ⟨g, 0, none⟩) 16 cap) 16 (wordsV K 16) ∧ Below base w w'

theorem owns_below {w w' : World} {base : Nat} {e : TypeId} {size n : Nat} {v : Value} {xs : List Value} (h : w.ownsRow base e size v n xs) (hb : Below w.heap.size w w') : w'.ownsRow base e size v n xs := by
  obtain ⟨hl, h | ⟨g, cap, cur, h1, h2, h3, h4⟩⟩ := h
  · exact ⟨hl, .inl h⟩
  · have hg : g < w.heap.size := by
      by_cases hg : g < w.heap.size
      · exact hg
      · rw [Array.getElem?_eq_none (by omega)] at h3; cases h3
    exact ⟨hl, .inr ⟨g, cap, cur, h1, h2, (hb.block g hg).trans h3, h4⟩⟩

set_option maxHeartbeats 3200000 in
theorem schedule_any (K : BitVec 64) (w : World) (t2 : Tab w 2 .i64 c1T) (t3 : Tab w 3 .i64 c2T) :
    Calls Tryd.prog 21 #[.int .u64 (B K)] w fun e w' => SchedPost K w.heap.size w e w' := by
  obtain ⟨i0, hi, hz0, hz1, hz2⟩ := info_parts info25
  have HI := Lib.hid hi
  have T2 := Lib.hid t2
  have T3 := Lib.hid t3
  clear t2 t3 hi
  have a4 := r_andc
  have h28 : ∀ x, B x / (268435456 : Int) = B (x >>> 28) := fun x => r_shr x 28
  have eL : permB K c1L >>> 28 = halfL K := (halfL_eq K).symm
  have eR : permB K c1L &&& 268435455#64 = halfR K := (halfR_eq K).symm
  go_enter Tryd.func21, Tryd.ntmps21
  go_wp2_with (go_at_call 18; ((with_reducible refine (choice1_any _ _ T2.out).mono ?_); rintro e w' ⟨rfl, rfl⟩))
  obtain ⟨H, hH⟩ : ∃ H, H = w.heap.size := ⟨_, rfl⟩
  have hown0 : (w.alloc (.cells #[] 25)).ownsRow H 25 1 (.slice (some ⟨w.heap.size, 0, none⟩) 0 0) 0 (wordsV K 0) :=
    World.ownsRow_made w #[] 0 (by omega) (by decide) rfl
  have hb0 : Below H w (w.alloc (.cells #[] 25)) := by rw [hH]; exact (Below.refl _ _).alloc (Nat.le_refl _) _
  rw [← hH] at hown0 ⊢
  generalize w.alloc (Obj.cells #[] 25) = W0 at hown0 hb0 ⊢
  have HO := Lib.hid hown0
  have HB := Lib.hid hb0
  have HH := Lib.hid hH
  clear hown0 hb0 hH eL eR h28
  go_loopw [4, 5, 6, 7] (fun c d v i wr => ∃ k : Nat, k ≤ 16 ∧ i = .int .i64 ((k : Int) + 1) ∧ c = .int .u64 (B (rotK (halfL K) k)) ∧ d = .int .u64 (B (rotK (halfR K) k)) ∧ wr.ownsRow H 25 1 v k (wordsV K k) ∧ Below H w wr) (fun _ _ _ i _ => 17 - (intOf i).toNat)
  case atStart => exact ⟨0, Nat.zero_le _, rfl, rfl, rfl, HO.out, HB.out⟩
  case round =>
    obtain ⟨k, hk, rfl, rfl, rfl, hown, hbel⟩ := hrel
    by_cases hlt : k < 16
    · have hd : ((k : Int) + 1 ≤ 16) = True := by simp; omega
      obtain ⟨r, hr⟩ : ∃ r, r = ksL.getD k 0 := ⟨_, rfl⟩
      have hc11 : ∀ W, Calls Tryd.prog 11 #[.int .i64 ((k : Int) + 1)] W fun e w' => e = .returned (.int .i64 (r : Int)) ∧ W = w' := by
        intro W; rw [hr]; exact turnN_any k W hlt
      have h12 : r = 1 ∨ r = 2 := by rw [hr]; exact ksL_12 k hlt
      obtain ⟨zl, hzl⟩ : ∃ z, z = rotK (halfL K) k := ⟨_, rfl⟩
      obtain ⟨zr, hzr⟩ : ∃ z, z = rotK (halfR K) k := ⟨_, rfl⟩
      have sl : turn r zl = rotK (halfL K) (k + 1) := by rw [hr, hzl]; rfl
      have sr : turn r zr = rotK (halfR K) (k + 1) := by rw [hr, hzr]; rfl
      have sw : permB (turn r zl <<< 28 ||| turn r zr) c2L = subW K k := by rw [sl, sr]; rfl
      rw [← hzl, ← hzr]
      have HC11 := Lib.hid hc11
      have H12 := Lib.hid h12
      have SL := Lib.hid sl
      have SR := Lib.hid sr
      have SW := Lib.hid sw
      have HO1 := Lib.hid hown
      have HB1 := Lib.hid hbel
      have HT3 := Lib.hid (T3.out.below (show Below w.heap.size w wr by rw [← HH.out]; exact hbel))
      have a2 := r_or
      have l28 : ∀ x, IntKind.u64.wrap (B x * (268435456 : Int)) = B (x <<< 28) := fun x => r_shl x 28
      clear hr hc11 h12 hzl hzr sl sr sw hown hbel
      go_wp2_with fail
      refine (HC11.out wr).mono ?_
      rintro e w1 ⟨rfl, rfl⟩
      go_wp2_with fail
      refine (turned_any zl r wr H12.out).mono ?_
      rintro e w1 ⟨rfl, hb1⟩
      have B1 := Lib.hid hb1
      clear hb1
      go_wp2_with fail
      refine (HC11.out w1).mono ?_
      rintro e w2 ⟨rfl, rfl⟩
      go_wp2_with fail
      refine (turned_any zr r w1 H12.out).mono ?_
      rintro e w2 ⟨rfl, hb2⟩
      have B2 := Lib.hid (B1.out.trans (hb2.mono B1.out.size))
      clear hb2 B1
      go_wp2_with fail
      refine (choice2_any _ w2 (HT3.out.below B2.out)).mono ?_
      rintro e w3 ⟨rfl, rfl⟩
      have O2 := Lib.hid ((owns_below HO1.out B2.out).alloc (.cells #[.int .u64 (B (permB (turn r zl <<< 28 ||| turn r zr) c2L))] 25))
      have hsz0 : H ≤ wr.heap.size := by
        have := HB1.out.size
        rw [HH.out]; exact this
      have hsz2 := B2.out.size
      go_wp2_with (first
        | (at_builtin; refine wpList_append_own _ rfl _ _ 38 rfl H 25 i0 (.int .u64 0) 1 8 Tryd.underlying38 HI.out hz0 hz1 hz2 rfl (by decide) u6 k (wordsV K k) rfl O2.out ⟨w2.heap.size, 0, none⟩ 1 1 [.int .u64 (B (permB (turn r zl <<< 28 ||| turn r zr) c2L))] rfl rfl ?c1 ?c2 ?c3 ?c4 ?c5 ?_)
        | (fail))
      case c1 =>
        intro j u hu
        match j, hu with
        | 0, hu =>
          simp only [List.getElem?_cons_zero, Option.some.injEq] at hu
          subst hu
          exact (cell_of_row _ _ _ _ _ _ (heap_alloc_new w2 _)).trans rfl
      case c2 =>
        intro u hu
        simp only [List.mem_singleton] at hu
        subst hu
        rfl
      case c3 => unfold maxLen; omega
      case c4 => omega
      case c5 => simp; omega
      · intro v' w4 hown' hgrow _
        have hlt2 := O2.out.lt
        have hb4 : Below H w w4 := ((HB1.out.trans (B2.out.mono hsz0)).alloc (by omega) _).grown hgrow (by simp; omega) (fun j hj => (hlt2 j hj).1)
        have hown4 : w4.ownsRow H 25 1 v' (k + 1) (wordsV K (k + 1)) := by rw [wordsV_succ, ← SW.out]; exact hown'
        have B4 := Lib.hid hb4
        have O4 := Lib.hid hown4
        clear hb4 hown4 hown' hgrow hlt2
        go_wp2
        go_roundw
        case rel => exact ⟨k + 1, by omega, by go_num, by rw [← SL.out], by rw [← SR.out], O4.out, B4.out⟩
        case measure => simp [intOf]; omega
    · have hk16 : k = 16 := by omega
      have hd : ((k : Int) + 1 ≤ 16) = False := by simp; omega
      have hown16 : wr.ownsRow H 25 1 u6 16 (wordsV K 16) := by rw [hk16] at hown; exact hown
      obtain ⟨g, cap, rfl⟩ := owned_shape hown16 (by decide)
      have O4 := Lib.hid hown16
      have B4 := Lib.hid hbel
      clear hown hown16 hbel hk16
      go_wp2
      go_ret
      refine ⟨g, cap, rfl, ?_, ?_⟩
      · rw [← HH.out]; exact O4.out
      · rw [← HH.out]; exact B4.out

/-! ### the sixteen words as an array -/
def uV (K : BitVec 64) : Array Value := ((List.range 16).map fun i => Value.int .u64 (B (unpackX (subW K i)))).toArray
theorem uV_at (K : BitVec 64) (i : Nat) (h : i < 16) : (uV K)[i]? = some (.int .u64 (B (unpackX (subW K i)))) := by simp [uV, h]
theorem uV_of {K : BitVec 64} {cs : Array Value} (hs : cs.size = 16) (h : ∀ i, i < 16 → cs[0 + i]? = some (.int .u64 (B (unpackX (subW K i))))) : cs = uV K := by
  apply Array.ext_getElem?
  intro i
  by_cases hi : i < 16
  · rw [uV_at K i hi, ← h i hi, Nat.zero_add]
  · rw [Array.getElem?_eq_none (by omega), Array.getElem?_eq_none (by simp [uV]; omega)]
theorem uV_one (K : BitVec 64) : (uV K).all (·.oneCell') = true := by
  rw [Array.all_eq_true_iff_forall_mem]
  intro x hx
  simp only [uV, List.mem_toArray, List.mem_map] at hx
  obtain ⟨i, _, rfl⟩ := hx
  rfl
theorem laid_below {K : BitVec 64} {cb co n : Nat} {t : TypeId} {k : Nat} {w w' : World} {H : Nat} (h : Laid K cb co n t k w w') (hH : H ≤ w.heap.size) (hc : H ≤ cb) : Below H w w' :=
  ⟨h.1.os, h.1.tape, h.1.output, h.1.size, fun j hj => h.1.block j (by omega) (fun e => by have := Option.some.inj e; omega)⟩
theorem below_row {B : Nat} {w : World} (g : Nat) (cs : Array Value) (h : B ≤ g) : Below B w (w.setRow g cs) :=
  ⟨rfl, rfl, rfl, by simp, fun k hk => setRow_other w g k cs (by omega)⟩

abbrev zeros16 : Array Value := #[Value.int IntKind.u64 0, Value.int IntKind.u64 0, Value.int IntKind.u64 0, Value.int IntKind.u64 0, Value.int IntKind.u64 0, Value.int IntKind.u64 0, Value.int IntKind.u64 0, Value.int IntKind.u64 0, Value.int IntKind.u64 0, Value.int IntKind.u64 0, Value.int IntKind.u64 0, Value.int IntKind.u64 0, Value.int IntKind.u64 0, Value.int IntKind.u64 0, Value.int IntKind.u64 0, Value.int IntKind.u64 0]
theorem alloc3 (w : World) (o1 o2 o3 : Obj) : (((w.alloc o1).alloc o2).alloc o3).heap[w.heap.size]? = some o1 ∧ (((w.alloc o1).alloc o2).alloc o3).heap[w.heap.size + 1]? = some o2 ∧
    (((w.alloc o1).alloc o2).alloc o3).heap[w.heap.size + 1 + 1]? = some o3 ∧ (((w.alloc o1).alloc o2).alloc o3).heap.size = w.heap.size + 1 + 1 + 1 ∧ Below w.heap.size w (((w.alloc o1).alloc o2).alloc o3) := by
  have s1 : (w.alloc o1).heap.size = w.heap.size + 1 := by simp
  have s2 : ((w.alloc o1).alloc o2).heap.size = w.heap.size + 1 + 1 := by simp
  refine ⟨?_, ?_, ?_, by simp, (((Below.refl _ _).alloc (Nat.le_refl _) _).alloc (by simp) _).alloc (by simp; omega) _⟩
  · rw [Below.heap_alloc _ _ _ (by omega), Below.heap_alloc _ _ _ (by omega), Go.heap_alloc_new]
  · rw [Below.heap_alloc _ _ _ (by omega), ← s1, Go.heap_alloc_new]
  · rw [← s2, Go.heap_alloc_new]

set_option maxHeartbeats 1600000 in
theorem zzsub_any (b : Nat → BitVec 64) (w : World) (t8 : Tab w 8 .u8 c1L) (t9 : Tab w 9 .u8 c2L) (t10 : Tab w 10 .u8 ksL) :
    Calls Tryd.prog 31 #[.agg (keyV b)] w fun e w' => e = .returned (.agg (uV (beX b))) ∧ Below w.heap.size w w' := by
  have h10 := t10.lt
  have T8 := Lib.hid t8
  have T9 := Lib.hid t9
  have T10 := Lib.hid t10
  clear t8 t9 t10
  obtain ⟨cs, hcs⟩ : ∃ cs, cs = keyV b := ⟨_, rfl⟩
  rw [← hcs]
  have HC := Lib.hid hcs
  clear hcs
  have hsz : (Tryd.prog.info? 36).map (·.size) = some (uV (beX b)).size := by kernel_rfl
  have hone := uV_one (beX b)
  have hz : zeros16.size = (uV (beX b)).size := by simp [uV]
  obtain ⟨U, hUU⟩ : ∃ U, U = uV (beX b) := ⟨_, rfl⟩
  rw [← hUU] at hsz hone hz ⊢
  have HU := Lib.hid hUU
  have HSZ := Lib.hid hsz
  have HZ := Lib.hid hz
  have HONE := Lib.hid hone
  clear hsz hone hz hUU
  go_enter Tryd.func31, Tryd.ntmps31
  go_wp2_with fail
  obtain ⟨V, hV⟩ : ∃ V, V = ((w.alloc (.cells cs 35)).alloc (.cells zeros16 36)).alloc (.cells zeros16 65) := ⟨_, rfl⟩
  have h3 := alloc3 w (.cells cs 35) (.cells zeros16 36) (.cells zeros16 65)
  rw [← hV] at h3 ⊢
  clear hV
  obtain ⟨v1, v2, v3, vs, vb⟩ := h3
  obtain ⟨H, hH⟩ : ∃ H, H = w.heap.size := ⟨_, rfl⟩
  have hk : ∀ j, j < 8 → V.cell? ⟨w.heap.size, 0 + j, none⟩ = some (.int .u8 (B (b j))) := fun j hj => by
    rw [Nat.zero_add, cell_of_row _ _ _ _ _ _ v1, HC.out, keyV_at b j hj]
  refine (gen_any b w.heap.size 0 8 (w.heap.size + 1 + 1) 0 16 zeros16 65 V hk v3 rfl (by decide) (by omega) (T8.out.below vb) (T9.out.below vb) (T10.out.below vb)).mono ?_
  rintro e W2 ⟨rfl, hla⟩
  have hR := (hla.other (w.heap.size + 1) (by omega) (by omega)).trans v2
  have hb2 : Below w.heap.size w W2 := vb.trans (laid_below hla (by omega) (by omega))
  obtain ⟨hgr, cs', hC, hs', hall⟩ := hla
  have hU : cs' = U := (uV_of hs' hall).trans HU.out.symm
  rw [hU] at hC
  have hRow := setRow_heap W2 (w.heap.size + 1) zeros16 U 36 (0, 0) hR
  have HROW := Lib.hid hRow
  have HB := Lib.hid (hb2.trans (below_row (w.heap.size + 1) U (show w.heap.size ≤ w.heap.size + 1 by omega)))
  have HRr := Lib.hid hR
  have HCc := Lib.hid hC
  clear v1 v2 v3 vs vb hk hR hb2 hgr hs' hall hU hC hRow hH
  go_wp2_with (first
    | (refine wpList_load_row rfl 36 _ rfl (w.heap.size + 1 + 1) rfl 65 U _ _ HCc.out Tryd.underlying36 rfl HSZ.out ?_)
    | (refine wpList_store_row rfl 36 _ _ rfl (w.heap.size + 1) U rfl rfl 36 zeros16 HRr.out HSZ.out HZ.out HONE.out ?_))
  exact bodyPost_ret (v := .agg U) (results_cell_row Tryd.results31 _ _ (w.heap.size + 1) 36 U (0, 0) _ rfl HROW.out Tryd.underlying36 rfl HSZ.out) rfl ⟨rfl, HB.out⟩

theorem alloc2 (w : World) (o1 o2 : Obj) : ((w.alloc o1).alloc o2).heap[w.heap.size]? = some o1 ∧ ((w.alloc o1).alloc o2).heap[w.heap.size + 1]? = some o2 ∧
    ((w.alloc o1).alloc o2).heap.size = w.heap.size + 1 + 1 ∧ Below w.heap.size w ((w.alloc o1).alloc o2) := by
  have s1 : (w.alloc o1).heap.size = w.heap.size + 1 := by simp
  refine ⟨?_, ?_, by simp, ((Below.refl _ _).alloc (Nat.le_refl _) _).alloc (by simp) _⟩
  · rw [Below.heap_alloc _ _ _ (by omega), Go.heap_alloc_new]
  · rw [← s1, Go.heap_alloc_new]

set_option maxHeartbeats 1600000 in
theorem sub_any (b : Nat → BitVec 64) (w : World) (t8 : Tab w 8 .u8 c1L) (t9 : Tab w 9 .u8 c2L) (t10 : Tab w 10 .u8 ksL) :
    Calls Tryd.prog 20 #[.agg (keyV b)] w fun e w' => e = .returned (.agg (uV (beX b))) ∧ Below w.heap.size w w' := by
  have T8 := Lib.hid t8
  have T9 := Lib.hid t9
  have T10 := Lib.hid t10
  clear t8 t9 t10
  have h31 := Lib.hid (fun (W : World) (hb : Below w.heap.size w W) => zzsub_any b W (T8.out.below hb) (T9.out.below hb) (T10.out.below hb))
  have hsk : (Tryd.prog.info? 35).map (·.size) = some (keyV b).size := by kernel_rfl
  have hsz : (Tryd.prog.info? 36).map (·.size) = some (uV (beX b)).size := by kernel_rfl
  have hone := uV_one (beX b)
  have hz : zeros16.size = (uV (beX b)).size := by simp [uV]
  obtain ⟨cs, hcs⟩ : ∃ cs, cs = keyV b := ⟨_, rfl⟩
  obtain ⟨U, hUU⟩ : ∃ U, U = uV (beX b) := ⟨_, rfl⟩
  rw [← hUU] at hsz hone hz h31 ⊢
  rw [← hcs] at h31 hsk ⊢
  have HSK := Lib.hid hsk
  have HSZ := Lib.hid hsz
  have HZ := Lib.hid hz
  have HONE := Lib.hid hone
  clear hsk hsz hone hz hUU hcs
  obtain ⟨v1, v2, vs, vb⟩ := alloc2 w (.cells cs 35) (.cells zeros16 36)
  have V1 := Lib.hid v1
  have V2 := Lib.hid v2
  have VB := Lib.hid vb
  clear v1 v2 vs vb
  go_enter Tryd.func20, Tryd.ntmps20
  go_wp2_with (refine wpList_load_row rfl 35 _ rfl w.heap.size rfl 35 cs _ _ V1.out Tryd.underlying35 rfl HSK.out ?_)
  refine (h31.out _ VB.out).mono ?_
  rintro e W2 ⟨rfl, hb⟩
  have hR : W2.heap[w.heap.size + 1]? = some (.cells zeros16 36 (0, 0)) := (hb.block (w.heap.size + 1) (by simp)).trans V2.out
  have hb2 : Below w.heap.size w W2 := VB.out.trans (hb.mono (by simp; omega))
  have HROW := Lib.hid (setRow_heap W2 (w.heap.size + 1) zeros16 U 36 (0, 0) hR)
  have HB := Lib.hid (hb2.trans (below_row (w.heap.size + 1) U (show w.heap.size ≤ w.heap.size + 1 by omega)))
  have HRr := Lib.hid hR
  clear hR hb2 hb V1 V2 VB
  go_wp2_with (refine wpList_store_row rfl 36 _ _ rfl (w.heap.size + 1) U rfl rfl 36 zeros16 HRr.out HSZ.out HZ.out HONE.out ?_)
  exact bodyPost_ret (v := .agg U) (results_cell_row Tryd.results20 _ _ (w.heap.size + 1) 36 U (0, 0) _ rfl HROW.out Tryd.underlying36 rfl HSZ.out) rfl ⟨rfl, HB.out⟩

theorem impl_unpack (x : BitVec 64) (w : World) :
    Calls Tryd.prog 23 #[.int .u64 (B x)] w fun e w' => e = .returned (.int .u64 (B (unpackX x))) ∧ w' = w := by
  go_enter Tryd.func23, Tryd.ntmps23
  go_wp2_with (first
    | (go_at_call 40; ((with_reducible refine (unpack_any _ _).mono ?_); rintro e w' ⟨rfl, rfl⟩))
    | go_in)
  go_ret
  exact ⟨rfl, rfl⟩
theorem impl_unpack_one (w : World) :
    Calls Tryd.prog 23 #[.int .u64 1] w fun e w' => e = .returned (.int .u64 (B (unpackX 1#64))) ∧ w' = w := impl_unpack 1#64 w
theorem unpack_one_ne : (B (unpackX 1#64) != 0) = true := by decide +kernel
end Go.Proofs.YtpnkgjnljbknnaaDoor
