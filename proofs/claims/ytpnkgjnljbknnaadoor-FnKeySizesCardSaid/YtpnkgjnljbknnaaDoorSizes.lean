/-
  Contracts of NewCipher, NewTripleDESCipher, IsKey and IsTripleKey: which lengths of a key are taken. Conditions: the key lies in memory; the package's tables lie in memory.
-/
import Derived.Test.YtpnkgjnljbknnaaDoorGen
import Derived.Laws.AppendOwnNone
namespace Go.Proofs.YtpnkgjnljbknnaaDoor
open Go.RowKit

def Tabs (w : World) : Prop := Tab w 8 .u8 c1L ∧ Tab w 9 .u8 c2L ∧ Tab w 10 .u8 ksL
theorem Tabs.below {w w' : World} (h : Tabs w) (hb : Below w.heap.size w w') : Tabs w' := ⟨h.1.below hb, h.2.1.below hb, h.2.2.below hb⟩

theorem new_no (ao : Option Addr) (n cap : Nat) (w : World) (h : n ≠ 8) :
    Calls Tryd.prog 33 #[.slice ao n cap] w fun e w' => e = .returned (.tuple #[.pointer none, .iface 67 (.int .i64 (n : Int))]) ∧ w = w' := by
  have h1 : ((n : Int) != 8) = true := by simp only [bne_iff_ne]; omega
  clear h
  go_enter Tryd.func33, Tryd.ntmps33
  go_wp2
  go_ret2
  exact ⟨rfl, rfl⟩

def NewYes (w : World) (e : Ending) (w' : World) : Prop := ∃ a, e = .returned (.tuple #[.pointer (some a), .nilIface]) ∧ Below w.heap.size w w'

theorem Laid.below {K : BitVec 64} {cb co n : Nat} {t : TypeId} {k : Nat} {w w' : World} {H : Nat} (h : Laid K cb co n t k w w') (hH : H ≤ w.heap.size) (hc : H ≤ cb) : Below H w w' :=
  ⟨h.1.os, h.1.tape, h.1.output, h.1.size, fun j hj => h.1.block j (by omega) (fun e => by have := Option.some.inj e; omega)⟩

theorem new_yes (b : Nat → BitVec 64) (kb ko cap : Nat) (w : World) (hc : ∀ j, j < 8 → w.cell? ⟨kb, ko + j, none⟩ = some (.int .u8 (B (b j)))) (ht : Tabs w) :
    Calls Tryd.prog 33 #[.slice (some ⟨kb, ko, none⟩) 8 cap] w fun e w' => NewYes w e w' := by
  have HC := Lib.hid hc
  have HT := Lib.hid ht
  have h10 : 10 < w.heap.size := ht.2.2.lt
  clear hc ht
  go_enter Tryd.func33, Tryd.ntmps33
  go_wp2_with fail
  have hbel : ∀ o, Below w.heap.size w (w.alloc o) := fun o => (Below.refl _ _).alloc (Nat.le_refl _) o
  refine (gen_any b kb ko cap w.heap.size 0 16 _ _ _ (fun j hj => ?_) (heap_alloc_new w _) rfl (by decide) h10 (HT.out.below (hbel _)).1 (HT.out.below (hbel _)).2.1 (HT.out.below (hbel _)).2.2).mono ?_
  · have hk := HC.out j hj
    rw [(hbel _).cell (p := ⟨kb, ko + j, none⟩) (block_lt_of_cell hk)]
    exact hk
  · rintro e w2 ⟨rfl, hla⟩
    have HB := Lib.hid ((hbel _).trans (hla.below (H := w.heap.size) (by simp) (Nat.le_refl _)))
    clear hla hbel
    go_wp2
    go_ret2
    exact ⟨_, rfl, HB.out⟩

theorem new3_no (ao : Option Addr) (n cap : Nat) (w : World) (h : n ≠ 24) :
    Calls Tryd.prog 34 #[.slice ao n cap] w fun e w' => e = .returned (.tuple #[.pointer none, .iface 67 (.int .i64 (n : Int))]) ∧ w = w' := by
  have h1 : ((n : Int) != 24) = true := by simp only [bne_iff_ne]; omega
  clear h
  go_enter Tryd.func34, Tryd.ntmps34
  go_wp2
  go_ret2
  exact ⟨rfl, rfl⟩

/-- Three ciphers' words lie in the block C, which the call has made; below it the world is as it was. -/
def Tri (w : World) (C : Nat) (W : World) : Prop := Below C w W ∧ ∃ cs, W.heap[C]? = some (.cells cs 69 (0, 0)) ∧ cs.size = 48
theorem Tri.drew {w W : World} {C : Nat} (h : Tri w C W) : Tri w C W.drew := ⟨h.1.drew, h.2⟩

theorem gen_tri (b : Nat → BitVec 64) (kb ko kcap C co : Nat) (w W : World) (hC : C = w.heap.size) (hc : ∀ j, j < 24 → w.cell? ⟨kb, j, none⟩ = some (.int .u8 (B (b j)))) (ht : Tabs w)
    (hT : Tri w C W) (hco : co + 16 ≤ 48) (hko : ko + 8 ≤ 24) :
    Calls Tryd.prog 39 #[.pointer (some ⟨C, co, none⟩), .slice (some ⟨kb, ko, none⟩) 8 kcap] W fun e W' => e = .returned (.tuple #[]) ∧ Tri w C W' := by
  obtain ⟨hb, cs, hcs, hsz⟩ := hT
  have h10 : 10 < C := by have := ht.2.2.lt; omega
  have hb' : Below w.heap.size w W := by rw [← hC]; exact hb
  have hlt : C < W.heap.size := by
    by_cases h : C < W.heap.size
    · exact h
    · rw [Array.getElem?_eq_none (by omega)] at hcs; cases hcs
  refine (gen_any (fun j => b (ko + j)) kb ko kcap C co 48 cs 69 W (fun j hj => ?_) hcs hsz hco h10 (ht.below hb').1 (ht.below hb').2.1 (ht.below hb').2.2).mono ?_
  · have hk := hc (ko + j) (by omega)
    rw [hb'.cell (p := ⟨kb, ko + j, none⟩) (block_lt_of_cell hk)]
    exact hk
  · rintro e W' ⟨he, hla⟩
    refine ⟨he, hb.trans (hla.below (H := C) (by omega) (Nat.le_refl _)), ?_⟩
    obtain ⟨_, cs', h1, h2, _⟩ := hla
    exact ⟨cs', h1, h2⟩

set_option maxHeartbeats 1600000 in
theorem new3_yes (b : Nat → BitVec 64) (kb cap : Nat) (w : World) (hcap : 24 ≤ cap) (hc : ∀ j, j < 24 → w.cell? ⟨kb, j, none⟩ = some (.int .u8 (B (b j)))) (ht : Tabs w) :
    Calls Tryd.prog 34 #[.slice (some ⟨kb, 0, none⟩) 24 cap] w fun e w' => NewYes w e w' := by
  have HC := Lib.hid hc
  have HT := Lib.hid ht
  have h10 : 10 < w.heap.size := ht.2.2.lt
  have hkb : kb < w.heap.size := block_lt_of_cell (hc 0 (by decide))
  have p8 : ((8 : Int) ≤ (cap : Int)) = True := by simp; omega
  have p16 : ((16 : Int) ≤ (cap : Int)) = True := by simp; omega
  have p24 : ((24 : Int) ≤ (cap : Int)) = True := by simp; omega
  have n8 : (cap = 8) = False := by simp; omega
  have n16 : (cap = 16) = False := by simp; omega
  clear hc ht
  go_enter Tryd.func34, Tryd.ntmps34
  go_wp2
  obtain ⟨C, hC⟩ : ∃ C, C = w.heap.size := ⟨_, rfl⟩
  have tri0 : ∀ cs : Array Value, cs.size = 48 → Tri w C (w.alloc (.cells cs 69)) := fun cs hs => by
    rw [hC]; exact ⟨(Below.refl _ _).alloc (Nat.le_refl _) _, cs, heap_alloc_new w _, hs⟩
  have tri1 := tri0 #[Value.int IntKind.u64 0, Value.int IntKind.u64 0, Value.int IntKind.u64 0, Value.int IntKind.u64 0, Value.int IntKind.u64 0, Value.int IntKind.u64 0, Value.int IntKind.u64 0, Value.int IntKind.u64 0, Value.int IntKind.u64 0, Value.int IntKind.u64 0, Value.int IntKind.u64 0, Value.int IntKind.u64 0, Value.int IntKind.u64 0, Value.int IntKind.u64 0, Value.int IntKind.u64 0, Value.int IntKind.u64 0, Value.int IntKind.u64 0, Value.int IntKind.u64 0, Value.int IntKind.u64 0, Value.int IntKind.u64 0, Value.int IntKind.u64 0, Value.int IntKind.u64 0, Value.int IntKind.u64 0, Value.int IntKind.u64 0, Value.int IntKind.u64 0, Value.int IntKind.u64 0, Value.int IntKind.u64 0, Value.int IntKind.u64 0, Value.int IntKind.u64 0, Value.int IntKind.u64 0, Value.int IntKind.u64 0, Value.int IntKind.u64 0, Value.int IntKind.u64 0, Value.int IntKind.u64 0, Value.int IntKind.u64 0, Value.int IntKind.u64 0, Value.int IntKind.u64 0, Value.int IntKind.u64 0, Value.int IntKind.u64 0, Value.int IntKind.u64 0, Value.int IntKind.u64 0, Value.int IntKind.u64 0, Value.int IntKind.u64 0, Value.int IntKind.u64 0, Value.int IntKind.u64 0, Value.int IntKind.u64 0, Value.int IntKind.u64 0, Value.int IntKind.u64 0] rfl
  rw [← hC]
  generalize w.alloc (Obj.cells _ 69) = W0 at tri1 ⊢
  have T0 := Lib.hid tri1
  have HCC := Lib.hid hC
  clear tri0 tri1 hC
  refine wp_region_still_tail 5 (by kernel_rfl) (by kernel_rfl) ?_
  simp only [List.take_succ_cons, List.take_zero, List.drop_succ_cons, List.drop_zero]
  change wpStill _ _ W0.drew (fun a' => wpList _ _ _ _ a' W0.drew) _ _
  obtain ⟨V0, hV0⟩ : ∃ V, V = W0.drew := ⟨_, rfl⟩
  have S0 := Lib.hid (show Tri w C V0 by rw [hV0]; exact T0.out.drew)
  rw [← hV0]
  clear hV0 T0
  still_step
  still_step
  still_step
  still_step
  still_step
  refine wpStill_nil ?_
  go_wp2_with fail
  refine (gen_tri b kb 0 _ C 0 w _ HCC.out HC.out HT.out S0.out (by decide) (by decide)).mono ?_
  rintro e W1 ⟨rfl, t1⟩
  have T1 := Lib.hid t1
  clear t1 S0
  go_wp2
  refine wp_region_still_tail 5 (by kernel_rfl) (by kernel_rfl) ?_
  simp only [List.take_succ_cons, List.take_zero, List.drop_succ_cons, List.drop_zero]
  change wpStill _ _ W1.drew (fun a' => wpList _ _ _ _ a' W1.drew) _ _
  obtain ⟨V1, hV1⟩ : ∃ V, V = W1.drew := ⟨_, rfl⟩
  have S1 := Lib.hid (show Tri w C V1 by rw [hV1]; exact T1.out.drew)
  rw [← hV1]
  clear hV1 T1
  still_step
  still_step
  still_step
  still_step
  still_step
  refine wpStill_nil ?_
  go_wp2_with fail
  refine (gen_tri b kb 8 _ C 16 w _ HCC.out HC.out HT.out S1.out (by decide) (by decide)).mono ?_
  rintro e W2 ⟨rfl, t2⟩
  have T2 := Lib.hid t2
  clear t2 S1
  go_wp2
  refine wp_region_still_tail 5 (by kernel_rfl) (by kernel_rfl) ?_
  simp only [List.take_succ_cons, List.take_zero, List.drop_succ_cons, List.drop_zero]
  change wpStill _ _ W2.drew (fun a' => wpList _ _ _ _ a' W2.drew) _ _
  obtain ⟨V2, hV2⟩ : ∃ V, V = W2.drew := ⟨_, rfl⟩
  have S2 := Lib.hid (show Tri w C V2 by rw [hV2]; exact T2.out.drew)
  rw [← hV2]
  clear hV2 T2
  still_step
  still_step
  still_step
  still_step
  still_step
  refine wpStill_nil ?_
  go_wp2_with fail
  refine (gen_tri b kb 16 _ C 32 w _ HCC.out HC.out HT.out S2.out (by decide) (by decide)).mono ?_
  rintro e W3 ⟨rfl, t3⟩
  have T3 := Lib.hid t3
  clear t3 S2
  go_wp2
  go_ret2
  have hb := T3.out.1
  rw [HCC.out] at hb
  exact ⟨_, rfl, hb⟩

/-! ### IsKey, IsTripleKey: the key copied, then tried -/
def bytesB (b : Nat → BitVec 64) (L : Nat) : List Value := (List.range L).map fun j => .int .u8 (B (b j))
theorem bytesB_len (b : Nat → BitVec 64) (L : Nat) : (bytesB b L).length = L := by simp [bytesB]
theorem bytesB_at (b : Nat → BitVec 64) (L j : Nat) (h : j < L) : (bytesB b L)[j]? = some (.int .u8 (B (b j))) := by simp [bytesB, h]
theorem bytesB_one (b : Nat → BitVec 64) (L : Nat) : ∀ u ∈ bytesB b L, u.oneCell' = true := by
  intro u hu
  simp only [bytesB, List.mem_map] at hu
  obtain ⟨j, _, rfl⟩ := hu
  rfl
theorem bytesB_news (b : Nat → BitVec 64) (L : Nat) (ad : Addr) (w : World) (hc : ∀ j, j < L → w.cell? (ad.add j) = some (.int .u8 (B (b j)))) :
    ∀ j u, (bytesB b L)[j]? = some u → w.cell? (ad.add j) = some u := by
  intro j u hu
  have hj : j < L := by
    have := (List.getElem?_eq_some_iff.1 hu).1
    rwa [bytesB_len] at this
  rw [hc j hj, ← bytesB_at b L j hj, hu]
theorem info5 : (Tryd.prog.info? 5).map (fun i => (i.zero, i.size, i.bytes)) = some (some (.int .u8 0), 1, 1) := by kernel_rfl
theorem shape_any {w : World} {base : Nat} {e : TypeId} {size n : Nat} {v : Value} {xs : List Value} (h : w.ownsRow base e size v n xs) : ∃ ao cap, v = .slice ao n cap := by
  rcases h.2 with ⟨h, h0⟩ | ⟨g, cap, cur, h, _⟩
  · exact ⟨none, 0, by rw [h, h0]⟩
  · exact ⟨some ⟨g, 0, none⟩, cap, h⟩
theorem owned_full {w : World} {base : Nat} {e : TypeId} {size n : Nat} {v : Value} {xs : List Value} (h : w.ownsRow base e size v n xs) (hv : 0 < n) :
    ∃ g cap, v = .slice (some ⟨g, 0, none⟩) n cap ∧ n ≤ cap := by
  rcases h.2 with ⟨_, h0⟩ | ⟨g, cap, cur, h, _, _, hle, _⟩
  · omega
  · exact ⟨g, cap, h, hle⟩

set_option maxHeartbeats 800000 in
theorem key_no (b : Nat → BitVec 64) (ad : Addr) (L cap : Nat) (w : World) (hL : L ≤ 2147483647) (h : L ≠ 8) (hc : ∀ j, j < L → w.cell? (ad.add j) = some (.int .u8 (B (b j)))) :
    Calls Tryd.prog 24 #[.slice (some ad) L cap] w fun e w' => e = .returned (.bool false) ∧ Below w.heap.size w w' := by
  obtain ⟨i0, hi, hz0, hz1, hz2⟩ := info_parts info5
  have HN := Lib.hid (bytesB_news b L ad w hc)
  have HD := Lib.hid h
  clear hc h
  go_enter Tryd.func24, Tryd.ntmps24
  go_wp2_with (first
    | (at_builtin; refine wpList_append_own _ rfl _ _ 42 rfl w.heap.size 5 i0 (.int .u8 0) 1 1 Tryd.underlying42 hi hz0 hz1 hz2 rfl (by decide) _ _ _ rfl (World.ownsRow_nil _ _ _ _) ad L cap (bytesB b L) rfl (by rw [bytesB_len, Nat.mul_one]) HN.out (bytesB_one b L) (by unfold maxLen; omega) (by omega) (Nat.le_refl _) ?_)
    | (fail))
  intro v' w1 hown' hgrow _
  have hb : Below w.heap.size w w1 := (Below.refl _ _).grown hgrow (Nat.le_refl _) (fun k h => by cases h)
  have hown2 : w1.ownsRow w.heap.size 5 1 v' L (bytesB b L) := by simpa using hown'
  obtain ⟨ao2, cap2, rfl⟩ := shape_any hown2
  have HB := Lib.hid hb
  clear hown' hown2 hgrow hb hi hz0 hz1 hz2
  go_wp2_with fail
  refine (new_no ao2 L cap2 w1 HD.out).mono ?_
  rintro e w2 ⟨rfl, rfl⟩
  go_wp2
  go_ret
  exact ⟨rfl, HB.out⟩

theorem key_nil (w : World) :
    Calls Tryd.prog 24 #[.slice none 0 0] w fun e w' => e = .returned (.bool false) ∧ Below w.heap.size w w' := by
  obtain ⟨i0, hi, hz0, hz1, hz2⟩ := info_parts info5
  go_enter Tryd.func24, Tryd.ntmps24
  go_wp2_with (first
    | (at_builtin; refine wpList_append_own_none rfl _ _ 42 rfl w.heap.size 5 i0 1 Tryd.underlying42 hi _ _ _ rfl (World.ownsRow_nil _ _ _ _) rfl ?_)
    | (fail))
  refine (new_no none 0 0 w (by decide)).mono ?_
  rintro e w2 ⟨rfl, rfl⟩
  go_wp2
  go_ret
  exact ⟨rfl, Below.refl _ _⟩

set_option maxHeartbeats 800000 in
theorem key_yes (b : Nat → BitVec 64) (ad : Addr) (cap : Nat) (w : World) (ht : Tabs w) (hc : ∀ j, j < 8 → w.cell? (ad.add j) = some (.int .u8 (B (b j)))) :
    Calls Tryd.prog 24 #[.slice (some ad) 8 cap] w fun e w' => e = .returned (.bool true) ∧ Below w.heap.size w w' := by
  obtain ⟨i0, hi, hz0, hz1, hz2⟩ := info_parts info5
  have HN := Lib.hid (bytesB_news b 8 ad w hc)
  have HT := Lib.hid ht
  clear hc ht
  go_enter Tryd.func24, Tryd.ntmps24
  go_wp2_with (first
    | (at_builtin; refine wpList_append_own _ rfl _ _ 42 rfl w.heap.size 5 i0 (.int .u8 0) 1 1 Tryd.underlying42 hi hz0 hz1 hz2 rfl (by decide) _ _ _ rfl (World.ownsRow_nil _ _ _ _) ad 8 cap (bytesB b 8) rfl (by rw [bytesB_len]) HN.out (bytesB_one b 8) (by decide) (by decide) (Nat.le_refl _) ?_)
    | (fail))
  intro v' w1 hown' hgrow _
  have hb : Below w.heap.size w w1 := (Below.refl _ _).grown hgrow (Nat.le_refl _) (fun k h => by cases h)
  have hown2 : w1.ownsRow w.heap.size 5 1 v' 8 (bytesB b 8) := by simpa using hown'
  obtain ⟨g, cap2, rfl, hcap2⟩ := owned_full hown2 (by decide)
  have hcc : ∀ j, j < 8 → w1.cell? ⟨g, 0 + j, none⟩ = some (.int .u8 (B (b j))) := fun j hj => by
    rw [Nat.zero_add, hown2.cellAt j (by omega), bytesB_at b 8 j hj]
  have CC := Lib.hid hcc
  have TT := Lib.hid (HT.out.below hb)
  have HB := Lib.hid hb
  clear hown' hown2 hgrow hb hcc hi hz0 hz1 hz2
  go_wp2_with fail
  refine (new_yes b g 0 cap2 w1 CC.out TT.out).mono ?_
  rintro e w2 ⟨a, rfl, hb2⟩
  have HB2 := Lib.hid hb2
  clear hb2
  go_wp2
  go_ret
  exact ⟨rfl, HB.out.trans (HB2.out.mono HB.out.size)⟩

set_option maxHeartbeats 800000 in
theorem key3_no (b : Nat → BitVec 64) (ad : Addr) (L cap : Nat) (w : World) (hL : L ≤ 2147483647) (h : L ≠ 24) (hc : ∀ j, j < L → w.cell? (ad.add j) = some (.int .u8 (B (b j)))) :
    Calls Tryd.prog 25 #[.slice (some ad) L cap] w fun e w' => e = .returned (.bool false) ∧ Below w.heap.size w w' := by
  obtain ⟨i0, hi, hz0, hz1, hz2⟩ := info_parts info5
  have HN := Lib.hid (bytesB_news b L ad w hc)
  have HD := Lib.hid h
  clear hc h
  go_enter Tryd.func25, Tryd.ntmps25
  go_wp2_with (first
    | (at_builtin; refine wpList_append_own _ rfl _ _ 42 rfl w.heap.size 5 i0 (.int .u8 0) 1 1 Tryd.underlying42 hi hz0 hz1 hz2 rfl (by decide) _ _ _ rfl (World.ownsRow_nil _ _ _ _) ad L cap (bytesB b L) rfl (by rw [bytesB_len, Nat.mul_one]) HN.out (bytesB_one b L) (by unfold maxLen; omega) (by omega) (Nat.le_refl _) ?_)
    | (fail))
  intro v' w1 hown' hgrow _
  have hb : Below w.heap.size w w1 := (Below.refl _ _).grown hgrow (Nat.le_refl _) (fun k h => by cases h)
  have hown2 : w1.ownsRow w.heap.size 5 1 v' L (bytesB b L) := by simpa using hown'
  obtain ⟨ao2, cap2, rfl⟩ := shape_any hown2
  have HB := Lib.hid hb
  clear hown' hown2 hgrow hb hi hz0 hz1 hz2
  go_wp2_with fail
  refine (new3_no ao2 L cap2 w1 HD.out).mono ?_
  rintro e w2 ⟨rfl, rfl⟩
  go_wp2
  go_ret
  exact ⟨rfl, HB.out⟩

theorem key3_nil (w : World) :
    Calls Tryd.prog 25 #[.slice none 0 0] w fun e w' => e = .returned (.bool false) ∧ Below w.heap.size w w' := by
  obtain ⟨i0, hi, hz0, hz1, hz2⟩ := info_parts info5
  go_enter Tryd.func25, Tryd.ntmps25
  go_wp2_with (first
    | (at_builtin; refine wpList_append_own_none rfl _ _ 42 rfl w.heap.size 5 i0 1 Tryd.underlying42 hi _ _ _ rfl (World.ownsRow_nil _ _ _ _) rfl ?_)
    | (fail))
  refine (new3_no none 0 0 w (by decide)).mono ?_
  rintro e w2 ⟨rfl, rfl⟩
  go_wp2
  go_ret
  exact ⟨rfl, Below.refl _ _⟩

set_option maxHeartbeats 800000 in
theorem key3_yes (b : Nat → BitVec 64) (ad : Addr) (cap : Nat) (w : World) (ht : Tabs w) (hc : ∀ j, j < 24 → w.cell? (ad.add j) = some (.int .u8 (B (b j)))) :
    Calls Tryd.prog 25 #[.slice (some ad) 24 cap] w fun e w' => e = .returned (.bool true) ∧ Below w.heap.size w w' := by
  obtain ⟨i0, hi, hz0, hz1, hz2⟩ := info_parts info5
  have HN := Lib.hid (bytesB_news b 24 ad w hc)
  have HT := Lib.hid ht
  clear hc ht
  go_enter Tryd.func25, Tryd.ntmps25
  go_wp2_with (first
    | (at_builtin; refine wpList_append_own _ rfl _ _ 42 rfl w.heap.size 5 i0 (.int .u8 0) 1 1 Tryd.underlying42 hi hz0 hz1 hz2 rfl (by decide) _ _ _ rfl (World.ownsRow_nil _ _ _ _) ad 24 cap (bytesB b 24) rfl (by rw [bytesB_len]) HN.out (bytesB_one b 24) (by decide) (by decide) (Nat.le_refl _) ?_)
    | (fail))
  intro v' w1 hown' hgrow _
  have hb : Below w.heap.size w w1 := (Below.refl _ _).grown hgrow (Nat.le_refl _) (fun k h => by cases h)
  have hown2 : w1.ownsRow w.heap.size 5 1 v' 24 (bytesB b 24) := by simpa using hown'
  obtain ⟨g, cap2, rfl, hcap2⟩ := owned_full hown2 (by decide)
  have hcc : ∀ j, j < 24 → w1.cell? ⟨g, j, none⟩ = some (.int .u8 (B (b j))) := fun j hj => by
    rw [hown2.cellAt j (by omega), bytesB_at b 24 j hj]
  have CC := Lib.hid hcc
  have TT := Lib.hid (HT.out.below hb)
  have HB := Lib.hid hb
  clear hown' hown2 hgrow hb hcc hi hz0 hz1 hz2
  go_wp2_with fail
  refine (new3_yes b g cap2 w1 hcap2 CC.out TT.out).mono ?_
  rintro e w2 ⟨a, rfl, hb2⟩
  have HB2 := Lib.hid hb2
  clear hb2
  go_wp2
  go_ret
  exact ⟨rfl, HB.out.trans (HB2.out.mono HB.out.size)⟩
end Go.Proofs.YtpnkgjnljbknnaaDoor
