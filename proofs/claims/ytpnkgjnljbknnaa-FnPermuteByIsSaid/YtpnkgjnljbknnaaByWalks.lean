/-
  Contracts of impl.PermuteBy: it returns the bits at the places that a slice names, for every word of 64 bits. Conditions: at most 64 places; the slice lies in memory at the cells that are named, or is nil.
-/
import Derived.Test.YtpnkgjnljbknnaaWalks
import Derived.Laws.AppendOwnNone
namespace Go.Proofs.Ytpnkgjnljbknnaa
open Go.RowKit

def bytesV (l : List Nat) : List Value := l.map fun (n : Nat) => Value.int .u8 (n : Int)

theorem permute_nil (x : BitVec 64) (w : World) :
    Calls Try.prog 20 #[.int .u64 (B x), .slice none 0 0] w fun e w' => e = .returned (.int .u64 (B (permB x []))) ∧ w = w' := by
  have hB0 : B (permB x []) = 0 := rfl
  rw [hB0]
  clear hB0
  go_enter Try.func20, Try.ntmps20
  go_wp2
  refine wp_loop_rounds 1 ?_
  rw [rounds_succ]
  go_wp2
  go_ret
  exact ⟨rfl, rfl⟩

theorem permute_owned (x : BitVec 64) (l : List Nat) (W : World) (base : Nat) (v : Value) (hl : l.length ≤ 64) (hown : W.ownsRow base 5 1 v l.length (bytesV l)) :
    Calls Try.prog 20 #[.int .u64 (B x), v] W fun e w' => e = .returned (.int .u64 (B (permB x l))) ∧ W = w' := by
  have hown' := hown
  obtain ⟨_, (⟨rfl, h0⟩ | ⟨g, cap, cur, rfl, hb, hh, hn, hm, hs, ht⟩)⟩ := hown
  · have : l = [] := List.eq_nil_of_length_eq_zero h0
    subst this
    exact permute_nil x W
  · refine permute_any x l g 0 cap W (by unfold maxLen; omega) (fun i hi => ?_)
    rw [Nat.zero_add, World.ownsRow.cellAt hown' i (by omega)]
    simp [bytesV, List.getD, hi]

theorem info5 : (Try.prog.info? 5).map (fun i => (i.zero, i.size, i.bytes)) = some (some (.int .u8 0), 1, 1) := by kernel_rfl

set_option maxHeartbeats 400000 in
theorem by_some (x : BitVec 64) (l : List Nat) (ad : Addr) (L cap : Nat) (w : World) (hL : l.length = L) (hl : L ≤ 64)
    (hc : ∀ i, i < L → w.cell? (ad.add i) = some (.int .u8 ((l.getD i 0 : Nat) : Int))) :
    Calls Try.prog 8 #[.int .u64 (B x), .slice (some ad) L cap] w fun e w' => e = .returned (.int .u64 (B (permB x l))) ∧ Below w.heap.size w w' := by
  obtain ⟨i0, hi, hz0, hz1, hz2⟩ := info_parts info5
  have hnews : ∀ j u, (bytesV l)[j]? = some u → w.cell? (ad.add j) = some u := by
    intro j u hu
    have hj : j < l.length := by
      have := (List.getElem?_eq_some_iff.1 hu).1
      simpa [bytesV] using this
    rw [hc j (by omega), ← hu]
    simp [bytesV, List.getD, hj]
  have hone : ∀ u ∈ bytesV l, u.oneCell' = true := by
    intro u hu
    simp only [bytesV, List.mem_map] at hu
    obtain ⟨n, _, rfl⟩ := hu
    rfl
  have hlen : (bytesV l).length = L * 1 := by simp [bytesV, hL]
  have HL := Lib.hid hL
  have HN := Lib.hid hnews
  have HO := Lib.hid hone
  have HE := Lib.hid hlen
  clear hc hnews hone hlen hL
  go_enter Try.func8, Try.ntmps8
  go_wp2_with (first
    | (at_builtin; refine wpList_append_own _ rfl _ _ 23 rfl w.heap.size 5 i0 (.int .u8 0) 1 1 Try.underlying23 hi hz0 hz1 hz2 rfl (by decide) _ _ _ rfl (World.ownsRow_nil _ _ _ _) ad L cap (bytesV l) rfl HE.out HN.out HO.out (by unfold maxLen; omega) (by omega) (Nat.le_refl _) ?_)
    | (fail))
  intro v' w1 hown' hgrow _
  have hown2 : w1.ownsRow w.heap.size 5 1 v' L (bytesV l) := by simpa using hown'
  have hb : Below w.heap.size w w1 := (Below.refl _ _).grown hgrow (Nat.le_refl _) (fun k h => by cases h)
  have hown : w1.ownsRow w.heap.size 5 1 v' l.length (bytesV l) := by rw [HL.out]; exact hown2
  have hl2 : l.length ≤ 64 := by rw [HL.out]; exact hl
  have OW := Lib.hid hown
  have HB := Lib.hid hb
  have HL2 := Lib.hid hl2
  clear hown hown2 hown' hgrow hb hi hz0 hz1 hz2 hl2
  go_wp2_with (first
    | (go_at_call 20; ((with_reducible refine (permute_owned x l w1 _ v' HL2.out OW.out).mono ?_); rintro e w' ⟨rfl, rfl⟩))
    | go_in)
  go_ret
  exact ⟨rfl, HB.out⟩

theorem by_nil (x : BitVec 64) (w : World) :
    Calls Try.prog 8 #[.int .u64 (B x), .slice none 0 0] w fun e w' => e = .returned (.int .u64 (B (permB x []))) ∧ Below w.heap.size w w' := by
  obtain ⟨i0, hi, hz0, hz1, hz2⟩ := info_parts info5
  go_enter Try.func8, Try.ntmps8
  go_wp2_with (first
    | (at_builtin; refine wpList_append_own_none rfl _ _ 23 rfl w.heap.size 5 i0 1 Try.underlying23 hi _ _ _ rfl (World.ownsRow_nil _ _ _ _) rfl ?_)
    | (go_at_call 20; ((with_reducible refine (permute_nil x _).mono ?_); rintro e w' ⟨rfl, rfl⟩))
    | go_in)
  go_ret
  exact ⟨rfl, Below.refl _ _⟩

theorem by_zero (x : BitVec 64) (ao : Option Addr) (cap : Nat) (w : World) (h : ao = none → cap = 0) :
    Calls Try.prog 8 #[.int .u64 (B x), .slice ao 0 cap] w fun e w' => e = .returned (.int .u64 (B (permB x []))) ∧ Below w.heap.size w w' := by
  cases ao with
  | none =>
    obtain rfl := h rfl
    exact by_nil x w
  | some ad => exact by_some x [] ad 0 cap w rfl (by omega) (fun i hi => absurd hi (by omega))

theorem by_one (w : World) :
    Calls Try.prog 8 #[.int .u64 1, .slice (some ⟨w.heap.size, 0, none⟩) 1 1] (w.alloc (.cells #[.int .u8 0] 5)) fun e w' =>
      e = .returned (.int .u64 1) ∧ Below (w.alloc (.cells #[.int .u8 0] 5)).heap.size (w.alloc (.cells #[.int .u8 0] 5)) w' :=
  by_some 1#64 [0] ⟨w.heap.size, 0, none⟩ 1 1 (w.alloc (.cells #[.int .u8 0] 5)) rfl (by omega) (fun i hi => by
    obtain rfl : i = 0 := by omega
    simp [Addr.add, go_sem])

theorem place_out (x y : BitVec 64) (l : List Nat) (k n : Nat) (hk : k < l.length) (hn : l.getD k 0 = n) (hy : y = permB x (l.take k)) :
    (y <<< 1) ||| ((x >>> n) &&& 1#64) = permB x (l.take (k + 1)) := or_step x y l k n hk hn hy
end Go.Proofs.Ytpnkgjnljbknnaa
