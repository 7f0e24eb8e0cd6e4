/-
  Contracts of the functions that permute bits: each call returns what the plain function says, for every word of 64 bits. Conditions: a slice of places lies in memory at the cells that are named.
-/
import Derived.Test.YtpnkgjnljbknnaaPlain
import Derived.Test.YtpnkgjnljbknnaaProg
import Derived.WalkKit
import Derived.Lib.Hide
import Derived.OpenShut
namespace Go.Proofs.Ytpnkgjnljbknnaa
open Go.RowKit

theorem word_of {n : Int} (h : (Lit.int .u64 n).wf = true) : ∃ x, n = B x :=
  ⟨BitVec.ofInt 64 n, B_ofInt (bounds_u64 h).1 (bounds_u64 h).2⟩

set_option maxHeartbeats 400000 in
theorem init_any (x : BitVec 64) (w : World) :
    Calls Try.prog 23 #[.int .u64 (B x)] w fun e w' => e = .returned (.int .u64 (B (initX x))) ∧ w = w' := by
  have a3 := r_xor
  have a4 := r_andc
  have l48 : ∀ x, IntKind.u64.wrap (B x * (281474976710656 : Int)) = B (x <<< 48) := fun x => r_shl x 48
  have l32 : ∀ x, IntKind.u64.wrap (B x * (4294967296 : Int)) = B (x <<< 32) := fun x => r_shl x 32
  have l8 : ∀ x, IntKind.u64.wrap (B x * (256 : Int)) = B (x <<< 8) := fun x => r_shl x 8
  have l24 : ∀ x, IntKind.u64.wrap (B x * (16777216 : Int)) = B (x <<< 24) := fun x => r_shl x 24
  have l12 : ∀ x, IntKind.u64.wrap (B x * (4096 : Int)) = B (x <<< 12) := fun x => r_shl x 12
  have l6 : ∀ x, IntKind.u64.wrap (B x * (64 : Int)) = B (x <<< 6) := fun x => r_shl x 6
  have l33 : ∀ x, IntKind.u64.wrap (B x * (8589934592 : Int)) = B (x <<< 33) := fun x => r_shl x 33
  have h48 : ∀ x, B x / (281474976710656 : Int) = B (x >>> 48) := fun x => r_shr x 48
  have h32 : ∀ x, B x / (4294967296 : Int) = B (x >>> 32) := fun x => r_shr x 32
  have h12 : ∀ x, B x / (4096 : Int) = B (x >>> 12) := fun x => r_shr x 12
  have h6 : ∀ x, B x / (64 : Int) = B (x >>> 6) := fun x => r_shr x 6
  have h33 : ∀ x, B x / (8589934592 : Int) = B (x >>> 33) := fun x => r_shr x 33
  go_enter Try.func23, Try.ntmps23
  go_wp2
  go_ret
  exact ⟨rfl, rfl⟩

set_option maxHeartbeats 400000 in
theorem final_any (x : BitVec 64) (w : World) :
    Calls Try.prog 22 #[.int .u64 (B x)] w fun e w' => e = .returned (.int .u64 (B (finX x))) ∧ w = w' := by
  have a3 := r_xor
  have a4 := r_andc
  have l48 : ∀ x, IntKind.u64.wrap (B x * (281474976710656 : Int)) = B (x <<< 48) := fun x => r_shl x 48
  have l32 : ∀ x, IntKind.u64.wrap (B x * (4294967296 : Int)) = B (x <<< 32) := fun x => r_shl x 32
  have l8 : ∀ x, IntKind.u64.wrap (B x * (256 : Int)) = B (x <<< 8) := fun x => r_shl x 8
  have l24 : ∀ x, IntKind.u64.wrap (B x * (16777216 : Int)) = B (x <<< 24) := fun x => r_shl x 24
  have l12 : ∀ x, IntKind.u64.wrap (B x * (4096 : Int)) = B (x <<< 12) := fun x => r_shl x 12
  have l6 : ∀ x, IntKind.u64.wrap (B x * (64 : Int)) = B (x <<< 6) := fun x => r_shl x 6
  have l33 : ∀ x, IntKind.u64.wrap (B x * (8589934592 : Int)) = B (x <<< 33) := fun x => r_shl x 33
  have h48 : ∀ x, B x / (281474976710656 : Int) = B (x >>> 48) := fun x => r_shr x 48
  have h32 : ∀ x, B x / (4294967296 : Int) = B (x >>> 32) := fun x => r_shr x 32
  have h12 : ∀ x, B x / (4096 : Int) = B (x >>> 12) := fun x => r_shr x 12
  have h6 : ∀ x, B x / (64 : Int) = B (x >>> 6) := fun x => r_shr x 6
  have h33 : ∀ x, B x / (8589934592 : Int) = B (x >>> 33) := fun x => r_shr x 33
  go_enter Try.func22, Try.ntmps22
  go_wp2
  go_ret
  exact ⟨rfl, rfl⟩

set_option maxHeartbeats 400000 in
theorem unpack_any (x : BitVec 64) (w : World) :
    Calls Try.prog 21 #[.int .u64 (B x)] w fun e w' => e = .returned (.int .u64 (B (unpackX x))) ∧ w = w' := by
  have a2 := r_or
  have a4 := r_andc
  have a5 := r_wrap
  have l8 : ∀ x, IntKind.u64.wrap (B x * (256 : Int)) = B (x <<< 8) := fun x => r_shl x 8
  have l16 : ∀ x, IntKind.u64.wrap (B x * (65536 : Int)) = B (x <<< 16) := fun x => r_shl x 16
  have l24 : ∀ x, IntKind.u64.wrap (B x * (16777216 : Int)) = B (x <<< 24) := fun x => r_shl x 24
  have l32 : ∀ x, IntKind.u64.wrap (B x * (4294967296 : Int)) = B (x <<< 32) := fun x => r_shl x 32
  have l40 : ∀ x, IntKind.u64.wrap (B x * (1099511627776 : Int)) = B (x <<< 40) := fun x => r_shl x 40
  have l48 : ∀ x, IntKind.u64.wrap (B x * (281474976710656 : Int)) = B (x <<< 48) := fun x => r_shl x 48
  have l56 : ∀ x, IntKind.u64.wrap (B x * (72057594037927936 : Int)) = B (x <<< 56) := fun x => r_shl x 56
  have h6 : ∀ x, B x / (64 : Int) = B (x >>> 6) := fun x => r_shr x 6
  have h18 : ∀ x, B x / (262144 : Int) = B (x >>> 18) := fun x => r_shr x 18
  have h30 : ∀ x, B x / (1073741824 : Int) = B (x >>> 30) := fun x => r_shr x 30
  have h42 : ∀ x, B x / (4398046511104 : Int) = B (x >>> 42) := fun x => r_shr x 42
  have h12 : ∀ x, B x / (4096 : Int) = B (x >>> 12) := fun x => r_shr x 12
  have h24 : ∀ x, B x / (16777216 : Int) = B (x >>> 24) := fun x => r_shr x 24
  have h36 : ∀ x, B x / (68719476736 : Int) = B (x >>> 36) := fun x => r_shr x 36
  go_enter Try.func21, Try.ntmps21
  go_wp2
  go_ret
  exact ⟨rfl, rfl⟩

set_option maxHeartbeats 400000 in
theorem permute_any (x : BitVec 64) (l : List Nat) (b off cap : Nat) (w : World) (hl : l.length ≤ maxLen)
    (hc : ∀ i, i < l.length → w.cell? ⟨b, off + i, none⟩ = some (.int .u8 ((l.getD i 0 : Nat) : Int))) :
    Calls Try.prog 20 #[.int .u64 (B x), .slice (some ⟨b, off, none⟩) l.length cap] w fun e w' => e = .returned (.int .u64 (B (permB x l))) ∧ w = w' := by
  unfold maxLen at hl
  obtain ⟨L, hL⟩ : ∃ L, L = l.length := ⟨_, rfl⟩
  rw [← hL] at hl hc ⊢
  have HL := Lib.hid hL
  clear hL
  have hB0 : B 0#64 = 0 := rfl
  go_enter Try.func20, Try.ntmps20
  go_wp2
  go_loop [4, 10] (fun v i => ∃ k : Nat, k ≤ L ∧ i = .int .i64 k ∧ v = .int .u64 (B (permB x (l.take k) <<< (L - k)))) (fun _ i => L - (intOf i).toNat)
  case atStart => exact ⟨0, Nat.zero_le _, rfl, by simp [permB, hB0]⟩
  case round =>
    obtain ⟨k, hk, rfl, rfl⟩ := hrel
    by_cases hlt : k < L
    · have hcell := hc k hlt
      obtain ⟨n, hn⟩ : ∃ n, n = l.getD k 0 := ⟨_, rfl⟩
      rw [← hn] at hcell
      have HN := Lib.hid hn
      clear hn
      obtain ⟨y, hy⟩ : ∃ y, y = permB x (l.take k) <<< (L - k) := ⟨_, rfl⟩
      rw [← hy]
      have HY := Lib.hid hy
      clear hy
      have a1 := r_andc
      have a2 := r_or
      have a3 := r_shr_min
      have a4 := r_shl_min
      clear hc
      obtain ⟨m, hm⟩ : ∃ m, m = L - 1 - k := ⟨_, rfl⟩
      have hw : IntKind.u64.wrap ((L : Int) - 1 - k) = (m : Int) := by rw [IntKind.wrap_u64]; omega
      have HM := Lib.hid hm
      clear hm
      go_wp2
      go_round
      case rel =>
        refine ⟨k + 1, by omega, by go_num, ?_⟩
        have hm := HM.out
        have hL := HL.out
        rw [permB_take x l k (by omega), ← HN.out, ← place_step x _ n L k hlt, ← HY.out, ← hm]
      case measure => simp [intOf]; omega
    · have : k = L := by omega
      subst this
      go_wp2
      go_ret
      have hL := HL.out
      refine ⟨?_, rfl⟩
      rw [hL]
      simp

theorem bit_any (x : BitVec 64) (wd i : Int) (n : Nat) (w : World) (h : wd - i = n) (h0 : 0 ≤ i) (h1 : wd ≤ 64) :
    Calls Try.prog 18 #[.int .u64 (B x), .int .i64 wd, .int .i64 i] w fun e w' => e = .returned (.int .u64 (B ((x >>> n) &&& 1#64))) ∧ w = w' := by
  have a1 := r_andc
  have a3 := r_shr
  go_enter Try.func18, Try.ntmps18
  go_wp2
  go_ret
  exact ⟨rfl, rfl⟩

def firsts : List Nat := [58, 60, 62, 64, 57, 59, 61, 63]
theorem firsts_ip : ∀ k, k < 8 → ∀ j, j < 8 → ipL.getD (8 * k + j) 0 = 64 - (firsts.getD k 0 - 8 * j) := by decide +kernel
theorem firsts_bd : ∀ k, k < 8 → 57 ≤ firsts.getD k 0 ∧ firsts.getD k 0 ≤ 64 := by decide
abbrev firstsBlock : Obj := .cells #[Value.int IntKind.i64 58, Value.int IntKind.i64 60, Value.int IntKind.i64 62, Value.int IntKind.i64 64, Value.int IntKind.i64 57, Value.int IntKind.i64 59, Value.int IntKind.i64 61, Value.int IntKind.i64 63] 3
theorem firsts_cell (w : World) : ∀ k, k < 8 → (w.alloc firstsBlock).cell? ⟨w.heap.size, k, none⟩ = some (.int .i64 ((firsts.getD k 0 : Nat) : Int)) := by
  intro k hk
  match k, hk with
  | 0, _ | 1, _ | 2, _ | 3, _ | 4, _ | 5, _ | 6, _ | 7, _ => simp [firsts, go_sem]

theorem or_step (x y : BitVec 64) (l : List Nat) (m n : Nat) (hm : m < l.length) (hn : l.getD m 0 = n) (hy : y = permB x (l.take m)) :
    (y <<< 1) ||| ((x >>> n) &&& 1#64) = permB x (l.take (m + 1)) := by
  rw [permB_take x l m hm, hn, ← hy]; rfl

set_option maxRecDepth 100000 in
set_option maxHeartbeats 400000 in
theorem specInit_any (x : BitVec 64) (w : World) :
    Calls Try.prog 14 #[.int .u64 (B x)] w fun e w' => e = .returned (.int .u64 (B (permB x ipL))) ∧ Below w.heap.size w w' := by
  have hB0 : B 0#64 = 0 := rfl
  have hcells := firsts_cell w
  have hbel : Below w.heap.size w (w.alloc firstsBlock) := (Below.refl _ _).alloc (Nat.le_refl _) _
  go_enter Try.func14, Try.ntmps14
  go_wp2
  obtain ⟨W, hW⟩ : ∃ W, W = w.alloc firstsBlock := ⟨_, rfl⟩
  obtain ⟨H, hH⟩ : ∃ H, H = w.heap.size := ⟨_, rfl⟩
  rw [← hW] at hcells hbel ⊢
  rw [← hH] at hcells ⊢
  clear hW hH
  go_loop [3, 9] (fun v i => ∃ k : Nat, k ≤ 8 ∧ i = .int .i64 k ∧ v = .int .u64 (B (permB x (ipL.take (8 * k))))) (fun _ i => 8 - (intOf i).toNat)
  case atStart => exact ⟨0, Nat.zero_le _, rfl, by simp [permB, hB0]⟩
  case round =>
    obtain ⟨k, hk, rfl, rfl⟩ := hrel
    obtain ⟨y, hy⟩ : ∃ y, y = permB x (ipL.take (8 * k)) := ⟨_, rfl⟩
    rw [← hy]
    have HY := Lib.hid hy
    clear hy
    by_cases hlt : k < 8
    · have hcell := hcells k hlt
      have hfb := firsts_bd k hlt
      have hip := Lib.hid (firsts_ip k hlt)
      obtain ⟨f, hf⟩ : ∃ f, f = firsts.getD k 0 := ⟨_, rfl⟩
      rw [← hf] at hcell hfb hip
      clear hf
      clear hcells hbel
      go_wp2
      go_loop [3, 6] (fun v i => ∃ (j : Nat) (q : Int), j ≤ 8 ∧ i = .int .i64 q ∧ q = (f : Int) - 8 * (j : Int) ∧ v = .int .u64 (B (permB x (ipL.take (8 * k + j))))) (fun _ i => (intOf i).toNat)
      case atStart => exact ⟨0, _, Nat.zero_le _, rfl, by simp, by rw [HY.out]; rfl⟩
      case round =>
        obtain ⟨j, q, hj, rfl, hq, rfl⟩ := hrel
        obtain ⟨z, hz⟩ : ∃ z, z = permB x (ipL.take (8 * k + j)) := ⟨_, rfl⟩
        rw [← hz]
        have HZ := Lib.hid hz
        clear hz
        have HQ := Lib.hid hq
        by_cases hjl : j < 8
        · have hip := Lib.hid (hip.out j hjl)
          have q0 : 0 < q := by omega
          have q1 : q ≤ 64 := by omega
          obtain ⟨n, hn⟩ : ∃ n, n = 64 - (f - 8 * j) := ⟨_, rfl⟩
          have hn2 : (64 : Int) - q = (n : Int) := by omega
          have HN := Lib.hid hn
          have HN2 := Lib.hid hn2
          clear hn hn2 hq
          have a2 := r_or
          have l1 := r_shl1
          go_wp2_with (go_at_call 18; refine (bit_any _ _ _ n _ HN2.out (by omega) (by omega)).mono ?_; rintro e w' ⟨rfl, rfl⟩)
          go_round
          case rel =>
            refine ⟨j + 1, _, by omega, rfl, by have := HQ.out; omega, ?_⟩
            rw [or_step x z ipL (8 * k + j) n (by rw [ipL_len]; omega) (by rw [hip.out, HN.out]) HZ.out]
            rfl
          case measure => simp [intOf]; omega
        · have q0 : q ≤ 0 := by omega
          have hj8 : j = 8 := by omega
          clear hq hip hfb
          go_wp2
          go_round
          case rel =>
            refine ⟨k + 1, by omega, by go_num, ?_⟩
            rw [HZ.out, hj8]
            rfl
          case measure => simp [intOf]; omega
    · have hk8 : k = 8 := by omega
      clear hcells
      have HB := Lib.hid hbel
      clear hbel
      go_wp2
      go_ret
      refine ⟨?_, HB.out⟩
      have := HY.out
      subst hk8
      rw [List.take_of_length_le (by rw [ipL_len]; omega)] at this
      rw [this]
      rfl

theorem put_step (x y : BitVec 64) (m n d : Nat) (hn : n = 63 - m) (hd : ipL.getD m 0 = d) (hy : y = putB x m) :
    y ||| ((x >>> n) &&& 1#64) <<< d = putB x (m + 1) := by
  rw [putB, hd, ← hn, hy]

set_option maxHeartbeats 800000 in
theorem specFin_any (x : BitVec 64) (w : World) :
    Calls Try.prog 12 #[.int .u64 (B x)] w fun e w' => e = .returned (.int .u64 (B (putB x 64))) ∧ Below w.heap.size w w' := by
  have hB0 : B 0#64 = 0 := rfl
  have hcells := firsts_cell w
  have hbel : Below w.heap.size w (w.alloc firstsBlock) := (Below.refl _ _).alloc (Nat.le_refl _) _
  go_enter Try.func12, Try.ntmps12
  go_wp2
  obtain ⟨W, hW⟩ : ∃ W, W = w.alloc firstsBlock := ⟨_, rfl⟩
  obtain ⟨H, hH⟩ : ∃ H, H = w.heap.size := ⟨_, rfl⟩
  rw [← hW] at hcells hbel ⊢
  rw [← hH] at hcells ⊢
  clear hW hH
  go_loop [3, 4, 10] (fun v a i => ∃ k m : Nat, k ≤ 8 ∧ i = .int .i64 k ∧ a = .int .i64 m ∧ m = 8 * k + 1 ∧ v = .int .u64 (B (putB x (8 * k)))) (fun _ _ i => 8 - (intOf i).toNat)
  case atStart => exact ⟨0, 1, Nat.zero_le _, rfl, rfl, rfl, by simp [putB, hB0]⟩
  case round =>
    obtain ⟨k, m, hk, rfl, rfl, hm, rfl⟩ := hrel
    obtain ⟨y, hy⟩ : ∃ y, y = putB x (8 * k) := ⟨_, rfl⟩
    rw [← hy]
    have HY := Lib.hid hy
    have HM := Lib.hid hm
    clear hy
    by_cases hlt : k < 8
    · have hcell := hcells k hlt
      have hfb := firsts_bd k hlt
      have hip := Lib.hid (firsts_ip k hlt)
      obtain ⟨f, hf⟩ : ∃ f, f = firsts.getD k 0 := ⟨_, rfl⟩
      rw [← hf] at hcell hfb hip
      have hm70 : m ≤ 70 := by omega
      clear hf
      clear hcells hbel hm
      go_wp2
      go_loop [3, 4, 7] (fun v a i => ∃ (j p : Nat) (q : Int), j ≤ 8 ∧ i = .int .i64 q ∧ q = (f : Int) - 8 * (j : Int) ∧ a = .int .i64 p ∧ p = 8 * k + j + 1 ∧ v = .int .u64 (B (putB x (8 * k + j)))) (fun _ _ i => (intOf i).toNat)
      case atStart => exact ⟨0, _, _, Nat.zero_le _, rfl, by simp, rfl, HM.out, by rw [HY.out]; rfl⟩
      case round =>
        obtain ⟨j, p, q, hj, rfl, hq, rfl, hp, rfl⟩ := hrel
        obtain ⟨z, hz⟩ : ∃ z, z = putB x (8 * k + j) := ⟨_, rfl⟩
        rw [← hz]
        have HZ := Lib.hid hz
        clear hz
        have HQ := Lib.hid hq
        have HP := Lib.hid hp
        by_cases hjl : j < 8
        · have hip := Lib.hid (hip.out j hjl)
          have q0 : 0 < q := by omega
          have q1 : q ≤ 64 := by omega
          have p1 : p ≤ 64 := by omega
          obtain ⟨n, hn⟩ : ∃ n, n = 64 - p := ⟨_, rfl⟩
          have hn2 : (64 : Int) - (p : Int) = (n : Int) := by omega
          have HN := Lib.hid hn
          have HN2 := Lib.hid hn2
          obtain ⟨d, hd⟩ : ∃ d, d = 64 - (f - 8 * j) := ⟨_, rfl⟩
          have hd2 : (64 : Int) - q = (d : Int) := by omega
          have d1 : d ≤ 64 := by omega
          have HD := Lib.hid hd
          clear hn hn2 hq hp hd
          have a2 := r_or
          have l1 := r_shl
          go_wp2_with (go_at_call 18; refine (bit_any _ _ _ n _ HN2.out (by omega) (by omega)).mono ?_; rintro e w' ⟨rfl, rfl⟩)
          go_round
          case rel =>
            refine ⟨j + 1, p + 1, _, by omega, rfl, by have := HQ.out; omega, by go_num, by have := HP.out; omega, ?_⟩
            rw [put_step x z (8 * k + j) n d (by have := HP.out; have := HN.out; omega) (by rw [hip.out, HD.out]) HZ.out]
            rfl
          case measure => simp [intOf]; omega
        · have q0 : q ≤ 0 := by omega
          have hj8 : j = 8 := by omega
          clear hq hip hfb hp
          go_wp2
          go_round
          case rel =>
            refine ⟨k + 1, p, by omega, by go_num, rfl, by have := HP.out; omega, ?_⟩
            rw [HZ.out, hj8]
            rfl
          case measure => simp [intOf]; omega
    · have hk8 : k = 8 := by omega
      clear hcells hm
      have HB := Lib.hid hbel
      clear hbel
      go_wp2
      go_ret
      refine ⟨?_, HB.out⟩
      have := HY.out
      subst hk8
      rw [this]
      rfl
end Go.Proofs.Ytpnkgjnljbknnaa
