/-
  The reference Unquoted answers the text between the first two back quotes of a usage and the usage without these two, or else the word for the kind and the usage.
  Conditions: the kind is 0, 1 or 2, the usage has at most 16777216 bytes.
-/
import Derived.Test.YtofmiellnellnaaWalkB
namespace Go.Proofs.Ytofmiellnellnaa
open Go.RowKit
set_option maxRecDepth 100000 in
set_option maxHeartbeats 400000 in
theorem spec_two (a : Int) (i0 j0 : Nat) (s : ByteArray) (w : World) (hs : s.size ≤ 16777216) (hij : i0 < j0) (hj : j0 < s.size)
    (hi1 : (s[i0].toNat : Int) = 96) (hj1 : (s[j0].toNat : Int) = 96) (hno : ∀ k (hk : k < s.size), k < j0 → k ≠ i0 → ((s[k].toNat : Int) != 96) = true) :
    Calls Try.prog 5 #[.int .i64 a, .string s] w fun e w' => e = .returned (.tuple #[.string (s.extract (i0 + 1) j0), .string (s.extract 0 i0 ++ s.extract (i0 + 1) j0 ++ s.extract (j0 + 1) s.size)]) ∧ ∃ n, w' = w.drewN n := by
  have Hno := Lib.hid hno
  clear hno
  have Hi := Lib.hid hi1
  clear hi1
  have Hj := Lib.hid hj1
  clear hj1
  go_enter Try.func5, Try.ntmps5
  go_wp2
  go_loop [6, 7] (fun u i => ∃ k : Nat, i = .int .i64 k ∧ ((k ≤ i0 ∧ u = .int .i64 (-1)) ∨ (i0 < k ∧ k ≤ j0 ∧ u = .int .i64 i0))) (fun _ i => s.size - (intOf i).toNat)
  case atStart => exact ⟨0, rfl, .inl ⟨Nat.zero_le _, rfl⟩⟩
  case round =>
    obtain ⟨k, rfl, ⟨hk, rfl⟩ | ⟨hk1, hk2, rfl⟩⟩ := hrel
    · by_cases hlt : k < i0
      · have hb := Hno.out k (by omega) (by omega) (by omega)
        go_wp2
        go_round
        case rel => exact ⟨k + 1, by go_num, .inl ⟨by omega, rfl⟩⟩
        case measure => simp [intOf]; omega
      · obtain rfl : k = i0 := by omega
        have hb : ((s[k].toNat : Int) != 96) = false := by rw [Hi.out]; rfl
        go_wp2
        go_round
        case rel => exact ⟨k + 1, by go_num, .inr ⟨by omega, by omega, rfl⟩⟩
        case measure => simp [intOf]; omega
    · by_cases hlt : k < j0
      · have hb := Hno.out k (by omega) (by omega) (by omega)
        go_wp2
        go_round
        case rel => exact ⟨k + 1, by go_num, .inr ⟨by omega, by omega, rfl⟩⟩
        case measure => simp [intOf]; omega
      · obtain rfl : k = j0 := by omega
        have hb : ((s[k].toNat : Int) != 96) = false := by rw [Hj.out]; rfl
        go_wp2
        go_quiet (fail)
        go_wp2
        go_ret2
        exact ⟨rfl, nq, rfl⟩
set_option maxRecDepth 100000 in
set_option maxHeartbeats 400000 in
theorem spec_none_bool (s : ByteArray) (w : World) (hs : s.size ≤ 16777216)
    (hno : ∀ k (hk : k < s.size), ((s[k].toNat : Int) != 96) = true) :
    Calls Try.prog 5 #[.int .i64 0, .string s] w fun e w' => e = .returned (.tuple #[.string ⟨#[]⟩, .string s]) ∧ Below w.heap.size w w' := by
  have Hno := Lib.hid hno
  clear hno
  go_enter Try.func5, Try.ntmps5
  go_wp2
  go_loop [6, 7] (fun u i => u = .int .i64 (-1) ∧ ∃ k : Nat, k ≤ s.size ∧ i = .int .i64 k) (fun _ i => s.size - (intOf i).toNat)
  case atStart => exact ⟨rfl, 0, Nat.zero_le _, rfl⟩
  case round =>
    obtain ⟨rfl, k, hk, rfl⟩ := hrel
    by_cases hlt : k < s.size
    · have hb := Hno.out k (by omega)
      go_wp2
      go_round
      case rel => exact ⟨rfl, k + 1, by omega, by go_num⟩
      case measure => simp [intOf]; omega
    · go_wp2
      go_ret2
      exact ⟨rfl, (Below.refl _ _).alloc (Nat.le_refl _) _⟩
set_option maxRecDepth 100000 in
set_option maxHeartbeats 400000 in
theorem spec_one_bool (i0 : Nat) (s : ByteArray) (w : World) (hs : s.size ≤ 16777216) (hi : i0 < s.size) (hi1 : (s[i0].toNat : Int) = 96)
    (hno : ∀ k (hk : k < s.size), k ≠ i0 → ((s[k].toNat : Int) != 96) = true) :
    Calls Try.prog 5 #[.int .i64 0, .string s] w fun e w' => e = .returned (.tuple #[.string ⟨#[]⟩, .string s]) ∧ Below w.heap.size w w' := by
  have Hno := Lib.hid hno
  clear hno
  have Hi := Lib.hid hi1
  clear hi1
  go_enter Try.func5, Try.ntmps5
  go_wp2
  go_loop [6, 7] (fun u i => ∃ k : Nat, i = .int .i64 k ∧ ((k ≤ i0 ∧ u = .int .i64 (-1)) ∨ (i0 < k ∧ k ≤ s.size ∧ u = .int .i64 i0))) (fun _ i => s.size - (intOf i).toNat)
  case atStart => exact ⟨0, rfl, .inl ⟨Nat.zero_le _, rfl⟩⟩
  case round =>
    obtain ⟨k, rfl, ⟨hk, rfl⟩ | ⟨hk1, hk2, rfl⟩⟩ := hrel
    · by_cases hlt : k < i0
      · have hb := Hno.out k (by omega) (by omega)
        go_wp2
        go_round
        case rel => exact ⟨k + 1, by go_num, .inl ⟨by omega, rfl⟩⟩
        case measure => simp [intOf]; omega
      · obtain rfl : k = i0 := by omega
        have hb : ((s[k].toNat : Int) != 96) = false := by rw [Hi.out]; rfl
        go_wp2
        go_round
        case rel => exact ⟨k + 1, by go_num, .inr ⟨by omega, by omega, rfl⟩⟩
        case measure => simp [intOf]; omega
    · by_cases hlt : k < s.size
      · have hb := Hno.out k (by omega) (by omega)
        go_wp2
        go_round
        case rel => exact ⟨k + 1, by go_num, .inr ⟨by omega, by omega, rfl⟩⟩
        case measure => simp [intOf]; omega
      · go_wp2
        go_ret2
        exact ⟨rfl, (Below.refl _ _).alloc (Nat.le_refl _) _⟩
set_option maxRecDepth 100000 in
set_option maxHeartbeats 400000 in
theorem spec_none_int (s : ByteArray) (w : World) (hs : s.size ≤ 16777216)
    (hno : ∀ k (hk : k < s.size), ((s[k].toNat : Int) != 96) = true) :
    Calls Try.prog 5 #[.int .i64 1, .string s] w fun e w' => e = .returned (.tuple #[.string ⟨#[105, 110, 116]⟩, .string s]) ∧ Below w.heap.size w w' := by
  have Hno := Lib.hid hno
  clear hno
  go_enter Try.func5, Try.ntmps5
  go_wp2
  go_loop [6, 7] (fun u i => u = .int .i64 (-1) ∧ ∃ k : Nat, k ≤ s.size ∧ i = .int .i64 k) (fun _ i => s.size - (intOf i).toNat)
  case atStart => exact ⟨rfl, 0, Nat.zero_le _, rfl⟩
  case round =>
    obtain ⟨rfl, k, hk, rfl⟩ := hrel
    by_cases hlt : k < s.size
    · have hb := Hno.out k (by omega)
      go_wp2
      go_round
      case rel => exact ⟨rfl, k + 1, by omega, by go_num⟩
      case measure => simp [intOf]; omega
    · go_wp2
      go_ret2
      exact ⟨rfl, (Below.refl _ _).alloc (Nat.le_refl _) _⟩
set_option maxRecDepth 100000 in
set_option maxHeartbeats 400000 in
theorem spec_one_int (i0 : Nat) (s : ByteArray) (w : World) (hs : s.size ≤ 16777216) (hi : i0 < s.size) (hi1 : (s[i0].toNat : Int) = 96)
    (hno : ∀ k (hk : k < s.size), k ≠ i0 → ((s[k].toNat : Int) != 96) = true) :
    Calls Try.prog 5 #[.int .i64 1, .string s] w fun e w' => e = .returned (.tuple #[.string ⟨#[105, 110, 116]⟩, .string s]) ∧ Below w.heap.size w w' := by
  have Hno := Lib.hid hno
  clear hno
  have Hi := Lib.hid hi1
  clear hi1
  go_enter Try.func5, Try.ntmps5
  go_wp2
  go_loop [6, 7] (fun u i => ∃ k : Nat, i = .int .i64 k ∧ ((k ≤ i0 ∧ u = .int .i64 (-1)) ∨ (i0 < k ∧ k ≤ s.size ∧ u = .int .i64 i0))) (fun _ i => s.size - (intOf i).toNat)
  case atStart => exact ⟨0, rfl, .inl ⟨Nat.zero_le _, rfl⟩⟩
  case round =>
    obtain ⟨k, rfl, ⟨hk, rfl⟩ | ⟨hk1, hk2, rfl⟩⟩ := hrel
    · by_cases hlt : k < i0
      · have hb := Hno.out k (by omega) (by omega)
        go_wp2
        go_round
        case rel => exact ⟨k + 1, by go_num, .inl ⟨by omega, rfl⟩⟩
        case measure => simp [intOf]; omega
      · obtain rfl : k = i0 := by omega
        have hb : ((s[k].toNat : Int) != 96) = false := by rw [Hi.out]; rfl
        go_wp2
        go_round
        case rel => exact ⟨k + 1, by go_num, .inr ⟨by omega, by omega, rfl⟩⟩
        case measure => simp [intOf]; omega
    · by_cases hlt : k < s.size
      · have hb := Hno.out k (by omega) (by omega)
        go_wp2
        go_round
        case rel => exact ⟨k + 1, by go_num, .inr ⟨by omega, by omega, rfl⟩⟩
        case measure => simp [intOf]; omega
      · go_wp2
        go_ret2
        exact ⟨rfl, (Below.refl _ _).alloc (Nat.le_refl _) _⟩
set_option maxRecDepth 100000 in
set_option maxHeartbeats 400000 in
theorem spec_none_string (s : ByteArray) (w : World) (hs : s.size ≤ 16777216)
    (hno : ∀ k (hk : k < s.size), ((s[k].toNat : Int) != 96) = true) :
    Calls Try.prog 5 #[.int .i64 2, .string s] w fun e w' => e = .returned (.tuple #[.string ⟨#[115, 116, 114, 105, 110, 103]⟩, .string s]) ∧ Below w.heap.size w w' := by
  have Hno := Lib.hid hno
  clear hno
  go_enter Try.func5, Try.ntmps5
  go_wp2
  go_loop [6, 7] (fun u i => u = .int .i64 (-1) ∧ ∃ k : Nat, k ≤ s.size ∧ i = .int .i64 k) (fun _ i => s.size - (intOf i).toNat)
  case atStart => exact ⟨rfl, 0, Nat.zero_le _, rfl⟩
  case round =>
    obtain ⟨rfl, k, hk, rfl⟩ := hrel
    by_cases hlt : k < s.size
    · have hb := Hno.out k (by omega)
      go_wp2
      go_round
      case rel => exact ⟨rfl, k + 1, by omega, by go_num⟩
      case measure => simp [intOf]; omega
    · go_wp2
      go_ret2
      exact ⟨rfl, (Below.refl _ _).alloc (Nat.le_refl _) _⟩
set_option maxRecDepth 100000 in
set_option maxHeartbeats 400000 in
theorem spec_one_string (i0 : Nat) (s : ByteArray) (w : World) (hs : s.size ≤ 16777216) (hi : i0 < s.size) (hi1 : (s[i0].toNat : Int) = 96)
    (hno : ∀ k (hk : k < s.size), k ≠ i0 → ((s[k].toNat : Int) != 96) = true) :
    Calls Try.prog 5 #[.int .i64 2, .string s] w fun e w' => e = .returned (.tuple #[.string ⟨#[115, 116, 114, 105, 110, 103]⟩, .string s]) ∧ Below w.heap.size w w' := by
  have Hno := Lib.hid hno
  clear hno
  have Hi := Lib.hid hi1
  clear hi1
  go_enter Try.func5, Try.ntmps5
  go_wp2
  go_loop [6, 7] (fun u i => ∃ k : Nat, i = .int .i64 k ∧ ((k ≤ i0 ∧ u = .int .i64 (-1)) ∨ (i0 < k ∧ k ≤ s.size ∧ u = .int .i64 i0))) (fun _ i => s.size - (intOf i).toNat)
  case atStart => exact ⟨0, rfl, .inl ⟨Nat.zero_le _, rfl⟩⟩
  case round =>
    obtain ⟨k, rfl, ⟨hk, rfl⟩ | ⟨hk1, hk2, rfl⟩⟩ := hrel
    · by_cases hlt : k < i0
      · have hb := Hno.out k (by omega) (by omega)
        go_wp2
        go_round
        case rel => exact ⟨k + 1, by go_num, .inl ⟨by omega, rfl⟩⟩
        case measure => simp [intOf]; omega
      · obtain rfl : k = i0 := by omega
        have hb : ((s[k].toNat : Int) != 96) = false := by rw [Hi.out]; rfl
        go_wp2
        go_round
        case rel => exact ⟨k + 1, by go_num, .inr ⟨by omega, by omega, rfl⟩⟩
        case measure => simp [intOf]; omega
    · by_cases hlt : k < s.size
      · have hb := Hno.out k (by omega) (by omega)
        go_wp2
        go_round
        case rel => exact ⟨k + 1, by go_num, .inr ⟨by omega, by omega, rfl⟩⟩
        case measure => simp [intOf]; omega
      · go_wp2
        go_ret2
        exact ⟨rfl, (Below.refl _ _).alloc (Nat.le_refl _) _⟩
end Go.Proofs.Ytofmiellnellnaa
