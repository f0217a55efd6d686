/-
  UnquoteUsage of a flag answers the text between the first two back quotes of its usage and the usage without these two, or else the word for its kind and the usage.
  Conditions: the usage has at most 16777216 bytes.
-/
import Derived.Test.YtofmiellnellnaaWalkA
import Derived.Stop.Asserts
namespace Go.Proofs.Ytofmiellnellnaa
open Go.RowKit
set_option maxRecDepth 100000 in
set_option maxHeartbeats 400000 in
theorem unquote_two (f i0 j0 : Nat) (s : ByteArray) (w : World) (hs : s.size ≤ 16777216) (hu : w.cell? ⟨f, 1, none⟩ = some (.string s)) (hij : i0 < j0) (hj : j0 < s.size)
    (hi1 : (s[i0].toNat : Int) = 96) (hj1 : (s[j0].toNat : Int) = 96) (hno : ∀ k (hk : k < s.size), k < j0 → k ≠ i0 → ((s[k].toNat : Int) == 96) = false) :
    Calls Try.prog 10 #[.pointer (some ⟨f, 0, none⟩)] w fun e w' => e = .returned (.tuple #[.string (s.extract (i0 + 1) j0), .string (s.extract 0 i0 ++ s.extract (i0 + 1) j0 ++ s.extract (j0 + 1) s.size)]) ∧ ∃ n, w' = w.drewN n := by
  have Hno := Lib.hid hno
  clear hno
  have Hi := Lib.hid hi1
  have Hj := Lib.hid hj1
  clear hi1 hj1
  go_enter Try.func10, Try.ntmps10
  go_wp2
  go_loop [3, 4] (fun u i => u = .string s ∧ ∃ k : Nat, k ≤ i0 ∧ i = .int .i64 k) (fun _ i => s.size - (intOf i).toNat)
  case atStart => exact ⟨rfl, 0, Nat.zero_le _, rfl⟩
  case round =>
    obtain ⟨rfl, k, hk, rfl⟩ := hrel
    by_cases hlt : k < i0
    · have hb := Hno.out k (by omega) (by omega) (by omega)
      go_wp2
      go_round
      case rel => exact ⟨rfl, k + 1, by omega, by go_num⟩
      case measure => simp [intOf]; omega
    · obtain rfl : k = i0 := by omega
      have hb : ((s[k].toNat : Int) == 96) = true := by rw [Hi.out]; rfl
      go_wp2
      clear hb
      go_loop [3, 5] (fun u j => u = .string s ∧ ∃ m : Nat, k + 1 ≤ m ∧ m ≤ j0 ∧ j = .int .i64 m) (fun _ j => s.size - (intOf j).toNat)
      case atStart => exact ⟨rfl, k + 1, by omega, by omega, by go_num⟩
      case round =>
        obtain ⟨rfl, m, hm1, hm2, rfl⟩ := hrel
        by_cases hlt : m < j0
        · have hb := Hno.out m (by omega) (by omega) (by omega)
          go_wp2
          go_round
          case rel => exact ⟨rfl, m + 1, by omega, by omega, by go_num⟩
          case measure => simp [intOf]; omega
        · obtain rfl : m = j0 := by omega
          have hb : ((s[m].toNat : Int) == 96) = true := by rw [Hj.out]; rfl
          go_wp2
          go_quiet (fail)
          go_wp2
          go_ret2
          exact ⟨rfl, nq, rfl⟩
theorem assert_bool (v : Value) (w : World) : (Instr.typeAssert (.iface 59 v) 46 50 true).run Try.prog w = .ok (.tuple #[.iface 59 v, .bool true]) w := by kernel_rfl
theorem assert_int (v : Value) (w : World) : (Instr.typeAssert (.iface 53 v) 46 50 true).run Try.prog w = .ok (.tuple #[.nilIface, .bool false]) w := run_typeAssert_lacksB Try.underlying50 (by kernel_rfl) (by kernel_rfl) v 46 w
theorem assert_string (v : Value) (w : World) : (Instr.typeAssert (.iface 55 v) 46 50 true).run Try.prog w = .ok (.tuple #[.nilIface, .bool false]) w := run_typeAssert_lacksB Try.underlying50 (by kernel_rfl) (by kernel_rfl) v 46 w
theorem a53_52 (v : Value) (w : World) : (Instr.typeAssert (.iface 53 v) 46 52 true).run Try.prog w = .ok (.tuple #[.pointer none, .bool false]) w := by kernel_rfl
theorem a53_53 (v : Value) (w : World) : (Instr.typeAssert (.iface 53 v) 46 53 true).run Try.prog w = .ok (.tuple #[v, .bool true]) w := by kernel_rfl
theorem a53_54 (v : Value) (w : World) : (Instr.typeAssert (.iface 53 v) 46 54 true).run Try.prog w = .ok (.tuple #[.pointer none, .bool false]) w := by kernel_rfl
theorem a55_52 (v : Value) (w : World) : (Instr.typeAssert (.iface 55 v) 46 52 true).run Try.prog w = .ok (.tuple #[.pointer none, .bool false]) w := by kernel_rfl
theorem a55_53 (v : Value) (w : World) : (Instr.typeAssert (.iface 55 v) 46 53 true).run Try.prog w = .ok (.tuple #[.pointer none, .bool false]) w := by kernel_rfl
theorem a55_54 (v : Value) (w : World) : (Instr.typeAssert (.iface 55 v) 46 54 true).run Try.prog w = .ok (.tuple #[.pointer none, .bool false]) w := by kernel_rfl
theorem a55_55 (v : Value) (w : World) : (Instr.typeAssert (.iface 55 v) 46 55 true).run Try.prog w = .ok (.tuple #[v, .bool true]) w := by kernel_rfl
theorem isBool_method (a : Addr) (w : World) : (method 262 59 (.pointer (some a)) "IsBoolFlag").run Try.prog w = .ok (107, .pointer (some a)) w := by kernel_rfl
theorem isBool_any (v : Value) (w : World) : Calls Try.prog 107 #[v] w fun e w' => e = .returned (.bool true) ∧ w = w' := by
  go_enter Try.func107, Try.ntmps107
  go_wp2
  go_ret
  exact ⟨rfl, rfl⟩
set_option maxRecDepth 100000 in
set_option maxHeartbeats 400000 in
theorem unquote_none_bool (f p : Nat) (s : ByteArray) (w : World) (hs : s.size ≤ 16777216) (hu : w.cell? ⟨f, 1, none⟩ = some (.string s))
    (hv : w.cell? ⟨f, 2, none⟩ = some (.iface 59 (.pointer (some ⟨p, 0, none⟩))))
    (hno : ∀ k (hk : k < s.size), ((s[k].toNat : Int) == 96) = false) :
    Calls Try.prog 10 #[.pointer (some ⟨f, 0, none⟩)] w fun e w' => e = .returned (.tuple #[.string ⟨#[]⟩, .string s]) ∧ ∃ n, w' = w.drewN n := by
  have Hno := Lib.hid hno
  clear hno
  have ha := assert_bool
  have hm := isBool_method
  go_enter Try.func10, Try.ntmps10
  go_wp2
  go_loop [3, 4] (fun u i => u = .string s ∧ ∃ k : Nat, k ≤ s.size ∧ i = .int .i64 k) (fun _ i => s.size - (intOf i).toNat)
  case atStart => exact ⟨rfl, 0, Nat.zero_le _, rfl⟩
  case round =>
    obtain ⟨rfl, k, hk, rfl⟩ := hrel
    by_cases hlt : k < s.size
    · have hb := Hno.out k (by omega)
      go_wp2
      go_round
      case rel => exact ⟨rfl, k + 1, by omega, by go_num⟩
      case measure => simp [intOf]; omega
    · go_wp2_with (first | (go_at_call 107; refine (isBool_any _ _).mono ?_; rintro e w' ⟨rfl, rfl⟩))
      go_ret2
      exact ⟨rfl, 0, rfl⟩
set_option maxRecDepth 100000 in
set_option maxHeartbeats 400000 in
theorem unquote_none_int (f p : Nat) (s : ByteArray) (w : World) (hs : s.size ≤ 16777216) (hu : w.cell? ⟨f, 1, none⟩ = some (.string s))
    (hv : w.cell? ⟨f, 2, none⟩ = some (.iface 53 (.pointer (some ⟨p, 0, none⟩))))
    (hno : ∀ k (hk : k < s.size), ((s[k].toNat : Int) == 96) = false) :
    Calls Try.prog 10 #[.pointer (some ⟨f, 0, none⟩)] w fun e w' => e = .returned (.tuple #[.string ⟨#[105, 110, 116]⟩, .string s]) ∧ ∃ n, w' = w.drewN n := by
  have Hno := Lib.hid hno
  clear hno
  have ha := assert_int
  have ha1 := a53_52
  have ha2 := a53_53
  have ha3 := a53_54
  go_enter Try.func10, Try.ntmps10
  go_wp2
  go_loop [3, 4] (fun u i => u = .string s ∧ ∃ k : Nat, k ≤ s.size ∧ i = .int .i64 k) (fun _ i => s.size - (intOf i).toNat)
  case atStart => exact ⟨rfl, 0, Nat.zero_le _, rfl⟩
  case round =>
    obtain ⟨rfl, k, hk, rfl⟩ := hrel
    by_cases hlt : k < s.size
    · have hb := Hno.out k (by omega)
      go_wp2
      go_round
      case rel => exact ⟨rfl, k + 1, by omega, by go_num⟩
      case measure => simp [intOf]; omega
    · go_wp2
      go_ret2
      exact ⟨rfl, 0, rfl⟩
set_option maxRecDepth 100000 in
set_option maxHeartbeats 400000 in
theorem unquote_none_string (f p : Nat) (s : ByteArray) (w : World) (hs : s.size ≤ 16777216) (hu : w.cell? ⟨f, 1, none⟩ = some (.string s))
    (hv : w.cell? ⟨f, 2, none⟩ = some (.iface 55 (.pointer (some ⟨p, 0, none⟩))))
    (hno : ∀ k (hk : k < s.size), ((s[k].toNat : Int) == 96) = false) :
    Calls Try.prog 10 #[.pointer (some ⟨f, 0, none⟩)] w fun e w' => e = .returned (.tuple #[.string ⟨#[115, 116, 114, 105, 110, 103]⟩, .string s]) ∧ ∃ n, w' = w.drewN n := by
  have Hno := Lib.hid hno
  clear hno
  have ha := assert_string
  have ha1 := a55_52
  have ha2 := a55_53
  have ha3 := a55_54
  have ha4 := a55_55
  go_enter Try.func10, Try.ntmps10
  go_wp2
  go_loop [3, 4] (fun u i => u = .string s ∧ ∃ k : Nat, k ≤ s.size ∧ i = .int .i64 k) (fun _ i => s.size - (intOf i).toNat)
  case atStart => exact ⟨rfl, 0, Nat.zero_le _, rfl⟩
  case round =>
    obtain ⟨rfl, k, hk, rfl⟩ := hrel
    by_cases hlt : k < s.size
    · have hb := Hno.out k (by omega)
      go_wp2
      go_round
      case rel => exact ⟨rfl, k + 1, by omega, by go_num⟩
      case measure => simp [intOf]; omega
    · go_wp2
      go_ret2
      exact ⟨rfl, 0, rfl⟩
set_option maxRecDepth 100000 in
set_option maxHeartbeats 400000 in
theorem unquote_one_bool (f p i0 : Nat) (s : ByteArray) (w : World) (hs : s.size ≤ 16777216) (hu : w.cell? ⟨f, 1, none⟩ = some (.string s))
    (hv : w.cell? ⟨f, 2, none⟩ = some (.iface 59 (.pointer (some ⟨p, 0, none⟩)))) (hi : i0 < s.size) (hi1 : (s[i0].toNat : Int) = 96)
    (hno : ∀ k (hk : k < s.size), k ≠ i0 → ((s[k].toNat : Int) == 96) = false) :
    Calls Try.prog 10 #[.pointer (some ⟨f, 0, none⟩)] w fun e w' => e = .returned (.tuple #[.string ⟨#[]⟩, .string s]) ∧ ∃ n, w' = w.drewN n := by
  have Hno := Lib.hid hno
  clear hno
  have Hi := Lib.hid hi1
  clear hi1
  have ha := assert_bool
  have hm := isBool_method
  go_enter Try.func10, Try.ntmps10
  go_wp2
  go_loop [3, 4] (fun u i => u = .string s ∧ ∃ k : Nat, k ≤ i0 ∧ i = .int .i64 k) (fun _ i => s.size - (intOf i).toNat)
  case atStart => exact ⟨rfl, 0, Nat.zero_le _, rfl⟩
  case round =>
    obtain ⟨rfl, k, hk, rfl⟩ := hrel
    by_cases hlt : k < i0
    · have hb := Hno.out k (by omega) (by omega)
      go_wp2
      go_round
      case rel => exact ⟨rfl, k + 1, by omega, by go_num⟩
      case measure => simp [intOf]; omega
    · obtain rfl : k = i0 := by omega
      have hb : ((s[k].toNat : Int) == 96) = true := by rw [Hi.out]; rfl
      go_wp2
      clear hb
      go_loop [3, 5] (fun u j => u = .string s ∧ ∃ m : Nat, k + 1 ≤ m ∧ m ≤ s.size ∧ j = .int .i64 m) (fun _ j => s.size - (intOf j).toNat)
      case atStart => exact ⟨rfl, k + 1, by omega, by omega, by go_num⟩
      case round =>
        obtain ⟨rfl, m, hm1, hm2, rfl⟩ := hrel
        by_cases hlt : m < s.size
        · have hb := Hno.out m (by omega) (by omega)
          go_wp2
          go_round
          case rel => exact ⟨rfl, m + 1, by omega, by omega, by go_num⟩
          case measure => simp [intOf]; omega
        · go_wp2_with (first | (go_at_call 107; refine (isBool_any _ _).mono ?_; rintro e w' ⟨rfl, rfl⟩))
          go_ret2
          exact ⟨rfl, 0, rfl⟩
set_option maxRecDepth 100000 in
set_option maxHeartbeats 400000 in
theorem unquote_one_int (f p i0 : Nat) (s : ByteArray) (w : World) (hs : s.size ≤ 16777216) (hu : w.cell? ⟨f, 1, none⟩ = some (.string s))
    (hv : w.cell? ⟨f, 2, none⟩ = some (.iface 53 (.pointer (some ⟨p, 0, none⟩)))) (hi : i0 < s.size) (hi1 : (s[i0].toNat : Int) = 96)
    (hno : ∀ k (hk : k < s.size), k ≠ i0 → ((s[k].toNat : Int) == 96) = false) :
    Calls Try.prog 10 #[.pointer (some ⟨f, 0, none⟩)] w fun e w' => e = .returned (.tuple #[.string ⟨#[105, 110, 116]⟩, .string s]) ∧ ∃ n, w' = w.drewN n := by
  have Hno := Lib.hid hno
  clear hno
  have Hi := Lib.hid hi1
  clear hi1
  have ha := assert_int
  have ha1 := a53_52
  have ha2 := a53_53
  have ha3 := a53_54
  go_enter Try.func10, Try.ntmps10
  go_wp2
  go_loop [3, 4] (fun u i => u = .string s ∧ ∃ k : Nat, k ≤ i0 ∧ i = .int .i64 k) (fun _ i => s.size - (intOf i).toNat)
  case atStart => exact ⟨rfl, 0, Nat.zero_le _, rfl⟩
  case round =>
    obtain ⟨rfl, k, hk, rfl⟩ := hrel
    by_cases hlt : k < i0
    · have hb := Hno.out k (by omega) (by omega)
      go_wp2
      go_round
      case rel => exact ⟨rfl, k + 1, by omega, by go_num⟩
      case measure => simp [intOf]; omega
    · obtain rfl : k = i0 := by omega
      have hb : ((s[k].toNat : Int) == 96) = true := by rw [Hi.out]; rfl
      go_wp2
      clear hb
      go_loop [3, 5] (fun u j => u = .string s ∧ ∃ m : Nat, k + 1 ≤ m ∧ m ≤ s.size ∧ j = .int .i64 m) (fun _ j => s.size - (intOf j).toNat)
      case atStart => exact ⟨rfl, k + 1, by omega, by omega, by go_num⟩
      case round =>
        obtain ⟨rfl, m, hm1, hm2, rfl⟩ := hrel
        by_cases hlt : m < s.size
        · have hb := Hno.out m (by omega) (by omega)
          go_wp2
          go_round
          case rel => exact ⟨rfl, m + 1, by omega, by omega, by go_num⟩
          case measure => simp [intOf]; omega
        · go_wp2
          go_ret2
          exact ⟨rfl, 0, rfl⟩
set_option maxRecDepth 100000 in
set_option maxHeartbeats 400000 in
theorem unquote_one_string (f p i0 : Nat) (s : ByteArray) (w : World) (hs : s.size ≤ 16777216) (hu : w.cell? ⟨f, 1, none⟩ = some (.string s))
    (hv : w.cell? ⟨f, 2, none⟩ = some (.iface 55 (.pointer (some ⟨p, 0, none⟩)))) (hi : i0 < s.size) (hi1 : (s[i0].toNat : Int) = 96)
    (hno : ∀ k (hk : k < s.size), k ≠ i0 → ((s[k].toNat : Int) == 96) = false) :
    Calls Try.prog 10 #[.pointer (some ⟨f, 0, none⟩)] w fun e w' => e = .returned (.tuple #[.string ⟨#[115, 116, 114, 105, 110, 103]⟩, .string s]) ∧ ∃ n, w' = w.drewN n := by
  have Hno := Lib.hid hno
  clear hno
  have Hi := Lib.hid hi1
  clear hi1
  have ha := assert_string
  have ha1 := a55_52
  have ha2 := a55_53
  have ha3 := a55_54
  have ha4 := a55_55
  go_enter Try.func10, Try.ntmps10
  go_wp2
  go_loop [3, 4] (fun u i => u = .string s ∧ ∃ k : Nat, k ≤ i0 ∧ i = .int .i64 k) (fun _ i => s.size - (intOf i).toNat)
  case atStart => exact ⟨rfl, 0, Nat.zero_le _, rfl⟩
  case round =>
    obtain ⟨rfl, k, hk, rfl⟩ := hrel
    by_cases hlt : k < i0
    · have hb := Hno.out k (by omega) (by omega)
      go_wp2
      go_round
      case rel => exact ⟨rfl, k + 1, by omega, by go_num⟩
      case measure => simp [intOf]; omega
    · obtain rfl : k = i0 := by omega
      have hb : ((s[k].toNat : Int) == 96) = true := by rw [Hi.out]; rfl
      go_wp2
      clear hb
      go_loop [3, 5] (fun u j => u = .string s ∧ ∃ m : Nat, k + 1 ≤ m ∧ m ≤ s.size ∧ j = .int .i64 m) (fun _ j => s.size - (intOf j).toNat)
      case atStart => exact ⟨rfl, k + 1, by omega, by omega, by go_num⟩
      case round =>
        obtain ⟨rfl, m, hm1, hm2, rfl⟩ := hrel
        by_cases hlt : m < s.size
        · have hb := Hno.out m (by omega) (by omega)
          go_wp2
          go_round
          case rel => exact ⟨rfl, m + 1, by omega, by omega, by go_num⟩
          case measure => simp [intOf]; omega
        · go_wp2
          go_ret2
          exact ⟨rfl, 0, rfl⟩
end Go.Proofs.Ytofmiellnellnaa
