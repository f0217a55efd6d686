/-
  The calls that define one flag named x in a new set of flags end as said here, at the three kinds of flags (Bool, Int, String), for every usage text.
  Conditions: the set of flags lies in memory that may be written and holds no flag yet.
-/
import Derived.Test.YtofmiellnellnaaProg
import Derived.WalkKit
import Derived.WalkSpells
import Derived.WalkLawsBesides
import Derived.Deep.QuietTactic
import Derived.BigQuiet
import Derived.Lib.Hide
import Derived.WideMake
namespace Go.Proofs.Ytofmiellnellnaa
open Go.RowKit
set_option maxHeartbeats 400000 in
theorem prefix_any (w : World) :
    Calls Try.prog 19 #[.string ⟨#[120]⟩, .string ⟨#[45]⟩] w fun e w' => e = .returned (.bool false) ∧ w = w' := by
  have h1 : (({ data := #[120] } : ByteArray).extract 0 1).toList = [120] := by kernel_rfl
  go_enter Try.func19, Try.ntmps19
  go_wp2
  go_ret
  exact ⟨rfl, rfl⟩
set_option maxHeartbeats 400000 in
theorem index_any (w : World) :
    Calls Try.prog 22 #[.string ⟨#[120]⟩, .string ⟨#[61]⟩] w fun e w' => e = .returned (.int .i64 (-1)) ∧ w = w' := by
  have h1 : (({ data := #[120] } : ByteArray).extract 0 1).toList = [120] := by kernel_rfl
  go_enter Try.func22, Try.ntmps22
  go_wp2
  go_loop [5] (fun i => i = .int .i64 0 ∨ i = .int .i64 1) (fun i => 1 - (intOf i).toNat)
  case atStart => exact .inl rfl
  case round =>
    rcases hrel with rfl | rfl
    · go_wp2
      go_round
      case rel => exact .inr rfl
      case measure => simp [intOf]
    · go_wp2
      go_ret
      exact ⟨rfl, rfl⟩
set_option maxHeartbeats 400000 in
theorem contains_any (w : World) :
    Calls Try.prog 20 #[.string ⟨#[120]⟩, .string ⟨#[61]⟩] w fun e w' => e = .returned (.bool false) ∧ w = w' := by
  go_enter Try.func20, Try.ntmps20
  go_wp2_with (go_at_call 22; refine (index_any _).mono ?_; rintro e w' ⟨rfl, rfl⟩)
  go_ret
  exact ⟨rfl, rfl⟩
set_option maxHeartbeats 400000 in
theorem small_any (w : World) :
    Calls Try.prog 81 #[.int .i64 0] w fun e w' => e = .returned (.string ⟨#[48]⟩) ∧ w = w' := by
  go_enter Try.func81, Try.ntmps81
  go_wp2
  go_ret
  exact ⟨rfl, rfl⟩
set_option maxHeartbeats 400000 in
theorem formatInt_any (w : World) :
    Calls Try.prog 95 #[.int .i64 0, .int .i64 10] w fun e w' => e = .returned (.string ⟨#[48]⟩) ∧ w = w' := by
  go_enter Try.func95, Try.ntmps95
  go_wp2_with (go_at_call 81; refine (small_any _).mono ?_; rintro e w' ⟨rfl, rfl⟩)
  go_ret
  exact ⟨rfl, rfl⟩
set_option maxHeartbeats 400000 in
theorem intString_any (b o : Nat) (w : World) (hc : w.cell? ⟨b, o, none⟩ = some (.int .i64 0)) :
    Calls Try.prog 92 #[.pointer (some ⟨b, o, none⟩)] w fun e w' => e = .returned (.string ⟨#[48]⟩) ∧ w = w' := by
  go_enter Try.func92, Try.ntmps92
  go_wp2_with (first | (go_at_call 95; refine (formatInt_any _).mono ?_; rintro e w' ⟨rfl, rfl⟩) | go_in)
  go_ret
  exact ⟨rfl, rfl⟩
set_option maxHeartbeats 400000 in
theorem boolString_any (b o : Nat) (w : World) (hc : w.cell? ⟨b, o, none⟩ = some (.bool false)) :
    Calls Try.prog 109 #[.pointer (some ⟨b, o, none⟩)] w fun e w' => e = .returned (.string ⟨#[102, 97, 108, 115, 101]⟩) ∧ w = w' := by
  go_enter Try.func109, Try.ntmps109
  go_wp2
  go_ret
  exact ⟨rfl, rfl⟩
set_option maxHeartbeats 400000 in
theorem stringString_any (b o : Nat) (w : World) (hc : w.cell? ⟨b, o, none⟩ = some (.string ⟨#[]⟩)) :
    Calls Try.prog 100 #[.pointer (some ⟨b, o, none⟩)] w fun e w' => e = .returned (.string ⟨#[]⟩) ∧ w = w' := by
  go_enter Try.func100, Try.ntmps100
  go_wp2
  go_ret
  exact ⟨rfl, rfl⟩
theorem string_bool (a : Addr) (w : World) : (method 262 59 (.pointer (some a)) "String").run Try.prog w = .ok (109, .pointer (some a)) w := by kernel_rfl
theorem string_int (a : Addr) (w : World) : (method 262 53 (.pointer (some a)) "String").run Try.prog w = .ok (92, .pointer (some a)) w := by kernel_rfl
theorem string_string (a : Addr) (w : World) : (method 262 55 (.pointer (some a)) "String").run Try.prog w = .ok (100, .pointer (some a)) w := by kernel_rfl
theorem look_formal (w : World) : (Instr.lookup 38 (.map none) (.string ⟨#[120]⟩) true).run Try.prog w = .ok (.tuple #[.pointer none, .bool false]) w := by kernel_rfl
theorem look_undef (w : World) : (Instr.lookup 39 (.map none) (.string ⟨#[120]⟩) false).run Try.prog w = .ok (.string ⟨#[]⟩) w := by kernel_rfl
theorem formal_nil (w : World) (r : Option Nat) : (binOp .eql 38 (.map r) (.map none)).run Try.prog w = .ok (.bool r.isNone) w := run_eql_map_nil w _ _ _ r Try.underlying38
/-- The block of the flag named x. -/
def flagObj (T p : Nat) (s d : ByteArray) : Obj := .cells #[.string ⟨#[120]⟩, .string s, .iface T (.pointer (some ⟨p, 0, none⟩)), .string d] 48
/-- The world behind Var, but for the entry of the map. -/
def varOpen (W : World) (b T p : Nat) (s d : ByteArray) : World := ((W.setCell ⟨b, 4, none⟩ (.map (some (W.heap.size + 1)))).alloc (flagObj T p s d)).alloc (.map #[] 0)
/-- The one entry of the map: the name x leads to the flag. -/
def entries (n : Nat) : Array MapEntry := #[{ key := .string ⟨#[120]⟩, val := .pointer (some ⟨n, 0, none⟩), born := 0 }]
/-- The world behind Var. -/
def varWorld (W : World) (b T p : Nat) (s d : ByteArray) : World :=
  { varOpen W b T p s d with heap := (varOpen W b T p s d).heap.setIfInBounds (W.heap.size + 1) (.map (entries W.heap.size) 1) }
theorem heap_varOpen (W : World) (b T p : Nat) (s d : ByteArray) : (varOpen W b T p s d).heap.size = W.heap.size + 2 := by
  simp [varOpen]
theorem store_map (W : World) (b T p : Nat) (s d : ByteArray) :
    (Instr.mapUpdate 38 (.map (some (W.heap.size + 1))) (.string ⟨#[120]⟩) (.pointer (some ⟨W.heap.size, 0, none⟩))).run Try.prog (varOpen W b T p s d) = .ok () (varWorld W b T p s d) := by
  have h := run_mapUpdate_first (P := Try.prog) (varOpen W b T p s d) 38 9 35 (W.heap.size + 1) 0 ⟨#[120]⟩ (.pointer (some ⟨W.heap.size, 0, none⟩)) Try.underlying38 Try.underlying9 (by simp [varOpen, World.alloc, Array.getElem_push])
  exact h
set_option maxRecDepth 100000 in
set_option maxHeartbeats 400000 in
theorem var_bool (b p : Nat) (s : ByteArray) (W : World) (hv : W.cell? ⟨p, 0, none⟩ = some (.bool false))
    (h4 : W.cell? ⟨b, 4, none⟩ = some (.map none)) (h7 : W.cell? ⟨b, 7, none⟩ = some (.map none)) (f4 : W.frozen? ⟨b, 4, none⟩ = false)
    (hb : b < W.heap.size) :
    Calls Try.prog 15 #[.pointer (some ⟨b, 0, none⟩), .iface 59 (.pointer (some ⟨p, 0, none⟩)), .string ⟨#[120]⟩, .string s] W fun e w' => e = .returned (.tuple #[]) ∧ w' = varWorld W b 59 p s ⟨#[102, 97, 108, 115, 101]⟩ := by
  have hm := string_bool
  have hmm := @run_makeMap Try.prog
  have hl := look_formal
  have hu := look_undef
  have hn := formal_nil
  have hs := store_map W b 59 p s ⟨#[102, 97, 108, 115, 101]⟩
  simp only [varOpen, flagObj] at hs
  go_enter Try.func15, Try.ntmps15
  go_wp2_with (first | (go_at_call 19; refine (prefix_any _).mono ?_; rintro e w' ⟨rfl, rfl⟩) | (go_at_call 20; refine (contains_any _).mono ?_; rintro e w' ⟨rfl, rfl⟩) | (go_at_call 109; refine (boolString_any _ _ _ (by assumption)).mono ?_; rintro e w' ⟨rfl, rfl⟩))
  go_end0
  exact ⟨rfl, rfl⟩
set_option maxRecDepth 100000 in
set_option maxHeartbeats 400000 in
theorem var_int (b p : Nat) (s : ByteArray) (W : World) (hv : W.cell? ⟨p, 0, none⟩ = some (.int .i64 0))
    (h4 : W.cell? ⟨b, 4, none⟩ = some (.map none)) (h7 : W.cell? ⟨b, 7, none⟩ = some (.map none)) (f4 : W.frozen? ⟨b, 4, none⟩ = false)
    (hb : b < W.heap.size) :
    Calls Try.prog 15 #[.pointer (some ⟨b, 0, none⟩), .iface 53 (.pointer (some ⟨p, 0, none⟩)), .string ⟨#[120]⟩, .string s] W fun e w' => e = .returned (.tuple #[]) ∧ w' = varWorld W b 53 p s ⟨#[48]⟩ := by
  have hm := string_int
  have hmm := @run_makeMap Try.prog
  have hl := look_formal
  have hu := look_undef
  have hn := formal_nil
  have hs := store_map W b 53 p s ⟨#[48]⟩
  simp only [varOpen, flagObj] at hs
  go_enter Try.func15, Try.ntmps15
  go_wp2_with (first | (go_at_call 19; refine (prefix_any _).mono ?_; rintro e w' ⟨rfl, rfl⟩) | (go_at_call 20; refine (contains_any _).mono ?_; rintro e w' ⟨rfl, rfl⟩) | (go_at_call 92; refine (intString_any _ _ _ (by assumption)).mono ?_; rintro e w' ⟨rfl, rfl⟩))
  go_end0
  exact ⟨rfl, rfl⟩
set_option maxRecDepth 100000 in
set_option maxHeartbeats 400000 in
theorem var_string (b p : Nat) (s : ByteArray) (W : World) (hv : W.cell? ⟨p, 0, none⟩ = some (.string ⟨#[]⟩))
    (h4 : W.cell? ⟨b, 4, none⟩ = some (.map none)) (h7 : W.cell? ⟨b, 7, none⟩ = some (.map none)) (f4 : W.frozen? ⟨b, 4, none⟩ = false)
    (hb : b < W.heap.size) :
    Calls Try.prog 15 #[.pointer (some ⟨b, 0, none⟩), .iface 55 (.pointer (some ⟨p, 0, none⟩)), .string ⟨#[120]⟩, .string s] W fun e w' => e = .returned (.tuple #[]) ∧ w' = varWorld W b 55 p s ⟨#[]⟩ := by
  have hm := string_string
  have hmm := @run_makeMap Try.prog
  have hl := look_formal
  have hu := look_undef
  have hn := formal_nil
  have hs := store_map W b 55 p s ⟨#[]⟩
  simp only [varOpen, flagObj] at hs
  go_enter Try.func15, Try.ntmps15
  go_wp2_with (first | (go_at_call 19; refine (prefix_any _).mono ?_; rintro e w' ⟨rfl, rfl⟩) | (go_at_call 20; refine (contains_any _).mono ?_; rintro e w' ⟨rfl, rfl⟩) | (go_at_call 100; refine (stringString_any _ _ _ (by assumption)).mono ?_; rintro e w' ⟨rfl, rfl⟩))
  go_end0
  exact ⟨rfl, rfl⟩
set_option maxRecDepth 100000 in
set_option maxHeartbeats 400000 in
theorem bool_any (b : Nat) (s : ByteArray) (W : World)
    (h4 : W.cell? ⟨b, 4, none⟩ = some (.map none)) (h7 : W.cell? ⟨b, 7, none⟩ = some (.map none)) (f4 : W.frozen? ⟨b, 4, none⟩ = false)
    (hb : b < W.heap.size) :
    Calls Try.prog 7 #[.pointer (some ⟨b, 0, none⟩), .string ⟨#[120]⟩, .bool false, .string s] W fun e w' => e = .returned (.pointer (some ⟨W.heap.size, 0, none⟩)) ∧ w' = varWorld (W.alloc (.cells #[.bool false] 4)) b 59 W.heap.size s ⟨#[102, 97, 108, 115, 101]⟩ := by
  have hv : (W.alloc (.cells #[.bool false] 4)).cell? ⟨W.heap.size, 0, none⟩ = some (.bool false) := by go_simp
  have g4 : (W.alloc (.cells #[.bool false] 4)).cell? ⟨b, 4, none⟩ = some (.map none) := by go_simp
  have g7 : (W.alloc (.cells #[.bool false] 4)).cell? ⟨b, 7, none⟩ = some (.map none) := by go_simp
  have e4 : (W.alloc (.cells #[.bool false] 4)).frozen? ⟨b, 4, none⟩ = false := by go_simp
  have hvar := var_bool b W.heap.size s (W.alloc (.cells #[.bool false] 4)) hv g4 g7 e4 (by simp; omega)
  clear hv g4 g7 e4
  go_enter Try.func7, Try.ntmps7
  go_wp2_with fail
  go_in
  go_wp2_with fail
  go_in
  go_wp2_with fail
  refine hvar.mono ?_
  rintro e w' ⟨rfl, rfl⟩
  go_wp2_with fail
  go_end0
  go_wp2_with fail
  go_ret
  exact ⟨rfl, rfl⟩
set_option maxRecDepth 100000 in
set_option maxHeartbeats 400000 in
theorem int_any (b : Nat) (s : ByteArray) (W : World)
    (h4 : W.cell? ⟨b, 4, none⟩ = some (.map none)) (h7 : W.cell? ⟨b, 7, none⟩ = some (.map none)) (f4 : W.frozen? ⟨b, 4, none⟩ = false)
    (hb : b < W.heap.size) :
    Calls Try.prog 8 #[.pointer (some ⟨b, 0, none⟩), .string ⟨#[120]⟩, .int .i64 0, .string s] W fun e w' => e = .returned (.pointer (some ⟨W.heap.size, 0, none⟩)) ∧ w' = varWorld (W.alloc (.cells #[.int .i64 0] 3)) b 53 W.heap.size s ⟨#[48]⟩ := by
  have hv : (W.alloc (.cells #[.int .i64 0] 3)).cell? ⟨W.heap.size, 0, none⟩ = some (.int .i64 0) := by go_simp
  have g4 : (W.alloc (.cells #[.int .i64 0] 3)).cell? ⟨b, 4, none⟩ = some (.map none) := by go_simp
  have g7 : (W.alloc (.cells #[.int .i64 0] 3)).cell? ⟨b, 7, none⟩ = some (.map none) := by go_simp
  have e4 : (W.alloc (.cells #[.int .i64 0] 3)).frozen? ⟨b, 4, none⟩ = false := by go_simp
  have hvar := var_int b W.heap.size s (W.alloc (.cells #[.int .i64 0] 3)) hv g4 g7 e4 (by simp; omega)
  clear hv g4 g7 e4
  go_enter Try.func8, Try.ntmps8
  go_wp2_with fail
  go_in
  go_wp2_with fail
  go_in
  go_wp2_with fail
  refine hvar.mono ?_
  rintro e w' ⟨rfl, rfl⟩
  go_wp2_with fail
  go_end0
  go_wp2_with fail
  go_ret
  exact ⟨rfl, rfl⟩
set_option maxRecDepth 100000 in
set_option maxHeartbeats 400000 in
theorem string_any (b : Nat) (s : ByteArray) (W : World)
    (h4 : W.cell? ⟨b, 4, none⟩ = some (.map none)) (h7 : W.cell? ⟨b, 7, none⟩ = some (.map none)) (f4 : W.frozen? ⟨b, 4, none⟩ = false)
    (hb : b < W.heap.size) :
    Calls Try.prog 9 #[.pointer (some ⟨b, 0, none⟩), .string ⟨#[120]⟩, .string ⟨#[]⟩, .string s] W fun e w' => e = .returned (.pointer (some ⟨W.heap.size, 0, none⟩)) ∧ w' = varWorld (W.alloc (.cells #[.string ⟨#[]⟩] 9)) b 55 W.heap.size s ⟨#[]⟩ := by
  have hv : (W.alloc (.cells #[.string ⟨#[]⟩] 9)).cell? ⟨W.heap.size, 0, none⟩ = some (.string ⟨#[]⟩) := by go_simp
  have g4 : (W.alloc (.cells #[.string ⟨#[]⟩] 9)).cell? ⟨b, 4, none⟩ = some (.map none) := by go_simp
  have g7 : (W.alloc (.cells #[.string ⟨#[]⟩] 9)).cell? ⟨b, 7, none⟩ = some (.map none) := by go_simp
  have e4 : (W.alloc (.cells #[.string ⟨#[]⟩] 9)).frozen? ⟨b, 4, none⟩ = false := by go_simp
  have hvar := var_string b W.heap.size s (W.alloc (.cells #[.string ⟨#[]⟩] 9)) hv g4 g7 e4 (by simp; omega)
  clear hv g4 g7 e4
  go_enter Try.func9, Try.ntmps9
  go_wp2_with fail
  go_in
  go_wp2_with fail
  go_in
  go_wp2_with fail
  refine hvar.mono ?_
  rintro e w' ⟨rfl, rfl⟩
  go_wp2_with fail
  go_end0
  go_wp2_with fail
  go_ret
  exact ⟨rfl, rfl⟩
theorem below_varOpen (W : World) (b T p : Nat) (s d : ByteArray) {B : Nat} (hB : B ≤ b) (hW : B ≤ W.heap.size) : Below B W (varOpen W b T p s d) :=
  (((Below.refl B W).setCell hB _).alloc (by simpa using hW) _).alloc (by simp; omega) _
theorem below_varWorld (W : World) (b T p : Nat) (s d : ByteArray) {B : Nat} (hB : B ≤ b) (hW : B ≤ W.heap.size) : Below B W (varWorld W b T p s d) := by
  have h := below_varOpen W b T p s d hB hW
  refine ⟨h.os, h.tape, h.output, by simpa [varWorld] using h.size, fun k hk => ?_⟩
  rw [← h.block k hk]
  show ((varOpen W b T p s d).heap.setIfInBounds (W.heap.size + 1) _)[k]? = _
  rw [Array.getElem?_setIfInBounds_ne (by omega)]
theorem map_varWorld (W : World) (b T p : Nat) (s d : ByteArray) : (varWorld W b T p s d).heap[W.heap.size + 1]? = some (.map (entries W.heap.size) 1) := by
  show ((varOpen W b T p s d).heap.setIfInBounds (W.heap.size + 1) _)[W.heap.size + 1]? = _
  rw [Array.getElem?_setIfInBounds_self, if_pos (by simp [heap_varOpen])]
theorem other_varWorld (W : World) (b T p : Nat) (s d : ByteArray) (k : Nat) (hk : k ≠ W.heap.size + 1) : (varWorld W b T p s d).heap[k]? = (varOpen W b T p s d).heap[k]? := by
  show ((varOpen W b T p s d).heap.setIfInBounds (W.heap.size + 1) _)[k]? = _
  rw [Array.getElem?_setIfInBounds_ne (by omega)]
theorem formal_varWorld (W : World) (b T p : Nat) (s d : ByteArray) (hb : b < W.heap.size) (h4 : W.cell? ⟨b, 4, none⟩ = some (.map none)) : (varWorld W b T p s d).cell? ⟨b, 4, none⟩ = some (.map (some (W.heap.size + 1))) := by
  rw [World.cell?_of_block (w := varOpen W b T p s d) (other_varWorld W b T p s d b (by omega))]
  unfold varOpen flagObj
  go_simp
theorem usage_varWorld (W : World) (b T p : Nat) (s d : ByteArray) : (varWorld W b T p s d).cell? ⟨W.heap.size, 1, none⟩ = some (.string s) := by
  rw [World.cell?_of_block (w := varOpen W b T p s d) (other_varWorld W b T p s d _ (by show W.heap.size ≠ _; omega))]
  unfold varOpen flagObj
  go_simp
theorem value_varWorld (W : World) (b T p : Nat) (s d : ByteArray) : (varWorld W b T p s d).cell? ⟨W.heap.size, 2, none⟩ = some (.iface T (.pointer (some ⟨p, 0, none⟩))) := by
  rw [World.cell?_of_block (w := varOpen W b T p s d) (other_varWorld W b T p s d _ (by show W.heap.size ≠ _; omega))]
  unfold varOpen flagObj
  go_simp
end Go.Proofs.Ytofmiellnellnaa
