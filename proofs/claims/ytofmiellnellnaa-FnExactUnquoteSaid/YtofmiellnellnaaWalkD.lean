/-
  The law FnExactUnquote returns true at every kind and every usage, and nothing that was in memory before the call is written.
  Conditions: none, but that the usage is no longer than a Go string can be.
-/
import Derived.Test.YtofmiellnellnaaWalkC
namespace Go.Proofs.Ytofmiellnellnaa
open Go.RowKit
theorem look_one (w : World) (r n : Nat) (hb : w.heap[r]? = some (.map (entries n) 1)) :
    (Instr.lookup 38 (.map (some r)) (.string ⟨#[120]⟩) false).run Try.prog w = .ok (.pointer (some ⟨n, 0, none⟩)) w := by
  have hf : Instr.findNow .string (.string ⟨#[120]⟩) (entries n).toList 0 = some (some (0, .pointer (some ⟨n, 0, none⟩))) := rfl
  have hc : (Instr.checkKey (entries n).isEmpty 10000 9 (.string ⟨#[120]⟩)).run Try.prog w = .ok () w := MapKept.run_checkKey (k := .string ⟨#[120]⟩) Try.underlying9 (by simp [MapKept.IsKey]) _ 9999
  simp [Instr.lookup, run_underlying Try.underlying38, MapKept.run_getObj_map hb, hc, MapKept.run_findKey Try.underlying9 hf, Result.andThen]
set_option maxRecDepth 100000 in
set_option maxHeartbeats 400000 in
theorem lookup_any (b r n : Nat) (w : World) (h4 : w.cell? ⟨b, 4, none⟩ = some (.map (some r))) (hb : w.heap[r]? = some (.map (entries n) 1)) :
    Calls Try.prog 11 #[.pointer (some ⟨b, 0, none⟩), .string ⟨#[120]⟩] w fun e w' => e = .returned (.pointer (some ⟨n, 0, none⟩)) ∧ w = w' := by
  have hl := look_one w r n hb
  clear hb
  go_enter Try.func11, Try.ntmps11
  go_wp2
  go_ret
  exact ⟨rfl, rfl⟩
/-- The block of a new set of flags. -/
def setObj : Obj := .cells #[.nilFunc, .string ⟨#[]⟩, .bool false, .map none, .map none, .slice none 0 0, .int .i64 0, .map none] 41
set_option maxHeartbeats 400000 in
theorem new_any (w : World) :
    Calls Try.prog 6 #[.string ⟨#[]⟩, .int .i64 0] w fun e w' => e = .returned (.pointer (some ⟨w.heap.size, 0, none⟩)) ∧ w' = w.alloc setObj := by
  go_enter Try.func6, Try.ntmps6
  go_wp2
  go_ret
  exact ⟨rfl, rfl⟩
/-- UnquoteUsage of a flag with the usage s and a value of type T answers n and x. -/
def Tells (T : Nat) (s n x : ByteArray) : Prop :=
  ∀ (f p : Nat) (w : World), w.cell? ⟨f, 1, none⟩ = some (.string s) → w.cell? ⟨f, 2, none⟩ = some (.iface T (.pointer (some ⟨p, 0, none⟩))) →
    Calls Try.prog 10 #[.pointer (some ⟨f, 0, none⟩)] w fun e w' => e = .returned (.tuple #[.string n, .string x]) ∧ ∃ m, w' = w.drewN m
theorem below_drewN {B : Nat} {a w : World} (h : Below B a w) (n : Nat) : Below B a (w.drewN n) := ⟨h.os, h.tape, h.output, h.size, h.block⟩
set_option maxRecDepth 100000 in
set_option maxHeartbeats 400000 in
theorem unquote_bool (s n x : ByteArray) (h10 : Tells 59 s n x) (w : World) :
    Calls Try.prog 4 #[.int .i64 0, .string s] w fun e w' => e = .returned (.tuple #[.string n, .string x]) ∧ Below w.heap.size w w' := by
  have g4 : (w.alloc setObj).cell? ⟨w.heap.size, 4, none⟩ = some (.map none) := by unfold setObj; go_simp
  have g7 : (w.alloc setObj).cell? ⟨w.heap.size, 7, none⟩ = some (.map none) := by unfold setObj; go_simp
  have e4 : (w.alloc setObj).frozen? ⟨w.heap.size, 4, none⟩ = false := by unfold setObj; go_simp
  have q4 : ((w.alloc setObj).alloc (.cells #[.bool false] 4)).cell? ⟨w.heap.size, 4, none⟩ = some (.map none) := by unfold setObj; go_simp
  have H7 := Lib.hid (bool_any w.heap.size s (w.alloc setObj) g4 g7 e4 (by simp))
  have hz : ((w.alloc setObj).alloc (.cells #[.bool false] 4)).heap.size = w.heap.size + 2 := by simp
  have B1 := Lib.hid (below_varWorld ((w.alloc setObj).alloc (.cells #[.bool false] 4)) w.heap.size 59 (w.heap.size + 1) s ⟨#[102, 97, 108, 115, 101]⟩ (B := w.heap.size) (Nat.le_refl _) (by simp; omega))
  have M1 := map_varWorld ((w.alloc setObj).alloc (.cells #[.bool false] 4)) w.heap.size 59 (w.heap.size + 1) s ⟨#[102, 97, 108, 115, 101]⟩
  have F1 := formal_varWorld ((w.alloc setObj).alloc (.cells #[.bool false] 4)) w.heap.size 59 (w.heap.size + 1) s ⟨#[102, 97, 108, 115, 101]⟩ (by simp; omega) q4
  have U1 := usage_varWorld ((w.alloc setObj).alloc (.cells #[.bool false] 4)) w.heap.size 59 (w.heap.size + 1) s ⟨#[102, 97, 108, 115, 101]⟩
  have V1 := value_varWorld ((w.alloc setObj).alloc (.cells #[.bool false] 4)) w.heap.size 59 (w.heap.size + 1) s ⟨#[102, 97, 108, 115, 101]⟩
  rw [hz] at M1 F1 U1 V1
  have H11 := Lib.hid (lookup_any w.heap.size (w.heap.size + 2 + 1) (w.heap.size + 2) _ F1 M1)
  have H10 := Lib.hid (h10 _ _ _ U1 V1)
  clear g4 g7 e4 q4 hz M1 F1 U1 V1 h10
  go_enter Try.func4, Try.ntmps4
  go_wp2_with fail
  refine (new_any w).mono ?_
  rintro e w' ⟨rfl, rfl⟩
  go_wp2_with fail
  refine H7.out.mono ?_
  rintro e w' ⟨rfl, rfl⟩
  go_wp2_with fail
  refine H11.out.mono ?_
  rintro e w' ⟨rfl, rfl⟩
  go_wp2_with fail
  refine H10.out.mono ?_
  rintro e w' ⟨rfl, m, rfl⟩
  go_wp2_with fail
  go_ret2
  exact ⟨rfl, below_drewN (((Below.refl w.heap.size w).alloc (Nat.le_refl _) _).alloc (by simp) _ |>.trans B1.out) m⟩
set_option maxRecDepth 100000 in
set_option maxHeartbeats 400000 in
theorem unquote_int (s n x : ByteArray) (h10 : Tells 53 s n x) (w : World) :
    Calls Try.prog 4 #[.int .i64 1, .string s] w fun e w' => e = .returned (.tuple #[.string n, .string x]) ∧ Below w.heap.size w w' := by
  have g4 : (w.alloc setObj).cell? ⟨w.heap.size, 4, none⟩ = some (.map none) := by unfold setObj; go_simp
  have g7 : (w.alloc setObj).cell? ⟨w.heap.size, 7, none⟩ = some (.map none) := by unfold setObj; go_simp
  have e4 : (w.alloc setObj).frozen? ⟨w.heap.size, 4, none⟩ = false := by unfold setObj; go_simp
  have q4 : ((w.alloc setObj).alloc (.cells #[.int .i64 0] 3)).cell? ⟨w.heap.size, 4, none⟩ = some (.map none) := by unfold setObj; go_simp
  have H7 := Lib.hid (int_any w.heap.size s (w.alloc setObj) g4 g7 e4 (by simp))
  have hz : ((w.alloc setObj).alloc (.cells #[.int .i64 0] 3)).heap.size = w.heap.size + 2 := by simp
  have B1 := Lib.hid (below_varWorld ((w.alloc setObj).alloc (.cells #[.int .i64 0] 3)) w.heap.size 53 (w.heap.size + 1) s ⟨#[48]⟩ (B := w.heap.size) (Nat.le_refl _) (by simp; omega))
  have M1 := map_varWorld ((w.alloc setObj).alloc (.cells #[.int .i64 0] 3)) w.heap.size 53 (w.heap.size + 1) s ⟨#[48]⟩
  have F1 := formal_varWorld ((w.alloc setObj).alloc (.cells #[.int .i64 0] 3)) w.heap.size 53 (w.heap.size + 1) s ⟨#[48]⟩ (by simp; omega) q4
  have U1 := usage_varWorld ((w.alloc setObj).alloc (.cells #[.int .i64 0] 3)) w.heap.size 53 (w.heap.size + 1) s ⟨#[48]⟩
  have V1 := value_varWorld ((w.alloc setObj).alloc (.cells #[.int .i64 0] 3)) w.heap.size 53 (w.heap.size + 1) s ⟨#[48]⟩
  rw [hz] at M1 F1 U1 V1
  have H11 := Lib.hid (lookup_any w.heap.size (w.heap.size + 2 + 1) (w.heap.size + 2) _ F1 M1)
  have H10 := Lib.hid (h10 _ _ _ U1 V1)
  clear g4 g7 e4 q4 hz M1 F1 U1 V1 h10
  go_enter Try.func4, Try.ntmps4
  go_wp2_with fail
  refine (new_any w).mono ?_
  rintro e w' ⟨rfl, rfl⟩
  go_wp2_with fail
  refine H7.out.mono ?_
  rintro e w' ⟨rfl, rfl⟩
  go_wp2_with fail
  refine H11.out.mono ?_
  rintro e w' ⟨rfl, rfl⟩
  go_wp2_with fail
  refine H10.out.mono ?_
  rintro e w' ⟨rfl, m, rfl⟩
  go_wp2_with fail
  go_ret2
  exact ⟨rfl, below_drewN (((Below.refl w.heap.size w).alloc (Nat.le_refl _) _).alloc (by simp) _ |>.trans B1.out) m⟩
set_option maxRecDepth 100000 in
set_option maxHeartbeats 400000 in
theorem unquote_string (s n x : ByteArray) (h10 : Tells 55 s n x) (w : World) :
    Calls Try.prog 4 #[.int .i64 2, .string s] w fun e w' => e = .returned (.tuple #[.string n, .string x]) ∧ Below w.heap.size w w' := by
  have g4 : (w.alloc setObj).cell? ⟨w.heap.size, 4, none⟩ = some (.map none) := by unfold setObj; go_simp
  have g7 : (w.alloc setObj).cell? ⟨w.heap.size, 7, none⟩ = some (.map none) := by unfold setObj; go_simp
  have e4 : (w.alloc setObj).frozen? ⟨w.heap.size, 4, none⟩ = false := by unfold setObj; go_simp
  have q4 : ((w.alloc setObj).alloc (.cells #[.string ⟨#[]⟩] 9)).cell? ⟨w.heap.size, 4, none⟩ = some (.map none) := by unfold setObj; go_simp
  have H7 := Lib.hid (string_any w.heap.size s (w.alloc setObj) g4 g7 e4 (by simp))
  have hz : ((w.alloc setObj).alloc (.cells #[.string ⟨#[]⟩] 9)).heap.size = w.heap.size + 2 := by simp
  have B1 := Lib.hid (below_varWorld ((w.alloc setObj).alloc (.cells #[.string ⟨#[]⟩] 9)) w.heap.size 55 (w.heap.size + 1) s ⟨#[]⟩ (B := w.heap.size) (Nat.le_refl _) (by simp; omega))
  have M1 := map_varWorld ((w.alloc setObj).alloc (.cells #[.string ⟨#[]⟩] 9)) w.heap.size 55 (w.heap.size + 1) s ⟨#[]⟩
  have F1 := formal_varWorld ((w.alloc setObj).alloc (.cells #[.string ⟨#[]⟩] 9)) w.heap.size 55 (w.heap.size + 1) s ⟨#[]⟩ (by simp; omega) q4
  have U1 := usage_varWorld ((w.alloc setObj).alloc (.cells #[.string ⟨#[]⟩] 9)) w.heap.size 55 (w.heap.size + 1) s ⟨#[]⟩
  have V1 := value_varWorld ((w.alloc setObj).alloc (.cells #[.string ⟨#[]⟩] 9)) w.heap.size 55 (w.heap.size + 1) s ⟨#[]⟩
  rw [hz] at M1 F1 U1 V1
  have H11 := Lib.hid (lookup_any w.heap.size (w.heap.size + 2 + 1) (w.heap.size + 2) _ F1 M1)
  have H10 := Lib.hid (h10 _ _ _ U1 V1)
  clear g4 g7 e4 q4 hz M1 F1 U1 V1 h10
  go_enter Try.func4, Try.ntmps4
  go_wp2_with fail
  refine (new_any w).mono ?_
  rintro e w' ⟨rfl, rfl⟩
  go_wp2_with fail
  refine H7.out.mono ?_
  rintro e w' ⟨rfl, rfl⟩
  go_wp2_with fail
  refine H11.out.mono ?_
  rintro e w' ⟨rfl, rfl⟩
  go_wp2_with fail
  refine H10.out.mono ?_
  rintro e w' ⟨rfl, m, rfl⟩
  go_wp2_with fail
  go_ret2
  exact ⟨rfl, below_drewN (((Below.refl w.heap.size w).alloc (Nat.le_refl _) _).alloc (by simp) _ |>.trans B1.out) m⟩
theorem first_of (P : Nat → Prop) (n : Nat) : (∀ k, k < n → ¬ P k) ∨ ∃ i, i < n ∧ P i ∧ ∀ k, k < i → ¬ P k := by
  induction n with
  | zero => exact .inl fun k hk => absurd hk (Nat.not_lt_zero _)
  | succ n ih =>
    rcases ih with h | ⟨i, hi, hp, hl⟩
    · by_cases hn : P n
      · exact .inr ⟨n, Nat.lt_succ_self _, hn, h⟩
      · refine .inl fun k hk => ?_
        by_cases e : k = n
        · rw [e]; exact hn
        · exact h k (by omega)
    · exact .inr ⟨i, by omega, hp, hl⟩
/-- Where the back quotes of a text stand: nowhere, at one place, or first at two. -/
theorem quotes (s : ByteArray) :
    (∀ k (hk : k < s.size), (s[k].toNat : Int) ≠ 96) ∨
    (∃ i, ∃ hi : i < s.size, (s[i].toNat : Int) = 96 ∧ ∀ k (hk : k < s.size), k ≠ i → (s[k].toNat : Int) ≠ 96) ∨
    (∃ i j, ∃ (hij : i < j) (hj : j < s.size), (s[i].toNat : Int) = 96 ∧ (s[j].toNat : Int) = 96 ∧ ∀ k (hk : k < s.size), k < j → k ≠ i → (s[k].toNat : Int) ≠ 96) := by
  rcases first_of (fun k => ∃ hk : k < s.size, (s[k].toNat : Int) = 96) s.size with h | ⟨i, hi, ⟨_, hq⟩, hl⟩
  · exact .inl fun k hk e => h k hk ⟨hk, e⟩
  · rcases first_of (fun k => i < k ∧ ∃ hk : k < s.size, (s[k].toNat : Int) = 96) s.size with g | ⟨j, hj, ⟨hij, _, hr⟩, gl⟩
    · refine .inr (.inl ⟨i, hi, hq, fun k hk hne e => ?_⟩)
      by_cases hlt : k < i
      · exact hl k hlt ⟨hk, e⟩
      · exact g k hk ⟨by omega, hk, e⟩
    · refine .inr (.inr ⟨i, j, hij, hj, hq, hr, fun k hk hkj hne e => ?_⟩)
      by_cases hlt : k < i
      · exact hl k hlt ⟨hk, e⟩
      · exact gl k hkj ⟨by omega, hk, e⟩
theorem eqF {a : Int} (h : a ≠ 96) : (a == 96) = false := by simpa using h
theorem neT {a : Int} (h : a ≠ 96) : (a != 96) = true := by simpa using h
/-- The reference answers n and x. -/
def Speaks (K : Int) (s n x : ByteArray) : Prop :=
  ∀ w : World, Calls Try.prog 5 #[.int .i64 K, .string s] w fun e w' => e = .returned (.tuple #[.string n, .string x]) ∧ Below w.heap.size w w'
theorem agree_bool (s : ByteArray) (hs : s.size ≤ 16777216) : ∃ n x, Tells 59 s n x ∧ Speaks 0 s n x := by
  rcases quotes s with h | ⟨i, hi, h1, h⟩ | ⟨i, j, hij, hj, h1, h2, h⟩
  · exact ⟨_, _, fun f p w hu hv => unquote_none_bool f p s w hs hu hv fun k hk => eqF (h k hk), fun w => spec_none_bool s w hs fun k hk => neT (h k hk)⟩
  · exact ⟨_, _, fun f p w hu hv => unquote_one_bool f p i s w hs hu hv hi h1 fun k hk a => eqF (h k hk a), fun w => spec_one_bool i s w hs hi h1 fun k hk a => neT (h k hk a)⟩
  · exact ⟨_, _, fun f p w hu _ => unquote_two f i j s w hs hu hij hj h1 h2 fun k hk a b => eqF (h k hk a b), fun w => (spec_two 0 i j s w hs hij hj h1 h2 fun k hk a b => neT (h k hk a b)).mono fun e w' ⟨he, m, hm⟩ => ⟨he, hm ▸ below_drewN (Below.refl _ _) m⟩⟩
/-- Unquote and the reference answer the same. -/
theorem both_bool (s : ByteArray) (hs : s.size ≤ 16777216) : ∃ n x : ByteArray,
    (∀ w, Calls Try.prog 4 #[.int .i64 0, .string s] w fun e w' => e = .returned (.tuple #[.string n, .string x]) ∧ Below w.heap.size w w') ∧ Speaks 0 s n x := by
  obtain ⟨n, x, h, g⟩ := agree_bool s hs
  exact ⟨n, x, fun w => unquote_bool s n x h w, g⟩
theorem agree_int (s : ByteArray) (hs : s.size ≤ 16777216) : ∃ n x, Tells 53 s n x ∧ Speaks 1 s n x := by
  rcases quotes s with h | ⟨i, hi, h1, h⟩ | ⟨i, j, hij, hj, h1, h2, h⟩
  · exact ⟨_, _, fun f p w hu hv => unquote_none_int f p s w hs hu hv fun k hk => eqF (h k hk), fun w => spec_none_int s w hs fun k hk => neT (h k hk)⟩
  · exact ⟨_, _, fun f p w hu hv => unquote_one_int f p i s w hs hu hv hi h1 fun k hk a => eqF (h k hk a), fun w => spec_one_int i s w hs hi h1 fun k hk a => neT (h k hk a)⟩
  · exact ⟨_, _, fun f p w hu _ => unquote_two f i j s w hs hu hij hj h1 h2 fun k hk a b => eqF (h k hk a b), fun w => (spec_two 1 i j s w hs hij hj h1 h2 fun k hk a b => neT (h k hk a b)).mono fun e w' ⟨he, m, hm⟩ => ⟨he, hm ▸ below_drewN (Below.refl _ _) m⟩⟩
/-- Unquote and the reference answer the same. -/
theorem both_int (s : ByteArray) (hs : s.size ≤ 16777216) : ∃ n x : ByteArray,
    (∀ w, Calls Try.prog 4 #[.int .i64 1, .string s] w fun e w' => e = .returned (.tuple #[.string n, .string x]) ∧ Below w.heap.size w w') ∧ Speaks 1 s n x := by
  obtain ⟨n, x, h, g⟩ := agree_int s hs
  exact ⟨n, x, fun w => unquote_int s n x h w, g⟩
theorem agree_string (s : ByteArray) (hs : s.size ≤ 16777216) : ∃ n x, Tells 55 s n x ∧ Speaks 2 s n x := by
  rcases quotes s with h | ⟨i, hi, h1, h⟩ | ⟨i, j, hij, hj, h1, h2, h⟩
  · exact ⟨_, _, fun f p w hu hv => unquote_none_string f p s w hs hu hv fun k hk => eqF (h k hk), fun w => spec_none_string s w hs fun k hk => neT (h k hk)⟩
  · exact ⟨_, _, fun f p w hu hv => unquote_one_string f p i s w hs hu hv hi h1 fun k hk a => eqF (h k hk a), fun w => spec_one_string i s w hs hi h1 fun k hk a => neT (h k hk a)⟩
  · exact ⟨_, _, fun f p w hu _ => unquote_two f i j s w hs hu hij hj h1 h2 fun k hk a b => eqF (h k hk a b), fun w => (spec_two 2 i j s w hs hij hj h1 h2 fun k hk a b => neT (h k hk a b)).mono fun e w' ⟨he, m, hm⟩ => ⟨he, hm ▸ below_drewN (Below.refl _ _) m⟩⟩
/-- Unquote and the reference answer the same. -/
theorem both_string (s : ByteArray) (hs : s.size ≤ 16777216) : ∃ n x : ByteArray,
    (∀ w, Calls Try.prog 4 #[.int .i64 2, .string s] w fun e w' => e = .returned (.tuple #[.string n, .string x]) ∧ Below w.heap.size w w') ∧ Speaks 2 s n x := by
  obtain ⟨n, x, h, g⟩ := agree_string s hs
  exact ⟨n, x, fun w => unquote_string s n x h w, g⟩
theorem both (a : Int) (s : ByteArray) (ha0 : 0 ≤ a) (ha2 : a ≤ 2) (hs : s.size ≤ 16777216) : ∃ n x : ByteArray,
    (∀ w, Calls Try.prog 4 #[.int .i64 a, .string s] w fun e w' => e = .returned (.tuple #[.string n, .string x]) ∧ Below w.heap.size w w') ∧ Speaks a s n x := by
  have h : a = 0 ∨ a = 1 ∨ a = 2 := by omega
  rcases h with rfl | rfl | rfl
  · exact both_bool s hs
  · exact both_int s hs
  · exact both_string s hs
set_option maxRecDepth 100000 in
set_option maxHeartbeats 400000 in
theorem law_in (a : Int) (s : ByteArray) (w : World) (ha0 : 0 ≤ a) (ha2 : a ≤ 2) (hs : s.size ≤ 16777216) :
    Calls Try.prog 3 #[.int .i64 a, .string s] w fun e w' => e = .returned (.bool true) ∧ Below w.heap.size w w' := by
  obtain ⟨n, x, h4, h5⟩ := both a s ha0 ha2 hs
  have H4 := Lib.hid h4
  have H5 := Lib.hid h5
  clear h4 h5
  have hn : (n.toList == n.toList) = true := by simp
  have hx : (x.toList == x.toList) = true := by simp
  go_enter Try.func3, Try.ntmps3
  go_wp2_with fail
  refine (H4.out w).mono ?_
  rintro e w1 ⟨rfl, hb1⟩
  go_wp2_with fail
  refine (H5.out w1).mono ?_
  rintro e w2 ⟨rfl, hb2⟩
  go_wp2_with fail
  go_ret
  exact ⟨rfl, hb1.trans (hb2.mono hb1.size)⟩
set_option maxRecDepth 100000 in
set_option maxHeartbeats 400000 in
theorem law_out (a : Int) (s : ByteArray) (w : World) (hm : s.size ≤ maxLen) (h : a < 0 ∨ 2 < a ∨ 16777216 < s.size) :
    Calls Try.prog 3 #[.int .i64 a, .string s] w fun e w' => e = .returned (.bool true) ∧ Below w.heap.size w w' := by
  unfold maxLen at hm
  by_cases h0 : 2147483647 < s.size
  · go_enter Try.func3, Try.ntmps3
    go_wp2
    go_ret
    exact ⟨rfl, Below.refl _ _⟩
  · by_cases h1 : a < 0
    · clear h
      go_enter Try.func3, Try.ntmps3
      go_wp2
      go_ret
      exact ⟨rfl, Below.refl _ _⟩
    · by_cases h2 : 2 < a
      · clear h
        go_enter Try.func3, Try.ntmps3
        go_wp2
        go_ret
        exact ⟨rfl, Below.refl _ _⟩
      · have h3 : 16777216 < s.size := by omega
        clear h
        go_enter Try.func3, Try.ntmps3
        go_wp2
        go_ret
        exact ⟨rfl, Below.refl _ _⟩
/-- The walk of the law: at every kind and every usage it returns true, and nothing that was there is written. -/
theorem walk (a : Int) (s : ByteArray) (w : World) (hm : s.size ≤ maxLen) :
    Calls Try.prog 3 #[.int .i64 a, .string s] w fun e w' => e = .returned (.bool true) ∧ Below w.heap.size w w' := by
  by_cases h : a < 0 ∨ 2 < a ∨ 16777216 < s.size
  · exact law_out a s w hm h
  · exact law_in a s w (by omega) (by omega) (by omega)
end Go.Proofs.Ytofmiellnellnaa
