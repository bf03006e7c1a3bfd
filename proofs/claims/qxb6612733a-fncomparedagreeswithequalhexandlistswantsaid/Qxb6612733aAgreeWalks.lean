/-
  Seat b6612733a: the walk of FnComparedAgreesWithEqualHexAndListsWant.
-/
import Derived.Test.Qxb6612733aCmpWalks
namespace Go.Proofs.Qxb6612733a
open Go.ChangeShapes Go.WideShapes Go.ChangeAt Go.RowKit

set_option maxHeartbeats 1600000 in
theorem agree_plain (a0 : Option Addr) (len0 cap0 : Nat) (xs : List Int) (a1 : Option Addr) (len1 cap1 : Nat) (ys : List Int) (w : World) (s0 : Src w a0 len0 xs) (n0 : a0 = none → len0 = 0 ∧ cap0 = 0)
    (s1 : Src w a1 len1 ys) (n1 : a1 = none → len1 = 0 ∧ cap1 = 0) (h0 : len0 ≤ 524288) (h1 : len1 ≤ 524288) :
    Calls Try.prog 7 #[.slice a0 len0 cap0, .slice a1 len1 cap1, .bool false] w fun e w' => e = .returned (.bool true) ∧ Below w.heap.size w w' := by
  have hmk0 := run_make_row' (P := Try.prog) 30 5 (.int .u8 0) 1 Try.underlying30 (by kernel_rfl) rfl .i64 .i64 len0 (by omega) (by omega)
  have hmk1 := run_make_row' (P := Try.prog) 30 5 (.int .u8 0) 1 Try.underlying30 (by kernel_rfl) rfl .i64 .i64 len1 (by omega) (by omega)
  have heq := fun w n c n' c' => Lib.run_eql_slice_nil (P := Try.prog) w 30 5 none n c n' c' Try.underlying30
  have bW := Below.refl w.heap.size w
  cases a0 with
  | none =>
    obtain ⟨rfl, rfl⟩ := n0 rfl
    have r0 := s0.row_nil
    clear n0 s0 hmk0
    cases a1 with
    | none =>
      obtain ⟨rfl, rfl⟩ := n1 rfl
      have r1 := s1.row_nil
      clear n1 s1 hmk1
      go_enter Try.func7, Try.ntmps7
      go_wp2_with (first | (go_at_call 19; go_in))
      refine (ok_any _ _ _ _ _ _ xs ys _ r0 r1).mono ?_
      rintro e w3 ⟨rfl, b3⟩
      replace r0 := r0.later b3
      replace r1 := r1.later b3
      replace bW := bW.trans (b3.mono bW.size)
      clear b3
      go_wp2_with fail
      refine (b1_any _ _ _ _ _ _ xs ys _ (by omega) (by omega) r0 r1).mono ?_
      rintro e w6 ⟨rfl, b6⟩
      replace r0 := r0.later b6
      replace r1 := r1.later b6
      replace bW := bW.trans (b6.mono bW.size)
      clear b6
      generalize hq : eqB xs ys = q at *
      have HQ : Hid _ := hq
      clear hq
      go_wp2_with (go_at_call 16; refine (equalHex_any _ _ _ _ _ _ xs ys _ r0 r1).mono ?_; rintro e w7 ⟨rfl, rfl⟩; rw [HQ.out])
      go_ret
      exact ⟨by simp, bW⟩
    | some y =>
      clear n1 bW
      go_enter Try.func7, Try.ntmps7
      go_wp2_with (first | (go_at_call 19; go_in) | (refine wpList_copy_new rfl (.tmp 39) (.tmp 40) rfl w (some y) len1 cap1 ys rfl rfl rfl s1 ?_; intro w2 bW r1))
      replace r0 := r0.later bW
      refine (ok_any _ _ _ _ _ _ xs ys _ r0 r1).mono ?_
      rintro e w3 ⟨rfl, b3⟩
      replace r0 := r0.later b3
      replace r1 := r1.later b3
      replace bW := bW.trans (b3.mono bW.size)
      clear b3
      go_wp2_with fail
      refine (b1_any _ _ _ _ _ _ xs ys _ (by omega) (by omega) r0 r1).mono ?_
      rintro e w6 ⟨rfl, b6⟩
      replace r0 := r0.later b6
      replace r1 := r1.later b6
      replace bW := bW.trans (b6.mono bW.size)
      clear b6
      generalize hq : eqB xs ys = q at *
      have HQ : Hid _ := hq
      clear hq
      go_wp2_with (go_at_call 16; refine (equalHex_any _ _ _ _ _ _ xs ys _ r0 r1).mono ?_; rintro e w7 ⟨rfl, rfl⟩; rw [HQ.out])
      go_ret
      exact ⟨by simp, bW⟩
  | some x =>
    clear n0 bW
    cases a1 with
    | none =>
      obtain ⟨rfl, rfl⟩ := n1 rfl
      have r1 := s1.row_nil
      clear n1 s1 hmk1
      go_enter Try.func7, Try.ntmps7
      go_wp2_with (first | (go_at_call 19; go_in) | (refine wpList_copy_new rfl (.tmp 30) (.tmp 31) rfl w (some x) len0 cap0 xs rfl rfl rfl s0 ?_; intro w2 bW r0))
      replace r1 := r1.later bW
      refine (ok_any _ _ _ _ _ _ xs ys _ r0 r1).mono ?_
      rintro e w3 ⟨rfl, b3⟩
      replace r0 := r0.later b3
      replace r1 := r1.later b3
      replace bW := bW.trans (b3.mono bW.size)
      clear b3
      go_wp2_with fail
      refine (b1_any _ _ _ _ _ _ xs ys _ (by omega) (by omega) r0 r1).mono ?_
      rintro e w6 ⟨rfl, b6⟩
      replace r0 := r0.later b6
      replace r1 := r1.later b6
      replace bW := bW.trans (b6.mono bW.size)
      clear b6
      generalize hq : eqB xs ys = q at *
      have HQ : Hid _ := hq
      clear hq
      go_wp2_with (go_at_call 16; refine (equalHex_any _ _ _ _ _ _ xs ys _ r0 r1).mono ?_; rintro e w7 ⟨rfl, rfl⟩; rw [HQ.out])
      go_ret
      exact ⟨by simp, bW⟩
    | some y =>
      clear n1
      go_enter Try.func7, Try.ntmps7
      go_wp2_with (first | (go_at_call 19; go_in) | (refine wpList_copy_new rfl (.tmp 30) (.tmp 31) rfl w (some x) len0 cap0 xs rfl rfl rfl s0 ?_; intro w1 bV rV) | (refine wpList_copy_new rfl (.tmp 39) (.tmp 40) rfl w1 (some y) len1 cap1 ys rfl rfl rfl (s1.later bV) ?_; intro w2 bU r1))
      have r0 := rV.later bU
      have bW := bV.trans (bU.mono bV.size)
      clear rV bU bV
      refine (ok_any _ _ _ _ _ _ xs ys _ r0 r1).mono ?_
      rintro e w3 ⟨rfl, b3⟩
      replace r0 := r0.later b3
      replace r1 := r1.later b3
      replace bW := bW.trans (b3.mono bW.size)
      clear b3
      go_wp2_with fail
      refine (b1_any _ _ _ _ _ _ xs ys _ (by omega) (by omega) r0 r1).mono ?_
      rintro e w6 ⟨rfl, b6⟩
      replace r0 := r0.later b6
      replace r1 := r1.later b6
      replace bW := bW.trans (b6.mono bW.size)
      clear b6
      generalize hq : eqB xs ys = q at *
      have HQ : Hid _ := hq
      clear hq
      go_wp2_with (go_at_call 16; refine (equalHex_any _ _ _ _ _ _ xs ys _ r0 r1).mono ?_; rintro e w7 ⟨rfl, rfl⟩; rw [HQ.out])
      go_ret
      exact ⟨by simp, bW⟩

set_option maxHeartbeats 1600000 in
theorem agree_failed (a0 : Option Addr) (len0 cap0 : Nat) (xs : List Int) (a1 : Option Addr) (len1 cap1 : Nat) (ys : List Int) (w : World) (s0 : Src w a0 len0 xs) (n0 : a0 = none → len0 = 0 ∧ cap0 = 0)
    (s1 : Src w a1 len1 ys) (n1 : a1 = none → len1 = 0 ∧ cap1 = 0) (h0 : len0 ≤ 524288) (h1 : len1 ≤ 524288) :
    Calls Try.prog 7 #[.slice a0 len0 cap0, .slice a1 len1 cap1, .bool true] w fun e w' => e = .returned (.bool true) ∧ Below w.heap.size w w' := by
  have hmk0 := run_make_row' (P := Try.prog) 30 5 (.int .u8 0) 1 Try.underlying30 (by kernel_rfl) rfl .i64 .i64 len0 (by omega) (by omega)
  have hmk1 := run_make_row' (P := Try.prog) 30 5 (.int .u8 0) 1 Try.underlying30 (by kernel_rfl) rfl .i64 .i64 len1 (by omega) (by omega)
  have heq := fun w n c n' c' => Lib.run_eql_slice_nil (P := Try.prog) w 30 5 none n c n' c' Try.underlying30
  have bW := Below.refl w.heap.size w
  cases a0 with
  | none =>
    obtain ⟨rfl, rfl⟩ := n0 rfl
    have r0 := s0.row_nil
    clear n0 s0 hmk0
    cases a1 with
    | none =>
      obtain ⟨rfl, rfl⟩ := n1 rfl
      have r1 := s1.row_nil
      clear n1 s1 hmk1
      go_enter Try.func7, Try.ntmps7
      go_wp2_with (first | (go_at_call 19; go_in))
      refine (ok_any _ _ _ _ _ _ xs ys _ r0 r1).mono ?_
      rintro e w3 ⟨rfl, b3⟩
      replace r0 := r0.later b3
      replace r1 := r1.later b3
      replace bW := bW.trans (b3.mono bW.size)
      clear b3
      go_wp2_with fail
      refine (failed_any _ _ _ _ _ _ xs ys _ r0 r1).mono ?_
      rintro e w4 ⟨rfl, b4⟩
      replace r0 := r0.later b4
      replace r1 := r1.later b4
      replace bW := bW.trans (b4.mono bW.size)
      clear b4
      go_wp2_with fail
      refine (b1_any _ _ _ _ _ _ xs ys _ (by omega) (by omega) r0 r1).mono ?_
      rintro e w6 ⟨rfl, b6⟩
      replace r0 := r0.later b6
      replace r1 := r1.later b6
      replace bW := bW.trans (b6.mono bW.size)
      clear b6
      generalize hq : eqB xs ys = q at *
      have HQ : Hid _ := hq
      clear hq
      go_wp2_with (go_at_call 16; refine (equalHex_any _ _ _ _ _ _ xs ys _ r0 r1).mono ?_; rintro e w7 ⟨rfl, rfl⟩; rw [HQ.out])
      go_ret
      exact ⟨by simp, bW⟩
    | some y =>
      clear n1 bW
      go_enter Try.func7, Try.ntmps7
      go_wp2_with (first | (go_at_call 19; go_in) | (refine wpList_copy_new rfl (.tmp 39) (.tmp 40) rfl w (some y) len1 cap1 ys rfl rfl rfl s1 ?_; intro w2 bW r1))
      replace r0 := r0.later bW
      refine (ok_any _ _ _ _ _ _ xs ys _ r0 r1).mono ?_
      rintro e w3 ⟨rfl, b3⟩
      replace r0 := r0.later b3
      replace r1 := r1.later b3
      replace bW := bW.trans (b3.mono bW.size)
      clear b3
      go_wp2_with fail
      refine (failed_any _ _ _ _ _ _ xs ys _ r0 r1).mono ?_
      rintro e w4 ⟨rfl, b4⟩
      replace r0 := r0.later b4
      replace r1 := r1.later b4
      replace bW := bW.trans (b4.mono bW.size)
      clear b4
      go_wp2_with fail
      refine (b1_any _ _ _ _ _ _ xs ys _ (by omega) (by omega) r0 r1).mono ?_
      rintro e w6 ⟨rfl, b6⟩
      replace r0 := r0.later b6
      replace r1 := r1.later b6
      replace bW := bW.trans (b6.mono bW.size)
      clear b6
      generalize hq : eqB xs ys = q at *
      have HQ : Hid _ := hq
      clear hq
      go_wp2_with (go_at_call 16; refine (equalHex_any _ _ _ _ _ _ xs ys _ r0 r1).mono ?_; rintro e w7 ⟨rfl, rfl⟩; rw [HQ.out])
      go_ret
      exact ⟨by simp, bW⟩
  | some x =>
    clear n0 bW
    cases a1 with
    | none =>
      obtain ⟨rfl, rfl⟩ := n1 rfl
      have r1 := s1.row_nil
      clear n1 s1 hmk1
      go_enter Try.func7, Try.ntmps7
      go_wp2_with (first | (go_at_call 19; go_in) | (refine wpList_copy_new rfl (.tmp 30) (.tmp 31) rfl w (some x) len0 cap0 xs rfl rfl rfl s0 ?_; intro w2 bW r0))
      replace r1 := r1.later bW
      refine (ok_any _ _ _ _ _ _ xs ys _ r0 r1).mono ?_
      rintro e w3 ⟨rfl, b3⟩
      replace r0 := r0.later b3
      replace r1 := r1.later b3
      replace bW := bW.trans (b3.mono bW.size)
      clear b3
      go_wp2_with fail
      refine (failed_any _ _ _ _ _ _ xs ys _ r0 r1).mono ?_
      rintro e w4 ⟨rfl, b4⟩
      replace r0 := r0.later b4
      replace r1 := r1.later b4
      replace bW := bW.trans (b4.mono bW.size)
      clear b4
      go_wp2_with fail
      refine (b1_any _ _ _ _ _ _ xs ys _ (by omega) (by omega) r0 r1).mono ?_
      rintro e w6 ⟨rfl, b6⟩
      replace r0 := r0.later b6
      replace r1 := r1.later b6
      replace bW := bW.trans (b6.mono bW.size)
      clear b6
      generalize hq : eqB xs ys = q at *
      have HQ : Hid _ := hq
      clear hq
      go_wp2_with (go_at_call 16; refine (equalHex_any _ _ _ _ _ _ xs ys _ r0 r1).mono ?_; rintro e w7 ⟨rfl, rfl⟩; rw [HQ.out])
      go_ret
      exact ⟨by simp, bW⟩
    | some y =>
      clear n1
      go_enter Try.func7, Try.ntmps7
      go_wp2_with (first | (go_at_call 19; go_in) | (refine wpList_copy_new rfl (.tmp 30) (.tmp 31) rfl w (some x) len0 cap0 xs rfl rfl rfl s0 ?_; intro w1 bV rV) | (refine wpList_copy_new rfl (.tmp 39) (.tmp 40) rfl w1 (some y) len1 cap1 ys rfl rfl rfl (s1.later bV) ?_; intro w2 bU r1))
      have r0 := rV.later bU
      have bW := bV.trans (bU.mono bV.size)
      clear rV bU bV
      refine (ok_any _ _ _ _ _ _ xs ys _ r0 r1).mono ?_
      rintro e w3 ⟨rfl, b3⟩
      replace r0 := r0.later b3
      replace r1 := r1.later b3
      replace bW := bW.trans (b3.mono bW.size)
      clear b3
      go_wp2_with fail
      refine (failed_any _ _ _ _ _ _ xs ys _ r0 r1).mono ?_
      rintro e w4 ⟨rfl, b4⟩
      replace r0 := r0.later b4
      replace r1 := r1.later b4
      replace bW := bW.trans (b4.mono bW.size)
      clear b4
      go_wp2_with fail
      refine (b1_any _ _ _ _ _ _ xs ys _ (by omega) (by omega) r0 r1).mono ?_
      rintro e w6 ⟨rfl, b6⟩
      replace r0 := r0.later b6
      replace r1 := r1.later b6
      replace bW := bW.trans (b6.mono bW.size)
      clear b6
      generalize hq : eqB xs ys = q at *
      have HQ : Hid _ := hq
      clear hq
      go_wp2_with (go_at_call 16; refine (equalHex_any _ _ _ _ _ _ xs ys _ r0 r1).mono ?_; rintro e w7 ⟨rfl, rfl⟩; rw [HQ.out])
      go_ret
      exact ⟨by simp, bW⟩

theorem agree_walk (a0 : Option Addr) (len0 cap0 : Nat) (z0 : List Int) (a1 : Option Addr) (len1 cap1 : Nat) (z1 : List Int) (a2 : Bool) (w : World) (w0 : In8 w a0 len0 cap0 z0) (w1 : In8 w a1 len1 cap1 z1) :
    Calls Try.prog 7 #[.slice a0 len0 cap0, .slice a1 len1 cap1, .bool a2] w fun e w' => e = .returned (.bool true) ∧ Below w.heap.size w w' := by
  obtain ⟨s0, m0, n0⟩ := w0.src
  obtain ⟨s1, m1, n1⟩ := w1.src
  clear w0 w1
  unfold maxLen at m0 m1
  by_cases h0 : 524288 < len0
  · clear n0 n1 s0 s1
    go_enter Try.func7, Try.ntmps7
    go_wp2
    all_goals (go_ret; exact ⟨rfl, Below.refl _ _⟩)
  by_cases h1 : 524288 < len1
  · clear n0 n1 s0 s1
    go_enter Try.func7, Try.ntmps7
    go_wp2
    all_goals (go_ret; exact ⟨rfl, Below.refl _ _⟩)
  cases a2
  · exact agree_plain a0 len0 cap0 _ a1 len1 cap1 _ w s0 n0 s1 n1 (by omega) (by omega)
  · exact agree_failed a0 len0 cap0 _ a1 len1 cap1 _ w s0 n0 s1 n1 (by omega) (by omega)
end Go.Proofs.Qxb6612733a
