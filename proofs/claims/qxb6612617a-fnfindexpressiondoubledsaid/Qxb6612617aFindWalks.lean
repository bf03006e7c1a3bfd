/-
  Seat b6612617a: the plain function that 'findExpression' computes, its contracts, and the two laws' walks.
-/
import Derived.Test.Qxb6612617aRows
import Derived.WalkKit
import Derived.ProofKit
import Derived.OpenShut
import Derived.ShutString
import Derived.WalkSpells
namespace Go.Proofs.Qxb6612617a
open Go.ChangeShapes Go.WideShapes Go.ChangeAt Go.RowKit

/-- One of find's four operators. -/
def opB (s : ByteArray) : Bool := s.toList == [40] || s.toList == [41] || s.toList == [33] || s.toList == [44]
/-- What 'findExpression' answers. -/
def feB (s : ByteArray) : Bool := if h : 1 < s.size then (s[0].toNat : Int) == 45 else opB s

theorem toList_len (s : ByteArray) : s.toList.length = s.size := by
  rw [ByteArray.toList_eq]; rfl

theorem op_long (s : ByteArray) (h : 1 < s.size) : s.toList ≠ [40] ∧ s.toList ≠ [41] ∧ s.toList ≠ [33] ∧ s.toList ≠ [44] := by
  have hl := toList_len s
  refine ⟨?_, ?_, ?_, ?_⟩ <;> (intro e; rw [e] at hl; simp at hl; omega)

theorem fe_any (s : ByteArray) (hs : s.size ≤ maxLen) (w : World) :
    Calls Try.prog 9 #[.string s] w fun e w' => e = .returned (.bool (feB s)) ∧ w' = w := by
  unfold maxLen at hs
  by_cases h : 1 < s.size
  · obtain ⟨a1, a2, a3, a4⟩ := op_long s h
    have b1 : (s.toList == [40]) = false := by simp [a1]
    have b2 : (s.toList == [41]) = false := by simp [a2]
    have b3 : (s.toList == [33]) = false := by simp [a3]
    have b4 : (s.toList == [44]) = false := by simp [a4]
    clear a1 a2 a3 a4
    go_enter Try.func9, Try.ntmps9
    go_wp2
    all_goals go_ret
    all_goals exact ⟨by simp [feB, *], rfl⟩
  · go_enter Try.func9, Try.ntmps9
    go_wp2
    all_goals go_ret
    all_goals exact ⟨by simp [feB, opB, *], rfl⟩

theorem zz_any (s : ByteArray) (hs : s.size ≤ maxLen) (w : World) :
    Calls Try.prog 6 #[.string s] w fun e w' => e = .returned (.bool (feB s)) ∧ w' = w := by
  go_enter Try.func6, Try.ntmps6
  go_wp2_with (go_at_call 9; refine (fe_any s hs _).mono ?_; rintro e w' ⟨rfl, rfl⟩)
  go_ret
  exact ⟨rfl, rfl⟩

theorem op_any (s : ByteArray) (w : World) :
    Calls Try.prog 8 #[.string s] w fun e w' => e = .returned (.bool (opB s)) ∧ w' = w := by
  go_enter Try.func8, Try.ntmps8
  go_wp2
  all_goals go_ret
  all_goals exact ⟨by simp [opB, *], rfl⟩

/-! ### The plain laws -/
theorem fe_dash (s : ByteArray) (h : s.size < 2) : feB ({ data := #[45] } ++ s) = ((s.size : Int) == 1) := by
  have hz : (({ data := #[45] } : ByteArray) ++ s).size = 1 + s.size := by simp [ByteArray.size_append]; rfl
  unfold feB
  by_cases h1 : s.size = 1
  · have hg : (({ data := #[45] } : ByteArray) ++ s)[0]'(by omega) = 45 := by
      rw [ByteArray.getElem_append_left (by decide)]; rfl
    rw [dif_pos (by omega), hg, h1]; rfl
  · have h0 : s.size = 0 := by omega
    have he : s = ByteArray.empty := by
      have : s.data = #[] := Array.eq_empty_of_size_eq_zero h0
      cases s; simp at this; subst this; rfl
    subst he
    decide +kernel

theorem fe_long (s : ByteArray) (h : 1 < s.size) : feB s = ((s[0].toNat : Int) == 45) := by
  unfold feB; rw [dif_pos h]

theorem fe_cut (s : ByteArray) (m : Nat) (h : 2 ≤ m) (hm : m ≤ s.size) : feB (s.extract 0 m) = feB s := by
  have hz : (s.extract 0 m).size = m := by simp [ByteArray.size_extract]; omega
  rw [fe_long s (by omega), fe_long _ (by omega)]
  have : (s.extract 0 m)[0]'(by omega) = s[0]'(by omega) := by simp [ByteArray.getElem_extract]
  rw [this]

theorem fe_twice (s : ByteArray) (h : 0 < s.size) : feB (s ++ s) = ((s[0].toNat : Int) == 45) := by
  have hz : (s ++ s).size = s.size + s.size := ByteArray.size_append
  rw [fe_long _ (by omega), ByteArray.getElem_append_left h]

theorem op_head (s : ByteArray) (h : s.size = 1) (hc : ((s[0].toNat : Int) == 45) = true) : opB s = false := by
  have hd : s.toList = [s[0]] := by
    rw [ByteArray.toList_eq]
    have hl : s.data.toList.length = 1 := h
    match hs : s.data.toList, hl with
    | [x], _ =>
      have : s[0] = s.data.toList[0]'(by rw [hl]; omega) := rfl
      rw [this]; simp [hs]
  have h45 : s[0] = 45 := by
    apply UInt8.toNat_inj.1
    have h45 : (45 : UInt8).toNat = 45 := rfl
    rw [h45]; simp at hc; omega
  unfold opB
  rw [hd, h45]; decide

theorem op_none (s : ByteArray) (h : 1 < s.size) : opB s = false := by
  obtain ⟨a1, a2, a3, a4⟩ := op_long s h
  simp [opB, *]

theorem fe_nil (s : ByteArray) (h : s.size = 0) : feB s = false ∧ feB (s ++ s) = false ∧ opB s = false := by
  have he : s = ByteArray.empty := by
    have : s.data = #[] := Array.eq_empty_of_size_eq_zero h
    cases s; simp at this; subst this; rfl
  subst he
  exact ⟨by decide +kernel, by decide +kernel, by decide +kernel⟩

/-- The law of the doubled word, with no Go in sight. -/
theorem fe_doubled (s : ByteArray) (h : 0 < s.size) : (feB s && !feB (s ++ s)) = opB s := by
  rw [fe_twice s h]
  by_cases h1 : 1 < s.size
  · rw [fe_long s h1, op_none s h1]; simp
  · have e : feB s = opB s := by unfold feB; rw [dif_neg h1]
    rw [e]
    cases hc : ((s[0].toNat : Int) == 45)
    · simp
    · rw [op_head s (by omega) hc]; rfl

theorem long_walk (a0 : ByteArray) (w0 : a0.size ≤ maxLen) (w : World) :
    Calls Try.prog 3 #[.string a0] w fun e w' => e = .returned (.bool true) ∧ Grown w w' := by
  unfold maxLen at w0
  by_cases h : 1048576 < a0.size
  · go_enter Try.func3, Try.ntmps3
    go_wp2
    go_ret
    exact ⟨rfl, Grown.refl _⟩
  by_cases h2 : a0.size < 2
  · have hz : (({ data := #[45] } : ByteArray) ++ a0).size ≤ maxLen := by
      have : (({ data := #[45] } : ByteArray) ++ a0).size = 1 + a0.size := by simp [ByteArray.size_append]; rfl
      unfold maxLen; omega
    have hf : Hid _ := fe_dash a0 h2
    go_enter Try.func3, Try.ntmps3
    go_wp2_with (first | (go_at_call 5; go_in) | (go_at_call 6; refine (zz_any _ hz _).mono ?_; rintro e w' ⟨rfl, rfl⟩; rw [hf.out]))
    go_ret
    exact ⟨by simp, Grown.refl _⟩
  · have hl := fe_long a0 (by omega)
    have hm : ∀ m : Nat, 2 ≤ m → m ≤ a0.size → feB (a0.extract 0 m) = feB a0 := fun m => fe_cut a0 m
    generalize hg : feB a0 = g at *
    have Hg : Hid _ := hg
    have Hl : Hid _ := hl
    have Hm : Hid _ := hm
    have hne : (!g == (((a0[0]'(by omega)).toNat : Int) == 45)) = false := by rw [hl]; simp
    clear hg hl hm
    go_enter Try.func3, Try.ntmps3
    go_wp2_with (first | (go_at_call 5; go_in) | (go_at_call 6; refine (zz_any a0 (by unfold maxLen; omega) _).mono ?_; rintro e w' ⟨rfl, rfl⟩; rw [Hg.out]))
    go_loop [4] (fun i => ∃ k : Nat, 2 ≤ k ∧ k ≤ a0.size ∧ i = .int .i64 k) (fun i => a0.size - (intOf i).toNat)
    case atStart => exact ⟨2, Nat.le_refl _, by omega, rfl⟩
    case round =>
      obtain ⟨k, hk2, hk, rfl⟩ := hrel
      by_cases hlt : k < a0.size
      · have hx : (a0.extract 0 k).size ≤ maxLen := by simp [ByteArray.size_extract, maxLen]; omega
        go_wp2_with (go_at_call 6; refine (zz_any (a0.extract 0 k) hx _).mono ?_; rintro e w' ⟨rfl, rfl⟩; rw [Hm.out k hk2 hk])
        go_round
        case rel => exact ⟨k + 1, by omega, by omega, by go_num⟩
        case measure => simp [intOf]; omega
      · go_wp2
        go_ret
        exact ⟨rfl, Grown.refl _⟩

theorem twice_walk (a0 : ByteArray) (w0 : a0.size ≤ maxLen) (w : World) :
    Calls Try.prog 4 #[.string a0] w fun e w' => e = .returned (.bool true) ∧ Grown w w' := by
  by_cases h : 1048576 < a0.size
  · unfold maxLen at w0
    go_enter Try.func4, Try.ntmps4
    go_wp2
    go_ret
    exact ⟨rfl, Grown.refl _⟩
  have w2 : (a0 ++ a0).size ≤ maxLen := by
    have : (a0 ++ a0).size = a0.size + a0.size := ByteArray.size_append
    unfold maxLen; omega
  have H1 : Hid _ := zz_any a0 w0
  have H2 : Hid _ := zz_any (a0 ++ a0) w2
  have H3 : Hid _ := op_any a0
  by_cases h0 : a0.size = 0
  · obtain ⟨e1, e2, e3⟩ := fe_nil a0 h0
    rw [e1] at H1; rw [e2] at H2; rw [e3] at H3
    clear e1 e2 e3 w2
    unfold maxLen at w0
    have hz : (a0.size : Int) ≤ 0 := by omega
    clear h0
    go_enter Try.func4, Try.ntmps4
    go_wp2_with (go_at_call 7; go_in)
    refine (H1.out _).mono ?_
    rintro e w1 ⟨rfl, rfl⟩
    go_wp2_with fail
    refine (H2.out _).mono ?_
    rintro e w1 ⟨rfl, rfl⟩
    go_wp2_with fail
    refine (H3.out _).mono ?_
    rintro e w1 ⟨rfl, rfl⟩
    go_wp2_with fail
    go_ret
    exact ⟨rfl, Grown.refl _⟩
  · have hd := fe_doubled a0 (by omega)
    have ht := fe_twice a0 (by omega)
    generalize feB a0 = o at *
    generalize feB (a0 ++ a0) = t at *
    generalize opB a0 = p at *
    have hc : (((a0[0]'(by omega)).toNat : Int) == 45) = t := ht.symm
    subst hd
    clear ht w2
    unfold maxLen at w0
    cases o <;> cases t
    all_goals
      simp only [Bool.not_true, Bool.not_false, Bool.and_true, Bool.and_false] at H3
      go_enter Try.func4, Try.ntmps4
      go_wp2_with (go_at_call 7; go_in)
      refine (H1.out _).mono ?_
      rintro e w1 ⟨rfl, rfl⟩
      go_wp2_with fail
      refine (H2.out _).mono ?_
      rintro e w1 ⟨rfl, rfl⟩
      go_wp2_with fail
      refine (H3.out _).mono ?_
      rintro e w1 ⟨rfl, rfl⟩
      go_wp2_with fail
      go_ret
      exact ⟨rfl, Grown.refl _⟩
end Go.Proofs.Qxb6612617a
