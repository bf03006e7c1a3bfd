/-
  Seat b6612798a: the walk of FnIndexReserveThenAddsDoNotGrow.
-/
import Derived.Test.Qxb6612798aReserve
import Derived.Deep.CutRange
namespace Go.Proofs.Qxb6612798a
open Go.ChangeShapes Go.WideShapes Go.ChangeAt Go.RowKit
open Ix (used upd tagN Tab Free)

theorem In64.nil {w : World} {len cap : Nat} {zs : List Int} (h : In64 w none len cap zs) : len = 0 ∧ cap = 0 := by
  rcases h with ⟨_, h1, h2, _⟩ | ⟨x, h, _⟩
  · exact ⟨h1, h2⟩
  · cases h

set_option maxHeartbeats 1600000 in
theorem reserveThen_main (a0 : Option Addr) (len0 cap0 : Nat) (hs : Nat → Nat) (sp m : Nat) (w : World) (hh : Hs w w.heap.size a0 len0 hs) (hnil : a0 = none → len0 = 0 ∧ cap0 = 0) (hlt : ∀ i, hs i < 18446744073709551616)
    (hN : len0 ≤ 4096) (hm : m ≤ 65536) (hsp : sp ≤ len0) :
    Calls Try.prog 5 #[.slice a0 len0 cap0, .int .i64 (sp : Int), .int .i64 (m : Int)] w fun e w' => e = .returned (.bool true) ∧ Below w.heap.size w w' := by
  have hmk := run_make_row' (P := Try.prog) 22 24 (.int .u64 0) 8 Try.underlying22 bytes64 rfl .i64 .i64 len0 (by omega) (by omega)
  have HH := hide hh
  have HL := hide hlt
  have HN := hide hnil
  clear hh hlt hnil
  go_enter Try.func5, Try.ntmps5
  go_upto_if 35 with (first | (go_at_call 15; go_in))
  go_cut [0] from 12 to 42 (fun s0 wc => ∃ (a : Option Addr) (c : Nat), s0 = .slice a len0 c ∧ Hs wc wc.heap.size a len0 hs ∧ Below w.heap.size w wc)
  case first =>
    cases a0 with
    | none =>
      obtain ⟨rfl, rfl⟩ := HN.out rfl
      go_wp2
      go_meet
      case rel => exact ⟨none, 0, rfl, .inl rfl, Below.refl _ _⟩
    | some x =>
      go_wp2_with (first | (refine wpList_copy_new rfl (.tmp 39) (.tmp 40) rfl w (some x) len0 cap0 w.heap.size hs rfl rfl rfl HH.out (Nat.le_refl _) ?_; intro w2 bW r1))
      go_meet
      case rel => exact ⟨_, len0, rfl, r1, bW⟩
  case rest =>
    obtain ⟨wb, rfl⟩ : ∃ wb : World, wb = wc := ⟨_, rfl⟩
    obtain ⟨a, c, rfl, hc, hbw⟩ := hcut
    clear hmk HH HN
    have HA := hide (addAll_st hs _ wb.heap.size (st_new hs wb) wb.heap.size a len0 c (hc.fr ((Fr.refl (fun _ => False) wb).alloc _) (fun _ _ => id)) (Nat.le_refl _) hN HL.out sp hsp)
    go_wp2_with fail
    refine Calls.mono HA.out ?_
    rintro e w3 ⟨rfl, A, T, s3, g3, q1, q2⟩
    have bel3 : Below wb.heap.size wb w3 := (((Below.refl _ wb).alloc (Nat.le_refl _) _)).trans (g3.below (by simp) (fun k h => by rw [h]; exact Nat.le_refl _))
    have hA3 : wb.heap.size ≤ A := by
      rcases q1 with h | h
      · omega
      · simp at h; omega
    have hT3 : wb.heap.size ≤ T := by
      rcases q2 with h | h
      · omega
      · simp at h; omega
    have h3 := hc.later bel3
    have hsz3 := bel3.size
    clear q1 q2 g3 HA
    generalize sizeAt sp = S at *
    have hS18 : S ≤ 262144 := by obtain ⟨_, _, _, _, h, _⟩ := st_cells s3; exact h
    have HSL := hide (slots_st hs w3 wb.heap.size A T S sp s3)
    go_wp2_with fail
    refine Calls.mono HSL.out ?_
    rintro e w3' ⟨⟨a', c', rfl⟩, rfl⟩
    clear HSL
    go_upto_if 53 with fail
    obtain ⟨base, hbase⟩ : ∃ b, b = max S 8 := ⟨_, rfl⟩
    have HBS := hide hbase
    have hbb : base ≤ 262144 := by omega
    clear hbase
    go_cut [9] from 43 to 53 (fun s9 wd => s9 = .int .i64 (base : Int) ∧ wd = w3')
    case first =>
      by_cases hS8 : S < 8
      · have e8 : base = 8 := by rw [HBS.out]; omega
        clear HBS hbb
        go_wp2
        go_meet
        case rel => exact ⟨by rw [e8]; rfl, rfl⟩
      · have e8 : Hid (base = S) := by show _ = _; rw [HBS.out]; omega
        go_wp2
        go_meet
        case rel => exact ⟨by rw [e8.out], rfl⟩
    case rest =>
      obtain ⟨rfl, rfl⟩ := hcut
      have HR := hide (zzreserve_st hs wc wb.heap.size A T S sp s3 wb.heap.size a len0 c h3 (Nat.le_refl _) hN hsp HL.out m hm)
      rw [← HBS.out] at HR
      clear s3
      go_wp2_with fail
      refine Calls.mono HR.out ?_
      rintro e w4 ⟨rfl, S4, A4, T4, hL4, s4, g4, r1, r2⟩
      have bel4 : Below wb.heap.size wb w4 := bel3.trans (g4.below hsz3 (fun k h => by rw [h]; exact Nat.le_refl _))
      have hA4 : wb.heap.size ≤ A4 := by omega
      have hT4 : wb.heap.size ≤ T4 := by omega
      have h4S := hL4.2.2.1
      have h4b := hL4.1.2.1
      have HSL := hide (slots_st hs w4 wb.heap.size A4 T4 S4 sp s4)
      have HLE := hide (least_any S4 base m hL4 hbb hm)
      clear g4 r1 r2 HR h3 bel3 hA3 hT3 hsz3 hL4
      go_wp2_with fail
      refine Calls.mono HSL.out ?_
      rintro e w4' ⟨⟨a4, c4, rfl⟩, rfl⟩
      clear HSL
      go_wp2_with fail
      refine Calls.mono (HLE.out _) ?_
      rintro e w4'' ⟨rfl, rfl⟩
      clear HLE
      go_wp2
      go_loopg [11] (len0 - sp) (fun g s11 wr => ∃ i A T S1 : Nat, i + g = len0 ∧ s11 = .int .i64 (i : Int) ∧ St hs wr wb.heap.size A T S1 i ∧ Hid (i ≤ m → S1 = S4) ∧ Below wb.heap.size wb wr ∧ wb.heap.size ≤ A ∧ wb.heap.size ≤ T)
      case atStart => exact ⟨sp, A4, T4, S4, by omega, rfl, s4, fun _ => rfl, bel4, hA4, hT4⟩
      case round =>
        clear s4 bel4 hA4 hT4
        obtain ⟨i, A, T, S1, hi, rfl, st, hS1, bel, hA, hT⟩ := hrel
        have hh := hc.later bel
        have hsz := bel.size
        by_cases hlt : i < len0
        · have HC := hide (zzadd_st hs wr wb.heap.size A T S1 i st wb.heap.size a len0 c hh (Nat.le_refl _) hN hlt HL.out)
          rcases hh with h | ⟨b, off, rfl, _, hcell⟩
          · omega
          have ck := hcell i hlt
          clear hcell st
          by_cases him : i + 1 ≤ m
          · have e1 : S1 = S4 := hS1.out (by omega)
            subst e1
            have hg : grown S1 i = S1 := by unfold grown; rw [if_neg (by omega)]
            rw [hg] at HC
            clear hg
            go_wp2_with fail
            refine Calls.mono HC.out ?_
            rintro e w5 ⟨rfl, A5, T5, s5, g5, r1, r2⟩
            have bel5 := bel.trans (g5.below hsz (fun k h => by omega))
            have HS5 := hide (slots_st hs w5 wb.heap.size A5 T5 _ _ s5)
            clear g5
            go_wp2_with (go_at_call 11; refine Calls.mono HS5.out ?_; rintro e w6 ⟨⟨a6, c6, rfl⟩, rfl⟩)
            go_roundg (len0 - (i + 1))
            case measure => omega
            case rel => exact ⟨i + 1, A5, T5, S1, by omega, by go_num, s5, fun _ => rfl, bel5, by omega, by omega⟩
          · have hd : decide ((i : Int) + 1 ≤ (m : Int)) = false := by simp; omega
            go_wp2_with fail
            refine Calls.mono HC.out ?_
            rintro e w5 ⟨rfl, A5, T5, s5, g5, r1, r2⟩
            have bel5 := bel.trans (g5.below hsz (fun k h => by omega))
            clear g5
            go_wp2
            go_roundg (len0 - (i + 1))
            case measure => omega
            case rel => exact ⟨i + 1, A5, T5, _, by omega, by go_num, s5, fun h => absurd h (by omega), bel5, by omega, by omega⟩
        · have hiN : i = len0 := by omega
          subst hiN
          have HCt := hide (count_st hs wr wb.heap.size A T S1 i st)
          have HAF := hide (allFound_st hs wr wb.heap.size A T S1 i st wb.heap.size a c hh hN HL.out)
          clear st hh
          go_wp2_with fail
          refine Calls.mono HCt.out ?_
          rintro e w6 ⟨rfl, rfl⟩
          go_wp2_with fail
          refine Calls.mono HAF.out ?_
          rintro e w7 ⟨rfl, g7⟩
          go_wp2
          go_ret
          exact ⟨by simp, hbw.trans ((bel.mono hbw.size).trans (g7.below (Nat.le_trans hbw.size hsz) (fun k h => h.elim)))⟩

set_option maxHeartbeats 400000 in
theorem reserveThen_walk (a0 : Option Addr) (len0 cap0 : Nat) (z0 : List Int) (a1 : Int) (a2 : Int) (w : World) (w0 : In64 w a0 len0 cap0 z0) :
    Calls Try.prog 5 #[.slice a0 len0 cap0, .int .i64 a1, .int .i64 a2] w fun e w' => e = .returned (.bool true) ∧ Below w.heap.size w w' := by
  obtain ⟨hh, hlt, hm⟩ := w0.hs
  have hnil : a0 = none → len0 = 0 ∧ cap0 = 0 := by rintro rfl; exact w0.nil
  clear w0
  unfold maxLen at hm
  generalize hsOf z0 = hs at *

  by_cases hbig : 4096 < len0
  · clear hh hnil hlt
    go_enter Try.func5, Try.ntmps5
    go_wp2
    all_goals (go_ret; exact ⟨rfl, Below.refl _ _⟩)
  by_cases hm1 : a2 < 0
  · have d1 : decide (a2 < 0) = true := by simp; omega
    clear hh hnil hlt
    go_enter Try.func5, Try.ntmps5
    go_wp2
    all_goals (go_ret; exact ⟨rfl, Below.refl _ _⟩)
  by_cases hm2 : 65536 < a2
  · have d1 : decide (a2 < 0) = false := by simp; omega
    clear hh hnil hlt
    go_enter Try.func5, Try.ntmps5
    go_wp2
    all_goals (go_ret; exact ⟨rfl, Below.refl _ _⟩)
  by_cases hs1 : a1 < 0
  · have d1 : decide (a2 < 0) = false := by simp; omega
    have d2 : decide (a1 < 0) = true := by simp; omega
    clear hh hnil hlt
    go_enter Try.func5, Try.ntmps5
    go_wp2
    all_goals (go_ret; exact ⟨rfl, Below.refl _ _⟩)
  by_cases hs2 : (len0 : Int) < a1
  · have d1 : decide (a2 < 0) = false := by simp; omega
    have d2 : decide (a1 < 0) = false := by simp; omega
    clear hh hnil hlt
    go_enter Try.func5, Try.ntmps5
    go_wp2
    all_goals (go_ret; exact ⟨rfl, Below.refl _ _⟩)
  obtain ⟨sp, rfl⟩ := Int.eq_ofNat_of_zero_le (show 0 ≤ a1 by omega)
  obtain ⟨m, rfl⟩ := Int.eq_ofNat_of_zero_le (show 0 ≤ a2 by omega)
  exact reserveThen_main a0 len0 cap0 hs sp m w hh hnil hlt (by omega) (by omega) (by omega)
end Go.Proofs.Qxb6612798a
