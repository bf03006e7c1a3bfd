/-
  Seat b6612798a: the walk of FnIndexReserveTwiceIsReserveOfGreater.
-/
import Derived.Test.Qxb6612798aReserve
import Derived.Deep.CutRange
namespace Go.Proofs.Qxb6612798a
open Go.ChangeShapes Go.WideShapes Go.ChangeAt Go.RowKit
open Ix (used upd tagN Tab Free)

set_option maxHeartbeats 1600000 in
theorem reserveTwice_main (a0 : Option Addr) (len0 cap0 : Nat) (hs : Nat → Nat) (ra rb : Nat) (w : World) (hh : Hs w w.heap.size a0 len0 hs) (hnil : a0 = none → len0 = 0 ∧ cap0 = 0) (hlt : ∀ i, hs i < 18446744073709551616)
    (hN : len0 ≤ 4096) (hra : ra ≤ 65536) (hrb : rb ≤ 65536) :
    Calls Try.prog 6 #[.slice a0 len0 cap0, .int .i64 (ra : Int), .int .i64 (rb : Int)] w fun e w' => e = .returned (.bool true) ∧ Below w.heap.size w w' := by
  have hmk := run_make_row' (P := Try.prog) 22 24 (.int .u64 0) 8 Try.underlying22 bytes64 rfl .i64 .i64 len0 (by omega) (by omega)
  have d1 : decide ((ra : Int) < 0) = false := by simp
  have d2 : decide ((65536 : Int) < (ra : Int)) = false := by simp; omega
  have d3 : decide ((rb : Int) < 0) = false := by simp
  have HH := hide hh
  have HL := hide hlt
  have HN := hide hnil
  clear hh hlt hnil
  go_enter Try.func6, Try.ntmps6
  go_upto_if 37 with (first | (go_at_call 19; go_in))
  clear d1 d2 d3
  go_cut [0] from 14 to 44 (fun s0 wc => ∃ (a : Option Addr) (c : Nat), s0 = .slice a len0 c ∧ Hs wc wc.heap.size a len0 hs ∧ Below w.heap.size w wc)
  case first =>
    cases a0 with
    | none =>
      obtain ⟨rfl, rfl⟩ := HN.out rfl
      go_wp2
      go_meet
      case rel => exact ⟨none, 0, rfl, .inl rfl, Below.refl _ _⟩
    | some x =>
      go_wp2_with (first | (refine wpList_copy_new rfl (.tmp 41) (.tmp 42) rfl w (some x) len0 cap0 w.heap.size hs rfl rfl rfl HH.out (Nat.le_refl _) ?_; intro w2 bW r1))
      go_meet
      case rel => exact ⟨_, len0, rfl, r1, bW⟩
  case rest =>
    obtain ⟨wb, rfl⟩ : ∃ wb : World, wb = wc := ⟨_, rfl⟩
    obtain ⟨a, c, rfl, hc, hbw⟩ := hcut
    clear hmk HH HN
    -- x
    have HA := hide (addAll_st hs _ wb.heap.size (st_new hs wb) wb.heap.size a len0 c (hc.fr ((Fr.refl (fun _ => False) wb).alloc _) (fun _ _ => id)) (Nat.le_refl _) hN HL.out len0 (Nat.le_refl _))
    go_wp2_with fail
    refine Calls.mono HA.out ?_
    rintro e w3 ⟨rfl, A, T, s3, g3, _, _⟩
    have bel3 : Below wb.heap.size wb w3 := (((Below.refl _ wb).alloc (Nat.le_refl _) _)).trans (g3.below (by simp) (fun k h => by rw [h]; exact Nat.le_refl _))
    have h3 := hc.later bel3
    obtain ⟨lx, lA, lT⟩ := s3.lt
    clear g3 HA
    -- y
    have bY : Below wb.heap.size w3 (w3.alloc (.cells #[.slice none 0 0, .slice none 0 0, .int .i64 0] 30)) := (Below.refl _ w3).alloc bel3.size _
    have HB := hide (addAll_st hs _ w3.heap.size (st_new hs w3) wb.heap.size a len0 c (h3.later bY) bel3.size hN HL.out len0 (Nat.le_refl _))
    have s3' := s3.fr ((Fr.refl (fun _ => False) w3).alloc (.cells #[.slice none 0 0, .slice none 0 0, .int .i64 0] 30)) id id id
    clear s3
    go_wp2_with fail
    refine Calls.mono HB.out ?_
    rintro e w5 ⟨rfl, A', T', y5, g5, q1, q2⟩
    have x5 := s3'.fr g5 (by omega) (by omega) (by omega)
    have bel5 : Below wb.heap.size wb w5 := (bel3.trans bY).trans (g5.below (by rw [Deep.nblk_alloc]; have := bel3.size; omega) (fun k h => by rw [h]; exact bel3.size))
    have z5 := g5.size
    rw [Deep.nblk_alloc] at q1 q2 z5
    have h5 := hc.later bel5
    clear g5 HB s3' bY h3 bel3
    generalize sizeAt len0 = S at *
    have hS18 : S ≤ 262144 := by obtain ⟨_, _, _, _, h, _⟩ := st_cells y5; exact h
    have HSL := hide (slots_st hs w5 w3.heap.size A' T' S len0 y5)
    go_wp2_with fail
    refine Calls.mono HSL.out ?_
    rintro e w5' ⟨⟨a', c', rfl⟩, rfl⟩
    clear HSL
    go_upto_if 63 with fail
    obtain ⟨base, hbase⟩ : ∃ b, b = max S 8 := ⟨_, rfl⟩
    have HBS := hide hbase
    have hbb : base ≤ 262144 := by omega
    clear hbase
    go_cut [10] from 45 to 63 (fun s10 wd => s10 = .int .i64 (base : Int) ∧ wd = w5')
    case first =>
      by_cases hS8 : S < 8
      · have e8 : base = 8 := by rw [HBS.out]; omega
        clear HBS hbb
        go_wp2
        go_meet
        case rel => exact ⟨by rw [e8]; rfl, rfl⟩
      · have e8 : Hid (base = S) := by show _ = _; rw [HBS.out]; omega
        go_wp2
        go_meet
        case rel => exact ⟨by rw [e8.out], rfl⟩
    case rest =>
      obtain ⟨wd, rfl⟩ : ∃ wd : World, wd = wc := ⟨_, rfl⟩
      obtain ⟨rfl, rfl⟩ := hcut
      go_upto_if 67 with fail
      obtain ⟨gr, hgr⟩ : ∃ b, b = max ra rb := ⟨_, rfl⟩
      have HGR := hide hgr
      have hgr6 : gr ≤ 65536 := by omega
      clear hgr
      go_cut [11] from 64 to 68 (fun s11 we => s11 = .int .i64 (gr : Int) ∧ we = wd)
      case first =>
        by_cases hab : ra < rb
        · have e8 : Hid (gr = rb) := by show _ = _; rw [HGR.out]; omega
          go_wp2
          go_meet
          case rel => exact ⟨by rw [e8.out], rfl⟩
        · have e8 : Hid (gr = ra) := by show _ = _; rw [HGR.out]; omega
          go_wp2
          go_meet
          case rel => exact ⟨by rw [e8.out], rfl⟩
      case rest =>
        obtain ⟨rfl, rfl⟩ := hcut
        -- Reserve(x, a)
        have HR1 := hide (zzreserve_st hs wc wb.heap.size A T S len0 x5 wb.heap.size a len0 c h5 (Nat.le_refl _) hN (Nat.le_refl _) HL.out ra hra)
        rw [← HBS.out] at HR1
        clear x5
        go_wp2_with fail
        refine Calls.mono HR1.out ?_
        rintro e w6 ⟨rfl, S1, A1, T1, hL1, x6, g6, r1, r2⟩
        have y6 := y5.fr g6 (by omega) (by omega) (by omega)
        have bel6 := bel5.trans (g6.below bel5.size (fun k h => by rw [h]; exact Nat.le_refl _))
        have h6 := hc.later bel6
        have z6 := g6.size
        have h8 : max S1 8 = S1 := by have := hL1.1.1; omega
        clear HR1 g6 y5 bel5 h5
        -- Reserve(x, b)
        have HR2 := hide (zzreserve_st hs w6 wb.heap.size A1 T1 S1 len0 x6 wb.heap.size a len0 c h6 (Nat.le_refl _) hN (Nat.le_refl _) HL.out rb hrb)
        rw [h8] at HR2
        clear x6 h8
        go_wp2_with fail
        refine Calls.mono HR2.out ?_
        rintro e w7 ⟨rfl, S2, A2, T2, hL2, x7, g7, t1, t2⟩
        have y7 := y6.fr g7 (by omega) (by omega) (by omega)
        have bel7 := bel6.trans (g7.below bel6.size (fun k h => by rw [h]; exact Nat.le_refl _))
        have h7 := hc.later bel7
        have z7 := g7.size
        clear HR2 g7 y6 bel6 h6
        -- Reserve(y, max(a, b))
        have HR3 := hide (zzreserve_st hs w7 w3.heap.size A' T' S len0 y7 wb.heap.size a len0 c h7 (by omega) hN (Nat.le_refl _) HL.out gr hgr6)
        rw [← HBS.out] at HR3
        clear y7
        go_wp2_with fail
        refine Calls.mono HR3.out ?_
        rintro e w8 ⟨rfl, S3, A3, T3, hL3, y8, g8, _, _⟩
        have x8 := x7.fr g8 (by omega) (by omega) (by omega)
        have bel8 := bel7.trans (g8.below bel7.size (fun k h => by rw [h]; omega))
        have h8 := hc.later bel8
        have hL := hL1.twice hL2
        rw [← HGR.out] at hL
        have e23 := hL.unique hL3
        subst e23
        clear HR3 g8 x7 bel7 h7 hL1 hL2 hL
        have HX := hide (slots_st hs w8 wb.heap.size A2 T2 S2 len0 x8)
        have HYs := hide (slots_st hs w8 w3.heap.size A3 T3 S2 len0 y8)
        have HLE := hide (least_any S2 base gr hL3 hbb hgr6)
        have HC1 := hide (count_st hs w8 wb.heap.size A2 T2 S2 len0 x8)
        have HC2 := hide (count_st hs w8 w3.heap.size A3 T3 S2 len0 y8)
        have HF1 := hide (allFound_st hs w8 wb.heap.size A2 T2 S2 len0 x8 wb.heap.size a c h8 hN HL.out)
        have HF2 := hide (fun w9 (g9 : Fr (fun _ => False) w8 w9) => allFound_st hs w9 w3.heap.size A3 T3 S2 len0 (y8.fr g9 id id id) wb.heap.size a c (h8.fr g9 (fun _ _ => id)) hN HL.out)
        clear x8 y8 hL3 h8
        go_wp2_with fail
        refine Calls.mono HX.out ?_
        rintro e w9 ⟨⟨a9, c9, rfl⟩, rfl⟩
        go_wp2_with fail
        refine Calls.mono HYs.out ?_
        rintro e w9' ⟨⟨a10, c10, rfl⟩, rfl⟩
        go_wp2_with fail
        refine Calls.mono (HLE.out _) ?_
        rintro e w9'' ⟨rfl, rfl⟩
        go_wp2_with fail
        refine Calls.mono HC1.out ?_
        rintro e w10 ⟨rfl, rfl⟩
        go_wp2_with fail
        refine Calls.mono HC2.out ?_
        rintro e w10' ⟨rfl, rfl⟩
        go_wp2_with fail
        refine Calls.mono HF1.out ?_
        rintro e w11 ⟨rfl, g11⟩
        go_wp2_with fail
        refine Calls.mono (HF2.out _ g11) ?_
        rintro e w12 ⟨rfl, g12⟩
        go_wp2
        go_ret
        exact ⟨by simp, hbw.trans ((bel8.mono hbw.size).trans ((g11.trans g12).below (Nat.le_trans hbw.size bel8.size) (fun k h => h.elim)))⟩

theorem In64.none_len {w : World} {len cap : Nat} {zs : List Int} (h : In64 w none len cap zs) : len = 0 ∧ cap = 0 := by
  rcases h with ⟨_, h1, h2, _⟩ | ⟨x, h, _⟩
  · exact ⟨h1, h2⟩
  · cases h

set_option maxHeartbeats 400000 in
theorem reserveTwice_walk (a0 : Option Addr) (len0 cap0 : Nat) (z0 : List Int) (a1 : Int) (a2 : Int) (w : World) (w0 : In64 w a0 len0 cap0 z0) :
    Calls Try.prog 6 #[.slice a0 len0 cap0, .int .i64 a1, .int .i64 a2] w fun e w' => e = .returned (.bool true) ∧ Below w.heap.size w w' := by
  obtain ⟨hh, hlt, hm⟩ := w0.hs
  have hnil : a0 = none → len0 = 0 ∧ cap0 = 0 := by rintro rfl; exact w0.none_len
  clear w0
  unfold maxLen at hm
  generalize hsOf z0 = hs at *
  by_cases hbig : 4096 < len0
  · clear hh hnil hlt
    go_enter Try.func6, Try.ntmps6
    go_wp2
    all_goals (go_ret; exact ⟨rfl, Below.refl _ _⟩)
  by_cases hm1 : a1 < 0
  · have d1 : decide (a1 < 0) = true := by simp; omega
    clear hh hnil hlt
    go_enter Try.func6, Try.ntmps6
    go_wp2
    all_goals (go_ret; exact ⟨rfl, Below.refl _ _⟩)
  by_cases hm2 : 65536 < a1
  · have d1 : decide (a1 < 0) = false := by simp; omega
    have d2 : decide (65536 < a1) = true := by simp; omega
    clear hh hnil hlt
    go_enter Try.func6, Try.ntmps6
    go_wp2
    all_goals (go_ret; exact ⟨rfl, Below.refl _ _⟩)
  by_cases hs1 : a2 < 0
  · have d1 : decide (a1 < 0) = false := by simp; omega
    have d2 : decide (65536 < a1) = false := by simp; omega
    have d3 : decide (a2 < 0) = true := by simp; omega
    clear hh hnil hlt
    go_enter Try.func6, Try.ntmps6
    go_wp2
    all_goals (go_ret; exact ⟨rfl, Below.refl _ _⟩)
  by_cases hs2 : 65536 < a2
  · have d1 : decide (a1 < 0) = false := by simp; omega
    have d2 : decide (65536 < a1) = false := by simp; omega
    have d3 : decide (a2 < 0) = false := by simp; omega
    clear hh hnil hlt
    go_enter Try.func6, Try.ntmps6
    go_wp2
    all_goals (go_ret; exact ⟨rfl, Below.refl _ _⟩)
  obtain ⟨ra, rfl⟩ := Int.eq_ofNat_of_zero_le (show 0 ≤ a1 by omega)
  obtain ⟨rb, rfl⟩ := Int.eq_ofNat_of_zero_le (show 0 ≤ a2 by omega)
  exact reserveTwice_main a0 len0 cap0 hs ra rb w hh hnil hlt (by omega) (by omega) (by omega)
end Go.Proofs.Qxb6612798a
