/-
  Seat b6612798a: 'Find', 'ZZindexFind'; the walk of FnIndexFindAfterAdds.
-/
import Derived.Test.Qxb6612798aAdd
namespace Go.Proofs.Qxb6612798a
open Go.ChangeShapes Go.WideShapes Go.ChangeAt Go.RowKit
open Ix (used upd tagN Tab Free)

/-- What the search from h for q comes to: r, at the D-th slot of the road. -/
def Look (S : Nat) (sl tg : Nat → Nat) (h q r D : Nat) : Prop :=
  D < S ∧ sl ((h + D) % S) = r ∧ (r = 0 ∨ (r = q ∧ tg ((h + D) % S) = tagN h)) ∧ ∀ e, e < D → sl ((h + e) % S) ≠ 0 ∧ sl ((h + e) % S) ≠ q

theorem least (p : Nat → Prop) : ∀ d, p d → ∃ D, D ≤ d ∧ p D ∧ ∀ e, e < D → ¬ p e := by
  intro d
  induction d using Nat.strongRecOn with
  | _ d ih =>
    intro hd
    by_cases h : ∃ e, e < d ∧ p e
    · obtain ⟨e, he, hp⟩ := h
      obtain ⟨D, h1, h2, h3⟩ := ih e he hp
      exact ⟨D, by omega, h2, h3⟩
    · exact ⟨d, Nat.le_refl _, hd, fun e he hp => h ⟨e, he, hp⟩⟩

theorem look_held {hs : Nat → Nat} {S : Nat} {sl tg : Nat → Nat} {M : Nat → Prop} (hT : Tab hs S sl tg M) {q : Nat} (hq : M q) (hS : 0 < S) : ∃ D, Look S sl tg (hs (q - 1)) q q D := by
  obtain ⟨h0, d, hd, h1, h2⟩ := hT.held q hq
  obtain ⟨D, g1, g2, g3⟩ := least (fun e => sl ((hs (q - 1) + e) % S) = q) d h1
  refine ⟨D, by omega, g2, .inr ⟨rfl, ?_⟩, fun e he => ⟨h2 e (by omega), g3 e he⟩⟩
  have := hT.tag ((hs (q - 1) + D) % S) (Nat.mod_lt _ hS) (by rw [g2]; exact h0)
  rw [this, g2]

theorem look_absent {hs : Nat → Nat} {S : Nat} {sl tg : Nat → Nat} {M : Nat → Prop} (hT : Tab hs S sl tg M) {q : Nat} (hq : ¬ M q) (h : Nat) (hu : used sl S < S) : ∃ D, Look S sl tg h q 0 D := by
  obtain ⟨d, hd, hz⟩ := Ix.reach S sl h hu
  obtain ⟨D, g1, g2, g3⟩ := least (fun e => sl ((h + e) % S) = 0) d hz
  refine ⟨D, by omega, g2, .inl rfl, fun e he => ⟨g3 e he, fun hx => ?_⟩⟩
  have := hT.back ((h + e) % S) (Nat.mod_lt _ (by omega)) (g3 e he)
  rw [hx] at this
  exact hq this

theorem holds_yes (w : World) (bx q : Nat) (hb : w.cell? ⟨bx, 0, none⟩ = some (.int .u32 (q : Int))) :
    Calls Try.prog 21 #[.int .u32 (q : Int), .pointer (some ⟨bx, 0, none⟩)] w fun e w' => e = .returned (.bool true) ∧ w' = w := by
  go_enter Try.func21, Try.ntmps21
  go_wp2
  go_ret
  exact ⟨by simp, rfl⟩
theorem holds_no (w : World) (bx q n : Nat) (hn : n ≠ q) (hb : w.cell? ⟨bx, 0, none⟩ = some (.int .u32 (q : Int))) :
    Calls Try.prog 21 #[.int .u32 (n : Int), .pointer (some ⟨bx, 0, none⟩)] w fun e w' => e = .returned (.bool false) ∧ w' = w := by
  have hne : ((n : Int) == (q : Int)) = false := by rw [beq_eq_false_iff_ne]; omega
  go_enter Try.func21, Try.ntmps21
  go_wp2
  go_ret
  exact ⟨rfl, rfl⟩

set_option maxHeartbeats 800000 in
theorem find_any (X A T S : Nat) (sl tg : Nat → Nat) (n : Nat) (w : World) (hI : Idx w X A T S sl tg n) (hSz : Sz S) (bx q h r D : Nat) (hb : w.cell? ⟨bx, 0, none⟩ = some (.int .u32 (q : Int))) (hh : h < 18446744073709551616) (hL : Look S sl tg h q r D) :
    Calls Try.prog 20 #[.pointer (some ⟨X, 0, none⟩), .int .u64 (h : Int), .func (Fn.func 21) #[] #[.pointer (some ⟨bx, 0, none⟩)]] w fun e w' => e = .returned (.int .u32 (r : Int)) ∧ ∃ nq, w' = w.drewN nq := by
  obtain ⟨hX, hA, hT⟩ := hI
  obtain ⟨l1, l2, l3, l4⟩ := hL
  have c0 : w.cell? ⟨X, 0, none⟩ = some (.slice (some ⟨A, 0, none⟩) S S) := by simp [World.cell?, hX]
  have c1 : w.cell? ⟨X, 0 + 1, none⟩ = some (.slice (some ⟨T, 0, none⟩) S S) := by simp [World.cell?, hX]
  have m0 : bits .and .u64 (h : Int) ((S : Int) - 1) = ((h % S : Nat) : Int) := mask_of hSz h hh
  obtain ⟨i0, hi0⟩ : ∃ i0, i0 = h % S := ⟨_, rfl⟩
  rw [← hi0] at m0
  have h8 := hSz.1
  have h18 := hSz.2.1
  have I0 := hide hi0
  have HM := hide (mask_of hSz)
  have HA := hide hA
  have HT := hide hT
  have L2 := hide l2
  have L3 := hide l3
  have L4 := hide l4
  have hS0 : ((S : Int) == 0) = false := by rw [beq_eq_false_iff_ne]; omega
  clear hi0 hX hA hT l2 l3 l4
  go_enter Try.func20, Try.ntmps20
  go_wp2
  go_quiet ((go_at_call 26; exact Calls.quiet_of_same (tag_any h hh _)))
  go_wp2
  go_loopg [9] D (fun g s9 wr => ∃ e j : Nat, e + g = D ∧ s9 = .int .u64 (j : Int) ∧ j < S ∧ Hid (j = (h + e) % S) ∧ wr = w.drewN nq)
  case atStart => exact ⟨0, i0, Nat.zero_add _, rfl, by rw [I0.out]; exact Nat.mod_lt _ (by omega), by show _ = _; rw [I0.out]; rfl, rfl⟩
  case round =>
    obtain ⟨e, j, he, rfl, hj, hj', rfl⟩ := hrel
    have ca := HA.out.cell hj
    have ct := HT.out.cell hj
    by_cases hed : e = D
    · subst hed
      have hr : sl j = r := by rw [hj'.out]; exact L2.out
      rw [hr] at ca
      have hcase := L3.out
      rw [← hj'.out] at hcase
      by_cases hr0 : r = 0
      · subst hr0
        clear hcase hr
        go_wp2
        go_ret
        exact ⟨rfl, nq, rfl⟩
      · have hq : r = q ∧ tg j = tagN h := by
          rcases hcase with h | h
          · exact absurd h hr0
          · exact h
        obtain ⟨rfl, htg⟩ := hq
        rw [htg] at ct
        have hne : ((r : Int) == 0) = false := by rw [beq_eq_false_iff_ne]; omega
        have HY := hide (holds_yes (w.drewN nq) bx r (by simpa using hb))
        clear hcase hr htg hr0 hb
        go_wp2_with (go_at_call 21; refine Calls.mono HY.out ?_; rintro e w' ⟨rfl, rfl⟩)
        go_ret
        exact ⟨rfl, nq, rfl⟩
    · obtain ⟨hz, hnq⟩ := L4.out e (by omega)
      rw [← hj'.out] at hz hnq
      have hne : ((sl j : Int) == 0) = false := by rw [beq_eq_false_iff_ne]; omega
      have m1 : bits .and .u64 ((j : Int) + 1) ((S : Int) - 1) = (((j + 1) % S : Nat) : Int) := by
        have := HM.out (j + 1) (by omega)
        simpa using this
      obtain ⟨j2, hj2⟩ : ∃ j2, j2 = (j + 1) % S := ⟨_, rfl⟩
      rw [← hj2] at m1
      have hj2lt : j2 < S := by rw [hj2]; exact Nat.mod_lt _ (by omega)
      have hstep : Hid (j2 = (h + (e + 1)) % S) := by
        show _ = _; rw [hj2, hj'.out, Ix.step_mod]
      have HN := hide (holds_no (w.drewN nq) bx q (sl j) hnq (by simpa using hb))
      clear hj2 hz hnq hb
      generalize sl j = x at *
      by_cases htg : tg j = tagN h
      · rw [htg] at ct
        clear htg
        go_wp2_with (go_at_call 21; refine Calls.mono HN.out ?_; rintro e w' ⟨rfl, rfl⟩)
        go_roundg (D - (e + 1))
        case measure => omega
        case rel => exact ⟨e + 1, j2, by omega, rfl, hj2lt, hstep, rfl⟩
      · have htf : ((tg j : Int) == (tagN h : Int)) = false := by rw [beq_eq_false_iff_ne]; omega
        clear htg HN
        go_wp2
        go_roundg (D - (e + 1))
        case measure => omega
        case rel => exact ⟨e + 1, j2, by omega, rfl, hj2lt, hstep, rfl⟩

/-- Find in an index without a table. -/
theorem find_none (X n : Nat) (w : World) (hX : w.heap[X]? = some (.cells #[.slice none 0 0, .slice none 0 0, .int .i64 (n : Int)] 30 (0, 0))) (h : Int) (f : Value) :
    Calls Try.prog 20 #[.pointer (some ⟨X, 0, none⟩), .int .u64 h, f] w fun e w' => e = .returned (.int .u32 0) ∧ ∃ nq, w' = w.drewN nq := by
  have c0 : w.cell? ⟨X, 0, none⟩ = some (.slice none 0 0) := by simp [World.cell?, hX]
  clear hX
  go_enter Try.func20, Try.ntmps20
  go_wp2
  go_ret
  exact ⟨rfl, 0, rfl⟩

/-- What Find answers in an index that holds 1..k: the number, if it is held and looked for by its own hash; 0 if it is not held. -/
theorem find_st (hs : Nat → Nat) (w : World) (X A T S k : Nat) (hst : St hs w X A T S k) (bx q h r : Nat) (hb : w.cell? ⟨bx, 0, none⟩ = some (.int .u32 (q : Int))) (hh : h < 18446744073709551616)
    (hr : (1 ≤ q ∧ q ≤ k ∧ h = hs (q - 1) ∧ r = q) ∨ (¬ (1 ≤ q ∧ q ≤ k) ∧ r = 0)) :
    Calls Try.prog 20 #[.pointer (some ⟨X, 0, none⟩), .int .u64 (h : Int), .func (Fn.func 21) #[] #[.pointer (some ⟨bx, 0, none⟩)]] w fun e w' => e = .returned (.int .u32 (r : Int)) ∧ ∃ nq, w' = w.drewN nq := by
  rcases hst with ⟨rfl, rfl, rfl, rfl, hX⟩ | ⟨sl, tg, hI, hT, hu, hS, hl⟩
  · have hr0 : r = 0 := by omega
    subst hr0
    exact find_none X 0 w hX _ _
  · have h8 := hS.1
    obtain ⟨D, hL⟩ : ∃ D, Look S sl tg h q r D := by
      rcases hr with ⟨h1, h2, rfl, rfl⟩ | ⟨h1, rfl⟩
      · exact look_held hT ⟨h1, h2⟩ (by omega)
      · exact look_absent hT h1 h (by omega)
    exact find_any X A T S sl tg k w hI hS bx q h r D hb hh hL

/-- lint.ZZindexFind. -/
theorem zzfind_st (hs : Nat → Nat) (w : World) (X A T S k : Nat) (hst : St hs w X A T S k) (q h r : Nat) (hh : h < 18446744073709551616)
    (hr : (1 ≤ q ∧ q ≤ k ∧ h = hs (q - 1) ∧ r = q) ∨ (¬ (1 ≤ q ∧ q ≤ k) ∧ r = 0)) :
    Calls Try.prog 9 #[.pointer (some ⟨X, 0, none⟩), .int .u64 (h : Int), .int .u32 (q : Int)] w fun e w' => e = .returned (.int .u32 (r : Int)) ∧ Fr (fun _ => False) w w' := by
  have HF := hide (find_st hs (w.alloc (.cells #[.int .u32 (q : Int)] 23)) X A T S k (hst.fr ((Fr.refl (fun _ => False) w).alloc _) id id id) w.heap.size q h r (by simp) hh hr)
  clear hst hr
  go_enter Try.func9, Try.ntmps9
  go_wp2_with fail
  refine Calls.mono HF.out ?_
  rintro e w2 ⟨rfl, nq, rfl⟩
  go_wp2
  go_ret
  exact ⟨rfl, ((Fr.refl (fun _ => False) w).alloc _).drewN nq⟩

/-- What the row hands the walk of a []uint64 that came in. -/
def In64 (w : World) (a : Option Addr) (len cap : Nat) (zs : List Int) : Prop :=
  (a = none ∧ len = 0 ∧ cap = 0 ∧ zs = []) ∨
  ∃ x, a = some x ∧ len ≤ cap ∧ cap ≤ maxLen ∧ zs.length = cap ∧ (∀ i, i < zs.length → w.cell? (x.add i) = some (.int .u64 (zs.getD i 0))) ∧ ∀ n ∈ zs, (Lit.int .u64 n).wf = true

/-- The hashes as numbers. -/
def hsOf (zs : List Int) (i : Nat) : Nat := (zs.getD i 0).toNat

theorem hsOf_lt {zs : List Int} (h : ∀ n ∈ zs, (Lit.int .u64 n).wf = true) (i : Nat) : hsOf zs i < 18446744073709551616 := by
  unfold hsOf
  by_cases hi : i < zs.length
  · have := bounds_u64 (h _ (List.getElem_mem hi))
    simp [List.getD, hi]; omega
  · simp [List.getD, hi]

theorem In64.hs {w : World} {a : Option Addr} {len cap : Nat} {zs : List Int} (h : In64 w a len cap zs) : Hs w w.heap.size a len (hsOf zs) ∧ (∀ i, hsOf zs i < 18446744073709551616) ∧ len ≤ maxLen := by
  rcases h with ⟨rfl, rfl, rfl, rfl⟩ | ⟨x, rfl, h1, h2, h3, h4, h5⟩
  · exact ⟨.inl rfl, fun i => by simp [hsOf], Nat.zero_le _⟩
  · refine ⟨?_, hsOf_lt h5, by omega⟩
    by_cases h0 : len = 0
    · exact .inl h0
    · obtain ⟨b, off, rfl, hc⟩ := ints_at h4 (by omega)
      refine .inr ⟨b, off, rfl, World.block_lt_of_cell? _ _ (hc 0 (by omega)), fun i hi => ?_⟩
      rw [hc i (by omega)]
      have hw := bounds_u64 (h5 _ (List.getElem_mem (show i < zs.length by omega)))
      have e : ((hsOf zs i : Nat) : Int) = zs.getD i 0 := by
        have : zs.getD i 0 = zs[i]'(by omega) := by simp [List.getD, show i < zs.length by omega]
        unfold hsOf; rw [this]; omega
      rw [e]

theorem st_new (hs : Nat → Nat) (w : World) : St hs (w.alloc (.cells #[.slice none 0 0, .slice none 0 0, .int .i64 0] 30)) w.heap.size w.heap.size w.heap.size 0 0 :=
  .inl ⟨rfl, rfl, rfl, rfl, Deep.blk_alloc_new _ _⟩

theorem findAfter_walk (a0 : Option Addr) (len0 cap0 : Nat) (z0 : List Int) (a1 : Int) (a2 : Int) (w : World) (w0 : In64 w a0 len0 cap0 z0) (w1 : (Lit.int .u32 a1).wf = true) (w2 : (Lit.int .u64 a2).wf = true) :
    Calls Try.prog 3 #[.slice a0 len0 cap0, .int .u32 a1, .int .u64 a2] w fun e w' => e = .returned (.bool true) ∧ Below w.heap.size w w' := by
  obtain ⟨hh, hlt, hm⟩ := w0.hs
  clear w0
  unfold maxLen at hm
  generalize hsOf z0 = hs at *
  have b1 := bounds_u32 w1
  have b2 := bounds_u64 w2
  clear w1 w2
  by_cases hbig : 4096 < len0
  · clear hh
    go_enter Try.func3, Try.ntmps3
    go_wp2
    all_goals (go_ret; exact ⟨rfl, Below.refl _ _⟩)
  obtain ⟨q, rfl⟩ := Int.eq_ofNat_of_zero_le b1.1
  obtain ⟨hq, rfl⟩ := Int.eq_ofNat_of_zero_le b2.1
  have g0 : Fr (fun _ => False) w (w.alloc (.cells #[.slice none 0 0, .slice none 0 0, .int .i64 0] 30)) := (Fr.refl _ w).alloc _
  have HA := hide (addAll_st hs _ w.heap.size (st_new hs w) w.heap.size a0 len0 cap0 (hh.fr g0 (fun _ _ => id)) (Nat.le_refl _) (by omega) hlt len0 (Nat.le_refl _))
  have hbel : Below w.heap.size w (w.alloc (.cells #[.slice none 0 0, .slice none 0 0, .int .i64 0] 30)) := (Below.refl _ _).alloc (Nat.le_refl _) _
  have HH := hide (hh.later hbel)
  have HL := hide hlt
  clear hh hlt
  by_cases h1 : 1 ≤ q
  · by_cases h2 : q ≤ len0
    · obtain ⟨k, rfl⟩ : ∃ k, q = k + 1 := ⟨q - 1, by omega⟩
      obtain ⟨v, hv⟩ : ∃ v, v = hs k := ⟨_, rfl⟩
      have hvlt : v < 18446744073709551616 := by rw [hv]; exact HL.out k
      have HV := hide hv
      clear hv
      go_enter Try.func3, Try.ntmps3
      go_wp2_with (first | (go_at_call 7; go_in))
      refine Calls.mono HA.out ?_
      rintro e w3 ⟨rfl, A', T', s1, g1, q1, q2⟩
      have hb3 := g1.below (B := w.heap.size) (by simp) (fun k h => by rw [h]; exact Nat.le_refl _)
      have hbW := hbel.trans hb3
      have hh3 := HH.out.later hb3
      have HF := hide (zzfind_st hs w3 w.heap.size A' T' (sizeAt len0) len0 s1 (k + 1) v (k + 1) hvlt (.inl ⟨h1, h2, HV.out, rfl⟩))
      rcases hh3 with h | ⟨b, off, rfl, _, hc⟩
      · omega
      have ck := hc k (by omega)
      rw [← HV.out] at ck
      clear hc s1 g1 hb3 hbel g0 HA
      go_wp2_with fail
      refine Calls.mono HF.out ?_
      rintro e w4 ⟨rfl, g4⟩
      have hb4 := hbW.trans (g4.below (B := w.heap.size) hbW.size (fun k h => h.elim))
      go_wp2
      go_ret
      exact ⟨by simp, hb4⟩
    · have HR := hide (fun w3 A' T' s1 => zzfind_st hs w3 w.heap.size A' T' (sizeAt len0) len0 s1 q hq 0 (by omega) (.inr ⟨by omega, rfl⟩))
      go_enter Try.func3, Try.ntmps3
      go_wp2_with (first | (go_at_call 7; go_in))
      refine Calls.mono HA.out ?_
      rintro e w3 ⟨rfl, A', T', s1, g1, q1, q2⟩
      have hb3 := g1.below (B := w.heap.size) (by simp) (fun k h => by rw [h]; exact Nat.le_refl _)
      have hbW := hbel.trans hb3
      clear g1 hb3 hbel g0 HA
      go_wp2_with fail
      refine Calls.mono (HR.out _ _ _ s1) ?_
      rintro e w4 ⟨rfl, g4⟩
      have hb4 := hbW.trans (g4.below (B := w.heap.size) hbW.size (fun k h => h.elim))
      go_wp2
      go_ret
      exact ⟨by simp, hb4⟩
  · have HR := hide (fun w3 A' T' s1 => zzfind_st hs w3 w.heap.size A' T' (sizeAt len0) len0 s1 q hq 0 (by omega) (.inr ⟨by omega, rfl⟩))
    have hg1 : decide (1 ≤ (q : Int)) = false := by simp; omega
    go_enter Try.func3, Try.ntmps3
    go_wp2_with (first | (go_at_call 7; go_in))
    refine Calls.mono HA.out ?_
    rintro e w3 ⟨rfl, A', T', s1, g1, q1, q2⟩
    have hb3 := g1.below (B := w.heap.size) (by simp) (fun k h => by rw [h]; exact Nat.le_refl _)
    have hbW := hbel.trans hb3
    clear g1 hb3 hbel g0 HA
    go_wp2_with fail
    refine Calls.mono (HR.out _ _ _ s1) ?_
    rintro e w4 ⟨rfl, g4⟩
    have hb4 := hbW.trans (g4.below (B := w.heap.size) hbW.size (fun k h => h.elim))
    go_wp2
    go_ret
    exact ⟨by simp, hb4⟩
end Go.Proofs.Qxb6612798a
