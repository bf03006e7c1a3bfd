/-
  Seat b6612798a: the state of an index that holds the numbers 1..k; 'grow', 'Add', 'ZZindexAdd', 'zzAddAll'.
-/
import Derived.Test.Qxb6612798aResize
namespace Go.Proofs.Qxb6612798a
open Go.ChangeShapes Go.WideShapes Go.ChangeAt Go.RowKit
open Ix (used upd tagN Tab Free)

/-- A table's size. -/
def Sz (S : Nat) : Prop := 8 ≤ S ∧ S ≤ 262144 ∧ ∃ p, S = 2 ^ p

theorem mask_of {S : Nat} (h : Sz S) : ∀ x : Nat, x < 18446744073709551616 → bits .and .u64 (x : Int) ((S : Int) - 1) = ((x % S : Nat) : Int) := by
  intro x hx
  obtain ⟨h1, h2, p, rfl⟩ := h
  have e : ((2 ^ p : Nat) : Int) - 1 = ((2 ^ p - 1 : Nat) : Int) := by omega
  rw [e, bits_and_u64_nat x (2 ^ p - 1) hx (by omega), Nat.and_two_pow_sub_one_eq_mod]

/-- The index at X holds the numbers 1..k, in a table of S slots. (The zero Index: no table.) -/
def St (hs : Nat → Nat) (w : World) (X A T S k : Nat) : Prop :=
  (S = 0 ∧ k = 0 ∧ X = A ∧ X = T ∧ w.heap[X]? = some (.cells #[.slice none 0 0, .slice none 0 0, .int .i64 ((0 : Nat) : Int)] 30 (0, 0))) ∨
  ∃ sl tg, Idx w X A T S sl tg k ∧ Tab hs S sl tg (fun m => 1 ≤ m ∧ m ≤ k) ∧ used sl S = k ∧ Sz S ∧ 4 * k ≤ 3 * S

theorem St.fr {hs : Nat → Nat} {s : Nat → Prop} {w w' : World} {X A T S k : Nat} (h : St hs w X A T S k) (hf : Fr s w w') (hX : ¬ s X) (hA : ¬ s A) (hT : ¬ s T) : St hs w' X A T S k := by
  rcases h with ⟨h1, h2, h3, h4, h5⟩ | ⟨sl, tg, ⟨h1, h2, h3⟩, h4⟩
  · exact .inl ⟨h1, h2, h3, h4, by rw [hf.block X (Array.getElem?_eq_some_iff.1 h5).1 hX]; exact h5⟩
  · exact .inr ⟨sl, tg, ⟨by rw [hf.block X (Array.getElem?_eq_some_iff.1 h1).1 hX]; exact h1, hf.row h2 hA, hf.row h3 hT⟩, h4⟩

theorem St.lt {hs : Nat → Nat} {w : World} {X A T S k : Nat} (h : St hs w X A T S k) : X < w.heap.size ∧ A < w.heap.size ∧ T < w.heap.size := by
  rcases h with ⟨_, _, rfl, rfl, h5⟩ | ⟨sl, tg, ⟨h1, h2, h3⟩, _⟩
  · have := (Array.getElem?_eq_some_iff.1 h5).1; exact ⟨this, this, this⟩
  · exact ⟨(Array.getElem?_eq_some_iff.1 h1).1, h2.lt, h3.lt⟩

/-- 'resize' of such an index. -/
theorem resize_st (fid : Nat) (hf : fid = 25 ∨ fid = 23) (hs : Nat → Nat) (w : World) (X A T S k : Nat) (hst : St hs w X A T S k) (B bx : Nat) (a : Option Addr) (N c : Nat)
    (hb : Box w bx a N c) (hh : Hs w B a N hs) (hbx : bx ≠ X) (hB : B ≤ X) (hN : N ≤ 1048576) (hkN : k ≤ N) (hlt : ∀ i, hs i < 18446744073709551616)
    (S' : Nat) (hS' : Sz S') (hload : 4 * k ≤ 3 * S') :
    Calls Try.prog 27 #[.pointer (some ⟨X, 0, none⟩), .int .i64 (S' : Int), .func (Fn.func fid) #[] #[.pointer (some ⟨bx, 0, none⟩)]] w fun e w' => e = .returned (.tuple #[]) ∧
      ∃ A' T', St hs w' X A' T' S' k ∧ Fr (fun k => k = X) w w' ∧ w.heap.size ≤ A' ∧ w.heap.size ≤ T' := by
  have h8 := hS'.1
  have h18 := hS'.2.1
  rcases hst with ⟨rfl, rfl, rfl, rfl, hX⟩ | ⟨sl, tg, hI, hT, hu, hS, hl⟩
  · refine (resize_any fid hf X 0 none none (fun _ => 0) 0 w hX (.inl rfl) hs B bx a N c hb hh hbx hB hN hlt (fun i hi => absurd hi (by omega)) (by omega) S' (by omega) h18 (mask_of hS') (by show 0 < S'; omega)).mono ?_
    rintro e w' ⟨rfl, A', T', sl', tg', hI', hT', hu', hF, q1, q2⟩
    refine ⟨rfl, A', T', .inr ⟨sl', tg', hI', hT'.congr fun x => ⟨fun ⟨j, hj, _⟩ => absurd hj (by omega), fun h => absurd h (by omega)⟩, hu', hS', hload⟩, hF, q1, q2⟩
  · refine (resize_any fid hf X S (some ⟨A, 0, none⟩) (some ⟨T, 0, none⟩) sl k w hI.1 (.inr ⟨A, rfl, hI.ne.1.symm, hI.2.1⟩) hs B bx a N c hb hh hbx hB hN hlt ?_ hS.2.1 S' (by omega) h18 (mask_of hS') (by rw [hu]; omega)).mono ?_
    · intro i hi
      by_cases h0 : sl i = 0
      · omega
      · have := hT.back i hi h0; omega
    · rintro e w' ⟨rfl, A', T', sl', tg', hI', hT', hu', hF, q1, q2⟩
      refine ⟨rfl, A', T', .inr ⟨sl', tg', hI', hT'.congr fun x => ⟨?_, ?_⟩, by rw [hu', hu], hS', hload⟩, hF, q1, q2⟩
      · rintro ⟨j, hj, rfl, h0⟩; exact hT.back j hj h0
      · intro hx
        obtain ⟨h0, d, hd, he, _⟩ := hT.held x hx
        exact ⟨_, Nat.mod_lt _ (by have := hS.1; omega), he, h0⟩

/-- The size behind an Add. -/
def grown (S k : Nat) : Nat := if 3 * S < 4 * (k + 1) then max (2 * S) 8 else S

theorem sz_double {S : Nat} (h : Sz S) (hb : 2 * S ≤ 262144) : Sz (2 * S) := by
  obtain ⟨h1, _, p, rfl⟩ := h
  exact ⟨by omega, hb, p + 1, by rw [Nat.pow_succ]; omega⟩
theorem sz_8 : Sz 8 := ⟨by omega, by omega, 3, rfl⟩

/-- 'grow'. -/
theorem grow_st (fid : Nat) (hf : fid = 25 ∨ fid = 23) (hs : Nat → Nat) (w : World) (X A T S k : Nat) (hst : St hs w X A T S k) (B bx : Nat) (a : Option Addr) (N c : Nat)
    (hb : Box w bx a N c) (hh : Hs w B a N hs) (hbx : bx ≠ X) (hB : B ≤ X) (hN : N ≤ 4096) (hkN : k < N) (hlt : ∀ i, hs i < 18446744073709551616) (hneed : 3 * S < 4 * (k + 1)) :
    Calls Try.prog 28 #[.pointer (some ⟨X, 0, none⟩), .func (Fn.func fid) #[] #[.pointer (some ⟨bx, 0, none⟩)]] w fun e w' => e = .returned (.tuple #[]) ∧
      ∃ A' T', St hs w' X A' T' (grown S k) k ∧ Fr (fun k => k = X) w w' ∧ w.heap.size ≤ A' ∧ w.heap.size ≤ T' := by
  have hg : grown S k = max (2 * S) 8 := by simp [grown, hneed]
  rw [hg]
  clear hg
  have hst' := hst
  rcases hst' with ⟨rfl, rfl, rfl, rfl, hX⟩ | ⟨sl, tg, hI, hT, hu, hS, hl⟩
  · have HR := hide (resize_st fid hf hs w X X X 0 0 hst B bx a N c hb hh hbx hB (by omega) (by omega) hlt 8 sz_8 (by omega))
    have c0 : w.cell? ⟨X, 0, none⟩ = some (.slice none 0 0) := by simp [World.cell?, hX]
    clear hX hst hb hh
    go_enter Try.func28, Try.ntmps28
    go_wp2_with fail
    refine Calls.mono HR.out ?_
    rintro e w' ⟨rfl, A', T', h1, h2, h3, h4⟩
    go_wp2
    go_end0
    exact ⟨rfl, A', T', h1, h2, h3, h4⟩
  · have h8 := hS.1
    have hm : max (2 * S) 8 = 2 * S := by omega
    rw [hm]
    have HR := hide (resize_st fid hf hs w X A T S k hst B bx a N c hb hh hbx hB (by omega) (by omega) hlt (2 * S) (sz_double hS (by omega)) (by omega))
    have e2 : ((2 * S : Nat) : Int) = 2 * (S : Int) := by omega
    rw [e2] at HR
    have c0 : w.cell? ⟨X, 0, none⟩ = some (.slice (some ⟨A, 0, none⟩) S S) := by simp [World.cell?, hI.1]
    clear hI hT hu hst hb hh hS hm e2
    go_enter Try.func28, Try.ntmps28
    go_wp2_with fail
    refine Calls.mono HR.out ?_
    rintro e w' ⟨rfl, A', T', h1, h2, h3, h4⟩
    go_wp2
    go_end0
    exact ⟨rfl, A', T', h1, h2, h3, h4⟩

/-- The index with the number put into its table, its count not yet raised. -/
def Half (hs : Nat → Nat) (w : World) (X A T S k : Nat) : Prop :=
  ∃ sl tg, Idx w X A T S sl tg k ∧ Tab hs S sl tg (fun m => 1 ≤ m ∧ m ≤ k + 1) ∧ used sl S = k + 1 ∧ Sz S ∧ 4 * (k + 1) ≤ 3 * S

theorem put_st (hs : Nat → Nat) (w : World) (X A T S k : Nat) (hst : St hs w X A T S k) (hlt : ∀ i, hs i < 18446744073709551616) (hroom : 4 * (k + 1) ≤ 3 * S) :
    Calls Try.prog 29 #[.pointer (some ⟨X, 0, none⟩), .int .u32 ((k : Int) + 1), .int .u64 (hs k : Nat)] w fun e w' => e = .returned (.tuple #[]) ∧
      Half hs w' X A T S k ∧ Fr (fun k => k = A ∨ k = T) w w' := by
  have e1 : ((k : Int) + 1) = ((k + 1 : Nat) : Int) := by omega
  rw [e1]
  rcases hst with ⟨rfl, rfl, rfl, rfl, hX⟩ | ⟨sl, tg, hI, hT, hu, hS, hl⟩
  · omega
  · have h8 := hS.1
    obtain ⟨D, hD, hz⟩ := Ix.reach S sl (hs k) (by omega)
    refine (put_any X A T S sl tg k w hI (k + 1) (hs k) D (by omega) hS.2.1 (mask_of hS) (hlt k) hD hz).mono ?_
    rintro e w' ⟨rfl, p, hfree, hI', hF⟩
    have hTab := hT.put (m := k + 1) (by omega) hfree
    obtain ⟨d, hd, hp, hzp, _⟩ := hfree
    refine ⟨rfl, ⟨_, _, hI', hTab.congr fun x => ?_, ?_, hS, hroom⟩, hF⟩
    · constructor
      · rintro (h | h) <;> omega
      · intro h
        by_cases e : x = k + 1
        · exact .inr e
        · exact .inl (by omega)
    · rw [Ix.used_upd sl hzp (by omega) S (by rw [hp]; exact Nat.mod_lt _ (by omega)), hu]

theorem half_raise {hs : Nat → Nat} {w : World} {X A T S k : Nat} (h : Half hs w X A T S k) : St hs (w.setCell ⟨X, 2, none⟩ (.int .i64 ((k : Int) + 1))) X A T S (k + 1) ∧ Fr (fun k => k = X) w (w.setCell ⟨X, 2, none⟩ (.int .i64 ((k : Int) + 1))) := by
  have e1 : ((k : Int) + 1) = ((k + 1 : Nat) : Int) := by omega
  rw [e1]
  obtain ⟨sl, tg, hI, hT, hu, hS, hl⟩ := h
  obtain ⟨n1, n2, n3⟩ := hI.ne
  obtain ⟨hX, hA, hTg⟩ := hI
  refine ⟨.inr ⟨sl, tg, ⟨?_, hA.setOther (a := ⟨X, 2, none⟩) n1.symm _, hTg.setOther (a := ⟨X, 2, none⟩) n2.symm _⟩, hT, hu, hS, hl⟩, (Fr.refl (fun k => k = X) w).setCell (a := ⟨X, 2, none⟩) rfl _⟩
  simp [World.setCell, Array.getElem?_modify, hX]

theorem half_cell {hs : Nat → Nat} {w : World} {X A T S k : Nat} (h : Half hs w X A T S k) : w.cell? ⟨X, 0 + 2, none⟩ = some (.int .i64 (k : Int)) ∧ w.frozen? ⟨X, 0 + 2, none⟩ = false := by
  obtain ⟨sl, tg, ⟨hX, _, _⟩, _⟩ := h
  exact ⟨by simp [World.cell?, hX], by simp [World.frozen?, hX]⟩

/-- The two fields that Add reads. -/
theorem st_cells {hs : Nat → Nat} {w : World} {X A T S k : Nat} (h : St hs w X A T S k) : ∃ a0 c, w.cell? ⟨X, 0, none⟩ = some (.slice a0 S c) ∧ w.cell? ⟨X, 0 + 2, none⟩ = some (.int .i64 (k : Int)) ∧ S ≤ 262144 ∧ w.frozen? ⟨X, 0 + 2, none⟩ = false := by
  rcases h with ⟨rfl, rfl, _, _, hX⟩ | ⟨sl, tg, ⟨hX, _, _⟩, _, _, hS, _⟩
  · exact ⟨none, 0, by simp [World.cell?, hX], by simp [World.cell?, hX], by omega, by simp [World.frozen?, hX]⟩
  · exact ⟨_, S, by simp [World.cell?, hX]; rfl, by simp [World.cell?, hX], hS.2.1, by simp [World.frozen?, hX]⟩

theorem Hs.later {w w' : World} {B : Nat} {a : Option Addr} {N : Nat} {hs : Nat → Nat} (h : Hs w B a N hs) (hb : Below B w w') : Hs w' B a N hs := by
  rcases h with h | ⟨b, off, e, hB, hc⟩
  · exact .inl h
  · exact .inr ⟨b, off, e, hB, fun i hi => (hb.cell (p := ⟨b, off + i, none⟩) hB).trans (hc i hi)⟩

/-- Add of the next number. -/
theorem add_st (fid : Nat) (hf : fid = 25 ∨ fid = 23) (hs : Nat → Nat) (w : World) (X A T S k : Nat) (hst : St hs w X A T S k) (B bx : Nat) (a : Option Addr) (N c : Nat)
    (hb : Box w bx a N c) (hh : Hs w B a N hs) (hbx : bx ≠ X) (hB : B ≤ X) (hN : N ≤ 4096) (hkN : k < N) (hlt : ∀ i, hs i < 18446744073709551616) :
    Calls Try.prog 24 #[.pointer (some ⟨X, 0, none⟩), .int .u32 ((k : Int) + 1), .int .u64 (hs k : Nat), .func (Fn.func fid) #[] #[.pointer (some ⟨bx, 0, none⟩)]] w fun e w' => e = .returned (.tuple #[]) ∧
      ∃ A' T', St hs w' X A' T' (grown S k) (k + 1) ∧ Fr (fun k => k = X ∨ k = A ∨ k = T) w w' ∧ (A' = A ∨ w.heap.size ≤ A') ∧ (T' = T ∨ w.heap.size ≤ T') := by
  obtain ⟨a0, c', c0, c2, h18, f2⟩ := st_cells hst
  by_cases hneed : 3 * S < 4 * (k + 1)
  · have HG := hide (fun nq => grow_st fid hf hs (w.drewN nq) X A T S k (hst.fr ((Fr.refl (fun _ => False) w).drewN nq) id id id) B bx a N c hb (hh.fr ((Fr.refl (fun _ => False) w).drewN nq) (fun _ _ => id)) hbx hB hN hkN hlt hneed)
    have hroom : 4 * (k + 1) ≤ 3 * grown S k := by
      have : grown S k = max (2 * S) 8 := by simp [grown, hneed]
      rw [this]
      rcases hst with ⟨rfl, rfl, _⟩ | ⟨_, _, _, _, _, hS, hl⟩
      · omega
      · have := hS.1; omega
    have HP := hide (fun w A T hst => put_st hs w X A T (grown S k) k hst hlt hroom)
    have xlt := hst.lt.1
    generalize grown S k = S' at *
    clear hst hb hh hlt
    go_enter Try.func24, Try.ntmps24
    go_wp2
    go_quiet (fail)
    go_wp2_with fail
    refine Calls.mono (HG.out _) ?_
    rintro e w1 ⟨rfl, A', T', s1, g1, q1, q2⟩
    go_wp2_with fail
    refine Calls.mono (HP.out _ _ _ s1) ?_
    rintro e w2 ⟨rfl, hf2, g2⟩
    obtain ⟨d2, e2⟩ := half_cell hf2
    have hr := half_raise hf2
    clear s1 hf2 c0 c2 f2
    go_wp2
    go_end0
    refine ⟨rfl, A', T', hr.1, ?_, .inr q1, .inr q2⟩
    have g0 : Fr (fun k => k = X ∨ k = A ∨ k = T) w (w.drewN nq) := (Fr.refl _ w).drewN nq
    exact ((g0.after g1 (fun x h => .inl (.inl h))).after g2 (fun x h => .inr (by rcases h with rfl | rfl; exact q1; exact q2))).after hr.2 (fun x h => .inl (.inl h))
  · have hg : grown S k = S := by simp [grown, hneed]
    rw [hg]
    have HP := hide (fun nq => put_st hs (w.drewN nq) X A T S k (hst.fr ((Fr.refl (fun _ => False) w).drewN nq) id id id) hlt (by omega))
    clear hst hb hh hlt hg
    go_enter Try.func24, Try.ntmps24
    go_wp2
    go_quiet (fail)
    go_wp2_with fail
    refine Calls.mono (HP.out _) ?_
    rintro e w2 ⟨rfl, hf2, g2⟩
    obtain ⟨d2, e2⟩ := half_cell hf2
    have hr := half_raise hf2
    clear hf2 c0 c2 f2
    go_wp2
    go_end0
    refine ⟨rfl, A, T, hr.1, ?_, .inl rfl, .inl rfl⟩
    have g0 : Fr (fun k => k = X ∨ k = A ∨ k = T) w (w.drewN nq) := (Fr.refl _ w).drewN nq
    exact (g0.after g2 (fun x h => .inl (.inr h))).after hr.2 (fun x h => .inl (.inl h))

/-- lint.ZZindexAdd. -/
theorem zzadd_st (hs : Nat → Nat) (w : World) (X A T S k : Nat) (hst : St hs w X A T S k) (B : Nat) (a : Option Addr) (N c : Nat)
    (hh : Hs w B a N hs) (hB : B ≤ X) (hN : N ≤ 4096) (hkN : k < N) (hlt : ∀ i, hs i < 18446744073709551616) :
    Calls Try.prog 17 #[.pointer (some ⟨X, 0, none⟩), .int .u32 ((k : Int) + 1), .int .u64 (hs k : Nat), .slice a N c] w fun e w' => e = .returned (.tuple #[]) ∧
      ∃ A' T', St hs w' X A' T' (grown S k) (k + 1) ∧ Fr (fun k => k = X ∨ k = A ∨ k = T) w w' ∧ (A' = A ∨ w.heap.size ≤ A') ∧ (T' = T ∨ w.heap.size ≤ T') := by
  have xlt := hst.lt.1
  have HA := hide (add_st 25 (.inl rfl) hs (w.alloc (.cells #[.slice a N c] 22)) X A T S k (hst.fr ((Fr.refl (fun _ => False) w).alloc _) id id id) B w.heap.size a N c (by simp [Box]) (hh.fr ((Fr.refl (fun _ => False) w).alloc _) (fun _ _ => id)) (by omega) hB hN hkN hlt)
  have g0 : Fr (fun k => k = X ∨ k = A ∨ k = T) w (w.alloc (.cells #[.slice a N c] 22)) := (Fr.refl _ w).alloc _
  clear hst hh hlt
  go_enter Try.func17, Try.ntmps17
  go_wp2_with fail
  refine Calls.mono HA.out ?_
  rintro e w2 ⟨rfl, A', T', s1, g1, q1, q2⟩
  go_wp2
  go_end0
  rw [Deep.nblk_alloc] at q1 q2
  exact ⟨rfl, A', T', s1, g0.after g1 (fun x h => .inl h), by omega, by omega⟩

/-- The table's size when k numbers have been added to the zero Index. -/
def sizeAt : Nat → Nat
  | 0 => 0
  | k + 1 => grown (sizeAt k) k

/-- zzAddAll from the zero Index on. -/
theorem addAll_st (hs : Nat → Nat) (w : World) (X : Nat) (hst : St hs w X X X 0 0) (B : Nat) (a : Option Addr) (N c : Nat)
    (hh : Hs w B a N hs) (hB : B ≤ X) (hN : N ≤ 4096) (hlt : ∀ i, hs i < 18446744073709551616) (to : Nat) (hto : to ≤ N) :
    Calls Try.prog 8 #[.pointer (some ⟨X, 0, none⟩), .slice a N c, .int .i64 0, .int .i64 (to : Int)] w fun e w' => e = .returned (.tuple #[]) ∧
      ∃ A' T', St hs w' X A' T' (sizeAt to) to ∧ Fr (fun k => k = X) w w' ∧ (A' = X ∨ w.heap.size ≤ A') ∧ (T' = X ∨ w.heap.size ≤ T') := by
  have HH := hide hh
  have HL := hide hlt
  have HS := hide hst
  clear hh hlt hst
  go_enter Try.func8, Try.ntmps8
  go_wp2
  go_loopg [8] to (fun g s8 wr => ∃ k A T : Nat, k + g = to ∧ s8 = .int .i64 (k : Int) ∧ St hs wr X A T (sizeAt k) k ∧ Fr (fun k => k = X) w wr ∧ (A = X ∨ w.heap.size ≤ A) ∧ (T = X ∨ w.heap.size ≤ T))
  case atStart => exact ⟨0, X, X, Nat.zero_add _, rfl, HS.out, Fr.refl _ w, .inl rfl, .inl rfl⟩
  case round =>
    obtain ⟨k, A, T, hk, rfl, hst, hF, q1, q2⟩ := hrel
    by_cases hlt : k < to
    · have hh : Hs wr B a N hs := HH.out.fr hF (fun k hk e => by omega)
      have HC := hide (zzadd_st hs wr X A T (sizeAt k) k hst B a N c hh hB hN (by omega) HL.out)
      rcases hh with h | ⟨b, off, rfl, _, hc⟩
      · omega
      have ck := hc k (by omega)
      have q0 := hF.size
      clear hst hc
      go_wp2_with fail
      refine Calls.mono HC.out ?_
      rintro e w2 ⟨rfl, A', T', s1, g1, r1, r2⟩
      go_wp2
      go_roundg (to - (k + 1))
      case measure => omega
      case rel => exact ⟨k + 1, A', T', by omega, by go_num, s1, hF.after g1 (fun x h => by rcases h with rfl | rfl | rfl; exact .inl rfl; exact q1; exact q2), by omega, by omega⟩
    · have hk' : k = to := by omega
      subst hk'
      go_wp2
      go_end0
      exact ⟨rfl, A, T, hst, hF, q1, q2⟩
end Go.Proofs.Qxb6612798a
