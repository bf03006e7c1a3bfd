/-
  Seat b6612798a: the index in memory; its 'put'.
-/
import Derived.Test.Qxb6612798aRows
import Derived.Test.Qxb6612798aPlain
import Derived.WalkKit
import Derived.ProofKit
import Derived.OpenShut
import Derived.ShutString
import Derived.WalkSpells
import Derived.WalkLawsBesides
import Derived.Deep.QuietTactic
import Derived.BigQuiet
import Derived.Deep.OwnRows
import Derived.Deep.RegionWith
import Derived.Deep.RegionHeld3
import Derived.Deep.LoopGhost
namespace Go.Proofs.Qxb6612798a
open Go.ChangeShapes Go.WideShapes Go.ChangeAt Go.RowKit
open Ix (used upd tagN Tab Free)

/-- A fact set aside. -/
theorem hide {p : Prop} (h : p) : Hid p := h

/-- The blocks of 's' apart, everything is as it was (new blocks may have come). -/
structure Fr (s : Nat → Prop) (w w' : World) : Prop where
  os : w'.os = w.os
  tape : w'.tape = w.tape
  output : w'.output = w.output
  size : w.heap.size ≤ w'.heap.size
  block : ∀ k, k < w.heap.size → ¬ s k → w'.heap[k]? = w.heap[k]?

theorem Fr.refl (s : Nat → Prop) (w : World) : Fr s w w := ⟨rfl, rfl, rfl, Nat.le_refl _, fun _ _ _ => rfl⟩
theorem Fr.trans {s : Nat → Prop} {w1 w2 w3 : World} (h : Fr s w1 w2) (k : Fr s w2 w3) : Fr s w1 w3 :=
  ⟨k.os.trans h.os, k.tape.trans h.tape, k.output.trans h.output, Nat.le_trans h.size k.size, fun i hi hb => (k.block i (Nat.lt_of_lt_of_le hi h.size) hb).trans (h.block i hi hb)⟩
theorem Fr.alloc {s : Nat → Prop} {w1 w2 : World} (h : Fr s w1 w2) (o : Obj) : Fr s w1 (w2.alloc o) :=
  h.trans ⟨rfl, rfl, rfl, by simp, fun k hk _ => Deep.blk_alloc_lt _ _ _ hk⟩
theorem Fr.setCell {s : Nat → Prop} {w1 w2 : World} (h : Fr s w1 w2) {a : Addr} (ha : s a.block) (v : Value) : Fr s w1 (w2.setCell a v) :=
  h.trans ⟨rfl, rfl, rfl, by rw [Deep.nblk_setCell]; exact Nat.le_refl _, fun k _ hb => Deep.blk_setCell_other _ _ _ _ (fun e => hb (e ▸ ha))⟩
theorem Fr.drewN {s : Nat → Prop} {w1 w2 : World} (h : Fr s w1 w2) (n : Nat) : Fr s w1 (w2.drewN n) := h.trans ⟨rfl, rfl, rfl, Nat.le_refl _, fun _ _ _ => rfl⟩
theorem Fr.mono {s s' : Nat → Prop} {w w' : World} (h : Fr s w w') (hs : ∀ k, k < w.heap.size → s k → s' k) : Fr s' w w' :=
  ⟨h.os, h.tape, h.output, h.size, fun k hk hb => h.block k hk (fun e => hb (hs k hk e))⟩
theorem Fr.below {s : Nat → Prop} {B : Nat} {w w' : World} (h : Fr s w w') (hB : B ≤ w.heap.size) (hs : ∀ k, s k → B ≤ k) : Below B w w' :=
  ⟨h.os, h.tape, h.output, h.size, fun k hk => h.block k (by omega) (fun e => by have := hs k e; omega)⟩
theorem Fr.cell {s : Nat → Prop} {w w' : World} (h : Fr s w w') {a : Addr} {v : Value} (hc : w.cell? a = some v) (hb : ¬ s a.block) : w'.cell? a = some v :=
  (World.cell?_of_block (w := w) (h.block a.block (World.block_lt_of_cell? _ _ hc) hb)).trans hc
theorem Fr.row {s : Nat → Prop} {w w' : World} (h : Fr s w w') {b : Nat} {t : TypeId} {n : Nat} {f : Nat → Value} (hr : w.rowIs b t n f) (hb : ¬ s b) : w'.rowIs b t n f :=
  hr.of_block (h.block b hr.lt hb)

/-- The index at block X, its table of S slots at block A, the tags at block T, the count n. -/
def Idx (w : World) (X A T S : Nat) (sl tg : Nat → Nat) (n : Nat) : Prop :=
  w.heap[X]? = some (.cells #[.slice (some ⟨A, 0, none⟩) S S, .slice (some ⟨T, 0, none⟩) S S, .int .i64 n] 30 (0, 0)) ∧
  w.rowIs A 23 S (fun i => .int .u32 (sl i)) ∧ w.rowIs T 5 S (fun i => .int .u8 (tg i))

theorem Idx.ne {w : World} {X A T S : Nat} {sl tg : Nat → Nat} {n : Nat} (h : Idx w X A T S sl tg n) : X ≠ A ∧ X ≠ T ∧ A ≠ T := by
  obtain ⟨h1, ⟨c, h2, _, _⟩, ⟨d, h3, _, _⟩⟩ := h
  refine ⟨?_, ?_, ?_⟩
  · rintro rfl; rw [h1] at h2; simp at h2
  · rintro rfl; rw [h1] at h3; simp at h3
  · rintro rfl; rw [h2] at h3; simp at h3

/-- lint.tagOf. -/
theorem tag_any (h : Nat) (hh : h < 18446744073709551616) (w : World) :
    Calls Try.prog 26 #[.int .u64 (h : Int)] w fun e w' => e = .returned (.int .u8 (tagN h : Nat)) ∧ w' = w := by
  go_enter Try.func26, Try.ntmps26
  go_wp2
  go_ret
  exact ⟨by simp [tagN], rfl⟩

theorem Idx.put {w : World} {X A T S : Nat} {sl tg : Nat → Nat} {n : Nat} (h : Idx w X A T S sl tg n) (j m v : Nat) :
    Idx ((w.setCell ⟨A, j, none⟩ (.int .u32 (m : Int))).setCell ⟨T, j, none⟩ (.int .u8 (v : Int))).drew X A T S (upd sl j m) (upd tg j v) n ∧
    Fr (fun k => k = A ∨ k = T) w ((w.setCell ⟨A, j, none⟩ (.int .u32 (m : Int))).setCell ⟨T, j, none⟩ (.int .u8 (v : Int))).drew := by
  obtain ⟨n1, n2, n3⟩ := h.ne
  obtain ⟨hX, hA, hT⟩ := h
  refine ⟨⟨?_, ?_, ?_⟩, ?_⟩
  · show ((w.setCell _ _).setCell _ _).heap[X]? = _
    rw [Deep.blk_setCell_other _ _ _ _ n2, Deep.blk_setCell_other _ _ _ _ n1]; exact hX
  · refine (((hA.set j _).setOther (a := ⟨T, j, none⟩) n3 _).drew).congr fun i _ => ?_
    simp only [upd]; split <;> rfl
  · refine (((hT.setOther (a := ⟨A, j, none⟩) (Ne.symm n3) _).set j _).drew).congr fun i _ => ?_
    simp only [upd]; split <;> rfl
  · exact (((Fr.refl _ w).setCell (a := ⟨A, j, none⟩) (.inl rfl) _).setCell (a := ⟨T, j, none⟩) (.inr rfl) _).drewN 1

set_option linter.unusedSimpArgs false in
set_option maxHeartbeats 800000 in
theorem put_any (X A T S : Nat) (sl tg : Nat → Nat) (n : Nat) (w : World) (hI : Idx w X A T S sl tg n) (m h D : Nat) (hS1 : 1 ≤ S) (hS2 : S ≤ 262144)
    (hmask : ∀ x : Nat, x < 18446744073709551616 → bits .and .u64 (x : Int) ((S : Int) - 1) = ((x % S : Nat) : Int)) (hh : h < 18446744073709551616) (hD : D < S) (hz : sl ((h + D) % S) = 0) :
    Calls Try.prog 29 #[.pointer (some ⟨X, 0, none⟩), .int .u32 (m : Int), .int .u64 (h : Int)] w fun e w' => e = .returned (.tuple #[]) ∧
      ∃ p, Free S sl h p ∧ Idx w' X A T S (upd sl p m) (upd tg p (tagN h)) n ∧ Fr (fun k => k = A ∨ k = T) w w' := by
  obtain ⟨n1, n2, n3⟩ := hI.ne
  obtain ⟨hX, hA, hT⟩ := hI
  have c0 : w.cell? ⟨X, 0, none⟩ = some (.slice (some ⟨A, 0, none⟩) S S) := by simp [World.cell?, hX]
  have c1 : w.cell? ⟨X, 0 + 1, none⟩ = some (.slice (some ⟨T, 0, none⟩) S S) := by simp [World.cell?, hX]
  have m0 : bits .and .u64 (h : Int) ((S : Int) - 1) = ((h % S : Nat) : Int) := hmask h hh
  obtain ⟨i0, hi0⟩ : ∃ i0, i0 = h % S := ⟨_, rfl⟩
  rw [← hi0] at m0
  have I0 := hide hi0
  have HM := hide hmask
  have HX := hide hX
  clear hi0 hmask hX
  go_enter Try.func29, Try.ntmps29
  go_wp2
  go_loopg [7] D (fun g s7 wr => ∃ e j : Nat, e + g = D ∧ s7 = .int .u64 (j : Int) ∧ j < S ∧ Hid (j = (h + e) % S) ∧ Hid (∀ e', e' < e → sl ((h + e') % S) ≠ 0) ∧ wr = w)
  case atStart => exact ⟨0, i0, Nat.zero_add _, rfl, by rw [I0.out]; exact Nat.mod_lt _ (by omega), by show _ = _; rw [I0.out]; rfl, fun e' he => absurd he (by omega), rfl⟩
  case round =>
    obtain ⟨e, j, he, rfl, hj, hj', hroad, rfl⟩ := hrel
    have ca := hA.cell hj
    have HA := hide hA
    have HT := hide hT
    clear hA hT
    by_cases hsj : sl j = 0
    · rw [hsj] at ca
      have ct := HT.out.cell hj
      have fa := HA.out.frozen j
      have ft := HT.out.frozen j
      go_wp2
      go_region_held3 (fun w' => w'.cell? ⟨X, 0, none⟩ = some (.slice (some ⟨A, 0, none⟩) S S) ∧ w'.cell? ⟨X, 0 + 1, none⟩ = some (.slice (some ⟨T, 0, none⟩) S S)) (simp [go_sem, c0, c1, n1, n2]) (first | (go_at_call 26; refine (tag_any h hh _).mono ?_; rintro e w' ⟨rfl, rfl⟩))
      go_wp2
      go_end0
      have hp := Idx.put ⟨HX.out, HA.out, HT.out⟩ j m (tagN h)
      exact ⟨rfl, j, ⟨e, by omega, hj'.out, hsj, hroad.out⟩, hp.1, hp.2⟩
    · have hne : ((sl j : Int) != 0) = true := by rw [bne_iff_ne]; omega
      have hlt : e < D := by
        by_cases hed : e = D
        · exact absurd (by rw [hj'.out, hed]; exact hz) hsj
        · omega
      have m1 : bits .and .u64 ((j : Int) + 1) ((S : Int) - 1) = (((j + 1) % S : Nat) : Int) := by
        have := HM.out (j + 1) (by omega)
        simpa using this
      obtain ⟨j2, hj2⟩ : ∃ j2, j2 = (j + 1) % S := ⟨_, rfl⟩
      rw [← hj2] at m1
      have J2 := hide hj2
      have hj2lt : j2 < S := by rw [hj2]; exact Nat.mod_lt _ (by omega)
      have hroad' : Hid (∀ e', e' < e + 1 → sl ((h + e') % S) ≠ 0) := by
        intro e' h'
        by_cases hq : e' = e
        · rw [hq, ← hj'.out]; exact hsj
        · exact hroad.out e' (by omega)
      have hstep : Hid (j2 = (h + (e + 1)) % S) := by
        show _ = _; rw [J2.out, hj'.out, Ix.step_mod]
      clear hj2 hsj hroad
      go_wp2
      go_roundg (D - (e + 1))
      case measure => omega
      case rel => exact ⟨e + 1, j2, by omega, rfl, hj2lt, hstep, hroad', rfl⟩
end Go.Proofs.Qxb6612798a
