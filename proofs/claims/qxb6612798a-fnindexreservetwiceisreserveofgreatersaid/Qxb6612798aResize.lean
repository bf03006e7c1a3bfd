/-
  Seat b6612798a: the closures that give a number's hash; 'resize'.
-/
import Derived.Test.Qxb6612798aPut
namespace Go.Proofs.Qxb6612798a
open Go.ChangeShapes Go.WideShapes Go.ChangeAt Go.RowKit
open Ix (used upd tagN Tab Free)

/-- A further step that touches new blocks alone (or the same old ones). -/
theorem Fr.after {s t : Nat → Prop} {w w1 w2 : World} (h : Fr s w w1) (k : Fr t w1 w2) (ht : ∀ x, t x → s x ∨ w.heap.size ≤ x) : Fr s w w2 :=
  ⟨k.os.trans h.os, k.tape.trans h.tape, k.output.trans h.output, Nat.le_trans h.size k.size, fun i hi hb =>
    (k.block i (Nat.lt_of_lt_of_le hi h.size) (fun e => by rcases ht i e with h' | h'; exact hb h'; omega)).trans (h.block i hi hb)⟩

/-- The N hashes that the slice at 'a' holds, in a block below B. -/
def Hs (w : World) (B : Nat) (a : Option Addr) (N : Nat) (hs : Nat → Nat) : Prop :=
  N = 0 ∨ ∃ b off, a = some ⟨b, off, none⟩ ∧ b < B ∧ ∀ i, i < N → w.cell? ⟨b, off + i, none⟩ = some (.int .u64 (hs i : Nat))

theorem Hs.fr {s : Nat → Prop} {w w' : World} {B : Nat} {a : Option Addr} {N : Nat} {hs : Nat → Nat} (h : Hs w B a N hs) (hf : Fr s w w') (hs' : ∀ k, k < B → ¬ s k) : Hs w' B a N hs := by
  rcases h with h | ⟨b, off, e, hb, hc⟩
  · exact .inl h
  · exact .inr ⟨b, off, e, hb, fun i hi => hf.cell (hc i hi) (hs' b hb)⟩

/-- The closure's captured variable holds the slice. -/
def Box (w : World) (bx : Nat) (a : Option Addr) (N c : Nat) : Prop := w.cell? ⟨bx, 0, none⟩ = some (.slice a N c)

theorem hash_any (fid : Nat) (hf : fid = 25 ∨ fid = 23) (w : World) (B bx : Nat) (a : Option Addr) (N c : Nat) (hs : Nat → Nat) (hb : Box w bx a N c) (hh : Hs w B a N hs) (m : Nat) (h1 : 1 ≤ m) (hm : m ≤ N) (hN : N ≤ 1048576) :
    Calls Try.prog fid #[.int .u32 (m : Int), .pointer (some ⟨bx, 0, none⟩)] w fun e w' => e = .returned (.int .u64 (hs (m - 1) : Nat)) ∧ w' = w := by
  rcases hh with h | ⟨b, off, rfl, _, hc⟩
  · omega
  obtain ⟨k, rfl⟩ : ∃ k, m = k + 1 := ⟨m - 1, by omega⟩
  have ck := hc k (by omega)
  simp only [Nat.add_sub_cancel]
  unfold Box at hb
  clear hc
  rcases hf with rfl | rfl
  · go_enter Try.func25, Try.ntmps25
    go_wp2
    go_ret
    exact ⟨rfl, rfl⟩
  · go_enter Try.func23, Try.ntmps23
    go_wp2
    go_ret
    exact ⟨rfl, rfl⟩

theorem bytes32 : (Try.prog.info? 23).map (fun i => (i.zero, i.size, i.bytes)) = some (some (.int .u32 0), 1, 4) := by kernel_rfl
theorem bytes8 : (Try.prog.info? 5).map (fun i => (i.zero, i.size, i.bytes)) = some (some (.int .u8 0), 1, 1) := by kernel_rfl

/-- The two new rows, and the index's two fields set to them: whichever was made first. -/
theorem remade1 {w : World} {X : Nat} {v0 v1 : Value} {n : Nat} (hX : w.heap[X]? = some (.cells #[v0, v1, .int .i64 (n : Int)] 30 (0, 0))) (S' : Nat) :
    ∃ A' T', Idx ((((w.setCell ⟨X, 0, none⟩ (.slice (some ⟨w.heap.size, 0, none⟩) S' S')).setCell ⟨X, 1, none⟩ (.slice (some ⟨w.heap.size + 1, 0, none⟩) S' S')).alloc (.cells (madeCells #[.int .u32 0] S') 23)).alloc (.cells (madeCells #[.int .u8 0] S') 5)).drew X A' T' S' (fun _ => 0) (fun _ => 0) n ∧
      Fr (fun k => k = X) w ((((w.setCell ⟨X, 0, none⟩ (.slice (some ⟨w.heap.size, 0, none⟩) S' S')).setCell ⟨X, 1, none⟩ (.slice (some ⟨w.heap.size + 1, 0, none⟩) S' S')).alloc (.cells (madeCells #[.int .u32 0] S') 23)).alloc (.cells (madeCells #[.int .u8 0] S') 5)).drew ∧ w.heap.size ≤ A' ∧ w.heap.size ≤ T' := by
  have xlt : X < w.heap.size := (Array.getElem?_eq_some_iff.1 hX).1
  obtain ⟨u, hu⟩ : ∃ u, u = (w.setCell ⟨X, 0, none⟩ (.slice (some ⟨w.heap.size, 0, none⟩) S' S')).setCell ⟨X, 1, none⟩ (.slice (some ⟨w.heap.size + 1, 0, none⟩) S' S') := ⟨_, rfl⟩
  have hz : u.heap.size = w.heap.size := by rw [hu]; simp [World.setCell]
  have hx : u.heap[X]? = some (.cells #[.slice (some ⟨w.heap.size, 0, none⟩) S' S', .slice (some ⟨w.heap.size + 1, 0, none⟩) S' S', .int .i64 (n : Int)] 30 (0, 0)) := by
    rw [hu]; simp [World.setCell, Array.getElem?_modify, hX]
  have hfr : Fr (fun k => k = X) w u := by rw [hu]; exact ((Fr.refl (fun k => k = X) w).setCell (a := ⟨X, 0, none⟩) rfl _).setCell (a := ⟨X, 1, none⟩) rfl _
  rw [← hu]
  have r1 := (World.rowIs_made u (.int .u32 0) S' 23).alloc (.cells (madeCells #[.int .u8 0] S') 5)
  have r2 := World.rowIs_made (u.alloc (.cells (madeCells #[.int .u32 0] S') 23)) (.int .u8 0) S' 5
  rw [Deep.nblk_alloc] at r2
  rw [hz] at r1 r2
  refine ⟨w.heap.size, w.heap.size + 1, ⟨?_, r1.drew, r2.drew⟩, ((hfr.alloc _).alloc _).drewN 1, Nat.le_refl _, by omega⟩
  show ((u.alloc _).alloc _).heap[X]? = _
  rw [Deep.blk_alloc_lt _ _ _ (by rw [Deep.nblk_alloc]; omega), Deep.blk_alloc_lt _ _ _ (by omega)]; exact hx

theorem remade2 {w : World} {X : Nat} {v0 v1 : Value} {n : Nat} (hX : w.heap[X]? = some (.cells #[v0, v1, .int .i64 (n : Int)] 30 (0, 0))) (S' : Nat) :
    ∃ A' T', Idx ((((w.setCell ⟨X, 0, none⟩ (.slice (some ⟨w.heap.size + 1, 0, none⟩) S' S')).setCell ⟨X, 1, none⟩ (.slice (some ⟨w.heap.size, 0, none⟩) S' S')).alloc (.cells (madeCells #[.int .u8 0] S') 5)).alloc (.cells (madeCells #[.int .u32 0] S') 23)).drew X A' T' S' (fun _ => 0) (fun _ => 0) n ∧
      Fr (fun k => k = X) w ((((w.setCell ⟨X, 0, none⟩ (.slice (some ⟨w.heap.size + 1, 0, none⟩) S' S')).setCell ⟨X, 1, none⟩ (.slice (some ⟨w.heap.size, 0, none⟩) S' S')).alloc (.cells (madeCells #[.int .u8 0] S') 5)).alloc (.cells (madeCells #[.int .u32 0] S') 23)).drew ∧ w.heap.size ≤ A' ∧ w.heap.size ≤ T' := by
  have xlt : X < w.heap.size := (Array.getElem?_eq_some_iff.1 hX).1
  obtain ⟨u, hu⟩ : ∃ u, u = (w.setCell ⟨X, 0, none⟩ (.slice (some ⟨w.heap.size + 1, 0, none⟩) S' S')).setCell ⟨X, 1, none⟩ (.slice (some ⟨w.heap.size, 0, none⟩) S' S') := ⟨_, rfl⟩
  have hz : u.heap.size = w.heap.size := by rw [hu]; simp [World.setCell]
  have hx : u.heap[X]? = some (.cells #[.slice (some ⟨w.heap.size + 1, 0, none⟩) S' S', .slice (some ⟨w.heap.size, 0, none⟩) S' S', .int .i64 (n : Int)] 30 (0, 0)) := by
    rw [hu]; simp [World.setCell, Array.getElem?_modify, hX]
  have hfr : Fr (fun k => k = X) w u := by rw [hu]; exact ((Fr.refl (fun k => k = X) w).setCell (a := ⟨X, 0, none⟩) rfl _).setCell (a := ⟨X, 1, none⟩) rfl _
  rw [← hu]
  have r1 := (World.rowIs_made u (.int .u8 0) S' 5).alloc (.cells (madeCells #[.int .u32 0] S') 23)
  have r2 := World.rowIs_made (u.alloc (.cells (madeCells #[.int .u8 0] S') 5)) (.int .u32 0) S' 23
  rw [Deep.nblk_alloc] at r2
  rw [hz] at r1 r2
  refine ⟨w.heap.size + 1, w.heap.size, ⟨?_, r2.drew, r1.drew⟩, ((hfr.alloc _).alloc _).drewN 1, by omega, Nat.le_refl _⟩
  show ((u.alloc _).alloc _).heap[X]? = _
  rw [Deep.blk_alloc_lt _ _ _ (by rw [Deep.nblk_alloc]; omega), Deep.blk_alloc_lt _ _ _ (by omega)]; exact hx

/-- The old table: none, or a row of S numbers apart from the index's own block. -/
def Old (w : World) (X : Nat) (a0 : Option Addr) (S : Nat) (sl : Nat → Nat) : Prop := S = 0 ∨ ∃ A, a0 = some ⟨A, 0, none⟩ ∧ A ≠ X ∧ w.rowIs A 23 S (fun i => .int .u32 (sl i))

set_option linter.unusedSimpArgs false in
set_option maxHeartbeats 800000 in
theorem resize_any (fid : Nat) (hf : fid = 25 ∨ fid = 23) (X S : Nat) (a0 : Option Addr) (t0 : Option Addr) (sl : Nat → Nat) (n : Nat) (w : World) (hX : w.heap[X]? = some (.cells #[.slice a0 S S, .slice t0 S S, .int .i64 (n : Int)] 30 (0, 0))) (hO : Old w X a0 S sl)
    (hs : Nat → Nat) (B bx : Nat) (a : Option Addr) (N c : Nat)
    (hb : Box w bx a N c) (hh : Hs w B a N hs) (hbx : bx ≠ X) (hB : B ≤ X) (hN : N ≤ 1048576) (hlt : ∀ i, hs i < 18446744073709551616) (hin : ∀ i, i < S → sl i ≤ N) (hS : S ≤ 262144)
    (S' : Nat) (hS1 : 1 ≤ S') (hS2 : S' ≤ 262144) (hmask : ∀ x : Nat, x < 18446744073709551616 → bits .and .u64 (x : Int) ((S' : Int) - 1) = ((x % S' : Nat) : Int)) (hcap : used sl S < S') :
    Calls Try.prog 27 #[.pointer (some ⟨X, 0, none⟩), .int .i64 (S' : Int), .func (Fn.func fid) #[] #[.pointer (some ⟨bx, 0, none⟩)]] w fun e w' => e = .returned (.tuple #[]) ∧
      ∃ A' T' sl' tg', Idx w' X A' T' S' sl' tg' n ∧ Tab hs S' sl' tg' (fun x => ∃ j, j < S ∧ sl j = x ∧ x ≠ 0) ∧ used sl' S' = used sl S ∧ Fr (fun k => k = X) w w' ∧ w.heap.size ≤ A' ∧ w.heap.size ≤ T' := by
  have c0 : w.cell? ⟨X, 0, none⟩ = some (.slice a0 S S) := by simp [World.cell?, hX]
  have c1 : w.cell? ⟨X, 0 + 1, none⟩ = some (.slice t0 S S) := by simp [World.cell?, hX]
  have f0 : w.frozen? ⟨X, 0, none⟩ = false := by simp [World.frozen?, hX]
  have f1 : w.frozen? ⟨X, 0 + 1, none⟩ = false := by simp [World.frozen?, hX]
  have xlt : X < w.heap.size := World.block_lt_of_cell? _ _ c0
  have hmk1 := run_make_row' (P := Try.prog) 27 23 (.int .u32 0) 4 Try.underlying27 bytes32 rfl .i64 .i64 S' (by omega) (by omega)
  have hmk2 := run_make_row' (P := Try.prog) 28 5 (.int .u8 0) 1 Try.underlying28 bytes8 rfl .i64 .i64 S' (by omega) (by omega)
  have HX := hide hX
  have HO := hide hO
  have HM := hide hmask
  have HH := hide hh
  have HB := hide hb
  have HL := hide hlt
  have HIN := hide hin
  have HCAP := hide hcap
  clear hX hO hmask hh hb hlt hin hcap
  go_enter Try.func27, Try.ntmps27
  go_wp2
  go_region
  · go_wp2
    obtain ⟨A', T', hI1, hF1, q1, q2⟩ := remade1 HX.out S'
    go_loopg [25] S (fun g s25 wr => ∃ (i : Nat) (sl' tg' : Nat → Nat), i + g = S ∧ s25 = .int .i64 (i : Int) ∧ Idx wr X A' T' S' sl' tg' n ∧ Tab hs S' sl' tg' (fun x => ∃ j, j < i ∧ sl j = x ∧ x ≠ 0) ∧ Hid (used sl' S' = used sl i) ∧ Fr (fun k => k = X) w wr)
    case atStart => exact ⟨0, _, _, Nat.zero_add _, rfl, hI1, (Tab.empty hs S' _).congr (fun x => ⟨False.elim, fun ⟨j, hj, _⟩ => absurd hj (by omega)⟩), Ix.used_zero S', hF1⟩
    case round =>
      clear hI1 hF1 hmk1 hmk2 c0 c1 f0 f1
      obtain ⟨i, sl', tg', hi, rfl, hI, hTab, hu, hF⟩ := hrel
      by_cases hlt : i < S
      · have ho : ∃ A, a0 = some ⟨A, 0, none⟩ ∧ wr.cell? ⟨A, i, none⟩ = some (.int .u32 (sl i : Nat)) := by
          rcases HO.out with h | ⟨A, e, hAX, hr⟩
          · omega
          · exact ⟨A, e, (hF.row hr hAX).cell hlt⟩
        obtain ⟨A, rfl, ca⟩ := ho
        by_cases hz : sl i = 0
        · rw [hz] at ca
          have hTab' : Tab hs S' sl' tg' (fun x => ∃ j, j < i + 1 ∧ sl j = x ∧ x ≠ 0) := hTab.congr (fun x => by
            constructor
            · rintro ⟨j, h1, h2, h3⟩; exact ⟨j, by omega, h2, h3⟩
            · rintro ⟨j, h1, h2, h3⟩
              by_cases e : j = i
              · subst e; rw [hz] at h2; exact absurd h2.symm h3
              · exact ⟨j, by omega, h2, h3⟩)
          have hu' : Hid (used sl' S' = used sl (i + 1)) := by show _ = _; rw [hu.out]; simp [used, hz]
          clear hz hTab hu
          go_wp2
          go_roundg (S - (i + 1))
          case measure => omega
          case rel => exact ⟨i + 1, sl', tg', by omega, by go_num, hI, hTab', hu', hF⟩
        · have hb' : Box wr bx a N c := hF.cell HB.out hbx
          have hh' : Hs wr B a N hs := HH.out.fr hF (fun k hk e => by omega)
          have hm := HIN.out i hlt
          have hlt' := HL.out (sl i - 1)
          obtain ⟨D, hD, hzD⟩ := Ix.reach S' sl' (hs (sl i - 1)) (by rw [hu.out]; exact Nat.lt_of_le_of_lt (Ix.used_mono' sl (by omega)) HCAP.out)
          have hne : ((sl i : Int) != 0) = true := by rw [bne_iff_ne]; omega
          obtain ⟨m, hmeq⟩ : ∃ m, m = sl i := ⟨_, rfl⟩
          rw [← hmeq] at ca hm hlt' hne hzD
          have MEQ := hide hmeq
          have hm0 : m ≠ 0 := by rw [hmeq]; exact hz
          clear hmeq hz
          have HZD := hide hzD
          clear hzD
          have hcl := hide (hash_any fid hf wr B bx a N c hs hb' hh' m (by omega) hm hN)
          rcases hf with rfl | rfl
          all_goals
            go_wp2_with fail
            refine (Calls.mono hcl.out ?_)
            rintro e w1 ⟨rfl, rfl⟩
            go_wp2_with fail
            refine (put_any X A' T' S' sl' tg' n _ hI m (hs (m - 1)) D hS1 hS2 HM.out hlt' hD HZD.out).mono ?_
            rintro e w2 ⟨rfl, p, hfree, hI2, hF2⟩
            have hTab2 := hTab.put hm0 hfree
            have hTab' : Tab hs S' (upd sl' p m) (upd tg' p (tagN (hs (m - 1)))) (fun x => ∃ j, j < i + 1 ∧ sl j = x ∧ x ≠ 0) := hTab2.congr (fun x => by
              constructor
              · rintro (⟨j, h1, h2, h3⟩ | h1)
                · exact ⟨j, by omega, h2, h3⟩
                · exact ⟨i, by omega, by rw [h1, MEQ.out], by rw [h1]; exact hm0⟩
              · rintro ⟨j, h1, h2, h3⟩
                by_cases e : j = i
                · subst e; exact .inr (by rw [← h2, MEQ.out])
                · exact .inl ⟨j, by omega, h2, h3⟩)
            have hu' : Hid (used (upd sl' p m) S' = used sl (i + 1)) := by
              obtain ⟨d, hd, hp, hzp, _⟩ := hfree
              show _ = _
              rw [Ix.used_upd sl' hzp hm0 S' (by rw [hp]; exact Nat.mod_lt _ (by omega)), hu.out]
              simp [used, ← MEQ.out, hm0]
            have hF' : Fr (fun k => k = X) w w2 := hF.after hF2 (fun x hx => .inr (by rcases hx with rfl | rfl; exact q1; exact q2))
            clear hTab hTab2 hfree hF hF2 hu hI hcl hh' hb' HZD hlt' hm
            go_wp2
            go_roundg (S - (i + 1))
            case measure => omega
            case rel => exact ⟨i + 1, _, _, by omega, by go_num, hI2, hTab', hu', hF'⟩
      · have hi' : i = S := by omega
        subst hi'
        go_wp2
        go_end0
        exact ⟨rfl, A', T', sl', tg', hI, hTab, hu.out, hF, q1, q2⟩
  · go_wp2
    obtain ⟨A', T', hI1, hF1, q1, q2⟩ := remade2 HX.out S'
    go_loopg [25] S (fun g s25 wr => ∃ (i : Nat) (sl' tg' : Nat → Nat), i + g = S ∧ s25 = .int .i64 (i : Int) ∧ Idx wr X A' T' S' sl' tg' n ∧ Tab hs S' sl' tg' (fun x => ∃ j, j < i ∧ sl j = x ∧ x ≠ 0) ∧ Hid (used sl' S' = used sl i) ∧ Fr (fun k => k = X) w wr)
    case atStart => exact ⟨0, _, _, Nat.zero_add _, rfl, hI1, (Tab.empty hs S' _).congr (fun x => ⟨False.elim, fun ⟨j, hj, _⟩ => absurd hj (by omega)⟩), Ix.used_zero S', hF1⟩
    case round =>
      clear hI1 hF1 hmk1 hmk2 c0 c1 f0 f1
      obtain ⟨i, sl', tg', hi, rfl, hI, hTab, hu, hF⟩ := hrel
      by_cases hlt : i < S
      · have ho : ∃ A, a0 = some ⟨A, 0, none⟩ ∧ wr.cell? ⟨A, i, none⟩ = some (.int .u32 (sl i : Nat)) := by
          rcases HO.out with h | ⟨A, e, hAX, hr⟩
          · omega
          · exact ⟨A, e, (hF.row hr hAX).cell hlt⟩
        obtain ⟨A, rfl, ca⟩ := ho
        by_cases hz : sl i = 0
        · rw [hz] at ca
          have hTab' : Tab hs S' sl' tg' (fun x => ∃ j, j < i + 1 ∧ sl j = x ∧ x ≠ 0) := hTab.congr (fun x => by
            constructor
            · rintro ⟨j, h1, h2, h3⟩; exact ⟨j, by omega, h2, h3⟩
            · rintro ⟨j, h1, h2, h3⟩
              by_cases e : j = i
              · subst e; rw [hz] at h2; exact absurd h2.symm h3
              · exact ⟨j, by omega, h2, h3⟩)
          have hu' : Hid (used sl' S' = used sl (i + 1)) := by show _ = _; rw [hu.out]; simp [used, hz]
          clear hz hTab hu
          go_wp2
          go_roundg (S - (i + 1))
          case measure => omega
          case rel => exact ⟨i + 1, sl', tg', by omega, by go_num, hI, hTab', hu', hF⟩
        · have hb' : Box wr bx a N c := hF.cell HB.out hbx
          have hh' : Hs wr B a N hs := HH.out.fr hF (fun k hk e => by omega)
          have hm := HIN.out i hlt
          have hlt' := HL.out (sl i - 1)
          obtain ⟨D, hD, hzD⟩ := Ix.reach S' sl' (hs (sl i - 1)) (by rw [hu.out]; exact Nat.lt_of_le_of_lt (Ix.used_mono' sl (by omega)) HCAP.out)
          have hne : ((sl i : Int) != 0) = true := by rw [bne_iff_ne]; omega
          obtain ⟨m, hmeq⟩ : ∃ m, m = sl i := ⟨_, rfl⟩
          rw [← hmeq] at ca hm hlt' hne hzD
          have MEQ := hide hmeq
          have hm0 : m ≠ 0 := by rw [hmeq]; exact hz
          clear hmeq hz
          have HZD := hide hzD
          clear hzD
          have hcl := hide (hash_any fid hf wr B bx a N c hs hb' hh' m (by omega) hm hN)
          rcases hf with rfl | rfl
          all_goals
            go_wp2_with fail
            refine (Calls.mono hcl.out ?_)
            rintro e w1 ⟨rfl, rfl⟩
            go_wp2_with fail
            refine (put_any X A' T' S' sl' tg' n _ hI m (hs (m - 1)) D hS1 hS2 HM.out hlt' hD HZD.out).mono ?_
            rintro e w2 ⟨rfl, p, hfree, hI2, hF2⟩
            have hTab2 := hTab.put hm0 hfree
            have hTab' : Tab hs S' (upd sl' p m) (upd tg' p (tagN (hs (m - 1)))) (fun x => ∃ j, j < i + 1 ∧ sl j = x ∧ x ≠ 0) := hTab2.congr (fun x => by
              constructor
              · rintro (⟨j, h1, h2, h3⟩ | h1)
                · exact ⟨j, by omega, h2, h3⟩
                · exact ⟨i, by omega, by rw [h1, MEQ.out], by rw [h1]; exact hm0⟩
              · rintro ⟨j, h1, h2, h3⟩
                by_cases e : j = i
                · subst e; exact .inr (by rw [← h2, MEQ.out])
                · exact .inl ⟨j, by omega, h2, h3⟩)
            have hu' : Hid (used (upd sl' p m) S' = used sl (i + 1)) := by
              obtain ⟨d, hd, hp, hzp, _⟩ := hfree
              show _ = _
              rw [Ix.used_upd sl' hzp hm0 S' (by rw [hp]; exact Nat.mod_lt _ (by omega)), hu.out]
              simp [used, ← MEQ.out, hm0]
            have hF' : Fr (fun k => k = X) w w2 := hF.after hF2 (fun x hx => .inr (by rcases hx with rfl | rfl; exact q1; exact q2))
            clear hTab hTab2 hfree hF hF2 hu hI hcl hh' hb' HZD hlt' hm
            go_wp2
            go_roundg (S - (i + 1))
            case measure => omega
            case rel => exact ⟨i + 1, _, _, by omega, by go_num, hI2, hTab', hu', hF'⟩
      · have hi' : i = S := by omega
        subst hi'
        go_wp2
        go_end0
        exact ⟨rfl, A', T', sl', tg', hI, hTab, hu.out, hF, q1, q2⟩
end Go.Proofs.Qxb6612798a
