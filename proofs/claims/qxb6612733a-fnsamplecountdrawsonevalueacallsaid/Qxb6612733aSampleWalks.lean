/-
  Seat b6612733a: the walk of FnSampleCountDrawsOneValueACall.
-/
import Derived.Test.Qxb6612733aRows
import Derived.WalkKit
import Derived.ProofKit
import Derived.OpenShut
import Derived.ShutString
import Derived.WalkSpells
import Derived.WalkLawsBesides
import Derived.Deep.QuietTactic
import Derived.BigQuiet
import Derived.Laws.Externs
namespace Go.Proofs.Qxb6612733a
open Go.ChangeShapes Go.WideShapes Go.ChangeAt Go.RowKit

/-- math/bits.Add64 at a carry of 0 or 1. -/
theorem add64 (x y c : Int) (hx : 0 ≤ x) (hy : 0 ≤ y) (hc0 : 0 ≤ c) (hc : c ≤ 1) (w : World) : (callFunc 30 #[.int .u64 x, .int .u64 y, .int .u64 c]).run Try.prog w =
    .ok (.value (.tuple #[.int .u64 ((x + y + c) % 18446744073709551616), .int .u64 ((x + y + c) / 18446744073709551616)])) w := by
  rw [run_callFunc_extern Try.func30 (by kernel_rfl) (by kernel_rfl) (by kernel_rfl) (e := add64Entry) (by kernel_rfl), run_add64 x y c hx hy hc0 hc]
  rfl

theorem add64_0 (x y : Int) (hx : 0 ≤ x) (hy : 0 ≤ y) (w : World) : (callFunc 30 #[.int .u64 x, .int .u64 y, .int .u64 0]).run Try.prog w =
    .ok (.value (.tuple #[.int .u64 ((x + y) % 18446744073709551616), .int .u64 ((x + y) / 18446744073709551616)])) w := by
  simpa using add64 x y 0 hx hy (Int.le_refl 0) (by decide) w

/-- What Mul64's text computes, word by word (no meaning is needed: only that it is a function of its arguments). -/
def mulMid (x y : Int) : Int :=
  IntKind.u64.wrap (IntKind.u64.wrap (x / 4294967296 * bits BinOp.and IntKind.u64 y 4294967295) + IntKind.u64.wrap (bits BinOp.and IntKind.u64 x 4294967295 * bits BinOp.and IntKind.u64 y 4294967295) / 4294967296)
def mulHi (x y : Int) : Int :=
  IntKind.u64.wrap (IntKind.u64.wrap (IntKind.u64.wrap (x / 4294967296 * (y / 4294967296)) + mulMid x y / 4294967296) +
    IntKind.u64.wrap (bits BinOp.and IntKind.u64 (mulMid x y) 4294967295 + IntKind.u64.wrap (bits BinOp.and IntKind.u64 x 4294967295 * (y / 4294967296))) / 4294967296)
def mulLo (x y : Int) : Int := IntKind.u64.wrap (x * y)

theorem mul_any (x y : Int) (_hx : 0 ≤ x) (_hx' : x < 18446744073709551616) (_hy : 0 ≤ y) (_hy' : y < 18446744073709551616) (w : World) :
    Calls Try.prog 29 #[.int .u64 x, .int .u64 y] w fun e w' => e = .returned (.tuple #[.int .u64 (mulHi x y), .int .u64 (mulLo x y)]) ∧ w' = w := by
  go_enter Try.func29, Try.ntmps29
  go_wp2
  go_ret2
  exact ⟨rfl, rfl⟩

theorem u64_range (e : Int) : 0 ≤ IntKind.u64.wrap e ∧ IntKind.u64.wrap e < 18446744073709551616 := by
  have := bounds_u64 (wf_wrap .u64 e)
  omega

/-- The generator's struct at block b. -/
def Pcg (w : World) (b : Nat) (hi lo : Int) : Prop := w.heap[b]? = some (.cells #[.int .u64 hi, .int .u64 lo] 51 (0, 0))
/-- Everything but block b is as it was (new blocks may have come). -/
structure But (b : Nat) (w w' : World) : Prop where
  os : w'.os = w.os
  tape : w'.tape = w.tape
  output : w'.output = w.output
  size : w.heap.size ≤ w'.heap.size
  block : ∀ k, k < w.heap.size → k ≠ b → w'.heap[k]? = w.heap[k]?

theorem But.refl (b : Nat) (w : World) : But b w w := ⟨rfl, rfl, rfl, Nat.le_refl _, fun _ _ _ => rfl⟩
theorem But.trans {b : Nat} {w1 w2 w3 : World} (h : But b w1 w2) (k : But b w2 w3) : But b w1 w3 :=
  ⟨k.os.trans h.os, k.tape.trans h.tape, k.output.trans h.output, Nat.le_trans h.size k.size, fun i hi hb => (k.block i (Nat.lt_of_lt_of_le hi h.size) hb).trans (h.block i hi hb)⟩
theorem But.alloc {b : Nat} {w1 w2 : World} (h : But b w1 w2) (o : Obj) : But b w1 (w2.alloc o) :=
  h.trans ⟨rfl, rfl, rfl, by simp, fun k hk _ => Below.heap_alloc _ _ _ hk⟩
theorem Pcg.alloc {w : World} {b : Nat} {hi lo : Int} (h : Pcg w b hi lo) (o : Obj) : Pcg (w.alloc o) b hi lo := by
  unfold Pcg at *
  rw [Below.heap_alloc _ _ _ (by exact (Array.getElem?_eq_some_iff.1 h).1)]; exact h
theorem But.cell {b : Nat} {w w' : World} (h : But b w w') {a : Addr} {v : Value} (hc : w.cell? a = some v) (hb : a.block ≠ b) : w'.cell? a = some v :=
  (World.cell?_of_block (w := w) (h.block a.block (World.block_lt_of_cell? _ _ hc) hb)).trans hc
theorem But.pcg {b c : Nat} {w w' : World} (h : But b w w') {hi lo : Int} (hp : Pcg w c hi lo) (hb : c ≠ b) : Pcg w' c hi lo := by
  unfold Pcg at *
  rw [h.block c (by exact (Array.getElem?_eq_some_iff.1 hp).1) hb]; exact hp
theorem But.below {b B : Nat} {w w' : World} (h : But b w w') (hb : B ≤ b) (hs : B ≤ w.heap.size) : Below B w w' :=
  ⟨h.os, h.tape, h.output, h.size, fun k hk => h.block k (by omega) (by omega)⟩

theorem pcg_store {w : World} {b : Nat} {hi lo : Int} (hp : Pcg w b hi lo) (n : Nat) (hi' lo' : Int) :
    Pcg (((w.drewN n).setCell ⟨b, 1, none⟩ (.int .u64 lo')).setCell ⟨b, 0, none⟩ (.int .u64 hi')) b hi' lo' ∧ But b w (((w.drewN n).setCell ⟨b, 1, none⟩ (.int .u64 lo')).setCell ⟨b, 0, none⟩ (.int .u64 hi')) := by
  have hh : (w.drewN n).heap = w.heap := rfl
  refine ⟨?_, rfl, rfl, rfl, ?_, fun k hk hb => ?_⟩
  · unfold Pcg at *
    simp [World.setCell, Array.getElem?_modify, hp]
  · simp [World.setCell]
  · rw [Below.heap_setCell _ _ _ _ hb, Below.heap_setCell _ _ _ _ hb, hh]

/-- The generator's next state. -/
def nextLo (lo : Int) : Int := (mulLo lo 4865540595714422341 + 1442695040888963407) % 18446744073709551616
def nextHi (hi lo : Int) : Int :=
  (IntKind.u64.wrap (mulHi lo 4865540595714422341 + IntKind.u64.wrap (IntKind.u64.wrap (hi * 4865540595714422341) + IntKind.u64.wrap (lo * 2549297995355413924))) + 6364136223846793005 + (mulLo lo 4865540595714422341 + 1442695040888963407) / 18446744073709551616) % 18446744073709551616
theorem nextLo_range (lo : Int) : 0 ≤ nextLo lo ∧ nextLo lo < 18446744073709551616 := by unfold nextLo; omega
theorem nextHi_range (hi lo : Int) : 0 ≤ nextHi hi lo ∧ nextHi hi lo < 18446744073709551616 := by unfold nextHi; omega

/-- (*PCG).next. -/
theorem next_any (b : Nat) (hi lo : Int) (_h0 : 0 ≤ hi) (_h0' : hi < 18446744073709551616) (l0 : 0 ≤ lo) (l0' : lo < 18446744073709551616) (w : World) (hp : Pcg w b hi lo) :
    Calls Try.prog 26 #[.pointer (some ⟨b, 0, none⟩)] w fun e w' => e = .returned (.tuple #[.int .u64 (nextHi hi lo), .int .u64 (nextLo lo)]) ∧ Pcg w' b (nextHi hi lo) (nextLo lo) ∧ But b w w' := by
  have HP : Hid _ := hp
  have c0 : w.cell? ⟨b, 0, none⟩ = some (.int .u64 hi) := by unfold Pcg at hp; simp [World.cell?, hp]
  have c1 : w.cell? ⟨b, 0 + 1, none⟩ = some (.int .u64 lo) := by unfold Pcg at hp; simp [World.cell?, hp]
  have f0 : w.frozen? ⟨b, 0, none⟩ = false := by unfold Pcg at hp; simp [World.frozen?, hp]
  have f1 : w.frozen? ⟨b, 0 + 1, none⟩ = false := by unfold Pcg at hp; simp [World.frozen?, hp]
  clear hp
  have rL : 0 ≤ mulLo lo 4865540595714422341 := (u64_range _).1
  have rL' : mulLo lo 4865540595714422341 < 18446744073709551616 := (u64_range _).2
  obtain ⟨h', hh⟩ : ∃ x, nextHi hi lo = x := ⟨_, rfl⟩
  obtain ⟨l', hl⟩ : ∃ x, nextLo lo = x := ⟨_, rfl⟩
  rw [hh, hl]
  unfold nextHi at hh
  unfold nextLo at hl
  generalize hH : mulHi lo 4865540595714422341 = H at *
  generalize hL : mulLo lo 4865540595714422341 = L at *
  have EH : Hid _ := hH
  have EL : Hid _ := hL
  have Eh : Hid _ := hh
  have El : Hid _ := hl
  clear hH hL hh hl
  have rS := fun x => (u64_range x).1
  have k0 : 0 ≤ (L + 1442695040888963407) / 18446744073709551616 := by omega
  have k1 : (L + 1442695040888963407) / 18446744073709551616 ≤ 1 := by omega
  go_enter Try.func26, Try.ntmps26
  go_wp2_with (first | (go_at_call 29; refine (mul_any _ _ l0 l0' (by omega) (by omega) _).mono ?_; rintro e w' ⟨rfl, rfl⟩; rw [EH.out, EL.out]))
  go_quiet (fail)
  go_wp2_with (first | simp only [add64_0 L 1442695040888963407 rL (by omega)] | simp only [add64 _ 6364136223846793005 _ (rS _) (by omega) k0 k1])
  rw [Eh.out, El.out]
  go_ret2
  exact ⟨rfl, pcg_store HP.out _ _ _⟩

/-- What the generator hands out in a state (it is asked of the next state). -/
def outv (H L : Int) : Int :=
  IntKind.u64.wrap (bits BinOp.xor IntKind.u64 (IntKind.u64.wrap (bits BinOp.xor IntKind.u64 H (H / 4294967296) * 15750249268501108917)) (IntKind.u64.wrap (bits BinOp.xor IntKind.u64 H (H / 4294967296) * 15750249268501108917) / 281474976710656) * bits BinOp.or IntKind.u64 L 1)
/-- A generator at block b, its state in range. -/
def Gen (w : World) (b : Nat) (hi lo : Int) : Prop := Pcg w b hi lo ∧ (0 ≤ hi ∧ hi < 18446744073709551616) ∧ 0 ≤ lo ∧ lo < 18446744073709551616
/-- The draw. -/
def drawn (hi lo : Int) : Int := outv (nextHi hi lo) (nextLo lo)
theorem drawn_range (hi lo : Int) : 0 ≤ drawn hi lo ∧ drawn hi lo < 18446744073709551616 := u64_range _
theorem Gen.alloc {w : World} {b : Nat} {hi lo : Int} (h : Gen w b hi lo) (o : Obj) : Gen (w.alloc o) b hi lo := ⟨h.1.alloc o, h.2⟩
theorem But.gen {b c : Nat} {w w' : World} (h : But b w w') {hi lo : Int} (hp : Gen w c hi lo) (hb : c ≠ b) : Gen w' c hi lo := ⟨h.pcg hp.1 hb, hp.2⟩

/-- (*PCG).Uint64. -/
theorem uint64_any (b : Nat) (hi lo : Int) (w : World) (hg : Gen w b hi lo) :
    Calls Try.prog 21 #[.pointer (some ⟨b, 0, none⟩)] w fun e w' => e = .returned (.int .u64 (drawn hi lo)) ∧ Gen w' b (nextHi hi lo) (nextLo lo) ∧ But b w w' := by
  obtain ⟨hp, ⟨h0, h0'⟩, l0, l0'⟩ := hg
  have rH := nextHi_range hi lo
  have rL := nextLo_range lo
  unfold drawn Gen
  generalize hH : nextHi hi lo = H at *
  generalize hL : nextLo lo = L at *
  have EH : Hid _ := hH
  have EL : Hid _ := hL
  obtain ⟨rH1, rH2⟩ := rH
  obtain ⟨rL1, rL2⟩ := rL
  clear hH hL
  go_enter Try.func21, Try.ntmps21
  go_wp2_with (first | (go_at_call 26; refine (next_any b hi lo h0 h0' l0 l0' _ hp).mono ?_; rintro e w' ⟨rfl, hp', hb'⟩; rw [EH.out, EL.out] at *))
  go_ret
  exact ⟨rfl, ⟨hp', ⟨rH1, rH2⟩, rL1, rL2⟩, hb'⟩

/-- cmd.ZZpcgUint64. -/
theorem zzuint64_any (b : Nat) (hi lo : Int) (w : World) (hg : Gen w b hi lo) :
    Calls Try.prog 9 #[.pointer (some ⟨b, 0, none⟩)] w fun e w' => e = .returned (.int .u64 (drawn hi lo)) ∧ Gen w' b (nextHi hi lo) (nextLo lo) ∧ But b w w' := by
  go_enter Try.func9, Try.ntmps9
  go_wp2_with (first | (go_at_call 21; refine (uint64_any b hi lo _ hg).mono ?_; rintro e w' ⟨rfl, hp', hb'⟩))
  go_ret
  exact ⟨rfl, hp', hb'⟩

/-- (sampler).upTo(1). -/
theorem upTo_any (b : Nat) (hi lo : Int) (w : World) (hg : Gen w b hi lo) :
    Calls Try.prog 27 #[.agg #[.pointer (some ⟨b, 0, none⟩)], .int .u64 1] w fun e w' => e = .returned (.int .u64 (drawn hi lo % 2)) ∧ Gen w' b (nextHi hi lo) (nextLo lo) ∧ But b w w' := by
  have rd := (drawn_range hi lo).1
  generalize hd : drawn hi lo = d at *
  have ED : Hid _ := hd
  clear hd
  go_enter Try.func27, Try.ntmps27
  go_wp2_with (first | (go_at_call 21; refine (uint64_any b hi lo _ (hg.alloc _)).mono ?_; rintro e w' ⟨rfl, hp', hb'⟩; rw [ED.out]))
  go_ret
  exact ⟨rfl, hp', ((But.refl b w).alloc _).trans hb'⟩

/-- cmd.sampleCount. -/
theorem sampleCount_any (b : Nat) (hi lo : Int) (w : World) (hg : Gen w b hi lo) :
    Calls Try.prog 22 #[.agg #[.pointer (some ⟨b, 0, none⟩)]] w fun e w' => ∃ g : Nat, e = .returned (.tuple #[.bool (drawn hi lo % 2 == 1), .slice (some ⟨g, 0, none⟩) 1 1]) ∧ w.heap.size ≤ g ∧ w'.cell? ⟨g, 0, none⟩ = some (.int .u64 (drawn hi lo % 2)) ∧ Gen w' b (nextHi hi lo) (nextLo lo) ∧ But b w w' := by
  generalize hd : drawn hi lo % 2 = d at *
  have ED : Hid _ := hd
  clear hd
  go_enter Try.func22, Try.ntmps22
  go_wp2_with (first | (go_at_call 27; refine (upTo_any b hi lo _ (hg.alloc _)).mono ?_; rintro e w' ⟨rfl, hp', hb'⟩; rw [ED.out]))
  go_ret2
  have hs : w.heap.size ≤ w'.heap.size := by have := hb'.size; simp at this; omega
  exact ⟨_, rfl, hs, by simp, hp'.alloc _, (((But.refl b w).alloc _).trans hb').alloc _⟩

/-- cmd.ZZsampleCount. -/
theorem zzsample_any (b : Nat) (hi lo : Int) (w : World) (hg : Gen w b hi lo) :
    Calls Try.prog 10 #[.pointer (some ⟨b, 0, none⟩)] w fun e w' => ∃ g : Nat, e = .returned (.tuple #[.bool (drawn hi lo % 2 == 1), .slice (some ⟨g, 0, none⟩) 1 1]) ∧ w.heap.size ≤ g ∧ w'.cell? ⟨g, 0, none⟩ = some (.int .u64 (drawn hi lo % 2)) ∧ Gen w' b (nextHi hi lo) (nextLo lo) ∧ But b w w' := by
  go_enter Try.func10, Try.ntmps10
  go_wp2_with (first | (go_at_call 22; refine (sampleCount_any b hi lo _ hg).mono ?_; rintro e w' ⟨g, rfl, h1, h2, h3, h4⟩))
  go_ret2
  exact ⟨g, rfl, h1, h2, h3, h4⟩

theorem gen_new (w : World) (hi lo : Int) (h : 0 ≤ hi ∧ hi < 18446744073709551616) (l : 0 ≤ lo ∧ lo < 18446744073709551616) : Gen (w.alloc (.cells #[.int .u64 hi, .int .u64 lo] 51)) w.heap.size hi lo := by
  refine ⟨?_, h, l⟩
  show (w.heap.push _)[w.heap.size]? = _
  simp

set_option maxHeartbeats 800000 in
theorem sample_walk (a0 : Int) (a1 : Int) (w0 : (Lit.int .u64 a0).wf = true) (w1 : (Lit.int .u64 a1).wf = true) (w : World) :
    Calls Try.prog 3 #[.int .u64 a0, .int .u64 a1] w fun e w' => e = .returned (.bool true) ∧ Below w.heap.size w w' := by
  have r0 : 0 ≤ a0 ∧ a0 < 18446744073709551616 := by have := bounds_u64 w0; omega
  have r1 : 0 ≤ a1 ∧ a1 < 18446744073709551616 := by have := bounds_u64 w1; omega
  have g0 := gen_new w a0 a1 r0 r1
  have g1 := gen_new (w.alloc (.cells #[.int .u64 a0, .int .u64 a1] 51)) a0 a1 r0 r1
  have hz : (w.alloc (.cells #[.int .u64 a0, .int .u64 a1] 51)).heap.size = w.heap.size + 1 := by simp
  replace g0 := g0.alloc (.cells #[.int .u64 a0, .int .u64 a1] 51)
  rw [hz] at g1
  have e1 : bits BinOp.and IntKind.u64 (drawn a0 a1) 1 = drawn a0 a1 % 2 := by
    have := drawn_range a0 a1; exact and_one_u64 _ this.1 (by omega)
  have e2 : bits BinOp.and IntKind.u64 (drawn (nextHi a0 a1) (nextLo a1)) 1 = drawn (nextHi a0 a1) (nextLo a1) % 2 := by
    have := drawn_range (nextHi a0 a1) (nextLo a1); exact and_one_u64 _ this.1 (by omega)
  clear r0 r1 w0 w1 hz
  go_enter Try.func3, Try.ntmps3
  go_wp2_with (first | (go_at_call 8; go_in) | (go_at_call 20; go_in))
  refine (zzuint64_any _ _ _ _ g1).mono ?_
  rintro e w1 ⟨rfl, g2, b2⟩
  go_wp2_with fail
  refine (zzuint64_any _ _ _ _ g2).mono ?_
  rintro e w2 ⟨rfl, g3, b3⟩
  go_wp2_with fail
  refine (zzuint64_any _ _ _ _ g3).mono ?_
  rintro e w3 ⟨rfl, g4, b4⟩
  have bt := (b2.trans b3).trans b4
  have k0 := bt.gen g0 (by omega)
  clear g0 g1 g2 g3 g4 b2 b3 b4
  go_wp2_with fail
  refine (zzsample_any _ _ _ _ k0).mono ?_
  rintro e w4 ⟨p1, rfl, q1, c1, k1, s1⟩
  go_wp2_with fail
  refine (zzsample_any _ _ _ _ k1).mono ?_
  rintro e w5 ⟨p2, rfl, q2, c2, k2, s2⟩
  have hs := bt.size
  have hs1 := s1.size
  simp at hs
  have c1' := s2.cell c1 (by show p1 ≠ _; omega)
  go_wp2_with fail
  refine (zzuint64_any _ _ _ _ k2).mono ?_
  rintro e w6 ⟨rfl, k3, s3⟩
  have c1'' := s3.cell c1' (by show p1 ≠ _; omega)
  have c2'' := s3.cell c2 (by show p2 ≠ _; omega)
  clear c1 c1' c2 k0 k1 k2 k3
  go_wp2
  go_ret
  have bA : Below w.heap.size w ((w.alloc (.cells #[.int .u64 a0, .int .u64 a1] 51)).alloc (.cells #[.int .u64 a0, .int .u64 a1] 51)) :=
    ((Below.refl _ _).alloc (Nat.le_refl _) _).alloc (by simp) _
  exact ⟨rfl, bA.trans ((bt.below (by omega) (by simp; omega)).trans (((s1.trans s2).trans s3).below (Nat.le_refl _) (by omega)))⟩
end Go.Proofs.Qxb6612733a
