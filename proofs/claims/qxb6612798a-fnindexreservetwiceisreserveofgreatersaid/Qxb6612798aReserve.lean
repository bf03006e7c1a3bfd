/-
  Seat b6612798a: 'Reserve', 'ZZindexReserve', 'zzIsLeastSlots', 'zzAllFound', 'ZZindexSlots', 'ZZindexCount'.
-/
import Derived.Test.Qxb6612798aFind
import Derived.Laws.CopyOwn
namespace Go.Proofs.Qxb6612798a
open Go.ChangeShapes Go.WideShapes Go.ChangeAt Go.RowKit
open Ix (used upd tagN Tab Free)

/-- p is the least size, no smaller than base, that m numbers fill at most three quarters. -/
def Least (p base m : Nat) : Prop := Sz p ∧ base ≤ p ∧ 4 * m ≤ 3 * p ∧ (p = base ∨ 3 * (p / 2) < 4 * m)

theorem pow_gap {p q : Nat} (hp : Sz p) (hq : Sz q) (h : p < q) : 2 * p ≤ q := by
  obtain ⟨_, _, a, rfl⟩ := hp
  obtain ⟨_, _, b, rfl⟩ := hq
  have hab : a < b := (Nat.pow_lt_pow_iff_right (by omega)).1 h
  have := Nat.pow_le_pow_right (show 0 < 2 by omega) (show a + 1 ≤ b by omega)
  rw [Nat.pow_succ] at this
  omega

theorem Least.unique {p q base m : Nat} (hp : Least p base m) (hq : Least q base m) : p = q := by
  obtain ⟨s1, b1, l1, m1⟩ := hp
  obtain ⟨s2, b2, l2, m2⟩ := hq
  rcases Nat.lt_trichotomy p q with h | h | h
  · have := pow_gap s1 s2 h; omega
  · exact h
  · have := pow_gap s2 s1 h; omega

theorem Least.twice {p q base a b : Nat} (hp : Least p base a) (hq : Least q p b) : Least q base (max a b) := by
  obtain ⟨s1, b1, l1, m1⟩ := hp
  obtain ⟨s2, b2, l2, m2⟩ := hq
  exact ⟨s2, by omega, by omega, by omega⟩

theorem bits_and_i64_nat (a b : Nat) (ha : a < 9223372036854775808) (hb : b < 9223372036854775808) : bits .and .i64 (a : Int) (b : Int) = ((a &&& b : Nat) : Int) := by
  have hx : a &&& b < 2 ^ 63 := Nat.and_lt_two_pow _ (by omega)
  have h1 : (BitVec.ofInt 64 (a : Int)).toNat = a := by
    rw [BitVec.ofInt_natCast, BitVec.toNat_ofNat]; exact Nat.mod_eq_of_lt (by omega)
  have h2 : (BitVec.ofInt 64 (b : Int)).toNat = b := by
    rw [BitVec.ofInt_natCast, BitVec.toNat_ofNat]; exact Nat.mod_eq_of_lt (by omega)
  show IntKind.i64.wrap ((BitVec.ofInt 64 (a : Int) &&& BitVec.ofInt 64 (b : Int)).toNat : Int) = _
  rw [BitVec.toNat_and, h1, h2, IntKind.wrap_i64]
  omega

theorem pow_and {p : Nat} (h : Sz p) : bits .and .i64 (p : Int) ((p : Int) - 1) = 0 := by
  obtain ⟨h1, h2, e, rfl⟩ := h
  have e1 : ((2 ^ e : Nat) : Int) - 1 = ((2 ^ e - 1 : Nat) : Int) := by omega
  rw [e1, bits_and_i64_nat _ _ (by omega) (by omega), Nat.and_two_pow_sub_one_eq_mod, Nat.mod_self]
  rfl

/-- zzIsLeastSlots. -/
theorem least_any (p base m : Nat) (h : Least p base m) (hb : base ≤ 262144) (hm : m ≤ 65536) (w : World) :
    Calls Try.prog 14 #[.int .i64 (p : Int), .int .i64 (base : Int), .int .i64 (m : Int)] w fun e w' => e = .returned (.bool true) ∧ w' = w := by
  obtain ⟨s, b, l, o⟩ := h
  have ha := pow_and s
  have h8 := s.1
  have h18 := s.2.1
  have d1 : decide ((p : Int) ≤ 0) = false := by simp; omega
  have d3 : decide ((p : Int) < (base : Int)) = false := by simp; omega
  have d4 : decide (3 * (p : Int) < 4 * (m : Int)) = false := by simp; omega
  clear s
  by_cases hpb : p = base
  · subst hpb
    clear o
    go_enter Try.func14, Try.ntmps14
    go_wp2
    go_ret
    exact ⟨by simp, rfl⟩
  · have d5 : ((p : Int) == (base : Int)) = false := by rw [beq_eq_false_iff_ne]; omega
    have o' : 3 * (p / 2) < 4 * m := by omega
    have d6 : decide (3 * ((p : Int) / 2) < 4 * (m : Int)) = true := by simp; omega
    clear o
    go_enter Try.func14, Try.ntmps14
    go_wp2
    go_ret
    exact ⟨by simp, rfl⟩

/-- ZZindexSlots, ZZindexCount. -/
theorem slots_st (hs : Nat → Nat) (w : World) (X A T S k : Nat) (hst : St hs w X A T S k) :
    Calls Try.prog 11 #[.pointer (some ⟨X, 0, none⟩)] w fun e w' => (∃ a c, e = .returned (.slice a S c)) ∧ w' = w := by
  obtain ⟨a0, c, c0, _⟩ := st_cells hst
  clear hst
  go_enter Try.func11, Try.ntmps11
  go_wp2
  go_ret
  exact ⟨⟨a0, c, rfl⟩, rfl⟩
theorem count_st (hs : Nat → Nat) (w : World) (X A T S k : Nat) (hst : St hs w X A T S k) :
    Calls Try.prog 13 #[.pointer (some ⟨X, 0, none⟩)] w fun e w' => e = .returned (.int .i64 (k : Int)) ∧ w' = w := by
  obtain ⟨a0, c, _, c2, _⟩ := st_cells hst
  clear hst
  go_enter Try.func13, Try.ntmps13
  go_wp2
  go_ret
  exact ⟨rfl, rfl⟩

/-- zzAllFound. -/
theorem allFound_st (hs : Nat → Nat) (w : World) (X A T S k : Nat) (hst : St hs w X A T S k) (B : Nat) (a : Option Addr) (c : Nat)
    (hh : Hs w B a k hs) (hk : k ≤ 4096) (hlt : ∀ i, hs i < 18446744073709551616) :
    Calls Try.prog 18 #[.pointer (some ⟨X, 0, none⟩), .slice a k c, .int .i64 (k : Int)] w fun e w' => e = .returned (.bool true) ∧ Fr (fun _ => False) w w' := by
  have HH := hide hh
  have HL := hide hlt
  have HS := hide hst
  clear hh hlt hst
  go_enter Try.func18, Try.ntmps18
  go_wp2
  go_loopg [7] k (fun g s7 wr => ∃ i : Nat, i + g = k ∧ s7 = .int .i64 (i : Int) ∧ Fr (fun _ => False) w wr)
  case atStart => exact ⟨0, Nat.zero_add _, rfl, Fr.refl _ w⟩
  case round =>
    obtain ⟨i, hi, rfl, hF⟩ := hrel
    by_cases hlt : i < k
    · have hh : Hs wr B a k hs := HH.out.fr hF (fun _ _ => id)
      have e1 : ((i + 1 : Nat) : Int) = (i : Int) + 1 := by omega
      have HC := hide (zzfind_st hs wr X A T S k (HS.out.fr hF id id id) (i + 1) (hs i) (i + 1) (HL.out i) (.inl ⟨by omega, by omega, rfl, rfl⟩))
      rw [e1] at HC
      rcases hh with h | ⟨b, off, rfl, _, hc⟩
      · omega
      have ck := hc i (by omega)
      clear hc e1
      go_wp2_with fail
      refine Calls.mono HC.out ?_
      rintro e w2 ⟨rfl, g1⟩
      go_wp2
      go_roundg (k - (i + 1))
      case measure => omega
      case rel => exact ⟨i + 1, by omega, by go_num, hF.trans g1⟩
    · go_wp2
      go_ret
      exact ⟨rfl, hF⟩

set_option maxHeartbeats 400000 in
/-- Reserve. -/
theorem reserve_st (hs : Nat → Nat) (w : World) (X A T S k : Nat) (hst : St hs w X A T S k) (B bx : Nat) (a : Option Addr) (N c : Nat)
    (hb : Box w bx a N c) (hh : Hs w B a N hs) (hbx : bx ≠ X) (hB : B ≤ X) (hN : N ≤ 4096) (hkN : k ≤ N) (hlt : ∀ i, hs i < 18446744073709551616) (m : Nat) (hm : m ≤ 65536) :
    Calls Try.prog 22 #[.pointer (some ⟨X, 0, none⟩), .int .i64 (m : Int), .func (Fn.func 23) #[] #[.pointer (some ⟨bx, 0, none⟩)]] w fun e w' => e = .returned (.tuple #[]) ∧
      ∃ S' A' T', Least S' (max S 8) m ∧ St hs w' X A' T' S' k ∧ Fr (fun k => k = X) w w' ∧ (A' = A ∨ w.heap.size ≤ A') ∧ (T' = T ∨ w.heap.size ≤ T') := by
  obtain ⟨a0, c', c0, _, h18, _⟩ := st_cells hst
  have hload : 4 * k ≤ 3 * S := by
    rcases hst with ⟨rfl, rfl, _⟩ | ⟨_, _, _, _, _, _, hl⟩
    · omega
    · exact hl
  have hsz : S = 0 ∨ Sz S := by
    rcases hst with ⟨rfl, _⟩ | ⟨_, _, _, _, _, hS, _⟩
    · exact .inl rfl
    · exact .inr hS
  have HR := hide (fun S' hS' hl => resize_st 23 (.inr rfl) hs w X A T S k hst B bx a N c hb hh hbx hB (by omega) hkN hlt S' hS' hl)
  have HS := hide hst
  clear hst hb hh hlt
  rcases hsz with hS0 | hSz
  · have hmax : max S 8 = 8 := by omega
    rw [hmax]
    have hS0' : (S : Int) < 8 := by omega
    clear hmax
    have hbase : Sz 8 := sz_8
    go_enter Try.func22, Try.ntmps22
    go_wp2
    go_loopg [6] (262144 - 8) (fun g s6 wr => ∃ p : Nat, s6 = .int .i64 (p : Int) ∧ Sz p ∧ 8 ≤ p ∧ (p = 8 ∨ 3 * (p / 2) < 4 * m) ∧ p + g = 262144 ∧ wr = w)
    case atStart => exact ⟨8, rfl, hbase, Nat.le_refl _, .inl rfl, by have := hbase.2.1; omega, rfl⟩
    case round =>
      obtain ⟨p, rfl, hp, hp1, hp2, hg, rfl⟩ := hrel
      have hp8 := hp.1
      have hp18 := hp.2.1
      by_cases hc : 3 * p < 4 * m
      · have e2 : ((2 * p : Nat) : Int) = (p : Int) * 2 := by omega
        go_wp2
        go_roundg (262144 - 2 * p)
        case measure => omega
        case rel => exact ⟨2 * p, by rw [e2], sz_double hp (by omega), by omega, .inr (by omega), by omega, rfl⟩
      · have hL : Least p 8 m := ⟨hp, hp1, by omega, hp2⟩
        by_cases hgt : S < p
        · have HQ := hide (HR.out p hp (by omega))
          go_wp2_with fail
          refine Calls.mono HQ.out ?_
          rintro e w2 ⟨rfl, A', T', s1, g1, q1, q2⟩
          go_wp2
          go_end0
          exact ⟨rfl, p, A', T', hL, s1, g1, .inr q1, .inr q2⟩
        · omega
  · have h8 := hSz.1
    have hmax : max S 8 = S := by omega
    rw [hmax]
    clear hmax
    have hbase : Sz S := hSz
    go_enter Try.func22, Try.ntmps22
    go_wp2
    go_loopg [6] (262144 - S) (fun g s6 wr => ∃ p : Nat, s6 = .int .i64 (p : Int) ∧ Sz p ∧ S ≤ p ∧ (p = S ∨ 3 * (p / 2) < 4 * m) ∧ p + g = 262144 ∧ wr = w)
    case atStart => exact ⟨S, rfl, hbase, Nat.le_refl _, .inl rfl, by have := hbase.2.1; omega, rfl⟩
    case round =>
      obtain ⟨p, rfl, hp, hp1, hp2, hg, rfl⟩ := hrel
      have hp8 := hp.1
      have hp18 := hp.2.1
      by_cases hc : 3 * p < 4 * m
      · have e2 : ((2 * p : Nat) : Int) = (p : Int) * 2 := by omega
        go_wp2
        go_roundg (262144 - 2 * p)
        case measure => omega
        case rel => exact ⟨2 * p, by rw [e2], sz_double hp (by omega), by omega, .inr (by omega), by omega, rfl⟩
      · have hL : Least p S m := ⟨hp, hp1, by omega, hp2⟩
        by_cases hgt : S < p
        · have HQ := hide (HR.out p hp (by omega))
          go_wp2_with fail
          refine Calls.mono HQ.out ?_
          rintro e w2 ⟨rfl, A', T', s1, g1, q1, q2⟩
          go_wp2
          go_end0
          exact ⟨rfl, p, A', T', hL, s1, g1, .inr q1, .inr q2⟩
        · have hpS : p = S := by omega
          subst hpS
          go_wp2
          go_end0
          exact ⟨rfl, p, hL, A, T, HS.out, Fr.refl _ _, .inl rfl, .inl rfl⟩

/-- lint.ZZindexReserve. -/
theorem zzreserve_st (hs : Nat → Nat) (w : World) (X A T S k : Nat) (hst : St hs w X A T S k) (B : Nat) (a : Option Addr) (N c : Nat)
    (hh : Hs w B a N hs) (hB : B ≤ X) (hN : N ≤ 4096) (hkN : k ≤ N) (hlt : ∀ i, hs i < 18446744073709551616) (m : Nat) (hm : m ≤ 65536) :
    Calls Try.prog 16 #[.pointer (some ⟨X, 0, none⟩), .int .i64 (m : Int), .slice a N c] w fun e w' => e = .returned (.tuple #[]) ∧
      ∃ S' A' T', Least S' (max S 8) m ∧ St hs w' X A' T' S' k ∧ Fr (fun k => k = X) w w' ∧ (A' = A ∨ w.heap.size ≤ A') ∧ (T' = T ∨ w.heap.size ≤ T') := by
  have xlt := hst.lt.1
  have HA := hide (reserve_st hs (w.alloc (.cells #[.slice a N c] 22)) X A T S k (hst.fr ((Fr.refl (fun _ => False) w).alloc _) id id id) B w.heap.size a N c (by simp [Box]) (hh.fr ((Fr.refl (fun _ => False) w).alloc _) (fun _ _ => id)) (by omega) hB hN hkN hlt m hm)
  have g0 : Fr (fun k => k = X) w (w.alloc (.cells #[.slice a N c] 22)) := (Fr.refl _ w).alloc _
  clear hst hh hlt
  go_enter Try.func16, Try.ntmps16
  go_wp2_with fail
  refine Calls.mono HA.out ?_
  rintro e w2 ⟨rfl, S', A', T', hL, s1, g1, q1, q2⟩
  go_wp2
  go_end0
  rw [Deep.nblk_alloc] at q1 q2
  exact ⟨rfl, S', A', T', hL, s1, g0.after g1 (fun x h => .inl h), by omega, by omega⟩

/-! ### 'zzc := make([]uint64, len(hs)); copy(zzc, hs)' -/
theorem bytes64 : (Try.prog.info? 24).map (fun i => (i.zero, i.size, i.bytes)) = some (some (.int .u64 0), 1, 8) := by kernel_rfl

theorem wpList_copy_new {w : World} {ops : Array Oper} {rest : List Oper} {o : Oper} {a : Act} {Q : Exit → Act → World → Prop} (hgd : o.guard = none) (d s : Operand)
    (ho : o.op = .call { callee := .builtin .copy, args := #[d, s], argTypes := #[22, 22] }) (W : World) (sp : Option Addr) (n sCap B : Nat) (hs : Nat → Nat)
    (hw : w = W.alloc (.cells (madeCells #[.int .u64 0] n) 24)) (hd : a.eval d = .slice (some ⟨W.heap.size, 0, none⟩) n n) (hs' : a.eval s = .slice sp n sCap) (hsrc : Hs W B sp n hs) (hB : B ≤ W.heap.size)
    (h : ∀ w', Below W.heap.size W w' → Hs w' w'.heap.size (some ⟨W.heap.size, 0, none⟩) n hs → wpList Try.prog ops Q rest (a.put o.dst (goInt n)) w') : wpList Try.prog ops Q (o :: rest) a w := by
  subst hw
  have hb : Below W.heap.size W (W.alloc (.cells (madeCells #[.int .u64 0] n) 24)) := (Below.refl _ _).alloc (Nat.le_refl _) _
  obtain ⟨cs, hcs⟩ : ∃ cs : List Value, cs = (List.range n).map (fun i => Value.int .u64 (hs i : Nat)) := ⟨_, rfl⟩
  have hlen : cs.length = n := by rw [hcs]; simp
  refine wpList_copy_splice hgd d s 22 22 ho 24 Try.underlying22 (by kernel_rfl) _ _ n n n sCap hd hs' W.heap.size 0 (List.replicate n (Value.int .u64 0)) 24 ?_ cs (by simp [hlen]) ?_ (by simp [hlen]) ?_ W.heap.size W hb (Nat.le_refl _) ?_
  · rw [← toList_madeCells_one]; exact Deep.blk_alloc_new _ _
  · intro h0
    rcases hsrc with h | ⟨b, off, e, hbB, hc⟩
    · omega
    · refine ⟨rfl, ⟨b, off, none⟩, e, fun j v hj => ?_⟩
      rw [hcs] at hj
      simp only [List.getElem?_map, Option.map_eq_some_iff] at hj
      obtain ⟨x, hx, rfl⟩ := hj
      have hlt := (List.getElem?_eq_some_iff.1 hx).1
      simp at hlt
      have hxj : x = j := by simpa [List.getElem?_range, hlt] using hx.symm
      subst hxj
      rw [Go.WideShapes.add_plain]
      exact (hb.cell (p := ⟨b, off + x, none⟩) (by show b < _; omega)).trans (hc x hlt)
  · intro v hv
    rw [hcs] at hv
    obtain ⟨x, _, rfl⟩ := List.mem_map.1 hv
    rfl
  · intro w' hg hb'
    have hg' := hg.out
    have e : splice (List.replicate n (Value.int .u64 0)) 0 cs = cs := by simp [splice, hlen]
    rw [e] at hg'
    have hlt := (Array.getElem?_eq_some_iff.1 hg').1
    have hH : Hs w' w'.heap.size (some ⟨W.heap.size, 0, none⟩) n hs := by
      by_cases h0 : n = 0
      · exact .inl h0
      · refine .inr ⟨W.heap.size, 0, rfl, hlt, fun i hi => ?_⟩
        simp [World.cell?, hg', hcs, hi]
    have := h w' hb' hH
    simpa [hlen] using this
end Go.Proofs.Qxb6612798a
