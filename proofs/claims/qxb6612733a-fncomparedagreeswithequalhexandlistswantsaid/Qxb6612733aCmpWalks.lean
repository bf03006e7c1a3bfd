/-
  Seat b6612733a: contracts of the comparing functions (bytes.Equal, compared, equalHex, b1EqualBytes and the thin shims over them).
-/
import Derived.Test.Qxb6612733aRows
import Derived.WalkKit
import Derived.ProofKit
import Derived.OpenShut
import Derived.ShutString
import Derived.WalkSpells
import Derived.WalkLawsBesides
import Derived.Laws.CopyOwn
import Derived.Deep.QuietTactic
import Derived.BigQuiet
import Derived.Deep.OwnRows
namespace Go.Proofs.Qxb6612733a
open Go.ChangeShapes Go.WideShapes Go.ChangeAt Go.RowKit

/-- The slice at 'a' with 'n' elements holds the bytes 'xs' in the world 'w': nil, or at the head of a block. -/
def Row (w : World) (a : Option Addr) (n : Nat) (xs : List Int) : Prop :=
  xs.length = n ∧ (∀ x ∈ xs, 0 ≤ x ∧ x ≤ 255) ∧ ((a = none ∧ n = 0) ∨ ∃ g, a = some ⟨g, 0, none⟩ ∧ ∀ i, i < n → w.cell? ⟨g, 0 + i, none⟩ = some (.int .u8 (xs.getD i 0)))

theorem Row.later {w w' : World} {a : Option Addr} {n : Nat} {xs : List Int} (h : Row w a n xs) (hb : Below w.heap.size w w') : Row w' a n xs := by
  obtain ⟨h1, h2, h3⟩ := h
  refine ⟨h1, h2, ?_⟩
  rcases h3 with h | ⟨g, rfl, hc⟩
  · exact .inl h
  · exact .inr ⟨g, rfl, fun i hi => cell_later hb (hc i hi)⟩

/-- Same bytes. -/
def eqB (xs ys : List Int) : Bool := decide (xs = ys)

theorem bytes_inj' : ∀ (xs ys : List Int), (∀ x ∈ xs, 0 ≤ x ∧ x ≤ 255) → (∀ x ∈ ys, 0 ≤ x ∧ x ≤ 255) → xs.map (fun n => UInt8.ofNat n.toNat) = ys.map (fun n => UInt8.ofNat n.toNat) → xs = ys
  | [], [], _, _, _ => rfl
  | [], _ :: _, _, _, h => by simp at h
  | _ :: _, [], _, _, h => by simp at h
  | x :: xs, y :: ys, hx, hy, h => by
    simp only [List.map_cons, List.cons.injEq] at h
    have r := bytes_inj' xs ys (fun z hz => hx z (List.mem_cons_of_mem _ hz)) (fun z hz => hy z (List.mem_cons_of_mem _ hz)) h.2
    have a1 := hx x (List.mem_cons_self ..)
    have a2 := hy y (List.mem_cons_self ..)
    have e : (UInt8.ofNat x.toNat).toNat = (UInt8.ofNat y.toNat).toNat := by rw [h.1]
    rw [UInt8.toNat_ofNat', UInt8.toNat_ofNat'] at e
    have : x = y := by omega
    rw [this, r]

theorem str_eq (xs ys : List Int) (hx : ∀ x ∈ xs, 0 ≤ x ∧ x ≤ 255) (hy : ∀ x ∈ ys, 0 ≤ x ∧ x ≤ 255) : ((strOfNums xs).toList == (strOfNums ys).toList) = eqB xs ys := by
  rw [ByteArray.toList_eq, ByteArray.toList_eq, strOfNums_data, strOfNums_data]
  by_cases h : xs = ys
  · subst h; simp [eqB]
  · have : ¬ xs.map (fun n => UInt8.ofNat n.toNat) = ys.map (fun n => UInt8.ofNat n.toNat) := fun e => h (bytes_inj' xs ys hx hy e)
    simp [eqB, h, this]

/-- 'string(b)' of such a slice. -/
theorem Row.conv {w : World} {a : Option Addr} {n : Nat} {xs : List Int} (h : Row w a n xs) (c : Nat) :
    (convert 30 9 (.slice a n c)).run Try.prog w = .ok (.string (strOfNums xs)) w := by
  obtain ⟨h1, h2, h3⟩ := h
  rcases h3 with ⟨rfl, rfl⟩ | ⟨g, rfl, hc⟩
  · obtain rfl : xs = [] := List.eq_nil_of_length_eq_zero h1
    exact run_convert_bytes_nil w 30 5 Try.underlying30 Try.underlying5 0 c 9 Try.underlying9
  · exact run_convert_bytes_arg w 30 5 Try.underlying30 Try.underlying5 g 0 n c xs h1 hc 9 Try.underlying9

/-- bytes.Equal. -/
theorem equal_any (a b : Option Addr) (n c m d : Nat) (xs ys : List Int) (w : World) (h1 : Row w a n xs) (h2 : Row w b m ys) :
    Calls Try.prog 28 #[.slice a n c, .slice b m d] w fun e w' => e = .returned (.bool (eqB xs ys)) ∧ w' = w := by
  have e1 := h1.conv c
  have e2 := h2.conv d
  have e3 := str_eq xs ys h1.2.1 h2.2.1
  clear h1 h2
  go_enter Try.func28, Try.ntmps28
  go_wp2
  go_ret
  exact ⟨rfl, rfl⟩

/-- cmd.equalHex, cmd.ZZequalHex. -/
theorem equalHex_any (a b : Option Addr) (n c m d : Nat) (xs ys : List Int) (w : World) (h1 : Row w a n xs) (h2 : Row w b m ys) :
    Calls Try.prog 16 #[.slice a n c, .slice b m d] w fun e w' => e = .returned (.bool (eqB xs ys)) ∧ w' = w := by
  have h : ∀ w', w' = w → Calls Try.prog 25 #[.slice a n c, .slice b m d] w' fun e w' => e = .returned (.bool (eqB xs ys)) ∧ w' = w := by
    rintro w' rfl
    go_enter Try.func25, Try.ntmps25
    go_wp2_with (go_at_call 28; refine (equal_any a b n c m d xs ys _ h1 h2).mono ?_; rintro e w' ⟨rfl, rfl⟩)
    go_ret
    exact ⟨rfl, rfl⟩
  go_enter Try.func16, Try.ntmps16
  go_wp2_with (go_at_call 25; refine (h _ rfl).mono ?_; rintro e w' ⟨rfl, rfl⟩)
  go_ret
  exact ⟨rfl, rfl⟩

/-- cmd.compared: the error is nil or an interface value that holds a pointer. -/
theorem compared_any (a b : Option Addr) (n c m d : Nat) (xs ys : List Int) (er : Value) (he : er = .nilIface ∨ ∃ t p, er = .iface t (.pointer p)) (w : World) (h1 : Row w a n xs) (h2 : Row w b m ys) :
    Calls Try.prog 23 #[.slice a n c, er, .slice b m d] w fun e w' => e = .returned (.agg #[er, .bool (eqB xs ys), .bool b.isSome, .slice none 0 0]) ∧ Below w.heap.size w w' := by
  have hr1 := fun o => h1.later ((Below.refl w.heap.size w).alloc (Nat.le_refl _) o)
  have hr2 := fun o => h2.later ((Below.refl w.heap.size w).alloc (Nat.le_refl _) o)
  have H1 : Hid _ := hr1
  have H2 : Hid _ := hr2
  clear hr1 hr2 h1 h2
  rcases he with rfl | ⟨t, p, rfl⟩
  all_goals
    go_enter Try.func23, Try.ntmps23
    go_wp2_with (go_at_call 28; refine (equal_any a b n c m d xs ys _ (H1.out _) (H2.out _)).mono ?_; rintro e w' ⟨rfl, rfl⟩)
    exact bodyPost_ret (v := .agg #[_, .bool (eqB xs ys), .bool b.isSome, .slice none 0 0]) (by simp [results, Try.results23, go_sem]) rfl ⟨rfl, (Below.refl _ _).alloc (Nat.le_refl _) _⟩

/-- cmd.ZZcomparedOK. -/
theorem ok_any (a b : Option Addr) (n c m d : Nat) (xs ys : List Int) (w : World) (h1 : Row w a n xs) (h2 : Row w b m ys) :
    Calls Try.prog 12 #[.slice a n c, .slice b m d] w fun e w' => e = .returned (.tuple #[.bool false, .bool (eqB xs ys), .bool b.isSome, .slice none 0 0]) ∧ Below w.heap.size w w' := by
  go_enter Try.func12, Try.ntmps12
  go_wp2_with (go_at_call 23; refine (compared_any a b n c m d xs ys _ (.inl rfl) _ h1 h2).mono ?_; rintro e w' ⟨rfl, hb⟩)
  go_quiet (fail)
  go_wp2
  exact bodyPost_ret (v := .tuple #[.bool false, .bool (eqB xs ys), .bool b.isSome, .slice none 0 0]) (by simp [results, Try.results12, go_sem]) rfl ⟨rfl, below_drewN (hb.alloc hb.size _) _⟩

/-- cmd.ZZcomparedFailed. -/
theorem failed_any (a b : Option Addr) (n c m d : Nat) (xs ys : List Int) (w : World) (h1 : Row w a n xs) (h2 : Row w b m ys) :
    Calls Try.prog 13 #[.slice a n c, .slice b m d] w fun e w' => e = .returned (.tuple #[.bool true, .bool (eqB xs ys), .bool b.isSome, .slice none 0 0]) ∧ Below w.heap.size w w' := by
  have hr1 := fun o => h1.later ((Below.refl w.heap.size w).alloc (Nat.le_refl _) o)
  have hr2 := fun o => h2.later ((Below.refl w.heap.size w).alloc (Nat.le_refl _) o)
  have H1 : Hid _ := hr1
  have H2 : Hid _ := hr2
  clear hr1 hr2 h1 h2
  go_enter Try.func13, Try.ntmps13
  go_wp2_with (first | (go_at_call 24; go_in) | (go_at_call 23; refine (compared_any a b n c m d xs ys _ (.inr ⟨_, _, rfl⟩) _ (H1.out _) (H2.out _)).mono ?_; rintro e w' ⟨rfl, hb⟩))
  go_quiet (fail)
  go_wp2
  have hs : w.heap.size ≤ w'.heap.size := by have := hb.size; simp at this; omega
  exact bodyPost_ret (v := .tuple #[.bool true, .bool (eqB xs ys), .bool b.isSome, .slice none 0 0]) (by simp [results, Try.results13, go_sem]) rfl
    ⟨rfl, below_drewN ((((Below.refl w.heap.size w).alloc (Nat.le_refl _) _).trans (hb.mono (by simp))).alloc hs _) _⟩

/-! ### b1EqualBytes -/
theorem eq_len {xs ys : List Int} (h : xs.length ≠ ys.length) : eqB xs ys = false := by
  simp only [eqB, decide_eq_false_iff_not]; intro e; exact h (by rw [e])
theorem eq_miss {xs ys : List Int} {k : Nat} (h : xs.getD k 0 ≠ ys.getD k 0) : eqB xs ys = false := by
  simp only [eqB, decide_eq_false_iff_not]; intro e; exact h (by rw [e])
theorem eq_all {xs ys : List Int} (hl : xs.length = ys.length) (h : ∀ j, j < xs.length → xs.getD j 0 = ys.getD j 0) : eqB xs ys = true := by
  simp only [eqB, decide_eq_true_eq]
  refine List.ext_getElem hl fun i h1 h2 => ?_
  have := h i h1
  simpa [List.getD, h1, h2] using this

set_option maxHeartbeats 400000 in
theorem b1_any (a b : Option Addr) (n c m d : Nat) (xs ys : List Int) (w : World) (hn : n ≤ 1048576) (hm : m ≤ 1048576) (h1 : Row w a n xs) (h2 : Row w b m ys) :
    Calls Try.prog 14 #[.slice a n c, .slice b m d] w fun e w' => e = .returned (.bool (eqB xs ys)) ∧ Below w.heap.size w w' := by
  obtain ⟨l1, r1, p1⟩ := h1
  obtain ⟨l2, r2, p2⟩ := h2
  by_cases hnm : n = m
  · subst hnm
    have L1 : Hid _ := l1
    have L2 : Hid _ := l2
    have P1 : Hid _ := p1
    have P2 : Hid _ := p2
    clear l1 l2 p1 p2 r1 r2
    go_enter Try.func14, Try.ntmps14
    go_wp2
    go_loopw [5] (fun i wr => ∃ k : Nat, k ≤ n ∧ i = .int .i64 k ∧ Below w.heap.size w wr ∧ Hid (∀ j, j < k → xs.getD j 0 = ys.getD j 0)) (fun i _ => n - (intOf i).toNat)
    case atStart => exact ⟨0, Nat.zero_le _, rfl, Below.refl _ _, fun j hj => absurd hj (by omega)⟩
    case round =>
      obtain ⟨k, hk, rfl, hb, hj⟩ := hrel
      by_cases hlt : k < n
      · have q1 : ∃ g, a = some ⟨g, 0, none⟩ ∧ wr.cell? ⟨g, k, none⟩ = some (.int .u8 (xs.getD k 0)) := by
          rcases P1.out with ⟨_, h⟩ | ⟨g, h, hc⟩
          · omega
          · exact ⟨g, h, by simpa using cell_later hb (hc k hlt)⟩
        have q2 : ∃ g, b = some ⟨g, 0, none⟩ ∧ wr.cell? ⟨g, k, none⟩ = some (.int .u8 (ys.getD k 0)) := by
          rcases P2.out with ⟨_, h⟩ | ⟨g, h, hc⟩
          · omega
          · exact ⟨g, h, by simpa using cell_later hb (hc k hlt)⟩
        obtain ⟨g1, rfl, c1⟩ := q1
        obtain ⟨g2, rfl, c2⟩ := q2
        obtain ⟨x, hx⟩ : ∃ x, xs.getD k 0 = x := ⟨_, rfl⟩
        obtain ⟨y, hy⟩ : ∃ y, ys.getD k 0 = y := ⟨_, rfl⟩
        rw [hx] at c1
        rw [hy] at c2
        have X : Hid _ := hx
        have Y : Hid _ := hy
        clear hx hy P1 P2
        by_cases hxy : x = y
        · have hj' : Hid (∀ j, j < k + 1 → xs.getD j 0 = ys.getD j 0) := by
            intro j h
            by_cases e : j = k
            · subst e; rw [X.out, Y.out, hxy]
            · exact hj.out j (by omega)
          clear X Y hj
          subst hxy
          go_wp2
          go_quiet (fail)
          go_wp2
          go_roundw
          case rel => exact ⟨k + 1, by omega, by go_num, below_drewN hb _, hj'⟩
          case measure => simp [intOf]; omega
        · have hne : (x != y) = true := by rw [bne_iff_ne]; exact hxy
          have he : Hid (eqB xs ys = false) := eq_miss (k := k) (by rw [X.out, Y.out]; exact hxy)
          clear X Y hj hxy
          go_wp2
          go_quiet (fail)
          go_wp2
          go_ret
          exact ⟨by rw [he.out]; rfl, below_drewN hb _⟩
      · go_wp2
        go_ret
        have he : eqB xs ys = true := eq_all (by rw [L1.out, L2.out]) (fun j h => hj.out j (by rw [L1.out] at h; omega))
        exact ⟨by rw [he]; rfl, hb⟩
  · have he := eq_len (xs := xs) (ys := ys) (by omega)
    have hb : ((n : Int) != (m : Int)) = true := by rw [bne_iff_ne]; omega
    clear p1 p2 l1 l2 r1 r2 hnm
    go_enter Try.func14, Try.ntmps14
    go_wp2
    go_ret
    exact ⟨by rw [he]; rfl, Below.refl _ _⟩

/-! ### 'zzc := make([]byte, len(got)); copy(zzc, got)' -/
/-- What is asked of the slice that is copied: its elements are the bytes 'xs'. -/
def Src (w : World) (a : Option Addr) (n : Nat) (xs : List Int) : Prop :=
  xs.length = n ∧ (∀ x ∈ xs, 0 ≤ x ∧ x ≤ 255) ∧ (0 < n → ∃ ad, a = some ad ∧ ∀ i, i < n → w.cell? (ad.add i) = some (.int .u8 (xs.getD i 0)))

theorem Src.later {w w' : World} {a : Option Addr} {n : Nat} {xs : List Int} (h : Src w a n xs) (hb : Below w.heap.size w w') : Src w' a n xs := by
  obtain ⟨h1, h2, h3⟩ := h
  refine ⟨h1, h2, fun h0 => ?_⟩
  obtain ⟨ad, rfl, hc⟩ := h3 h0
  exact ⟨ad, rfl, fun i hi => cell_later hb (hc i hi)⟩

theorem row_of {w : World} {g n : Nat} {xs : List Int} (hl : xs.length = n) (hr : ∀ x ∈ xs, 0 ≤ x ∧ x ≤ 255)
    (hg : w.heap[g]? = some (.cells (splice (List.replicate n (Value.int .u8 0)) 0 (xs.map (Value.int .u8))).toArray 5 (0, 0))) : Row w (some ⟨g, 0, none⟩) n xs := by
  refine ⟨hl, hr, .inr ⟨g, rfl, fun i hi => ?_⟩⟩
  have e : splice (List.replicate n (Value.int .u8 0)) 0 (xs.map (Value.int .u8)) = xs.map (Value.int .u8) := by
    simp [splice, hl]
  rw [e] at hg
  simp [World.cell?, hg, hl, hi, List.getD]

theorem wpList_copy_new {w : World} {ops : Array Oper} {rest : List Oper} {o : Oper} {a : Act} {Q : Exit → Act → World → Prop} (hgd : o.guard = none) (d s : Operand)
    (ho : o.op = .call { callee := .builtin .copy, args := #[d, s], argTypes := #[30, 30] }) (W : World) (sp : Option Addr) (n sCap : Nat) (xs : List Int)
    (hw : w = W.alloc (.cells (madeCells #[.int .u8 0] n) 5)) (hd : a.eval d = .slice (some ⟨W.heap.size, 0, none⟩) n n) (hs : a.eval s = .slice sp n sCap) (hsrc : Src W sp n xs)
    (h : ∀ w', Below W.heap.size W w' → Row w' (some ⟨W.heap.size, 0, none⟩) n xs → wpList Try.prog ops Q rest (a.put o.dst (goInt n)) w') : wpList Try.prog ops Q (o :: rest) a w := by
  subst hw
  have hb : Below W.heap.size W (W.alloc (.cells (madeCells #[.int .u8 0] n) 5)) := (Below.refl _ _).alloc (Nat.le_refl _) _
  obtain ⟨h1, h2, h3⟩ := hsrc.later hb
  refine wpList_copy_splice hgd d s 30 30 ho 5 Try.underlying30 (by kernel_rfl) _ _ n n n sCap hd hs W.heap.size 0 (List.replicate n (Value.int .u8 0)) 5 ?_ (xs.map (Value.int .u8)) (by simp [h1]) ?_ (by simp [h1]) ?_ W.heap.size W hb (Nat.le_refl _) ?_
  · rw [← toList_madeCells_one]; exact Deep.blk_alloc_new _ _
  · intro h0
    obtain ⟨ad, e, hc⟩ := h3 (by simpa [h1] using h0)
    refine ⟨rfl, ad, e, fun j v hj => ?_⟩
    simp only [List.getElem?_map, Option.map_eq_some_iff] at hj
    obtain ⟨x, hx, rfl⟩ := hj
    have hlt := (List.getElem?_eq_some_iff.1 hx).1
    rw [hc j (by omega)]; simp [List.getD, hx]
  · intro v hv
    obtain ⟨x, _, rfl⟩ := List.mem_map.1 hv
    rfl
  · intro w' hg hb'
    have := h w' hb' (row_of h1 h2 hg.out)
    simpa [h1] using this


/-- What the row hands the walk of a []byte that came in. -/
def In8 (w : World) (a : Option Addr) (len cap : Nat) (zs : List Int) : Prop :=
  (a = none ∧ len = 0 ∧ cap = 0 ∧ zs = []) ∨
  ∃ x, a = some x ∧ len ≤ cap ∧ cap ≤ maxLen ∧ zs.length = cap ∧ (∀ i, i < zs.length → w.cell? (x.add i) = some (.int .u8 (zs.getD i 0))) ∧ ∀ n ∈ zs, (Lit.int .u8 n).wf = true

theorem In8.src {w : World} {a : Option Addr} {len cap : Nat} {zs : List Int} (h : In8 w a len cap zs) : Src w a len (zs.take len) ∧ len ≤ maxLen ∧ (a = none → len = 0 ∧ cap = 0) := by
  rcases h with ⟨rfl, rfl, rfl, rfl⟩ | ⟨x, rfl, h1, h2, h3, h4, h5⟩
  · exact ⟨⟨rfl, by simp, fun h => absurd h (by omega)⟩, Nat.zero_le _, fun _ => ⟨rfl, rfl⟩⟩
  · refine ⟨⟨by simp; omega, fun z hz => ?_, fun _ => ⟨x, rfl, fun i hi => ?_⟩⟩, by omega, by simp⟩
    · have := bounds_u8 (h5 z (List.mem_of_mem_take hz)); omega
    · rw [h4 i (by omega)]; simp [List.getD, hi]

theorem eqB_comm (xs ys : List Int) : eqB xs ys = eqB ys xs := by
  simp only [eqB, decide_eq_decide]; exact ⟨Eq.symm, Eq.symm⟩

theorem Src.row_nil {w : World} {xs : List Int} (h : Src w none 0 xs) : Row w none 0 xs := ⟨h.1, h.2.1, .inl ⟨rfl, rfl⟩⟩

set_option maxHeartbeats 1600000 in
theorem swap_walk (a0 : Option Addr) (len0 cap0 : Nat) (z0 : List Int) (a1 : Option Addr) (len1 cap1 : Nat) (z1 : List Int) (w : World) (w0 : In8 w a0 len0 cap0 z0) (w1 : In8 w a1 len1 cap1 z1) :
    Calls Try.prog 4 #[.slice a0 len0 cap0, .slice a1 len1 cap1] w fun e w' => e = .returned (.bool true) ∧ Below w.heap.size w w' := by
  obtain ⟨s0, m0, n0⟩ := w0.src
  obtain ⟨s1, m1, n1⟩ := w1.src
  clear w0 w1
  unfold maxLen at m0 m1
  generalize z0.take len0 = xs at *
  generalize z1.take len1 = ys at *
  by_cases h0 : 524288 < len0
  · clear n0 n1 s0 s1
    go_enter Try.func4, Try.ntmps4
    go_wp2
    all_goals (go_ret; exact ⟨rfl, Below.refl _ _⟩)
  by_cases h1 : 524288 < len1
  · clear n0 n1 s0 s1
    go_enter Try.func4, Try.ntmps4
    go_wp2
    all_goals (go_ret; exact ⟨rfl, Below.refl _ _⟩)
  have hmk0 := run_make_row' (P := Try.prog) 30 5 (.int .u8 0) 1 Try.underlying30 (by kernel_rfl) rfl .i64 .i64 len0 (by omega) (by omega)
  have hmk1 := run_make_row' (P := Try.prog) 30 5 (.int .u8 0) 1 Try.underlying30 (by kernel_rfl) rfl .i64 .i64 len1 (by omega) (by omega)
  have HC : Hid _ := eqB_comm ys xs
  have heq := fun w n c n' c' => Lib.run_eql_slice_nil (P := Try.prog) w 30 5 none n c n' c' Try.underlying30
  have bW := Below.refl w.heap.size w
  cases a0 with
  | none =>
    obtain ⟨rfl, rfl⟩ := n0 rfl
    have r0 := s0.row_nil
    clear n0 s0 hmk0
    cases a1 with
    | none =>
      obtain ⟨rfl, rfl⟩ := n1 rfl
      have r1 := s1.row_nil
      clear n1 s1 hmk1
      go_enter Try.func4, Try.ntmps4
      go_wp2_with (first | (go_at_call 11; go_in))
      refine (ok_any _ _ _ _ _ _ xs ys _ r0 r1).mono ?_
      rintro e w3 ⟨rfl, b3⟩
      have r0' := r0.later b3
      have r1' := r1.later b3
      go_wp2_with fail
      refine (failed_any _ _ _ _ _ _ xs ys _ r0' r1').mono ?_
      rintro e w4 ⟨rfl, b4⟩
      have r0'' := r0'.later b4
      have r1'' := r1'.later b4
      go_wp2_with fail
      refine (ok_any _ _ _ _ _ _ ys xs _ r1'' r0'').mono ?_
      rintro e w5 ⟨rfl, b5⟩
      rw [HC.out]
      have r0''' := r0''.later b5
      have r1''' := r1''.later b5
      go_wp2_with fail
      refine (b1_any _ _ _ _ _ _ xs ys _ (by omega) (by omega) r0''' r1''').mono ?_
      rintro e w6 ⟨rfl, b6⟩
      have bel := bW.trans ((b3.trans ((b4.trans ((b5.trans (b6.mono b5.size)).mono b4.size)).mono b3.size)).mono bW.size)
      clear r0 r1 r0' r1' r0'' r1'' r0''' r1''' b3 b4 b5 b6 bW
      generalize eqB xs ys = q at *
      go_wp2
      go_ret
      exact ⟨by simp, bel⟩
    | some y =>
      clear n1 bW
      go_enter Try.func4, Try.ntmps4
      go_wp2_with (first | (go_at_call 11; go_in) | (refine wpList_copy_new rfl (.tmp 44) (.tmp 45) rfl w (some y) len1 cap1 ys rfl rfl rfl s1 ?_; intro w2 bW r1))
      replace r0 := r0.later bW
      refine (ok_any _ _ _ _ _ _ xs ys _ r0 r1).mono ?_
      rintro e w3 ⟨rfl, b3⟩
      have r0' := r0.later b3
      have r1' := r1.later b3
      go_wp2_with fail
      refine (failed_any _ _ _ _ _ _ xs ys _ r0' r1').mono ?_
      rintro e w4 ⟨rfl, b4⟩
      have r0'' := r0'.later b4
      have r1'' := r1'.later b4
      go_wp2_with fail
      refine (ok_any _ _ _ _ _ _ ys xs _ r1'' r0'').mono ?_
      rintro e w5 ⟨rfl, b5⟩
      rw [HC.out]
      have r0''' := r0''.later b5
      have r1''' := r1''.later b5
      go_wp2_with fail
      refine (b1_any _ _ _ _ _ _ xs ys _ (by omega) (by omega) r0''' r1''').mono ?_
      rintro e w6 ⟨rfl, b6⟩
      have bel := bW.trans ((b3.trans ((b4.trans ((b5.trans (b6.mono b5.size)).mono b4.size)).mono b3.size)).mono bW.size)
      clear r0 r1 r0' r1' r0'' r1'' r0''' r1''' b3 b4 b5 b6 bW
      generalize eqB xs ys = q at *
      go_wp2
      go_ret
      exact ⟨by simp, bel⟩
  | some x =>
    clear n0 bW
    cases a1 with
    | none =>
      obtain ⟨rfl, rfl⟩ := n1 rfl
      have r1 := s1.row_nil
      clear n1 s1 hmk1
      go_enter Try.func4, Try.ntmps4
      go_wp2_with (first | (go_at_call 11; go_in) | (refine wpList_copy_new rfl (.tmp 35) (.tmp 36) rfl w (some x) len0 cap0 xs rfl rfl rfl s0 ?_; intro w2 bW r0))
      replace r1 := r1.later bW
      refine (ok_any _ _ _ _ _ _ xs ys _ r0 r1).mono ?_
      rintro e w3 ⟨rfl, b3⟩
      have r0' := r0.later b3
      have r1' := r1.later b3
      go_wp2_with fail
      refine (failed_any _ _ _ _ _ _ xs ys _ r0' r1').mono ?_
      rintro e w4 ⟨rfl, b4⟩
      have r0'' := r0'.later b4
      have r1'' := r1'.later b4
      go_wp2_with fail
      refine (ok_any _ _ _ _ _ _ ys xs _ r1'' r0'').mono ?_
      rintro e w5 ⟨rfl, b5⟩
      rw [HC.out]
      have r0''' := r0''.later b5
      have r1''' := r1''.later b5
      go_wp2_with fail
      refine (b1_any _ _ _ _ _ _ xs ys _ (by omega) (by omega) r0''' r1''').mono ?_
      rintro e w6 ⟨rfl, b6⟩
      have bel := bW.trans ((b3.trans ((b4.trans ((b5.trans (b6.mono b5.size)).mono b4.size)).mono b3.size)).mono bW.size)
      clear r0 r1 r0' r1' r0'' r1'' r0''' r1''' b3 b4 b5 b6 bW
      generalize eqB xs ys = q at *
      go_wp2
      go_ret
      exact ⟨by simp, bel⟩
    | some y =>
      clear n1
      go_enter Try.func4, Try.ntmps4
      go_wp2_with (first | (go_at_call 11; go_in) | (refine wpList_copy_new rfl (.tmp 35) (.tmp 36) rfl w (some x) len0 cap0 xs rfl rfl rfl s0 ?_; intro w1 bV rV) | (refine wpList_copy_new rfl (.tmp 44) (.tmp 45) rfl w1 (some y) len1 cap1 ys rfl rfl rfl (s1.later bV) ?_; intro w2 bU r1))
      have r0 := rV.later bU
      have bW := bV.trans (bU.mono bV.size)
      clear rV bU bV
      refine (ok_any _ _ _ _ _ _ xs ys _ r0 r1).mono ?_
      rintro e w3 ⟨rfl, b3⟩
      have r0' := r0.later b3
      have r1' := r1.later b3
      go_wp2_with fail
      refine (failed_any _ _ _ _ _ _ xs ys _ r0' r1').mono ?_
      rintro e w4 ⟨rfl, b4⟩
      have r0'' := r0'.later b4
      have r1'' := r1'.later b4
      go_wp2_with fail
      refine (ok_any _ _ _ _ _ _ ys xs _ r1'' r0'').mono ?_
      rintro e w5 ⟨rfl, b5⟩
      rw [HC.out]
      have r0''' := r0''.later b5
      have r1''' := r1''.later b5
      go_wp2_with fail
      refine (b1_any _ _ _ _ _ _ xs ys _ (by omega) (by omega) r0''' r1''').mono ?_
      rintro e w6 ⟨rfl, b6⟩
      have bel := bW.trans ((b3.trans ((b4.trans ((b5.trans (b6.mono b5.size)).mono b4.size)).mono b3.size)).mono bW.size)
      clear r0 r1 r0' r1' r0'' r1'' r0''' r1''' b3 b4 b5 b6 bW
      generalize eqB xs ys = q at *
      go_wp2
      go_ret
      exact ⟨by simp, bel⟩
end Go.Proofs.Qxb6612733a
