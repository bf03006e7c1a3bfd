/-
  Seat b6612798a: the index as plain functions on numbers, and its laws. No Go in sight.
-/
namespace Go.Proofs.Qxb6612798a.Ix

/-- How many of the first n slots are taken. -/
def used (sl : Nat → Nat) : Nat → Nat
  | 0 => 0
  | n + 1 => used sl n + (if sl n = 0 then 0 else 1)

/-- One value set. -/
def upd (f : Nat → Nat) (p v : Nat) : Nat → Nat := fun j => if j = p then v else f j

theorem upd_same (f : Nat → Nat) (p v : Nat) : upd f p v p = v := by simp [upd]
theorem upd_other (f : Nat → Nat) {p j : Nat} (v : Nat) (h : j ≠ p) : upd f p v j = f j := by simp [upd, h]

theorem used_le (sl : Nat → Nat) : ∀ n, used sl n ≤ n
  | 0 => Nat.le_refl _
  | n + 1 => by have := used_le sl n; simp only [used]; split <;> omega

theorem used_free (sl : Nat → Nat) : ∀ n, used sl n < n → ∃ i, i < n ∧ sl i = 0
  | 0, h => absurd h (by omega)
  | n + 1, h => by
    by_cases h0 : sl n = 0
    · exact ⟨n, by omega, h0⟩
    · simp only [used, if_neg h0] at h
      obtain ⟨i, hi, hz⟩ := used_free sl n (by omega)
      exact ⟨i, by omega, hz⟩

theorem used_upd_above (sl : Nat → Nat) {p v : Nat} : ∀ n, n ≤ p → used (upd sl p v) n = used sl n
  | 0, _ => rfl
  | n + 1, h => by
    simp only [used]
    rw [used_upd_above sl n (by omega), upd_other sl v (by omega)]

theorem used_upd (sl : Nat → Nat) {p v : Nat} (hp : sl p = 0) (hv : v ≠ 0) : ∀ n, p < n → used (upd sl p v) n = used sl n + 1
  | 0, h => absurd h (by omega)
  | n + 1, h => by
    simp only [used]
    by_cases e : n = p
    · subst e
      rw [used_upd_above sl n (Nat.le_refl _), upd_same, hp]
      simp [hv]
    · rw [used_upd sl hp hv n (by omega), upd_other sl v e]
      omega

theorem used_zero : ∀ n, used (fun _ => 0) n = 0
  | 0 => rfl
  | n + 1 => by simp [used, used_zero n]

/-- The byte of a hash that a slot keeps. -/
def tagN (h : Nat) : Nat := h / 72057594037927936

/-- The table holds just the numbers of M, each on its road from its home slot; the tags fit. -/
structure Tab (hs : Nat → Nat) (S : Nat) (sl tg : Nat → Nat) (M : Nat → Prop) : Prop where
  held : ∀ m, M m → m ≠ 0 ∧ ∃ d, d < S ∧ sl ((hs (m - 1) + d) % S) = m ∧ ∀ e, e < d → sl ((hs (m - 1) + e) % S) ≠ 0
  back : ∀ i, i < S → sl i ≠ 0 → M (sl i)
  tag : ∀ i, i < S → sl i ≠ 0 → tg i = tagN (hs (sl i - 1))

/-- The first free slot on the road from h. -/
def Free (S : Nat) (sl : Nat → Nat) (h p : Nat) : Prop := ∃ d, d < S ∧ p = (h + d) % S ∧ sl p = 0 ∧ ∀ e, e < d → sl ((h + e) % S) ≠ 0

theorem Tab.empty (hs : Nat → Nat) (S : Nat) (tg : Nat → Nat) : Tab hs S (fun _ => 0) tg (fun _ => False) :=
  ⟨fun _ h => h.elim, fun _ _ h => absurd rfl h, fun _ _ h => absurd rfl h⟩

theorem Tab.congr {hs : Nat → Nat} {S : Nat} {sl tg : Nat → Nat} {M M' : Nat → Prop} (h : Tab hs S sl tg M) (e : ∀ x, M x ↔ M' x) : Tab hs S sl tg M' :=
  ⟨fun m hm => h.held m ((e m).2 hm), fun i hi hz => (e _).1 (h.back i hi hz), h.tag⟩

theorem Tab.put {hs : Nat → Nat} {S : Nat} {sl tg : Nat → Nat} {M : Nat → Prop} (hT : Tab hs S sl tg M) {m p : Nat} (hm : m ≠ 0) (hf : Free S sl (hs (m - 1)) p) :
    Tab hs S (upd sl p m) (upd tg p (tagN (hs (m - 1)))) (fun x => M x ∨ x = m) := by
  obtain ⟨d, hd, hp, hz, hroad⟩ := hf
  have keep : ∀ j, sl j ≠ 0 → upd sl p m j = sl j := fun j hj => upd_other sl m (fun e => hj (by rw [e]; exact hz))
  have keep' : ∀ j, sl j ≠ 0 → upd sl p m j ≠ 0 := fun j hj => by rw [keep j hj]; exact hj
  refine ⟨?_, ?_, ?_⟩
  · intro x hx
    rcases hx with hx | rfl
    · obtain ⟨h0, c, hc, hs1, hs2⟩ := hT.held x hx
      refine ⟨h0, c, hc, ?_, fun e he => keep' _ (hs2 e he)⟩
      rw [keep _ (by rw [hs1]; exact h0)]; exact hs1
    · refine ⟨hm, d, hd, ?_, fun e he => keep' _ (hroad e he)⟩
      rw [← hp]; exact upd_same _ _ _
  · intro i hi hne
    by_cases e : i = p
    · subst e; rw [upd_same]; exact .inr rfl
    · rw [upd_other sl m e] at hne ⊢
      exact .inl (hT.back i hi hne)
  · intro i hi hne
    by_cases e : i = p
    · subst e; rw [upd_same, upd_same]
    · rw [upd_other sl m e] at hne ⊢
      rw [upd_other tg _ e]
      exact hT.tag i hi hne

/-- From every hash a free slot can be reached. -/
theorem reach (S : Nat) (sl : Nat → Nat) (h : Nat) (hu : used sl S < S) : ∃ D, D < S ∧ sl ((h + D) % S) = 0 := by
  obtain ⟨i, hi, hz⟩ := used_free sl S hu
  have hS : 0 < S := by omega
  refine ⟨(i + (S - h % S)) % S, Nat.mod_lt _ hS, ?_⟩
  have hlt := Nat.mod_lt h hS
  have e : (h + (i + (S - h % S)) % S) % S = i := by
    rw [Nat.add_mod, Nat.mod_mod, ← Nat.add_mod]
    have hh := Nat.div_add_mod h S
    have : h + (i + (S - h % S)) = i + S * (h / S + 1) := by rw [Nat.mul_add]; omega
    rw [this, Nat.add_mul_mod_self_left, Nat.mod_eq_of_lt hi]
  rw [e]; exact hz

theorem step_mod (h e S : Nat) : ((h + e) % S + 1) % S = (h + (e + 1)) % S := by
  rw [Nat.add_mod, Nat.mod_mod, ← Nat.add_mod]
  rfl

theorem used_mono (sl : Nat → Nat) (n : Nat) : used sl n ≤ used sl (n + 1) := by simp only [used]; omega

theorem used_mono' (sl : Nat → Nat) {n m : Nat} (h : n ≤ m) : used sl n ≤ used sl m := by
  induction h with
  | refl => exact Nat.le_refl _
  | step _ ih => exact Nat.le_trans ih (used_mono sl _)
end Go.Proofs.Qxb6612798a.Ix
