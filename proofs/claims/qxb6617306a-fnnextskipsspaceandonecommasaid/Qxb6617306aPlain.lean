/-
  Plain laws on lists of bytes: white space, what 'space' and 'next' come to. No Go in sight.
-/
import Derived.Test.Qxb6617306aKit
namespace Go.Proofs.Qxb6617306a

/-- White space. -/
def isW (c : Int) : Bool := c == 32 || c == 9 || c == 13 || c == 10
theorem isW_comma : isW 44 = false := by decide

/-- How many bytes of white space a list opens with. -/
def skip : List Int → Nat
  | [] => 0
  | c :: r => if isW c then skip r + 1 else 0
/-- Where 'space' comes to from p. -/
def sp (zs : List Int) (p : Nat) : Nat := p + skip (zs.drop p)

theorem skip_le : ∀ zs : List Int, skip zs ≤ zs.length
  | [] => Nat.le_refl _
  | c :: r => by
    have := skip_le r
    unfold skip
    split <;> simp <;> omega

theorem drop_cons {zs : List Int} {p : Nat} (hp : p < zs.length) : zs.drop p = zs.getD p 0 :: zs.drop (p + 1) := by
  rw [List.drop_eq_getElem_cons hp]; simp [List.getD, hp]
theorem sp_end {zs : List Int} {p : Nat} (hp : zs.length ≤ p) : sp zs p = p := by
  unfold sp; rw [List.drop_eq_nil_of_le hp]; rfl
theorem sp_stay {zs : List Int} {p : Nat} (hp : p < zs.length) (h : isW (zs.getD p 0) = false) : sp zs p = p := by
  unfold sp; rw [drop_cons hp]; unfold skip; rw [h]; simp
theorem sp_go {zs : List Int} {p : Nat} (hp : p < zs.length) (h : isW (zs.getD p 0) = true) : sp zs p = sp zs (p + 1) := by
  unfold sp; rw [drop_cons hp]; conv => lhs; unfold skip
  rw [h]; simp; omega
theorem sp_ge (zs : List Int) (p : Nat) : p ≤ sp zs p := by unfold sp; omega
theorem sp_le {zs : List Int} {p : Nat} (hp : p ≤ zs.length) : sp zs p ≤ zs.length := by
  unfold sp; have := skip_le (zs.drop p); rw [List.length_drop] at this; omega

theorem skip_ws : ∀ (zs : List Int) (j : Nat), j < skip zs → isW (zs.getD j 0) = true
  | [], j, h => by simp [skip] at h
  | c :: r, j, h => by
    unfold skip at h
    split at h
    · rename_i hc
      cases j with
      | zero => simpa using hc
      | succ j => have := skip_ws r j (by omega); simpa using this
    · omega
theorem skip_stop : ∀ (zs : List Int), skip zs < zs.length → isW (zs.getD (skip zs) 0) = false
  | [], h => by simp at h
  | c :: r, h => by
    unfold skip at h ⊢
    split at h
    · rename_i hc
      rw [if_pos hc]
      have := skip_stop r (by simp at h; omega)
      simpa using this
    · rename_i hc
      rw [if_neg hc]
      simpa using hc
theorem getD_drop (zs : List Int) (p j : Nat) : (zs.drop p).getD j 0 = zs.getD (p + j) 0 := by
  simp [List.getD]
theorem sp_ws {zs : List Int} {p j : Nat} (h1 : p ≤ j) (h2 : j < sp zs p) : isW (zs.getD j 0) = true := by
  unfold sp at h2
  have := skip_ws (zs.drop p) (j - p) (by omega)
  rw [getD_drop] at this
  rwa [show p + (j - p) = j by omega] at this
theorem sp_stop {zs : List Int} {p : Nat} (h : sp zs p < zs.length) : isW (zs.getD (sp zs p) 0) = false := by
  unfold sp at h ⊢
  have := skip_stop (zs.drop p) (by rw [List.length_drop]; omega)
  rwa [getD_drop] at this

/-- From p on there is a byte that is neither white space nor a comma. -/
def HasV (zs : List Int) (p : Nat) : Prop := ∃ k, p ≤ k ∧ k < zs.length ∧ isW (zs.getD k 0) = false ∧ zs.getD k 0 ≠ 44
theorem HasV.sp {zs : List Int} {p : Nat} (h : HasV zs p) : sp zs p < zs.length ∧ HasV zs (sp zs p) := by
  obtain ⟨k, h1, h2, h3, h4⟩ := h
  have hk : Qxb6617306a.sp zs p ≤ k := by
    refine Nat.le_of_not_lt fun hlt => ?_
    rw [sp_ws h1 hlt] at h3
    cases h3
  exact ⟨by omega, k, hk, h2, h3, h4⟩
theorem HasV.step {zs : List Int} {p : Nat} (h : HasV zs p) (hc : zs.getD p 0 = 44) : HasV zs (p + 1) := by
  obtain ⟨k, h1, h2, h3, h4⟩ := h
  refine ⟨k, ?_, h2, h3, h4⟩
  refine Nat.lt_of_le_of_ne h1 fun e => ?_
  subst e
  exact h4 hc
theorem HasV.lt {zs : List Int} {p : Nat} (h : HasV zs p) : p < zs.length := by obtain ⟨k, h1, h2, _⟩ := h; omega

/-- Where 'next' comes to from p. -/
def nxt (zs : List Int) (p : Nat) : Nat := if zs.getD (sp zs p) 0 = 44 then sp zs (sp zs p + 1) else sp zs p
theorem nxt_comma {zs : List Int} {p : Nat} (h : zs.getD (sp zs p) 0 = 44) : nxt zs p = sp zs (sp zs p + 1) := by unfold nxt; rw [if_pos h]
theorem nxt_plain {zs : List Int} {p : Nat} (h : zs.getD (sp zs p) 0 ≠ 44) : nxt zs p = sp zs p := by unfold nxt; rw [if_neg h]

theorem nxt_all {zs : List Int} {p : Nat} (h : HasV zs p) : p ≤ nxt zs p ∧ nxt zs p < zs.length ∧ isW (zs.getD (nxt zs p) 0) = false ∧ HasV zs (nxt zs p) := by
  have h1 := h.sp
  have g1 := sp_ge zs p
  by_cases hc : zs.getD (Qxb6617306a.sp zs p) 0 = 44
  · rw [nxt_comma hc]
    have h2 := (h1.2.step hc).sp
    have g2 := sp_ge zs (Qxb6617306a.sp zs p + 1)
    exact ⟨by omega, h2.1, sp_stop h2.1, h2.2⟩
  · rw [nxt_plain hc]
    exact ⟨g1, h1.1, sp_stop h1.1, h1.2⟩

/-- Where 'next' starts on a byte that is neither white space nor a comma it stands still. -/
theorem nxt_still {zs : List Int} {p : Nat} (hp : p < zs.length) (h : isW (zs.getD p 0) = false) (hc : zs.getD p 0 ≠ 44) : nxt zs p = p := by
  have e := sp_stay hp h
  rw [nxt_plain (by rw [e]; exact hc), e]
/-- Where it starts on a comma it goes on. -/
theorem nxt_moves {zs : List Int} {p : Nat} (hp : p < zs.length) (hc : zs.getD p 0 = 44) : p < nxt zs p := by
  have e := sp_stay hp (by rw [hc]; exact isW_comma)
  rw [nxt_comma (by rw [e]; exact hc), e]
  have := sp_ge zs (p + 1)
  omega

/-- What 'valueAhead' answers. -/
def vA (zs : List Int) (p : Nat) : Bool := (zs.drop p).any (fun c => !isW c && !(c == 44))
theorem vA_end {zs : List Int} {p : Nat} (hp : zs.length ≤ p) : vA zs p = false := by unfold vA; rw [List.drop_eq_nil_of_le hp]; rfl
theorem vA_yes {zs : List Int} {p : Nat} (hp : p < zs.length) (h1 : isW (zs.getD p 0) = false) (h2 : (zs.getD p 0 == 44) = false) : vA zs p = true := by
  unfold vA; rw [drop_cons hp, List.any_cons, h1, h2]; rfl
theorem vA_ws {zs : List Int} {p : Nat} (hp : p < zs.length) (h1 : isW (zs.getD p 0) = true) : vA zs p = vA zs (p + 1) := by
  unfold vA; rw [drop_cons hp, List.any_cons, h1]; rfl
theorem vA_comma {zs : List Int} {p : Nat} (hp : p < zs.length) (h2 : (zs.getD p 0 == 44) = true) : vA zs p = vA zs (p + 1) := by
  unfold vA; rw [drop_cons hp, List.any_cons, h2]; simp
theorem vA_has {zs : List Int} {p : Nat} (h : vA zs p = true) : HasV zs p := by
  unfold vA at h
  obtain ⟨c, hc, h2⟩ := List.any_eq_true.1 h
  obtain ⟨j, hj, rfl⟩ := List.getElem_of_mem hc
  rw [List.length_drop] at hj
  have e : (zs.drop p)[j] = zs.getD (p + j) 0 := by
    rw [List.getElem_drop]; simp [List.getD, show p + j < zs.length by omega]
  rw [e] at h2
  simp at h2
  exact ⟨p + j, by omega, by omega, by simpa using h2.1, by simpa using h2.2⟩

end Go.Proofs.Qxb6617306a
