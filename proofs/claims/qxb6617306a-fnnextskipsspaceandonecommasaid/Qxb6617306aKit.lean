/-
  Seat b6617306a: what all walks share: a slice that reads as a list of cells; closed facts of the program's type table.
-/
import Derived.Test.Qxb6617306aProg
import Derived.WalkKit
import Derived.KernelRfl
import Derived.Maps.AppendAt
import Derived.WalkSpells
import Derived.OpenShut
import Derived.Laws.IdiomCopy
namespace Go.Proofs.Qxb6617306a
open Go.RowKit

theorem Try.info5 : (Try.prog.info? 5).map (fun i => (i.zero, i.size, i.bytes)) = some (some (.int .u8 0), 1, 1) := by kernel_rfl

/-- The slice at address 'a' reads as the cells 'cs': none of them, or they lie from some cell of an old block on. -/
def Rd (w : World) (a : Option Addr) (cs : List Value) : Prop :=
  cs = [] ∨ ∃ b off, a = some ⟨b, off, none⟩ ∧ b < w.heap.size ∧ ∀ j, j < cs.length → w.cell? ⟨b, off + j, none⟩ = cs[j]?

theorem Rd.below {w w' : World} {a : Option Addr} {cs : List Value} (h : Rd w a cs) (hb : Below w.heap.size w w') : Rd w' a cs := by
  rcases h with rfl | ⟨b, off, rfl, hlt, hc⟩
  · exact .inl rfl
  · exact .inr ⟨b, off, rfl, Nat.lt_of_lt_of_le hlt hb.size, fun j hj => (hb.cell (p := ⟨b, off + j, none⟩) hlt).trans (hc j hj)⟩

/-- A slice of bytes. -/
def RdB (w : World) (a : Option Addr) (zs : List Int) : Prop := Rd w a (zs.map (Value.int .u8))

theorem RdB.below {w w' : World} {a : Option Addr} {zs : List Int} (h : RdB w a zs) (hb : Below w.heap.size w w') : RdB w' a zs := Rd.below h hb

theorem RdB.nil (w : World) (a : Option Addr) : RdB w a [] := .inl rfl

theorem RdB.open {w : World} {a : Option Addr} {zs : List Int} (h : RdB w a zs) :
    zs = [] ∨ ∃ b off, a = some ⟨b, off, none⟩ ∧ b < w.heap.size ∧ ∀ j, j < zs.length → w.cell? ⟨b, off + j, none⟩ = some (.int .u8 (zs.getD j 0)) := by
  rcases h with h | ⟨b, off, ha, hlt, hc⟩
  · exact .inl (by simpa using h)
  · refine .inr ⟨b, off, ha, hlt, fun j hj => ?_⟩
    rw [hc j (by simpa using hj)]
    simp [List.getD, hj]

theorem RdB.mk {w : World} {b off : Nat} {zs : List Int} (hlt : b < w.heap.size) (hc : ∀ j, j < zs.length → w.cell? ⟨b, off + j, none⟩ = some (.int .u8 (zs.getD j 0))) :
    RdB w (some ⟨b, off, none⟩) zs := by
  refine .inr ⟨b, off, rfl, hlt, fun j hj => ?_⟩
  have hj' : j < zs.length := by simpa using hj
  rw [hc j hj']
  simp [List.getD, hj']

/-- What the call owns it can read. -/
theorem Rd.owned {w : World} {base : Nat} {e : TypeId} {v : Value} {n : Nat} {cs : List Value} (h : w.ownsRow base e 1 v n cs) :
    ∃ a cap, v = .slice a n cap ∧ Rd w a cs ∧ cs.length = n := by
  have hl : cs.length = n := by simpa using h.1
  rcases h.2 with ⟨rfl, rfl⟩ | ⟨g, cap, cur, rfl, hg, hh, r⟩
  · exact ⟨none, 0, rfl, .inl (List.eq_nil_of_length_eq_zero hl), hl⟩
  · refine ⟨_, cap, rfl, .inr ⟨g, 0, rfl, (h.lt g rfl).2, fun j hj => ?_⟩, hl⟩
    rw [Nat.zero_add]
    exact h.cellAt j (by omega)

/-- A row of bytes that came in: its first 'len' cells. -/
theorem RdB.of_row {w : World} {x : Addr} {len : Nat} {zs : List Int} (hl : len ≤ zs.length) (hc : ∀ i, i < zs.length → w.cell? (x.add i) = some (.int .u8 (zs.getD i 0))) :
    RdB w (some x) (zs.take len) := by
  by_cases h0 : len = 0
  · subst h0; exact .inl (by simp)
  · obtain ⟨b, off, rfl, hcell⟩ := Go.ints_at hc (by omega)
    refine RdB.mk (World.block_lt_of_cell? w _ (hcell 0 (by omega))) fun j hj => ?_
    have hj' : j < len ∧ j < zs.length := by simp at hj; omega
    rw [hcell j hj'.2]
    simp [List.getD, hj'.1]

/-- 'copy(dst, src)', dst a whole row that the call has made, src of the same length, whatever it is: dst then holds what src held. -/
theorem wpList_copy_all {P : Program} {w : World} {ops : Array Oper} {rest : List Oper} {o : Oper} {a : Act} {Q : Exit → Act → World → Prop} (hgd : o.guard = none) (d s : Operand) (T : TypeId)
    (ho : o.op = .call { callee := .builtin .copy, args := #[d, s], argTypes := #[T, T] }) (elem : TypeId) (hu : P.underlying T = some (.slice elem)) (hsz : (P.info? elem).map (·.size) = some 1)
    (base g n c sCap : Nat) (sp : Option Addr) (hd : a.eval d = .slice (some ⟨g, 0, none⟩) n c) (hs : a.eval s = .slice sp n sCap)
    (cs0 cs : List Value) (hown : w.ownsRow base elem 1 (.slice (some ⟨g, 0, none⟩) n c) n cs0) (hr : Rd w sp cs) (hl : cs.length = n) (h1 : ∀ v ∈ cs, v.oneCell' = true)
    (h : ∀ w', w'.ownsRow base elem 1 (.slice (some ⟨g, 0, none⟩) n c) n cs → w.grownBy w' (some g) → wpList P ops Q rest (a.put o.dst (goInt n)) w') : wpList P ops Q (o :: rest) a w := by
  refine wpList_plain hgd fun K hK => ?_
  rcases hr with rfl | ⟨b, off, rfl, hb, hc⟩
  · have hn : n = 0 := by simpa using hl.symm
    subst hn
    have hrun := run_copy_none (P := P) w T T o.type elem (some ⟨g, 0, none⟩) sp 0 c 0 sCap hu hsz rfl
    unfold Oper.wp
    simp [execOp, ho, resolve, invoke, builtin, hd, hs, hrun, Result.andThen]
    refine hK _ _ (h w ?_ (World.grownBy.refl _ _))
    have e0 : cs0 = [] := List.eq_nil_of_length_eq_zero (by simpa using hown.1)
    rw [← e0]; exact hown
  · rcases hown.2 with ⟨hv, _⟩ | ⟨g', cap', cur, hv, hg, hh, hcap, hm, hsize, htake⟩
    · simp at hv
    · simp only [Value.slice.injEq, Option.some.injEq, Addr.mk.injEq, and_true, true_and] at hv
      obtain ⟨rfl, rfl⟩ := hv
      have hsrc : ∀ j v, cs[j]? = some v → w.cell? ((⟨b, off, none⟩ : Addr).add j) = some v := fun j v hj => by
        rw [Addr.add_lit, hc j (List.getElem?_eq_some_iff.1 hj).1, hj]
      have hrun := run_copy_row (P := P) w T T o.type elem g 0 n c ⟨b, off, none⟩ n sCap cur elem cs hu hsz hh (by simp [hl]) hsrc (by omega) h1
      unfold Oper.wp
      simp [execOp, ho, resolve, invoke, builtin, hd, hs, hrun, Result.andThen, hl]
      refine hK _ _ (h _ ?_ ?_)
      · refine ⟨by simpa using hl, .inr ⟨g, c, _, rfl, hg, setRow_heap w g _ _ _ _ hh, hcap, hm, ?_, ?_⟩⟩
        · simp [hl]; omega
        · simp [← hl]
      · exact ⟨rfl, rfl, rfl, by simp [World.setRow], fun k _ hk => setRow_other w g k _ (by intro e; exact hk (by rw [e]))⟩

theorem ret_val {a b : Value} (h : a = b) : Ending.returned a = .returned b := by rw [h]
theorem ret_int {k : IntKind} {a b : Int} (h : a = b) : Ending.returned (.int k a) = .returned (.int k b) := by rw [h]
theorem ret_bool {a b : Bool} (h : a = b) : Ending.returned (.bool a) = .returned (.bool b) := by rw [h]

theorem take_succ' {α : Type} (zs : List α) (d : α) (k : Nat) (hk : k < zs.length) : zs.take (k + 1) = zs.take k ++ [zs.getD k d] := by
  rw [List.take_add_one, List.getElem?_eq_getElem hk]; simp [List.getD, hk]

end Go.Proofs.Qxb6617306a
