/-
  'distinct' (27) and 'ZZdistinct' (17): each number once, at its first place.
-/
import Derived.Test.Qxb6617194aKit
import Derived.Maps.OwnSet
namespace Go.Proofs.Qxb6617194a
open Go.RowKit Go.Maps

/-- One number more. -/
def addI (acc : List Int) (x : Int) : List Int := if acc.contains x then acc else acc ++ [x]
/-- Each number once. -/
def dst (zs : List Int) : List Int := zs.foldl addI []

theorem dst_succ (zs : List Int) (k : Nat) (hk : k < zs.length) : dst (zs.take (k + 1)) = addI (dst (zs.take k)) (zs.getD k 0) := by
  rw [take_succ' zs 0 k hk]; unfold dst; rw [List.foldl_append]; rfl
theorem dst_snoc (zs : List Int) (x : Int) : dst (zs ++ [x]) = addI (dst zs) x := by unfold dst; rw [List.foldl_append]; rfl
theorem addI_le (acc : List Int) (x : Int) : (addI acc x).length ≤ acc.length + 1 := by unfold addI; split <;> simp
theorem fold_le : ∀ (zs acc : List Int), (zs.foldl addI acc).length ≤ acc.length + zs.length
  | [], acc => by simp
  | x :: r, acc => by
    have h1 := fold_le r (addI acc x)
    have h2 := addI_le acc x
    simp only [List.foldl_cons, List.length_cons]; omega
theorem dst_le (zs : List Int) : (dst zs).length ≤ zs.length := by have := fold_le zs []; simpa [dst] using this
theorem dst_take_le (zs : List Int) (k : Nat) : (dst (zs.take k)).length ≤ k := Nat.le_trans (dst_le _) (List.length_take_le _ _)

/-- The set that holds just these numbers. -/
def keysOf (acc : List Int) : DataW Unit := setOf (.lit (.bool true)) (acc.map (Lit.int .i64))

/-- How an element of the map reads. -/
def boolElem (v : Value) : Option (DataW Unit × List MemPlace) :=
  match v with
  | .bool x => some (.lit (.bool x), [])
  | _ => none

theorem boolElem_inv {v : Value} {z : DataW Unit × List MemPlace} (h : boolElem v = some z) : ∃ x, v = .bool x ∧ z = (.lit (.bool x), []) := by
  unfold boolElem at h
  split at h
  · exact ⟨_, rfl, (Option.some.inj h).symm⟩
  · cases h

theorem atKey_miss (u z : DataW Unit) (k : Lit) : ∀ (acc : List Lit) (m : DataW Unit), k ∉ acc → (acc.foldl (fun m x => m.put x u) m).atKey k z = m.atKey k z
  | [], m, _ => rfl
  | x :: r, m, h => by
    simp only [List.mem_cons, not_or] at h
    rw [List.foldl_cons, atKey_miss u z k r (m.put x u) h.2, atKey_put_other (D := m) (k := x) (k' := k) h.1]

theorem atKey_hit (u z : DataW Unit) (k : Lit) : ∀ (acc : List Lit) (m : DataW Unit), IsMap m → (∀ x ∈ acc, WideAt.IsKeyLit x) → (k ∈ acc ∨ m.atKey k z = u) → (acc.foldl (fun m x => m.put x u) m).atKey k z = u
  | [], m, _, _, h => by simpa using h
  | x :: r, m, hm, hk, h => by
    rw [List.foldl_cons]
    refine atKey_hit u z k r (m.put x u) (hm.put x u) (fun y hy => hk y (List.mem_cons_of_mem _ hy)) ?_
    by_cases h2 : k = x
    · subst h2; exact .inr (atKey_put_same hm (hk k (by simp)) u z)
    · rcases h with h | h
      · rcases List.mem_cons.1 h with h | h
        · exact absurd h h2
        · exact .inl h
      · exact .inr (by rw [atKey_put_other (D := m) (k := x) (k' := k) h2]; exact h)

theorem atKey_keysOf (acc : List Int) (x : Int) : (keysOf acc).atKey (.int .i64 x) (.lit (.bool false)) = .lit (.bool (acc.contains x)) := by
  unfold keysOf setOf
  by_cases h : x ∈ acc
  · have e : acc.contains x = true := by simpa using h
    rw [e]
    exact atKey_hit _ _ _ _ _ isMap_empty (fun y hy => by obtain ⟨_, _, rfl⟩ := List.mem_map.1 hy; trivial) (.inl (List.mem_map.2 ⟨x, h, rfl⟩))
  · have e : acc.contains x = false := by simpa using h
    rw [e, atKey_miss _ _ _ _ _ (fun h' => by obtain ⟨y, hy, e⟩ := List.mem_map.1 h'; cases e; exact h hy)]
    rfl

/-- 'm[k]' at elements that are bools: what stands there is given ahead. -/
theorem wpList_lookup_bool {P : Program} (w : World) {ops : Array Oper} {rest : List Oper} {o : Oper} {a : Act} {Q : Exit → Act → World → Prop}
    (hg : o.guard = none) (m x : Operand) (t : TypeId) (hop : o.op = Op.lookup t m x false)
    (k e : TypeId) (K : Keyed P k) (ht : P.underlying t = some (.map k e)) (hz : (zeroValue e).run P w = .ok (.bool false) w) (b n : Nat) (D : DataW Unit)
    (hm : a.eval m = .map (some b)) (hown : w.ownsMap P k boolElem b n D) (key : Value) (kl : Lit) (hx : a.eval x = key) (hkey : keyOf P k key = some kl)
    (c : Bool) (hat : D.atKey kl (.lit (.bool false)) = .lit (.bool c))
    (hK : wpList P ops Q rest (a.put o.dst (.bool c)) w) :
    wpList P ops Q (o :: rest) a w := by
  refine wpList_plain hg fun K' hK' => ?_
  obtain ⟨v, ps, hrun, hv⟩ := hown.lookup K ht hz (zd := .lit (.bool false)) (zp := []) rfl hkey
  obtain ⟨c', rfl, hc⟩ := boolElem_inv hv
  rw [hat] at hc
  simp only [Prod.mk.injEq, DataW.lit.injEq, Lit.bool.injEq] at hc
  obtain ⟨rfl, _⟩ := hc
  unfold Oper.wp
  simp [execOp, hop, hm, hx, hrun, Result.andThen]
  exact hK' _ _ hK

theorem law3 : Keyed Try.prog 3 := int_keyed Try.underlying3
theorem zero4 (w : World) : (zeroValue 4).run Try.prog w = .ok (.bool false) w := by kernel_rfl

theorem row_ne {w : World} {base : Nat} {e : TypeId} {size : Nat} {v : Value} {n : Nat} {xs : List Value} (h : w.ownsRow base e size v n xs) {b : Nat} (hb : b < base) : some b ≠ v.ownBlock := fun e1 => by
  have := (h.lt b e1.symm).1
  omega

set_option maxHeartbeats 1600000 in
set_option maxRecDepth 100000 in
theorem distinct_any (a : Option Addr) (cap : Nat) (zs : List Int) (w : World) (hr : RdI w a zs) (hlen : zs.length ≤ 1048576) (hwz : ∀ x ∈ zs, (Lit.int .i64 x).wf = true) :
    Calls Try.prog 27 #[.slice a zs.length cap] w fun e w' => ∃ a' cap', e = .returned (.slice a' (dst zs).length cap') ∧ RdI w' a' (dst zs) ∧ Below w.heap.size w w' := by
  have hmm := @run_makeMap Try.prog
  obtain ⟨i0, hi, hz0, hz1, hz2⟩ := info_parts Try.info3
  have HO : Hid _ := hr.open
  have HW : Hid _ := hwz
  clear hr hwz
  go_enter Try.func27, Try.ntmps27
  go_wp2
  go_loopw [3, 10] (fun v i wr => ∃ k : Nat, k ≤ zs.length ∧ i = .int .i64 k ∧ wr.ownsMap Try.prog 3 boolElem w.heap.size k (keysOf (dst (zs.take k))) ∧ wr.ownsRow (w.heap.size + 1) 3 1 v (dst (zs.take k)).length ((dst (zs.take k)).map (Value.int .i64)) ∧
      Below w.heap.size w wr ∧ w.heap.size + 1 ≤ wr.heap.size) (fun _ i _ => zs.length - (intOf i).toNat)
  case atStart => exact ⟨0, Nat.zero_le _, rfl, World.ownsMap_made _ _ _ _, World.ownsRow_nil _ _ _ _, (Below.refl _ _).alloc (Nat.le_refl _) _, by simp⟩
  case round =>
    obtain ⟨k, hk, rfl, hown, hrow, hnx, hws⟩ := hrel
    have hal := dst_take_le zs k
    by_cases hlt : k < zs.length
    · rcases HO.out with h0 | ⟨b, off, rfl, hb, hc⟩
      · simp [h0] at hlt
      · have hsu := dst_succ zs k hlt
        obtain ⟨x, hx⟩ : ∃ x, zs.getD k 0 = x := ⟨_, rfl⟩
        have hcx : wr.cell? ⟨b, off + k, none⟩ = some (.int .i64 x) := by rw [← hx]; exact (hnx.cell hb).trans (hc k hlt)
        have hwx : (Lit.int .i64 x).wf = true := HW.out x (by rw [← hx, List.getD, List.getElem?_eq_getElem hlt]; exact List.getElem_mem hlt)
        have hkey : keyOf Try.prog 3 (.int .i64 x) = some (.int .i64 x) := keyOf_int_mk Try.underlying3 hwx
        have hat := atKey_keysOf (dst (zs.take k)) x
        rw [hx] at hsu
        have HSU : Hid _ := hsu
        clear HO hc hx hsu hwx
        by_cases hin : (dst (zs.take k)).contains x = true
        · rw [hin] at hat
          have HAT : Hid _ := hat
          have HIN : Hid _ := hin
          have HKY : Hid _ := hkey
          clear hat hin hkey
          go_wp2_with (at_lookup; refine wpList_lookup_bool _ rfl _ _ 37 rfl 3 4 law3 Try.underlying37 (zero4 _) w.heap.size k _ rfl hown _ _ rfl HKY.out true HAT.out ?_)
          have hd : dst (zs.take (k + 1)) = dst (zs.take k) := by rw [HSU.out]; unfold addI; rw [if_pos HIN.out]
          go_roundw
          case rel => exact ⟨k + 1, by omega, by go_num, by rw [hd]; exact hown.mono (Nat.le_succ _), by rw [hd]; exact hrow, hnx, hws⟩
          case measure => simp [intOf]; omega
        · have hin' : (dst (zs.take k)).contains x = false := by simpa using hin
          rw [hin'] at hat
          have HAT : Hid _ := hat
          have HIN : Hid _ := hin'
          have HKY : Hid _ := hkey
          clear hat hin hin' hkey
          go_wp2_with (first
            | (at_lookup; refine wpList_lookup_bool _ rfl _ _ 37 rfl 3 4 law3 Try.underlying37 (zero4 _) w.heap.size k _ rfl hown _ _ rfl HKY.out false HAT.out ?_)
            | (at_mapUpdate; refine wpList_mapUpdate_own _ rfl _ _ _ 37 rfl 3 4 law3 Try.underlying37 boolElem w.heap.size k _ rfl hown (by unfold maxLen; omega) _ _ _ rfl rfl HKY.out (.lit (.bool true)) [] rfl ?_; intro w1 hown1 hgrow1)
            | (at_builtin; refine wpList_append_own _ rfl _ _ 22 rfl (w.heap.size + 1) 3 i0 (.int .i64 0) 1 8 Try.underlying22 hi hz0 hz1 hz2 rfl (by decide) _ _ _ rfl ((hrow.kept hgrow1 (Or.inr (row_ne hrow (Nat.lt_succ_self _)).symm)).alloc _) ⟨w1.heap.size, 0, none⟩ 1 1 [.int .i64 x] rfl rfl (cell_one_new _ _ _) (ints_oneCell .i64 [x]) (by unfold maxLen; omega) (by omega) (by have := hgrow1.size; simp at this ⊢; omega) ?_; intro v' w2 hown' hgrow2 hnil2))
          have hd : dst (zs.take (k + 1)) = dst (zs.take k) ++ [x] := by rw [HSU.out]; unfold addI; rw [if_neg (by rw [HIN.out]; exact Bool.false_ne_true)]
          have hr1 := hrow.kept hgrow1 (Or.inr (row_ne hrow (Nat.lt_succ_self _)).symm)
          have s1 := hgrow1.size
          have s2 := hgrow2.size
          simp at s1 s2
          go_roundw
          case rel =>
            refine ⟨k + 1, by omega, by go_num, ?_, ?_, ?_, by omega⟩
            · rw [hd]
              unfold keysOf
              rw [List.map_append, List.map_singleton, setOf_snoc]
              exact (hown1.alloc _).kept hgrow2 (row_ne hr1 (Nat.lt_succ_self _))
            · rw [hd]
              simpa using hown'
            · exact ((hnx.grown hgrow1 hnx.size (fun j hj => by cases hj; exact Nat.le_refl _)).alloc (by omega) _).grown hgrow2 (by simp; omega) (fun j hj => Nat.le_trans (Nat.le_succ _) (hr1.lt j hj).1)
          case measure => simp [intOf]; omega
    · go_wp2
      obtain rfl : k = zs.length := by omega
      rw [List.take_length] at hrow
      obtain ⟨a', cap', rfl, hrd, hl⟩ := Rd.owned hrow
      go_ret
      exact ⟨a', cap', rfl, hrd, hnx⟩

theorem zzdistinct_any (a : Option Addr) (n cap : Nat) (zs : List Int) (w : World) (hn : zs.length = n) (hr : RdI w a zs) (hlen : n ≤ 1048576) (hwz : ∀ x ∈ zs, (Lit.int .i64 x).wf = true) :
    Calls Try.prog 17 #[.slice a n cap] w fun e w' => ∃ a' cap', e = .returned (.slice a' (dst zs).length cap') ∧ RdI w' a' (dst zs) ∧ Below w.heap.size w w' := by
  subst hn
  go_enter Try.func17, Try.ntmps17
  go_wp2_with fail
  refine (distinct_any _ _ _ _ hr hlen hwz).mono ?_
  rintro e w' ⟨a', cap', rfl, h1, h2⟩
  go_wp2
  go_ret
  exact ⟨a', cap', rfl, h1, h2⟩

end Go.Proofs.Qxb6617194a
