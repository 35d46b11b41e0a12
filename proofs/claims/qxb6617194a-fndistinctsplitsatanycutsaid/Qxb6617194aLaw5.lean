/-
  The walk of FnDistinctFirstOccurrencesAndIdempotent (5), and what is plain about 'dst' and 'idx'.
-/
import Derived.Test.Qxb6617194aDistinct
import Derived.Test.Qxb6617194aInts
import Derived.Deep.DeepCutAuto
import Derived.Deep.CutBlock
namespace Go.Proofs.Qxb6617194a
open Go.RowKit

theorem addI_in {acc : List Int} {x : Int} (h : x ∈ acc) : addI acc x = acc := by unfold addI; rw [if_pos (by simpa using h)]
theorem addI_out {acc : List Int} {x : Int} (h : x ∉ acc) : addI acc x = acc ++ [x] := by unfold addI; rw [if_neg (by simpa using h)]

theorem mem_fold (x : Int) : ∀ (zs acc : List Int), x ∈ zs.foldl addI acc ↔ x ∈ acc ∨ x ∈ zs
  | [], acc => by simp
  | y :: r, acc => by
    rw [List.foldl_cons, mem_fold x r]
    by_cases h : y ∈ acc
    · rw [addI_in h, List.mem_cons]
      constructor
      · rintro (h1 | h1)
        · exact .inl h1
        · exact .inr (.inr h1)
      · rintro (h1 | rfl | h1)
        · exact .inl h1
        · exact .inl h
        · exact .inr h1
    · rw [addI_out h]; simp [or_assoc]
theorem dst_mem (x : Int) (zs : List Int) : x ∈ dst zs ↔ x ∈ zs := by unfold dst; rw [mem_fold]; simp

theorem nodup_fold : ∀ (zs acc : List Int), acc.Nodup → (zs.foldl addI acc).Nodup
  | [], acc, h => h
  | y :: r, acc, h => by
    rw [List.foldl_cons]
    refine nodup_fold r _ ?_
    by_cases hy : y ∈ acc
    · rw [addI_in hy]; exact h
    · rw [addI_out hy, List.nodup_append]
      exact ⟨h, by simp, fun a ha b hb e => by simp at hb; subst hb; subst e; exact hy ha⟩
theorem dst_nodup (zs : List Int) : (dst zs).Nodup := nodup_fold zs [] (by simp)

theorem fold_nodup : ∀ (zs acc : List Int), (acc ++ zs).Nodup → zs.foldl addI acc = acc ++ zs
  | [], acc, _ => by simp
  | y :: r, acc, h => by
    have hy : y ∉ acc := fun hy => by
      have := (List.nodup_append.1 h).2.2 y hy y (by simp)
      exact this rfl
    rw [List.foldl_cons, addI_out hy, fold_nodup r (acc ++ [y]) (by simpa using h)]; simp
theorem dst_of_nodup {zs : List Int} (h : zs.Nodup) : dst zs = zs := by have := fold_nodup zs [] (by simpa using h); simpa [dst] using this
theorem dst_dst (zs : List Int) : dst (dst zs) = dst zs := dst_of_nodup (dst_nodup zs)

theorem idx_old {a : Int} {pre : List Int} (h : a ∈ pre) (r : List Int) : idx (pre ++ r) a < pre.length := by
  unfold idx
  rw [if_pos (by simp [h]), List.idxOf_append, if_pos h]
  have := List.idxOf_lt_length_iff.2 h
  omega
theorem idx_new {a : Int} {pre : List Int} (h : a ∉ pre) (r : List Int) : idx (pre ++ a :: r) a = pre.length := by
  unfold idx
  rw [if_pos (by simp), List.idxOf_append, if_neg h]
  simp

theorem order_fold : ∀ (zs pre acc : List Int), (∀ a, a ∈ acc ↔ a ∈ pre) → acc.Pairwise (fun a b => idx (pre ++ zs) a < idx (pre ++ zs) b) → (zs.foldl addI acc).Pairwise (fun a b => idx (pre ++ zs) a < idx (pre ++ zs) b)
  | [], pre, acc, _, h => h
  | y :: r, pre, acc, hm, h => by
    rw [List.foldl_cons]
    have e : pre ++ y :: r = (pre ++ [y]) ++ r := by simp
    by_cases hy : y ∈ acc
    · rw [addI_in hy, e]
      refine order_fold r (pre ++ [y]) acc (fun a => ?_) (by rw [← e]; exact h)
      rw [hm a, List.mem_append, List.mem_singleton]
      constructor
      · exact .inl
      · rintro (h1 | rfl)
        · exact h1
        · exact (hm _).1 hy
    · rw [addI_out hy, e]
      refine order_fold r (pre ++ [y]) (acc ++ [y]) (fun a => by rw [List.mem_append, List.mem_append, hm a]) ?_
      rw [← e, List.pairwise_append]
      refine ⟨h, by simp, fun a ha b hb => ?_⟩
      simp only [List.mem_singleton] at hb
      subst hb
      rw [idx_new (fun h' => hy ((hm _).2 h'))]
      exact idx_old ((hm a).1 ha) _
theorem dst_order (zs : List Int) : (dst zs).Pairwise (fun a b => idx zs a < idx zs b) := by
  have := order_fold zs [] [] (fun a => Iff.rfl) (by simp)
  simpa [dst] using this

/-- All that is still to come lies behind L. -/
def ahead (zs : List Int) (k : Nat) (L : Int) : Prop := ∀ j, k ≤ j → j < (dst zs).length → L < idx zs ((dst zs).getD j 0)
theorem getD_mem' {zs : List Int} {k : Nat} (hk : k < zs.length) : zs.getD k 0 ∈ zs := by
  rw [List.getD, List.getElem?_eq_getElem hk]; exact List.getElem_mem hk
theorem idx_pos {zs : List Int} {x : Int} (h : x ∈ zs) : 0 ≤ idx zs x := by unfold idx; rw [if_pos h]; omega
theorem idx_lt {zs : List Int} {x : Int} : idx zs x ≤ zs.length := by
  unfold idx; split
  · rename_i h; have := List.idxOf_lt_length_iff.2 h; omega
  · omega
theorem idx_ge {zs : List Int} {x : Int} : -1 ≤ idx zs x := by
  unfold idx; split <;> omega
theorem ahead_zero (zs : List Int) : ahead zs 0 (-1) := fun j _ hj => by
  have := idx_pos (zs := zs) (x := (dst zs).getD j 0) ((dst_mem _ _).1 (getD_mem' hj)); omega
theorem ahead_succ {zs : List Int} {k : Nat} {x : Int} (hk : k < (dst zs).length) (hx : (dst zs).getD k 0 = x) : ahead zs (k + 1) (idx zs x) := fun j h1 hj => by
  have := List.pairwise_iff_getElem.1 (dst_order zs) k j hk hj (by omega)
  rw [← hx, List.getD, List.getD, List.getElem?_eq_getElem hk, List.getElem?_eq_getElem hj]
  exact this

theorem bytes16 (a : Option Addr) (n cap : Nat) (w : World) : n ≤ 1048576 →
    Calls Try.prog 16 #[.slice a n cap] w fun e w' => e = .returned (.bool true) ∧ w = w' := by
  intro h
  go_enter Try.func16, Try.ntmps16
  go_wp2
  go_ret
  exact ⟨rfl, rfl⟩

theorem bytes16_no (a : Option Addr) (n cap : Nat) (w : World) (h : 1048576 < n) (hm : n ≤ maxLen) :
    Calls Try.prog 16 #[.slice a n cap] w fun e w' => e = .returned (.bool false) ∧ w = w' := by
  unfold maxLen at hm
  go_enter Try.func16, Try.ntmps16
  go_wp2
  go_ret
  exact ⟨rfl, rfl⟩

set_option maxHeartbeats 800000 in
set_option maxRecDepth 100000 in
theorem law5_big (a : Option Addr) (n cap : Nat) (w : World) (h : 4096 < n) (hm : n ≤ maxLen) :
    Calls Try.prog 5 #[.slice a n cap] w fun e w' => e = .returned (.bool true) ∧ Below w.heap.size w w' := by
  by_cases hb : 1048576 < n
  · go_enter Try.func5, Try.ntmps5
    go_wp2_with (go_at_call 16; refine (bytes16_no _ _ _ _ hb hm).mono ?_; rintro e w' ⟨rfl, rfl⟩)
    go_ret
    exact ⟨rfl, Below.refl _ _⟩
  · unfold maxLen at hm
    go_enter Try.func5, Try.ntmps5
    go_wp2_with (go_at_call 16; refine (bytes16 _ _ _ _ (by omega)).mono ?_; rintro e w' ⟨rfl, rfl⟩)
    go_ret
    exact ⟨rfl, Below.refl _ _⟩

set_option maxHeartbeats 1600000 in
set_option maxRecDepth 100000 in
theorem law5_small (a : Option Addr) (cap : Nat) (zs : List Int) (w : World) (hr : RdI w a zs) (hlen : zs.length ≤ 4096) (hwz : ∀ x ∈ zs, (Lit.int .i64 x).wf = true) :
    Calls Try.prog 5 #[.slice a zs.length cap] w fun e w' => e = .returned (.bool true) ∧ Below w.heap.size w w' := by
  have HW : Hid _ := hwz
  clear hwz
  obtain ⟨i0, hi, hz0, hz1, hz2⟩ := info_parts Try.info3
  have hnn : ∀ (w : World) (a : Option Addr) (n c n' c' : Nat), (binOp .neq 22 (.slice a n c) (.slice none n' c')).run Try.prog w = .ok (.bool (!a.isNone)) w := fun w a n c n' c' => run_neq_slice_nil_any w _ _ a n c n' c' Try.underlying22
  go_enter Try.func5, Try.ntmps5
  go_upto_if 16 with (go_at_call 16; refine (bytes16 _ _ _ _ (by omega)).mono ?_; rintro e w' ⟨rfl, rfl⟩)
  go_cut [0] (fun v wr => ∃ a' cap', v = .slice a' zs.length cap' ∧ RdI wr a' zs ∧ Below w.heap.size w wr)
  case first =>
    cases a with
    | none =>
      go_wp2
      go_meet
      case rel => exact ⟨none, cap, rfl, hr, Below.refl _ _⟩
    | some x =>
      go_wp2_with (first
        | (at_make; refine wpList_make_full _ rfl _ _ 22 rfl w.heap.size 3 i0 (.int .i64 0) 1 Try.underlying22 hi hz0 hz1 _ _ _ _ zs.length rfl rfl rfl rfl (by rw [hz2]; omega) (by unfold maxLen; omega) (Nat.le_refl _) ?_; intro w1 hown1 hgrow1)
        | (refine wpList_copy_all rfl (.tmp 20) (.tmp 21) 22 rfl 3 Try.underlying22 (by rw [hi]; simp [hz1]) w.heap.size _ _ _ _ _ rfl rfl _ (zs.map (Value.int .i64)) hown1 (Rd.below hr ((Below.refl _ _).grown hgrow1 (Nat.le_refl _) (fun k hk => by cases hk))) (by simp) (ints_oneCell _ _) ?_; intro w2 hown2 hgrow2))
      go_meet
      case rel =>
        obtain ⟨a', cap', hv, hrd, _⟩ := Rd.owned hown2
        exact ⟨_, _, rfl, by cases hv; exact hrd, ((Below.refl _ _).grown hgrow1 (Nat.le_refl _) (fun k hk => by cases hk)).grown hgrow2 hgrow1.size (fun k hk => by cases hk; exact Nat.le_refl _)⟩
  case rest =>
    obtain ⟨a1, cap1, rfl, hr1, hB1⟩ := hcut
    clear hr
    have hdl := dst_le zs
    have HD : Hid (∀ x ∈ dst zs, (Lit.int .i64 x).wf = true) := fun x hx => HW.out x ((dst_mem x zs).1 hx)
    go_wp2_with fail
    refine (zzdistinct_any _ _ _ zs _ rfl hr1 (by omega) HW.out).mono ?_
    rintro e w2 ⟨a2, cap2, rfl, hr2, hB2⟩
    go_wp2_with fail
    refine (zzdistinct_any _ _ _ (dst zs) _ rfl hr2 (by omega) HD.out).mono ?_
    rintro e w3 ⟨a3, cap3, rfl, hr3, hB3⟩
    rw [dst_dst] at hr3 ⊢
    go_wp2_with fail
    refine (intsEqual_same _ _ _ _ _ _ (dst zs) _ rfl rfl hr3 (hr2.below hB3) (by omega)).mono ?_
    rintro e w4 ⟨rfl, hB4⟩
    have hr24 : RdI w4 a2 (dst zs) := (hr2.below hB3).below hB4
    have hr14 : RdI w4 a1 zs := ((hr1.below hB2).below hB3).below hB4
    have HB : Hid (Below w.heap.size w w4) := ((hB1.trans (hB2.mono hB1.size)).trans (hB3.mono (Nat.le_trans hB1.size hB2.size))).trans (hB4.mono (Nat.le_trans (Nat.le_trans hB1.size hB2.size) hB3.size))
    have HR2 : Hid _ := hr24
    have HR1 : Hid _ := hr14
    have HO2 : Hid _ := hr24.open
    have HO1 : Hid _ := hr14.open
    clear hr24 hr14 hr1 hr2 hr3 hB1 hB2 hB3 hB4
    go_wp2_with fail
    go_loop [5, 6] (fun l i => ∃ (k : Nat) (L : Int), k ≤ (dst zs).length ∧ l = .int .i64 L ∧ i = .int .i64 k ∧ Hid (ahead zs k L)) (fun _ i => (dst zs).length - (intOf i).toNat)
    case atStart => exact ⟨0, -1, Nat.zero_le _, rfl, rfl, ahead_zero zs⟩
    case round =>
      obtain ⟨k, L, hk, rfl, rfl, hah⟩ := hrel
      by_cases hlt : k < (dst zs).length
      · rcases HO2.out with h0 | ⟨b, off, rfl, hb, hc⟩
        · simp [h0] at hlt
        · obtain ⟨x, hx⟩ : ∃ x, (dst zs).getD k 0 = x := ⟨_, rfl⟩
          have hcx : w4.cell? ⟨b, off + k, none⟩ = some (.int .i64 x) := by rw [← hx]; exact hc k hlt
          have hL : L < idx zs x := by rw [← hx]; exact hah.out k (Nat.le_refl _) hlt
          have HX : Hid _ := hx
          clear hc hx HO1 HO2 hah
          go_wp2_with (go_at_call 18; refine (index_any _ _ _ zs _ _ rfl HR1.out (by omega)).mono ?_; rintro e w' ⟨rfl, rfl⟩)
          go_round
          case rel => exact ⟨k + 1, _, by omega, rfl, by go_num, ahead_succ hlt HX.out⟩
          case measure => simp [intOf]; omega
      · obtain rfl : k = (dst zs).length := by omega
        clear hk hlt hah
        go_wp2_with fail
        go_loop [8] (fun i => ∃ k : Nat, k ≤ zs.length ∧ i = .int .i64 k) (fun i => zs.length - (intOf i).toNat)
        case atStart => exact ⟨0, Nat.zero_le _, rfl⟩
        case round =>
          obtain ⟨k, hk, rfl⟩ := hrel
          by_cases hlt : k < zs.length
          · rcases HO1.out with h0 | ⟨b, off, rfl, hb, hc⟩
            · simp [h0] at hlt
            · obtain ⟨x, hx⟩ : ∃ x, zs.getD k 0 = x := ⟨_, rfl⟩
              have hcx : w4.cell? ⟨b, off + k, none⟩ = some (.int .i64 x) := by rw [← hx]; exact hc k hlt
              have hL : 0 ≤ idx (dst zs) x := idx_pos ((dst_mem x zs).2 (hx ▸ getD_mem' hlt))
              clear hc hx HO1 HO2
              go_wp2_with (go_at_call 18; refine (index_any _ _ _ (dst zs) _ _ rfl HR2.out (by omega)).mono ?_; rintro e w' ⟨rfl, rfl⟩)
              go_round
              case rel => exact ⟨k + 1, by omega, by go_num⟩
              case measure => simp [intOf]; omega
          · go_wp2
            go_ret
            exact ⟨rfl, HB.out⟩

end Go.Proofs.Qxb6617194a
