/-
  The walk of FnHasPrefixOfEveryJoin (8).
-/
import Derived.Test.Qxb6617194aStrs
import Derived.Deep.DeepCutAuto
namespace Go.Proofs.Qxb6617194a
open Go.RowKit

theorem hp_app (ps qs : List ByteArray) : hp (ps ++ qs) ps = true := hp_true (by simp)
theorem hp_self (ps : List ByteArray) : hp ps ps = true := hp_true (by simp)
theorem hp_back (ps qs : List ByteArray) : hp ps (ps ++ qs) = ((qs.length : Int) == 0) := by
  by_cases h : qs.length = 0
  · have h0 : qs = [] := List.eq_nil_of_length_eq_zero h
    subst h0
    rw [List.append_nil, hp_self]; rfl
  · rw [hp_long (by simp; omega)]
    have h2 : ¬ qs = [] := fun e => h (by rw [e]; rfl)
    simp [h2]

set_option maxHeartbeats 1600000 in
set_option maxRecDepth 100000 in
theorem law8 (a1 a2 : Option Addr) (cap1 cap2 : Nat) (ps qs : List ByteArray) (w : World) (hr1 : RdS w a1 ps) (hr2 : RdS w a2 qs) (hm1 : ps.length ≤ maxLen) (hm2 : qs.length ≤ maxLen) :
    Calls Try.prog 8 #[.slice a1 ps.length cap1, .slice a2 qs.length cap2] w fun e w' => e = .returned (.bool true) ∧ Below w.heap.size w w' := by
  obtain ⟨i0, hi, hz0, hz1, hz2⟩ := info_parts Try.info9
  have hnn : ∀ (w : World) (a : Option Addr) (n c n' c' : Nat), (binOp .neq 32 (.slice a n c) (.slice none n' c')).run Try.prog w = .ok (.bool (!a.isNone)) w := fun w a n c n' c' => run_neq_slice_nil_any w _ _ a n c n' c' Try.underlying32
  go_enter Try.func8, Try.ntmps8
  go_wp2_with fail
  refine (bytes24 _ _ _ _ _ _ ps qs _ rfl rfl hr1 hr2 hm1 hm2).mono ?_
  rintro e w' ⟨rfl, rfl | ⟨rfl, hl1, hl2⟩⟩
  · go_wp2
    go_ret
    exact ⟨rfl, Below.refl _ _⟩
  · clear hm1 hm2
    go_upto_if 13 with fail
    go_cut [0] (fun v wr => ∃ a' cap', v = .slice a' ps.length cap' ∧ RdS wr a' ps ∧ Below w.heap.size w wr)
    case first =>
      cases a1 with
      | none =>
        go_wp2
        go_meet
        case rel => exact ⟨none, cap1, rfl, hr1, Below.refl _ _⟩
      | some x =>
        go_wp2_with (first
          | (at_make; refine wpList_make_full _ rfl _ _ 32 rfl w.heap.size 9 i0 (.string ByteArray.empty) 1 Try.underlying32 hi hz0 hz1 _ _ _ _ ps.length rfl rfl rfl rfl (by rw [hz2]; omega) (by unfold maxLen; omega) (Nat.le_refl _) ?_; intro w1 hown1 hgrow1)
          | (refine wpList_copy_all rfl (.tmp 17) (.tmp 18) 32 rfl 9 Try.underlying32 (by rw [hi]; simp [hz1]) w.heap.size _ _ _ _ _ rfl rfl _ (ps.map Value.string) hown1 (Rd.below hr1 ((Below.refl _ _).grown hgrow1 (Nat.le_refl _) (fun k hk => by cases hk))) (by simp) (strs_oneCell _) ?_; intro w2 hown2 hgrow2))
        go_meet
        case rel =>
          obtain ⟨a', cap', hv, hrd, _⟩ := Rd.owned hown2
          exact ⟨_, _, rfl, by cases hv; exact hrd, ((Below.refl _ _).grown hgrow1 (Nat.le_refl _) (fun k hk => by cases hk)).grown hgrow2 hgrow1.size (fun k hk => by cases hk; exact Nat.le_refl _)⟩
    case rest =>
      obtain ⟨a3, cap3, rfl, hr3, hB3⟩ := hcut
      have hr4 := hr2.below hB3
      clear hr1 hr2
      go_wp2_with fail
      refine (strBytes_any _ _ _ _ ps _ rfl hr3 hl1 (by omega) (by omega)).mono ?_
      rintro e w' ⟨r, rfl, hr0, rfl⟩
      by_cases hrb : 1048576 < r
      · go_wp2
        go_ret
        exact ⟨rfl, hB3⟩
      · go_wp2_with fail
        refine (strBytes_any _ _ _ _ qs _ rfl hr4 hl2 hr0 (by omega)).mono ?_
        rintro e w' ⟨r2, rfl, hr20, rfl⟩
        by_cases hrb2 : 1048576 < r2
        · go_wp2
          go_ret
          exact ⟨rfl, hB3⟩
        · go_wp2_with fail
          refine (joinS_any _ _ _ _ _ _ ps qs _ rfl rfl hr3 hr4 hl1 hl2).mono ?_
          rintro e w5 ⟨a5, cap5, rfl, hr5, hB5⟩
          have hr6 := hr3.below hB5
          have HB : Hid (Below w.heap.size w w5) := hB3.trans (hB5.mono hB3.size)
          obtain ⟨xs, hxs⟩ : ∃ xs, ps ++ qs = xs := ⟨_, rfl⟩
          have hxl : xs.length ≤ 2097152 := by rw [← hxs]; simp; omega
          have HP1 : Hid (hp xs ps = true) := by rw [← hxs]; exact hp_app ps qs
          have HP2 : Hid (hp xs xs = true) := hp_self xs
          have HP3 : Hid (hp ps xs = ((qs.length : Int) == 0)) := by rw [← hxs]; exact hp_back ps qs
          rw [hxs] at hr5 ⊢
          clear hxs hr3 hr4 hB3 hB5
          go_wp2_with fail
          refine (zzhasP_any _ _ _ _ _ _ xs ps _ rfl rfl hr5 hr6 (by omega) (by omega)).mono ?_
          rintro e w' ⟨rfl, rfl⟩
          rw [HP1.out]
          go_wp2_with fail
          refine (zzhasP_any _ _ _ _ _ _ xs xs _ rfl rfl hr5 hr5 (by omega) (by omega)).mono ?_
          rintro e w' ⟨rfl, rfl⟩
          rw [HP2.out]
          go_wp2_with fail
          refine (zzhasP_any _ _ _ _ _ _ ps xs _ rfl rfl hr6 hr5 (by omega) (by omega)).mono ?_
          rintro e w' ⟨rfl, rfl⟩
          rw [HP3.out]
          go_wp2
          go_ret
          exact ⟨rfl, HB.out⟩

end Go.Proofs.Qxb6617194a
