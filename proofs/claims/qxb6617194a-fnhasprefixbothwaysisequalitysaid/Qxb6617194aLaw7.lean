/-
  The walk of FnHasPrefixBothWaysIsEquality (7).
-/
import Derived.Test.Qxb6617194aStrs
import Derived.Deep.DeepCutAuto
namespace Go.Proofs.Qxb6617194a
open Go.RowKit

theorem hp_iff {ps qs : List ByteArray} : hp ps qs = true ↔ qs = ps.take qs.length := by unfold hp; exact decide_eq_true_iff
theorem hp_le {ps qs : List ByteArray} (h : hp ps qs = true) : qs.length ≤ ps.length := by
  have := congrArg List.length (hp_iff.1 h)
  simp at this
  omega
theorem sEq_hp (ps qs : List ByteArray) : sEq ps qs = (hp ps qs && hp qs ps) := by
  cases h1 : hp ps qs
  · refine decide_eq_false fun e => ?_
    subst e
    rw [hp_true (by simp)] at h1
    cases h1
  · cases h2 : hp qs ps
    · refine decide_eq_false fun e => ?_
      subst e
      rw [hp_true (by simp)] at h2
      cases h2
    · refine decide_eq_true ?_
      have e1 := hp_iff.1 h1
      have l1 := hp_le h1
      have l2 := hp_le h2
      rw [e1, List.take_of_length_le (by omega)]
theorem hp_take {ps qs : List ByteArray} (h : hp ps qs = true) (k : Nat) (hk : k ≤ qs.length) : hp ps (qs.take k) = true := by
  refine hp_true ?_
  have e := hp_iff.1 h
  have e2 : (qs.take k).length = k := by simp; omega
  rw [e2]
  conv => lhs; rw [e]
  rw [List.take_take, Nat.min_eq_left hk]
theorem RdS.take {w : World} {a : Option Addr} {ss : List ByteArray} (h : RdS w a ss) (k : Nat) : RdS w a (ss.take k) := by
  rcases h.open with rfl | ⟨b, off, rfl, hb, hc⟩
  · simpa using h
  · refine RdS.mk hb fun j hj => ?_
    have hj' : j < k ∧ j < ss.length := by simp at hj; omega
    rw [hc j hj'.2]
    simp [List.getD, hj'.1]

set_option maxHeartbeats 1600000 in
set_option maxRecDepth 100000 in
theorem law7 (a1 a2 : Option Addr) (cap1 cap2 : Nat) (ps qs : List ByteArray) (k : Int) (w : World) (hr1 : RdS w a1 ps) (hr2 : RdS w a2 qs) (hm1 : ps.length ≤ maxLen) (hm2 : qs.length ≤ maxLen) (hcap2 : qs.length ≤ cap2) :
    Calls Try.prog 7 #[.slice a1 ps.length cap1, .slice a2 qs.length cap2, .int .i64 k] w fun e w' => e = .returned (.bool true) ∧ Below w.heap.size w w' := by
  obtain ⟨i0, hi, hz0, hz1, hz2⟩ := info_parts Try.info9
  have hnn : ∀ (w : World) (a : Option Addr) (n c n' c' : Nat), (binOp .neq 32 (.slice a n c) (.slice none n' c')).run Try.prog w = .ok (.bool (!a.isNone)) w := fun w a n c n' c' => run_neq_slice_nil_any w _ _ a n c n' c' Try.underlying32
  go_enter Try.func7, Try.ntmps7
  go_wp2_with fail
  refine (bytes20 _ _ _ _ _ _ _ ps qs _ rfl rfl hr1 hr2 hm1 hm2).mono ?_
  rintro e w' ⟨rfl, rfl | ⟨rfl, hl1, hl2⟩⟩
  · go_wp2
    go_ret
    exact ⟨rfl, Below.refl _ _⟩
  · clear hm1 hm2
    go_upto_if 18 with fail
    go_cut [0] (fun v wr => ∃ a' cap', v = .slice a' ps.length cap' ∧ RdS wr a' ps ∧ Below w.heap.size w wr)
    case first =>
      cases a1 with
      | none =>
        go_wp2
        go_meet
        case rel => exact ⟨none, cap1, rfl, hr1, Below.refl _ _⟩
      | some x =>
        go_wp2_with (first
          | (at_make; refine wpList_make_full _ rfl _ _ 32 rfl w.heap.size 9 i0 (.string ByteArray.empty) 1 Try.underlying32 hi hz0 hz1 _ _ _ _ ps.length rfl rfl rfl rfl (by rw [hz2]; omega) (by unfold maxLen; omega) (Nat.le_refl _) ?_; intro w1 hown1 hgrow1)
          | (refine wpList_copy_all rfl (.tmp 22) (.tmp 23) 32 rfl 9 Try.underlying32 (by rw [hi]; simp [hz1]) w.heap.size _ _ _ _ _ rfl rfl _ (ps.map Value.string) hown1 (Rd.below hr1 ((Below.refl _ _).grown hgrow1 (Nat.le_refl _) (fun k hk => by cases hk))) (by simp) (strs_oneCell _) ?_; intro w2 hown2 hgrow2))
        go_meet
        case rel =>
          obtain ⟨a', cap', hv, hrd, _⟩ := Rd.owned hown2
          exact ⟨_, _, rfl, by cases hv; exact hrd, ((Below.refl _ _).grown hgrow1 (Nat.le_refl _) (fun k hk => by cases hk)).grown hgrow2 hgrow1.size (fun k hk => by cases hk; exact Nat.le_refl _)⟩
    case rest =>
      obtain ⟨a3, cap3, rfl, hr3, hB3⟩ := hcut
      obtain ⟨w3, rfl⟩ : ∃ w3 : World, w3 = wc := ⟨_, rfl⟩
      have hr4 := hr2.below hB3
      clear hr1 hr2
      go_upto_if 27 with fail
      go_cut [1] (fun v wr => ∃ a' cap', v = .slice a' qs.length cap' ∧ RdS wr a' qs ∧ Below w3.heap.size w3 wr ∧ qs.length ≤ cap' ∧ (a' = none ∨ ∃ b, a' = some ⟨b, 0, none⟩))
      case first =>
        cases a2 with
        | none =>
          go_wp2
          go_meet
          case rel => exact ⟨none, cap2, rfl, hr4, Below.refl _ _, hcap2, .inl rfl⟩
        | some x =>
          go_wp2_with (first
            | (at_make; refine wpList_make_full _ rfl _ _ 32 rfl w3.heap.size 9 i0 (.string ByteArray.empty) 1 Try.underlying32 hi hz0 hz1 _ _ _ _ qs.length rfl rfl rfl rfl (by rw [hz2]; omega) (by unfold maxLen; omega) (Nat.le_refl _) ?_; intro w1 hown1 hgrow1)
            | (refine wpList_copy_all rfl (.tmp 31) (.tmp 32) 32 rfl 9 Try.underlying32 (by rw [hi]; simp [hz1]) w3.heap.size _ _ _ _ _ rfl rfl _ (qs.map Value.string) hown1 (Rd.below hr4 ((Below.refl _ _).grown hgrow1 (Nat.le_refl _) (fun k hk => by cases hk))) (by simp) (strs_oneCell _) ?_; intro w2 hown2 hgrow2))
          go_meet
          case rel =>
            obtain ⟨a', cap', hv, hrd, _⟩ := Rd.owned hown2
            exact ⟨_, _, rfl, by cases hv; exact hrd, ((Below.refl _ _).grown hgrow1 (Nat.le_refl _) (fun k hk => by cases hk)).grown hgrow2 hgrow1.size (fun k hk => by cases hk; exact Nat.le_refl _), Nat.le_refl _, .inr ⟨_, rfl⟩⟩
      case rest =>
        obtain ⟨a4, cap4, rfl, hr5, hB4, hcap4, hsh⟩ := hcut
        have hr6 := hr3.below hB4
        have HB : Hid (Below w.heap.size w wc) := hB3.trans (hB4.mono hB3.size)
        clear hr3 hr4 hB3 hB4 hcap2
        go_wp2_with fail
        refine (strBytes_any _ _ _ _ ps _ rfl hr6 hl1 (by omega) (by omega)).mono ?_
        rintro e w' ⟨r, rfl, hr0, rfl⟩
        by_cases hrb : 1048576 < r
        · go_wp2
          go_ret
          exact ⟨rfl, HB.out⟩
        · go_wp2_with fail
          refine (strBytes_any _ _ _ _ qs _ rfl hr5 hl2 hr0 (by omega)).mono ?_
          rintro e w' ⟨r2, rfl, hr20, rfl⟩
          by_cases hrb2 : 1048576 < r2
          · go_wp2
            go_ret
            exact ⟨rfl, HB.out⟩
          · go_wp2_with fail
            refine (zzhasP_any _ _ _ _ _ _ ps qs _ rfl rfl hr6 hr5 (by omega) (by omega)).mono ?_
            rintro e w' ⟨rfl, rfl⟩
            go_wp2_with fail
            refine (zzhasP_any _ _ _ _ _ _ qs ps _ rfl rfl hr5 hr6 (by omega) (by omega)).mono ?_
            rintro e w' ⟨rfl, rfl⟩
            have HSE : Hid _ := sEq_hp ps qs
            have HT : Hid (hp ps qs = true → ∀ j, j ≤ qs.length → hp ps (qs.take j) = true) := fun h j hj => hp_take h j hj
            have HL1 : Hid (hp ps qs = true → qs.length ≤ ps.length) := hp_le
            have HL2 : Hid (hp qs ps = true → ps.length ≤ qs.length) := hp_le
            cases hpq : hp ps qs
            · cases hqp : hp qs ps
              · go_wp2_with fail
                refine (stringsEqual_any _ _ _ _ ps qs _ hr6 hr5 (by omega) (by omega)).mono ?_
                rintro e w5 ⟨rfl, hB5⟩
                rw [HSE.out, hpq, hqp]
                go_wp2
                go_ret
                exact ⟨rfl, HB.out.trans (hB5.mono HB.out.size)⟩
              · have hl := HL2.out hqp
                go_wp2_with fail
                refine (stringsEqual_any _ _ _ _ ps qs _ hr6 hr5 (by omega) (by omega)).mono ?_
                rintro e w5 ⟨rfl, hB5⟩
                rw [HSE.out, hpq, hqp]
                go_wp2
                go_ret
                exact ⟨rfl, HB.out.trans (hB5.mono HB.out.size)⟩
            · have hl := HL1.out hpq
              have HTT : Hid _ := HT.out hpq
              have hcase : (hp qs ps = false) ∨ (hp qs ps = true ∧ ps.length ≤ qs.length) := by
                cases h : hp qs ps
                · exact .inl rfl
                · exact .inr ⟨rfl, HL2.out h⟩
              clear HT HL1 HL2
              rcases hcase with hqp | ⟨hqp, hl3⟩
              all_goals
                rw [hqp]
                go_wp2_with fail
                refine (stringsEqual_any _ _ _ _ ps qs _ hr6 hr5 (by omega) (by omega)).mono ?_
                rintro e w5 ⟨rfl, hB5⟩
                rw [HSE.out, hpq, hqp]
                have hr7 := hr5.below hB5
                have hr8 := hr6.below hB5
                have HB5 : Hid (Below w.heap.size w w5) := HB.out.trans (hB5.mono HB.out.size)
                clear hqp hpq hB5 hr5 hr6
                by_cases hk0 : 0 ≤ k
                · by_cases hk1 : k ≤ (qs.length : Int)
                  · obtain ⟨j, rfl⟩ : ∃ j : Nat, k = (j : Int) := ⟨k.toNat, by omega⟩
                    have hlj : (qs.take j).length = j := by simp; omega
                    have HLJ : Hid _ := hlj
                    clear hlj
                    rcases hsh with rfl | ⟨b, rfl⟩
                    · go_wp2_with fail
                      refine (zzhasP_any _ _ _ _ _ _ ps (qs.take j) _ rfl HLJ.out hr8 (hr7.take j) (by omega) (by rw [HLJ.out]; omega)).mono ?_
                      rintro e w' ⟨rfl, rfl⟩
                      rw [HTT.out j (by omega)]
                      go_wp2
                      go_ret
                      exact ⟨rfl, HB5.out⟩
                    · go_wp2_with fail
                      refine (zzhasP_any _ _ _ _ _ _ ps (qs.take j) _ rfl HLJ.out hr8 (hr7.take j) (by omega) (by rw [HLJ.out]; omega)).mono ?_
                      rintro e w' ⟨rfl, rfl⟩
                      rw [HTT.out j (by omega)]
                      go_wp2
                      go_ret
                      exact ⟨rfl, HB5.out⟩
                  · go_wp2
                    go_ret
                    exact ⟨rfl, HB5.out⟩
                · go_wp2
                  go_ret
                  exact ⟨rfl, HB5.out⟩

end Go.Proofs.Qxb6617194a
