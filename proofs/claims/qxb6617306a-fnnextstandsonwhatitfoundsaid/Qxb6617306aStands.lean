/-
  The walk of FnNextStandsOnWhatItFound (5).
-/
import Derived.Test.Qxb6617306aNext
import Derived.Deep.DeepCutAuto
namespace Go.Proofs.Qxb6617306a
open Go.RowKit

theorem bytes17 (a : Option Addr) (n cap : Nat) (f : Int) (w : World) : n ≤ 1048576 →
    Calls Try.prog 17 #[.slice a n cap, .int .i64 f] w fun e w' => e = .returned (.bool true) ∧ w = w' := by
  intro h
  go_enter Try.func17, Try.ntmps17
  go_wp2
  go_ret
  exact ⟨rfl, rfl⟩

theorem bytes17_no (a : Option Addr) (n cap : Nat) (f : Int) (w : World) (h : 1048576 < n) (hm : n ≤ maxLen) :
    Calls Try.prog 17 #[.slice a n cap, .int .i64 f] w fun e w' => e = .returned (.bool false) ∧ w = w' := by
  unfold maxLen at hm
  go_enter Try.func17, Try.ntmps17
  go_wp2
  go_ret
  exact ⟨rfl, rfl⟩

set_option maxHeartbeats 800000 in
set_option maxRecDepth 100000 in
theorem stands_big (a : Option Addr) (n cap : Nat) (f : Int) (w : World) (h : 1048576 < n) (hm : n ≤ maxLen) :
    Calls Try.prog 5 #[.slice a n cap, .int .i64 f] w fun e w' => e = .returned (.bool true) ∧ Below w.heap.size w w' := by
  go_enter Try.func5, Try.ntmps5
  go_wp2_with (go_at_call 17; refine (bytes17_no _ _ _ _ _ h hm).mono ?_; rintro e w' ⟨rfl, rfl⟩)
  go_ret
  exact ⟨rfl, Below.refl _ _⟩

set_option maxHeartbeats 800000 in
set_option maxRecDepth 100000 in
theorem stands_out (a : Option Addr) (n cap : Nat) (f : Int) (w : World) (h : n ≤ 1048576) (hf : f < 0 ∨ (n : Int) < f) :
    Calls Try.prog 5 #[.slice a n cap, .int .i64 f] w fun e w' => e = .returned (.bool true) ∧ Below w.heap.size w w' := by
  by_cases h1 : f < 0
  · go_enter Try.func5, Try.ntmps5
    go_wp2_with (go_at_call 17; refine (bytes17 _ _ _ _ _ h).mono ?_; rintro e w' ⟨rfl, rfl⟩)
    go_ret
    exact ⟨rfl, Below.refl _ _⟩
  · have h2 : (n : Int) < f := by omega
    clear hf
    have hd : decide (f < 0) = false := by simpa using h1
    go_enter Try.func5, Try.ntmps5
    go_wp2_with (go_at_call 17; refine (bytes17 _ _ _ _ _ h).mono ?_; rintro e w' ⟨rfl, rfl⟩)
    go_ret
    exact ⟨rfl, Below.refl _ _⟩

set_option maxHeartbeats 1600000 in
set_option maxRecDepth 100000 in
theorem stands_in (a : Option Addr) (cap : Nat) (zs : List Int) (A : Nat) (w : World) (hr : RdB w a zs) (hlen : zs.length ≤ 1048576) (hA : A ≤ zs.length) :
    Calls Try.prog 5 #[.slice a zs.length cap, .int .i64 A] w fun e w' => e = .returned (.bool true) ∧ Below w.heap.size w w' := by
  obtain ⟨i0, hi, hz0, hz1, hz2⟩ := info_parts Try.info5
  have hnn : ∀ (w : World) (a : Option Addr) (n c n' c' : Nat), (binOp .neq 22 (.slice a n c) (.slice none n' c')).run Try.prog w = .ok (.bool (!a.isNone)) w := fun w a n c n' c' => run_neq_slice_nil_any w _ _ a n c n' c' Try.underlying22
  have hA0 : (0 : Int) ≤ (A : Int) := by omega
  have hA1 : (A : Int) ≤ (zs.length : Int) := by omega
  cases hv : vA zs A
  · have HV : Hid _ := hv
    clear hv
    go_enter Try.func5, Try.ntmps5
    go_wp2_with (go_at_call 17; refine (bytes17 _ _ _ _ _ hlen).mono ?_; rintro e w' ⟨rfl, rfl⟩)
    refine (ahead_any _ _ _ zs A _ rfl hr hA hlen).mono ?_
    rintro e w' ⟨rfl, rfl⟩
    rw [HV.out]
    go_wp2
    go_ret
    exact ⟨rfl, Below.refl _ _⟩
  · have HV : Hid _ := hv
    have HH : Hid (HasV zs A) := vA_has hv
    clear hv
    go_enter Try.func5, Try.ntmps5
    go_wp2_with (go_at_call 17; refine (bytes17 _ _ _ _ _ hlen).mono ?_; rintro e w' ⟨rfl, rfl⟩)
    refine (ahead_any _ _ _ zs A _ rfl hr hA hlen).mono ?_
    rintro e w' ⟨rfl, rfl⟩
    rw [HV.out]
    go_upto_if 30 with fail
    go_cut [0] (fun v wr => ∃ a' cap', v = .slice a' zs.length cap' ∧ RdB wr a' zs ∧ Below w.heap.size w wr)
    case first =>
      cases a with
      | none =>
        go_wp2
        go_meet
        case rel => exact ⟨none, cap, rfl, hr, Below.refl _ _⟩
      | some x =>
        go_wp2_with (first
          | (at_make; refine wpList_make_full _ rfl _ _ 22 rfl w.heap.size 5 i0 (.int .u8 0) 1 Try.underlying22 hi hz0 hz1 _ _ _ _ zs.length rfl rfl rfl rfl (by rw [hz2]; omega) (by unfold maxLen; omega) (Nat.le_refl _) ?_; intro w1 hown1 hgrow1)
          | (refine wpList_copy_all rfl (.tmp 34) (.tmp 35) 22 rfl 5 Try.underlying22 (by rw [hi]; simp [hz1]) w.heap.size _ _ _ _ _ rfl rfl _ (zs.map (Value.int .u8)) hown1 (Rd.below hr ((Below.refl _ _).grown hgrow1 (Nat.le_refl _) (fun k hk => by cases hk))) (by simp) (ints_oneCell _ _) ?_; intro w2 hown2 hgrow2))
        go_meet
        case rel =>
          obtain ⟨a', cap', hv, hrd, _⟩ := Rd.owned hown2
          exact ⟨_, _, rfl, by cases hv; exact hrd, ((Below.refl _ _).grown hgrow1 (Nat.le_refl _) (fun k hk => by cases hk)).grown hgrow2 hgrow1.size (fun k hk => by cases hk; exact Nat.le_refl _)⟩
    case rest =>
      obtain ⟨a3, cap3, rfl, hr3, hB3⟩ := hcut
      have hN := nxt_all HH.out
      obtain ⟨P, hP⟩ : ∃ P, nxt zs A = P := ⟨_, rfl⟩
      rw [hP] at hN
      obtain ⟨hAP, hPn, hPw, hPv⟩ := hN
      obtain ⟨c, hc⟩ : ∃ c, zs.getD P 0 = c := ⟨_, rfl⟩
      rw [hc] at hPw
      have HPV : Hid (HasV zs P) := hPv
      have HPW : Hid (isW c = false) := hPw
      have HP : Hid (nxt zs A = P) := hP
      have HCC : Hid (zs.getD P 0 = c) := hc
      have hAPi : (A : Int) ≤ (P : Int) := by omega
      have hPni : (P : Int) < (zs.length : Int) := by omega
      clear hr hPv hPw hP hc
      go_wp2_with fail
      refine (zznext_any _ _ _ zs A _ rfl hr3 HH.out (by omega)).mono ?_
      rintro e w4 ⟨rfl, hB4⟩
      rw [HP.out, HCC.out]
      have hr4 := hr3.below hB4
      have HR4 : Hid (RdB w4 a3 zs) := hr4
      have HB4 : Hid (Below w.heap.size w w4) := hB3.trans (hB4.mono hB3.size)
      rcases hr4.open with h0 | ⟨b, off, rfl, hb, hcell⟩
      · simp [h0] at hPn
      · have hcP : w4.cell? ⟨b, off + P, none⟩ = some (.int .u8 c) := by rw [← HCC.out]; exact hcell P hPn
        have HCELL : Hid (∀ j, j < zs.length → w4.cell? ⟨b, off + j, none⟩ = some (.int .u8 (zs.getD j 0))) := hcell
        clear hr3 hr4 hB3 hB4 hcell
        cases h4 : (c == 44)
        · have E : Hid (nxt zs P = P) := nxt_still hPn (by rw [HCC.out]; exact HPW.out) (by rw [HCC.out]; simpa using h4)
          go_wp2_with fail
          refine (zznext_any _ _ _ zs P _ rfl HR4.out HPV.out (by omega)).mono ?_
          rintro e w5 ⟨rfl, hB5⟩
          rw [E.out, HCC.out]
          go_wp2
          go_ret
          exact ⟨rfl, HB4.out.trans (hB5.mono HB4.out.size)⟩
        · have hc44 : zs.getD P 0 = 44 := by rw [HCC.out]; simpa using h4
          have hM := nxt_moves hPn hc44
          have hN2 := nxt_all HPV.out
          obtain ⟨P2, hP2⟩ : ∃ P2, nxt zs P = P2 := ⟨_, rfl⟩
          rw [hP2] at hM hN2
          obtain ⟨-, hP2n, -, -⟩ := hN2
          obtain ⟨d, hd⟩ : ∃ d, zs.getD P2 0 = d := ⟨_, rfl⟩
          have E : Hid (nxt zs P = P2) := hP2
          have HD : Hid (zs.getD P2 0 = d) := hd
          have hMi : (P : Int) < (P2 : Int) := by omega
          have hP2i : (P2 : Int) < (zs.length : Int) := by omega
          clear hc44 hP2 hd
          go_wp2_with fail
          refine (zznext_any _ _ _ zs P _ rfl HR4.out HPV.out (by omega)).mono ?_
          rintro e w5 ⟨rfl, hB5⟩
          rw [E.out, HD.out]
          have hcd : w5.cell? ⟨b, off + P2, none⟩ = some (.int .u8 d) := by rw [← HD.out]; exact (hB5.cell hb).trans (HCELL.out P2 hP2n)
          go_wp2
          go_ret
          exact ⟨rfl, HB4.out.trans (hB5.mono HB4.out.size)⟩

end Go.Proofs.Qxb6617306a
