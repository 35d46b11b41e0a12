/-
  FnNextSkipsSpaceAndOneComma (4): the ways that leave early, and all together.
-/
import Derived.Test.Qxb6617306aSkips
namespace Go.Proofs.Qxb6617306a
open Go.RowKit

set_option maxRecDepth 100000 in
theorem bytes12_yes (a1 a2 : Option Addr) (n1 n2 cap1 cap2 : Nat) (f : Int) (w : World) (h1 : n1 ≤ 524288) (h2 : n2 ≤ 524288) :
    Calls Try.prog 12 #[.slice a1 n1 cap1, .int .i64 f, .slice a2 n2 cap2] w fun e w' => e = .returned (.bool true) ∧ w = w' := by
  go_enter Try.func12, Try.ntmps12
  go_wp2
  go_ret
  exact ⟨rfl, rfl⟩

set_option maxHeartbeats 800000 in
set_option maxRecDepth 100000 in
theorem skips_big (a1 a2 : Option Addr) (n1 n2 cap1 cap2 : Nat) (f : Int) (w : World) (hm1 : n1 ≤ maxLen) (hm2 : n2 ≤ maxLen) (h : 524288 < n1 ∨ 524288 < n2) :
    Calls Try.prog 4 #[.slice a1 n1 cap1, .int .i64 f, .slice a2 n2 cap2] w fun e w' => e = .returned (.bool true) ∧ Below w.heap.size w w' := by
  go_enter Try.func4, Try.ntmps4
  go_wp2_with fail
  refine (bytes12 _ _ _ _ _ _ _ _ hm1 hm2).mono ?_
  rintro e w' ⟨rfl, rfl | ⟨rfl, hl1, hl2⟩⟩
  · go_wp2
    go_ret
    exact ⟨rfl, Below.refl _ _⟩
  · clear hm1 hm2
    by_cases h1 : 524288 < n1
    · clear h
      go_wp2
      go_ret
      exact ⟨rfl, Below.refl _ _⟩
    · have h2 : 524288 < n2 := by omega
      clear h
      go_wp2
      go_ret
      exact ⟨rfl, Below.refl _ _⟩

set_option maxHeartbeats 800000 in
set_option maxRecDepth 100000 in
theorem skips_out (a1 a2 : Option Addr) (n1 n2 cap1 cap2 : Nat) (f : Int) (w : World) (h1 : n1 ≤ 524288) (h2 : n2 ≤ 524288) (h : f < 0 ∨ (n1 : Int) < f) :
    Calls Try.prog 4 #[.slice a1 n1 cap1, .int .i64 f, .slice a2 n2 cap2] w fun e w' => e = .returned (.bool true) ∧ Below w.heap.size w w' := by
  by_cases hf : f < 0
  · clear h
    go_enter Try.func4, Try.ntmps4
    go_wp2_with (go_at_call 12; refine (bytes12_yes _ _ _ _ _ _ _ _ h1 h2).mono ?_; rintro e w' ⟨rfl, rfl⟩)
    go_ret
    exact ⟨rfl, Below.refl _ _⟩
  · have hf2 : (n1 : Int) < f := by omega
    have hd : decide (f < 0) = false := by simpa using hf
    clear h
    go_enter Try.func4, Try.ntmps4
    go_wp2_with (go_at_call 12; refine (bytes12_yes _ _ _ _ _ _ _ _ h1 h2).mono ?_; rintro e w' ⟨rfl, rfl⟩)
    go_ret
    exact ⟨rfl, Below.refl _ _⟩

theorem skips_all (a1 a2 : Option Addr) (cap1 cap2 : Nat) (zs pad : List Int) (f : Int) (w : World) (hr1 : RdB w a1 zs) (hr2 : RdB w a2 pad) (hm1 : zs.length ≤ maxLen) (hm2 : pad.length ≤ maxLen) (hcap1 : zs.length ≤ cap1) :
    Calls Try.prog 4 #[.slice a1 zs.length cap1, .int .i64 f, .slice a2 pad.length cap2] w fun e w' => e = .returned (.bool true) ∧ Below w.heap.size w w' := by
  by_cases hbig : 524288 < zs.length ∨ 524288 < pad.length
  · exact skips_big _ _ _ _ _ _ _ _ hm1 hm2 hbig
  · by_cases hout : f < 0 ∨ (zs.length : Int) < f
    · exact skips_out _ _ _ _ _ _ _ _ (by omega) (by omega) hout
    · obtain ⟨A, rfl⟩ : ∃ A : Nat, f = (A : Int) := ⟨f.toNat, by omega⟩
      exact skips_in a1 a2 cap1 cap2 zs pad A w hr1 hr2 (by omega) (by omega) (by omega) hcap1 fun W => bytes12_yes _ _ _ _ _ _ _ W (by omega) (by omega)

end Go.Proofs.Qxb6617306a
