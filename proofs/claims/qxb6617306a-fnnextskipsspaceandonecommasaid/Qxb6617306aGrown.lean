/-
  'joined' (9), 'landsRight' (16), and what is plain about white space put in at a place.
-/
import Derived.Test.Qxb6617306aNext
namespace Go.Proofs.Qxb6617306a
open Go.RowKit

/-- The bytes with 'pad' put in at A. -/
def grown (zs pad : List Int) (A : Nat) : List Int := zs.take A ++ pad ++ zs.drop A
theorem grown_drop {zs pad : List Int} {A j : Nat} (hA : A ≤ zs.length) (hj : A ≤ j) : (grown zs pad A).drop (j + pad.length) = zs.drop j := by
  unfold grown
  rw [List.drop_append, List.drop_eq_nil_of_le (by simp; omega), List.nil_append, List.drop_drop]
  congr 1
  simp
  omega
theorem grown_drop0 {zs pad : List Int} {A : Nat} (hA : A ≤ zs.length) : (grown zs pad A).drop A = pad ++ zs.drop A := by
  unfold grown
  rw [List.append_assoc, List.drop_append, List.drop_eq_nil_of_le (by simp; omega), List.nil_append]
  have : A - (zs.take A).length = 0 := by simp; omega
  rw [this, List.drop_zero]
theorem grown_getD {zs pad : List Int} {A j : Nat} (hA : A ≤ zs.length) (hj : A ≤ j) : (grown zs pad A).getD (j + pad.length) 0 = zs.getD j 0 := by
  have h := congrArg (fun l => l.getD 0 0) (grown_drop (pad := pad) hA hj)
  simp only [getD_drop] at h
  simpa using h
theorem grown_length {zs pad : List Int} {A : Nat} (hA : A ≤ zs.length) : (grown zs pad A).length = zs.length + pad.length := by
  unfold grown; simp; omega
theorem skip_cons {c : Int} {r : List Int} (h : isW c = true) : skip (c :: r) = skip r + 1 := by
  show (if isW c then skip r + 1 else 0) = _
  rw [if_pos h]
theorem skip_pad : ∀ (pad r : List Int), (∀ c ∈ pad, isW c = true) → skip (pad ++ r) = pad.length + skip r
  | [], r, _ => by simp
  | c :: p, r, h => by
    have ih := skip_pad p r (fun x hx => h x (List.mem_cons_of_mem _ hx))
    rw [List.cons_append, skip_cons (h c (by simp)), ih, List.length_cons]
    omega
theorem sp_grown {zs pad : List Int} {A j : Nat} (hA : A ≤ zs.length) (hj : A ≤ j) : sp (grown zs pad A) (j + pad.length) = sp zs j + pad.length := by
  unfold sp; rw [grown_drop hA hj]; omega
theorem sp_grown0 {zs pad : List Int} {A : Nat} (hA : A ≤ zs.length) (h : ∀ c ∈ pad, isW c = true) : sp (grown zs pad A) A = sp zs A + pad.length := by
  unfold sp; rw [grown_drop0 hA, skip_pad _ _ h]; omega
theorem nxt_grown {zs pad : List Int} {A : Nat} (hA : A ≤ zs.length) (h : ∀ c ∈ pad, isW c = true) : nxt (grown zs pad A) A = nxt zs A + pad.length := by
  have g := sp_ge zs A
  unfold nxt
  rw [sp_grown0 hA h, grown_getD hA g]
  split
  · rw [show sp zs A + pad.length + 1 = (sp zs A + 1) + pad.length by omega, sp_grown hA (by omega)]
  · rfl
theorem HasV.grown {zs pad : List Int} {A : Nat} (hA : A ≤ zs.length) (h : HasV zs A) : HasV (grown zs pad A) A := by
  obtain ⟨k, h1, h2, h3, h4⟩ := h
  refine ⟨k + pad.length, by omega, by rw [grown_length hA]; omega, ?_, ?_⟩
  · rw [grown_getD hA h1]; exact h3
  · rw [grown_getD hA h1]; exact h4

/-- The cells of a row of which the first k are laid. -/
def fil (L : List Int) (k : Nat) : List Value := (L.take k ++ List.replicate (L.length - k) 0).map (Value.int .u8)
theorem fil_zero (L : List Int) {T : Nat} (hT : L.length = T) : (madeCells (Value.int .u8 0).cells (T * 1)).toList = fil L 0 := by
  rw [Nat.mul_one, show (Value.int .u8 0).cells = #[.int .u8 0] from rfl, toList_madeCells_one, ← hT]; simp [fil]
theorem fil_set (L : List Int) (k : Nat) (hk : k < L.length) {x : Int} (hx : L.getD k 0 = x) : (fil L k).set k (.int .u8 x) = fil L (k + 1) := by
  have e : L.length - k = (L.length - (k + 1)) + 1 := by omega
  unfold fil
  rw [take_succ' L 0 k hk, hx, e, List.replicate_succ]
  simp only [List.map_append, List.map_cons, List.append_assoc, List.cons_append, List.nil_append]
  rw [List.set_append_right _ _ (by simp; omega)]
  have e2 : k - ((L.take k).map (Value.int IntKind.u8)).length = 0 := by simp; omega
  rw [e2, List.set_cons_zero]
theorem fil_all (L : List Int) : fil L L.length = L.map (Value.int .u8) := by simp [fil]
theorem fil_cell (L : List Int) (k : Nat) (hk : k < L.length) : ∃ v, (fil L k)[k]? = some v :=
  ⟨_, List.getElem?_eq_getElem (by simp [fil]; omega)⟩

theorem isW_not {c : Int} (h : isW c = true) : (c == 44) = false := by
  cases h2 : (c == 44)
  · rfl
  · have : c = 44 := by simpa using h2
    rw [this] at h
    simp [isW_comma] at h

set_option maxHeartbeats 1600000 in
set_option maxRecDepth 100000 in
/-- No comma was passed. -/
theorem lands_plain (a : Option Addr) (n cap : Nat) (zs : List Int) (A P : Nat) (c : Int) (w : World) (hn : zs.length = n) (hr : RdB w a zs) (hlen : n ≤ 1048576) (hAP : A ≤ P) (hPn : P < n)
    (hc : zs.getD P 0 = c) (hcw : isW c = false) (h44 : (c == 44) = false) (hws : ∀ j, A ≤ j → j < P → isW (zs.getD j 0) = true) :
    Calls Try.prog 16 #[.slice a n cap, .int .i64 A, .int .u8 c, .int .i64 P] w fun e w' => e = .returned (.bool true) ∧ w = w' := by
  subst hn
  rcases hr.open with h0 | ⟨b, off, rfl, hb, hcell⟩
  · simp [h0] at hPn
  · have hcP : w.cell? ⟨b, off + P, none⟩ = some (.int .u8 c) := by rw [← hc]; exact hcell P hPn
    have HC : Hid (∀ j, j < zs.length → w.cell? ⟨b, off + j, none⟩ = some (.int .u8 (zs.getD j 0))) := hcell
    have HWS : Hid _ := hws
    have hi1 : (A : Int) ≤ (P : Int) := by omega
    have hi2 : (P : Int) < (zs.length : Int) := by omega
    clear hr hc hcell hws
    go_enter Try.func16, Try.ntmps16
    go_wp2_with (go_at_call 13; refine (isWS_any _ _).mono ?_; rintro e w' ⟨rfl, rfl⟩)
    go_loop [9, 10] (fun m i => ∃ k : Nat, A ≤ k ∧ k ≤ P ∧ m = .int .i64 0 ∧ i = .int .i64 k) (fun _ i => P - (intOf i).toNat)
    case atStart => exact ⟨A, Nat.le_refl _, hAP, rfl, rfl⟩
    case round =>
      obtain ⟨k, hk1, hk, rfl, rfl⟩ := hrel
      by_cases hlt : k < P
      · obtain ⟨x, hx⟩ : ∃ x, zs.getD k 0 = x := ⟨_, rfl⟩
        have hcx : w.cell? ⟨b, off + k, none⟩ = some (.int .u8 x) := by rw [← hx]; exact HC.out k (by omega)
        have hxw : isW x = true := by rw [← hx]; exact HWS.out k hk1 hlt
        have hx4 := isW_not hxw
        clear hx
        go_wp2_with (go_at_call 13; refine (isWS_any _ _).mono ?_; rintro e w' ⟨rfl, rfl⟩)
        go_round
        case rel => exact ⟨k + 1, by omega, by omega, rfl, by go_num⟩
        case measure => simp [intOf]; omega
      · go_wp2
        go_ret
        exact ⟨rfl, rfl⟩

set_option maxHeartbeats 1600000 in
set_option maxRecDepth 100000 in
/-- One comma was passed, at q. -/
theorem lands_comma (a : Option Addr) (n cap : Nat) (zs : List Int) (A P q : Nat) (c : Int) (w : World) (hn : zs.length = n) (hr : RdB w a zs) (hlen : n ≤ 1048576) (hAq : A ≤ q) (hqP : q < P) (hPn : P < n)
    (hc : zs.getD P 0 = c) (hcw : isW c = false) (hq : zs.getD q 0 = 44) (hws : ∀ j, A ≤ j → j < P → j ≠ q → isW (zs.getD j 0) = true) :
    Calls Try.prog 16 #[.slice a n cap, .int .i64 A, .int .u8 c, .int .i64 P] w fun e w' => e = .returned (.bool true) ∧ w = w' := by
  subst hn
  rcases hr.open with h0 | ⟨b, off, rfl, hb, hcell⟩
  · simp [h0] at hPn
  · have hcP : w.cell? ⟨b, off + P, none⟩ = some (.int .u8 c) := by rw [← hc]; exact hcell P hPn
    have HC : Hid (∀ j, j < zs.length → w.cell? ⟨b, off + j, none⟩ = some (.int .u8 (zs.getD j 0))) := hcell
    have HWS : Hid _ := hws
    have HQ : Hid _ := hq
    have hi1 : (A : Int) ≤ (P : Int) := by omega
    have hi2 : (P : Int) < (zs.length : Int) := by omega
    clear hr hc hcell hws hq
    go_enter Try.func16, Try.ntmps16
    go_wp2_with (go_at_call 13; refine (isWS_any _ _).mono ?_; rintro e w' ⟨rfl, rfl⟩)
    go_loop [9, 10] (fun m i => ∃ k M : Nat, A ≤ k ∧ k ≤ P ∧ M ≤ 1 ∧ (q < k → 1 ≤ M) ∧ (k ≤ q → M = 0) ∧ m = .int .i64 M ∧ i = .int .i64 k) (fun _ i => P - (intOf i).toNat)
    case atStart => exact ⟨A, 0, Nat.le_refl _, by omega, by omega, fun h => by omega, fun _ => rfl, rfl, rfl⟩
    case round =>
      obtain ⟨k, M, hk1, hk, hM1, hM2, hM3, rfl, rfl⟩ := hrel
      have HM2 : Hid _ := hM2
      have HM3 : Hid _ := hM3
      clear hM2 hM3
      by_cases hlt : k < P
      · by_cases hkq : k = q
        · subst hkq
          obtain rfl : M = 0 := HM3.out (Nat.le_refl _)
          have hcx : w.cell? ⟨b, off + k, none⟩ = some (.int .u8 44) := by rw [← HQ.out]; exact HC.out k (by omega)
          go_wp2_with (go_at_call 13; refine (isWS_any _ _).mono ?_; rintro e w' ⟨rfl, rfl⟩)
          go_round
          case rel => exact ⟨k + 1, 1, by omega, by omega, by omega, fun _ => Nat.le_refl _, fun h => by omega, rfl, by go_num⟩
          case measure => simp [intOf]; omega
        · obtain ⟨x, hx⟩ : ∃ x, zs.getD k 0 = x := ⟨_, rfl⟩
          have hcx : w.cell? ⟨b, off + k, none⟩ = some (.int .u8 x) := by rw [← hx]; exact HC.out k (by omega)
          have hxw : isW x = true := by rw [← hx]; exact HWS.out k hk1 hlt hkq
          have hx4 := isW_not hxw
          clear hx
          go_wp2_with (go_at_call 13; refine (isWS_any _ _).mono ?_; rintro e w' ⟨rfl, rfl⟩)
          go_round
          case rel => exact ⟨k + 1, M, by omega, by omega, hM1, fun h => HM2.out (by omega), fun h => HM3.out (by omega), rfl, by go_num⟩
          case measure => simp [intOf]; omega
      · have hM : M = 1 := by have := HM2.out (by omega); omega
        subst hM
        go_wp2
        go_ret
        exact ⟨rfl, rfl⟩

end Go.Proofs.Qxb6617306a
