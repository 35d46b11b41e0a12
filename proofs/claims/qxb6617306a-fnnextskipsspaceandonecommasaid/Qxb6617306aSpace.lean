/-
  'isWS' (13), 'isSpace' (28), 'valueAhead' (14), '(*jsonBody).space' (26).
-/
import Derived.Test.Qxb6617306aPlain
import Derived.Deep.QuietTactic
import Derived.BigQuiet
import Derived.WalkSmall
import Derived.Deep.LoopGhost
namespace Go.Proofs.Qxb6617306a
open Go.RowKit

set_option maxRecDepth 100000 in
theorem isSpace_any (c : Int) (w : World) : Calls Try.prog 28 #[.int .u8 c] w fun e w' => e = .returned (.bool (isW c)) ∧ w' = w := by
  cases h1 : (c == 32)
  · cases h2 : (c == 9)
    · cases h3 : (c == 13)
      · cases h4 : (c == 10)
        · have e : isW c = false := by unfold isW; rw [h1, h2, h3, h4]; rfl
          rw [e]; clear e
          go_enter Try.func28, Try.ntmps28
          go_wp2
          go_ret
          exact ⟨rfl, rfl⟩
        · have e : isW c = true := by unfold isW; rw [h1, h2, h3, h4]; rfl
          rw [e]; clear e
          go_enter Try.func28, Try.ntmps28
          go_wp2
          go_ret
          exact ⟨rfl, rfl⟩
      · have e : isW c = true := by unfold isW; rw [h1, h2, h3]; rfl
        rw [e]; clear e
        go_enter Try.func28, Try.ntmps28
        go_wp2
        go_ret
        exact ⟨rfl, rfl⟩
    · have e : isW c = true := by unfold isW; rw [h1, h2]; rfl
      rw [e]; clear e
      go_enter Try.func28, Try.ntmps28
      go_wp2
      go_ret
      exact ⟨rfl, rfl⟩
  · have e : isW c = true := by unfold isW; rw [h1]; rfl
    rw [e]; clear e
    go_enter Try.func28, Try.ntmps28
    go_wp2
    go_ret
    exact ⟨rfl, rfl⟩

set_option maxRecDepth 100000 in
theorem isWS_any (c : Int) (w : World) : Calls Try.prog 13 #[.int .u8 c] w fun e w' => e = .returned (.bool (isW c)) ∧ w = w' := by
  cases h1 : (c == 32)
  · cases h2 : (c == 9)
    · cases h3 : (c == 13)
      · cases h4 : (c == 10)
        · have e : isW c = false := by unfold isW; rw [h1, h2, h3, h4]; rfl
          rw [e]; clear e
          go_enter Try.func13, Try.ntmps13
          go_wp2
          go_ret
          exact ⟨rfl, rfl⟩
        · have e : isW c = true := by unfold isW; rw [h1, h2, h3, h4]; rfl
          rw [e]; clear e
          go_enter Try.func13, Try.ntmps13
          go_wp2
          go_ret
          exact ⟨rfl, rfl⟩
      · have e : isW c = true := by unfold isW; rw [h1, h2, h3]; rfl
        rw [e]; clear e
        go_enter Try.func13, Try.ntmps13
        go_wp2
        go_ret
        exact ⟨rfl, rfl⟩
    · have e : isW c = true := by unfold isW; rw [h1, h2]; rfl
      rw [e]; clear e
      go_enter Try.func13, Try.ntmps13
      go_wp2
      go_ret
      exact ⟨rfl, rfl⟩
  · have e : isW c = true := by unfold isW; rw [h1]; rfl
    rw [e]; clear e
    go_enter Try.func13, Try.ntmps13
    go_wp2
    go_ret
    exact ⟨rfl, rfl⟩

set_option maxHeartbeats 800000 in
set_option maxRecDepth 100000 in
theorem ahead_any (a : Option Addr) (n cap : Nat) (zs : List Int) (p : Nat) (w : World) (hn : zs.length = n) (hr : RdB w a zs) (hp : p ≤ n) (hlen : n ≤ 1048576) :
    Calls Try.prog 14 #[.slice a n cap, .int .i64 p] w fun e w' => e = .returned (.bool (vA zs p)) ∧ w = w' := by
  subst hn
  have HO : Hid _ := hr.open
  clear hr
  go_enter Try.func14, Try.ntmps14
  go_wp2
  go_loop [5] (fun i => ∃ k : Nat, k ≤ zs.length ∧ i = .int .i64 k ∧ Hid (vA zs p = vA zs k)) (fun i => zs.length - (intOf i).toNat)
  case atStart => exact ⟨p, hp, rfl, by show vA zs p = vA zs p; rfl⟩
  case round =>
    obtain ⟨k, hk, rfl, hno⟩ := hrel
    by_cases hlt : k < zs.length
    · rcases HO.out with h0 | ⟨b, off, rfl, hb, hc⟩
      · simp [h0] at hlt
      · obtain ⟨c, hx⟩ : ∃ c, zs.getD k 0 = c := ⟨_, rfl⟩
        have hcx : w.cell? ⟨b, off + k, none⟩ = some (.int .u8 c) := by rw [← hx]; exact hc k hlt
        have HX : Hid _ := hx
        clear HO hc hx
        cases hw : isW c
        · cases h4 : (c == 44)
          · go_wp2_with (go_at_call 13; refine (isWS_any _ _).mono ?_; rintro e w' ⟨rfl, rfl⟩)
            go_ret
            exact ⟨ret_bool (hno.out.trans (vA_yes hlt (by rw [HX.out]; exact hw) (by rw [HX.out]; exact h4))).symm, rfl⟩
          · go_wp2_with (go_at_call 13; refine (isWS_any _ _).mono ?_; rintro e w' ⟨rfl, rfl⟩)
            go_round
            case rel => exact ⟨k + 1, by omega, by go_num, hno.out.trans (vA_comma hlt (by rw [HX.out]; exact h4))⟩
            case measure => simp [intOf]; omega
        · go_wp2_with (go_at_call 13; refine (isWS_any _ _).mono ?_; rintro e w' ⟨rfl, rfl⟩)
          go_round
          case rel => exact ⟨k + 1, by omega, by go_num, hno.out.trans (vA_ws hlt (by rw [HX.out]; exact hw))⟩
          case measure => simp [intOf]; omega
    · go_wp2
      go_ret
      exact ⟨ret_bool (hno.out.trans (vA_end (by omega))).symm, rfl⟩

/-- The bytes lie below block B. -/
def RdAt (B : Nat) (w : World) (a : Option Addr) (zs : List Int) : Prop :=
  zs = [] ∨ ∃ b off, a = some ⟨b, off, none⟩ ∧ b < B ∧ ∀ j, j < zs.length → w.cell? ⟨b, off + j, none⟩ = some (.int .u8 (zs.getD j 0))
theorem RdAt.below {B : Nat} {w w' : World} {a : Option Addr} {zs : List Int} (h : RdAt B w a zs) (hb : Below B w w') : RdAt B w' a zs := by
  rcases h with rfl | ⟨b, off, rfl, hlt, hc⟩
  · exact .inl rfl
  · exact .inr ⟨b, off, rfl, hlt, fun j hj => (hb.cell (p := ⟨b, off + j, none⟩) hlt).trans (hc j hj)⟩

/-- The reader in block B: its bytes, its place. -/
def Body (w : World) (B : Nat) (a : Option Addr) (n cap p : Nat) : Prop :=
  w.cell? ⟨B, 0, none⟩ = some (.slice a n cap) ∧ w.cell? ⟨B, 1, none⟩ = some (.int .i64 p) ∧ w.frozen? ⟨B, 1, none⟩ = false

theorem Body.drewN {w : World} {B : Nat} {a : Option Addr} {n cap p : Nat} (h : Body w B a n cap p) (m : Nat) : Body (w.drewN m) B a n cap p := h
theorem Body.set {w : World} {B : Nat} {a : Option Addr} {n cap p : Nat} (h : Body w B a n cap p) (q : Nat) : Body (w.setCell ⟨B, 1, none⟩ (.int .i64 q)) B a n cap q :=
  ⟨(World.cell?_setCell_other _ _ _ _ (by simp)).trans h.1, World.cell?_setCell_same _ _ _ h.2.1, (World.frozen?_setCell _ _ _ _).trans h.2.2⟩

set_option maxHeartbeats 1600000 in
set_option maxRecDepth 100000 in
theorem space_any (B : Nat) (a : Option Addr) (n cap : Nat) (zs : List Int) (p : Nat) (w : World) (hn : zs.length = n) (hr : RdAt B w a zs) (hbody : Body w B a n cap p) (hp : p ≤ n) (hlen : n ≤ 2097152) :
    Calls Try.prog 26 #[.pointer (some ⟨B, 0, none⟩)] w fun e w' => e = .returned (.tuple #[]) ∧ Body w' B a n cap (sp zs p) ∧ Below B w w' := by
  subst hn
  have HR : Hid _ := hr
  clear hr
  go_enter Try.func26, Try.ntmps26
  go_wp2
  go_loopg [] (zs.length - p) (fun g wr => ∃ q : Nat, q ≤ zs.length ∧ g = zs.length - q ∧ Body wr B a zs.length cap q ∧ Hid (sp zs p = sp zs q) ∧ Below B w wr)
  case atStart => exact ⟨p, hp, rfl, hbody, by show sp zs p = sp zs p; rfl, Below.refl _ _⟩
  case round =>
    obtain ⟨q, hq, hg, ⟨hb0, hb1, hbf⟩, hsp, hB⟩ := hrel
    have HG : Hid _ := hg
    clear hg hbody
    by_cases hlt : q < zs.length
    · rcases HR.out with h0 | ⟨b, off, rfl, hb, hc⟩
      · simp [h0] at hlt
      · obtain ⟨c, hx⟩ : ∃ c, zs.getD q 0 = c := ⟨_, rfl⟩
        have hcx : wr.cell? ⟨b, off + q, none⟩ = some (.int .u8 c) := by rw [← hx]; exact (hB.cell hb).trans (hc q hlt)
        have HX : Hid _ := hx
        have hlti : (q : Int) < (zs.length : Int) := by omega
        clear hc hx HR
        cases hw : isW c
        · go_wp2_with fail
          go_quiet ((go_at_call 28; exact Calls.quiet_of_same (isSpace_any _ _)))
          go_wp2
          go_end0
          have e : sp zs p = q := hsp.out.trans (sp_stay hlt (by rw [HX.out]; exact hw))
          rw [e]
          exact ⟨rfl, ⟨hb0, hb1, hbf⟩, below_drewN hB _⟩
        · have hbd : Body wr B (some ⟨b, off, none⟩) zs.length cap q := ⟨hb0, hb1, hbf⟩
          have HBD : Hid _ := hbd
          clear hbd
          go_wp2_with fail
          go_quiet ((go_at_call 28; exact Calls.quiet_of_same (isSpace_any _ _)))
          go_wp2
          go_roundg (zs.length - (q + 1))
          case measure => have := HG.out; omega
          case rel =>
            refine ⟨q + 1, by omega, rfl, ?_, hsp.out.trans (sp_go hlt (by rw [HX.out]; exact hw)), ?_⟩
            · exact Body.set (Body.drewN HBD.out _) (q + 1)
            · exact (below_drewN hB _).setCell (Nat.le_refl _) _
    · have hd : decide ((q : Int) < (zs.length : Int)) = false := by simp; omega
      go_wp2_with fail
      go_quiet (fail)
      go_wp2
      go_end0
      have e : sp zs p = q := hsp.out.trans (sp_end (by omega))
      rw [e]
      exact ⟨rfl, ⟨hb0, hb1, hbf⟩, below_drewN hB _⟩

end Go.Proofs.Qxb6617306a
