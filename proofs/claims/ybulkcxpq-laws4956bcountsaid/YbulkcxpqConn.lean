import Derived.Test.YbulkcxpqRows
import Derived.Test.YbulkcxpqLocks
import Derived.WalkKit
import Derived.WalkSpells
import Derived.WalkLawsBesides
namespace Go.Proofs.Ybulkcxpq
open Go.RowKit Go.MuLone

def cnt (lv : Nat → Bool) : Nat → Nat
  | 0 => 0
  | k + 1 => cnt lv k + if lv k then 1 else 0
theorem cnt_le (lv : Nat → Bool) : ∀ k, cnt lv k ≤ k
  | 0 => Nat.le_refl _
  | k + 1 => by have := cnt_le lv k; simp only [cnt]; split <;> omega

set_option maxHeartbeats 800000 in
theorem conn_any (M gl n : Nat) (lv : Nat → Bool) (w : World) (hn : n ≤ 1024) (h18 : w.cell? ⟨M, 18, none⟩ = some (.int .i32 0)) (f18 : w.frozen? ⟨M, 18, none⟩ = false) (h20 : w.cell? ⟨M, 20, none⟩ = some (.slice (some ⟨gl, 0, none⟩) n n)) (hne : M ≠ gl)
    (hV : ∀ j, j < n → ∃ x : Option Addr, w.cell? ⟨gl, j, none⟩ = some (.pointer x) ∧ x.isSome = lv j) :
    Calls Yba.prog 4 #[.pointer (some ⟨M, 0, none⟩)] w fun e w' => e = .returned (.int .i64 (cnt lv n : Nat)) ∧ w' = (w.setCell ⟨M, 18, none⟩ (.int .i32 1)).setCell ⟨M, 18, none⟩ (.int .i32 0) := by
  have k20 : (w.setCell ⟨M, 18, none⟩ (.int .i32 1)).cell? ⟨M, 20, none⟩ = some (.slice (some ⟨gl, 0, none⟩) n n) := (World.cell?_setCell_other _ ⟨M, 18, none⟩ ⟨M, 20, none⟩ _ (by simp)).trans h20
  have HV : Hid (∀ j, j < n → ∃ x : Option Addr, (w.setCell ⟨M, 18, none⟩ (.int .i32 1)).cell? ⟨gl, j, none⟩ = some (.pointer x) ∧ x.isSome = lv j) := fun j hj => by
    obtain ⟨x, h1, h2⟩ := hV j hj
    exact ⟨x, (World.cell?_setCell_other _ ⟨M, 18, none⟩ ⟨gl, j, none⟩ _ (fun e => hne (by injection e))).trans h1, h2⟩
  have HL := lock_free Yba.muLib ⟨M, 18, none⟩ w h18 f18
  clear hV
  go_enter_defers Yba.func4, Yba.ntmps4
  go_wp2_with (go_at_call 7; refine HL.mono ?_; rintro e w' ⟨rfl, rfl⟩)
  go_loop [3, 18] (fun s3 s18 => ∃ k : Nat, k ≤ n ∧ s3 = .int .i64 (cnt lv k : Nat) ∧ s18 = .int .i64 k) (fun _ s18 => n - (intOf s18).toNat)
  case atStart => exact ⟨0, Nat.zero_le _, rfl, rfl⟩
  case round =>
    obtain ⟨k, hk, rfl, rfl⟩ := hrel
    have hcl := cnt_le lv k
    by_cases hlt : k < n
    · obtain ⟨x, hx1, hx2⟩ := HV.out k hlt
      cases x with
      | none =>
        have HX : Hid (cnt lv (k + 1) = cnt lv k) := by show _ = _; simp [cnt, ← hx2]
        clear hx2
        go_wp2_with fail
        go_round
        case rel => exact ⟨k + 1, by omega, by rw [HX.out], by go_num⟩
        case measure => simp [intOf]; omega
      | some a =>
        have HX : Hid (cnt lv (k + 1) = cnt lv k + 1) := by show _ = _; simp [cnt, ← hx2]
        clear hx2
        go_wp2_with fail
        go_round
        case rel => exact ⟨k + 1, by omega, by rw [HX.out]; go_num, by go_num⟩
        case measure => simp [intOf]; omega
    · have hkn : k = n := by omega
      subst hkn
      go_wp2_with fail
      refine leaves_cons (f := 6) (args := #[.pointer (some ⟨M, 18, none⟩)]) (by simp) (by simp [go_sem]) ?_
      refine (unlock_deferred Yba.muLib ⟨M, 18, none⟩ .returning _ ?_ ?_).mono ?_
      · exact World.cell?_setCell_same w ⟨M, 18, none⟩ (.int .i32 1) h18
      · simp [f18]
      rintro e u' w'' ⟨rfl, rfl, rfl⟩
      exact ⟨_, results_tmp rfl _ _ _, rfl, rfl⟩
end Go.Proofs.Ybulkcxpq
