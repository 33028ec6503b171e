/- spec.QRVersionBits, versions 7 to 40. Printed by gen_rest.py. -/
import Derived.Test.YtjgckbccbambmaaApart
namespace Go.Proofs.Ytjgckbccbambmaa
open Go.RowKit
set_option linter.unusedVariables false
set_option maxRecDepth 20000 in
set_option maxHeartbeats 4000000 in
theorem rest7 (w : World) : Calls Try.prog 34 #[.int .i64 28672, .int .i64 7973, .int .i64 13] w fun e w' => e = .returned (.int .i64 3220) ∧ ∃ m, w.drewN m = w' := by
  go_enter Try.func34, Try.ntmps34
  go_wp2_with fail
  go_loopw [0, 7] (fun vv iv wr => (∃ m, w.drewN m = wr) ∧ ((vv = .int .i64 28672 ∧ iv = .int .i64 17) ∨ (vv = .int .i64 28672 ∧ iv = .int .i64 16) ∨ (vv = .int .i64 28672 ∧ iv = .int .i64 15) ∨ (vv = .int .i64 28672 ∧ iv = .int .i64 14) ∨ (vv = .int .i64 3220 ∧ iv = .int .i64 13) ∨ (vv = .int .i64 3220 ∧ iv = .int .i64 12) ∨ (vv = .int .i64 3220 ∧ iv = .int .i64 11))) (fun _ iv _ => (intOf iv).toNat)
  case atStart => exact ⟨⟨0, rfl⟩, .inl ⟨rfl, rfl⟩⟩
  case round =>
    obtain ⟨⟨m, rfl⟩, ⟨rfl, rfl⟩ | ⟨rfl, rfl⟩ | ⟨rfl, rfl⟩ | ⟨rfl, rfl⟩ | ⟨rfl, rfl⟩ | ⟨rfl, rfl⟩ | ⟨rfl, rfl⟩⟩ := hrel
    · go_wp2_with fail
      go_roundw
      case rel => exact ⟨⟨m, rfl⟩, .inr (.inl ⟨rfl, rfl⟩)⟩
      case measure => simp [intOf]
    · go_wp2_with fail
      go_roundw
      case rel => exact ⟨⟨m, rfl⟩, .inr (.inr (.inl ⟨rfl, rfl⟩))⟩
      case measure => simp [intOf]
    · go_wp2_with fail
      go_roundw
      case rel => exact ⟨⟨m, rfl⟩, .inr (.inr (.inr (.inl ⟨rfl, rfl⟩)))⟩
      case measure => simp [intOf]
    · go_wp2_with fail
      go_roundw
      case rel => exact ⟨⟨m, rfl⟩, .inr (.inr (.inr (.inr (.inl ⟨rfl, rfl⟩))))⟩
      case measure => simp [intOf]
    · go_wp2_with fail
      go_roundw
      case rel => exact ⟨⟨m, rfl⟩, .inr (.inr (.inr (.inr (.inr (.inl ⟨rfl, rfl⟩)))))⟩
      case measure => simp [intOf]
    · go_wp2_with fail
      go_roundw
      case rel => exact ⟨⟨m, rfl⟩, .inr (.inr (.inr (.inr (.inr (.inr (⟨rfl, rfl⟩))))))⟩
      case measure => simp [intOf]
    · go_wp2_with fail
      go_ret
      exact ⟨rfl, m, rfl⟩
set_option maxRecDepth 20000 in
theorem vbits7 (w : World) : Calls Try.prog 12 #[.int .i64 7] w fun e w' => e = .returned (.int .i64 31892) ∧ ∃ m, w.drewN m = w' := by
  have r := fun W => rest7 W
  go_enter Try.func12, Try.ntmps12
  go_wp2_with fail
  refine (r _).mono ?_
  rintro e w1 ⟨rfl, m, rfl⟩
  go_wp2_with fail
  go_ret
  exact ⟨rfl, m, rfl⟩
set_option maxRecDepth 20000 in
set_option maxHeartbeats 4000000 in
theorem rest8 (w : World) : Calls Try.prog 34 #[.int .i64 32768, .int .i64 7973, .int .i64 13] w fun e w' => e = .returned (.int .i64 1468) ∧ ∃ m, w.drewN m = w' := by
  go_enter Try.func34, Try.ntmps34
  go_wp2_with fail
  go_loopw [0, 7] (fun vv iv wr => (∃ m, w.drewN m = wr) ∧ ((vv = .int .i64 32768 ∧ iv = .int .i64 17) ∨ (vv = .int .i64 32768 ∧ iv = .int .i64 16) ∨ (vv = .int .i64 32768 ∧ iv = .int .i64 15) ∨ (vv = .int .i64 31016 ∧ iv = .int .i64 14) ∨ (vv = .int .i64 1468 ∧ iv = .int .i64 13) ∨ (vv = .int .i64 1468 ∧ iv = .int .i64 12) ∨ (vv = .int .i64 1468 ∧ iv = .int .i64 11))) (fun _ iv _ => (intOf iv).toNat)
  case atStart => exact ⟨⟨0, rfl⟩, .inl ⟨rfl, rfl⟩⟩
  case round =>
    obtain ⟨⟨m, rfl⟩, ⟨rfl, rfl⟩ | ⟨rfl, rfl⟩ | ⟨rfl, rfl⟩ | ⟨rfl, rfl⟩ | ⟨rfl, rfl⟩ | ⟨rfl, rfl⟩ | ⟨rfl, rfl⟩⟩ := hrel
    · go_wp2_with fail
      go_roundw
      case rel => exact ⟨⟨m, rfl⟩, .inr (.inl ⟨rfl, rfl⟩)⟩
      case measure => simp [intOf]
    · go_wp2_with fail
      go_roundw
      case rel => exact ⟨⟨m, rfl⟩, .inr (.inr (.inl ⟨rfl, rfl⟩))⟩
      case measure => simp [intOf]
    · go_wp2_with fail
      go_roundw
      case rel => exact ⟨⟨m, rfl⟩, .inr (.inr (.inr (.inl ⟨rfl, rfl⟩)))⟩
      case measure => simp [intOf]
    · go_wp2_with fail
      go_roundw
      case rel => exact ⟨⟨m, rfl⟩, .inr (.inr (.inr (.inr (.inl ⟨rfl, rfl⟩))))⟩
      case measure => simp [intOf]
    · go_wp2_with fail
      go_roundw
      case rel => exact ⟨⟨m, rfl⟩, .inr (.inr (.inr (.inr (.inr (.inl ⟨rfl, rfl⟩)))))⟩
      case measure => simp [intOf]
    · go_wp2_with fail
      go_roundw
      case rel => exact ⟨⟨m, rfl⟩, .inr (.inr (.inr (.inr (.inr (.inr (⟨rfl, rfl⟩))))))⟩
      case measure => simp [intOf]
    · go_wp2_with fail
      go_ret
      exact ⟨rfl, m, rfl⟩
set_option maxRecDepth 20000 in
theorem vbits8 (w : World) : Calls Try.prog 12 #[.int .i64 8] w fun e w' => e = .returned (.int .i64 34236) ∧ ∃ m, w.drewN m = w' := by
  have r := fun W => rest8 W
  go_enter Try.func12, Try.ntmps12
  go_wp2_with fail
  refine (r _).mono ?_
  rintro e w1 ⟨rfl, m, rfl⟩
  go_wp2_with fail
  go_ret
  exact ⟨rfl, m, rfl⟩
set_option maxRecDepth 20000 in
set_option maxHeartbeats 4000000 in
theorem rest9 (w : World) : Calls Try.prog 34 #[.int .i64 36864, .int .i64 7973, .int .i64 13] w fun e w' => e = .returned (.int .i64 2713) ∧ ∃ m, w.drewN m = w' := by
  go_enter Try.func34, Try.ntmps34
  go_wp2_with fail
  go_loopw [0, 7] (fun vv iv wr => (∃ m, w.drewN m = wr) ∧ ((vv = .int .i64 36864 ∧ iv = .int .i64 17) ∨ (vv = .int .i64 36864 ∧ iv = .int .i64 16) ∨ (vv = .int .i64 36864 ∧ iv = .int .i64 15) ∨ (vv = .int .i64 26920 ∧ iv = .int .i64 14) ∨ (vv = .int .i64 5564 ∧ iv = .int .i64 13) ∨ (vv = .int .i64 5564 ∧ iv = .int .i64 12) ∨ (vv = .int .i64 2713 ∧ iv = .int .i64 11))) (fun _ iv _ => (intOf iv).toNat)
  case atStart => exact ⟨⟨0, rfl⟩, .inl ⟨rfl, rfl⟩⟩
  case round =>
    obtain ⟨⟨m, rfl⟩, ⟨rfl, rfl⟩ | ⟨rfl, rfl⟩ | ⟨rfl, rfl⟩ | ⟨rfl, rfl⟩ | ⟨rfl, rfl⟩ | ⟨rfl, rfl⟩ | ⟨rfl, rfl⟩⟩ := hrel
    · go_wp2_with fail
      go_roundw
      case rel => exact ⟨⟨m, rfl⟩, .inr (.inl ⟨rfl, rfl⟩)⟩
      case measure => simp [intOf]
    · go_wp2_with fail
      go_roundw
      case rel => exact ⟨⟨m, rfl⟩, .inr (.inr (.inl ⟨rfl, rfl⟩))⟩
      case measure => simp [intOf]
    · go_wp2_with fail
      go_roundw
      case rel => exact ⟨⟨m, rfl⟩, .inr (.inr (.inr (.inl ⟨rfl, rfl⟩)))⟩
      case measure => simp [intOf]
    · go_wp2_with fail
      go_roundw
      case rel => exact ⟨⟨m, rfl⟩, .inr (.inr (.inr (.inr (.inl ⟨rfl, rfl⟩))))⟩
      case measure => simp [intOf]
    · go_wp2_with fail
      go_roundw
      case rel => exact ⟨⟨m, rfl⟩, .inr (.inr (.inr (.inr (.inr (.inl ⟨rfl, rfl⟩)))))⟩
      case measure => simp [intOf]
    · go_wp2_with fail
      go_roundw
      case rel => exact ⟨⟨m, rfl⟩, .inr (.inr (.inr (.inr (.inr (.inr (⟨rfl, rfl⟩))))))⟩
      case measure => simp [intOf]
    · go_wp2_with fail
      go_ret
      exact ⟨rfl, m, rfl⟩
set_option maxRecDepth 20000 in
theorem vbits9 (w : World) : Calls Try.prog 12 #[.int .i64 9] w fun e w' => e = .returned (.int .i64 39577) ∧ ∃ m, w.drewN m = w' := by
  have r := fun W => rest9 W
  go_enter Try.func12, Try.ntmps12
  go_wp2_with fail
  refine (r _).mono ?_
  rintro e w1 ⟨rfl, m, rfl⟩
  go_wp2_with fail
  go_ret
  exact ⟨rfl, m, rfl⟩
set_option maxRecDepth 20000 in
set_option maxHeartbeats 4000000 in
theorem rest10 (w : World) : Calls Try.prog 34 #[.int .i64 40960, .int .i64 7973, .int .i64 13] w fun e w' => e = .returned (.int .i64 1235) ∧ ∃ m, w.drewN m = w' := by
  go_enter Try.func34, Try.ntmps34
  go_wp2_with fail
  go_loopw [0, 7] (fun vv iv wr => (∃ m, w.drewN m = wr) ∧ ((vv = .int .i64 40960 ∧ iv = .int .i64 17) ∨ (vv = .int .i64 40960 ∧ iv = .int .i64 16) ∨ (vv = .int .i64 40960 ∧ iv = .int .i64 15) ∨ (vv = .int .i64 22824 ∧ iv = .int .i64 14) ∨ (vv = .int .i64 9660 ∧ iv = .int .i64 13) ∨ (vv = .int .i64 7158 ∧ iv = .int .i64 12) ∨ (vv = .int .i64 1235 ∧ iv = .int .i64 11))) (fun _ iv _ => (intOf iv).toNat)
  case atStart => exact ⟨⟨0, rfl⟩, .inl ⟨rfl, rfl⟩⟩
  case round =>
    obtain ⟨⟨m, rfl⟩, ⟨rfl, rfl⟩ | ⟨rfl, rfl⟩ | ⟨rfl, rfl⟩ | ⟨rfl, rfl⟩ | ⟨rfl, rfl⟩ | ⟨rfl, rfl⟩ | ⟨rfl, rfl⟩⟩ := hrel
    · go_wp2_with fail
      go_roundw
      case rel => exact ⟨⟨m, rfl⟩, .inr (.inl ⟨rfl, rfl⟩)⟩
      case measure => simp [intOf]
    · go_wp2_with fail
      go_roundw
      case rel => exact ⟨⟨m, rfl⟩, .inr (.inr (.inl ⟨rfl, rfl⟩))⟩
      case measure => simp [intOf]
    · go_wp2_with fail
      go_roundw
      case rel => exact ⟨⟨m, rfl⟩, .inr (.inr (.inr (.inl ⟨rfl, rfl⟩)))⟩
      case measure => simp [intOf]
    · go_wp2_with fail
      go_roundw
      case rel => exact ⟨⟨m, rfl⟩, .inr (.inr (.inr (.inr (.inl ⟨rfl, rfl⟩))))⟩
      case measure => simp [intOf]
    · go_wp2_with fail
      go_roundw
      case rel => exact ⟨⟨m, rfl⟩, .inr (.inr (.inr (.inr (.inr (.inl ⟨rfl, rfl⟩)))))⟩
      case measure => simp [intOf]
    · go_wp2_with fail
      go_roundw
      case rel => exact ⟨⟨m, rfl⟩, .inr (.inr (.inr (.inr (.inr (.inr (⟨rfl, rfl⟩))))))⟩
      case measure => simp [intOf]
    · go_wp2_with fail
      go_ret
      exact ⟨rfl, m, rfl⟩
set_option maxRecDepth 20000 in
theorem vbits10 (w : World) : Calls Try.prog 12 #[.int .i64 10] w fun e w' => e = .returned (.int .i64 42195) ∧ ∃ m, w.drewN m = w' := by
  have r := fun W => rest10 W
  go_enter Try.func12, Try.ntmps12
  go_wp2_with fail
  refine (r _).mono ?_
  rintro e w1 ⟨rfl, m, rfl⟩
  go_wp2_with fail
  go_ret
  exact ⟨rfl, m, rfl⟩
set_option maxRecDepth 20000 in
set_option maxHeartbeats 4000000 in
theorem rest11 (w : World) : Calls Try.prog 34 #[.int .i64 45056, .int .i64 7973, .int .i64 13] w fun e w' => e = .returned (.int .i64 3062) ∧ ∃ m, w.drewN m = w' := by
  go_enter Try.func34, Try.ntmps34
  go_wp2_with fail
  go_loopw [0, 7] (fun vv iv wr => (∃ m, w.drewN m = wr) ∧ ((vv = .int .i64 45056 ∧ iv = .int .i64 17) ∨ (vv = .int .i64 45056 ∧ iv = .int .i64 16) ∨ (vv = .int .i64 45056 ∧ iv = .int .i64 15) ∨ (vv = .int .i64 18728 ∧ iv = .int .i64 14) ∨ (vv = .int .i64 13756 ∧ iv = .int .i64 13) ∨ (vv = .int .i64 3062 ∧ iv = .int .i64 12) ∨ (vv = .int .i64 3062 ∧ iv = .int .i64 11))) (fun _ iv _ => (intOf iv).toNat)
  case atStart => exact ⟨⟨0, rfl⟩, .inl ⟨rfl, rfl⟩⟩
  case round =>
    obtain ⟨⟨m, rfl⟩, ⟨rfl, rfl⟩ | ⟨rfl, rfl⟩ | ⟨rfl, rfl⟩ | ⟨rfl, rfl⟩ | ⟨rfl, rfl⟩ | ⟨rfl, rfl⟩ | ⟨rfl, rfl⟩⟩ := hrel
    · go_wp2_with fail
      go_roundw
      case rel => exact ⟨⟨m, rfl⟩, .inr (.inl ⟨rfl, rfl⟩)⟩
      case measure => simp [intOf]
    · go_wp2_with fail
      go_roundw
      case rel => exact ⟨⟨m, rfl⟩, .inr (.inr (.inl ⟨rfl, rfl⟩))⟩
      case measure => simp [intOf]
    · go_wp2_with fail
      go_roundw
      case rel => exact ⟨⟨m, rfl⟩, .inr (.inr (.inr (.inl ⟨rfl, rfl⟩)))⟩
      case measure => simp [intOf]
    · go_wp2_with fail
      go_roundw
      case rel => exact ⟨⟨m, rfl⟩, .inr (.inr (.inr (.inr (.inl ⟨rfl, rfl⟩))))⟩
      case measure => simp [intOf]
    · go_wp2_with fail
      go_roundw
      case rel => exact ⟨⟨m, rfl⟩, .inr (.inr (.inr (.inr (.inr (.inl ⟨rfl, rfl⟩)))))⟩
      case measure => simp [intOf]
    · go_wp2_with fail
      go_roundw
      case rel => exact ⟨⟨m, rfl⟩, .inr (.inr (.inr (.inr (.inr (.inr (⟨rfl, rfl⟩))))))⟩
      case measure => simp [intOf]
    · go_wp2_with fail
      go_ret
      exact ⟨rfl, m, rfl⟩
set_option maxRecDepth 20000 in
theorem vbits11 (w : World) : Calls Try.prog 12 #[.int .i64 11] w fun e w' => e = .returned (.int .i64 48118) ∧ ∃ m, w.drewN m = w' := by
  have r := fun W => rest11 W
  go_enter Try.func12, Try.ntmps12
  go_wp2_with fail
  refine (r _).mono ?_
  rintro e w1 ⟨rfl, m, rfl⟩
  go_wp2_with fail
  go_ret
  exact ⟨rfl, m, rfl⟩
set_option maxRecDepth 20000 in
set_option maxHeartbeats 4000000 in
theorem rest12 (w : World) : Calls Try.prog 34 #[.int .i64 49152, .int .i64 7973, .int .i64 13] w fun e w' => e = .returned (.int .i64 1890) ∧ ∃ m, w.drewN m = w' := by
  go_enter Try.func34, Try.ntmps34
  go_wp2_with fail
  go_loopw [0, 7] (fun vv iv wr => (∃ m, w.drewN m = wr) ∧ ((vv = .int .i64 49152 ∧ iv = .int .i64 17) ∨ (vv = .int .i64 49152 ∧ iv = .int .i64 16) ∨ (vv = .int .i64 49152 ∧ iv = .int .i64 15) ∨ (vv = .int .i64 14632 ∧ iv = .int .i64 14) ∨ (vv = .int .i64 14632 ∧ iv = .int .i64 13) ∨ (vv = .int .i64 1890 ∧ iv = .int .i64 12) ∨ (vv = .int .i64 1890 ∧ iv = .int .i64 11))) (fun _ iv _ => (intOf iv).toNat)
  case atStart => exact ⟨⟨0, rfl⟩, .inl ⟨rfl, rfl⟩⟩
  case round =>
    obtain ⟨⟨m, rfl⟩, ⟨rfl, rfl⟩ | ⟨rfl, rfl⟩ | ⟨rfl, rfl⟩ | ⟨rfl, rfl⟩ | ⟨rfl, rfl⟩ | ⟨rfl, rfl⟩ | ⟨rfl, rfl⟩⟩ := hrel
    · go_wp2_with fail
      go_roundw
      case rel => exact ⟨⟨m, rfl⟩, .inr (.inl ⟨rfl, rfl⟩)⟩
      case measure => simp [intOf]
    · go_wp2_with fail
      go_roundw
      case rel => exact ⟨⟨m, rfl⟩, .inr (.inr (.inl ⟨rfl, rfl⟩))⟩
      case measure => simp [intOf]
    · go_wp2_with fail
      go_roundw
      case rel => exact ⟨⟨m, rfl⟩, .inr (.inr (.inr (.inl ⟨rfl, rfl⟩)))⟩
      case measure => simp [intOf]
    · go_wp2_with fail
      go_roundw
      case rel => exact ⟨⟨m, rfl⟩, .inr (.inr (.inr (.inr (.inl ⟨rfl, rfl⟩))))⟩
      case measure => simp [intOf]
    · go_wp2_with fail
      go_roundw
      case rel => exact ⟨⟨m, rfl⟩, .inr (.inr (.inr (.inr (.inr (.inl ⟨rfl, rfl⟩)))))⟩
      case measure => simp [intOf]
    · go_wp2_with fail
      go_roundw
      case rel => exact ⟨⟨m, rfl⟩, .inr (.inr (.inr (.inr (.inr (.inr (⟨rfl, rfl⟩))))))⟩
      case measure => simp [intOf]
    · go_wp2_with fail
      go_ret
      exact ⟨rfl, m, rfl⟩
set_option maxRecDepth 20000 in
theorem vbits12 (w : World) : Calls Try.prog 12 #[.int .i64 12] w fun e w' => e = .returned (.int .i64 51042) ∧ ∃ m, w.drewN m = w' := by
  have r := fun W => rest12 W
  go_enter Try.func12, Try.ntmps12
  go_wp2_with fail
  refine (r _).mono ?_
  rintro e w1 ⟨rfl, m, rfl⟩
  go_wp2_with fail
  go_ret
  exact ⟨rfl, m, rfl⟩
set_option maxRecDepth 20000 in
set_option maxHeartbeats 4000000 in
theorem rest13 (w : World) : Calls Try.prog 34 #[.int .i64 53248, .int .i64 7973, .int .i64 13] w fun e w' => e = .returned (.int .i64 2119) ∧ ∃ m, w.drewN m = w' := by
  go_enter Try.func34, Try.ntmps34
  go_wp2_with fail
  go_loopw [0, 7] (fun vv iv wr => (∃ m, w.drewN m = wr) ∧ ((vv = .int .i64 53248 ∧ iv = .int .i64 17) ∨ (vv = .int .i64 53248 ∧ iv = .int .i64 16) ∨ (vv = .int .i64 53248 ∧ iv = .int .i64 15) ∨ (vv = .int .i64 10536 ∧ iv = .int .i64 14) ∨ (vv = .int .i64 10536 ∧ iv = .int .i64 13) ∨ (vv = .int .i64 5986 ∧ iv = .int .i64 12) ∨ (vv = .int .i64 2119 ∧ iv = .int .i64 11))) (fun _ iv _ => (intOf iv).toNat)
  case atStart => exact ⟨⟨0, rfl⟩, .inl ⟨rfl, rfl⟩⟩
  case round =>
    obtain ⟨⟨m, rfl⟩, ⟨rfl, rfl⟩ | ⟨rfl, rfl⟩ | ⟨rfl, rfl⟩ | ⟨rfl, rfl⟩ | ⟨rfl, rfl⟩ | ⟨rfl, rfl⟩ | ⟨rfl, rfl⟩⟩ := hrel
    · go_wp2_with fail
      go_roundw
      case rel => exact ⟨⟨m, rfl⟩, .inr (.inl ⟨rfl, rfl⟩)⟩
      case measure => simp [intOf]
    · go_wp2_with fail
      go_roundw
      case rel => exact ⟨⟨m, rfl⟩, .inr (.inr (.inl ⟨rfl, rfl⟩))⟩
      case measure => simp [intOf]
    · go_wp2_with fail
      go_roundw
      case rel => exact ⟨⟨m, rfl⟩, .inr (.inr (.inr (.inl ⟨rfl, rfl⟩)))⟩
      case measure => simp [intOf]
    · go_wp2_with fail
      go_roundw
      case rel => exact ⟨⟨m, rfl⟩, .inr (.inr (.inr (.inr (.inl ⟨rfl, rfl⟩))))⟩
      case measure => simp [intOf]
    · go_wp2_with fail
      go_roundw
      case rel => exact ⟨⟨m, rfl⟩, .inr (.inr (.inr (.inr (.inr (.inl ⟨rfl, rfl⟩)))))⟩
      case measure => simp [intOf]
    · go_wp2_with fail
      go_roundw
      case rel => exact ⟨⟨m, rfl⟩, .inr (.inr (.inr (.inr (.inr (.inr (⟨rfl, rfl⟩))))))⟩
      case measure => simp [intOf]
    · go_wp2_with fail
      go_ret
      exact ⟨rfl, m, rfl⟩
set_option maxRecDepth 20000 in
theorem vbits13 (w : World) : Calls Try.prog 12 #[.int .i64 13] w fun e w' => e = .returned (.int .i64 55367) ∧ ∃ m, w.drewN m = w' := by
  have r := fun W => rest13 W
  go_enter Try.func12, Try.ntmps12
  go_wp2_with fail
  refine (r _).mono ?_
  rintro e w1 ⟨rfl, m, rfl⟩
  go_wp2_with fail
  go_ret
  exact ⟨rfl, m, rfl⟩
set_option maxRecDepth 20000 in
set_option maxHeartbeats 4000000 in
theorem rest14 (w : World) : Calls Try.prog 34 #[.int .i64 57344, .int .i64 7973, .int .i64 13] w fun e w' => e = .returned (.int .i64 1549) ∧ ∃ m, w.drewN m = w' := by
  go_enter Try.func34, Try.ntmps34
  go_wp2_with fail
  go_loopw [0, 7] (fun vv iv wr => (∃ m, w.drewN m = wr) ∧ ((vv = .int .i64 57344 ∧ iv = .int .i64 17) ∨ (vv = .int .i64 57344 ∧ iv = .int .i64 16) ∨ (vv = .int .i64 57344 ∧ iv = .int .i64 15) ∨ (vv = .int .i64 6440 ∧ iv = .int .i64 14) ∨ (vv = .int .i64 6440 ∧ iv = .int .i64 13) ∨ (vv = .int .i64 6440 ∧ iv = .int .i64 12) ∨ (vv = .int .i64 1549 ∧ iv = .int .i64 11))) (fun _ iv _ => (intOf iv).toNat)
  case atStart => exact ⟨⟨0, rfl⟩, .inl ⟨rfl, rfl⟩⟩
  case round =>
    obtain ⟨⟨m, rfl⟩, ⟨rfl, rfl⟩ | ⟨rfl, rfl⟩ | ⟨rfl, rfl⟩ | ⟨rfl, rfl⟩ | ⟨rfl, rfl⟩ | ⟨rfl, rfl⟩ | ⟨rfl, rfl⟩⟩ := hrel
    · go_wp2_with fail
      go_roundw
      case rel => exact ⟨⟨m, rfl⟩, .inr (.inl ⟨rfl, rfl⟩)⟩
      case measure => simp [intOf]
    · go_wp2_with fail
      go_roundw
      case rel => exact ⟨⟨m, rfl⟩, .inr (.inr (.inl ⟨rfl, rfl⟩))⟩
      case measure => simp [intOf]
    · go_wp2_with fail
      go_roundw
      case rel => exact ⟨⟨m, rfl⟩, .inr (.inr (.inr (.inl ⟨rfl, rfl⟩)))⟩
      case measure => simp [intOf]
    · go_wp2_with fail
      go_roundw
      case rel => exact ⟨⟨m, rfl⟩, .inr (.inr (.inr (.inr (.inl ⟨rfl, rfl⟩))))⟩
      case measure => simp [intOf]
    · go_wp2_with fail
      go_roundw
      case rel => exact ⟨⟨m, rfl⟩, .inr (.inr (.inr (.inr (.inr (.inl ⟨rfl, rfl⟩)))))⟩
      case measure => simp [intOf]
    · go_wp2_with fail
      go_roundw
      case rel => exact ⟨⟨m, rfl⟩, .inr (.inr (.inr (.inr (.inr (.inr (⟨rfl, rfl⟩))))))⟩
      case measure => simp [intOf]
    · go_wp2_with fail
      go_ret
      exact ⟨rfl, m, rfl⟩
set_option maxRecDepth 20000 in
theorem vbits14 (w : World) : Calls Try.prog 12 #[.int .i64 14] w fun e w' => e = .returned (.int .i64 58893) ∧ ∃ m, w.drewN m = w' := by
  have r := fun W => rest14 W
  go_enter Try.func12, Try.ntmps12
  go_wp2_with fail
  refine (r _).mono ?_
  rintro e w1 ⟨rfl, m, rfl⟩
  go_wp2_with fail
  go_ret
  exact ⟨rfl, m, rfl⟩
set_option maxRecDepth 20000 in
set_option maxHeartbeats 4000000 in
theorem rest15 (w : World) : Calls Try.prog 34 #[.int .i64 61440, .int .i64 7973, .int .i64 13] w fun e w' => e = .returned (.int .i64 2344) ∧ ∃ m, w.drewN m = w' := by
  go_enter Try.func34, Try.ntmps34
  go_wp2_with fail
  go_loopw [0, 7] (fun vv iv wr => (∃ m, w.drewN m = wr) ∧ ((vv = .int .i64 61440 ∧ iv = .int .i64 17) ∨ (vv = .int .i64 61440 ∧ iv = .int .i64 16) ∨ (vv = .int .i64 61440 ∧ iv = .int .i64 15) ∨ (vv = .int .i64 2344 ∧ iv = .int .i64 14) ∨ (vv = .int .i64 2344 ∧ iv = .int .i64 13) ∨ (vv = .int .i64 2344 ∧ iv = .int .i64 12) ∨ (vv = .int .i64 2344 ∧ iv = .int .i64 11))) (fun _ iv _ => (intOf iv).toNat)
  case atStart => exact ⟨⟨0, rfl⟩, .inl ⟨rfl, rfl⟩⟩
  case round =>
    obtain ⟨⟨m, rfl⟩, ⟨rfl, rfl⟩ | ⟨rfl, rfl⟩ | ⟨rfl, rfl⟩ | ⟨rfl, rfl⟩ | ⟨rfl, rfl⟩ | ⟨rfl, rfl⟩ | ⟨rfl, rfl⟩⟩ := hrel
    · go_wp2_with fail
      go_roundw
      case rel => exact ⟨⟨m, rfl⟩, .inr (.inl ⟨rfl, rfl⟩)⟩
      case measure => simp [intOf]
    · go_wp2_with fail
      go_roundw
      case rel => exact ⟨⟨m, rfl⟩, .inr (.inr (.inl ⟨rfl, rfl⟩))⟩
      case measure => simp [intOf]
    · go_wp2_with fail
      go_roundw
      case rel => exact ⟨⟨m, rfl⟩, .inr (.inr (.inr (.inl ⟨rfl, rfl⟩)))⟩
      case measure => simp [intOf]
    · go_wp2_with fail
      go_roundw
      case rel => exact ⟨⟨m, rfl⟩, .inr (.inr (.inr (.inr (.inl ⟨rfl, rfl⟩))))⟩
      case measure => simp [intOf]
    · go_wp2_with fail
      go_roundw
      case rel => exact ⟨⟨m, rfl⟩, .inr (.inr (.inr (.inr (.inr (.inl ⟨rfl, rfl⟩)))))⟩
      case measure => simp [intOf]
    · go_wp2_with fail
      go_roundw
      case rel => exact ⟨⟨m, rfl⟩, .inr (.inr (.inr (.inr (.inr (.inr (⟨rfl, rfl⟩))))))⟩
      case measure => simp [intOf]
    · go_wp2_with fail
      go_ret
      exact ⟨rfl, m, rfl⟩
set_option maxRecDepth 20000 in
theorem vbits15 (w : World) : Calls Try.prog 12 #[.int .i64 15] w fun e w' => e = .returned (.int .i64 63784) ∧ ∃ m, w.drewN m = w' := by
  have r := fun W => rest15 W
  go_enter Try.func12, Try.ntmps12
  go_wp2_with fail
  refine (r _).mono ?_
  rintro e w1 ⟨rfl, m, rfl⟩
  go_wp2_with fail
  go_ret
  exact ⟨rfl, m, rfl⟩
set_option maxRecDepth 20000 in
set_option maxHeartbeats 4000000 in
theorem rest16 (w : World) : Calls Try.prog 34 #[.int .i64 65536, .int .i64 7973, .int .i64 13] w fun e w' => e = .returned (.int .i64 2936) ∧ ∃ m, w.drewN m = w' := by
  go_enter Try.func34, Try.ntmps34
  go_wp2_with fail
  go_loopw [0, 7] (fun vv iv wr => (∃ m, w.drewN m = wr) ∧ ((vv = .int .i64 65536 ∧ iv = .int .i64 17) ∨ (vv = .int .i64 65536 ∧ iv = .int .i64 16) ∨ (vv = .int .i64 62032 ∧ iv = .int .i64 15) ∨ (vv = .int .i64 2936 ∧ iv = .int .i64 14) ∨ (vv = .int .i64 2936 ∧ iv = .int .i64 13) ∨ (vv = .int .i64 2936 ∧ iv = .int .i64 12) ∨ (vv = .int .i64 2936 ∧ iv = .int .i64 11))) (fun _ iv _ => (intOf iv).toNat)
  case atStart => exact ⟨⟨0, rfl⟩, .inl ⟨rfl, rfl⟩⟩
  case round =>
    obtain ⟨⟨m, rfl⟩, ⟨rfl, rfl⟩ | ⟨rfl, rfl⟩ | ⟨rfl, rfl⟩ | ⟨rfl, rfl⟩ | ⟨rfl, rfl⟩ | ⟨rfl, rfl⟩ | ⟨rfl, rfl⟩⟩ := hrel
    · go_wp2_with fail
      go_roundw
      case rel => exact ⟨⟨m, rfl⟩, .inr (.inl ⟨rfl, rfl⟩)⟩
      case measure => simp [intOf]
    · go_wp2_with fail
      go_roundw
      case rel => exact ⟨⟨m, rfl⟩, .inr (.inr (.inl ⟨rfl, rfl⟩))⟩
      case measure => simp [intOf]
    · go_wp2_with fail
      go_roundw
      case rel => exact ⟨⟨m, rfl⟩, .inr (.inr (.inr (.inl ⟨rfl, rfl⟩)))⟩
      case measure => simp [intOf]
    · go_wp2_with fail
      go_roundw
      case rel => exact ⟨⟨m, rfl⟩, .inr (.inr (.inr (.inr (.inl ⟨rfl, rfl⟩))))⟩
      case measure => simp [intOf]
    · go_wp2_with fail
      go_roundw
      case rel => exact ⟨⟨m, rfl⟩, .inr (.inr (.inr (.inr (.inr (.inl ⟨rfl, rfl⟩)))))⟩
      case measure => simp [intOf]
    · go_wp2_with fail
      go_roundw
      case rel => exact ⟨⟨m, rfl⟩, .inr (.inr (.inr (.inr (.inr (.inr (⟨rfl, rfl⟩))))))⟩
      case measure => simp [intOf]
    · go_wp2_with fail
      go_ret
      exact ⟨rfl, m, rfl⟩
set_option maxRecDepth 20000 in
theorem vbits16 (w : World) : Calls Try.prog 12 #[.int .i64 16] w fun e w' => e = .returned (.int .i64 68472) ∧ ∃ m, w.drewN m = w' := by
  have r := fun W => rest16 W
  go_enter Try.func12, Try.ntmps12
  go_wp2_with fail
  refine (r _).mono ?_
  rintro e w1 ⟨rfl, m, rfl⟩
  go_wp2_with fail
  go_ret
  exact ⟨rfl, m, rfl⟩
set_option maxRecDepth 20000 in
set_option maxHeartbeats 4000000 in
theorem rest17 (w : World) : Calls Try.prog 34 #[.int .i64 69632, .int .i64 7973, .int .i64 13] w fun e w' => e = .returned (.int .i64 1117) ∧ ∃ m, w.drewN m = w' := by
  go_enter Try.func34, Try.ntmps34
  go_wp2_with fail
  go_loopw [0, 7] (fun vv iv wr => (∃ m, w.drewN m = wr) ∧ ((vv = .int .i64 69632 ∧ iv = .int .i64 17) ∨ (vv = .int .i64 69632 ∧ iv = .int .i64 16) ∨ (vv = .int .i64 57936 ∧ iv = .int .i64 15) ∨ (vv = .int .i64 7032 ∧ iv = .int .i64 14) ∨ (vv = .int .i64 7032 ∧ iv = .int .i64 13) ∨ (vv = .int .i64 7032 ∧ iv = .int .i64 12) ∨ (vv = .int .i64 1117 ∧ iv = .int .i64 11))) (fun _ iv _ => (intOf iv).toNat)
  case atStart => exact ⟨⟨0, rfl⟩, .inl ⟨rfl, rfl⟩⟩
  case round =>
    obtain ⟨⟨m, rfl⟩, ⟨rfl, rfl⟩ | ⟨rfl, rfl⟩ | ⟨rfl, rfl⟩ | ⟨rfl, rfl⟩ | ⟨rfl, rfl⟩ | ⟨rfl, rfl⟩ | ⟨rfl, rfl⟩⟩ := hrel
    · go_wp2_with fail
      go_roundw
      case rel => exact ⟨⟨m, rfl⟩, .inr (.inl ⟨rfl, rfl⟩)⟩
      case measure => simp [intOf]
    · go_wp2_with fail
      go_roundw
      case rel => exact ⟨⟨m, rfl⟩, .inr (.inr (.inl ⟨rfl, rfl⟩))⟩
      case measure => simp [intOf]
    · go_wp2_with fail
      go_roundw
      case rel => exact ⟨⟨m, rfl⟩, .inr (.inr (.inr (.inl ⟨rfl, rfl⟩)))⟩
      case measure => simp [intOf]
    · go_wp2_with fail
      go_roundw
      case rel => exact ⟨⟨m, rfl⟩, .inr (.inr (.inr (.inr (.inl ⟨rfl, rfl⟩))))⟩
      case measure => simp [intOf]
    · go_wp2_with fail
      go_roundw
      case rel => exact ⟨⟨m, rfl⟩, .inr (.inr (.inr (.inr (.inr (.inl ⟨rfl, rfl⟩)))))⟩
      case measure => simp [intOf]
    · go_wp2_with fail
      go_roundw
      case rel => exact ⟨⟨m, rfl⟩, .inr (.inr (.inr (.inr (.inr (.inr (⟨rfl, rfl⟩))))))⟩
      case measure => simp [intOf]
    · go_wp2_with fail
      go_ret
      exact ⟨rfl, m, rfl⟩
set_option maxRecDepth 20000 in
theorem vbits17 (w : World) : Calls Try.prog 12 #[.int .i64 17] w fun e w' => e = .returned (.int .i64 70749) ∧ ∃ m, w.drewN m = w' := by
  have r := fun W => rest17 W
  go_enter Try.func12, Try.ntmps12
  go_wp2_with fail
  refine (r _).mono ?_
  rintro e w1 ⟨rfl, m, rfl⟩
  go_wp2_with fail
  go_ret
  exact ⟨rfl, m, rfl⟩
set_option maxRecDepth 20000 in
set_option maxHeartbeats 4000000 in
theorem rest18 (w : World) : Calls Try.prog 34 #[.int .i64 73728, .int .i64 7973, .int .i64 13] w fun e w' => e = .returned (.int .i64 2583) ∧ ∃ m, w.drewN m = w' := by
  go_enter Try.func34, Try.ntmps34
  go_wp2_with fail
  go_loopw [0, 7] (fun vv iv wr => (∃ m, w.drewN m = wr) ∧ ((vv = .int .i64 73728 ∧ iv = .int .i64 17) ∨ (vv = .int .i64 73728 ∧ iv = .int .i64 16) ∨ (vv = .int .i64 53840 ∧ iv = .int .i64 15) ∨ (vv = .int .i64 11128 ∧ iv = .int .i64 14) ∨ (vv = .int .i64 11128 ∧ iv = .int .i64 13) ∨ (vv = .int .i64 5426 ∧ iv = .int .i64 12) ∨ (vv = .int .i64 2583 ∧ iv = .int .i64 11))) (fun _ iv _ => (intOf iv).toNat)
  case atStart => exact ⟨⟨0, rfl⟩, .inl ⟨rfl, rfl⟩⟩
  case round =>
    obtain ⟨⟨m, rfl⟩, ⟨rfl, rfl⟩ | ⟨rfl, rfl⟩ | ⟨rfl, rfl⟩ | ⟨rfl, rfl⟩ | ⟨rfl, rfl⟩ | ⟨rfl, rfl⟩ | ⟨rfl, rfl⟩⟩ := hrel
    · go_wp2_with fail
      go_roundw
      case rel => exact ⟨⟨m, rfl⟩, .inr (.inl ⟨rfl, rfl⟩)⟩
      case measure => simp [intOf]
    · go_wp2_with fail
      go_roundw
      case rel => exact ⟨⟨m, rfl⟩, .inr (.inr (.inl ⟨rfl, rfl⟩))⟩
      case measure => simp [intOf]
    · go_wp2_with fail
      go_roundw
      case rel => exact ⟨⟨m, rfl⟩, .inr (.inr (.inr (.inl ⟨rfl, rfl⟩)))⟩
      case measure => simp [intOf]
    · go_wp2_with fail
      go_roundw
      case rel => exact ⟨⟨m, rfl⟩, .inr (.inr (.inr (.inr (.inl ⟨rfl, rfl⟩))))⟩
      case measure => simp [intOf]
    · go_wp2_with fail
      go_roundw
      case rel => exact ⟨⟨m, rfl⟩, .inr (.inr (.inr (.inr (.inr (.inl ⟨rfl, rfl⟩)))))⟩
      case measure => simp [intOf]
    · go_wp2_with fail
      go_roundw
      case rel => exact ⟨⟨m, rfl⟩, .inr (.inr (.inr (.inr (.inr (.inr (⟨rfl, rfl⟩))))))⟩
      case measure => simp [intOf]
    · go_wp2_with fail
      go_ret
      exact ⟨rfl, m, rfl⟩
set_option maxRecDepth 20000 in
theorem vbits18 (w : World) : Calls Try.prog 12 #[.int .i64 18] w fun e w' => e = .returned (.int .i64 76311) ∧ ∃ m, w.drewN m = w' := by
  have r := fun W => rest18 W
  go_enter Try.func12, Try.ntmps12
  go_wp2_with fail
  refine (r _).mono ?_
  rintro e w1 ⟨rfl, m, rfl⟩
  go_wp2_with fail
  go_ret
  exact ⟨rfl, m, rfl⟩
set_option maxRecDepth 20000 in
set_option maxHeartbeats 4000000 in
theorem rest19 (w : World) : Calls Try.prog 34 #[.int .i64 77824, .int .i64 7973, .int .i64 13] w fun e w' => e = .returned (.int .i64 1330) ∧ ∃ m, w.drewN m = w' := by
  go_enter Try.func34, Try.ntmps34
  go_wp2_with fail
  go_loopw [0, 7] (fun vv iv wr => (∃ m, w.drewN m = wr) ∧ ((vv = .int .i64 77824 ∧ iv = .int .i64 17) ∨ (vv = .int .i64 77824 ∧ iv = .int .i64 16) ∨ (vv = .int .i64 49744 ∧ iv = .int .i64 15) ∨ (vv = .int .i64 15224 ∧ iv = .int .i64 14) ∨ (vv = .int .i64 15224 ∧ iv = .int .i64 13) ∨ (vv = .int .i64 1330 ∧ iv = .int .i64 12) ∨ (vv = .int .i64 1330 ∧ iv = .int .i64 11))) (fun _ iv _ => (intOf iv).toNat)
  case atStart => exact ⟨⟨0, rfl⟩, .inl ⟨rfl, rfl⟩⟩
  case round =>
    obtain ⟨⟨m, rfl⟩, ⟨rfl, rfl⟩ | ⟨rfl, rfl⟩ | ⟨rfl, rfl⟩ | ⟨rfl, rfl⟩ | ⟨rfl, rfl⟩ | ⟨rfl, rfl⟩ | ⟨rfl, rfl⟩⟩ := hrel
    · go_wp2_with fail
      go_roundw
      case rel => exact ⟨⟨m, rfl⟩, .inr (.inl ⟨rfl, rfl⟩)⟩
      case measure => simp [intOf]
    · go_wp2_with fail
      go_roundw
      case rel => exact ⟨⟨m, rfl⟩, .inr (.inr (.inl ⟨rfl, rfl⟩))⟩
      case measure => simp [intOf]
    · go_wp2_with fail
      go_roundw
      case rel => exact ⟨⟨m, rfl⟩, .inr (.inr (.inr (.inl ⟨rfl, rfl⟩)))⟩
      case measure => simp [intOf]
    · go_wp2_with fail
      go_roundw
      case rel => exact ⟨⟨m, rfl⟩, .inr (.inr (.inr (.inr (.inl ⟨rfl, rfl⟩))))⟩
      case measure => simp [intOf]
    · go_wp2_with fail
      go_roundw
      case rel => exact ⟨⟨m, rfl⟩, .inr (.inr (.inr (.inr (.inr (.inl ⟨rfl, rfl⟩)))))⟩
      case measure => simp [intOf]
    · go_wp2_with fail
      go_roundw
      case rel => exact ⟨⟨m, rfl⟩, .inr (.inr (.inr (.inr (.inr (.inr (⟨rfl, rfl⟩))))))⟩
      case measure => simp [intOf]
    · go_wp2_with fail
      go_ret
      exact ⟨rfl, m, rfl⟩
set_option maxRecDepth 20000 in
theorem vbits19 (w : World) : Calls Try.prog 12 #[.int .i64 19] w fun e w' => e = .returned (.int .i64 79154) ∧ ∃ m, w.drewN m = w' := by
  have r := fun W => rest19 W
  go_enter Try.func12, Try.ntmps12
  go_wp2_with fail
  refine (r _).mono ?_
  rintro e w1 ⟨rfl, m, rfl⟩
  go_wp2_with fail
  go_ret
  exact ⟨rfl, m, rfl⟩
set_option maxRecDepth 20000 in
set_option maxHeartbeats 4000000 in
theorem rest20 (w : World) : Calls Try.prog 34 #[.int .i64 81920, .int .i64 7973, .int .i64 13] w fun e w' => e = .returned (.int .i64 2470) ∧ ∃ m, w.drewN m = w' := by
  go_enter Try.func34, Try.ntmps34
  go_wp2_with fail
  go_loopw [0, 7] (fun vv iv wr => (∃ m, w.drewN m = wr) ∧ ((vv = .int .i64 81920 ∧ iv = .int .i64 17) ∨ (vv = .int .i64 81920 ∧ iv = .int .i64 16) ∨ (vv = .int .i64 45648 ∧ iv = .int .i64 15) ∨ (vv = .int .i64 19320 ∧ iv = .int .i64 14) ∨ (vv = .int .i64 14316 ∧ iv = .int .i64 13) ∨ (vv = .int .i64 2470 ∧ iv = .int .i64 12) ∨ (vv = .int .i64 2470 ∧ iv = .int .i64 11))) (fun _ iv _ => (intOf iv).toNat)
  case atStart => exact ⟨⟨0, rfl⟩, .inl ⟨rfl, rfl⟩⟩
  case round =>
    obtain ⟨⟨m, rfl⟩, ⟨rfl, rfl⟩ | ⟨rfl, rfl⟩ | ⟨rfl, rfl⟩ | ⟨rfl, rfl⟩ | ⟨rfl, rfl⟩ | ⟨rfl, rfl⟩ | ⟨rfl, rfl⟩⟩ := hrel
    · go_wp2_with fail
      go_roundw
      case rel => exact ⟨⟨m, rfl⟩, .inr (.inl ⟨rfl, rfl⟩)⟩
      case measure => simp [intOf]
    · go_wp2_with fail
      go_roundw
      case rel => exact ⟨⟨m, rfl⟩, .inr (.inr (.inl ⟨rfl, rfl⟩))⟩
      case measure => simp [intOf]
    · go_wp2_with fail
      go_roundw
      case rel => exact ⟨⟨m, rfl⟩, .inr (.inr (.inr (.inl ⟨rfl, rfl⟩)))⟩
      case measure => simp [intOf]
    · go_wp2_with fail
      go_roundw
      case rel => exact ⟨⟨m, rfl⟩, .inr (.inr (.inr (.inr (.inl ⟨rfl, rfl⟩))))⟩
      case measure => simp [intOf]
    · go_wp2_with fail
      go_roundw
      case rel => exact ⟨⟨m, rfl⟩, .inr (.inr (.inr (.inr (.inr (.inl ⟨rfl, rfl⟩)))))⟩
      case measure => simp [intOf]
    · go_wp2_with fail
      go_roundw
      case rel => exact ⟨⟨m, rfl⟩, .inr (.inr (.inr (.inr (.inr (.inr (⟨rfl, rfl⟩))))))⟩
      case measure => simp [intOf]
    · go_wp2_with fail
      go_ret
      exact ⟨rfl, m, rfl⟩
set_option maxRecDepth 20000 in
theorem vbits20 (w : World) : Calls Try.prog 12 #[.int .i64 20] w fun e w' => e = .returned (.int .i64 84390) ∧ ∃ m, w.drewN m = w' := by
  have r := fun W => rest20 W
  go_enter Try.func12, Try.ntmps12
  go_wp2_with fail
  refine (r _).mono ?_
  rintro e w1 ⟨rfl, m, rfl⟩
  go_wp2_with fail
  go_ret
  exact ⟨rfl, m, rfl⟩
set_option maxRecDepth 20000 in
set_option maxHeartbeats 4000000 in
theorem rest21 (w : World) : Calls Try.prog 34 #[.int .i64 86016, .int .i64 7973, .int .i64 13] w fun e w' => e = .returned (.int .i64 1667) ∧ ∃ m, w.drewN m = w' := by
  go_enter Try.func34, Try.ntmps34
  go_wp2_with fail
  go_loopw [0, 7] (fun vv iv wr => (∃ m, w.drewN m = wr) ∧ ((vv = .int .i64 86016 ∧ iv = .int .i64 17) ∨ (vv = .int .i64 86016 ∧ iv = .int .i64 16) ∨ (vv = .int .i64 41552 ∧ iv = .int .i64 15) ∨ (vv = .int .i64 23416 ∧ iv = .int .i64 14) ∨ (vv = .int .i64 10220 ∧ iv = .int .i64 13) ∨ (vv = .int .i64 6566 ∧ iv = .int .i64 12) ∨ (vv = .int .i64 1667 ∧ iv = .int .i64 11))) (fun _ iv _ => (intOf iv).toNat)
  case atStart => exact ⟨⟨0, rfl⟩, .inl ⟨rfl, rfl⟩⟩
  case round =>
    obtain ⟨⟨m, rfl⟩, ⟨rfl, rfl⟩ | ⟨rfl, rfl⟩ | ⟨rfl, rfl⟩ | ⟨rfl, rfl⟩ | ⟨rfl, rfl⟩ | ⟨rfl, rfl⟩ | ⟨rfl, rfl⟩⟩ := hrel
    · go_wp2_with fail
      go_roundw
      case rel => exact ⟨⟨m, rfl⟩, .inr (.inl ⟨rfl, rfl⟩)⟩
      case measure => simp [intOf]
    · go_wp2_with fail
      go_roundw
      case rel => exact ⟨⟨m, rfl⟩, .inr (.inr (.inl ⟨rfl, rfl⟩))⟩
      case measure => simp [intOf]
    · go_wp2_with fail
      go_roundw
      case rel => exact ⟨⟨m, rfl⟩, .inr (.inr (.inr (.inl ⟨rfl, rfl⟩)))⟩
      case measure => simp [intOf]
    · go_wp2_with fail
      go_roundw
      case rel => exact ⟨⟨m, rfl⟩, .inr (.inr (.inr (.inr (.inl ⟨rfl, rfl⟩))))⟩
      case measure => simp [intOf]
    · go_wp2_with fail
      go_roundw
      case rel => exact ⟨⟨m, rfl⟩, .inr (.inr (.inr (.inr (.inr (.inl ⟨rfl, rfl⟩)))))⟩
      case measure => simp [intOf]
    · go_wp2_with fail
      go_roundw
      case rel => exact ⟨⟨m, rfl⟩, .inr (.inr (.inr (.inr (.inr (.inr (⟨rfl, rfl⟩))))))⟩
      case measure => simp [intOf]
    · go_wp2_with fail
      go_ret
      exact ⟨rfl, m, rfl⟩
set_option maxRecDepth 20000 in
theorem vbits21 (w : World) : Calls Try.prog 12 #[.int .i64 21] w fun e w' => e = .returned (.int .i64 87683) ∧ ∃ m, w.drewN m = w' := by
  have r := fun W => rest21 W
  go_enter Try.func12, Try.ntmps12
  go_wp2_with fail
  refine (r _).mono ?_
  rintro e w1 ⟨rfl, m, rfl⟩
  go_wp2_with fail
  go_ret
  exact ⟨rfl, m, rfl⟩
set_option maxRecDepth 20000 in
set_option maxHeartbeats 4000000 in
theorem rest22 (w : World) : Calls Try.prog 34 #[.int .i64 90112, .int .i64 7973, .int .i64 13] w fun e w' => e = .returned (.int .i64 2249) ∧ ∃ m, w.drewN m = w' := by
  go_enter Try.func34, Try.ntmps34
  go_wp2_with fail
  go_loopw [0, 7] (fun vv iv wr => (∃ m, w.drewN m = wr) ∧ ((vv = .int .i64 90112 ∧ iv = .int .i64 17) ∨ (vv = .int .i64 90112 ∧ iv = .int .i64 16) ∨ (vv = .int .i64 37456 ∧ iv = .int .i64 15) ∨ (vv = .int .i64 27512 ∧ iv = .int .i64 14) ∨ (vv = .int .i64 6124 ∧ iv = .int .i64 13) ∨ (vv = .int .i64 6124 ∧ iv = .int .i64 12) ∨ (vv = .int .i64 2249 ∧ iv = .int .i64 11))) (fun _ iv _ => (intOf iv).toNat)
  case atStart => exact ⟨⟨0, rfl⟩, .inl ⟨rfl, rfl⟩⟩
  case round =>
    obtain ⟨⟨m, rfl⟩, ⟨rfl, rfl⟩ | ⟨rfl, rfl⟩ | ⟨rfl, rfl⟩ | ⟨rfl, rfl⟩ | ⟨rfl, rfl⟩ | ⟨rfl, rfl⟩ | ⟨rfl, rfl⟩⟩ := hrel
    · go_wp2_with fail
      go_roundw
      case rel => exact ⟨⟨m, rfl⟩, .inr (.inl ⟨rfl, rfl⟩)⟩
      case measure => simp [intOf]
    · go_wp2_with fail
      go_roundw
      case rel => exact ⟨⟨m, rfl⟩, .inr (.inr (.inl ⟨rfl, rfl⟩))⟩
      case measure => simp [intOf]
    · go_wp2_with fail
      go_roundw
      case rel => exact ⟨⟨m, rfl⟩, .inr (.inr (.inr (.inl ⟨rfl, rfl⟩)))⟩
      case measure => simp [intOf]
    · go_wp2_with fail
      go_roundw
      case rel => exact ⟨⟨m, rfl⟩, .inr (.inr (.inr (.inr (.inl ⟨rfl, rfl⟩))))⟩
      case measure => simp [intOf]
    · go_wp2_with fail
      go_roundw
      case rel => exact ⟨⟨m, rfl⟩, .inr (.inr (.inr (.inr (.inr (.inl ⟨rfl, rfl⟩)))))⟩
      case measure => simp [intOf]
    · go_wp2_with fail
      go_roundw
      case rel => exact ⟨⟨m, rfl⟩, .inr (.inr (.inr (.inr (.inr (.inr (⟨rfl, rfl⟩))))))⟩
      case measure => simp [intOf]
    · go_wp2_with fail
      go_ret
      exact ⟨rfl, m, rfl⟩
set_option maxRecDepth 20000 in
theorem vbits22 (w : World) : Calls Try.prog 12 #[.int .i64 22] w fun e w' => e = .returned (.int .i64 92361) ∧ ∃ m, w.drewN m = w' := by
  have r := fun W => rest22 W
  go_enter Try.func12, Try.ntmps12
  go_wp2_with fail
  refine (r _).mono ?_
  rintro e w1 ⟨rfl, m, rfl⟩
  go_wp2_with fail
  go_ret
  exact ⟨rfl, m, rfl⟩
set_option maxRecDepth 20000 in
set_option maxHeartbeats 4000000 in
theorem rest23 (w : World) : Calls Try.prog 34 #[.int .i64 94208, .int .i64 7973, .int .i64 13] w fun e w' => e = .returned (.int .i64 2028) ∧ ∃ m, w.drewN m = w' := by
  go_enter Try.func34, Try.ntmps34
  go_wp2_with fail
  go_loopw [0, 7] (fun vv iv wr => (∃ m, w.drewN m = wr) ∧ ((vv = .int .i64 94208 ∧ iv = .int .i64 17) ∨ (vv = .int .i64 94208 ∧ iv = .int .i64 16) ∨ (vv = .int .i64 33360 ∧ iv = .int .i64 15) ∨ (vv = .int .i64 31608 ∧ iv = .int .i64 14) ∨ (vv = .int .i64 2028 ∧ iv = .int .i64 13) ∨ (vv = .int .i64 2028 ∧ iv = .int .i64 12) ∨ (vv = .int .i64 2028 ∧ iv = .int .i64 11))) (fun _ iv _ => (intOf iv).toNat)
  case atStart => exact ⟨⟨0, rfl⟩, .inl ⟨rfl, rfl⟩⟩
  case round =>
    obtain ⟨⟨m, rfl⟩, ⟨rfl, rfl⟩ | ⟨rfl, rfl⟩ | ⟨rfl, rfl⟩ | ⟨rfl, rfl⟩ | ⟨rfl, rfl⟩ | ⟨rfl, rfl⟩ | ⟨rfl, rfl⟩⟩ := hrel
    · go_wp2_with fail
      go_roundw
      case rel => exact ⟨⟨m, rfl⟩, .inr (.inl ⟨rfl, rfl⟩)⟩
      case measure => simp [intOf]
    · go_wp2_with fail
      go_roundw
      case rel => exact ⟨⟨m, rfl⟩, .inr (.inr (.inl ⟨rfl, rfl⟩))⟩
      case measure => simp [intOf]
    · go_wp2_with fail
      go_roundw
      case rel => exact ⟨⟨m, rfl⟩, .inr (.inr (.inr (.inl ⟨rfl, rfl⟩)))⟩
      case measure => simp [intOf]
    · go_wp2_with fail
      go_roundw
      case rel => exact ⟨⟨m, rfl⟩, .inr (.inr (.inr (.inr (.inl ⟨rfl, rfl⟩))))⟩
      case measure => simp [intOf]
    · go_wp2_with fail
      go_roundw
      case rel => exact ⟨⟨m, rfl⟩, .inr (.inr (.inr (.inr (.inr (.inl ⟨rfl, rfl⟩)))))⟩
      case measure => simp [intOf]
    · go_wp2_with fail
      go_roundw
      case rel => exact ⟨⟨m, rfl⟩, .inr (.inr (.inr (.inr (.inr (.inr (⟨rfl, rfl⟩))))))⟩
      case measure => simp [intOf]
    · go_wp2_with fail
      go_ret
      exact ⟨rfl, m, rfl⟩
set_option maxRecDepth 20000 in
theorem vbits23 (w : World) : Calls Try.prog 12 #[.int .i64 23] w fun e w' => e = .returned (.int .i64 96236) ∧ ∃ m, w.drewN m = w' := by
  have r := fun W => rest23 W
  go_enter Try.func12, Try.ntmps12
  go_wp2_with fail
  refine (r _).mono ?_
  rintro e w1 ⟨rfl, m, rfl⟩
  go_wp2_with fail
  go_ret
  exact ⟨rfl, m, rfl⟩
set_option maxRecDepth 20000 in
set_option maxHeartbeats 4000000 in
theorem rest24 (w : World) : Calls Try.prog 34 #[.int .i64 98304, .int .i64 7973, .int .i64 13] w fun e w' => e = .returned (.int .i64 3780) ∧ ∃ m, w.drewN m = w' := by
  go_enter Try.func34, Try.ntmps34
  go_wp2_with fail
  go_loopw [0, 7] (fun vv iv wr => (∃ m, w.drewN m = wr) ∧ ((vv = .int .i64 98304 ∧ iv = .int .i64 17) ∨ (vv = .int .i64 98304 ∧ iv = .int .i64 16) ∨ (vv = .int .i64 29264 ∧ iv = .int .i64 15) ∨ (vv = .int .i64 29264 ∧ iv = .int .i64 14) ∨ (vv = .int .i64 3780 ∧ iv = .int .i64 13) ∨ (vv = .int .i64 3780 ∧ iv = .int .i64 12) ∨ (vv = .int .i64 3780 ∧ iv = .int .i64 11))) (fun _ iv _ => (intOf iv).toNat)
  case atStart => exact ⟨⟨0, rfl⟩, .inl ⟨rfl, rfl⟩⟩
  case round =>
    obtain ⟨⟨m, rfl⟩, ⟨rfl, rfl⟩ | ⟨rfl, rfl⟩ | ⟨rfl, rfl⟩ | ⟨rfl, rfl⟩ | ⟨rfl, rfl⟩ | ⟨rfl, rfl⟩ | ⟨rfl, rfl⟩⟩ := hrel
    · go_wp2_with fail
      go_roundw
      case rel => exact ⟨⟨m, rfl⟩, .inr (.inl ⟨rfl, rfl⟩)⟩
      case measure => simp [intOf]
    · go_wp2_with fail
      go_roundw
      case rel => exact ⟨⟨m, rfl⟩, .inr (.inr (.inl ⟨rfl, rfl⟩))⟩
      case measure => simp [intOf]
    · go_wp2_with fail
      go_roundw
      case rel => exact ⟨⟨m, rfl⟩, .inr (.inr (.inr (.inl ⟨rfl, rfl⟩)))⟩
      case measure => simp [intOf]
    · go_wp2_with fail
      go_roundw
      case rel => exact ⟨⟨m, rfl⟩, .inr (.inr (.inr (.inr (.inl ⟨rfl, rfl⟩))))⟩
      case measure => simp [intOf]
    · go_wp2_with fail
      go_roundw
      case rel => exact ⟨⟨m, rfl⟩, .inr (.inr (.inr (.inr (.inr (.inl ⟨rfl, rfl⟩)))))⟩
      case measure => simp [intOf]
    · go_wp2_with fail
      go_roundw
      case rel => exact ⟨⟨m, rfl⟩, .inr (.inr (.inr (.inr (.inr (.inr (⟨rfl, rfl⟩))))))⟩
      case measure => simp [intOf]
    · go_wp2_with fail
      go_ret
      exact ⟨rfl, m, rfl⟩
set_option maxRecDepth 20000 in
theorem vbits24 (w : World) : Calls Try.prog 12 #[.int .i64 24] w fun e w' => e = .returned (.int .i64 102084) ∧ ∃ m, w.drewN m = w' := by
  have r := fun W => rest24 W
  go_enter Try.func12, Try.ntmps12
  go_wp2_with fail
  refine (r _).mono ?_
  rintro e w1 ⟨rfl, m, rfl⟩
  go_wp2_with fail
  go_ret
  exact ⟨rfl, m, rfl⟩
set_option maxRecDepth 20000 in
set_option maxHeartbeats 4000000 in
theorem rest25 (w : World) : Calls Try.prog 34 #[.int .i64 102400, .int .i64 7973, .int .i64 13] w fun e w' => e = .returned (.int .i64 481) ∧ ∃ m, w.drewN m = w' := by
  go_enter Try.func34, Try.ntmps34
  go_wp2_with fail
  go_loopw [0, 7] (fun vv iv wr => (∃ m, w.drewN m = wr) ∧ ((vv = .int .i64 102400 ∧ iv = .int .i64 17) ∨ (vv = .int .i64 102400 ∧ iv = .int .i64 16) ∨ (vv = .int .i64 25168 ∧ iv = .int .i64 15) ∨ (vv = .int .i64 25168 ∧ iv = .int .i64 14) ∨ (vv = .int .i64 7876 ∧ iv = .int .i64 13) ∨ (vv = .int .i64 7876 ∧ iv = .int .i64 12) ∨ (vv = .int .i64 481 ∧ iv = .int .i64 11))) (fun _ iv _ => (intOf iv).toNat)
  case atStart => exact ⟨⟨0, rfl⟩, .inl ⟨rfl, rfl⟩⟩
  case round =>
    obtain ⟨⟨m, rfl⟩, ⟨rfl, rfl⟩ | ⟨rfl, rfl⟩ | ⟨rfl, rfl⟩ | ⟨rfl, rfl⟩ | ⟨rfl, rfl⟩ | ⟨rfl, rfl⟩ | ⟨rfl, rfl⟩⟩ := hrel
    · go_wp2_with fail
      go_roundw
      case rel => exact ⟨⟨m, rfl⟩, .inr (.inl ⟨rfl, rfl⟩)⟩
      case measure => simp [intOf]
    · go_wp2_with fail
      go_roundw
      case rel => exact ⟨⟨m, rfl⟩, .inr (.inr (.inl ⟨rfl, rfl⟩))⟩
      case measure => simp [intOf]
    · go_wp2_with fail
      go_roundw
      case rel => exact ⟨⟨m, rfl⟩, .inr (.inr (.inr (.inl ⟨rfl, rfl⟩)))⟩
      case measure => simp [intOf]
    · go_wp2_with fail
      go_roundw
      case rel => exact ⟨⟨m, rfl⟩, .inr (.inr (.inr (.inr (.inl ⟨rfl, rfl⟩))))⟩
      case measure => simp [intOf]
    · go_wp2_with fail
      go_roundw
      case rel => exact ⟨⟨m, rfl⟩, .inr (.inr (.inr (.inr (.inr (.inl ⟨rfl, rfl⟩)))))⟩
      case measure => simp [intOf]
    · go_wp2_with fail
      go_roundw
      case rel => exact ⟨⟨m, rfl⟩, .inr (.inr (.inr (.inr (.inr (.inr (⟨rfl, rfl⟩))))))⟩
      case measure => simp [intOf]
    · go_wp2_with fail
      go_ret
      exact ⟨rfl, m, rfl⟩
set_option maxRecDepth 20000 in
theorem vbits25 (w : World) : Calls Try.prog 12 #[.int .i64 25] w fun e w' => e = .returned (.int .i64 102881) ∧ ∃ m, w.drewN m = w' := by
  have r := fun W => rest25 W
  go_enter Try.func12, Try.ntmps12
  go_wp2_with fail
  refine (r _).mono ?_
  rintro e w1 ⟨rfl, m, rfl⟩
  go_wp2_with fail
  go_ret
  exact ⟨rfl, m, rfl⟩
set_option maxRecDepth 20000 in
set_option maxHeartbeats 4000000 in
theorem rest26 (w : World) : Calls Try.prog 34 #[.int .i64 106496, .int .i64 7973, .int .i64 13] w fun e w' => e = .returned (.int .i64 4011) ∧ ∃ m, w.drewN m = w' := by
  go_enter Try.func34, Try.ntmps34
  go_wp2_with fail
  go_loopw [0, 7] (fun vv iv wr => (∃ m, w.drewN m = wr) ∧ ((vv = .int .i64 106496 ∧ iv = .int .i64 17) ∨ (vv = .int .i64 106496 ∧ iv = .int .i64 16) ∨ (vv = .int .i64 21072 ∧ iv = .int .i64 15) ∨ (vv = .int .i64 21072 ∧ iv = .int .i64 14) ∨ (vv = .int .i64 11972 ∧ iv = .int .i64 13) ∨ (vv = .int .i64 4238 ∧ iv = .int .i64 12) ∨ (vv = .int .i64 4011 ∧ iv = .int .i64 11))) (fun _ iv _ => (intOf iv).toNat)
  case atStart => exact ⟨⟨0, rfl⟩, .inl ⟨rfl, rfl⟩⟩
  case round =>
    obtain ⟨⟨m, rfl⟩, ⟨rfl, rfl⟩ | ⟨rfl, rfl⟩ | ⟨rfl, rfl⟩ | ⟨rfl, rfl⟩ | ⟨rfl, rfl⟩ | ⟨rfl, rfl⟩ | ⟨rfl, rfl⟩⟩ := hrel
    · go_wp2_with fail
      go_roundw
      case rel => exact ⟨⟨m, rfl⟩, .inr (.inl ⟨rfl, rfl⟩)⟩
      case measure => simp [intOf]
    · go_wp2_with fail
      go_roundw
      case rel => exact ⟨⟨m, rfl⟩, .inr (.inr (.inl ⟨rfl, rfl⟩))⟩
      case measure => simp [intOf]
    · go_wp2_with fail
      go_roundw
      case rel => exact ⟨⟨m, rfl⟩, .inr (.inr (.inr (.inl ⟨rfl, rfl⟩)))⟩
      case measure => simp [intOf]
    · go_wp2_with fail
      go_roundw
      case rel => exact ⟨⟨m, rfl⟩, .inr (.inr (.inr (.inr (.inl ⟨rfl, rfl⟩))))⟩
      case measure => simp [intOf]
    · go_wp2_with fail
      go_roundw
      case rel => exact ⟨⟨m, rfl⟩, .inr (.inr (.inr (.inr (.inr (.inl ⟨rfl, rfl⟩)))))⟩
      case measure => simp [intOf]
    · go_wp2_with fail
      go_roundw
      case rel => exact ⟨⟨m, rfl⟩, .inr (.inr (.inr (.inr (.inr (.inr (⟨rfl, rfl⟩))))))⟩
      case measure => simp [intOf]
    · go_wp2_with fail
      go_ret
      exact ⟨rfl, m, rfl⟩
set_option maxRecDepth 20000 in
theorem vbits26 (w : World) : Calls Try.prog 12 #[.int .i64 26] w fun e w' => e = .returned (.int .i64 110507) ∧ ∃ m, w.drewN m = w' := by
  have r := fun W => rest26 W
  go_enter Try.func12, Try.ntmps12
  go_wp2_with fail
  refine (r _).mono ?_
  rintro e w1 ⟨rfl, m, rfl⟩
  go_wp2_with fail
  go_ret
  exact ⟨rfl, m, rfl⟩
set_option maxRecDepth 20000 in
set_option maxHeartbeats 4000000 in
theorem rest27 (w : World) : Calls Try.prog 34 #[.int .i64 110592, .int .i64 7973, .int .i64 13] w fun e w' => e = .returned (.int .i64 142) ∧ ∃ m, w.drewN m = w' := by
  go_enter Try.func34, Try.ntmps34
  go_wp2_with fail
  go_loopw [0, 7] (fun vv iv wr => (∃ m, w.drewN m = wr) ∧ ((vv = .int .i64 110592 ∧ iv = .int .i64 17) ∨ (vv = .int .i64 110592 ∧ iv = .int .i64 16) ∨ (vv = .int .i64 16976 ∧ iv = .int .i64 15) ∨ (vv = .int .i64 16976 ∧ iv = .int .i64 14) ∨ (vv = .int .i64 16068 ∧ iv = .int .i64 13) ∨ (vv = .int .i64 142 ∧ iv = .int .i64 12) ∨ (vv = .int .i64 142 ∧ iv = .int .i64 11))) (fun _ iv _ => (intOf iv).toNat)
  case atStart => exact ⟨⟨0, rfl⟩, .inl ⟨rfl, rfl⟩⟩
  case round =>
    obtain ⟨⟨m, rfl⟩, ⟨rfl, rfl⟩ | ⟨rfl, rfl⟩ | ⟨rfl, rfl⟩ | ⟨rfl, rfl⟩ | ⟨rfl, rfl⟩ | ⟨rfl, rfl⟩ | ⟨rfl, rfl⟩⟩ := hrel
    · go_wp2_with fail
      go_roundw
      case rel => exact ⟨⟨m, rfl⟩, .inr (.inl ⟨rfl, rfl⟩)⟩
      case measure => simp [intOf]
    · go_wp2_with fail
      go_roundw
      case rel => exact ⟨⟨m, rfl⟩, .inr (.inr (.inl ⟨rfl, rfl⟩))⟩
      case measure => simp [intOf]
    · go_wp2_with fail
      go_roundw
      case rel => exact ⟨⟨m, rfl⟩, .inr (.inr (.inr (.inl ⟨rfl, rfl⟩)))⟩
      case measure => simp [intOf]
    · go_wp2_with fail
      go_roundw
      case rel => exact ⟨⟨m, rfl⟩, .inr (.inr (.inr (.inr (.inl ⟨rfl, rfl⟩))))⟩
      case measure => simp [intOf]
    · go_wp2_with fail
      go_roundw
      case rel => exact ⟨⟨m, rfl⟩, .inr (.inr (.inr (.inr (.inr (.inl ⟨rfl, rfl⟩)))))⟩
      case measure => simp [intOf]
    · go_wp2_with fail
      go_roundw
      case rel => exact ⟨⟨m, rfl⟩, .inr (.inr (.inr (.inr (.inr (.inr (⟨rfl, rfl⟩))))))⟩
      case measure => simp [intOf]
    · go_wp2_with fail
      go_ret
      exact ⟨rfl, m, rfl⟩
set_option maxRecDepth 20000 in
theorem vbits27 (w : World) : Calls Try.prog 12 #[.int .i64 27] w fun e w' => e = .returned (.int .i64 110734) ∧ ∃ m, w.drewN m = w' := by
  have r := fun W => rest27 W
  go_enter Try.func12, Try.ntmps12
  go_wp2_with fail
  refine (r _).mono ?_
  rintro e w1 ⟨rfl, m, rfl⟩
  go_wp2_with fail
  go_ret
  exact ⟨rfl, m, rfl⟩
set_option maxRecDepth 20000 in
set_option maxHeartbeats 4000000 in
theorem rest28 (w : World) : Calls Try.prog 34 #[.int .i64 114688, .int .i64 7973, .int .i64 13] w fun e w' => e = .returned (.int .i64 3098) ∧ ∃ m, w.drewN m = w' := by
  go_enter Try.func34, Try.ntmps34
  go_wp2_with fail
  go_loopw [0, 7] (fun vv iv wr => (∃ m, w.drewN m = wr) ∧ ((vv = .int .i64 114688 ∧ iv = .int .i64 17) ∨ (vv = .int .i64 114688 ∧ iv = .int .i64 16) ∨ (vv = .int .i64 12880 ∧ iv = .int .i64 15) ∨ (vv = .int .i64 12880 ∧ iv = .int .i64 14) ∨ (vv = .int .i64 12880 ∧ iv = .int .i64 13) ∨ (vv = .int .i64 3098 ∧ iv = .int .i64 12) ∨ (vv = .int .i64 3098 ∧ iv = .int .i64 11))) (fun _ iv _ => (intOf iv).toNat)
  case atStart => exact ⟨⟨0, rfl⟩, .inl ⟨rfl, rfl⟩⟩
  case round =>
    obtain ⟨⟨m, rfl⟩, ⟨rfl, rfl⟩ | ⟨rfl, rfl⟩ | ⟨rfl, rfl⟩ | ⟨rfl, rfl⟩ | ⟨rfl, rfl⟩ | ⟨rfl, rfl⟩ | ⟨rfl, rfl⟩⟩ := hrel
    · go_wp2_with fail
      go_roundw
      case rel => exact ⟨⟨m, rfl⟩, .inr (.inl ⟨rfl, rfl⟩)⟩
      case measure => simp [intOf]
    · go_wp2_with fail
      go_roundw
      case rel => exact ⟨⟨m, rfl⟩, .inr (.inr (.inl ⟨rfl, rfl⟩))⟩
      case measure => simp [intOf]
    · go_wp2_with fail
      go_roundw
      case rel => exact ⟨⟨m, rfl⟩, .inr (.inr (.inr (.inl ⟨rfl, rfl⟩)))⟩
      case measure => simp [intOf]
    · go_wp2_with fail
      go_roundw
      case rel => exact ⟨⟨m, rfl⟩, .inr (.inr (.inr (.inr (.inl ⟨rfl, rfl⟩))))⟩
      case measure => simp [intOf]
    · go_wp2_with fail
      go_roundw
      case rel => exact ⟨⟨m, rfl⟩, .inr (.inr (.inr (.inr (.inr (.inl ⟨rfl, rfl⟩)))))⟩
      case measure => simp [intOf]
    · go_wp2_with fail
      go_roundw
      case rel => exact ⟨⟨m, rfl⟩, .inr (.inr (.inr (.inr (.inr (.inr (⟨rfl, rfl⟩))))))⟩
      case measure => simp [intOf]
    · go_wp2_with fail
      go_ret
      exact ⟨rfl, m, rfl⟩
set_option maxRecDepth 20000 in
theorem vbits28 (w : World) : Calls Try.prog 12 #[.int .i64 28] w fun e w' => e = .returned (.int .i64 117786) ∧ ∃ m, w.drewN m = w' := by
  have r := fun W => rest28 W
  go_enter Try.func12, Try.ntmps12
  go_wp2_with fail
  refine (r _).mono ?_
  rintro e w1 ⟨rfl, m, rfl⟩
  go_wp2_with fail
  go_ret
  exact ⟨rfl, m, rfl⟩
set_option maxRecDepth 20000 in
set_option maxHeartbeats 4000000 in
theorem rest29 (w : World) : Calls Try.prog 34 #[.int .i64 118784, .int .i64 7973, .int .i64 13] w fun e w' => e = .returned (.int .i64 831) ∧ ∃ m, w.drewN m = w' := by
  go_enter Try.func34, Try.ntmps34
  go_wp2_with fail
  go_loopw [0, 7] (fun vv iv wr => (∃ m, w.drewN m = wr) ∧ ((vv = .int .i64 118784 ∧ iv = .int .i64 17) ∨ (vv = .int .i64 118784 ∧ iv = .int .i64 16) ∨ (vv = .int .i64 8784 ∧ iv = .int .i64 15) ∨ (vv = .int .i64 8784 ∧ iv = .int .i64 14) ∨ (vv = .int .i64 8784 ∧ iv = .int .i64 13) ∨ (vv = .int .i64 7194 ∧ iv = .int .i64 12) ∨ (vv = .int .i64 831 ∧ iv = .int .i64 11))) (fun _ iv _ => (intOf iv).toNat)
  case atStart => exact ⟨⟨0, rfl⟩, .inl ⟨rfl, rfl⟩⟩
  case round =>
    obtain ⟨⟨m, rfl⟩, ⟨rfl, rfl⟩ | ⟨rfl, rfl⟩ | ⟨rfl, rfl⟩ | ⟨rfl, rfl⟩ | ⟨rfl, rfl⟩ | ⟨rfl, rfl⟩ | ⟨rfl, rfl⟩⟩ := hrel
    · go_wp2_with fail
      go_roundw
      case rel => exact ⟨⟨m, rfl⟩, .inr (.inl ⟨rfl, rfl⟩)⟩
      case measure => simp [intOf]
    · go_wp2_with fail
      go_roundw
      case rel => exact ⟨⟨m, rfl⟩, .inr (.inr (.inl ⟨rfl, rfl⟩))⟩
      case measure => simp [intOf]
    · go_wp2_with fail
      go_roundw
      case rel => exact ⟨⟨m, rfl⟩, .inr (.inr (.inr (.inl ⟨rfl, rfl⟩)))⟩
      case measure => simp [intOf]
    · go_wp2_with fail
      go_roundw
      case rel => exact ⟨⟨m, rfl⟩, .inr (.inr (.inr (.inr (.inl ⟨rfl, rfl⟩))))⟩
      case measure => simp [intOf]
    · go_wp2_with fail
      go_roundw
      case rel => exact ⟨⟨m, rfl⟩, .inr (.inr (.inr (.inr (.inr (.inl ⟨rfl, rfl⟩)))))⟩
      case measure => simp [intOf]
    · go_wp2_with fail
      go_roundw
      case rel => exact ⟨⟨m, rfl⟩, .inr (.inr (.inr (.inr (.inr (.inr (⟨rfl, rfl⟩))))))⟩
      case measure => simp [intOf]
    · go_wp2_with fail
      go_ret
      exact ⟨rfl, m, rfl⟩
set_option maxRecDepth 20000 in
theorem vbits29 (w : World) : Calls Try.prog 12 #[.int .i64 29] w fun e w' => e = .returned (.int .i64 119615) ∧ ∃ m, w.drewN m = w' := by
  have r := fun W => rest29 W
  go_enter Try.func12, Try.ntmps12
  go_wp2_with fail
  refine (r _).mono ?_
  rintro e w1 ⟨rfl, m, rfl⟩
  go_wp2_with fail
  go_ret
  exact ⟨rfl, m, rfl⟩
set_option maxRecDepth 20000 in
set_option maxHeartbeats 4000000 in
theorem rest30 (w : World) : Calls Try.prog 34 #[.int .i64 122880, .int .i64 7973, .int .i64 13] w fun e w' => e = .returned (.int .i64 3445) ∧ ∃ m, w.drewN m = w' := by
  go_enter Try.func34, Try.ntmps34
  go_wp2_with fail
  go_loopw [0, 7] (fun vv iv wr => (∃ m, w.drewN m = wr) ∧ ((vv = .int .i64 122880 ∧ iv = .int .i64 17) ∨ (vv = .int .i64 122880 ∧ iv = .int .i64 16) ∨ (vv = .int .i64 4688 ∧ iv = .int .i64 15) ∨ (vv = .int .i64 4688 ∧ iv = .int .i64 14) ∨ (vv = .int .i64 4688 ∧ iv = .int .i64 13) ∨ (vv = .int .i64 4688 ∧ iv = .int .i64 12) ∨ (vv = .int .i64 3445 ∧ iv = .int .i64 11))) (fun _ iv _ => (intOf iv).toNat)
  case atStart => exact ⟨⟨0, rfl⟩, .inl ⟨rfl, rfl⟩⟩
  case round =>
    obtain ⟨⟨m, rfl⟩, ⟨rfl, rfl⟩ | ⟨rfl, rfl⟩ | ⟨rfl, rfl⟩ | ⟨rfl, rfl⟩ | ⟨rfl, rfl⟩ | ⟨rfl, rfl⟩ | ⟨rfl, rfl⟩⟩ := hrel
    · go_wp2_with fail
      go_roundw
      case rel => exact ⟨⟨m, rfl⟩, .inr (.inl ⟨rfl, rfl⟩)⟩
      case measure => simp [intOf]
    · go_wp2_with fail
      go_roundw
      case rel => exact ⟨⟨m, rfl⟩, .inr (.inr (.inl ⟨rfl, rfl⟩))⟩
      case measure => simp [intOf]
    · go_wp2_with fail
      go_roundw
      case rel => exact ⟨⟨m, rfl⟩, .inr (.inr (.inr (.inl ⟨rfl, rfl⟩)))⟩
      case measure => simp [intOf]
    · go_wp2_with fail
      go_roundw
      case rel => exact ⟨⟨m, rfl⟩, .inr (.inr (.inr (.inr (.inl ⟨rfl, rfl⟩))))⟩
      case measure => simp [intOf]
    · go_wp2_with fail
      go_roundw
      case rel => exact ⟨⟨m, rfl⟩, .inr (.inr (.inr (.inr (.inr (.inl ⟨rfl, rfl⟩)))))⟩
      case measure => simp [intOf]
    · go_wp2_with fail
      go_roundw
      case rel => exact ⟨⟨m, rfl⟩, .inr (.inr (.inr (.inr (.inr (.inr (⟨rfl, rfl⟩))))))⟩
      case measure => simp [intOf]
    · go_wp2_with fail
      go_ret
      exact ⟨rfl, m, rfl⟩
set_option maxRecDepth 20000 in
theorem vbits30 (w : World) : Calls Try.prog 12 #[.int .i64 30] w fun e w' => e = .returned (.int .i64 126325) ∧ ∃ m, w.drewN m = w' := by
  have r := fun W => rest30 W
  go_enter Try.func12, Try.ntmps12
  go_wp2_with fail
  refine (r _).mono ?_
  rintro e w1 ⟨rfl, m, rfl⟩
  go_wp2_with fail
  go_ret
  exact ⟨rfl, m, rfl⟩
set_option maxRecDepth 20000 in
set_option maxHeartbeats 4000000 in
theorem rest31 (w : World) : Calls Try.prog 34 #[.int .i64 126976, .int .i64 7973, .int .i64 13] w fun e w' => e = .returned (.int .i64 592) ∧ ∃ m, w.drewN m = w' := by
  go_enter Try.func34, Try.ntmps34
  go_wp2_with fail
  go_loopw [0, 7] (fun vv iv wr => (∃ m, w.drewN m = wr) ∧ ((vv = .int .i64 126976 ∧ iv = .int .i64 17) ∨ (vv = .int .i64 126976 ∧ iv = .int .i64 16) ∨ (vv = .int .i64 592 ∧ iv = .int .i64 15) ∨ (vv = .int .i64 592 ∧ iv = .int .i64 14) ∨ (vv = .int .i64 592 ∧ iv = .int .i64 13) ∨ (vv = .int .i64 592 ∧ iv = .int .i64 12) ∨ (vv = .int .i64 592 ∧ iv = .int .i64 11))) (fun _ iv _ => (intOf iv).toNat)
  case atStart => exact ⟨⟨0, rfl⟩, .inl ⟨rfl, rfl⟩⟩
  case round =>
    obtain ⟨⟨m, rfl⟩, ⟨rfl, rfl⟩ | ⟨rfl, rfl⟩ | ⟨rfl, rfl⟩ | ⟨rfl, rfl⟩ | ⟨rfl, rfl⟩ | ⟨rfl, rfl⟩ | ⟨rfl, rfl⟩⟩ := hrel
    · go_wp2_with fail
      go_roundw
      case rel => exact ⟨⟨m, rfl⟩, .inr (.inl ⟨rfl, rfl⟩)⟩
      case measure => simp [intOf]
    · go_wp2_with fail
      go_roundw
      case rel => exact ⟨⟨m, rfl⟩, .inr (.inr (.inl ⟨rfl, rfl⟩))⟩
      case measure => simp [intOf]
    · go_wp2_with fail
      go_roundw
      case rel => exact ⟨⟨m, rfl⟩, .inr (.inr (.inr (.inl ⟨rfl, rfl⟩)))⟩
      case measure => simp [intOf]
    · go_wp2_with fail
      go_roundw
      case rel => exact ⟨⟨m, rfl⟩, .inr (.inr (.inr (.inr (.inl ⟨rfl, rfl⟩))))⟩
      case measure => simp [intOf]
    · go_wp2_with fail
      go_roundw
      case rel => exact ⟨⟨m, rfl⟩, .inr (.inr (.inr (.inr (.inr (.inl ⟨rfl, rfl⟩)))))⟩
      case measure => simp [intOf]
    · go_wp2_with fail
      go_roundw
      case rel => exact ⟨⟨m, rfl⟩, .inr (.inr (.inr (.inr (.inr (.inr (⟨rfl, rfl⟩))))))⟩
      case measure => simp [intOf]
    · go_wp2_with fail
      go_ret
      exact ⟨rfl, m, rfl⟩
set_option maxRecDepth 20000 in
theorem vbits31 (w : World) : Calls Try.prog 12 #[.int .i64 31] w fun e w' => e = .returned (.int .i64 127568) ∧ ∃ m, w.drewN m = w' := by
  have r := fun W => rest31 W
  go_enter Try.func12, Try.ntmps12
  go_wp2_with fail
  refine (r _).mono ?_
  rintro e w1 ⟨rfl, m, rfl⟩
  go_wp2_with fail
  go_ret
  exact ⟨rfl, m, rfl⟩
set_option maxRecDepth 20000 in
set_option maxHeartbeats 4000000 in
theorem rest32 (w : World) : Calls Try.prog 34 #[.int .i64 131072, .int .i64 7973, .int .i64 13] w fun e w' => e = .returned (.int .i64 2517) ∧ ∃ m, w.drewN m = w' := by
  go_enter Try.func34, Try.ntmps34
  go_wp2_with fail
  go_loopw [0, 7] (fun vv iv wr => (∃ m, w.drewN m = wr) ∧ ((vv = .int .i64 131072 ∧ iv = .int .i64 17) ∨ (vv = .int .i64 124064 ∧ iv = .int .i64 16) ∨ (vv = .int .i64 5872 ∧ iv = .int .i64 15) ∨ (vv = .int .i64 5872 ∧ iv = .int .i64 14) ∨ (vv = .int .i64 5872 ∧ iv = .int .i64 13) ∨ (vv = .int .i64 5872 ∧ iv = .int .i64 12) ∨ (vv = .int .i64 2517 ∧ iv = .int .i64 11))) (fun _ iv _ => (intOf iv).toNat)
  case atStart => exact ⟨⟨0, rfl⟩, .inl ⟨rfl, rfl⟩⟩
  case round =>
    obtain ⟨⟨m, rfl⟩, ⟨rfl, rfl⟩ | ⟨rfl, rfl⟩ | ⟨rfl, rfl⟩ | ⟨rfl, rfl⟩ | ⟨rfl, rfl⟩ | ⟨rfl, rfl⟩ | ⟨rfl, rfl⟩⟩ := hrel
    · go_wp2_with fail
      go_roundw
      case rel => exact ⟨⟨m, rfl⟩, .inr (.inl ⟨rfl, rfl⟩)⟩
      case measure => simp [intOf]
    · go_wp2_with fail
      go_roundw
      case rel => exact ⟨⟨m, rfl⟩, .inr (.inr (.inl ⟨rfl, rfl⟩))⟩
      case measure => simp [intOf]
    · go_wp2_with fail
      go_roundw
      case rel => exact ⟨⟨m, rfl⟩, .inr (.inr (.inr (.inl ⟨rfl, rfl⟩)))⟩
      case measure => simp [intOf]
    · go_wp2_with fail
      go_roundw
      case rel => exact ⟨⟨m, rfl⟩, .inr (.inr (.inr (.inr (.inl ⟨rfl, rfl⟩))))⟩
      case measure => simp [intOf]
    · go_wp2_with fail
      go_roundw
      case rel => exact ⟨⟨m, rfl⟩, .inr (.inr (.inr (.inr (.inr (.inl ⟨rfl, rfl⟩)))))⟩
      case measure => simp [intOf]
    · go_wp2_with fail
      go_roundw
      case rel => exact ⟨⟨m, rfl⟩, .inr (.inr (.inr (.inr (.inr (.inr (⟨rfl, rfl⟩))))))⟩
      case measure => simp [intOf]
    · go_wp2_with fail
      go_ret
      exact ⟨rfl, m, rfl⟩
set_option maxRecDepth 20000 in
theorem vbits32 (w : World) : Calls Try.prog 12 #[.int .i64 32] w fun e w' => e = .returned (.int .i64 133589) ∧ ∃ m, w.drewN m = w' := by
  have r := fun W => rest32 W
  go_enter Try.func12, Try.ntmps12
  go_wp2_with fail
  refine (r _).mono ?_
  rintro e w1 ⟨rfl, m, rfl⟩
  go_wp2_with fail
  go_ret
  exact ⟨rfl, m, rfl⟩
set_option maxRecDepth 20000 in
set_option maxHeartbeats 4000000 in
theorem rest33 (w : World) : Calls Try.prog 34 #[.int .i64 135168, .int .i64 7973, .int .i64 13] w fun e w' => e = .returned (.int .i64 1776) ∧ ∃ m, w.drewN m = w' := by
  go_enter Try.func34, Try.ntmps34
  go_wp2_with fail
  go_loopw [0, 7] (fun vv iv wr => (∃ m, w.drewN m = wr) ∧ ((vv = .int .i64 135168 ∧ iv = .int .i64 17) ∨ (vv = .int .i64 128160 ∧ iv = .int .i64 16) ∨ (vv = .int .i64 1776 ∧ iv = .int .i64 15) ∨ (vv = .int .i64 1776 ∧ iv = .int .i64 14) ∨ (vv = .int .i64 1776 ∧ iv = .int .i64 13) ∨ (vv = .int .i64 1776 ∧ iv = .int .i64 12) ∨ (vv = .int .i64 1776 ∧ iv = .int .i64 11))) (fun _ iv _ => (intOf iv).toNat)
  case atStart => exact ⟨⟨0, rfl⟩, .inl ⟨rfl, rfl⟩⟩
  case round =>
    obtain ⟨⟨m, rfl⟩, ⟨rfl, rfl⟩ | ⟨rfl, rfl⟩ | ⟨rfl, rfl⟩ | ⟨rfl, rfl⟩ | ⟨rfl, rfl⟩ | ⟨rfl, rfl⟩ | ⟨rfl, rfl⟩⟩ := hrel
    · go_wp2_with fail
      go_roundw
      case rel => exact ⟨⟨m, rfl⟩, .inr (.inl ⟨rfl, rfl⟩)⟩
      case measure => simp [intOf]
    · go_wp2_with fail
      go_roundw
      case rel => exact ⟨⟨m, rfl⟩, .inr (.inr (.inl ⟨rfl, rfl⟩))⟩
      case measure => simp [intOf]
    · go_wp2_with fail
      go_roundw
      case rel => exact ⟨⟨m, rfl⟩, .inr (.inr (.inr (.inl ⟨rfl, rfl⟩)))⟩
      case measure => simp [intOf]
    · go_wp2_with fail
      go_roundw
      case rel => exact ⟨⟨m, rfl⟩, .inr (.inr (.inr (.inr (.inl ⟨rfl, rfl⟩))))⟩
      case measure => simp [intOf]
    · go_wp2_with fail
      go_roundw
      case rel => exact ⟨⟨m, rfl⟩, .inr (.inr (.inr (.inr (.inr (.inl ⟨rfl, rfl⟩)))))⟩
      case measure => simp [intOf]
    · go_wp2_with fail
      go_roundw
      case rel => exact ⟨⟨m, rfl⟩, .inr (.inr (.inr (.inr (.inr (.inr (⟨rfl, rfl⟩))))))⟩
      case measure => simp [intOf]
    · go_wp2_with fail
      go_ret
      exact ⟨rfl, m, rfl⟩
set_option maxRecDepth 20000 in
theorem vbits33 (w : World) : Calls Try.prog 12 #[.int .i64 33] w fun e w' => e = .returned (.int .i64 136944) ∧ ∃ m, w.drewN m = w' := by
  have r := fun W => rest33 W
  go_enter Try.func12, Try.ntmps12
  go_wp2_with fail
  refine (r _).mono ?_
  rintro e w1 ⟨rfl, m, rfl⟩
  go_wp2_with fail
  go_ret
  exact ⟨rfl, m, rfl⟩
set_option maxRecDepth 20000 in
set_option maxHeartbeats 4000000 in
theorem rest34 (w : World) : Calls Try.prog 34 #[.int .i64 139264, .int .i64 7973, .int .i64 13] w fun e w' => e = .returned (.int .i64 2234) ∧ ∃ m, w.drewN m = w' := by
  go_enter Try.func34, Try.ntmps34
  go_wp2_with fail
  go_loopw [0, 7] (fun vv iv wr => (∃ m, w.drewN m = wr) ∧ ((vv = .int .i64 139264 ∧ iv = .int .i64 17) ∨ (vv = .int .i64 115872 ∧ iv = .int .i64 16) ∨ (vv = .int .i64 14064 ∧ iv = .int .i64 15) ∨ (vv = .int .i64 14064 ∧ iv = .int .i64 14) ∨ (vv = .int .i64 14064 ∧ iv = .int .i64 13) ∨ (vv = .int .i64 2234 ∧ iv = .int .i64 12) ∨ (vv = .int .i64 2234 ∧ iv = .int .i64 11))) (fun _ iv _ => (intOf iv).toNat)
  case atStart => exact ⟨⟨0, rfl⟩, .inl ⟨rfl, rfl⟩⟩
  case round =>
    obtain ⟨⟨m, rfl⟩, ⟨rfl, rfl⟩ | ⟨rfl, rfl⟩ | ⟨rfl, rfl⟩ | ⟨rfl, rfl⟩ | ⟨rfl, rfl⟩ | ⟨rfl, rfl⟩ | ⟨rfl, rfl⟩⟩ := hrel
    · go_wp2_with fail
      go_roundw
      case rel => exact ⟨⟨m, rfl⟩, .inr (.inl ⟨rfl, rfl⟩)⟩
      case measure => simp [intOf]
    · go_wp2_with fail
      go_roundw
      case rel => exact ⟨⟨m, rfl⟩, .inr (.inr (.inl ⟨rfl, rfl⟩))⟩
      case measure => simp [intOf]
    · go_wp2_with fail
      go_roundw
      case rel => exact ⟨⟨m, rfl⟩, .inr (.inr (.inr (.inl ⟨rfl, rfl⟩)))⟩
      case measure => simp [intOf]
    · go_wp2_with fail
      go_roundw
      case rel => exact ⟨⟨m, rfl⟩, .inr (.inr (.inr (.inr (.inl ⟨rfl, rfl⟩))))⟩
      case measure => simp [intOf]
    · go_wp2_with fail
      go_roundw
      case rel => exact ⟨⟨m, rfl⟩, .inr (.inr (.inr (.inr (.inr (.inl ⟨rfl, rfl⟩)))))⟩
      case measure => simp [intOf]
    · go_wp2_with fail
      go_roundw
      case rel => exact ⟨⟨m, rfl⟩, .inr (.inr (.inr (.inr (.inr (.inr (⟨rfl, rfl⟩))))))⟩
      case measure => simp [intOf]
    · go_wp2_with fail
      go_ret
      exact ⟨rfl, m, rfl⟩
set_option maxRecDepth 20000 in
theorem vbits34 (w : World) : Calls Try.prog 12 #[.int .i64 34] w fun e w' => e = .returned (.int .i64 141498) ∧ ∃ m, w.drewN m = w' := by
  have r := fun W => rest34 W
  go_enter Try.func12, Try.ntmps12
  go_wp2_with fail
  refine (r _).mono ?_
  rintro e w1 ⟨rfl, m, rfl⟩
  go_wp2_with fail
  go_ret
  exact ⟨rfl, m, rfl⟩
set_option maxRecDepth 20000 in
set_option maxHeartbeats 4000000 in
theorem rest35 (w : World) : Calls Try.prog 34 #[.int .i64 143360, .int .i64 7973, .int .i64 13] w fun e w' => e = .returned (.int .i64 1951) ∧ ∃ m, w.drewN m = w' := by
  go_enter Try.func34, Try.ntmps34
  go_wp2_with fail
  go_loopw [0, 7] (fun vv iv wr => (∃ m, w.drewN m = wr) ∧ ((vv = .int .i64 143360 ∧ iv = .int .i64 17) ∨ (vv = .int .i64 119968 ∧ iv = .int .i64 16) ∨ (vv = .int .i64 9968 ∧ iv = .int .i64 15) ∨ (vv = .int .i64 9968 ∧ iv = .int .i64 14) ∨ (vv = .int .i64 9968 ∧ iv = .int .i64 13) ∨ (vv = .int .i64 6330 ∧ iv = .int .i64 12) ∨ (vv = .int .i64 1951 ∧ iv = .int .i64 11))) (fun _ iv _ => (intOf iv).toNat)
  case atStart => exact ⟨⟨0, rfl⟩, .inl ⟨rfl, rfl⟩⟩
  case round =>
    obtain ⟨⟨m, rfl⟩, ⟨rfl, rfl⟩ | ⟨rfl, rfl⟩ | ⟨rfl, rfl⟩ | ⟨rfl, rfl⟩ | ⟨rfl, rfl⟩ | ⟨rfl, rfl⟩ | ⟨rfl, rfl⟩⟩ := hrel
    · go_wp2_with fail
      go_roundw
      case rel => exact ⟨⟨m, rfl⟩, .inr (.inl ⟨rfl, rfl⟩)⟩
      case measure => simp [intOf]
    · go_wp2_with fail
      go_roundw
      case rel => exact ⟨⟨m, rfl⟩, .inr (.inr (.inl ⟨rfl, rfl⟩))⟩
      case measure => simp [intOf]
    · go_wp2_with fail
      go_roundw
      case rel => exact ⟨⟨m, rfl⟩, .inr (.inr (.inr (.inl ⟨rfl, rfl⟩)))⟩
      case measure => simp [intOf]
    · go_wp2_with fail
      go_roundw
      case rel => exact ⟨⟨m, rfl⟩, .inr (.inr (.inr (.inr (.inl ⟨rfl, rfl⟩))))⟩
      case measure => simp [intOf]
    · go_wp2_with fail
      go_roundw
      case rel => exact ⟨⟨m, rfl⟩, .inr (.inr (.inr (.inr (.inr (.inl ⟨rfl, rfl⟩)))))⟩
      case measure => simp [intOf]
    · go_wp2_with fail
      go_roundw
      case rel => exact ⟨⟨m, rfl⟩, .inr (.inr (.inr (.inr (.inr (.inr (⟨rfl, rfl⟩))))))⟩
      case measure => simp [intOf]
    · go_wp2_with fail
      go_ret
      exact ⟨rfl, m, rfl⟩
set_option maxRecDepth 20000 in
theorem vbits35 (w : World) : Calls Try.prog 12 #[.int .i64 35] w fun e w' => e = .returned (.int .i64 145311) ∧ ∃ m, w.drewN m = w' := by
  have r := fun W => rest35 W
  go_enter Try.func12, Try.ntmps12
  go_wp2_with fail
  refine (r _).mono ?_
  rintro e w1 ⟨rfl, m, rfl⟩
  go_wp2_with fail
  go_ret
  exact ⟨rfl, m, rfl⟩
set_option maxRecDepth 20000 in
set_option maxHeartbeats 4000000 in
theorem rest36 (w : World) : Calls Try.prog 34 #[.int .i64 147456, .int .i64 7973, .int .i64 13] w fun e w' => e = .returned (.int .i64 2827) ∧ ∃ m, w.drewN m = w' := by
  go_enter Try.func34, Try.ntmps34
  go_wp2_with fail
  go_loopw [0, 7] (fun vv iv wr => (∃ m, w.drewN m = wr) ∧ ((vv = .int .i64 147456 ∧ iv = .int .i64 17) ∨ (vv = .int .i64 107680 ∧ iv = .int .i64 16) ∨ (vv = .int .i64 22256 ∧ iv = .int .i64 15) ∨ (vv = .int .i64 22256 ∧ iv = .int .i64 14) ∨ (vv = .int .i64 10852 ∧ iv = .int .i64 13) ∨ (vv = .int .i64 5166 ∧ iv = .int .i64 12) ∨ (vv = .int .i64 2827 ∧ iv = .int .i64 11))) (fun _ iv _ => (intOf iv).toNat)
  case atStart => exact ⟨⟨0, rfl⟩, .inl ⟨rfl, rfl⟩⟩
  case round =>
    obtain ⟨⟨m, rfl⟩, ⟨rfl, rfl⟩ | ⟨rfl, rfl⟩ | ⟨rfl, rfl⟩ | ⟨rfl, rfl⟩ | ⟨rfl, rfl⟩ | ⟨rfl, rfl⟩ | ⟨rfl, rfl⟩⟩ := hrel
    · go_wp2_with fail
      go_roundw
      case rel => exact ⟨⟨m, rfl⟩, .inr (.inl ⟨rfl, rfl⟩)⟩
      case measure => simp [intOf]
    · go_wp2_with fail
      go_roundw
      case rel => exact ⟨⟨m, rfl⟩, .inr (.inr (.inl ⟨rfl, rfl⟩))⟩
      case measure => simp [intOf]
    · go_wp2_with fail
      go_roundw
      case rel => exact ⟨⟨m, rfl⟩, .inr (.inr (.inr (.inl ⟨rfl, rfl⟩)))⟩
      case measure => simp [intOf]
    · go_wp2_with fail
      go_roundw
      case rel => exact ⟨⟨m, rfl⟩, .inr (.inr (.inr (.inr (.inl ⟨rfl, rfl⟩))))⟩
      case measure => simp [intOf]
    · go_wp2_with fail
      go_roundw
      case rel => exact ⟨⟨m, rfl⟩, .inr (.inr (.inr (.inr (.inr (.inl ⟨rfl, rfl⟩)))))⟩
      case measure => simp [intOf]
    · go_wp2_with fail
      go_roundw
      case rel => exact ⟨⟨m, rfl⟩, .inr (.inr (.inr (.inr (.inr (.inr (⟨rfl, rfl⟩))))))⟩
      case measure => simp [intOf]
    · go_wp2_with fail
      go_ret
      exact ⟨rfl, m, rfl⟩
set_option maxRecDepth 20000 in
theorem vbits36 (w : World) : Calls Try.prog 12 #[.int .i64 36] w fun e w' => e = .returned (.int .i64 150283) ∧ ∃ m, w.drewN m = w' := by
  have r := fun W => rest36 W
  go_enter Try.func12, Try.ntmps12
  go_wp2_with fail
  refine (r _).mono ?_
  rintro e w1 ⟨rfl, m, rfl⟩
  go_wp2_with fail
  go_ret
  exact ⟨rfl, m, rfl⟩
set_option maxRecDepth 20000 in
set_option maxHeartbeats 4000000 in
theorem rest37 (w : World) : Calls Try.prog 34 #[.int .i64 151552, .int .i64 7973, .int .i64 13] w fun e w' => e = .returned (.int .i64 1070) ∧ ∃ m, w.drewN m = w' := by
  go_enter Try.func34, Try.ntmps34
  go_wp2_with fail
  go_loopw [0, 7] (fun vv iv wr => (∃ m, w.drewN m = wr) ∧ ((vv = .int .i64 151552 ∧ iv = .int .i64 17) ∨ (vv = .int .i64 111776 ∧ iv = .int .i64 16) ∨ (vv = .int .i64 18160 ∧ iv = .int .i64 15) ∨ (vv = .int .i64 18160 ∧ iv = .int .i64 14) ∨ (vv = .int .i64 14948 ∧ iv = .int .i64 13) ∨ (vv = .int .i64 1070 ∧ iv = .int .i64 12) ∨ (vv = .int .i64 1070 ∧ iv = .int .i64 11))) (fun _ iv _ => (intOf iv).toNat)
  case atStart => exact ⟨⟨0, rfl⟩, .inl ⟨rfl, rfl⟩⟩
  case round =>
    obtain ⟨⟨m, rfl⟩, ⟨rfl, rfl⟩ | ⟨rfl, rfl⟩ | ⟨rfl, rfl⟩ | ⟨rfl, rfl⟩ | ⟨rfl, rfl⟩ | ⟨rfl, rfl⟩ | ⟨rfl, rfl⟩⟩ := hrel
    · go_wp2_with fail
      go_roundw
      case rel => exact ⟨⟨m, rfl⟩, .inr (.inl ⟨rfl, rfl⟩)⟩
      case measure => simp [intOf]
    · go_wp2_with fail
      go_roundw
      case rel => exact ⟨⟨m, rfl⟩, .inr (.inr (.inl ⟨rfl, rfl⟩))⟩
      case measure => simp [intOf]
    · go_wp2_with fail
      go_roundw
      case rel => exact ⟨⟨m, rfl⟩, .inr (.inr (.inr (.inl ⟨rfl, rfl⟩)))⟩
      case measure => simp [intOf]
    · go_wp2_with fail
      go_roundw
      case rel => exact ⟨⟨m, rfl⟩, .inr (.inr (.inr (.inr (.inl ⟨rfl, rfl⟩))))⟩
      case measure => simp [intOf]
    · go_wp2_with fail
      go_roundw
      case rel => exact ⟨⟨m, rfl⟩, .inr (.inr (.inr (.inr (.inr (.inl ⟨rfl, rfl⟩)))))⟩
      case measure => simp [intOf]
    · go_wp2_with fail
      go_roundw
      case rel => exact ⟨⟨m, rfl⟩, .inr (.inr (.inr (.inr (.inr (.inr (⟨rfl, rfl⟩))))))⟩
      case measure => simp [intOf]
    · go_wp2_with fail
      go_ret
      exact ⟨rfl, m, rfl⟩
set_option maxRecDepth 20000 in
theorem vbits37 (w : World) : Calls Try.prog 12 #[.int .i64 37] w fun e w' => e = .returned (.int .i64 152622) ∧ ∃ m, w.drewN m = w' := by
  have r := fun W => rest37 W
  go_enter Try.func12, Try.ntmps12
  go_wp2_with fail
  refine (r _).mono ?_
  rintro e w1 ⟨rfl, m, rfl⟩
  go_wp2_with fail
  go_ret
  exact ⟨rfl, m, rfl⟩
set_option maxRecDepth 20000 in
set_option maxHeartbeats 4000000 in
theorem rest38 (w : World) : Calls Try.prog 34 #[.int .i64 155648, .int .i64 7973, .int .i64 13] w fun e w' => e = .returned (.int .i64 2660) ∧ ∃ m, w.drewN m = w' := by
  go_enter Try.func34, Try.ntmps34
  go_wp2_with fail
  go_loopw [0, 7] (fun vv iv wr => (∃ m, w.drewN m = wr) ∧ ((vv = .int .i64 155648 ∧ iv = .int .i64 17) ∨ (vv = .int .i64 99488 ∧ iv = .int .i64 16) ∨ (vv = .int .i64 30448 ∧ iv = .int .i64 15) ∨ (vv = .int .i64 30448 ∧ iv = .int .i64 14) ∨ (vv = .int .i64 2660 ∧ iv = .int .i64 13) ∨ (vv = .int .i64 2660 ∧ iv = .int .i64 12) ∨ (vv = .int .i64 2660 ∧ iv = .int .i64 11))) (fun _ iv _ => (intOf iv).toNat)
  case atStart => exact ⟨⟨0, rfl⟩, .inl ⟨rfl, rfl⟩⟩
  case round =>
    obtain ⟨⟨m, rfl⟩, ⟨rfl, rfl⟩ | ⟨rfl, rfl⟩ | ⟨rfl, rfl⟩ | ⟨rfl, rfl⟩ | ⟨rfl, rfl⟩ | ⟨rfl, rfl⟩ | ⟨rfl, rfl⟩⟩ := hrel
    · go_wp2_with fail
      go_roundw
      case rel => exact ⟨⟨m, rfl⟩, .inr (.inl ⟨rfl, rfl⟩)⟩
      case measure => simp [intOf]
    · go_wp2_with fail
      go_roundw
      case rel => exact ⟨⟨m, rfl⟩, .inr (.inr (.inl ⟨rfl, rfl⟩))⟩
      case measure => simp [intOf]
    · go_wp2_with fail
      go_roundw
      case rel => exact ⟨⟨m, rfl⟩, .inr (.inr (.inr (.inl ⟨rfl, rfl⟩)))⟩
      case measure => simp [intOf]
    · go_wp2_with fail
      go_roundw
      case rel => exact ⟨⟨m, rfl⟩, .inr (.inr (.inr (.inr (.inl ⟨rfl, rfl⟩))))⟩
      case measure => simp [intOf]
    · go_wp2_with fail
      go_roundw
      case rel => exact ⟨⟨m, rfl⟩, .inr (.inr (.inr (.inr (.inr (.inl ⟨rfl, rfl⟩)))))⟩
      case measure => simp [intOf]
    · go_wp2_with fail
      go_roundw
      case rel => exact ⟨⟨m, rfl⟩, .inr (.inr (.inr (.inr (.inr (.inr (⟨rfl, rfl⟩))))))⟩
      case measure => simp [intOf]
    · go_wp2_with fail
      go_ret
      exact ⟨rfl, m, rfl⟩
set_option maxRecDepth 20000 in
theorem vbits38 (w : World) : Calls Try.prog 12 #[.int .i64 38] w fun e w' => e = .returned (.int .i64 158308) ∧ ∃ m, w.drewN m = w' := by
  have r := fun W => rest38 W
  go_enter Try.func12, Try.ntmps12
  go_wp2_with fail
  refine (r _).mono ?_
  rintro e w1 ⟨rfl, m, rfl⟩
  go_wp2_with fail
  go_ret
  exact ⟨rfl, m, rfl⟩
set_option maxRecDepth 20000 in
set_option maxHeartbeats 4000000 in
theorem rest39 (w : World) : Calls Try.prog 34 #[.int .i64 159744, .int .i64 7973, .int .i64 13] w fun e w' => e = .returned (.int .i64 1345) ∧ ∃ m, w.drewN m = w' := by
  go_enter Try.func34, Try.ntmps34
  go_wp2_with fail
  go_loopw [0, 7] (fun vv iv wr => (∃ m, w.drewN m = wr) ∧ ((vv = .int .i64 159744 ∧ iv = .int .i64 17) ∨ (vv = .int .i64 103584 ∧ iv = .int .i64 16) ∨ (vv = .int .i64 26352 ∧ iv = .int .i64 15) ∨ (vv = .int .i64 26352 ∧ iv = .int .i64 14) ∨ (vv = .int .i64 6756 ∧ iv = .int .i64 13) ∨ (vv = .int .i64 6756 ∧ iv = .int .i64 12) ∨ (vv = .int .i64 1345 ∧ iv = .int .i64 11))) (fun _ iv _ => (intOf iv).toNat)
  case atStart => exact ⟨⟨0, rfl⟩, .inl ⟨rfl, rfl⟩⟩
  case round =>
    obtain ⟨⟨m, rfl⟩, ⟨rfl, rfl⟩ | ⟨rfl, rfl⟩ | ⟨rfl, rfl⟩ | ⟨rfl, rfl⟩ | ⟨rfl, rfl⟩ | ⟨rfl, rfl⟩ | ⟨rfl, rfl⟩⟩ := hrel
    · go_wp2_with fail
      go_roundw
      case rel => exact ⟨⟨m, rfl⟩, .inr (.inl ⟨rfl, rfl⟩)⟩
      case measure => simp [intOf]
    · go_wp2_with fail
      go_roundw
      case rel => exact ⟨⟨m, rfl⟩, .inr (.inr (.inl ⟨rfl, rfl⟩))⟩
      case measure => simp [intOf]
    · go_wp2_with fail
      go_roundw
      case rel => exact ⟨⟨m, rfl⟩, .inr (.inr (.inr (.inl ⟨rfl, rfl⟩)))⟩
      case measure => simp [intOf]
    · go_wp2_with fail
      go_roundw
      case rel => exact ⟨⟨m, rfl⟩, .inr (.inr (.inr (.inr (.inl ⟨rfl, rfl⟩))))⟩
      case measure => simp [intOf]
    · go_wp2_with fail
      go_roundw
      case rel => exact ⟨⟨m, rfl⟩, .inr (.inr (.inr (.inr (.inr (.inl ⟨rfl, rfl⟩)))))⟩
      case measure => simp [intOf]
    · go_wp2_with fail
      go_roundw
      case rel => exact ⟨⟨m, rfl⟩, .inr (.inr (.inr (.inr (.inr (.inr (⟨rfl, rfl⟩))))))⟩
      case measure => simp [intOf]
    · go_wp2_with fail
      go_ret
      exact ⟨rfl, m, rfl⟩
set_option maxRecDepth 20000 in
theorem vbits39 (w : World) : Calls Try.prog 12 #[.int .i64 39] w fun e w' => e = .returned (.int .i64 161089) ∧ ∃ m, w.drewN m = w' := by
  have r := fun W => rest39 W
  go_enter Try.func12, Try.ntmps12
  go_wp2_with fail
  refine (r _).mono ?_
  rintro e w1 ⟨rfl, m, rfl⟩
  go_wp2_with fail
  go_ret
  exact ⟨rfl, m, rfl⟩
set_option maxRecDepth 20000 in
set_option maxHeartbeats 4000000 in
theorem rest40 (w : World) : Calls Try.prog 34 #[.int .i64 163840, .int .i64 7973, .int .i64 13] w fun e w' => e = .returned (.int .i64 3177) ∧ ∃ m, w.drewN m = w' := by
  go_enter Try.func34, Try.ntmps34
  go_wp2_with fail
  go_loopw [0, 7] (fun vv iv wr => (∃ m, w.drewN m = wr) ∧ ((vv = .int .i64 163840 ∧ iv = .int .i64 17) ∨ (vv = .int .i64 91296 ∧ iv = .int .i64 16) ∨ (vv = .int .i64 38640 ∧ iv = .int .i64 15) ∨ (vv = .int .i64 28632 ∧ iv = .int .i64 14) ∨ (vv = .int .i64 4940 ∧ iv = .int .i64 13) ∨ (vv = .int .i64 4940 ∧ iv = .int .i64 12) ∨ (vv = .int .i64 3177 ∧ iv = .int .i64 11))) (fun _ iv _ => (intOf iv).toNat)
  case atStart => exact ⟨⟨0, rfl⟩, .inl ⟨rfl, rfl⟩⟩
  case round =>
    obtain ⟨⟨m, rfl⟩, ⟨rfl, rfl⟩ | ⟨rfl, rfl⟩ | ⟨rfl, rfl⟩ | ⟨rfl, rfl⟩ | ⟨rfl, rfl⟩ | ⟨rfl, rfl⟩ | ⟨rfl, rfl⟩⟩ := hrel
    · go_wp2_with fail
      go_roundw
      case rel => exact ⟨⟨m, rfl⟩, .inr (.inl ⟨rfl, rfl⟩)⟩
      case measure => simp [intOf]
    · go_wp2_with fail
      go_roundw
      case rel => exact ⟨⟨m, rfl⟩, .inr (.inr (.inl ⟨rfl, rfl⟩))⟩
      case measure => simp [intOf]
    · go_wp2_with fail
      go_roundw
      case rel => exact ⟨⟨m, rfl⟩, .inr (.inr (.inr (.inl ⟨rfl, rfl⟩)))⟩
      case measure => simp [intOf]
    · go_wp2_with fail
      go_roundw
      case rel => exact ⟨⟨m, rfl⟩, .inr (.inr (.inr (.inr (.inl ⟨rfl, rfl⟩))))⟩
      case measure => simp [intOf]
    · go_wp2_with fail
      go_roundw
      case rel => exact ⟨⟨m, rfl⟩, .inr (.inr (.inr (.inr (.inr (.inl ⟨rfl, rfl⟩)))))⟩
      case measure => simp [intOf]
    · go_wp2_with fail
      go_roundw
      case rel => exact ⟨⟨m, rfl⟩, .inr (.inr (.inr (.inr (.inr (.inr (⟨rfl, rfl⟩))))))⟩
      case measure => simp [intOf]
    · go_wp2_with fail
      go_ret
      exact ⟨rfl, m, rfl⟩
set_option maxRecDepth 20000 in
theorem vbits40 (w : World) : Calls Try.prog 12 #[.int .i64 40] w fun e w' => e = .returned (.int .i64 167017) ∧ ∃ m, w.drewN m = w' := by
  have r := fun W => rest40 W
  go_enter Try.func12, Try.ntmps12
  go_wp2_with fail
  refine (r _).mono ?_
  rintro e w1 ⟨rfl, m, rfl⟩
  go_wp2_with fail
  go_ret
  exact ⟨rfl, m, rfl⟩
theorem vbits (v : Nat) (h1 : 7 ≤ v) (h2 : v ≤ 40) (w : World) : Calls Try.prog 12 #[.int .i64 v] w fun e w' => e = .returned (.int .i64 (vtab.getD (v - 7) 0 : Nat)) ∧ ∃ m, w.drewN m = w' := by
  rcases (show v = 7 ∨ v = 8 ∨ v = 9 ∨ v = 10 ∨ v = 11 ∨ v = 12 ∨ v = 13 ∨ v = 14 ∨ v = 15 ∨ v = 16 ∨ v = 17 ∨ v = 18 ∨ v = 19 ∨ v = 20 ∨ v = 21 ∨ v = 22 ∨ v = 23 ∨ v = 24 ∨ v = 25 ∨ v = 26 ∨ v = 27 ∨ v = 28 ∨ v = 29 ∨ v = 30 ∨ v = 31 ∨ v = 32 ∨ v = 33 ∨ v = 34 ∨ v = 35 ∨ v = 36 ∨ v = 37 ∨ v = 38 ∨ v = 39 ∨ v = 40 by omega) with rfl | rfl | rfl | rfl | rfl | rfl | rfl | rfl | rfl | rfl | rfl | rfl | rfl | rfl | rfl | rfl | rfl | rfl | rfl | rfl | rfl | rfl | rfl | rfl | rfl | rfl | rfl | rfl | rfl | rfl | rfl | rfl | rfl | rfl
  · exact vbits7 w
  · exact vbits8 w
  · exact vbits9 w
  · exact vbits10 w
  · exact vbits11 w
  · exact vbits12 w
  · exact vbits13 w
  · exact vbits14 w
  · exact vbits15 w
  · exact vbits16 w
  · exact vbits17 w
  · exact vbits18 w
  · exact vbits19 w
  · exact vbits20 w
  · exact vbits21 w
  · exact vbits22 w
  · exact vbits23 w
  · exact vbits24 w
  · exact vbits25 w
  · exact vbits26 w
  · exact vbits27 w
  · exact vbits28 w
  · exact vbits29 w
  · exact vbits30 w
  · exact vbits31 w
  · exact vbits32 w
  · exact vbits33 w
  · exact vbits34 w
  · exact vbits35 w
  · exact vbits36 w
  · exact vbits37 w
  · exact vbits38 w
  · exact vbits39 w
  · exact vbits40 w
end Go.Proofs.Ytjgckbccbambmaa
