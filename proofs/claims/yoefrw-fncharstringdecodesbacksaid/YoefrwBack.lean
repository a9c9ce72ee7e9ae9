/-
  FnCharStringDecodesBack, walked: one theorem for each range of the rune (one, two, three, four bytes; negative, a surrogate half, beyond U+10FFFF), then joined for every int32.
-/
import Derived.Test.YoefrwWalks
import Derived.LoopN
import Derived.Deep.QuietTactic
import Derived.BigQuiet
namespace Go.Proofs.Yoefrw
open Go.ChangeShapes Go.WideShapes Go.ChangeAt Go.RowKit
open Plain
theorem grown_drewN {W w' : World} (h : Grown W w') (n : Nat) : Grown W (w'.drewN n) := h
set_option maxHeartbeats 400000 in
set_option maxRecDepth 100000 in
theorem back_one (r : Int) (h0 : 0 ≤ r) (h1 : r ≤ 127) (w : World) :
    Calls Efrg.prog 4 #[.int .i32 r] w fun e w' => e = .returned (.bool true) ∧ Grown w w' := by
  have hs := enc_one r h0 h1
  have hb0 := by8_nat r h0 (by omega)
  generalize by8 r = b0 at hs hb0
  have k0 : ∀ h, (((⟨#[b0]⟩ : ByteArray)[0]'h).toNat : Int) = r := fun _ => hb0
  have HS : Hid (Utf8.encode r = ⟨#[b0]⟩) := hs
  clear hs hb0
  go_enter Efrg.func4, Efrg.ntmps4
  go_wp2_with (go_at_call 6; refine (string_any r _ _ (by go_simp)).mono ?_; rintro e w' ⟨rfl, rfl⟩; rw [HS.out])
  refine wp_loop_rounds 1 ?_
  rw [rounds_succ]
  go_wp2
  go_ret
  exact ⟨rfl, (Grown.refl _).alloc _ _⟩

set_option maxHeartbeats 400000 in
set_option maxRecDepth 100000 in
theorem back_two (x0 x1 : Int) (h0 : 2 ≤ x0) (h1 : x0 < 32) (h2 : 0 ≤ x1) (h3 : x1 < 64) (w : World) :
    Calls Efrg.prog 4 #[.int .i32 (x0 * 64 + x1)] w fun e w' => e = .returned (.bool true) ∧ Grown w w' := by
  have hs := enc_two (x0 * 64 + x1) (by omega) (by omega)
  rw [show (x0 * 64 + x1) / 64 = x0 from by omega, show (x0 * 64 + x1) % 64 = x1 from by omega] at hs
  have hb0 := by8_nat (192 + x0) (by omega) (by omega)
  have hb1 := by8_nat (128 + x1) (by omega) (by omega)
  generalize by8 (192 + x0) = b0 at hs hb0
  generalize by8 (128 + x1) = b1 at hs hb1
  have k0 : ∀ h, (((⟨#[b0, b1]⟩ : ByteArray)[0]'h).toNat : Int) = 192 + x0 := fun _ => hb0
  have k1 : ∀ h, (((⟨#[b0, b1]⟩ : ByteArray)[1]'h).toNat : Int) = 128 + x1 := fun _ => hb1
  have f0 := and224 x0 (by omega) (by omega)
  have f1 := and31 x0 (by omega) (by omega)
  have g0 := and192 x1 (by omega) (by omega)
  have g1 := and63 x1 (by omega) (by omega)
  have o0 : bits .or .i32 (x0 * 64) x1 = x0 * 64 + x1 := i32_or6 _ _ (by omega) (by omega) (by omega) (by omega) (by omega)
  have HS : Hid (Utf8.encode (x0 * 64 + x1) = ⟨#[b0, b1]⟩) := hs
  clear hs hb0 hb1
  go_enter Efrg.func4, Efrg.ntmps4
  go_wp2_with (go_at_call 6; refine (string_any (x0 * 64 + x1) _ _ (by go_simp)).mono ?_; rintro e w' ⟨rfl, rfl⟩; rw [HS.out])
  refine wp_loop_rounds 2 ?_
  rw [rounds_succ]
  go_wp2
  rw [rounds_succ]
  go_wp2
  go_ret
  exact ⟨rfl, (Grown.refl _).alloc _ _⟩

set_option maxHeartbeats 1000000 in
set_option maxRecDepth 100000 in
theorem back_three_lo (x0 x1 x2 : Int) (h0 : 0 ≤ x0) (h1 : x0 < 16) (h2 : 0 ≤ x1) (h3 : x1 < 64) (h4 : 0 ≤ x2) (h5 : x2 < 64) (h6 : 2048 ≤ x0 * 4096 + x1 * 64 + x2) (h7 : x0 * 4096 + x1 * 64 + x2 ≤ 55295) (w : World) :
    Calls Efrg.prog 4 #[.int .i32 (x0 * 4096 + x1 * 64 + x2)] w fun e w' => e = .returned (.bool true) ∧ Grown w w' := by
  have hs := enc_three (x0 * 4096 + x1 * 64 + x2) (by omega) (by omega) (by omega)
  rw [show (x0 * 4096 + x1 * 64 + x2) / 4096 = x0 from by omega, show (x0 * 4096 + x1 * 64 + x2) / 64 % 64 = x1 from by omega, show (x0 * 4096 + x1 * 64 + x2) % 64 = x2 from by omega] at hs
  have hb0 := by8_nat (224 + x0) (by omega) (by omega)
  have hb1 := by8_nat (128 + x1) (by omega) (by omega)
  have hb2 := by8_nat (128 + x2) (by omega) (by omega)
  generalize by8 (224 + x0) = b0 at hs hb0
  generalize by8 (128 + x1) = b1 at hs hb1
  generalize by8 (128 + x2) = b2 at hs hb2
  have k0 : ∀ h, (((⟨#[b0, b1, b2]⟩ : ByteArray)[0]'h).toNat : Int) = 224 + x0 := fun _ => hb0
  have k1 : ∀ h, (((⟨#[b0, b1, b2]⟩ : ByteArray)[1]'h).toNat : Int) = 128 + x1 := fun _ => hb1
  have k2 : ∀ h, (((⟨#[b0, b1, b2]⟩ : ByteArray)[2]'h).toNat : Int) = 128 + x2 := fun _ => hb2
  have f0 := and240 x0 (by omega) (by omega)
  have f1 := and15 x0 (by omega) (by omega)
  have g0 := and192 x1 (by omega) (by omega)
  have g1 := and63 x1 (by omega) (by omega)
  have g2 := and192 x2 (by omega) (by omega)
  have g3 := and63 x2 (by omega) (by omega)
  have o0 : bits .or .i32 (x0 * 4096) (x1 * 64) = x0 * 4096 + x1 * 64 := i32_or12 _ _ (by omega) (by omega) (by omega) (by omega) (by omega)
  have o1 : bits .or .i32 (x0 * 4096 + x1 * 64) x2 = x0 * 4096 + x1 * 64 + x2 := i32_or6 _ _ (by omega) (by omega) (by omega) (by omega) (by omega)
  have HS : Hid (Utf8.encode (x0 * 4096 + x1 * 64 + x2) = ⟨#[b0, b1, b2]⟩) := hs
  clear hs hb0 hb1 hb2
  go_enter Efrg.func4, Efrg.ntmps4
  go_wp2_with (go_at_call 6; refine (string_any (x0 * 4096 + x1 * 64 + x2) _ _ (by go_simp)).mono ?_; rintro e w' ⟨rfl, rfl⟩; rw [HS.out])
  refine wp_loop_rounds 3 ?_
  rw [rounds_succ]
  go_wp2
  rw [rounds_succ]
  go_wp2
  rw [rounds_succ]
  go_wp2
  go_quiet (fail)
  go_wp2
  go_ret
  exact ⟨rfl, grown_drewN ((Grown.refl _).alloc _ _) _⟩

set_option maxHeartbeats 1000000 in
set_option maxRecDepth 100000 in
theorem back_three_hi (x0 x1 x2 : Int) (h0 : 0 ≤ x0) (h1 : x0 < 16) (h2 : 0 ≤ x1) (h3 : x1 < 64) (h4 : 0 ≤ x2) (h5 : x2 < 64) (h6 : 57344 ≤ x0 * 4096 + x1 * 64 + x2) (h7 : x0 * 4096 + x1 * 64 + x2 ≤ 65535) (w : World) :
    Calls Efrg.prog 4 #[.int .i32 (x0 * 4096 + x1 * 64 + x2)] w fun e w' => e = .returned (.bool true) ∧ Grown w w' := by
  have hs := enc_three (x0 * 4096 + x1 * 64 + x2) (by omega) (by omega) (by omega)
  rw [show (x0 * 4096 + x1 * 64 + x2) / 4096 = x0 from by omega, show (x0 * 4096 + x1 * 64 + x2) / 64 % 64 = x1 from by omega, show (x0 * 4096 + x1 * 64 + x2) % 64 = x2 from by omega] at hs
  have hb0 := by8_nat (224 + x0) (by omega) (by omega)
  have hb1 := by8_nat (128 + x1) (by omega) (by omega)
  have hb2 := by8_nat (128 + x2) (by omega) (by omega)
  generalize by8 (224 + x0) = b0 at hs hb0
  generalize by8 (128 + x1) = b1 at hs hb1
  generalize by8 (128 + x2) = b2 at hs hb2
  have k0 : ∀ h, (((⟨#[b0, b1, b2]⟩ : ByteArray)[0]'h).toNat : Int) = 224 + x0 := fun _ => hb0
  have k1 : ∀ h, (((⟨#[b0, b1, b2]⟩ : ByteArray)[1]'h).toNat : Int) = 128 + x1 := fun _ => hb1
  have k2 : ∀ h, (((⟨#[b0, b1, b2]⟩ : ByteArray)[2]'h).toNat : Int) = 128 + x2 := fun _ => hb2
  have f0 := and240 x0 (by omega) (by omega)
  have f1 := and15 x0 (by omega) (by omega)
  have g0 := and192 x1 (by omega) (by omega)
  have g1 := and63 x1 (by omega) (by omega)
  have g2 := and192 x2 (by omega) (by omega)
  have g3 := and63 x2 (by omega) (by omega)
  have o0 : bits .or .i32 (x0 * 4096) (x1 * 64) = x0 * 4096 + x1 * 64 := i32_or12 _ _ (by omega) (by omega) (by omega) (by omega) (by omega)
  have o1 : bits .or .i32 (x0 * 4096 + x1 * 64) x2 = x0 * 4096 + x1 * 64 + x2 := i32_or6 _ _ (by omega) (by omega) (by omega) (by omega) (by omega)
  have HS : Hid (Utf8.encode (x0 * 4096 + x1 * 64 + x2) = ⟨#[b0, b1, b2]⟩) := hs
  clear hs hb0 hb1 hb2
  go_enter Efrg.func4, Efrg.ntmps4
  go_wp2_with (go_at_call 6; refine (string_any (x0 * 4096 + x1 * 64 + x2) _ _ (by go_simp)).mono ?_; rintro e w' ⟨rfl, rfl⟩; rw [HS.out])
  refine wp_loop_rounds 3 ?_
  rw [rounds_succ]
  go_wp2
  rw [rounds_succ]
  go_wp2
  rw [rounds_succ]
  go_wp2
  go_quiet (fail)
  go_wp2
  go_ret
  exact ⟨rfl, grown_drewN ((Grown.refl _).alloc _ _) _⟩

set_option maxHeartbeats 1000000 in
set_option maxRecDepth 100000 in
theorem back_four (x0 x1 x2 x3 : Int) (h0 : 0 ≤ x0) (h1 : x0 < 8) (h2 : 0 ≤ x1) (h3 : x1 < 64) (h4 : 0 ≤ x2) (h5 : x2 < 64) (h8 : 0 ≤ x3) (h9 : x3 < 64) (h6 : 65536 ≤ x0 * 262144 + x1 * 4096 + x2 * 64 + x3) (h7 : x0 * 262144 + x1 * 4096 + x2 * 64 + x3 ≤ 1114111) (w : World) :
    Calls Efrg.prog 4 #[.int .i32 (x0 * 262144 + x1 * 4096 + x2 * 64 + x3)] w fun e w' => e = .returned (.bool true) ∧ Grown w w' := by
  have hs := enc_four (x0 * 262144 + x1 * 4096 + x2 * 64 + x3) (by omega) (by omega)
  rw [show (x0 * 262144 + x1 * 4096 + x2 * 64 + x3) / 262144 = x0 from by omega, show (x0 * 262144 + x1 * 4096 + x2 * 64 + x3) / 4096 % 64 = x1 from by omega, show (x0 * 262144 + x1 * 4096 + x2 * 64 + x3) / 64 % 64 = x2 from by omega, show (x0 * 262144 + x1 * 4096 + x2 * 64 + x3) % 64 = x3 from by omega] at hs
  have hb0 := by8_nat (240 + x0) (by omega) (by omega)
  have hb1 := by8_nat (128 + x1) (by omega) (by omega)
  have hb2 := by8_nat (128 + x2) (by omega) (by omega)
  have hb3 := by8_nat (128 + x3) (by omega) (by omega)
  generalize by8 (240 + x0) = b0 at hs hb0
  generalize by8 (128 + x1) = b1 at hs hb1
  generalize by8 (128 + x2) = b2 at hs hb2
  generalize by8 (128 + x3) = b3 at hs hb3
  have k0 : ∀ h, (((⟨#[b0, b1, b2, b3]⟩ : ByteArray)[0]'h).toNat : Int) = 240 + x0 := fun _ => hb0
  have k1 : ∀ h, (((⟨#[b0, b1, b2, b3]⟩ : ByteArray)[1]'h).toNat : Int) = 128 + x1 := fun _ => hb1
  have k2 : ∀ h, (((⟨#[b0, b1, b2, b3]⟩ : ByteArray)[2]'h).toNat : Int) = 128 + x2 := fun _ => hb2
  have k3 : ∀ h, (((⟨#[b0, b1, b2, b3]⟩ : ByteArray)[3]'h).toNat : Int) = 128 + x3 := fun _ => hb3
  have f0 := and248 x0 (by omega) (by omega)
  have f1 := and7 x0 (by omega) (by omega)
  have g0 := and192 x1 (by omega) (by omega)
  have g1 := and63 x1 (by omega) (by omega)
  have g2 := and192 x2 (by omega) (by omega)
  have g3 := and63 x2 (by omega) (by omega)
  have g4 := and192 x3 (by omega) (by omega)
  have g5 := and63 x3 (by omega) (by omega)
  have o0 : bits .or .i32 (x0 * 262144) (x1 * 4096) = x0 * 262144 + x1 * 4096 := i32_or18 _ _ (by omega) (by omega) (by omega) (by omega) (by omega)
  have o1 : bits .or .i32 (x0 * 262144 + x1 * 4096) (x2 * 64) = x0 * 262144 + x1 * 4096 + x2 * 64 := i32_or12 _ _ (by omega) (by omega) (by omega) (by omega) (by omega)
  have o2 : bits .or .i32 (x0 * 262144 + x1 * 4096 + x2 * 64) x3 = x0 * 262144 + x1 * 4096 + x2 * 64 + x3 := i32_or6 _ _ (by omega) (by omega) (by omega) (by omega) (by omega)
  have HS : Hid (Utf8.encode (x0 * 262144 + x1 * 4096 + x2 * 64 + x3) = ⟨#[b0, b1, b2, b3]⟩) := hs
  clear hs hb0 hb1 hb2 hb3
  go_enter Efrg.func4, Efrg.ntmps4
  go_wp2_with (go_at_call 6; refine (string_any (x0 * 262144 + x1 * 4096 + x2 * 64 + x3) _ _ (by go_simp)).mono ?_; rintro e w' ⟨rfl, rfl⟩; rw [HS.out])
  refine wp_loop_rounds 4 ?_
  rw [rounds_succ]
  go_wp2
  rw [rounds_succ]
  go_wp2
  rw [rounds_succ]
  go_wp2
  rw [rounds_succ]
  go_wp2
  go_quiet (fail)
  go_wp2
  go_ret
  exact ⟨rfl, grown_drewN ((Grown.refl _).alloc _ _) _⟩

set_option maxHeartbeats 1000000 in
set_option maxRecDepth 100000 in
theorem back_neg (r : Int) (h0 : r < 0) (w : World) :
    Calls Efrg.prog 4 #[.int .i32 r] w fun e w' => e = .returned (.bool true) ∧ Grown w w' := by
  have hs := enc_bad r (Or.inl h0)
  have hb0 := by8_nat 239 (by omega) (by omega)
  have hb1 := by8_nat 191 (by omega) (by omega)
  have hb2 := by8_nat 189 (by omega) (by omega)
  generalize by8 239 = b0 at hs hb0
  generalize by8 191 = b1 at hs hb1
  generalize by8 189 = b2 at hs hb2
  have k0 : ∀ h, (((⟨#[b0, b1, b2]⟩ : ByteArray)[0]'h).toNat : Int) = 239 := fun _ => hb0
  have k1 : ∀ h, (((⟨#[b0, b1, b2]⟩ : ByteArray)[1]'h).toNat : Int) = 191 := fun _ => hb1
  have k2 : ∀ h, (((⟨#[b0, b1, b2]⟩ : ByteArray)[2]'h).toNat : Int) = 189 := fun _ => hb2
  have f0 : bits .and .u8 239 240 = 224 := by decide
  have f1 : bits .and .u8 239 15 = 15 := by decide
  have g0 : bits .and .u8 191 192 = 128 := by decide
  have g1 : bits .and .u8 191 63 = 63 := by decide
  have g2 : bits .and .u8 189 192 = 128 := by decide
  have g3 : bits .and .u8 189 63 = 61 := by decide
  have o0 : bits .or .i32 61440 4032 = 65472 := i32_or12 _ _ (by omega) (by omega) (by omega) (by omega) (by omega)
  have o1 : bits .or .i32 65472 61 = 65533 := i32_or6 _ _ (by omega) (by omega) (by omega) (by omega) (by omega)
  have HS : Hid (Utf8.encode (r) = ⟨#[b0, b1, b2]⟩) := hs
  clear hs hb0 hb1 hb2
  go_enter Efrg.func4, Efrg.ntmps4
  go_wp2_with (go_at_call 6; refine (string_any (r) _ _ (by go_simp)).mono ?_; rintro e w' ⟨rfl, rfl⟩; rw [HS.out])
  refine wp_loop_rounds 3 ?_
  rw [rounds_succ]
  go_wp2
  rw [rounds_succ]
  go_wp2
  rw [rounds_succ]
  go_wp2
  go_quiet (fail)
  go_wp2
  go_ret
  exact ⟨rfl, grown_drewN ((Grown.refl _).alloc _ _) _⟩

set_option maxHeartbeats 1000000 in
set_option maxRecDepth 100000 in
theorem back_sur (r : Int) (h0 : 55296 ≤ r) (h1 : r ≤ 57343) (w : World) :
    Calls Efrg.prog 4 #[.int .i32 r] w fun e w' => e = .returned (.bool true) ∧ Grown w w' := by
  have hs := enc_bad r (Or.inr (Or.inl ⟨h0, h1⟩))
  have hb0 := by8_nat 239 (by omega) (by omega)
  have hb1 := by8_nat 191 (by omega) (by omega)
  have hb2 := by8_nat 189 (by omega) (by omega)
  generalize by8 239 = b0 at hs hb0
  generalize by8 191 = b1 at hs hb1
  generalize by8 189 = b2 at hs hb2
  have k0 : ∀ h, (((⟨#[b0, b1, b2]⟩ : ByteArray)[0]'h).toNat : Int) = 239 := fun _ => hb0
  have k1 : ∀ h, (((⟨#[b0, b1, b2]⟩ : ByteArray)[1]'h).toNat : Int) = 191 := fun _ => hb1
  have k2 : ∀ h, (((⟨#[b0, b1, b2]⟩ : ByteArray)[2]'h).toNat : Int) = 189 := fun _ => hb2
  have f0 : bits .and .u8 239 240 = 224 := by decide
  have f1 : bits .and .u8 239 15 = 15 := by decide
  have g0 : bits .and .u8 191 192 = 128 := by decide
  have g1 : bits .and .u8 191 63 = 63 := by decide
  have g2 : bits .and .u8 189 192 = 128 := by decide
  have g3 : bits .and .u8 189 63 = 61 := by decide
  have o0 : bits .or .i32 61440 4032 = 65472 := i32_or12 _ _ (by omega) (by omega) (by omega) (by omega) (by omega)
  have o1 : bits .or .i32 65472 61 = 65533 := i32_or6 _ _ (by omega) (by omega) (by omega) (by omega) (by omega)
  have HS : Hid (Utf8.encode (r) = ⟨#[b0, b1, b2]⟩) := hs
  clear hs hb0 hb1 hb2
  go_enter Efrg.func4, Efrg.ntmps4
  go_wp2_with (go_at_call 6; refine (string_any (r) _ _ (by go_simp)).mono ?_; rintro e w' ⟨rfl, rfl⟩; rw [HS.out])
  refine wp_loop_rounds 3 ?_
  rw [rounds_succ]
  go_wp2
  rw [rounds_succ]
  go_wp2
  rw [rounds_succ]
  go_wp2
  go_quiet (fail)
  go_wp2
  go_ret
  exact ⟨rfl, grown_drewN ((Grown.refl _).alloc _ _) _⟩

set_option maxHeartbeats 1000000 in
set_option maxRecDepth 100000 in
theorem back_big (r : Int) (h0 : 1114111 < r) (w : World) :
    Calls Efrg.prog 4 #[.int .i32 r] w fun e w' => e = .returned (.bool true) ∧ Grown w w' := by
  have hs := enc_bad r (Or.inr (Or.inr h0))
  have hb0 := by8_nat 239 (by omega) (by omega)
  have hb1 := by8_nat 191 (by omega) (by omega)
  have hb2 := by8_nat 189 (by omega) (by omega)
  generalize by8 239 = b0 at hs hb0
  generalize by8 191 = b1 at hs hb1
  generalize by8 189 = b2 at hs hb2
  have k0 : ∀ h, (((⟨#[b0, b1, b2]⟩ : ByteArray)[0]'h).toNat : Int) = 239 := fun _ => hb0
  have k1 : ∀ h, (((⟨#[b0, b1, b2]⟩ : ByteArray)[1]'h).toNat : Int) = 191 := fun _ => hb1
  have k2 : ∀ h, (((⟨#[b0, b1, b2]⟩ : ByteArray)[2]'h).toNat : Int) = 189 := fun _ => hb2
  have f0 : bits .and .u8 239 240 = 224 := by decide
  have f1 : bits .and .u8 239 15 = 15 := by decide
  have g0 : bits .and .u8 191 192 = 128 := by decide
  have g1 : bits .and .u8 191 63 = 63 := by decide
  have g2 : bits .and .u8 189 192 = 128 := by decide
  have g3 : bits .and .u8 189 63 = 61 := by decide
  have o0 : bits .or .i32 61440 4032 = 65472 := i32_or12 _ _ (by omega) (by omega) (by omega) (by omega) (by omega)
  have o1 : bits .or .i32 65472 61 = 65533 := i32_or6 _ _ (by omega) (by omega) (by omega) (by omega) (by omega)
  have HS : Hid (Utf8.encode (r) = ⟨#[b0, b1, b2]⟩) := hs
  clear hs hb0 hb1 hb2
  go_enter Efrg.func4, Efrg.ntmps4
  go_wp2_with (go_at_call 6; refine (string_any (r) _ _ (by go_simp)).mono ?_; rintro e w' ⟨rfl, rfl⟩; rw [HS.out])
  refine wp_loop_rounds 3 ?_
  rw [rounds_succ]
  go_wp2
  rw [rounds_succ]
  go_wp2
  rw [rounds_succ]
  go_wp2
  go_quiet (fail)
  go_wp2
  go_ret
  exact ⟨rfl, grown_drewN ((Grown.refl _).alloc _ _) _⟩

/-- Every integer (an int32 argument among them). -/
theorem back_any (r : Int) (w : World) :
    Calls Efrg.prog 4 #[.int .i32 r] w fun e w' => e = .returned (.bool true) ∧ Grown w w' := by
  by_cases n0 : r < 0
  · exact back_neg r n0 w
  by_cases n1 : r ≤ 127
  · exact back_one r (by omega) n1 w
  by_cases n2 : r ≤ 2047
  · have e : r = (r / 64) * 64 + r % 64 := by omega
    have h := back_two (r / 64) (r % 64) (by omega) (by omega) (by omega) (by omega) w
    rw [← e] at h
    exact h
  by_cases n3 : r ≤ 55295
  · have e : r = (r / 4096) * 4096 + (r / 64 % 64) * 64 + r % 64 := by omega
    have h := back_three_lo (r / 4096) (r / 64 % 64) (r % 64) (by omega) (by omega) (by omega) (by omega) (by omega) (by omega) (by omega) (by omega) w
    rw [← e] at h
    exact h
  by_cases n4 : r ≤ 57343
  · exact back_sur r (by omega) n4 w
  by_cases n5 : r ≤ 65535
  · have e : r = (r / 4096) * 4096 + (r / 64 % 64) * 64 + r % 64 := by omega
    have h := back_three_hi (r / 4096) (r / 64 % 64) (r % 64) (by omega) (by omega) (by omega) (by omega) (by omega) (by omega) (by omega) (by omega) w
    rw [← e] at h
    exact h
  by_cases n6 : r ≤ 1114111
  · have e : r = (r / 262144) * 262144 + (r / 4096 % 64) * 4096 + (r / 64 % 64) * 64 + r % 64 := by omega
    have h := back_four (r / 262144) (r / 4096 % 64) (r / 64 % 64) (r % 64) (by omega) (by omega) (by omega) (by omega) (by omega) (by omega) (by omega) (by omega) (by omega) (by omega) w
    rw [← e] at h
    exact h
  · exact back_big r (by omega) w
end Go.Proofs.Yoefrw
