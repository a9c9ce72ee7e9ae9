/-
  FnCharStringUTF8 (function 3), walked: one theorem for each range of the rune, then joined for every int32. The loop over the bytes is unrolled: its rounds are known.
-/
import Derived.Test.YoefrwEnc
import Derived.LoopN
import Derived.Deep.QuietTactic
import Derived.BigQuiet
namespace Go.Proofs.Yoefrw.Utf
open Go.ChangeShapes Go.WideShapes Go.ChangeAt Go.RowKit
open Plain
theorem grown_drewN {W w' : World} (h : Grown W w') (n : Nat) : Grown W (w'.drewN n) := h

set_option maxHeartbeats 1000000 in
set_option maxRecDepth 100000 in
theorem utf_one (r : Int) (h0 : 0 ≤ r) (h1 : r ≤ 127) (w : World) :
    Calls Efrg.prog 3 #[.int .i32 r] w fun e w' => e = .returned (.bool true) ∧ Grown w w' := by
  have hs := enc_one r h0 h1
  have hb0 := by8_nat r (by omega) (by omega)
  generalize by8 r = b0 at hs hb0
  have k0 : ∀ h, (((⟨#[b0]⟩ : ByteArray)[0]'h).toNat : Int) = r := fun _ => hb0
  have HS : Hid (Utf8.encode r = ⟨#[b0]⟩) := hs
  clear hs hb0
  go_enter Efrg.func3, Efrg.ntmps3
  go_wp2_with (first | (go_at_call 6; refine (string_any r _ _ (by go_simp)).mono ?_; rintro e w' ⟨rfl, rfl⟩; rw [HS.out]) | (go_at_call 7; refine (zz_one r h0 h1 _).mono ?_; rintro e w' ⟨rfl, rfl⟩))
  refine wp_loop_rounds 2 ?_
  rw [rounds_succ]
  go_wp2
  go_quiet (fail)
  go_wp2
  rw [rounds_succ]
  go_wp2
  go_ret
  exact ⟨rfl, by repeat (first | exact Grown.refl _ | apply grown_drewN | apply Grown.drew | apply Grown.alloc)⟩

set_option maxHeartbeats 1000000 in
set_option maxRecDepth 100000 in
theorem utf_two (x0 x1 : Int) (h0 : 2 ≤ x0) (h1 : x0 < 32) (h2 : 0 ≤ x1) (h3 : x1 < 64) (w : World) :
    Calls Efrg.prog 3 #[.int .i32 (x0 * 64 + x1)] w fun e w' => e = .returned (.bool true) ∧ Grown w w' := by
  have hs := enc_two (x0 * 64 + x1) (by omega) (by omega)
  rw [show (x0 * 64 + x1) / 64 = x0 from by omega, show (x0 * 64 + x1) % 64 = x1 from by omega] at hs
  have hb0 := by8_nat (192 + x0) (by omega) (by omega)
  have hb1 := by8_nat (128 + x1) (by omega) (by omega)
  generalize by8 (192 + x0) = b0 at hs hb0
  generalize by8 (128 + x1) = b1 at hs hb1
  have k0 : ∀ h, (((⟨#[b0, b1]⟩ : ByteArray)[0]'h).toNat : Int) = 192 + x0 := fun _ => hb0
  have k1 : ∀ h, (((⟨#[b0, b1]⟩ : ByteArray)[1]'h).toNat : Int) = 128 + x1 := fun _ => hb1
  have HS : Hid (Utf8.encode (x0 * 64 + x1) = ⟨#[b0, b1]⟩) := hs
  clear hs hb0 hb1
  go_enter Efrg.func3, Efrg.ntmps3
  go_wp2_with (first | (go_at_call 6; refine (string_any (x0 * 64 + x1) _ _ (by go_simp)).mono ?_; rintro e w' ⟨rfl, rfl⟩; rw [HS.out]) | (go_at_call 7; refine (zz_two x0 x1 h0 h1 h2 h3 _).mono ?_; rintro e w' ⟨rfl, rfl⟩))
  refine wp_loop_rounds 3 ?_
  rw [rounds_succ]
  go_wp2
  go_quiet (fail)
  go_wp2
  rw [rounds_succ]
  go_wp2
  go_quiet (fail)
  go_wp2
  rw [rounds_succ]
  go_wp2
  go_ret
  exact ⟨rfl, by repeat (first | exact Grown.refl _ | apply grown_drewN | apply Grown.drew | apply Grown.alloc)⟩

set_option maxHeartbeats 1000000 in
set_option maxRecDepth 100000 in
theorem utf_three_lo (x0 x1 x2 : Int) (h0 : 0 ≤ x0) (h1 : x0 < 16) (h2 : 0 ≤ x1) (h3 : x1 < 64) (h4 : 0 ≤ x2) (h5 : x2 < 64) (h6 : 2048 ≤ x0 * 4096 + x1 * 64 + x2) (h7 : x0 * 4096 + x1 * 64 + x2 ≤ 55295) (w : World) :
    Calls Efrg.prog 3 #[.int .i32 (x0 * 4096 + x1 * 64 + x2)] w fun e w' => e = .returned (.bool true) ∧ Grown w w' := by
  have hs := enc_three (x0 * 4096 + x1 * 64 + x2) (by omega) (by omega) (by omega)
  rw [show (x0 * 4096 + x1 * 64 + x2) / 4096 = x0 from by omega, show (x0 * 4096 + x1 * 64 + x2) / 64 % 64 = x1 from by omega, show (x0 * 4096 + x1 * 64 + x2) % 64 = x2 from by omega] at hs
  have hb0 := by8_nat (224 + x0) (by omega) (by omega)
  have hb1 := by8_nat (128 + x1) (by omega) (by omega)
  have hb2 := by8_nat (128 + x2) (by omega) (by omega)
  generalize by8 (224 + x0) = b0 at hs hb0
  generalize by8 (128 + x1) = b1 at hs hb1
  generalize by8 (128 + x2) = b2 at hs hb2
  have k0 : ∀ h, (((⟨#[b0, b1, b2]⟩ : ByteArray)[0]'h).toNat : Int) = 224 + x0 := fun _ => hb0
  have k1 : ∀ h, (((⟨#[b0, b1, b2]⟩ : ByteArray)[1]'h).toNat : Int) = 128 + x1 := fun _ => hb1
  have k2 : ∀ h, (((⟨#[b0, b1, b2]⟩ : ByteArray)[2]'h).toNat : Int) = 128 + x2 := fun _ => hb2
  have HS : Hid (Utf8.encode (x0 * 4096 + x1 * 64 + x2) = ⟨#[b0, b1, b2]⟩) := hs
  clear hs hb0 hb1 hb2
  go_enter Efrg.func3, Efrg.ntmps3
  go_wp2_with (first | (go_at_call 6; refine (string_any (x0 * 4096 + x1 * 64 + x2) _ _ (by go_simp)).mono ?_; rintro e w' ⟨rfl, rfl⟩; rw [HS.out]) | (go_at_call 7; refine (zz_three_lo x0 x1 x2 h0 h1 h2 h3 h4 h5 h6 h7 _).mono ?_; rintro e w' ⟨rfl, rfl⟩))
  refine wp_loop_rounds 4 ?_
  rw [rounds_succ]
  go_wp2
  go_quiet (fail)
  go_wp2
  rw [rounds_succ]
  go_wp2
  go_quiet (fail)
  go_wp2
  rw [rounds_succ]
  go_wp2
  go_quiet (fail)
  go_wp2
  rw [rounds_succ]
  go_wp2
  go_ret
  exact ⟨rfl, by repeat (first | exact Grown.refl _ | apply grown_drewN | apply Grown.drew | apply Grown.alloc)⟩

set_option maxHeartbeats 1000000 in
set_option maxRecDepth 100000 in
theorem utf_three_hi (x0 x1 x2 : Int) (h0 : 0 ≤ x0) (h1 : x0 < 16) (h2 : 0 ≤ x1) (h3 : x1 < 64) (h4 : 0 ≤ x2) (h5 : x2 < 64) (h6 : 57344 ≤ x0 * 4096 + x1 * 64 + x2) (h7 : x0 * 4096 + x1 * 64 + x2 ≤ 65535) (w : World) :
    Calls Efrg.prog 3 #[.int .i32 (x0 * 4096 + x1 * 64 + x2)] w fun e w' => e = .returned (.bool true) ∧ Grown w w' := by
  have hs := enc_three (x0 * 4096 + x1 * 64 + x2) (by omega) (by omega) (by omega)
  rw [show (x0 * 4096 + x1 * 64 + x2) / 4096 = x0 from by omega, show (x0 * 4096 + x1 * 64 + x2) / 64 % 64 = x1 from by omega, show (x0 * 4096 + x1 * 64 + x2) % 64 = x2 from by omega] at hs
  have hb0 := by8_nat (224 + x0) (by omega) (by omega)
  have hb1 := by8_nat (128 + x1) (by omega) (by omega)
  have hb2 := by8_nat (128 + x2) (by omega) (by omega)
  generalize by8 (224 + x0) = b0 at hs hb0
  generalize by8 (128 + x1) = b1 at hs hb1
  generalize by8 (128 + x2) = b2 at hs hb2
  have k0 : ∀ h, (((⟨#[b0, b1, b2]⟩ : ByteArray)[0]'h).toNat : Int) = 224 + x0 := fun _ => hb0
  have k1 : ∀ h, (((⟨#[b0, b1, b2]⟩ : ByteArray)[1]'h).toNat : Int) = 128 + x1 := fun _ => hb1
  have k2 : ∀ h, (((⟨#[b0, b1, b2]⟩ : ByteArray)[2]'h).toNat : Int) = 128 + x2 := fun _ => hb2
  have HS : Hid (Utf8.encode (x0 * 4096 + x1 * 64 + x2) = ⟨#[b0, b1, b2]⟩) := hs
  clear hs hb0 hb1 hb2
  go_enter Efrg.func3, Efrg.ntmps3
  go_wp2_with (first | (go_at_call 6; refine (string_any (x0 * 4096 + x1 * 64 + x2) _ _ (by go_simp)).mono ?_; rintro e w' ⟨rfl, rfl⟩; rw [HS.out]) | (go_at_call 7; refine (zz_three_hi x0 x1 x2 h0 h1 h2 h3 h4 h5 h6 h7 _).mono ?_; rintro e w' ⟨rfl, rfl⟩))
  refine wp_loop_rounds 4 ?_
  rw [rounds_succ]
  go_wp2
  go_quiet (fail)
  go_wp2
  rw [rounds_succ]
  go_wp2
  go_quiet (fail)
  go_wp2
  rw [rounds_succ]
  go_wp2
  go_quiet (fail)
  go_wp2
  rw [rounds_succ]
  go_wp2
  go_ret
  exact ⟨rfl, by repeat (first | exact Grown.refl _ | apply grown_drewN | apply Grown.drew | apply Grown.alloc)⟩

set_option maxHeartbeats 1000000 in
set_option maxRecDepth 100000 in
theorem utf_four (x0 x1 x2 x3 : Int) (h0 : 0 ≤ x0) (h1 : x0 < 8) (h2 : 0 ≤ x1) (h3 : x1 < 64) (h4 : 0 ≤ x2) (h5 : x2 < 64) (h8 : 0 ≤ x3) (h9 : x3 < 64) (h6 : 65536 ≤ x0 * 262144 + x1 * 4096 + x2 * 64 + x3) (h7 : x0 * 262144 + x1 * 4096 + x2 * 64 + x3 ≤ 1114111) (w : World) :
    Calls Efrg.prog 3 #[.int .i32 (x0 * 262144 + x1 * 4096 + x2 * 64 + x3)] w fun e w' => e = .returned (.bool true) ∧ Grown w w' := by
  have hs := enc_four (x0 * 262144 + x1 * 4096 + x2 * 64 + x3) (by omega) (by omega)
  rw [show (x0 * 262144 + x1 * 4096 + x2 * 64 + x3) / 262144 = x0 from by omega, show (x0 * 262144 + x1 * 4096 + x2 * 64 + x3) / 4096 % 64 = x1 from by omega, show (x0 * 262144 + x1 * 4096 + x2 * 64 + x3) / 64 % 64 = x2 from by omega, show (x0 * 262144 + x1 * 4096 + x2 * 64 + x3) % 64 = x3 from by omega] at hs
  have hb0 := by8_nat (240 + x0) (by omega) (by omega)
  have hb1 := by8_nat (128 + x1) (by omega) (by omega)
  have hb2 := by8_nat (128 + x2) (by omega) (by omega)
  have hb3 := by8_nat (128 + x3) (by omega) (by omega)
  generalize by8 (240 + x0) = b0 at hs hb0
  generalize by8 (128 + x1) = b1 at hs hb1
  generalize by8 (128 + x2) = b2 at hs hb2
  generalize by8 (128 + x3) = b3 at hs hb3
  have k0 : ∀ h, (((⟨#[b0, b1, b2, b3]⟩ : ByteArray)[0]'h).toNat : Int) = 240 + x0 := fun _ => hb0
  have k1 : ∀ h, (((⟨#[b0, b1, b2, b3]⟩ : ByteArray)[1]'h).toNat : Int) = 128 + x1 := fun _ => hb1
  have k2 : ∀ h, (((⟨#[b0, b1, b2, b3]⟩ : ByteArray)[2]'h).toNat : Int) = 128 + x2 := fun _ => hb2
  have k3 : ∀ h, (((⟨#[b0, b1, b2, b3]⟩ : ByteArray)[3]'h).toNat : Int) = 128 + x3 := fun _ => hb3
  have HS : Hid (Utf8.encode (x0 * 262144 + x1 * 4096 + x2 * 64 + x3) = ⟨#[b0, b1, b2, b3]⟩) := hs
  clear hs hb0 hb1 hb2 hb3
  go_enter Efrg.func3, Efrg.ntmps3
  go_wp2_with (first | (go_at_call 6; refine (string_any (x0 * 262144 + x1 * 4096 + x2 * 64 + x3) _ _ (by go_simp)).mono ?_; rintro e w' ⟨rfl, rfl⟩; rw [HS.out]) | (go_at_call 7; refine (zz_four x0 x1 x2 x3 h0 h1 h2 h3 h4 h5 h8 h9 h6 h7 _).mono ?_; rintro e w' ⟨rfl, rfl⟩))
  refine wp_loop_rounds 5 ?_
  rw [rounds_succ]
  go_wp2
  go_quiet (fail)
  go_wp2
  rw [rounds_succ]
  go_wp2
  go_quiet (fail)
  go_wp2
  rw [rounds_succ]
  go_wp2
  go_quiet (fail)
  go_wp2
  rw [rounds_succ]
  go_wp2
  go_quiet (fail)
  go_wp2
  rw [rounds_succ]
  go_wp2
  go_ret
  exact ⟨rfl, by repeat (first | exact Grown.refl _ | apply grown_drewN | apply Grown.drew | apply Grown.alloc)⟩

set_option maxHeartbeats 1000000 in
set_option maxRecDepth 100000 in
theorem utf_neg (r : Int) (h0 : r < 0) (w : World) :
    Calls Efrg.prog 3 #[.int .i32 r] w fun e w' => e = .returned (.bool true) ∧ Grown w w' := by
  have hs := enc_bad r (Or.inl h0)
  have hb0 := by8_nat 239 (by omega) (by omega)
  have hb1 := by8_nat 191 (by omega) (by omega)
  have hb2 := by8_nat 189 (by omega) (by omega)
  generalize by8 239 = b0 at hs hb0
  generalize by8 191 = b1 at hs hb1
  generalize by8 189 = b2 at hs hb2
  have k0 : ∀ h, (((⟨#[b0, b1, b2]⟩ : ByteArray)[0]'h).toNat : Int) = 239 := fun _ => hb0
  have k1 : ∀ h, (((⟨#[b0, b1, b2]⟩ : ByteArray)[1]'h).toNat : Int) = 191 := fun _ => hb1
  have k2 : ∀ h, (((⟨#[b0, b1, b2]⟩ : ByteArray)[2]'h).toNat : Int) = 189 := fun _ => hb2
  have HS : Hid (Utf8.encode r = ⟨#[b0, b1, b2]⟩) := hs
  clear hs hb0 hb1 hb2
  go_enter Efrg.func3, Efrg.ntmps3
  go_wp2_with (first | (go_at_call 6; refine (string_any r _ _ (by go_simp)).mono ?_; rintro e w' ⟨rfl, rfl⟩; rw [HS.out]) | (go_at_call 7; refine (zz_neg r h0 _).mono ?_; rintro e w' ⟨rfl, rfl⟩))
  refine wp_loop_rounds 4 ?_
  rw [rounds_succ]
  go_wp2
  go_quiet (fail)
  go_wp2
  rw [rounds_succ]
  go_wp2
  go_quiet (fail)
  go_wp2
  rw [rounds_succ]
  go_wp2
  go_quiet (fail)
  go_wp2
  rw [rounds_succ]
  go_wp2
  go_ret
  exact ⟨rfl, by repeat (first | exact Grown.refl _ | apply grown_drewN | apply Grown.drew | apply Grown.alloc)⟩

set_option maxHeartbeats 1000000 in
set_option maxRecDepth 100000 in
theorem utf_sur (r : Int) (h0 : 55296 ≤ r) (h1 : r ≤ 57343) (w : World) :
    Calls Efrg.prog 3 #[.int .i32 r] w fun e w' => e = .returned (.bool true) ∧ Grown w w' := by
  have hs := enc_bad r (Or.inr (Or.inl ⟨h0, h1⟩))
  have hb0 := by8_nat 239 (by omega) (by omega)
  have hb1 := by8_nat 191 (by omega) (by omega)
  have hb2 := by8_nat 189 (by omega) (by omega)
  generalize by8 239 = b0 at hs hb0
  generalize by8 191 = b1 at hs hb1
  generalize by8 189 = b2 at hs hb2
  have k0 : ∀ h, (((⟨#[b0, b1, b2]⟩ : ByteArray)[0]'h).toNat : Int) = 239 := fun _ => hb0
  have k1 : ∀ h, (((⟨#[b0, b1, b2]⟩ : ByteArray)[1]'h).toNat : Int) = 191 := fun _ => hb1
  have k2 : ∀ h, (((⟨#[b0, b1, b2]⟩ : ByteArray)[2]'h).toNat : Int) = 189 := fun _ => hb2
  have HS : Hid (Utf8.encode r = ⟨#[b0, b1, b2]⟩) := hs
  clear hs hb0 hb1 hb2
  go_enter Efrg.func3, Efrg.ntmps3
  go_wp2_with (first | (go_at_call 6; refine (string_any r _ _ (by go_simp)).mono ?_; rintro e w' ⟨rfl, rfl⟩; rw [HS.out]) | (go_at_call 7; refine (zz_sur r h0 h1 _).mono ?_; rintro e w' ⟨rfl, rfl⟩))
  refine wp_loop_rounds 4 ?_
  rw [rounds_succ]
  go_wp2
  go_quiet (fail)
  go_wp2
  rw [rounds_succ]
  go_wp2
  go_quiet (fail)
  go_wp2
  rw [rounds_succ]
  go_wp2
  go_quiet (fail)
  go_wp2
  rw [rounds_succ]
  go_wp2
  go_ret
  exact ⟨rfl, by repeat (first | exact Grown.refl _ | apply grown_drewN | apply Grown.drew | apply Grown.alloc)⟩

set_option maxHeartbeats 1000000 in
set_option maxRecDepth 100000 in
theorem utf_big (r : Int) (h0 : 1114111 < r) (w : World) :
    Calls Efrg.prog 3 #[.int .i32 r] w fun e w' => e = .returned (.bool true) ∧ Grown w w' := by
  have hs := enc_bad r (Or.inr (Or.inr h0))
  have hb0 := by8_nat 239 (by omega) (by omega)
  have hb1 := by8_nat 191 (by omega) (by omega)
  have hb2 := by8_nat 189 (by omega) (by omega)
  generalize by8 239 = b0 at hs hb0
  generalize by8 191 = b1 at hs hb1
  generalize by8 189 = b2 at hs hb2
  have k0 : ∀ h, (((⟨#[b0, b1, b2]⟩ : ByteArray)[0]'h).toNat : Int) = 239 := fun _ => hb0
  have k1 : ∀ h, (((⟨#[b0, b1, b2]⟩ : ByteArray)[1]'h).toNat : Int) = 191 := fun _ => hb1
  have k2 : ∀ h, (((⟨#[b0, b1, b2]⟩ : ByteArray)[2]'h).toNat : Int) = 189 := fun _ => hb2
  have HS : Hid (Utf8.encode r = ⟨#[b0, b1, b2]⟩) := hs
  clear hs hb0 hb1 hb2
  go_enter Efrg.func3, Efrg.ntmps3
  go_wp2_with (first | (go_at_call 6; refine (string_any r _ _ (by go_simp)).mono ?_; rintro e w' ⟨rfl, rfl⟩; rw [HS.out]) | (go_at_call 7; refine (zz_big r h0 _).mono ?_; rintro e w' ⟨rfl, rfl⟩))
  refine wp_loop_rounds 4 ?_
  rw [rounds_succ]
  go_wp2
  go_quiet (fail)
  go_wp2
  rw [rounds_succ]
  go_wp2
  go_quiet (fail)
  go_wp2
  rw [rounds_succ]
  go_wp2
  go_quiet (fail)
  go_wp2
  rw [rounds_succ]
  go_wp2
  go_ret
  exact ⟨rfl, by repeat (first | exact Grown.refl _ | apply grown_drewN | apply Grown.drew | apply Grown.alloc)⟩

/-- Every integer. -/
theorem utf_any (r : Int) (w : World) :
    Calls Efrg.prog 3 #[.int .i32 r] w fun e w' => e = .returned (.bool true) ∧ Grown w w' := by
  by_cases n0 : r < 0
  · exact utf_neg r n0 w
  by_cases n1 : r ≤ 127
  · exact utf_one r (by omega) n1 w
  by_cases n2 : r ≤ 2047
  · have e : r = (r / 64) * 64 + r % 64 := by omega
    have h := utf_two (r / 64) (r % 64) (by omega) (by omega) (by omega) (by omega) w
    rw [← e] at h
    exact h
  by_cases n3 : r ≤ 55295
  · have e : r = (r / 4096) * 4096 + (r / 64 % 64) * 64 + r % 64 := by omega
    have h := utf_three_lo (r / 4096) (r / 64 % 64) (r % 64) (by omega) (by omega) (by omega) (by omega) (by omega) (by omega) (by omega) (by omega) w
    rw [← e] at h
    exact h
  by_cases n4 : r ≤ 57343
  · exact utf_sur r (by omega) n4 w
  by_cases n5 : r ≤ 65535
  · have e : r = (r / 4096) * 4096 + (r / 64 % 64) * 64 + r % 64 := by omega
    have h := utf_three_hi (r / 4096) (r / 64 % 64) (r % 64) (by omega) (by omega) (by omega) (by omega) (by omega) (by omega) (by omega) (by omega) w
    rw [← e] at h
    exact h
  by_cases n6 : r ≤ 1114111
  · have e : r = (r / 262144) * 262144 + (r / 4096 % 64) * 4096 + (r / 64 % 64) * 64 + r % 64 := by omega
    have h := utf_four (r / 262144) (r / 4096 % 64) (r / 64 % 64) (r % 64) (by omega) (by omega) (by omega) (by omega) (by omega) (by omega) (by omega) (by omega) (by omega) (by omega) w
    rw [← e] at h
    exact h
  · exact utf_big r (by omega) w
end Go.Proofs.Yoefrw.Utf
