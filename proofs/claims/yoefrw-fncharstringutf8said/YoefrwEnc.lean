/-
  zzEncodeRune (function 7), walked: one theorem for each range of the rune: it lays one new block with the rune's bytes, and hands back a slice over the whole of it.
-/
import Derived.Test.YoefrwWalks
namespace Go.Proofs.Yoefrw
open Go.ChangeShapes Go.WideShapes Go.ChangeAt Go.RowKit
open Plain

set_option maxHeartbeats 1000000 in
set_option maxRecDepth 100000 in
theorem zz_one (r : Int) (h0 : 0 ≤ r) (h1 : r ≤ 127) (w : World) :
    Calls Efrg.prog 7 #[.int .i32 r] w fun e w' => e = .returned (.slice (some ⟨w.heap.size, 0, none⟩) 1 1) ∧ w' = w.alloc (.cells #[.int .u8 r] 5) := by
  go_enter Efrg.func7, Efrg.ntmps7
  go_wp2
  go_ret
  exact ⟨rfl, rfl⟩

set_option maxHeartbeats 1000000 in
set_option maxRecDepth 100000 in
theorem zz_two (x0 x1 : Int) (h0 : 2 ≤ x0) (h1 : x0 < 32) (h2 : 0 ≤ x1) (h3 : x1 < 64) (w : World) :
    Calls Efrg.prog 7 #[.int .i32 (x0 * 64 + x1)] w fun e w' => e = .returned (.slice (some ⟨w.heap.size, 0, none⟩) 2 2) ∧ w' = w.alloc (.cells #[.int .u8 (192 + x0), .int .u8 (128 + x1)] 5) := by
  have d0 : (x0 * 64 + x1) / 64 = x0 := by omega
  have o0 : bits .or .i32 192 x0 = 192 + x0 := bits_join .i32 31 (by decide) wraps_i32 5 _ _ (by omega) (by omega) (by omega) (by omega) (by omega) (by omega)
  have m0 : bits .and .i32 (x0 * 64 + x1) 63 = x1 := by
    have := bits_mask .i32 31 (by decide) wraps_i32 6 (by decide) (x0 * 64 + x1) (by omega) (by omega)
    exact this.trans (by omega)
  have o1 : bits .or .i32 128 x1 = 128 + x1 := bits_join .i32 31 (by decide) wraps_i32 6 _ _ (by omega) (by omega) (by omega) (by omega) (by omega) (by omega)
  go_enter Efrg.func7, Efrg.ntmps7
  go_wp2
  go_ret
  exact ⟨rfl, rfl⟩

set_option maxHeartbeats 1000000 in
set_option maxRecDepth 100000 in
theorem zz_three_lo (x0 x1 x2 : Int) (h0 : 0 ≤ x0) (h1 : x0 < 16) (h2 : 0 ≤ x1) (h3 : x1 < 64) (h4 : 0 ≤ x2) (h5 : x2 < 64) (h6 : 2048 ≤ x0 * 4096 + x1 * 64 + x2) (h7 : x0 * 4096 + x1 * 64 + x2 ≤ 55295) (w : World) :
    Calls Efrg.prog 7 #[.int .i32 (x0 * 4096 + x1 * 64 + x2)] w fun e w' => e = .returned (.slice (some ⟨w.heap.size, 0, none⟩) 3 3) ∧ w' = w.alloc (.cells #[.int .u8 (224 + x0), .int .u8 (128 + x1), .int .u8 (128 + x2)] 5) := by
  have d0 : (x0 * 4096 + x1 * 64 + x2) / 4096 = x0 := by omega
  have d1 : (x0 * 4096 + x1 * 64 + x2) / 64 = x0 * 64 + x1 := by omega
  have o0 : bits .or .i32 224 x0 = 224 + x0 := bits_join .i32 31 (by decide) wraps_i32 4 _ _ (by omega) (by omega) (by omega) (by omega) (by omega) (by omega)
  have m0 : bits .and .i32 (x0 * 64 + x1) 63 = x1 := by
    have := bits_mask .i32 31 (by decide) wraps_i32 6 (by decide) (x0 * 64 + x1) (by omega) (by omega)
    exact this.trans (by omega)
  have m1 : bits .and .i32 (x0 * 4096 + x1 * 64 + x2) 63 = x2 := by
    have := bits_mask .i32 31 (by decide) wraps_i32 6 (by decide) (x0 * 4096 + x1 * 64 + x2) (by omega) (by omega)
    exact this.trans (by omega)
  have o1 : bits .or .i32 128 x1 = 128 + x1 := bits_join .i32 31 (by decide) wraps_i32 6 _ _ (by omega) (by omega) (by omega) (by omega) (by omega) (by omega)
  have o2 : bits .or .i32 128 x2 = 128 + x2 := bits_join .i32 31 (by decide) wraps_i32 6 _ _ (by omega) (by omega) (by omega) (by omega) (by omega) (by omega)
  go_enter Efrg.func7, Efrg.ntmps7
  go_wp2
  go_ret
  exact ⟨rfl, rfl⟩

set_option maxHeartbeats 1000000 in
set_option maxRecDepth 100000 in
theorem zz_three_hi (x0 x1 x2 : Int) (h0 : 0 ≤ x0) (h1 : x0 < 16) (h2 : 0 ≤ x1) (h3 : x1 < 64) (h4 : 0 ≤ x2) (h5 : x2 < 64) (h6 : 57344 ≤ x0 * 4096 + x1 * 64 + x2) (h7 : x0 * 4096 + x1 * 64 + x2 ≤ 65535) (w : World) :
    Calls Efrg.prog 7 #[.int .i32 (x0 * 4096 + x1 * 64 + x2)] w fun e w' => e = .returned (.slice (some ⟨w.heap.size, 0, none⟩) 3 3) ∧ w' = w.alloc (.cells #[.int .u8 (224 + x0), .int .u8 (128 + x1), .int .u8 (128 + x2)] 5) := by
  have d0 : (x0 * 4096 + x1 * 64 + x2) / 4096 = x0 := by omega
  have d1 : (x0 * 4096 + x1 * 64 + x2) / 64 = x0 * 64 + x1 := by omega
  have o0 : bits .or .i32 224 x0 = 224 + x0 := bits_join .i32 31 (by decide) wraps_i32 4 _ _ (by omega) (by omega) (by omega) (by omega) (by omega) (by omega)
  have m0 : bits .and .i32 (x0 * 64 + x1) 63 = x1 := by
    have := bits_mask .i32 31 (by decide) wraps_i32 6 (by decide) (x0 * 64 + x1) (by omega) (by omega)
    exact this.trans (by omega)
  have m1 : bits .and .i32 (x0 * 4096 + x1 * 64 + x2) 63 = x2 := by
    have := bits_mask .i32 31 (by decide) wraps_i32 6 (by decide) (x0 * 4096 + x1 * 64 + x2) (by omega) (by omega)
    exact this.trans (by omega)
  have o1 : bits .or .i32 128 x1 = 128 + x1 := bits_join .i32 31 (by decide) wraps_i32 6 _ _ (by omega) (by omega) (by omega) (by omega) (by omega) (by omega)
  have o2 : bits .or .i32 128 x2 = 128 + x2 := bits_join .i32 31 (by decide) wraps_i32 6 _ _ (by omega) (by omega) (by omega) (by omega) (by omega) (by omega)
  go_enter Efrg.func7, Efrg.ntmps7
  go_wp2
  go_ret
  exact ⟨rfl, rfl⟩

set_option maxHeartbeats 1000000 in
set_option maxRecDepth 100000 in
theorem zz_four (x0 x1 x2 x3 : Int) (h0 : 0 ≤ x0) (h1 : x0 < 8) (h2 : 0 ≤ x1) (h3 : x1 < 64) (h4 : 0 ≤ x2) (h5 : x2 < 64) (h8 : 0 ≤ x3) (h9 : x3 < 64) (h6 : 65536 ≤ x0 * 262144 + x1 * 4096 + x2 * 64 + x3) (h7 : x0 * 262144 + x1 * 4096 + x2 * 64 + x3 ≤ 1114111) (w : World) :
    Calls Efrg.prog 7 #[.int .i32 (x0 * 262144 + x1 * 4096 + x2 * 64 + x3)] w fun e w' => e = .returned (.slice (some ⟨w.heap.size, 0, none⟩) 4 4) ∧ w' = w.alloc (.cells #[.int .u8 (240 + x0), .int .u8 (128 + x1), .int .u8 (128 + x2), .int .u8 (128 + x3)] 5) := by
  have d0 : (x0 * 262144 + x1 * 4096 + x2 * 64 + x3) / 262144 = x0 := by omega
  have d1 : (x0 * 262144 + x1 * 4096 + x2 * 64 + x3) / 4096 = x0 * 64 + x1 := by omega
  have d2 : (x0 * 262144 + x1 * 4096 + x2 * 64 + x3) / 64 = x0 * 4096 + x1 * 64 + x2 := by omega
  have o0 : bits .or .i32 240 x0 = 240 + x0 := bits_join .i32 31 (by decide) wraps_i32 3 _ _ (by omega) (by omega) (by omega) (by omega) (by omega) (by omega)
  have m0 : bits .and .i32 (x0 * 64 + x1) 63 = x1 := by
    have := bits_mask .i32 31 (by decide) wraps_i32 6 (by decide) (x0 * 64 + x1) (by omega) (by omega)
    exact this.trans (by omega)
  have m1 : bits .and .i32 (x0 * 4096 + x1 * 64 + x2) 63 = x2 := by
    have := bits_mask .i32 31 (by decide) wraps_i32 6 (by decide) (x0 * 4096 + x1 * 64 + x2) (by omega) (by omega)
    exact this.trans (by omega)
  have m2 : bits .and .i32 (x0 * 262144 + x1 * 4096 + x2 * 64 + x3) 63 = x3 := by
    have := bits_mask .i32 31 (by decide) wraps_i32 6 (by decide) (x0 * 262144 + x1 * 4096 + x2 * 64 + x3) (by omega) (by omega)
    exact this.trans (by omega)
  have o1 : bits .or .i32 128 x1 = 128 + x1 := bits_join .i32 31 (by decide) wraps_i32 6 _ _ (by omega) (by omega) (by omega) (by omega) (by omega) (by omega)
  have o2 : bits .or .i32 128 x2 = 128 + x2 := bits_join .i32 31 (by decide) wraps_i32 6 _ _ (by omega) (by omega) (by omega) (by omega) (by omega) (by omega)
  have o3 : bits .or .i32 128 x3 = 128 + x3 := bits_join .i32 31 (by decide) wraps_i32 6 _ _ (by omega) (by omega) (by omega) (by omega) (by omega) (by omega)
  go_enter Efrg.func7, Efrg.ntmps7
  go_wp2
  go_ret
  exact ⟨rfl, rfl⟩

set_option maxHeartbeats 1000000 in
set_option maxRecDepth 100000 in
theorem zz_neg (r : Int) (h0 : r < 0) (w : World) :
    Calls Efrg.prog 7 #[.int .i32 r] w fun e w' => e = .returned (.slice (some ⟨w.heap.size, 0, none⟩) 3 3) ∧ w' = w.alloc (.cells #[.int .u8 239, .int .u8 191, .int .u8 189] 5) := by
  have o0 : bits .or .i32 224 15 = 239 := by decide
  have m0 : bits .and .i32 1023 63 = 63 := by decide
  have m1 : bits .and .i32 65533 63 = 61 := by decide
  have o1 : bits .or .i32 128 63 = 191 := by decide
  have o2 : bits .or .i32 128 61 = 189 := by decide
  go_enter Efrg.func7, Efrg.ntmps7
  go_wp2
  go_ret
  exact ⟨rfl, rfl⟩

set_option maxHeartbeats 1000000 in
set_option maxRecDepth 100000 in
theorem zz_sur (r : Int) (h0 : 55296 ≤ r) (h1 : r ≤ 57343) (w : World) :
    Calls Efrg.prog 7 #[.int .i32 r] w fun e w' => e = .returned (.slice (some ⟨w.heap.size, 0, none⟩) 3 3) ∧ w' = w.alloc (.cells #[.int .u8 239, .int .u8 191, .int .u8 189] 5) := by
  have o0 : bits .or .i32 224 15 = 239 := by decide
  have m0 : bits .and .i32 1023 63 = 63 := by decide
  have m1 : bits .and .i32 65533 63 = 61 := by decide
  have o1 : bits .or .i32 128 63 = 191 := by decide
  have o2 : bits .or .i32 128 61 = 189 := by decide
  go_enter Efrg.func7, Efrg.ntmps7
  go_wp2
  go_ret
  exact ⟨rfl, rfl⟩

set_option maxHeartbeats 1000000 in
set_option maxRecDepth 100000 in
theorem zz_big (r : Int) (h0 : 1114111 < r) (w : World) :
    Calls Efrg.prog 7 #[.int .i32 r] w fun e w' => e = .returned (.slice (some ⟨w.heap.size, 0, none⟩) 3 3) ∧ w' = w.alloc (.cells #[.int .u8 239, .int .u8 191, .int .u8 189] 5) := by
  have o0 : bits .or .i32 224 15 = 239 := by decide
  have m0 : bits .and .i32 1023 63 = 63 := by decide
  have m1 : bits .and .i32 65533 63 = 61 := by decide
  have o1 : bits .or .i32 128 63 = 191 := by decide
  have o2 : bits .or .i32 128 61 = 189 := by decide
  go_enter Efrg.func7, Efrg.ntmps7
  go_wp2
  go_ret
  exact ⟨rfl, rfl⟩
end Go.Proofs.Yoefrw
