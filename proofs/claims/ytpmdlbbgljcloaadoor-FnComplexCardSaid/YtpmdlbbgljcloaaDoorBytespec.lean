/- What msgp's table tells of a first byte: how many bytes stand ahead, how many more follow, of which kind: calcBytespec and getBytespec, walked at every byte. Conditions: the argument is a byte. -/
import Derived.Test.YtpmdlbbgljcloaaDoorPure
namespace Go.Proofs.YtpmdlbbgljcloaaDoor
open Go Go.RowKit

/-- How many bytes stand ahead, by the first one. -/
def bsz (c : Int) : Int :=
  if c < 160 then 1 else if c < 192 then 1 + c % 32 else
  if c = 192 then 1 else if c = 193 then 0 else if c = 194 then 1 else if c = 195 then 1 else if c = 196 then 2 else if c = 197 then 3 else if c = 198 then 5 else if c = 199 then 3 else if c = 200 then 4 else if c = 201 then 6 else if c = 202 then 5 else if c = 203 then 9 else if c = 204 then 2 else if c = 205 then 3 else if c = 206 then 5 else if c = 207 then 9 else if c = 208 then 2 else if c = 209 then 3 else if c = 210 then 5 else if c = 211 then 9 else if c = 212 then 3 else if c = 213 then 4 else if c = 214 then 6 else if c = 215 then 10 else if c = 216 then 18 else if c = 217 then 2 else if c = 218 then 3 else if c = 219 then 5 else if c = 220 then 3 else if c = 221 then 5 else if c = 222 then 3 else if c = 223 then 5 else 1
/-- How many more follow, or where that is told. -/
def bex (c : Int) : Int :=
  if c < 128 then 0 else if c < 144 then 2 * (c % 16) else if c < 160 then c % 16 else
  if c = 196 then -1 else if c = 197 then -2 else if c = 198 then -3 else if c = 199 then -1 else if c = 200 then -2 else if c = 201 then -3 else if c = 217 then -1 else if c = 218 then -2 else if c = 219 then -3 else if c = 220 then -6 else if c = 221 then -7 else if c = 222 then -4 else if c = 223 then -5 else 0
/-- Of which kind. -/
def bty (c : Int) : Int :=
  if c < 128 then 8 else if c < 144 then 3 else if c < 160 then 4 else if c < 192 then 1 else
  if c = 192 then 10 else if c = 193 then 0 else if c = 194 then 7 else if c = 195 then 7 else if c = 196 then 2 else if c = 197 then 2 else if c = 198 then 2 else if c = 199 then 12 else if c = 200 then 12 else if c = 201 then 12 else if c = 202 then 6 else if c = 203 then 5 else if c = 204 then 9 else if c = 205 then 9 else if c = 206 then 9 else if c = 207 then 9 else if c = 208 then 8 else if c = 209 then 8 else if c = 210 then 8 else if c = 211 then 8 else if c = 212 then 12 else if c = 213 then 12 else if c = 214 then 12 else if c = 215 then 12 else if c = 216 then 12 else if c = 217 then 1 else if c = 218 then 1 else if c = 219 then 1 else if c = 220 then 4 else if c = 221 then 4 else if c = 222 then 3 else if c = 223 then 3 else 8
/-- The table's row as a value. -/
abbrev bval (c : Int) : Value := .agg #[.int .u8 (bsz c), .int .i8 (bex c), .int .u8 (bty c), .int .u8 0]
abbrev bobj (c : Int) : Obj := .cells #[.int .u8 (bsz c), .int .i8 (bex c), .int .u8 (bty c), .int .u8 0] 195

set_option maxHeartbeats 400000 in
theorem calc_192 (w : World) : Calls Tryd.prog 139 #[.int .u8 192] w fun e w' => e = .returned (.agg #[.int .u8 1, .int .i8 0, .int .u8 10, .int .u8 0]) ∧ w.alloc (.cells #[.int .u8 1, .int .i8 0, .int .u8 10, .int .u8 0] 195) = w' := by
  go_enter Tryd.func139, Tryd.ntmps139
  go_wp2
  exact bodyPost_ret (v := .agg #[.int .u8 1, .int .i8 0, .int .u8 10, .int .u8 0]) (by simp [results, Tryd.results139, go_sem]) rfl ⟨rfl, rfl⟩

set_option maxHeartbeats 400000 in
theorem calc_193 (w : World) : Calls Tryd.prog 139 #[.int .u8 193] w fun e w' => e = .returned (.agg #[.int .u8 0, .int .i8 0, .int .u8 0, .int .u8 0]) ∧ w.alloc (.cells #[.int .u8 0, .int .i8 0, .int .u8 0, .int .u8 0] 195) = w' := by
  go_enter Tryd.func139, Tryd.ntmps139
  go_wp2
  exact bodyPost_ret (v := .agg #[.int .u8 0, .int .i8 0, .int .u8 0, .int .u8 0]) (by simp [results, Tryd.results139, go_sem]) rfl ⟨rfl, rfl⟩

set_option maxHeartbeats 400000 in
theorem calc_194 (w : World) : Calls Tryd.prog 139 #[.int .u8 194] w fun e w' => e = .returned (.agg #[.int .u8 1, .int .i8 0, .int .u8 7, .int .u8 0]) ∧ w.alloc (.cells #[.int .u8 1, .int .i8 0, .int .u8 7, .int .u8 0] 195) = w' := by
  go_enter Tryd.func139, Tryd.ntmps139
  go_wp2
  exact bodyPost_ret (v := .agg #[.int .u8 1, .int .i8 0, .int .u8 7, .int .u8 0]) (by simp [results, Tryd.results139, go_sem]) rfl ⟨rfl, rfl⟩

set_option maxHeartbeats 400000 in
theorem calc_195 (w : World) : Calls Tryd.prog 139 #[.int .u8 195] w fun e w' => e = .returned (.agg #[.int .u8 1, .int .i8 0, .int .u8 7, .int .u8 0]) ∧ w.alloc (.cells #[.int .u8 1, .int .i8 0, .int .u8 7, .int .u8 0] 195) = w' := by
  go_enter Tryd.func139, Tryd.ntmps139
  go_wp2
  exact bodyPost_ret (v := .agg #[.int .u8 1, .int .i8 0, .int .u8 7, .int .u8 0]) (by simp [results, Tryd.results139, go_sem]) rfl ⟨rfl, rfl⟩

set_option maxHeartbeats 400000 in
theorem calc_196 (w : World) : Calls Tryd.prog 139 #[.int .u8 196] w fun e w' => e = .returned (.agg #[.int .u8 2, .int .i8 (-1), .int .u8 2, .int .u8 0]) ∧ w.alloc (.cells #[.int .u8 2, .int .i8 (-1), .int .u8 2, .int .u8 0] 195) = w' := by
  go_enter Tryd.func139, Tryd.ntmps139
  go_wp2
  exact bodyPost_ret (v := .agg #[.int .u8 2, .int .i8 (-1), .int .u8 2, .int .u8 0]) (by simp [results, Tryd.results139, go_sem]) rfl ⟨rfl, rfl⟩

set_option maxHeartbeats 400000 in
theorem calc_197 (w : World) : Calls Tryd.prog 139 #[.int .u8 197] w fun e w' => e = .returned (.agg #[.int .u8 3, .int .i8 (-2), .int .u8 2, .int .u8 0]) ∧ w.alloc (.cells #[.int .u8 3, .int .i8 (-2), .int .u8 2, .int .u8 0] 195) = w' := by
  go_enter Tryd.func139, Tryd.ntmps139
  go_wp2
  exact bodyPost_ret (v := .agg #[.int .u8 3, .int .i8 (-2), .int .u8 2, .int .u8 0]) (by simp [results, Tryd.results139, go_sem]) rfl ⟨rfl, rfl⟩

set_option maxHeartbeats 400000 in
theorem calc_198 (w : World) : Calls Tryd.prog 139 #[.int .u8 198] w fun e w' => e = .returned (.agg #[.int .u8 5, .int .i8 (-3), .int .u8 2, .int .u8 0]) ∧ w.alloc (.cells #[.int .u8 5, .int .i8 (-3), .int .u8 2, .int .u8 0] 195) = w' := by
  go_enter Tryd.func139, Tryd.ntmps139
  go_wp2
  exact bodyPost_ret (v := .agg #[.int .u8 5, .int .i8 (-3), .int .u8 2, .int .u8 0]) (by simp [results, Tryd.results139, go_sem]) rfl ⟨rfl, rfl⟩

set_option maxHeartbeats 400000 in
theorem calc_199 (w : World) : Calls Tryd.prog 139 #[.int .u8 199] w fun e w' => e = .returned (.agg #[.int .u8 3, .int .i8 (-1), .int .u8 12, .int .u8 0]) ∧ w.alloc (.cells #[.int .u8 3, .int .i8 (-1), .int .u8 12, .int .u8 0] 195) = w' := by
  go_enter Tryd.func139, Tryd.ntmps139
  go_wp2
  exact bodyPost_ret (v := .agg #[.int .u8 3, .int .i8 (-1), .int .u8 12, .int .u8 0]) (by simp [results, Tryd.results139, go_sem]) rfl ⟨rfl, rfl⟩

set_option maxHeartbeats 400000 in
theorem calc_200 (w : World) : Calls Tryd.prog 139 #[.int .u8 200] w fun e w' => e = .returned (.agg #[.int .u8 4, .int .i8 (-2), .int .u8 12, .int .u8 0]) ∧ w.alloc (.cells #[.int .u8 4, .int .i8 (-2), .int .u8 12, .int .u8 0] 195) = w' := by
  go_enter Tryd.func139, Tryd.ntmps139
  go_wp2
  exact bodyPost_ret (v := .agg #[.int .u8 4, .int .i8 (-2), .int .u8 12, .int .u8 0]) (by simp [results, Tryd.results139, go_sem]) rfl ⟨rfl, rfl⟩

set_option maxHeartbeats 400000 in
theorem calc_201 (w : World) : Calls Tryd.prog 139 #[.int .u8 201] w fun e w' => e = .returned (.agg #[.int .u8 6, .int .i8 (-3), .int .u8 12, .int .u8 0]) ∧ w.alloc (.cells #[.int .u8 6, .int .i8 (-3), .int .u8 12, .int .u8 0] 195) = w' := by
  go_enter Tryd.func139, Tryd.ntmps139
  go_wp2
  exact bodyPost_ret (v := .agg #[.int .u8 6, .int .i8 (-3), .int .u8 12, .int .u8 0]) (by simp [results, Tryd.results139, go_sem]) rfl ⟨rfl, rfl⟩

set_option maxHeartbeats 400000 in
theorem calc_202 (w : World) : Calls Tryd.prog 139 #[.int .u8 202] w fun e w' => e = .returned (.agg #[.int .u8 5, .int .i8 0, .int .u8 6, .int .u8 0]) ∧ w.alloc (.cells #[.int .u8 5, .int .i8 0, .int .u8 6, .int .u8 0] 195) = w' := by
  go_enter Tryd.func139, Tryd.ntmps139
  go_wp2
  exact bodyPost_ret (v := .agg #[.int .u8 5, .int .i8 0, .int .u8 6, .int .u8 0]) (by simp [results, Tryd.results139, go_sem]) rfl ⟨rfl, rfl⟩

set_option maxHeartbeats 400000 in
theorem calc_203 (w : World) : Calls Tryd.prog 139 #[.int .u8 203] w fun e w' => e = .returned (.agg #[.int .u8 9, .int .i8 0, .int .u8 5, .int .u8 0]) ∧ w.alloc (.cells #[.int .u8 9, .int .i8 0, .int .u8 5, .int .u8 0] 195) = w' := by
  go_enter Tryd.func139, Tryd.ntmps139
  go_wp2
  exact bodyPost_ret (v := .agg #[.int .u8 9, .int .i8 0, .int .u8 5, .int .u8 0]) (by simp [results, Tryd.results139, go_sem]) rfl ⟨rfl, rfl⟩

set_option maxHeartbeats 400000 in
theorem calc_204 (w : World) : Calls Tryd.prog 139 #[.int .u8 204] w fun e w' => e = .returned (.agg #[.int .u8 2, .int .i8 0, .int .u8 9, .int .u8 0]) ∧ w.alloc (.cells #[.int .u8 2, .int .i8 0, .int .u8 9, .int .u8 0] 195) = w' := by
  go_enter Tryd.func139, Tryd.ntmps139
  go_wp2
  exact bodyPost_ret (v := .agg #[.int .u8 2, .int .i8 0, .int .u8 9, .int .u8 0]) (by simp [results, Tryd.results139, go_sem]) rfl ⟨rfl, rfl⟩

set_option maxHeartbeats 400000 in
theorem calc_205 (w : World) : Calls Tryd.prog 139 #[.int .u8 205] w fun e w' => e = .returned (.agg #[.int .u8 3, .int .i8 0, .int .u8 9, .int .u8 0]) ∧ w.alloc (.cells #[.int .u8 3, .int .i8 0, .int .u8 9, .int .u8 0] 195) = w' := by
  go_enter Tryd.func139, Tryd.ntmps139
  go_wp2
  exact bodyPost_ret (v := .agg #[.int .u8 3, .int .i8 0, .int .u8 9, .int .u8 0]) (by simp [results, Tryd.results139, go_sem]) rfl ⟨rfl, rfl⟩

set_option maxHeartbeats 400000 in
theorem calc_206 (w : World) : Calls Tryd.prog 139 #[.int .u8 206] w fun e w' => e = .returned (.agg #[.int .u8 5, .int .i8 0, .int .u8 9, .int .u8 0]) ∧ w.alloc (.cells #[.int .u8 5, .int .i8 0, .int .u8 9, .int .u8 0] 195) = w' := by
  go_enter Tryd.func139, Tryd.ntmps139
  go_wp2
  exact bodyPost_ret (v := .agg #[.int .u8 5, .int .i8 0, .int .u8 9, .int .u8 0]) (by simp [results, Tryd.results139, go_sem]) rfl ⟨rfl, rfl⟩

set_option maxHeartbeats 400000 in
theorem calc_207 (w : World) : Calls Tryd.prog 139 #[.int .u8 207] w fun e w' => e = .returned (.agg #[.int .u8 9, .int .i8 0, .int .u8 9, .int .u8 0]) ∧ w.alloc (.cells #[.int .u8 9, .int .i8 0, .int .u8 9, .int .u8 0] 195) = w' := by
  go_enter Tryd.func139, Tryd.ntmps139
  go_wp2
  exact bodyPost_ret (v := .agg #[.int .u8 9, .int .i8 0, .int .u8 9, .int .u8 0]) (by simp [results, Tryd.results139, go_sem]) rfl ⟨rfl, rfl⟩

set_option maxHeartbeats 400000 in
theorem calc_208 (w : World) : Calls Tryd.prog 139 #[.int .u8 208] w fun e w' => e = .returned (.agg #[.int .u8 2, .int .i8 0, .int .u8 8, .int .u8 0]) ∧ w.alloc (.cells #[.int .u8 2, .int .i8 0, .int .u8 8, .int .u8 0] 195) = w' := by
  go_enter Tryd.func139, Tryd.ntmps139
  go_wp2
  exact bodyPost_ret (v := .agg #[.int .u8 2, .int .i8 0, .int .u8 8, .int .u8 0]) (by simp [results, Tryd.results139, go_sem]) rfl ⟨rfl, rfl⟩

set_option maxHeartbeats 400000 in
theorem calc_209 (w : World) : Calls Tryd.prog 139 #[.int .u8 209] w fun e w' => e = .returned (.agg #[.int .u8 3, .int .i8 0, .int .u8 8, .int .u8 0]) ∧ w.alloc (.cells #[.int .u8 3, .int .i8 0, .int .u8 8, .int .u8 0] 195) = w' := by
  go_enter Tryd.func139, Tryd.ntmps139
  go_wp2
  exact bodyPost_ret (v := .agg #[.int .u8 3, .int .i8 0, .int .u8 8, .int .u8 0]) (by simp [results, Tryd.results139, go_sem]) rfl ⟨rfl, rfl⟩

set_option maxHeartbeats 400000 in
theorem calc_210 (w : World) : Calls Tryd.prog 139 #[.int .u8 210] w fun e w' => e = .returned (.agg #[.int .u8 5, .int .i8 0, .int .u8 8, .int .u8 0]) ∧ w.alloc (.cells #[.int .u8 5, .int .i8 0, .int .u8 8, .int .u8 0] 195) = w' := by
  go_enter Tryd.func139, Tryd.ntmps139
  go_wp2
  exact bodyPost_ret (v := .agg #[.int .u8 5, .int .i8 0, .int .u8 8, .int .u8 0]) (by simp [results, Tryd.results139, go_sem]) rfl ⟨rfl, rfl⟩

set_option maxHeartbeats 400000 in
theorem calc_211 (w : World) : Calls Tryd.prog 139 #[.int .u8 211] w fun e w' => e = .returned (.agg #[.int .u8 9, .int .i8 0, .int .u8 8, .int .u8 0]) ∧ w.alloc (.cells #[.int .u8 9, .int .i8 0, .int .u8 8, .int .u8 0] 195) = w' := by
  go_enter Tryd.func139, Tryd.ntmps139
  go_wp2
  exact bodyPost_ret (v := .agg #[.int .u8 9, .int .i8 0, .int .u8 8, .int .u8 0]) (by simp [results, Tryd.results139, go_sem]) rfl ⟨rfl, rfl⟩

set_option maxHeartbeats 400000 in
theorem calc_212 (w : World) : Calls Tryd.prog 139 #[.int .u8 212] w fun e w' => e = .returned (.agg #[.int .u8 3, .int .i8 0, .int .u8 12, .int .u8 0]) ∧ w.alloc (.cells #[.int .u8 3, .int .i8 0, .int .u8 12, .int .u8 0] 195) = w' := by
  go_enter Tryd.func139, Tryd.ntmps139
  go_wp2
  exact bodyPost_ret (v := .agg #[.int .u8 3, .int .i8 0, .int .u8 12, .int .u8 0]) (by simp [results, Tryd.results139, go_sem]) rfl ⟨rfl, rfl⟩

set_option maxHeartbeats 400000 in
theorem calc_213 (w : World) : Calls Tryd.prog 139 #[.int .u8 213] w fun e w' => e = .returned (.agg #[.int .u8 4, .int .i8 0, .int .u8 12, .int .u8 0]) ∧ w.alloc (.cells #[.int .u8 4, .int .i8 0, .int .u8 12, .int .u8 0] 195) = w' := by
  go_enter Tryd.func139, Tryd.ntmps139
  go_wp2
  exact bodyPost_ret (v := .agg #[.int .u8 4, .int .i8 0, .int .u8 12, .int .u8 0]) (by simp [results, Tryd.results139, go_sem]) rfl ⟨rfl, rfl⟩

set_option maxHeartbeats 400000 in
theorem calc_214 (w : World) : Calls Tryd.prog 139 #[.int .u8 214] w fun e w' => e = .returned (.agg #[.int .u8 6, .int .i8 0, .int .u8 12, .int .u8 0]) ∧ w.alloc (.cells #[.int .u8 6, .int .i8 0, .int .u8 12, .int .u8 0] 195) = w' := by
  go_enter Tryd.func139, Tryd.ntmps139
  go_wp2
  exact bodyPost_ret (v := .agg #[.int .u8 6, .int .i8 0, .int .u8 12, .int .u8 0]) (by simp [results, Tryd.results139, go_sem]) rfl ⟨rfl, rfl⟩

set_option maxHeartbeats 400000 in
theorem calc_215 (w : World) : Calls Tryd.prog 139 #[.int .u8 215] w fun e w' => e = .returned (.agg #[.int .u8 10, .int .i8 0, .int .u8 12, .int .u8 0]) ∧ w.alloc (.cells #[.int .u8 10, .int .i8 0, .int .u8 12, .int .u8 0] 195) = w' := by
  go_enter Tryd.func139, Tryd.ntmps139
  go_wp2
  exact bodyPost_ret (v := .agg #[.int .u8 10, .int .i8 0, .int .u8 12, .int .u8 0]) (by simp [results, Tryd.results139, go_sem]) rfl ⟨rfl, rfl⟩

set_option maxHeartbeats 400000 in
theorem calc_216 (w : World) : Calls Tryd.prog 139 #[.int .u8 216] w fun e w' => e = .returned (.agg #[.int .u8 18, .int .i8 0, .int .u8 12, .int .u8 0]) ∧ w.alloc (.cells #[.int .u8 18, .int .i8 0, .int .u8 12, .int .u8 0] 195) = w' := by
  go_enter Tryd.func139, Tryd.ntmps139
  go_wp2
  exact bodyPost_ret (v := .agg #[.int .u8 18, .int .i8 0, .int .u8 12, .int .u8 0]) (by simp [results, Tryd.results139, go_sem]) rfl ⟨rfl, rfl⟩

set_option maxHeartbeats 400000 in
theorem calc_217 (w : World) : Calls Tryd.prog 139 #[.int .u8 217] w fun e w' => e = .returned (.agg #[.int .u8 2, .int .i8 (-1), .int .u8 1, .int .u8 0]) ∧ w.alloc (.cells #[.int .u8 2, .int .i8 (-1), .int .u8 1, .int .u8 0] 195) = w' := by
  go_enter Tryd.func139, Tryd.ntmps139
  go_wp2
  exact bodyPost_ret (v := .agg #[.int .u8 2, .int .i8 (-1), .int .u8 1, .int .u8 0]) (by simp [results, Tryd.results139, go_sem]) rfl ⟨rfl, rfl⟩

set_option maxHeartbeats 400000 in
theorem calc_218 (w : World) : Calls Tryd.prog 139 #[.int .u8 218] w fun e w' => e = .returned (.agg #[.int .u8 3, .int .i8 (-2), .int .u8 1, .int .u8 0]) ∧ w.alloc (.cells #[.int .u8 3, .int .i8 (-2), .int .u8 1, .int .u8 0] 195) = w' := by
  go_enter Tryd.func139, Tryd.ntmps139
  go_wp2
  exact bodyPost_ret (v := .agg #[.int .u8 3, .int .i8 (-2), .int .u8 1, .int .u8 0]) (by simp [results, Tryd.results139, go_sem]) rfl ⟨rfl, rfl⟩

set_option maxHeartbeats 400000 in
theorem calc_219 (w : World) : Calls Tryd.prog 139 #[.int .u8 219] w fun e w' => e = .returned (.agg #[.int .u8 5, .int .i8 (-3), .int .u8 1, .int .u8 0]) ∧ w.alloc (.cells #[.int .u8 5, .int .i8 (-3), .int .u8 1, .int .u8 0] 195) = w' := by
  go_enter Tryd.func139, Tryd.ntmps139
  go_wp2
  exact bodyPost_ret (v := .agg #[.int .u8 5, .int .i8 (-3), .int .u8 1, .int .u8 0]) (by simp [results, Tryd.results139, go_sem]) rfl ⟨rfl, rfl⟩

set_option maxHeartbeats 400000 in
theorem calc_220 (w : World) : Calls Tryd.prog 139 #[.int .u8 220] w fun e w' => e = .returned (.agg #[.int .u8 3, .int .i8 (-6), .int .u8 4, .int .u8 0]) ∧ w.alloc (.cells #[.int .u8 3, .int .i8 (-6), .int .u8 4, .int .u8 0] 195) = w' := by
  go_enter Tryd.func139, Tryd.ntmps139
  go_wp2
  exact bodyPost_ret (v := .agg #[.int .u8 3, .int .i8 (-6), .int .u8 4, .int .u8 0]) (by simp [results, Tryd.results139, go_sem]) rfl ⟨rfl, rfl⟩

set_option maxHeartbeats 400000 in
theorem calc_221 (w : World) : Calls Tryd.prog 139 #[.int .u8 221] w fun e w' => e = .returned (.agg #[.int .u8 5, .int .i8 (-7), .int .u8 4, .int .u8 0]) ∧ w.alloc (.cells #[.int .u8 5, .int .i8 (-7), .int .u8 4, .int .u8 0] 195) = w' := by
  go_enter Tryd.func139, Tryd.ntmps139
  go_wp2
  exact bodyPost_ret (v := .agg #[.int .u8 5, .int .i8 (-7), .int .u8 4, .int .u8 0]) (by simp [results, Tryd.results139, go_sem]) rfl ⟨rfl, rfl⟩

set_option maxHeartbeats 400000 in
theorem calc_222 (w : World) : Calls Tryd.prog 139 #[.int .u8 222] w fun e w' => e = .returned (.agg #[.int .u8 3, .int .i8 (-4), .int .u8 3, .int .u8 0]) ∧ w.alloc (.cells #[.int .u8 3, .int .i8 (-4), .int .u8 3, .int .u8 0] 195) = w' := by
  go_enter Tryd.func139, Tryd.ntmps139
  go_wp2
  exact bodyPost_ret (v := .agg #[.int .u8 3, .int .i8 (-4), .int .u8 3, .int .u8 0]) (by simp [results, Tryd.results139, go_sem]) rfl ⟨rfl, rfl⟩

set_option maxHeartbeats 400000 in
theorem calc_223 (w : World) : Calls Tryd.prog 139 #[.int .u8 223] w fun e w' => e = .returned (.agg #[.int .u8 5, .int .i8 (-5), .int .u8 3, .int .u8 0]) ∧ w.alloc (.cells #[.int .u8 5, .int .i8 (-5), .int .u8 3, .int .u8 0] 195) = w' := by
  go_enter Tryd.func139, Tryd.ntmps139
  go_wp2
  exact bodyPost_ret (v := .agg #[.int .u8 5, .int .i8 (-5), .int .u8 3, .int .u8 0]) (by simp [results, Tryd.results139, go_sem]) rfl ⟨rfl, rfl⟩

set_option maxHeartbeats 400000 in
theorem calc_fixint (c : Int) (w : World) (_h0 : 0 ≤ c) (_h1 : c < 128) : Calls Tryd.prog 139 #[.int .u8 c] w fun e w' => e = .returned (.agg #[.int .u8 1, .int .i8 0, .int .u8 8, .int .u8 0]) ∧ w.alloc (.cells #[.int .u8 1, .int .i8 0, .int .u8 8, .int .u8 0] 195) = w' := by
  go_enter Tryd.func139, Tryd.ntmps139
  go_wp2
  exact bodyPost_ret (v := .agg #[.int .u8 1, .int .i8 0, .int .u8 8, .int .u8 0]) (by simp [results, Tryd.results139, go_sem]) rfl ⟨rfl, rfl⟩

set_option maxHeartbeats 400000 in
theorem calc_fixmap (c : Int) (w : World) (_h0 : 128 ≤ c) (_h1 : c < 144) : Calls Tryd.prog 139 #[.int .u8 c] w fun e w' => e = .returned (.agg #[.int .u8 1, .int .i8 (2 * (c % 16)), .int .u8 3, .int .u8 0]) ∧ w.alloc (.cells #[.int .u8 1, .int .i8 (2 * (c % 16)), .int .u8 3, .int .u8 0] 195) = w' := by
  go_enter Tryd.func139, Tryd.ntmps139
  go_wp2
  exact bodyPost_ret (v := .agg #[.int .u8 1, .int .i8 (2 * (c % 16)), .int .u8 3, .int .u8 0]) (by simp [results, Tryd.results139, go_sem]) rfl ⟨rfl, rfl⟩

set_option maxHeartbeats 400000 in
theorem calc_fixarray (c : Int) (w : World) (_h0 : 144 ≤ c) (_h1 : c < 160) : Calls Tryd.prog 139 #[.int .u8 c] w fun e w' => e = .returned (.agg #[.int .u8 1, .int .i8 (c % 16), .int .u8 4, .int .u8 0]) ∧ w.alloc (.cells #[.int .u8 1, .int .i8 (c % 16), .int .u8 4, .int .u8 0] 195) = w' := by
  go_enter Tryd.func139, Tryd.ntmps139
  go_wp2
  exact bodyPost_ret (v := .agg #[.int .u8 1, .int .i8 (c % 16), .int .u8 4, .int .u8 0]) (by simp [results, Tryd.results139, go_sem]) rfl ⟨rfl, rfl⟩

set_option maxHeartbeats 400000 in
theorem calc_fixstr (c : Int) (w : World) (_h0 : 160 ≤ c) (_h1 : c < 192) : Calls Tryd.prog 139 #[.int .u8 c] w fun e w' => e = .returned (.agg #[.int .u8 (1 + c % 32), .int .i8 0, .int .u8 1, .int .u8 0]) ∧ w.alloc (.cells #[.int .u8 (1 + c % 32), .int .i8 0, .int .u8 1, .int .u8 0] 195) = w' := by
  go_enter Tryd.func139, Tryd.ntmps139
  go_wp2
  exact bodyPost_ret (v := .agg #[.int .u8 (1 + c % 32), .int .i8 0, .int .u8 1, .int .u8 0]) (by simp [results, Tryd.results139, go_sem]) rfl ⟨rfl, rfl⟩

set_option maxHeartbeats 400000 in
theorem calc_nfixint (c : Int) (w : World) (_h0 : 224 ≤ c) (_h1 : c < 256) : Calls Tryd.prog 139 #[.int .u8 c] w fun e w' => e = .returned (.agg #[.int .u8 1, .int .i8 0, .int .u8 8, .int .u8 0]) ∧ w.alloc (.cells #[.int .u8 1, .int .i8 0, .int .u8 8, .int .u8 0] 195) = w' := by
  go_enter Tryd.func139, Tryd.ntmps139
  go_wp2
  exact bodyPost_ret (v := .agg #[.int .u8 1, .int .i8 0, .int .u8 8, .int .u8 0]) (by simp [results, Tryd.results139, go_sem]) rfl ⟨rfl, rfl⟩

theorem calc_c (c : Int) (w : World) (h0 : 0 ≤ c) (h1 : c < 256) : Calls Tryd.prog 139 #[.int .u8 c] w fun e w' => e = .returned (bval c) ∧ w.alloc (bobj c) = w' := by
  by_cases a : c < 128
  · have e1 : bsz c = 1 := by rw [bsz, if_pos (by omega)]
    have e2 : bex c = 0 := by rw [bex, if_pos a]
    have e3 : bty c = 8 := by rw [bty, if_pos a]
    rw [bval, bobj, e1, e2, e3]; exact calc_fixint c w h0 a
  by_cases b : c < 144
  · have e1 : bsz c = 1 := by rw [bsz, if_pos (by omega)]
    have e2 : bex c = 2 * (c % 16) := by rw [bex, if_neg a, if_pos b]
    have e3 : bty c = 3 := by rw [bty, if_neg a, if_pos b]
    rw [bval, bobj, e1, e2, e3]; exact calc_fixmap c w (by omega) b
  by_cases d : c < 160
  · have e1 : bsz c = 1 := by rw [bsz, if_pos d]
    have e2 : bex c = c % 16 := by rw [bex, if_neg a, if_neg b, if_pos d]
    have e3 : bty c = 4 := by rw [bty, if_neg a, if_neg b, if_pos d]
    rw [bval, bobj, e1, e2, e3]; exact calc_fixarray c w (by omega) d
  by_cases f : c < 192
  · have e1 : bsz c = 1 + c % 32 := by rw [bsz, if_neg d, if_pos f]
    have e2 : bex c = 0 := by
      unfold bex
      rw [if_neg a, if_neg b, if_neg d]
      repeat (rw [if_neg (by omega)])
    have e3 : bty c = 1 := by rw [bty, if_neg a, if_neg b, if_neg d, if_pos f]
    rw [bval, bobj, e1, e2, e3]; exact calc_fixstr c w (by omega) f
  by_cases g : 224 ≤ c
  · have e1 : bsz c = 1 := by
      unfold bsz
      repeat (rw [if_neg (by omega)])
    have e2 : bex c = 0 := by
      unfold bex
      repeat (rw [if_neg (by omega)])
    have e3 : bty c = 8 := by
      unfold bty
      repeat (rw [if_neg (by omega)])
    rw [bval, bobj, e1, e2, e3]; exact calc_nfixint c w g h1
  have hc : c = 192 ∨ c = 193 ∨ c = 194 ∨ c = 195 ∨ c = 196 ∨ c = 197 ∨ c = 198 ∨ c = 199 ∨ c = 200 ∨ c = 201 ∨ c = 202 ∨ c = 203 ∨ c = 204 ∨ c = 205 ∨ c = 206 ∨ c = 207 ∨ c = 208 ∨ c = 209 ∨ c = 210 ∨ c = 211 ∨ c = 212 ∨ c = 213 ∨ c = 214 ∨ c = 215 ∨ c = 216 ∨ c = 217 ∨ c = 218 ∨ c = 219 ∨ c = 220 ∨ c = 221 ∨ c = 222 ∨ c = 223 := by omega
  rcases hc with rfl | rfl | rfl | rfl | rfl | rfl | rfl | rfl | rfl | rfl | rfl | rfl | rfl | rfl | rfl | rfl | rfl | rfl | rfl | rfl | rfl | rfl | rfl | rfl | rfl | rfl | rfl | rfl | rfl | rfl | rfl | rfl
  · exact calc_192 w
  · exact calc_193 w
  · exact calc_194 w
  · exact calc_195 w
  · exact calc_196 w
  · exact calc_197 w
  · exact calc_198 w
  · exact calc_199 w
  · exact calc_200 w
  · exact calc_201 w
  · exact calc_202 w
  · exact calc_203 w
  · exact calc_204 w
  · exact calc_205 w
  · exact calc_206 w
  · exact calc_207 w
  · exact calc_208 w
  · exact calc_209 w
  · exact calc_210 w
  · exact calc_211 w
  · exact calc_212 w
  · exact calc_213 w
  · exact calc_214 w
  · exact calc_215 w
  · exact calc_216 w
  · exact calc_217 w
  · exact calc_218 w
  · exact calc_219 w
  · exact calc_220 w
  · exact calc_221 w
  · exact calc_222 w
  · exact calc_223 w

end Go.Proofs.YtpmdlbbgljcloaaDoor
