/- The law FnReadUint, walked: a number without a sign is read just if the bytes begin with one that has room. Conditions: the slice reads as bytes; the two sentinels' variables hold what the program lays in them. -/
import Derived.Test.YtmhilpnagpkkiaaDoorFnReadUint8
import Derived.Test.YtmhilpnagpkkiaaDoorFnReadUint16
import Derived.Test.YtmhilpnagpkkiaaDoorFnReadUint32
import Derived.Test.YtmhilpnagpkkiaaDoorFnReadUint64
namespace Go.Proofs.YtmhilpnagpkkiaaDoor
open Go Go.RowKit Go.Lib
set_option linter.unusedVariables false

set_option maxHeartbeats 4000000 in
set_option maxRecDepth 100000 in
theorem fnReadUint_c (A : Option Addr) (n c : Nat) (l : List Int) (b : Int) (w : World) (hr : Rd w A l) (hn : l.length = n) (hnc : n ≤ c) (hm : c ≤ maxLen) (hb : -9223372036854775808 ≤ b ∧ b ≤ 9223372036854775807) (hG : Glob w) :
    Calls Tryd.prog 11 #[.slice A n c, .int .i64 b] w fun e w' => e = .returned (.bool true) ∧ Below w.heap.size w w' := by
  by_cases h1 : 2147483647 < n
  · clear hn
    go_enter Tryd.func11, Tryd.ntmps11
    go_wp2_with fail
    go_ret
    exact ⟨rfl, Below.refl _ _⟩
  by_cases h2 : 131072 < n
  · clear hn
    go_enter Tryd.func11, Tryd.ntmps11
    go_wp2_with fail
    go_ret
    exact ⟨rfl, Below.refl _ _⟩
  have h3 : n ≤ 131072 := by omega
  by_cases z8 : b = 8
  · subst z8; exact fnReadUint8_c A n c l w hr hn hnc hm h3 hG
  by_cases z16 : b = 16
  · subst z16; exact fnReadUint16_c A n c l w hr hn hnc hm h3 hG
  by_cases z32 : b = 32
  · subst z32; exact fnReadUint32_c A n c l w hr hn hnc hm h3 hG
  by_cases z64 : b = 64
  · subst z64; exact fnReadUint64_c A n c l w hr hn hnc hm h3 hG
  have e8 : (b == 8) = false := by simpa using z8
  have e16 : (b == 16) = false := by simpa using z16
  have e32 : (b == 32) = false := by simpa using z32
  have e64 : (b == 64) = false := by simpa using z64
  have f8 : (b != 8) = true := by simpa using z8
  have f16 : (b != 16) = true := by simpa using z16
  have f32 : (b != 32) = true := by simpa using z32
  have f64 : (b != 64) = true := by simpa using z64
  clear hn
  go_enter Tryd.func11, Tryd.ntmps11
  go_wp2_with fail
  go_ret
  exact ⟨rfl, Below.refl _ _⟩
end Go.Proofs.YtmhilpnagpkkiaaDoor
