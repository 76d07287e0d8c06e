/- The plain side: what MessagePack's forms are, as functions on lists of numbers. No program is in sight. Conditions: none. -/
import Derived.Test.YtpmdlbbgljcloaaDoorBase
namespace Go.Proofs.YtpmdlbbgljcloaaDoor
open Go

/-! ### numbers as bytes, the highest first -/
def by1 (n : Int) : List Int := [n % 256]
def by2 (n : Int) : List Int := [n / 256 % 256, n % 256]
def by4 (n : Int) : List Int := [n / 16777216 % 256, n / 65536 % 256, n / 256 % 256, n % 256]
def by8 (n : Int) : List Int := [n / 72057594037927936 % 256, n / 281474976710656 % 256, n / 1099511627776 % 256, n / 4294967296 % 256, n / 16777216 % 256, n / 65536 % 256, n / 256 % 256, n % 256]

theorem byts1 (n : Int) : Byts (by1 n) := fun x hx => by simp [by1] at hx; omega
theorem byts2 (n : Int) : Byts (by2 n) := fun x hx => by simp [by2] at hx; rcases hx with h | h <;> omega
theorem byts4 (n : Int) : Byts (by4 n) := fun x hx => by simp [by4] at hx; rcases hx with h | h | h | h <;> omega
theorem byts8 (n : Int) : Byts (by8 n) := fun x hx => by simp [by8] at hx; rcases hx with h | h | h | h | h | h | h | h <;> omega

/-! ### what is written -/
def intText (n : Int) : List Int :=
  if -32 ≤ n ∧ n ≤ 127 then by1 n
  else if -128 ≤ n ∧ n ≤ 127 then 208 :: by1 n
  else if -32768 ≤ n ∧ n ≤ 32767 then 209 :: by2 n
  else if -2147483648 ≤ n ∧ n < 2147483648 then 210 :: by4 n
  else 211 :: by8 n
def uintText (n : Int) : List Int :=
  if n ≤ 127 then by1 n
  else if n ≤ 255 then 204 :: by1 n
  else if n ≤ 65535 then 205 :: by2 n
  else if n < 4294967296 then 206 :: by4 n
  else 207 :: by8 n
def textHead (n : Int) : List Int :=
  if n ≤ 31 then [160 + n]
  else if n ≤ 255 then 217 :: by1 n
  else if n ≤ 65535 then 218 :: by2 n
  else 219 :: by4 n
def binHead (n : Int) : List Int :=
  if n ≤ 255 then 196 :: by1 n
  else if n ≤ 65535 then 197 :: by2 n
  else 198 :: by4 n
def arrayHead (n : Int) : List Int :=
  if n ≤ 15 then [144 + n]
  else if n ≤ 65535 then 220 :: by2 n
  else 221 :: by4 n
def mapHead (n : Int) : List Int :=
  if n ≤ 15 then [128 + n]
  else if n ≤ 65535 then 222 :: by2 n
  else 223 :: by4 n

theorem byts_intText (n : Int) : Byts (intText n) := by
  unfold intText
  split
  · exact byts1 n
  split
  · exact (byts1 n).cons (by omega)
  split
  · exact (byts2 n).cons (by omega)
  split
  · exact (byts4 n).cons (by omega)
  · exact (byts8 n).cons (by omega)
theorem byts_uintText (n : Int) : Byts (uintText n) := by
  unfold uintText
  split
  · exact byts1 n
  split
  · exact (byts1 n).cons (by omega)
  split
  · exact (byts2 n).cons (by omega)
  split
  · exact (byts4 n).cons (by omega)
  · exact (byts8 n).cons (by omega)

/-! ### what is read -/
def be2 (l : List Int) (k : Nat) : Int := at_ l k * 256 + at_ l (k + 1)
def be4 (l : List Int) (k : Nat) : Int := be2 l k * 65536 + be2 l (k + 2)
def be8 (l : List Int) (k : Nat) : Int := be4 l k * 4294967296 + be4 l (k + 4)

theorem be2_range {l : List Int} (h : Byts l) (k : Nat) : 0 ≤ be2 l k ∧ be2 l k < 65536 := by
  have h0 := h.at_ k; have h1 := h.at_ (k + 1); unfold be2; omega
theorem be4_range {l : List Int} (h : Byts l) (k : Nat) : 0 ≤ be4 l k ∧ be4 l k < 4294967296 := by
  have h0 := be2_range h k; have h1 := be2_range h (k + 2); unfold be4; omega
theorem be8_range {l : List Int} (h : Byts l) (k : Nat) : 0 ≤ be8 l k ∧ be8 l k < 18446744073709551616 := by
  have h0 := be4_range h k; have h1 := be4_range h (k + 4); unfold be8; omega

/-- A byte with its sign. -/
def s8 (x : Int) : Int := IntKind.i8.wrap x

end Go.Proofs.YtpmdlbbgljcloaaDoor
