/-
  The plain law for seat Qxb6603284a: which bytes a token passes over, by the package's road and by the law's own.
-/
import Derived.Lib.Bytealg
namespace Go.Proofs.Qxb6603284a
open Go.Lib (indexByte)

def lo (c : Int) : Bool := decide (97 ≤ c) && decide (c ≤ 122)
def up (c : Int) : Bool := decide (65 ≤ c) && decide (c ≤ 90)
def al (c : Int) : Bool := lo c || up c
def dg (c : Int) : Bool := decide (48 ≤ c) && decide (c ≤ 57)
def sy (c : Int) : Bool := decide (0 ≤ indexByte [33, 35, 36, 37, 38, 39, 42, 43, 45, 46, 94, 95, 96, 124, 126] c.toNat.toUInt8)
def tc (c : Int) : Bool := al c || dg c || sy c
/-- what token passes over -/
def tok (c : Int) : Bool := tc c || (c == 58) || (c == 47)
/-- what the law's own table lets by -/
def bad (c : Int) : Bool := (c == 34) || (c == 40) || (c == 41) || (c == 44) || (c == 59) || (c == 60) || (c == 61) || (c == 62) || (c == 63) || (c == 64) || (c == 91) || (c == 92) || (c == 93) || (c == 123) || (c == 125)
def zt (c : Int) : Bool := !(decide (c < 33)) && !(decide (126 < c)) && !(bad c)

theorem tok_eq_nat : ∀ n : Fin 256, tok ((n.val : Nat) : Int) = zt ((n.val : Nat) : Int) := by decide +kernel
theorem tok_eq (c : Int) (h0 : 0 ≤ c) (h1 : c ≤ 255) : tok c = zt c := by
  have := tok_eq_nat ⟨c.toNat, by omega⟩
  simp only at this
  rwa [Int.toNat_of_nonneg h0] at this

/-- the byte at x, 0 past the end -/
def bt (s : ByteArray) (x : Nat) : Int := if h : x < s.size then ((s[x]'h).toNat : Int) else 0
theorem bt_in (s : ByteArray) (x : Nat) (h : x < s.size) : bt s x = ((s[x]'h).toNat : Int) := by unfold bt; rw [dif_pos h]
theorem bt_out (s : ByteArray) (x : Nat) (h : s.size ≤ x) : bt s x = 0 := by unfold bt; rw [dif_neg (by omega)]
theorem bt_bd (s : ByteArray) (x : Nat) : 0 ≤ bt s x ∧ bt s x ≤ 255 := by
  unfold bt
  split
  · rename_i h
    have := (s[x]'h).toNat_lt
    omega
  · omega
theorem tok_zero : tok 0 = false := by decide +kernel
theorem tok_room (s : ByteArray) (x : Nat) (h : tok (bt s x) = true) : x < s.size := by
  by_cases hx : x < s.size
  · exact hx
  · rw [bt_out s x (by omega), tok_zero] at h; cases h
end Go.Proofs.Qxb6603284a
