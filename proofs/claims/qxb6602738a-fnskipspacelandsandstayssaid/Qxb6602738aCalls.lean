import Derived.Test.Qxb6602738aAuto
import Derived.Test.Qxb6602738aShelf
import Derived.Lib.IndexBytes
import Derived.Lib.IndexMore
namespace Go.Proofs.Qxb6602738a
open Go.RowKit

/-! ### the library's three calls, at a suffix of the text -/
def two (s : ByteArray) (k : Nat) (x y : UInt8) : Bool := Lib.hasPrefix (s.data.toList.drop k) [x, y]
def nl (s : ByteArray) (k : Nat) : Int := Lib.indexByte (s.data.toList.drop k) 10
def cl (s : ByteArray) (k : Nat) : Int := Lib.index (s.data.toList.drop k) [42, 47]

theorem two_any (s : ByteArray) (k : Nat) (x y : UInt8) (b : Bool) (w : World) (h : two s k x y = b) :
    Calls Try.prog 38 #[.string (s.extract k s.size), .string ⟨#[x, y]⟩] w fun e w' => e = .returned (.bool b) ∧ w' = w := by
  have := Try.strings_HasPrefix (s.extract k s.size) ⟨#[x, y]⟩ w
  rw [Lib.extract_to_end] at this
  unfold two at h
  rw [show (ByteArray.mk #[x, y]).data.toList = [x, y] from rfl, h] at this
  exact this
theorem nl_any (s : ByteArray) (k : Nat) (n : Int) (w : World) (h : nl s k = n) :
    Calls Try.prog 39 #[.string (s.extract k s.size), .int .u8 10] w fun e w' => e = .returned (.int .i64 n) ∧ w' = w := by
  have := Try.strings_IndexByte (s.extract k s.size) 10 w
  rw [Lib.extract_to_end] at this
  unfold nl at h
  rw [show ((10 : Int).toNat.toUInt8) = 10 from rfl, h] at this
  exact this
theorem cl_any (s : ByteArray) (k : Nat) (n : Int) (m : Int) (w : World) (hs : s.size ≤ 1048576) (hm : w.cell? ⟨0, 0, none⟩ = some (.int .i64 m)) (h : cl s k = n) :
    Calls Try.prog 40 #[.string (s.extract k s.size), .string ⟨#[42, 47]⟩] w fun e w' => e = .returned (.int .i64 n) ∧ w' = w := by
  have := Try.strings_Index (s.extract k s.size) ⟨#[42, 47]⟩ m w (by rw [ByteArray.size_extract]; omega) hm
  rw [Lib.extract_to_end] at this
  unfold cl at h
  rw [show (ByteArray.mk #[42, 47]).data.toList = [42, 47] from rfl, h] at this
  exact this

/-! ### what each answer says of the automaton -/
theorem two_eq (s : ByteArray) (k : Nat) (x y : UInt8) : two s k x y = ((s.data.toList.drop k).head? == some x && (s.data.toList.drop (k + 1)).head? == some y) := by
  unfold two Lib.hasPrefix
  by_cases h : k < s.size
  · rw [Sk.drop_cons s k h, Sk.pre2]; rfl
  · rw [Sk.drop_nil s k (by omega)]; rfl
theorem two_open (s : ByteArray) (k : Nat) : two s k 47 42 = Sk.open2 s k := two_eq s k 47 42
theorem dash_of (s : ByteArray) (k : Nat) : Sk.dash s k = (two s k 45 45 && decide (((s.data.toList.drop (k + 2)).head?.getD 0).toNat ≤ 32)) := by rw [two_eq]; rfl
theorem two_room (s : ByteArray) (k : Nat) (x y : UInt8) (h : two s k x y = true) : k + 1 < s.size := by
  rw [two_eq] at h
  by_cases h1 : k + 1 < s.size
  · exact h1
  · rw [Sk.head_end s (k + 1) (by omega)] at h; simp at h
theorem two_first (s : ByteArray) (k : Nat) (x y : UInt8) (hk : k < s.size) (h : two s k x y = true) : (s[k].toNat : Int) = (x.toNat : Int) := by
  rw [two_eq, Sk.head_drop s k hk] at h
  simp at h
  rw [h.1]
theorem nl_none (s : ByteArray) (k : Nat) (hk : k ≤ s.size) (h : nl s k = -1) : Sk.A 1 s k = s.size := by
  unfold nl at h
  unfold Sk.A
  rw [Sk.au_line, if_pos h]
  simp only [Sk.fin, List.length_drop, Sk.size_len]
  omega
theorem nl_some (s : ByteArray) (k e : Nat) (h : nl s k = e) : Sk.A 1 s k = Sk.A 0 s (k + (e + 1)) := by
  unfold nl at h
  unfold Sk.A
  rw [Sk.au_line, h, if_neg (by omega), Int.toNat_natCast, Sk.fin_up, List.drop_drop]
theorem nl_cases (s : ByteArray) (k : Nat) (hk : k ≤ s.size) : nl s k = -1 ∨ ∃ e : Nat, nl s k = e ∧ k + e < s.size := by
  have h1 := Lib.indexByte_ge (s.data.toList.drop k) 10
  unfold nl
  by_cases h : Lib.indexByte (s.data.toList.drop k) 10 = -1
  · exact .inl h
  · obtain ⟨e, he⟩ : ∃ e : Nat, Lib.indexByte (s.data.toList.drop k) 10 = e := ⟨(Lib.indexByte (s.data.toList.drop k) 10).toNat, by omega⟩
    have h2 := (List.getElem?_eq_some_iff.1 (Lib.indexByte_some he).1).1
    rw [List.length_drop, Sk.size_len] at h2
    exact .inr ⟨e, he, by omega⟩
theorem cl_none (s : ByteArray) (k : Nat) (h : cl s k = -1) : Sk.A 2 s k = -1 := by
  unfold cl at h
  unfold Sk.A
  rw [Sk.au_block, if_pos h]; rfl
theorem cl_some (s : ByteArray) (k e : Nat) (h : cl s k = e) : Sk.A 2 s k = Sk.A 0 s (k + (e + 2)) := by
  unfold cl at h
  unfold Sk.A
  rw [Sk.au_block, h, if_neg (by omega), Int.toNat_natCast, Sk.fin_up, List.drop_drop]
theorem cl_cases (s : ByteArray) (k : Nat) (hk : k ≤ s.size) : cl s k = -1 ∨ ∃ e : Nat, cl s k = e ∧ k + e + 2 ≤ s.size := by
  have h1 := Lib.index_ge (s.data.toList.drop k) [42, 47]
  by_cases h : Lib.index (s.data.toList.drop k) [42, 47] = -1
  · exact .inl h
  · obtain ⟨e, he⟩ : ∃ e : Nat, Lib.index (s.data.toList.drop k) [42, 47] = e := ⟨(Lib.index (s.data.toList.drop k) [42, 47]).toNat, by omega⟩
    have h2 := Lib.index_room (s.data.toList.drop k) [42, 47] (by omega)
    rw [List.length_drop, Sk.size_len, he] at h2
    simp at h2
    exact .inr ⟨e, he, by omega⟩

theorem hash_A1 (s : ByteArray) (k : Nat) (h : k < s.size) (hc : (s[k].toNat : Int) = 35) : Sk.A 0 s k = Sk.A 1 s k := by
  rw [Sk.A0_hash s k h hc, Sk.A1_no s k h (by omega)]
theorem dash_A1 (s : ByteArray) (k : Nat) (hd : Sk.dash s k = true) : Sk.A 0 s k = Sk.A 1 s k := by
  have h := Sk.A0_dash s k hd
  rw [dash_of, Bool.and_eq_true] at hd
  have h1 := two_first s k 45 45 (by omega) hd.1
  have e := hd.1
  rw [two_eq, Sk.head_drop s (k + 1) (by omega)] at e
  simp at e
  have h2 : ((s[k + 1]'(by omega)).toNat : Int) = 45 := by rw [e.2]; rfl
  rw [h.1, Sk.A1_no s k (by omega) (by rw [h1]; decide), Sk.A1_no s (k + 1) (by omega) (by rw [h2]; decide)]
theorem dash_end (s : ByteArray) (k : Nat) (h : two s k 45 45 = true) (he : k + 2 = s.size) : Sk.dash s k = true := by
  rw [dash_of, h, Sk.head_end s (k + 2) (by omega)]; rfl
theorem dash_low (s : ByteArray) (k : Nat) (h : two s k 45 45 = true) (hk : k + 2 < s.size) (hc : (s[k + 2].toNat : Int) ≤ 32) : Sk.dash s k = true := by
  rw [dash_of, h, Sk.head_drop s (k + 2) hk]; simp; omega

theorem blank_not (c : UInt8) (h : Sk.blank c = false) : ((c.toNat : Int) == 32) = false ∧ ((c.toNat : Int) == 9) = false ∧ ((c.toNat : Int) == 10) = false ∧ ((c.toNat : Int) == 13) = false ∧ ((c.toNat : Int) == 12) = false := by
  have hb : ¬ ((c.toNat : Int) = 32 ∨ (c.toNat : Int) = 9 ∨ (c.toNat : Int) = 10 ∨ (c.toNat : Int) = 13 ∨ (c.toNat : Int) = 12) := fun hh => by
    rw [(Sk.blank_iff c).2 hh] at h; cases h
  simp only [beq_eq_false_iff_ne]
  omega
theorem open_room (s : ByteArray) (k : Nat) (h : two s k 47 42 = true) : Sk.A 0 s k = Sk.A 2 s (k + 2) ∧ k + 2 ≤ s.size := Sk.A0_open s k (by rw [← two_open]; exact h)
theorem two_not (s : ByteArray) (k : Nat) (h : k < s.size) (h1 : two s k 45 45 = true) : two s k 47 42 = false := by
  cases h2 : two s k 47 42 with
  | false => rfl
  | true => have a := two_first s k 45 45 h h1; have b := two_first s k 47 42 h h2; rw [a] at b; exact absurd b (by decide)
end Go.Proofs.Qxb6602738a
