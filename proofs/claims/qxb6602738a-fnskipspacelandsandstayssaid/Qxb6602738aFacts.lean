/-
  Plain facts on the automaton: where it lands, when it finds no end, and that text laid ahead only shifts it.
-/
import Derived.Test.Qxb6602738aPlain
namespace Go.Proofs.Qxb6602738a.Sk

theorem up_none {n : Nat} {o : Option Nat} (h : up n o = none) : o = none := by
  cases o with
  | none => rfl
  | some m => simp [up] at h
theorem up_some {n m : Nat} {o : Option Nat} (h : up n o = some m) : ∃ m', o = some m' ∧ m = m' + n := by
  cases o with
  | none => simp [up] at h
  | some x => simp [up] at h; exact ⟨x, rfl, h.symm⟩

theorem au_step (st : Nat) (c : UInt8) (r : List UInt8) : (∃ st', au st (c :: r) = up 1 (au st' r)) ∨ (au st (c :: r) = some 0 ∧ au 0 (c :: r) = some 0) := by
  rw [au, au0_cons]
  by_cases h1 : st = 1
  · exact .inl ⟨_, if_pos h1⟩
  · rw [if_neg h1]
    by_cases h2 : st = 2
    · exact .inl ⟨_, if_pos h2⟩
    · rw [if_neg h2]
      by_cases h3 : st = 3
      · exact .inl ⟨_, if_pos h3⟩
      · rw [if_neg h3]
        by_cases h4 : st = 4
        · exact .inl ⟨_, if_pos h4⟩
        · rw [if_neg h4]
          by_cases h5 : st = 5
          · exact .inl ⟨_, if_pos h5⟩
          · rw [if_neg h5]
            split
            · exact .inl ⟨_, rfl⟩
            · split
              · exact .inl ⟨_, rfl⟩
              · split
                · exact .inl ⟨_, rfl⟩
                · split
                  · exact .inl ⟨_, rfl⟩
                  · exact .inr ⟨rfl, rfl⟩

theorem au_le : ∀ (l : List UInt8) (st n : Nat), au st l = some n → n ≤ l.length ∧ au 0 (l.drop n) = some 0
  | [], st, n, h => by
    rw [au] at h
    split at h
    · cases h
    · have h := Option.some.inj h
      subst h
      exact ⟨Nat.le_refl _, rfl⟩
  | c :: r, st, n, h => by
    rcases au_step st c r with ⟨st', e⟩ | ⟨e, e0⟩
    · rw [e] at h
      obtain ⟨m, hm, rfl⟩ := up_some h
      have ih := au_le r st' m hm
      rw [List.drop_succ_cons]
      exact ⟨by simp; exact ih.1, ih.2⟩
    · rw [e] at h
      have h := Option.some.inj h
      subst h
      exact ⟨Nat.zero_le _, e0⟩

/-- does a block comment open anywhere? -/
def opn : List UInt8 → Bool
  | [] => false
  | c :: r => (c == 47 && r.head? == some 42) || opn r

theorem au_opn : ∀ (l : List UInt8) (st : Nat), au st l = none → (st = 2 ∨ st = 4) ∨ opn l = true
  | [], st, h => by
    rw [au] at h
    split at h
    · rename_i e; exact .inl (.inl e)
    · cases h
  | c :: r, st, h => by
    have on : ∀ st', ¬ (st' = 2 ∨ st' = 4) → au st' r = none → opn (c :: r) = true := fun st' hn he => by
      rw [opn]
      rcases au_opn r st' he with h' | h'
      · exact absurd h' hn
      · rw [h', Bool.or_true]
    by_cases h2 : st = 2
    · exact .inl (.inl h2)
    · by_cases h4 : st = 4
      · exact .inl (.inr h4)
      · refine .inr ?_
        rw [au, if_neg h2, if_neg h4] at h
        by_cases h1 : st = 1
        · rw [if_pos h1] at h
          refine on _ ?_ (up_none h)
          split <;> omega
        · rw [if_neg h1] at h
          by_cases h3 : st = 3
          · rw [if_pos h3] at h
            exact on 1 (by omega) (up_none h)
          · rw [if_neg h3] at h
            by_cases h5 : st = 5
            · rw [if_pos h5] at h
              exact on 0 (by omega) (up_none h)
            · rw [if_neg h5] at h
              split at h
              · exact on 0 (by omega) (up_none h)
              · split at h
                · exact on 1 (by omega) (up_none h)
                · split at h
                  · exact on 3 (by omega) (up_none h)
                  · split at h
                    · rename_i e
                      rw [opn, e, Bool.true_or]
                    · cases h

theorem A_opn (s : ByteArray) (k : Nat) (h : A 0 s k = -1) : opn (s.data.toList.drop k) = true := by
  unfold A at h
  cases e : au 0 (s.data.toList.drop k) with
  | none =>
    rcases au_opn _ 0 e with h' | h'
    · omega
    · exact h'
  | some n => rw [e] at h; simp only [fin] at h; omega
theorem A_lands (s : ByteArray) (k : Nat) (hk : k ≤ s.size) (h : ¬ A 0 s k = -1) : ∃ r : Nat, A 0 s k = r ∧ k ≤ r ∧ r ≤ s.size ∧ A 0 s r = r := by
  unfold A at h ⊢
  cases e : au 0 (s.data.toList.drop k) with
  | none => rw [e] at h; exact absurd rfl h
  | some n =>
    have hl := au_le _ 0 n e
    rw [List.length_drop, size_len, List.drop_drop] at hl
    refine ⟨k + n, rfl, by omega, by omega, ?_⟩
    rw [hl.2]; rfl
theorem A_shift (p s : ByteArray) (i : Nat) : (A 0 s i = -1 ∧ A 0 (p ++ s) (p.size + i) = -1) ∨ ∃ r : Nat, A 0 s i = r ∧ A 0 (p ++ s) (p.size + i) = ((r + p.size : Nat) : Int) := by
  have e : (p ++ s).data.toList.drop (p.size + i) = s.data.toList.drop i := by
    rw [ByteArray.data_append, Array.toList_append, List.drop_append, List.drop_of_length_le (by rw [size_len]; omega), size_len, List.nil_append]
    congr 1
    omega
  unfold A
  rw [e]
  cases au 0 (s.data.toList.drop i) with
  | none => exact .inl ⟨rfl, rfl⟩
  | some n => exact .inr ⟨i + n, rfl, by simp only [fin]; congr 1; omega⟩

theorem opn_end (s : ByteArray) (k : Nat) (h : s.size ≤ k + 1) : opn (s.data.toList.drop k) = false := by
  by_cases h0 : k < s.size
  · rw [drop_cons s k h0, drop_nil s (k + 1) h]; simp [opn]
  · rw [drop_nil s k (by omega)]; rfl
theorem opn_yes (s : ByteArray) (k : Nat) (h : k + 1 < s.size) (hc : ((s[k]'(by omega)).toNat : Int) = 47) (hd : (s[k + 1].toNat : Int) = 42) : opn (s.data.toList.drop k) = true := by
  rw [drop_cons s k (by omega), opn, head_drop s _ h, u8_eq 47 (by omega) hc, u8_eq 42 (by omega) hd]; rfl
theorem opn_no1 (s : ByteArray) (k : Nat) (h : k < s.size) (hc : ¬ (s[k].toNat : Int) = 47) : opn (s.data.toList.drop k) = opn (s.data.toList.drop (k + 1)) := by
  have hn := beq_no (u8_ne 47 (by omega) hc)
  rw [drop_cons s k h, opn, show (s[k] == 47) = false from hn]; simp
theorem opn_no2 (s : ByteArray) (k : Nat) (h : k + 1 < s.size) (hc : ¬ (s[k + 1].toNat : Int) = 42) : opn (s.data.toList.drop k) = opn (s.data.toList.drop (k + 1)) := by
  have hn := u8_ne 42 (by omega) hc
  rw [drop_cons s k (by omega), opn, head_drop s _ h, show (some s[k + 1] == some 42) = false from by simpa using hn]; simp

end Go.Proofs.Qxb6602738a.Sk
