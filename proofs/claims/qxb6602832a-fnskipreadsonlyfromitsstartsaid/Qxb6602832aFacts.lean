/-
  Plain facts on where a value ends: what stands ahead of its start does not count; what stands behind its end does not count.
-/
import Derived.Test.Qxb6602832aPlain
namespace Go.Proofs.Qxb6602832a.Js

theorem md_shift (g : Nat → Int) (i : Nat) : ∀ (r p d : Nat) (q e : Bool), md g r (i + p) d q e = i + md (fun x => g (i + x)) r p d q e
  | 0, p, d, q, e => rfl
  | r + 1, p, d, q, e => by
    have ih := fun d' q' e' => md_shift g i r (p + 1) d' q' e'
    simp only [← Nat.add_assoc] at ih
    cases q
    · rw [md_f, md_f]
      simp only [ih]
      split
      · rfl
      · split
        · rfl
        · split
          · split <;> omega
          · rfl
    · cases e
      · rw [md_tf, md_tf]
        simp only [ih]
        split
        · rfl
        · split
          · split <;> omega
          · rfl
      · rw [md_te, md_te, ih]
theorem sc_shift (g : Nat → Int) (i : Nat) : ∀ (r p : Nat), sc g r (i + p) = i + sc (fun x => g (i + x)) r p
  | 0, p => rfl
  | r + 1, p => by
    have ih := sc_shift g i r (p + 1)
    rw [← Nat.add_assoc] at ih
    rw [sc_s, sc_s, ih]
    split <;> rfl
theorem skp_eq (g : Nat → Int) (n i : Nat) (h : i < n) : skp g n i = if opens (g i) = true then md g (n - i) i 0 false false else sc g (n - i) i := by
  unfold skp; rw [if_neg (by omega)]
theorem skp_shift (g : Nat → Int) (n i : Nat) (h : i ≤ n) : skp g n i = i + skp (fun x => g (i + x)) (n - i) 0 := by
  by_cases hn : n ≤ i
  · rw [skp_end g n i hn, skp_end _ (n - i) 0 (by omega)]; omega
  · rw [skp_eq g n i (by omega), skp_eq _ (n - i) 0 (by omega), Nat.sub_zero]
    have h1 := md_shift g i (n - i) 0 0 false false
    have h2 := sc_shift g i (n - i) 0
    rw [Nat.add_zero] at h1 h2
    rw [h1, h2, Nat.add_zero]
    split <;> rfl

theorem md_cut (g : Nat → Int) : ∀ (r p d : Nat) (q e : Bool), md g (md g r p d q e - p) p d q e = md g r p d q e
  | 0, p, d, q, e => by simp [md]
  | r + 1, p, d, q, e => by
    have ih := fun d' q' e' => md_cut g r (p + 1) d' q' e'
    have bd := fun d' q' e' => md_bd g r (p + 1) d' q' e'
    have step : ∀ d' q' e', md g (r + 1) p d q e = md g r (p + 1) d' q' e' → (∀ f, md g (f + 1) p d q e = md g f (p + 1) d' q' e') → md g (md g (r + 1) p d q e - p) p d q e = md g (r + 1) p d q e := fun d' q' e' h1 h2 => by
      have b := bd d' q' e'
      rw [h1, show md g r (p + 1) d' q' e' - p = (md g r (p + 1) d' q' e' - (p + 1)) + 1 from by omega, h2, ih]
    have last : (∀ f, md g (f + 1) p d q e = p + 1) → md g (md g (r + 1) p d q e - p) p d q e = md g (r + 1) p d q e := fun h => by
      rw [h, show p + 1 - p = 0 + 1 from by omega, h]
    cases q
    · by_cases h1 : g p = 34
      · exact step d true false (by rw [md_f, if_pos h1]) (fun f => by rw [md_f, if_pos h1])
      · by_cases h2 : g p = 91 ∨ g p = 123
        · exact step (d + 1) false false (by rw [md_f, if_neg h1, if_pos h2]) (fun f => by rw [md_f, if_neg h1, if_pos h2])
        · by_cases h3 : g p = 93 ∨ g p = 125
          · by_cases h4 : d = 1
            · exact last (fun f => by rw [md_f, if_neg h1, if_neg h2, if_pos h3, if_pos h4])
            · exact step (d - 1) false false (by rw [md_f, if_neg h1, if_neg h2, if_pos h3, if_neg h4]) (fun f => by rw [md_f, if_neg h1, if_neg h2, if_pos h3, if_neg h4])
          · exact step d false false (by rw [md_f, if_neg h1, if_neg h2, if_neg h3]) (fun f => by rw [md_f, if_neg h1, if_neg h2, if_neg h3])
    · cases e
      · by_cases h1 : g p = 92
        · exact step d true true (by rw [md_tf, if_pos h1]) (fun f => by rw [md_tf, if_pos h1])
        · by_cases h2 : g p = 34
          · by_cases h3 : d = 0
            · exact last (fun f => by rw [md_tf, if_neg h1, if_pos h2, if_pos h3])
            · exact step d false false (by rw [md_tf, if_neg h1, if_pos h2, if_neg h3]) (fun f => by rw [md_tf, if_neg h1, if_pos h2, if_neg h3])
          · exact step d true false (by rw [md_tf, if_neg h1, if_neg h2]) (fun f => by rw [md_tf, if_neg h1, if_neg h2])
      · exact step d true false rfl (fun f => rfl)
theorem sc_cut (g : Nat → Int) : ∀ (r p : Nat), sc g (sc g r p - p) p = sc g r p
  | 0, p => by simp [sc]
  | r + 1, p => by
    have ih := sc_cut g r (p + 1)
    have bd := sc_bd g r (p + 1)
    by_cases h : stop (g p) = true
    · rw [sc_s, if_pos h, Nat.sub_self]; rfl
    · rw [sc_s, if_neg h, show sc g r (p + 1) - p = (sc g r (p + 1) - (p + 1)) + 1 from by omega, sc_s, if_neg h, ih]
theorem skp_own (g : Nat → Int) (n i : Nat) (h : i < n) : i ≤ skp g n i ∧ skp g n i ≤ n ∧ (opens (g i) = true → i < skp g n i) ∧ skp g (skp g n i) i = skp g n i := by
  have e := skp_eq g n i h
  by_cases ho : opens (g i) = true
  · rw [if_pos ho] at e
    have bd := md_bd g (n - i) i 0 false false
    have hc := md_cut g (n - i) i 0 false false
    have hgt : i < md g (n - i) i 0 false false := by
      rw [fuel n i h, md_f]
      have b1 := md_bd g (n - (i + 1)) (i + 1) 0 true false
      have b2 := md_bd g (n - (i + 1)) (i + 1) (0 + 1) false false
      have b3 := md_bd g (n - (i + 1)) (i + 1) (0 - 1) false false
      have b4 := md_bd g (n - (i + 1)) (i + 1) 0 false false
      split
      · omega
      · split
        · omega
        · split
          · split <;> omega
          · omega
    rw [← e] at hc bd hgt
    refine ⟨by omega, by omega, fun _ => hgt, ?_⟩
    rw [skp_eq g (skp g n i) i hgt, if_pos ho, hc]
  · rw [if_neg ho] at e
    have bd := sc_bd g (n - i) i
    have hc := sc_cut g (n - i) i
    rw [← e] at hc bd
    refine ⟨by omega, by omega, fun h => absurd h ho, ?_⟩
    by_cases hi : skp g n i ≤ i
    · exact skp_end g _ i hi
    · rw [skp_eq g (skp g n i) i (by omega), if_neg ho, hc]

end Go.Proofs.Qxb6602832a.Js
