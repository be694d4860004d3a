import Derived.Test.Qxb6602832aProg
import Derived.Test.Qxb6602832aPlain
import Derived.Test.Qxb6602832aShelf
import Derived.Lib.IndexLaws
import Derived.WalkKit
namespace Go.Proofs.Qxb6602832a
open Go.RowKit

theorem ret_int {k : IntKind} {a b : Int} (h : a = b) : Ending.returned (.int k a) = .returned (.int k b) := by rw [h]
theorem ret_bool {a b : Bool} (h : a = b) : Ending.returned (.bool a) = .returned (.bool b) := by rw [h]

/-! ### bytes.IndexByte at a quote -/
def lst (g : Nat → Int) (m : Nat) : List Int := (List.range m).map g
theorem lst_len (g : Nat → Int) (m : Nat) : (lst g m).length = m := by simp [lst]
theorem lst_get (g : Nat → Int) (m x : Nat) (h : x < m) : (lst g m).getD x 0 = g x := by simp [lst, h]
theorem lst_byte (g : Nat → Int) (m x : Nat) (h : x < m) : (Lib.bytesOf (lst g m))[x]? = some (UInt8.ofNat (g x).toNat) := by
  simp [Lib.bytesOf, lst, h]
theorem lst_out (g : Nat → Int) (m x : Nat) (h : m ≤ x) : (Lib.bytesOf (lst g m))[x]? = none := by
  simp [Lib.bytesOf, lst, h]
theorem byte_iff (z : Int) (h : 0 ≤ z ∧ z ≤ 255) : UInt8.ofNat z.toNat = 34 ↔ z = 34 := by
  constructor
  · intro e
    have e2 := congrArg UInt8.toNat e
    rw [UInt8.toNat_ofNat'] at e2
    have : (34 : UInt8).toNat = 34 := rfl
    omega
  · intro e; rw [e]; rfl
theorem ix_none (g : Nat → Int) (m : Nat) (hr : ∀ x, 0 ≤ g x ∧ g x ≤ 255) (h : ∀ x, x < m → ¬ g x = 34) : Lib.indexByte (Lib.bytesOf (lst g m)) 34 = -1 := by
  have hge := Lib.indexByte_ge (Lib.bytesOf (lst g m)) 34
  by_cases e : Lib.indexByte (Lib.bytesOf (lst g m)) 34 = -1
  · exact e
  · obtain ⟨o, ho⟩ : ∃ o : Nat, Lib.indexByte (Lib.bytesOf (lst g m)) 34 = o := ⟨_, (Int.toNat_of_nonneg (by omega)).symm⟩
    have h1 := (Lib.indexByte_some ho).1
    by_cases hm : o < m
    · rw [lst_byte g m o hm] at h1
      exact absurd ((byte_iff _ (hr o)).1 (Option.some.inj h1)) (h o hm)
    · rw [lst_out g m o (by omega)] at h1; cases h1
theorem ix_some (g : Nat → Int) (m q : Nat) (hr : ∀ x, 0 ≤ g x ∧ g x ≤ 255) (hq : q < m) (h34 : g q = 34) (h : ∀ x, x < q → ¬ g x = 34) : Lib.indexByte (Lib.bytesOf (lst g m)) 34 = q := by
  have hge := Lib.indexByte_ge (Lib.bytesOf (lst g m)) 34
  have hqv : (Lib.bytesOf (lst g m))[q]? = some 34 := by rw [lst_byte g m q hq, (byte_iff _ (hr q)).2 h34]
  by_cases e : Lib.indexByte (Lib.bytesOf (lst g m)) 34 = -1
  · exact absurd hqv (Lib.indexByte_none e q)
  · obtain ⟨o, ho⟩ : ∃ o : Nat, Lib.indexByte (Lib.bytesOf (lst g m)) 34 = o := ⟨_, (Int.toNat_of_nonneg (by omega)).symm⟩
    have h1 := Lib.indexByte_some ho
    rw [ho]
    have hom : o < m := by
      by_cases hm : o < m
      · exact hm
      · rw [lst_out g m o (by omega)] at h1; cases h1.1
    have ho34 : g o = 34 := (byte_iff _ (hr o)).1 (Option.some.inj ((lst_byte g m o hom).symm.trans h1.1))
    have a1 : ¬ o < q := fun hh => h o hh ho34
    have a2 : ¬ q < o := fun hh => h1.2 q hh hqv
    omega
theorem ib_none (b o m c : Nat) (g : Nat → Int) (w : World) (hg : ∀ x, x < m → w.cell? ⟨b, o + x, none⟩ = some (.int .u8 (g x))) (hr : ∀ x, 0 ≤ g x ∧ g x ≤ 255) (h : ∀ x, x < m → ¬ g x = 34) :
    Calls Try.prog 36 #[.slice (some ⟨b, o, none⟩) m c, .int .u8 34] w fun e w' => e = .returned (.int .i64 (-1)) ∧ w' = w := by
  have := Try.bytes_IndexByte b o m c (lst g m) 34 w (lst_len g m) (fun x hx => by rw [lst_get g m x hx]; exact hg x hx)
  rw [show ((34 : Int).toNat.toUInt8) = 34 from rfl, ix_none g m hr h] at this
  exact this
theorem ib_some (b o m c q : Nat) (g : Nat → Int) (w : World) (hg : ∀ x, x < m → w.cell? ⟨b, o + x, none⟩ = some (.int .u8 (g x))) (hr : ∀ x, 0 ≤ g x ∧ g x ≤ 255) (hq : q < m) (h34 : g q = 34) (h : ∀ x, x < q → ¬ g x = 34) :
    Calls Try.prog 36 #[.slice (some ⟨b, o, none⟩) m c, .int .u8 34] w fun e w' => e = .returned (.int .i64 q) ∧ w' = w := by
  have := Try.bytes_IndexByte b o m c (lst g m) 34 w (lst_len g m) (fun x hx => by rw [lst_get g m x hx]; exact hg x hx)
  rw [show ((34 : Int).toNat.toUInt8) = 34 from rfl, ix_some g m q hr hq h34 h] at this
  exact this
theorem first_of (P : Nat → Prop) : ∀ m : Nat, (∀ x, x < m → ¬ P x) ∨ ∃ q, q < m ∧ P q ∧ ∀ x, x < q → ¬ P x
  | 0 => .inl fun x h => absurd h (Nat.not_lt_zero _)
  | m + 1 => by
    rcases first_of P m with h | ⟨q, h1, h2, h3⟩
    · by_cases hp : P m
      · exact .inr ⟨m, by omega, hp, h⟩
      · refine .inl fun x hx => ?_
        by_cases e : x = m
        · rw [e]; exact hp
        · exact h x (by omega)
    · exact .inr ⟨q, by omega, h2, h3⟩

set_option maxRecDepth 100000 in
set_option maxHeartbeats 4000000 in
theorem str_any (b off n c i : Nat) (g : Nat → Int) (w : World) (hn : n ≤ 1048576) (hnc : n ≤ c) (hc : c ≤ 9223372036854775807) (hi : i < n)
    (hg : ∀ x, x < n → w.cell? ⟨b, off + x, none⟩ = some (.int .u8 (g x))) (hr : ∀ x, 0 ≤ g x ∧ g x ≤ 255) :
    Calls Try.prog 34 #[.slice (some ⟨b, off, none⟩) n c, .int .i64 i] w fun e w' => e = .returned (.int .i64 (Js.ss g (n - (i + 1)) (i + 1) false)) ∧ w' = w := by
  go_enter Try.func34, Try.ntmps34
  go_wp2
  go_loop [5, 6, 7, 8] (fun j _ _ _ => ∃ (k : Nat), j = .int .i64 k ∧ i + 1 ≤ k ∧ k ≤ n ∧ (k = i + 1 ∨ g (k - 1) = 34) ∧ Js.ss g (n - k) k false = Js.ss g (n - (i + 1)) (i + 1) false) (fun j _ _ _ => n - (intOf j).toNat)
  case atStart => exact ⟨i + 1, by go_num, by omega, by omega, .inl rfl, rfl⟩
  case round =>
    obtain ⟨k, rfl, hk1, hk2, hq, hA⟩ := hrel
    have HA : Hid (Js.ss g (n - k) k false = Js.ss g (n - (i + 1)) (i + 1) false) := hA
    have HQ : Hid (k = i + 1 ∨ g (k - 1) = 34) := hq
    have HG : Hid (∀ x, x < n → w.cell? ⟨b, off + x, none⟩ = some (.int .u8 (g x))) := hg
    clear hA hq hg
    by_cases hkn : k < n
    · have hkc : k < c := by omega
      rcases first_of (fun x => g (k + x) = 34) (n - k) with hno | ⟨q, hq1, hq2, hq3⟩
      · have HN : Hid (∀ x, x < n - k → ¬ g (k + x) = 34) := hno
        clear hno
        go_wp2_with fail
        refine (ib_none b (off + k) (n - k) (c - k) (fun x => g (k + x)) _ (fun x hx => by rw [Nat.add_assoc]; exact HG.out _ (by omega)) (fun x => hr (k + x)) HN.out).mono ?_
        rintro e w' ⟨rfl, rfl⟩
        go_wp2_with fail
        go_ret
        exact ⟨ret_int (by rw [← HA.out, Js.ss_none g n k (by omega) (fun x h1 h2 => by have := HN.out (x - k) (by omega); rwa [show k + (x - k) = x from by omega] at this)]), rfl⟩
      · have HN : Hid (∀ x, x < q → ¬ g (k + x) = 34) := hq3
        have H34 : Hid (g (k + q) = 34) := hq2
        clear hq3 hq2
        go_wp2_with fail
        refine (ib_some b (off + k) (n - k) (c - k) q (fun x => g (k + x)) _ (fun x hx => by rw [Nat.add_assoc]; exact HG.out _ (by omega)) (fun x => hr (k + x)) hq1 H34.out HN.out).mono ?_
        rintro e w' ⟨rfl, rfl⟩
        have hq0 : decide ((q : Int) < 0) = false := decide_eq_false (by omega)
        go_wp2_with fail
        go_loop [7, 8] (fun cnt p => ∃ u m : Nat, p = .int .i64 u ∧ cnt = .int .i64 m ∧ i ≤ u ∧ u < n ∧ k ≤ u + 1 ∧ m ≤ n ∧ u + 1 + m = k + q ∧ ∀ x, u + 1 ≤ x → x < k + q → g x = 92) (fun _ p => (intOf p).toNat)
        case atStart => exact ⟨k + q - 1, 0, by go_num, rfl, by omega, by omega, by omega, by omega, by omega, fun x h1 h2 => by omega⟩
        case round =>
          obtain ⟨u, m, rfl, rfl, hu1, hu2, hu3, hm, hum, hrun⟩ := hrel
          have HUM : Hid (u + 1 + m = k + q) := hum
          have HRUN : Hid (∀ x, u + 1 ≤ x → x < k + q → g x = 92) := hrun
          clear hum hrun
          have hcell := HG.out u hu2
          by_cases hiu : i < u
          · by_cases h92 : g u = 92
            · have hku : k ≤ u := by
                rcases HQ.out with e | e
                · omega
                · by_cases e2 : k = u + 1
                  · rw [e2, Nat.add_sub_cancel, h92] at e; omega
                  · omega
              have h92' : (g u == 92) = true := beq_iff_eq.2 h92
              have H92 : Hid (g u = 92) := h92
              clear h92
              go_wp2_with fail
              go_round
              case rel => exact ⟨u - 1, m + 1, by go_num, by go_num, by omega, by omega, by omega, by have := HUM.out; omega, by have := HUM.out; omega, fun x h1 h2 => by
                by_cases e : x = u
                · rw [e]; exact H92.out
                · exact HRUN.out x (by omega) h2⟩
              case measure => simp [intOf]; omega
            · have h92' : (g u == 92) = false := beq_eq_false_iff_ne.2 h92
              have HX : Hid (u + 1 = k ∨ ¬ g (u + 1 - 1) = 92) := .inr (by rw [Nat.add_sub_cancel]; exact h92)
              clear h92
              by_cases hev : m % 2 = 0
              · have hev' : ((m : Int) % 2 == 0) = true := by rw [beq_iff_eq]; omega
                have HF : Hid (Js.ss g (n - k) k false = k + q + 1) := Js.ss_even g n k (k + q) (u + 1) (by omega) hu3 (by have := HUM.out; omega) H34.out (fun x h1 h2 => by have := HN.out (x - k) (by omega); rwa [show k + (x - k) = x from by omega] at this) HX.out HRUN.out (by have := HUM.out; omega)
                go_wp2_with fail
                go_ret
                exact ⟨ret_int (by rw [← HA.out, HF.out]; omega), rfl⟩
              · have hev' : ((m : Int) % 2 == 0) = false := by rw [beq_eq_false_iff_ne]; omega
                have HF : Hid (Js.ss g (n - k) k false = Js.ss g (n - (k + q + 1)) (k + q + 1) false) := Js.ss_odd g n k (k + q) (u + 1) (by omega) hu3 (by have := HUM.out; omega) (fun x h1 h2 => by have := HN.out (x - k) (by omega); rwa [show k + (x - k) = x from by omega] at this) HX.out HRUN.out (by have := HUM.out; omega)
                go_wp2_with fail
                go_round
                case rel => exact ⟨k + q + 1, by go_num, by omega, by omega, .inr (by rw [Nat.add_sub_cancel]; exact H34.out), by rw [← HA.out, HF.out]⟩
                case measure => simp [intOf]; omega
          · have HX : Hid (u + 1 = k ∨ ¬ g (u + 1 - 1) = 92) := .inl (by omega)
            by_cases hev : m % 2 = 0
            · have hev' : ((m : Int) % 2 == 0) = true := by rw [beq_iff_eq]; omega
              have HF : Hid (Js.ss g (n - k) k false = k + q + 1) := Js.ss_even g n k (k + q) (u + 1) (by omega) hu3 (by have := HUM.out; omega) H34.out (fun x h1 h2 => by have := HN.out (x - k) (by omega); rwa [show k + (x - k) = x from by omega] at this) HX.out HRUN.out (by have := HUM.out; omega)
              go_wp2_with fail
              go_ret
              exact ⟨ret_int (by rw [← HA.out, HF.out]; omega), rfl⟩
            · have hev' : ((m : Int) % 2 == 0) = false := by rw [beq_eq_false_iff_ne]; omega
              have HF : Hid (Js.ss g (n - k) k false = Js.ss g (n - (k + q + 1)) (k + q + 1) false) := Js.ss_odd g n k (k + q) (u + 1) (by omega) hu3 (by have := HUM.out; omega) (fun x h1 h2 => by have := HN.out (x - k) (by omega); rwa [show k + (x - k) = x from by omega] at this) HX.out HRUN.out (by have := HUM.out; omega)
              go_wp2_with fail
              go_round
              case rel => exact ⟨k + q + 1, by go_num, by omega, by omega, .inr (by rw [Nat.add_sub_cancel]; exact H34.out), by rw [← HA.out, HF.out]⟩
              case measure => simp [intOf]; omega
    · have hno : ∀ x, x < n - k → ¬ g (k + x) = 34 := fun x hx => by omega
      have HF : Hid (Js.ss g (n - k) k false = n) := Js.ss_none g n k (by omega) (fun x h1 h2 => by omega)
      have HN : Hid (∀ x, x < n - k → ¬ g (k + x) = 34) := hno
      clear hno
      by_cases hck : c = k
      · subst hck
        go_wp2_with fail
        refine (ib_none b off 0 0 (fun x => g (c + x)) _ (fun x hx => by omega) (fun x => hr (c + x)) (fun x hx => by omega)).mono ?_
        rintro e w' ⟨rfl, rfl⟩
        go_wp2_with fail
        go_ret
        exact ⟨ret_int (by rw [← HA.out, HF.out]), rfl⟩
      · have hkc : k < c := by omega
        go_wp2_with fail
        refine (ib_none b (off + k) (n - k) (c - k) (fun x => g (k + x)) _ (fun x hx => by omega) (fun x => hr (k + x)) HN.out).mono ?_
        rintro e w' ⟨rfl, rfl⟩
        go_wp2_with fail
        go_ret
        exact ⟨ret_int (by rw [← HA.out, HF.out]), rfl⟩
end Go.Proofs.Qxb6602832a
