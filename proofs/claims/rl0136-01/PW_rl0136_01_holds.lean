import PyProof.Rows.All
import OpenK.AllK
import Wide.All
import Wide.FinOn
import KE.KDictList
import OpenK.KCls
import PySem.Challenge.RW_rl0136_01
set_option linter.all false
set_option Elab.async false
set_option genSizeOf false
set_option compiler.extract_closed false
set_option tactic.hygienic false
local macro_rules | `(tactic| omega) => `(tactic| lia)
local macro_rules | `(tactic| walk_at "o") => `(tactic| omega (config := {}))
set_option maxRecDepth 10000
namespace Mine
open PySem PySem.W PyProof.Rows PySem.Calls
theorem bZ  {p0 p1 p2 : Prop} {G : Prop} (h : p0 ∧ p1 ∧ p2) (k : p0 → p1 → p2 → G) : G := by obtain ⟨h0, h1, h2⟩ := h; exact k h0 h1 h2
theorem yF  {p0 p1 p2 p3 : Prop} {G : Prop} (h : p0 ∧ p1 ∧ p2 ∧ p3) (k : p0 → p1 → p2 → p3 → G) : G := by obtain ⟨h0, h1, h2, h3⟩ := h; exact k h0 h1 h2 h3
theorem zFu  {p0 p1 p2 p3 p4 p5 : Prop} {G : Prop} (h : p0 ∧ p1 ∧ p2 ∧ p3 ∧ p4 ∧ p5) (k : p0 → p1 → p2 → p3 → p4 → p5 → G) : G := by obtain ⟨h0, h1, h2, h3, h4, h5⟩ := h; exact k h0 h1 h2 h3 h4 h5
theorem aI {Aa : Sort _} {p0 p1 : Aa → Prop} {G : Prop} (h : ∃ a, p0 a ∧ p1 a) (k : ∀ a, p0 a → p1 a → G) : G := by obtain ⟨a, h0, h1⟩ := h; exact k a h0 h1
theorem bY {Aa : Sort _} {p0 p1 p2 : Aa → Prop} {G : Prop} (h : ∃ a, p0 a ∧ p1 a ∧ p2 a) (k : ∀ a, p0 a → p1 a → p2 a → G) : G := by obtain ⟨a, h0, h1, h2⟩ := h; exact k a h0 h1 h2
theorem iU {Aa : Sort _} {p0 p1 p2 p3 : Aa → Prop} {G : Prop} (h : ∃ a, p0 a ∧ p1 a ∧ p2 a ∧ p3 a) (k : ∀ a, p0 a → p1 a → p2 a → p3 a → G) : G := by obtain ⟨a, h0, h1, h2, h3⟩ := h; exact k a h0 h1 h2 h3
theorem zIn {Aa : Sort _} {p0 p1 p2 p3 p4 : Aa → Prop} {G : Prop} (h : ∃ a, p0 a ∧ p1 a ∧ p2 a ∧ p3 a ∧ p4 a) (k : ∀ a, p0 a → p1 a → p2 a → p3 a → p4 a → G) : G := by obtain ⟨a, h0, h1, h2, h3, h4⟩ := h; exact k a h0 h1 h2 h3 h4
theorem fG {Aa : Sort _} {Ab : Sort _} {p0 : Aa → Ab → Prop} {G : Prop} (h : ∃ a b, p0 a b) (k : ∀ a b, p0 a b → G) : G := by obtain ⟨a, b, h0⟩ := h; exact k a b h0
theorem cA {Aa : Sort _} {Ab : Sort _} {p0 p1 : Aa → Ab → Prop} {G : Prop} (h : ∃ a b, p0 a b ∧ p1 a b) (k : ∀ a b, p0 a b → p1 a b → G) : G := by obtain ⟨a, b, h0, h1⟩ := h; exact k a b h0 h1
theorem iT {Aa : Sort _} {Ab : Sort _} {p0 p1 p2 : Aa → Ab → Prop} {G : Prop} (h : ∃ a b, p0 a b ∧ p1 a b ∧ p2 a b) (k : ∀ a b, p0 a b → p1 a b → p2 a b → G) : G := by obtain ⟨a, b, h0, h1, h2⟩ := h; exact k a b h0 h1 h2
theorem jN {Aa : Sort _} {Ab : Sort _} {p0 p1 p2 p3 : Aa → Ab → Prop} {G : Prop} (h : ∃ a b, p0 a b ∧ p1 a b ∧ p2 a b ∧ p3 a b) (k : ∀ a b, p0 a b → p1 a b → p2 a b → p3 a b → G) : G := by obtain ⟨a, b, h0, h1, h2, h3⟩ := h; exact k a b h0 h1 h2 h3
theorem zIm {Aa : Sort _} {Ab : Sort _} {p0 p1 p2 p3 p4 p5 p6 p7 : Aa → Ab → Prop} {G : Prop} (h : ∃ a b, p0 a b ∧ p1 a b ∧ p2 a b ∧ p3 a b ∧ p4 a b ∧ p5 a b ∧ p6 a b ∧ p7 a b) (k : ∀ a b, p0 a b → p1 a b → p2 a b → p3 a b → p4 a b → p5 a b → p6 a b → p7 a b → G) : G := by obtain ⟨a, b, h0, h1, h2, h3, h4, h5, h6, h7⟩ := h; exact k a b h0 h1 h2 h3 h4 h5 h6 h7
theorem zIl {Aa : Sort _} {Ab : Sort _} {Ac : Sort _} {p0 : Aa → Ab → Ac → Prop} {G : Prop} (h : ∃ a b c, p0 a b c) (k : ∀ a b c, p0 a b c → G) : G := by obtain ⟨a, b, c, h0⟩ := h; exact k a b c h0
theorem bH {Aa : Sort _} {Ab : Sort _} {Ac : Sort _} {p0 p1 : Aa → Ab → Ac → Prop} {G : Prop} (h : ∃ a b c, p0 a b c ∧ p1 a b c) (k : ∀ a b c, p0 a b c → p1 a b c → G) : G := by obtain ⟨a, b, c, h0, h1⟩ := h; exact k a b c h0 h1
theorem eM {Aa : Sort _} {Ab : Sort _} {Ac : Sort _} {p0 p1 p2 : Aa → Ab → Ac → Prop} {G : Prop} (h : ∃ a b c, p0 a b c ∧ p1 a b c ∧ p2 a b c) (k : ∀ a b c, p0 a b c → p1 a b c → p2 a b c → G) : G := by obtain ⟨a, b, c, h0, h1, h2⟩ := h; exact k a b c h0 h1 h2
theorem aV {Aa : Sort _} {Ab : Sort _} {Ac : Sort _} {p0 p1 p2 p3 : Aa → Ab → Ac → Prop} {G : Prop} (h : ∃ a b c, p0 a b c ∧ p1 a b c ∧ p2 a b c ∧ p3 a b c) (k : ∀ a b c, p0 a b c → p1 a b c → p2 a b c → p3 a b c → G) : G := by obtain ⟨a, b, c, h0, h1, h2, h3⟩ := h; exact k a b c h0 h1 h2 h3
theorem zIk {Aa : Sort _} {Ab : Sort _} {Ac : Sort _} {p0 p1 p2 p3 p4 p5 : Aa → Ab → Ac → Prop} {G : Prop} (h : ∃ a b c, p0 a b c ∧ p1 a b c ∧ p2 a b c ∧ p3 a b c ∧ p4 a b c ∧ p5 a b c) (k : ∀ a b c, p0 a b c → p1 a b c → p2 a b c → p3 a b c → p4 a b c → p5 a b c → G) : G := by obtain ⟨a, b, c, h0, h1, h2, h3, h4, h5⟩ := h; exact k a b c h0 h1 h2 h3 h4 h5
theorem rI {Aa : Sort _} {Ab : Sort _} {Ac : Sort _} {Ad : Sort _} {p0 p1 : Aa → Ab → Ac → Ad → Prop} {G : Prop} (h : ∃ a b c d, p0 a b c d ∧ p1 a b c d) (k : ∀ a b c d, p0 a b c d → p1 a b c d → G) : G := by obtain ⟨a, b, c, d, h0, h1⟩ := h; exact k a b c d h0 h1
theorem zIj {Aa : Sort _} {Ab : Sort _} {Ac : Sort _} {Ad : Sort _} {p0 p1 p2 : Aa → Ab → Ac → Ad → Prop} {G : Prop} (h : ∃ a b c d, p0 a b c d ∧ p1 a b c d ∧ p2 a b c d) (k : ∀ a b c d, p0 a b c d → p1 a b c d → p2 a b c d → G) : G := by obtain ⟨a, b, c, d, h0, h1, h2⟩ := h; exact k a b c d h0 h1 h2
theorem zAy {Aa : Sort _} {Ab : Sort _} {Ac : Sort _} {Ad : Sort _} {p0 p1 p2 p3 : Aa → Ab → Ac → Ad → Prop} {G : Prop} (h : ∃ a b c d, p0 a b c d ∧ p1 a b c d ∧ p2 a b c d ∧ p3 a b c d) (k : ∀ a b c d, p0 a b c d → p1 a b c d → p2 a b c d → p3 a b c d → G) : G := by obtain ⟨a, b, c, d, h0, h1, h2, h3⟩ := h; exact k a b c d h0 h1 h2 h3
theorem zIi {Aa : Sort _} {Ab : Sort _} {Ac : Sort _} {Ad : Sort _} {Ae : Sort _} {p0 p1 p2 p3 p4 p5 p6 p7 p8 p9 : Aa → Ab → Ac → Ad → Ae → Prop} {G : Prop} (h : ∃ a b c d e, p0 a b c d e ∧ p1 a b c d e ∧ p2 a b c d e ∧ p3 a b c d e ∧ p4 a b c d e ∧ p5 a b c d e ∧ p6 a b c d e ∧ p7 a b c d e ∧ p8 a b c d e ∧ p9 a b c d e) (k : ∀ a b c d e, p0 a b c d e → p1 a b c d e → p2 a b c d e → p3 a b c d e → p4 a b c d e → p5 a b c d e → p6 a b c d e → p7 a b c d e → p8 a b c d e → p9 a b c d e → G) : G := by obtain ⟨a, b, c, d, e, h0, h1, h2, h3, h4, h5, h6, h7, h8, h9⟩ := h; exact k a b c d e h0 h1 h2 h3 h4 h5 h6 h7 h8 h9
theorem zFt {Aa : Sort _} {Ab : Sort _} {Ac : Sort _} {Ad : Sort _} {Ae : Sort _} {Af : Sort _} {p0 p1 p2 p3 : Aa → Ab → Ac → Ad → Ae → Af → Prop} {G : Prop} (h : ∃ a b c d e f, p0 a b c d e f ∧ p1 a b c d e f ∧ p2 a b c d e f ∧ p3 a b c d e f) (k : ∀ a b c d e f, p0 a b c d e f → p1 a b c d e f → p2 a b c d e f → p3 a b c d e f → G) : G := by obtain ⟨a, b, c, d, e, f, h0, h1, h2, h3⟩ := h; exact k a b c d e f h0 h1 h2 h3
theorem mH {α : Type _} {a : α} {l : List α} : a ∈ a :: l := .head _
theorem mT {α : Type _} {a b : α} {l : List α} (h : a ∈ l) : a ∈ b :: l := .tail _ h
theorem mS {α : Type _} {a b : α} (h : a ∈ [b]) : a = b := List.mem_singleton.mp h
theorem mC {α : Type _} {a b : α} {l : List α} (h : a ∈ b :: l) : a = b ∨ a ∈ l := List.mem_cons.mp h
theorem mA {α : Type _} {a : α} {s t : List α} (h : a ∈ s ++ t) : a ∈ s ∨ a ∈ t := List.mem_append.mp h
theorem mM {α β : Type _} {b : β} {f : α → β} {l : List α} (h : b ∈ l.map f) : ∃ a, a ∈ l ∧ f a = b := List.mem_map.mp h
theorem mR {α : Type _} {a : α} {s t : List α} (h : a ∈ t) : a ∈ s ++ t := List.mem_append_right _ h
theorem mL {α : Type _} {a : α} {s t : List α} (h : a ∈ s) : a ∈ s ++ t := List.mem_append_left _ h
theorem iS {α : Type _} {x : Option α} (h : x.isSome = true) : ∃ a, x = some a := Option.isSome_iff_exists.mp h
theorem nB {a b : Nat} (h : Nat.ble a b = true) : a ≤ b := Nat.le_of_ble_eq_true h
section
noncomputable def lu (P : Nat) : Nat → Nat
  | 0 => 0
  | 1 => 1
  | n + 2 => P * lu P (n + 1) + lu P n
theorem fD (P n : Nat) : lu P (n + 2) = P * lu P (n + 1) + lu P n := rfl
theorem iN (P : Nat) (m : Nat) : ∀ n, lu P (m + n + 1) = lu P (m + 1) * lu P (n + 1) + lu P m * lu P n
  | 0 => by simp [lu]
  | 1 => by
    show lu P (m + 2) = lu P (m + 1) * lu P 2 + lu P m * lu P 1
    simp only [lu]; rw [Nat.mul_comm P]; simp
  | n + 2 => by
    have h1 := iN P m n
    have h2 := iN P m (n + 1)
    have e1 : lu P (m + (n + 2) + 1) = P * lu P (m + (n + 1) + 1) + lu P (m + n + 1) := fD P (m + n + 1)
    have e2 : lu P (n + 2 + 1) = P * lu P (n + 1 + 1) + lu P (n + 1) := fD P (n + 1)
    have e3 : lu P (n + 2) = P * lu P (n + 1) + lu P n := fD P n
    rw [e1, h1, h2, e2, e3]
    grind
theorem eQ {P : Nat} (hP : 1 ≤ P) : ∀ n, 1 ≤ n → 1 ≤ lu P n
  | 1, _ => Nat.le_refl 1
  | n + 2, _ => by
    have := eQ hP (n + 1) (by exact Nat.le_add_left 1 n)
    rw [fD]
    exact Nat.le_trans (Nat.mul_le_mul hP this) (Nat.le_add_right _ _)
theorem tH {P : Nat} (n : Nat) (hn : 1 ≤ n) : P * lu P n ≤ lu P (n + 1) := by
  obtain ⟨m, rfl⟩ : ∃ m, n = m + 1 := ⟨n - 1, by exact (Nat.sub_eq_iff_eq_add hn).mp rfl⟩
  rw [fD]; exact Nat.le_add_right _ _
theorem tI {P : Nat} (hP : 1 ≤ P) {m : Nat} (hm : 1 ≤ m) : ∀ k, lu P m ≤ lu P (m + k)
  | 0 => Nat.le_refl _
  | k + 1 => by
    refine Nat.le_trans (tI hP hm k) ?_
    refine Nat.le_trans ?_ (tH (m + k) (by exact Nat.le_add_right_of_le hm))
    exact Nat.le_mul_of_pos_left _ hP
theorem fQ (P : Nat) : ∀ n, Nat.gcd (lu P n) (lu P (n + 1)) = 1
  | 0 => by simp [lu]
  | n + 1 => by
    have h := fQ P n
    rw [fD, Nat.gcd_mul_right_add_right, Nat.gcd_comm]
    exact h
theorem kO (P m n : Nat) : Nat.gcd (lu P m) (lu P (m + n)) = Nat.gcd (lu P m) (lu P n) := by
  cases n with
  | zero => simp [lu]
  | succ n =>
    rw [show m + (n + 1) = m + n + 1 by exact Eq.refl (m + (n + 1)), iN]
    rw [Nat.gcd_add_mul_left_right]
    exact Nat.Coprime.gcd_mul_left_cancel_right _ (by have := fQ P m; rwa [Nat.gcd_comm] at this)
theorem pG (P : Nat) : ∀ (s m n : Nat), m + n ≤ s → Nat.gcd (lu P m) (lu P n) = lu P (Nat.gcd m n)
  | 0, m, n, h => by
    obtain ⟨rfl, rfl⟩ : m = 0 ∧ n = 0 := by omega
    simp [lu]
  | s + 1, m, n, h => by
    by_cases hm : m = 0
    · subst hm; simp [lu]
    by_cases hn : n = 0
    · subst hn; simp [lu]
    by_cases hle : m ≤ n
    · obtain ⟨k, rfl⟩ : ∃ k, n = m + k := ⟨n - m, by exact Eq.symm (Nat.add_sub_of_le hle)⟩
      rw [kO, pG P s m k (by omega)]
      simp
    · obtain ⟨k, rfl⟩ : ∃ k, m = n + k := ⟨m - n, by omega⟩
      rw [Nat.gcd_comm, kO, pG P s n k (by omega)]
      rw [Nat.gcd_comm (n + k) n]; simp
theorem pH (P : Nat) {m n : Nat} (h : m ∣ n) : lu P m ∣ lu P n := by
  have := pG P (m + n) m n (Nat.le_refl _)
  rw [Nat.gcd_eq_left h] at this
  exact this ▸ Nat.gcd_dvd_right _ _
theorem jE (P t : Nat) : ∀ k, ∃ q, lu P (t * k + 1) = lu P (t + 1) ^ k + lu P t * q
  | 0 => ⟨0, by simp [lu]⟩
  | k + 1 => by
    obtain ⟨q, hq⟩ := jE P t k
    refine ⟨q * lu P (t + 1) + lu P (t * k), ?_⟩
    rw [show t * (k + 1) + 1 = t * k + t + 1 by rw [Nat.mul_add]; omega, iN, hq]
    rw [Nat.pow_succ, Nat.add_mul, Nat.mul_add, Nat.mul_assoc]
    rw [Nat.mul_comm (lu P (t * k)) (lu P t), Nat.add_assoc]
theorem pF (P t : Nat) (ht : 1 ≤ t) : ∀ k, ∃ V, lu P (t * k) = lu P t * V ∧ ∃ q r, V + lu P t * q = k * lu P (t + 1) ^ (k - 1) + lu P t * r
  | 0 => ⟨0, by simp [lu], 0, 0, by simp⟩
  | k + 1 => by
    obtain ⟨V, hV, q, r, hq⟩ := pF P t ht k
    obtain ⟨x, hx⟩ := jE P t k
    obtain ⟨u, rfl⟩ : ∃ u, t = u + 1 := ⟨t - 1, by exact (Nat.sub_eq_iff_eq_add ht).mp rfl⟩
    refine ⟨lu P ((u + 1) * k + 1) + V * lu P u, ?_, ?_⟩
    · rw [show (u + 1) * (k + 1) = (u + 1) * k + u + 1 by rw [Nat.mul_add]; omega, iN, hV]
      rw [Nat.mul_add, Nat.mul_comm (lu P ((u + 1) * k + 1)), Nat.mul_assoc]
    · -- U_u = U_(t+1) - P U_t
      have e : lu P (u + 1 + 1) = P * lu P (u + 1) + lu P u := rfl
      refine ⟨V * P + q * lu P (u + 1 + 1), x + r * lu P (u + 1 + 1), ?_⟩
      rw [hx]
      have h1 : V * lu P u + lu P (u + 1) * (V * P) = V * lu P (u + 1 + 1) := by
        rw [e, Nat.mul_add, Nat.add_comm]
        congr 1
        rw [Nat.mul_left_comm, Nat.mul_comm (lu P (u+1)) P]
      have h2 : V * lu P (u + 1 + 1) + lu P (u + 1) * (q * lu P (u + 1 + 1)) = (k * lu P (u + 1 + 1) ^ (k - 1) + lu P (u + 1) * r) * lu P (u + 1 + 1) := by
        rw [← hq, Nat.add_mul, Nat.mul_assoc]
      have h3 : k * lu P (u + 1 + 1) ^ (k - 1) * lu P (u + 1 + 1) = k * lu P (u + 1 + 1) ^ k := by
        cases k with
        | zero => simp
        | succ k => rw [Nat.mul_assoc, Nat.add_sub_cancel, ← Nat.pow_succ]
      rw [Nat.add_mul, h3, Nat.mul_assoc] at h2
      simp only [Nat.add_sub_cancel, Nat.mul_add, Nat.add_mul, Nat.one_mul]
      generalize lu P (u + 1) * (q * lu P (u + 1 + 1)) = a at *
      generalize lu P (u + 1) * (V * P) = b at *
      generalize lu P (u + 1) * (r * lu P (u + 1 + 1)) = c at *
      generalize lu P (u + 1) * x = d at *
      generalize k * lu P (u + 1 + 1) ^ k = f at *
      omega
theorem xD {P t k V d : Nat} (hP : 1 ≤ P) (ht : 1 ≤ t) (hV : lu P (t * k) = lu P t * V) (h1 : d ∣ lu P t) (h2 : d ∣ V) : d ∣ k := by
  obtain ⟨V', hV', q, r, hq⟩ := pF P t ht k
  have hpos := eQ hP t ht
  obtain rfl : V = V' := Nat.eq_of_mul_eq_mul_left hpos (hV.symm.trans hV')
  have h3 : d ∣ k * lu P (t + 1) ^ (k - 1) := by
    have : d ∣ V + lu P t * q := Nat.dvd_add h2 (Nat.dvd_mul_right_of_dvd h1 q)
    rw [hq] at this
    exact (Nat.dvd_add_left (Nat.dvd_mul_right_of_dvd h1 r)).mp this
  have hc : Nat.Coprime d (lu P (t + 1) ^ (k - 1)) := by
    apply Nat.Coprime.pow_right
    exact Nat.Coprime.coprime_dvd_left h1 (fQ P t)
  exact hc.dvd_of_dvd_mul_right h3
noncomputable def sI (t a b : Nat) : Bool :=
  decide (1 ≤ a) && decide (1 ≤ b) && decide (t % a = 0) && decide (t % b = 0) && decide (a + b ≤ t) &&
  (List.range t).all fun g => g == 0 || decide (t % g ≠ 0) || decide (a % g = 0) || decide (b % g = 0)
noncomputable def jW (t : Nat) : Nat × Nat := ((List.range (t + 1)).flatMap fun a => (List.range (t + 1)).map fun b => (a, b)).find? (fun x => sI t x.1 x.2) |>.getD (0, 0)
theorem yK : ∀ t, t < 21 → 2 ≤ t → sI t (jW t).1 (jW t).2 = true := by decide +kernel
theorem vL {P : Nat} (hP : 1 ≤ P) {a b : Nat} (ha : 1 ≤ a) (hb : 1 ≤ b) : P * (lu P a * lu P b) ≤ lu P (a + b) := by
  obtain ⟨c, rfl⟩ : ∃ c, b = c + 1 := ⟨b - 1, by exact (Nat.sub_eq_iff_eq_add hb).mp rfl⟩
  rw [show a + (c + 1) = a + c + 1 by exact Eq.refl (a + (c + 1)), iN]
  refine Nat.le_trans ?_ (Nat.le_add_right _ _)
  rw [← Nat.mul_assoc]
  exact Nat.mul_le_mul_right _ (tH a ha)
theorem qM {P t : Nat} (hP : 1 ≤ P) (h2 : 2 ≤ t) (h20 : t ≤ 20) :
    ∃ D, P ≤ D ∧ D ∣ lu P t ∧ ∀ g, g ∣ t → g < t → lu P g * D ∣ lu P t := by
  have hc := yK t (by exact Nat.lt_succ_of_le h20) h2
  generalize (jW t).1 = a at hc
  generalize (jW t).2 = b at hc
  simp only [sI, Bool.and_eq_true, decide_eq_true_eq, List.all_eq_true, List.mem_range, Bool.or_eq_true, beq_iff_eq] at hc
  obtain ⟨⟨⟨⟨⟨ha, hb⟩, hta⟩, htb⟩, hab⟩, hall⟩ := hc
  have da := pH P (Nat.dvd_of_mod_eq_zero hta)
  have db := pH P (Nat.dvd_of_mod_eq_zero htb)
  obtain ⟨D, hD⟩ := Nat.lcm_dvd da db
  have hpa := eQ hP a ha
  have hpb := eQ hP b hb
  have hl : 0 < Nat.lcm (lu P a) (lu P b) := Nat.lcm_pos hpa hpb
  refine ⟨D, ?_, ⟨_, (Nat.mul_comm _ _).trans hD.symm |>.symm⟩, fun g hg hlt => ?_⟩
  · have h1 : P * (lu P a * lu P b) ≤ lu P t := by
      refine Nat.le_trans (vL hP ha hb) ?_
      have := tI hP (m := a + b) (by exact Nat.le_add_right_of_le ha) (t - (a + b))
      rwa [show a + b + (t - (a + b)) = t by exact Nat.add_sub_of_le hab] at this
    have h2 : Nat.lcm (lu P a) (lu P b) ≤ lu P a * lu P b := Nat.le_of_dvd (Nat.mul_pos hpa hpb) (Nat.lcm_dvd_mul _ _)
    have h3 : P * Nat.lcm (lu P a) (lu P b) ≤ Nat.lcm (lu P a) (lu P b) * D := by
      rw [← hD]; exact Nat.le_trans (Nat.mul_le_mul_left _ h2) h1
    rw [Nat.mul_comm] at h3
    exact Nat.le_of_mul_le_mul_left h3 hl
  · have hgpos : g ≠ 0 := by
      rintro rfl
      obtain ⟨k, hk⟩ := hg
      omega
    have hm : t % g = 0 := Nat.mod_eq_zero_of_dvd hg
    rw [hD]
    rcases hall g hlt with ((h | h) | h) | h
    · exact absurd h hgpos
    · exact absurd hm h
    · exact Nat.mul_dvd_mul_right (Nat.dvd_trans (pH P (Nat.dvd_of_mod_eq_zero h)) (Nat.dvd_lcm_left _ _)) D
    · exact Nat.mul_dvd_mul_right (Nat.dvd_trans (pH P (Nat.dvd_of_mod_eq_zero h)) (Nat.dvd_lcm_right _ _)) D
theorem zAe {P t D n : Nat} (hP : 1 ≤ P) (ht : 1 ≤ t) (hn : 1 ≤ n) (hD : D ∣ lu P t) (hg : ∀ g, g ∣ t → g < t → lu P g * D ∣ lu P t) :
    ∃ R, lu P n = lu P t ^ (if n % t = 0 then 1 else 0) * R ∧ Nat.gcd D R ≤ max t n ∧ 1 ≤ R := by
  by_cases h : n % t = 0
  · obtain ⟨k, rfl⟩ := Nat.dvd_of_mod_eq_zero h
    obtain ⟨V, hV, _⟩ := pF P t ht k
    have hk : 1 ≤ k := by
      rcases Nat.eq_zero_or_pos k with rfl | hk
      · simp at hn
      · exact hk
    refine ⟨V, by simpa [h] using hV, ?_, ?_⟩
    · have hd : Nat.gcd D V ∣ k := xD hP ht hV (Nat.dvd_trans (Nat.gcd_dvd_left _ _) hD) (Nat.gcd_dvd_right _ _)
      have h1 := Nat.le_of_dvd hk hd
      have h2 : k ≤ t * k := Nat.le_mul_of_pos_left k ht
      omega
    · have h3 := eQ hP (t * k) hn
      rw [hV] at h3
      rcases Nat.eq_zero_or_pos V with rfl | hv
      · simp at h3
      · exact hv
  · refine ⟨lu P n, by simp [h], ?_, eQ hP n hn⟩
    have hgd : Nat.gcd t n ∣ t := Nat.gcd_dvd_left _ _
    have hgpos : 0 < Nat.gcd t n := Nat.gcd_pos_of_pos_left n ht
    have hlt : Nat.gcd t n < t := by
      rcases Nat.lt_or_ge (Nat.gcd t n) t with h' | h'
      · exact h'
      · have : Nat.gcd t n = t := Nat.le_antisymm (Nat.le_of_dvd ht hgd) h'
        exact absurd (Nat.mod_eq_zero_of_dvd (this ▸ Nat.gcd_dvd_right t n)) h
    obtain ⟨k, hk⟩ := hgd
    have hd1 : Nat.gcd D (lu P n) ∣ lu P (Nat.gcd t n) := by
      rw [← pG P (t + n) t n (Nat.le_refl _)]
      exact Nat.dvd_gcd (Nat.dvd_trans (Nat.gcd_dvd_left _ _) hD) (Nat.gcd_dvd_right _ _)
    obtain ⟨V, hV, _⟩ := pF P (Nat.gcd t n) hgpos k
    have hDV : D ∣ V := by
      have := hg _ (Nat.gcd_dvd_left t n) hlt
      rw [hk] at this
      rw [Nat.gcd_comm, ← hk, Nat.gcd_comm] at this
      have h5 : lu P t = lu P (Nat.gcd t n) * V := by rw [← hV, ← hk]
      rw [h5] at this
      exact Nat.dvd_of_mul_dvd_mul_left (eQ hP _ hgpos) this
    have hdk : Nat.gcd D (lu P n) ∣ k := xD hP hgpos hV hd1 (Nat.dvd_trans (Nat.gcd_dvd_left _ _) hDV)
    have hkpos : 0 < k := by
      rcases Nat.eq_zero_or_pos k with rfl | hk'
      · exact Nat.lt_of_lt_of_eq ht hk
      · exact hk'
    have h1 := Nat.le_of_dvd hkpos hdk
    have h2 : k ≤ t := by
      have := Nat.le_mul_of_pos_left k hgpos
      rw [← hk] at this; exact this
    omega
noncomputable def dK (P : Nat) : List Nat → Nat
  | [] => 1
  | n :: ns => lu P n * dK P ns
noncomputable def fF (t : Nat) : List Nat → Nat
  | [] => 0
  | n :: ns => (if n % t = 0 then 1 else 0) + fF t ns
theorem nD {P t D : Nat} (hP : 1 ≤ P) (ht : 1 ≤ t) (h20 : t ≤ 20) (hD : D ∣ lu P t) (hg : ∀ g, g ∣ t → g < t → lu P g * D ∣ lu P t) :
    ∀ ns : List Nat, (∀ n ∈ ns, 1 ≤ n ∧ n ≤ 20) → ∃ R, dK P ns = lu P t ^ fF t ns * R ∧ Nat.gcd D R ≤ 20 ^ ns.length ∧ 1 ≤ R
  | [], _ => ⟨1, by simp [dK, fF], by simp, Nat.le_refl 1⟩
  | n :: ns, h => by
    obtain ⟨R, h1, h2, h3⟩ := nD hP ht h20 hD hg ns fun m hm => h m (mT hm)
    obtain ⟨hn1, hn2⟩ := h n mH
    obtain ⟨S, k1, k2, k3⟩ := zAe hP ht hn1 hD hg
    refine ⟨S * R, ?_, ?_, Nat.mul_pos k3 h3⟩
    · simp only [dK, fF]
      rw [Nat.pow_add, h1, k1]
      grind
    · refine Nat.le_trans (Nat.le_of_dvd ?_ (Nat.gcd_mul_right_dvd_mul_gcd D S R)) ?_
      · exact Nat.mul_pos (Nat.gcd_pos_of_pos_right _ k3) (Nat.gcd_pos_of_pos_right _ h3)
      · rw [List.length_cons, Nat.pow_succ, Nat.mul_comm]
        exact Nat.mul_le_mul h2 (by omega)
theorem sE {P t : Nat} (hP : 2 ^ 64 ≤ P) (ht : 2 ≤ t) (h20 : t ≤ 20) (ns : List Nat) (hns : ∀ n ∈ ns, 1 ≤ n ∧ n ≤ 20) (hl : ns.length ≤ 10) :
    ∃ R, dK P ns = lu P t ^ fF t ns * R ∧ ¬ lu P t ∣ R ∧ 1 ≤ R := by
  have hP1 : 1 ≤ P := Nat.le_trans (by decide) hP
  obtain ⟨D, d1, d2, d3⟩ := qM hP1 ht h20
  obtain ⟨R, h1, h2, h3⟩ := nD hP1 (by exact Nat.one_le_of_lt ht) h20 d2 d3 ns hns
  refine ⟨R, h1, fun hd => ?_, h3⟩
  have : Nat.gcd D R = D := Nat.gcd_eq_left (Nat.dvd_trans d2 hd)
  rw [this] at h2
  have h4 : 20 ^ ns.length ≤ 20 ^ 10 := Nat.pow_le_pow_right (by decide) hl
  have h5 : 20 ^ 10 < 2 ^ 64 := by decide
  omega
end
section
theorem bE (n : Nat) : (0 : Int) < 2 ^ n := kbt_pos n
theorem oX (r : Int) : ∀ (n : Nat) (x : Int), 0 ≤ x → x < 2 ^ n → Builtin.bitAnd (r * 2 ^ n) x = 0
  | 0, x, h0, h1 => by
    have : x = 0 := by simp at h1; omega
    subst this
    have := PyProof.Rows.bitXor_and (r * 2 ^ 0) 0
    rw [bitXor_zero] at this
    exact bitAnd_zero (r * 2 ^ 0)
  | n + 1, x, h0, h1 => by
    have e : r * 2 ^ (n + 1) = 2 * (r * 2 ^ n) := by rw [Int.pow_succ, ← Int.mul_assoc]; exact Int.mul_comm _ _
    rw [kbt_halves, e]
    have h2 : x / 2 < 2 ^ n := by rw [Int.pow_succ] at h1; omega
    rw [show 2 * (r * 2 ^ n) / 2 = r * 2 ^ n by omega, oX r n (x / 2) (by omega) h2]
    rw [if_neg (by omega)]
    exact Eq.refl (2 * 0 + 0)
theorem qO (r : Int) (n : Nat) (x : Int) (h0 : 0 ≤ x) (h1 : x < 2 ^ n) : Builtin.bitOr (r * 2 ^ n) x = r * 2 ^ n + x := by
  have a := oX r n x h0 h1
  have b := PyProof.Rows.bitXor_and (r * 2 ^ n) x
  have c : Builtin.bitXor (r * 2 ^ n) x = Builtin.bitOr (r * 2 ^ n) x - Builtin.bitAnd (r * 2 ^ n) x := rfl
  omega
theorem wD (u : Int) : Builtin.bitAnd u u = u := by
  have := PyProof.Rows.bitXor_and u u
  rw [PyProof.Rows.bitXor_self] at this
  exact bitAnd_self u
theorem rM : ∀ (n : Nat) (u x : Int), 0 ≤ x → x < 2 ^ n → Builtin.bitAnd (u * 2 ^ n + x) (u * 2 ^ n) = u * 2 ^ n
  | 0, u, x, h0, h1 => by
    have : x = 0 := by simp at h1; omega
    subst this
    rw [Int.add_zero]; exact wD _
  | n + 1, u, x, h0, h1 => by
    have e : u * 2 ^ (n + 1) = 2 * (u * 2 ^ n) := by rw [Int.pow_succ, ← Int.mul_assoc]; exact Int.mul_comm _ _
    have h2 : x / 2 < 2 ^ n := by rw [Int.pow_succ] at h1; omega
    rw [kbt_halves, e]
    rw [show 2 * (u * 2 ^ n) / 2 = u * 2 ^ n by omega, show (2 * (u * 2 ^ n) + x) / 2 = u * 2 ^ n + x / 2 by omega, rM n u (x / 2) (by omega) h2]
    rw [if_neg (by omega)]
    exact Int.add_zero (2 * (u * 2 ^ n))
theorem wE (x : Int) (n : Nat) : Builtin.bitXor x (x.fdiv (2 ^ n) * 2 ^ n) = x.fmod (2 ^ n) := by
  have w := kbt_whole x n
  obtain ⟨r0, r1⟩ := kbt_rest x n
  have a := rM n (x.fdiv (2 ^ n)) (x.fmod (2 ^ n)) r0 r1
  rw [w] at a
  rw [PyProof.Rows.bitXor_and, a]
  walk_at "o"
theorem dA {a b q r : Int} (hb : 0 < b) (h : q * b + r = a) (h0 : 0 ≤ r) (h1 : r < b) : a.fdiv b = q ∧ a.fmod b = r := by
  have := kbt_unique hb (by rw [Int.mul_comm b q]; omega : r + b * q = a) h0 h1
  rw [Int.fdiv_eq_ediv_of_nonneg _ (by exact Int.le_of_lt hb), Int.fmod_eq_emod_of_nonneg _ (by exact Int.le_of_lt hb)]
  exact this
theorem aM (a : Int) {b : Int} (hb : 0 < b) : a.fdiv b * b + a.fmod b = a ∧ 0 ≤ a.fmod b ∧ a.fmod b < b := by
  rw [Int.fdiv_eq_ediv_of_nonneg _ (by exact Int.le_of_lt hb), Int.fmod_eq_emod_of_nonneg _ (by exact Int.le_of_lt hb)]
  refine ⟨?_, Int.emod_nonneg _ (by exact Ne.symm (Int.ne_of_lt hb)), Int.emod_lt_of_pos _ hb⟩
  rw [Int.mul_comm]; exact Int.mul_ediv_add_emod a b
theorem bG {a b : Int} (ha : 0 ≤ a) (hb : 0 < b) : 0 ≤ a.fdiv b := by
  rw [Int.fdiv_eq_ediv_of_nonneg _ (by exact Int.le_of_lt hb)]; exact Int.ediv_nonneg ha (by exact Int.le_of_lt hb)
theorem eS {a b c : Int} (hb : 0 < b) (h : a < b * c) : a.fdiv b < c := by
  rw [Int.fdiv_eq_ediv_of_nonneg _ (by exact Int.le_of_lt hb)]
  exact Int.ediv_lt_of_lt_mul hb (by rwa [Int.mul_comm])
theorem xJ {a b c : Int} (hb : 0 < b) (h : c * b ≤ a) : c ≤ a.fdiv b := by
  rw [Int.fdiv_eq_ediv_of_nonneg _ (by exact Int.le_of_lt hb)]
  exact Int.le_ediv_of_mul_le hb h
theorem vZ {a12 a3 b b1 b2 q r B : Int} (hB : 0 < B) (hb : b = b1 * B + b2) (hb2 : 0 ≤ b2) (h3 : 0 ≤ a3 ∧ a3 < B) (h12 : a12 < b)
    (h : (q = B - 1 ∧ r = a12 - b1 * B + b1 ∧ b1 * B ≤ a12) ∨ (q * b1 + r = a12 ∧ 0 ≤ r ∧ r < b1 ∧ 0 ≤ q)) :
    q * b + (r * B + a3 - q * b2) = a12 * B + a3 ∧ r * B + a3 - q * b2 < b := by
  subst hb
  rcases h with ⟨rfl, rfl, h⟩ | ⟨h1, h2, h4, h5⟩
  · constructor
    · grind
    · have : a12 * B + a3 < (b1 * B + b2) * B := by
        have : a12 + 1 ≤ b1 * B + b2 := by exact h12
        have := Int.mul_le_mul_of_nonneg_right this (Int.le_of_lt hB)
        grind
      grind
  · constructor
    · grind
    · have k1 : r * B + B ≤ b1 * B := by
        have : r + 1 ≤ b1 := by exact h4
        have := Int.mul_le_mul_of_nonneg_right this (Int.le_of_lt hB)
        grind
      have k2 : 0 ≤ q * b2 := Int.mul_nonneg h5 hb2
      omega
theorem yJ {a b B A2 A1 A0 q1 r q2 r2 : Int} (hB : 0 < B) (hb : 0 < b) (ha : a = (A2 * B + A1) * B + A0) (hA0 : 0 ≤ A0 ∧ A0 < B)
    (h1 : q1 * b + r = A2 * B + A1) (hr : 0 ≤ r ∧ r < b) (h2 : q2 * b + r2 = r * B + A0) (hr2 : 0 ≤ r2 ∧ r2 < b) :
    (q1 * B + q2) * b + r2 = a ∧ 0 ≤ q2 ∧ q2 < B := by
  subst ha
  refine ⟨by grind, ?_, ?_⟩
  · have k : -b < q2 * b := by
      have : 0 ≤ r * B := Int.mul_nonneg hr.1 (Int.le_of_lt hB)
      omega
    have : -1 < q2 := by
      rcases (by exact Int.lt_or_le (-1) q2 : -1 < q2 ∨ q2 ≤ -1) with h | h
      · exact h
      · have := Int.mul_le_mul_of_nonneg_right h (Int.le_of_lt hb)
        (exfalso; walk_at "o")
    exact this
  · have k : q2 * b < B * b := by
      have : r + 1 ≤ b := by omega
      have := Int.mul_le_mul_of_nonneg_right this (Int.le_of_lt hB)
      grind
    exact Int.lt_of_mul_lt_mul_right k (Int.le_of_lt hb)
theorem zAu (a : Int) {b : Int} (hb : 0 < b) (k : Nat) : (a * 2 ^ k).fdiv (b * 2 ^ k) = a.fdiv b ∧ ((a * 2 ^ k).fmod (b * 2 ^ k)).fdiv (2 ^ k) = a.fmod b := by
  refine bZ (aM a hb) fun h1 h2 h3 => ?_
  have hp := bE k
  have := dA (a := a * 2 ^ k) (b := b * 2 ^ k) (q := a.fdiv b) (r := a.fmod b * 2 ^ k) (Int.mul_pos hb hp) (by
    have : a * 2 ^ k = (a.fdiv b * b + a.fmod b) * 2 ^ k := by rw [h1]
    rw [this]; grind) (Int.mul_nonneg h2 (Int.le_of_lt hp)) (Int.mul_lt_mul_of_pos_right h3 hp)
  rw [this.1, this.2]
  exact ⟨rfl, kbt_q1 _ _⟩
end
section
noncomputable def dig (n : Nat) (x : Int) : Nat → List Int
  | 0 => []
  | k + 1 => x.fmod (2 ^ n) :: dig n (x.fdiv (2 ^ n)) k
theorem cK (n : Nat) : ∀ (k : Nat) (x : Int), (dig n x k).length = k
  | 0, _ => rfl
  | k + 1, x => by simp [dig, cK n k]
theorem pM (x : Int) (a b : Nat) : (x.fdiv (2 ^ a)).fdiv (2 ^ b) = x.fdiv (2 ^ (a + b)) := by
  have ha := bE a
  have hb := bE b
  have hab := bE (a + b)
  rw [Int.fdiv_eq_ediv_of_nonneg _ (Int.le_of_lt ha), Int.fdiv_eq_ediv_of_nonneg _ (Int.le_of_lt hb), Int.fdiv_eq_ediv_of_nonneg _ (Int.le_of_lt hab), Int.pow_add]
  exact Int.ediv_ediv_of_nonneg (Int.le_of_lt ha)
theorem lJ (n : Nat) : ∀ (a b : Nat) (x : Int), dig n x (a + b) = dig n x a ++ dig n (x.fdiv (2 ^ (n * a))) b
  | 0, b, x => by simp [dig]
  | a + 1, b, x => by
    rw [show a + 1 + b = (a + b) + 1 by exact Nat.add_right_comm a 1 b]
    show _ :: dig n (x.fdiv (2 ^ n)) (a + b) = (_ :: dig n (x.fdiv (2 ^ n)) a) ++ _
    rw [lJ n a b, pM, show n * (a + 1) = n + n * a by rw [Nat.mul_add]; omega]
    rfl
theorem uA (n : Nat) : ∀ (a : Nat) (x y : Int), dig n (x * 2 ^ (n * a) + y) a = dig n y a
  | 0, x, y => rfl
  | a + 1, x, y => by
    have hn := bE n
    have e : x * 2 ^ (n * (a + 1)) + y = (x * 2 ^ (n * a)) * 2 ^ n + y := by
      rw [show n * (a + 1) = n * a + n by rw [Nat.mul_add]; omega, Int.pow_add, Int.mul_assoc]
    have h1 : ((x * 2 ^ (n * a)) * 2 ^ n + y).fmod (2 ^ n) = y.fmod (2 ^ n) := by
      rw [Int.fmod_eq_emod_of_nonneg _ (Int.le_of_lt hn), Int.fmod_eq_emod_of_nonneg _ (Int.le_of_lt hn), Int.add_comm, Int.add_mul_emod_self_right]
    have h2 : ((x * 2 ^ (n * a)) * 2 ^ n + y).fdiv (2 ^ n) = x * 2 ^ (n * a) + y.fdiv (2 ^ n) := by
      rw [Int.fdiv_eq_ediv_of_nonneg _ (Int.le_of_lt hn), Int.fdiv_eq_ediv_of_nonneg _ (Int.le_of_lt hn), Int.add_comm, Int.add_mul_ediv_right _ _ (by exact Ne.symm (Int.ne_of_lt hn)), Int.add_comm]
    show _ :: dig n ((x * 2 ^ (n * (a + 1)) + y).fdiv (2 ^ n)) a = _ :: _
    rw [e, h1, h2, uA n a]
theorem zBa (n a : Nat) (x : Int) : dig n (x.fmod (2 ^ (n * a))) a = dig n x a := by
  have := uA n a (x.fdiv (2 ^ (n * a))) (x.fmod (2 ^ (n * a)))
  rw [(aM x (bE (n * a))).1] at this
  exact this.symm
theorem zAz (n : Nat) {x : Int} (h0 : 0 ≤ x) (h1 : x < 2 ^ n) : dig n x 1 = [x] := by
  show [x.fmod (2 ^ n)] = _
  rw [Int.fmod_eq_emod_of_nonneg _ (Int.le_of_lt (bE n)), Int.emod_eq_of_lt h0 h1]
noncomputable def und (n : Nat) : List Int → Int
  | [] => 0
  | d :: ds => d + und n ds * 2 ^ n
theorem kA (n : Nat) : ∀ (a b : List Int), und n (a ++ b) = und n a + und n b * 2 ^ (n * a.length)
  | [], b => by simp [und]
  | d :: a, b => by
    show d + und n (a ++ b) * 2 ^ n = (d + und n a * 2 ^ n) + _
    rw [kA n a b, List.length_cons, show n * (a.length + 1) = n * a.length + n by rw [Nat.mul_add]; omega, Int.pow_add]
    rw [Int.add_mul, Int.mul_assoc, Int.add_assoc]
theorem wJ (n : Nat) : ∀ (a : List Int), (∀ d ∈ a, 0 ≤ d ∧ d < 2 ^ n) → 0 ≤ und n a ∧ und n a < 2 ^ (n * a.length)
  | [], _ => by simp [und]
  | d :: a, h => by
    obtain ⟨h1, h2⟩ := wJ n a fun x hx => h x (mT hx)
    obtain ⟨h3, h4⟩ := h d mH
    have hn := bE n
    show 0 ≤ d + und n a * 2 ^ n ∧ d + und n a * 2 ^ n < _
    rw [List.length_cons, show n * (a.length + 1) = n * a.length + n by rw [Nat.mul_add]; omega, Int.pow_add]
    have := Int.mul_nonneg h1 (Int.le_of_lt hn)
    have h5 := Int.mul_le_mul_of_nonneg_right (show und n a + 1 ≤ 2 ^ (n * a.length) by exact h2) (Int.le_of_lt hn)
    rw [Int.add_mul] at h5
    omega
theorem oN (n : Nat) : ∀ (k : Nat) (x : Int), ∀ d ∈ dig n x k, 0 ≤ d ∧ d < 2 ^ n
  | 0, _, d, h => by cases h
  | k + 1, x, d, h => by
    rcases mC h with rfl | h
    · exact (aM x (bE n)).2
    · exact oN n k _ d h
theorem sU (n : Nat) : ∀ (k : Nat) {x : Int}, 0 ≤ x → x < 2 ^ (n * k) → und n (dig n x k) = x
  | 0, x, h0, h1 => by
    simp at h1
    show (0 : Int) = x
    omega
  | k + 1, x, h0, h1 => by
    have hn := bE n
    show x.fmod (2 ^ n) + und n (dig n (x.fdiv (2 ^ n)) k) * 2 ^ n = x
    rw [sU n k (bG h0 hn) (eS hn (by rw [← Int.pow_add, show n + n * k = n * (k + 1) by rw [Nat.mul_add]; omega]; exact h1))]
    have := (aM x hn).1
    exact Int.fmod_add_fdiv_mul x (2 ^ n)
end
theorem cps {G : Prop} (h : ∀ P : Prop, (G → P) → P) : G := h G id
section
inductive PV where
  | none
  | bool (b : Bool)
  | int (i : Int)
  | str (s : Str)
  | tup (l : List PV)
  | lst (l : List PV)
  | rng (a b c : Int)
  | fn (v : Value)
  | sem (P : Heap → Value → Prop)
  | mlst (l : List PV)
  | mute (P : Obj → Prop)
noncomputable def PV.imm : PV → Bool
  | .mlst _ => false
  | .mute _ => false
  | _ => true
mutual
inductive Rep (X : List Addr) (h : Heap) : Value → PV → Prop where
  | none : Rep X h .none .none
  | bool (b : Bool) : Rep X h (.bool b) (.bool b)
  | int (i : Int) (t : Tok) : Rep X h (.int i t) (.int i)
  | str (x : Str) (t : Tok) : Rep X h (.str x t) (.str x)
  | tup {a : Addr} {vs : Array Value} {n : Nat} {l : List PV} : a ∉ X → h.get? a = some { cls := .type "tuple", data := .seq vs n } → aD X h vs.toList l → Rep X h (.ref a) (.tup l)
  | lst {a : Addr} {vs : Array Value} {n : Nat} {l : List PV} : a ∉ X → h.get? a = some { cls := .type "list", data := .seq vs n } → aD X h vs.toList l → Rep X h (.ref a) (.lst l)
  | rng {r : Addr} {a b c : Int} {t u v : Tok} : r ∉ X → IsRange h r a b c t u v → Rep X h (.ref r) (.rng a b c)
  | fn (v : Value) : Rep X h v (.fn v)
  | sem {v : Value} {P : Heap → Value → Prop} : (∀ h', (∀ b o, b ∉ X → h.get? b = some o → h'.get? b = some o) → P h' v) → Rep X h v (.sem P)
inductive aD (X : List Addr) (h : Heap) : List Value → List PV → Prop where
  | nil : aD X h [] []
  | cons {v : Value} {p : PV} {vs : List Value} {ps : List PV} : Rep X h v p → aD X h vs ps → aD X h (v :: vs) (p :: ps)
end
theorem Rep.shift {X Y : List Addr} {h h' : Heap} (k : ∀ a o, a ∉ X → h.get? a = some o → a ∉ Y ∧ h'.get? a = some o) {v : Value} {p : PV} (r : Rep X h v p) : Rep Y h' v p :=
  Rep.rec (motive_1 := fun v p _ => Rep Y h' v p) (motive_2 := fun vs ps _ => aD Y h' vs ps) .none .bool .int .str (fun x e _ q => .tup (k _ _ x e).1 (k _ _ x e).2 q) (fun x e _ q => .lst (k _ _ x e).1 (k _ _ x e).2 q) (fun x e => .rng (k _ _ x e).1 (k _ _ x e).2) .fn
    (fun p => .sem fun h2 k2 => p h2 fun b o hb e => k2 b o (k b o hb e).1 (k b o hb e).2) .nil (fun _ _ a b => .cons a b) r
theorem aD.ind {X : List Addr} {h : Heap} {P : List Value → List PV → Prop} (n : P [] []) (c : ∀ {v p vs ps}, Rep X h v p → aD X h vs ps → P vs ps → P (v :: vs) (p :: ps)) {vs : List Value} {ps : List PV} (r : aD X h vs ps) : P vs ps :=
  aD.rec (motive_1 := fun _ _ _ => True) (motive_2 := fun vs ps _ => P vs ps) trivial (fun _ => trivial) (fun _ _ => trivial) (fun _ _ => trivial) (fun _ _ _ _ => trivial) (fun _ _ _ _ => trivial) (fun _ _ => trivial) (fun _ => trivial) (fun _ => trivial) n (fun a r _ b => c a r b) r
theorem aD.shift {X Y : List Addr} {h h' : Heap} (k : ∀ a o, a ∉ X → h.get? a = some o → a ∉ Y ∧ h'.get? a = some o) {vs : List Value} {ps : List PV} (r : aD X h vs ps) : aD Y h' vs ps :=
  r.ind .nil fun a _ b => .cons (a.shift k) b
theorem Rep.mono {X : List Addr} {h h' : Heap} (k : ∀ b o, b ∉ X → h.get? b = some o → h'.get? b = some o) {v : Value} {p : PV} (r : Rep X h v p) : Rep X h' v p := r.shift fun a o x e => ⟨x, k a o x e⟩
theorem aD.mono {X : List Addr} {h h' : Heap} (k : ∀ b o, b ∉ X → h.get? b = some o → h'.get? b = some o) {vs : List Value} {ps : List PV} (r : aD X h vs ps) : aD X h' vs ps := r.shift fun a o x e => ⟨x, k a o x e⟩
theorem zIr {X Y : List Addr} {h : Heap} (k : ∀ a ∈ Y, a ∈ X ∨ h.get? a = none) (a : Addr) (o : Obj) (x : a ∉ X) (e : h.get? a = some o) : a ∉ Y ∧ h.get? a = some o :=
  ⟨fun hy => (k _ hy).elim x fun z => (nomatch z.symm.trans e), e⟩
theorem Rep.rehide {X Y : List Addr} {h : Heap} (k : ∀ a ∈ Y, a ∈ X ∨ h.get? a = Option.none) {v : Value} {p : PV} (r : Rep X h v p) : Rep Y h v p := r.shift (zIr k)
theorem aD.rehide {X Y : List Addr} {h : Heap} (k : ∀ a ∈ Y, a ∈ X ∨ h.get? a = none) {vs : List Value} {ps : List PV} (r : aD X h vs ps) : aD Y h vs ps := r.shift (zIr k)
section
variable {X : List Addr} {h : Heap}
theorem aD.length {vs : List Value} {ps : List PV} (r : aD X h vs ps) : vs.length = ps.length :=
  r.ind (P := fun vs ps => vs.length = ps.length) rfl fun _ _ e => congrArg Nat.succ e
theorem aD.get {vs : List Value} {ps : List PV} (r : aD X h vs ps) : ∀ (i : Nat) (v : Value), vs[i]? = some v → ∃ p, ps[i]? = some p ∧ Rep X h v p :=
  r.ind (P := fun vs ps => ∀ (i : Nat) (v : Value), vs[i]? = some v → ∃ p, ps[i]? = some p ∧ Rep X h v p) (fun _ _ e => nomatch e) fun a _ ih i v e => by
    cases i with
    | zero => cases e; exact ⟨_, rfl, a⟩
    | succ i => exact ih i v e
theorem aD.at {vs : List Value} {ps : List PV} (r : aD X h vs ps) : ∀ (i : Nat) (p : PV) (_ : ps[i]? = some p), ∃ v, vs[i]? = some v ∧ Rep X h v p :=
  r.ind (P := fun vs ps => ∀ (i : Nat) (p : PV) (_ : ps[i]? = some p), ∃ v, vs[i]? = some v ∧ Rep X h v p) (fun _ _ e => nomatch e) fun a _ ih i p e => by
    cases i with
    | zero => cases e; exact ⟨_, rfl, a⟩
    | succ i => exact ih i p e
theorem aD.append {vs ws : List Value} {ps qs : List PV} (r : aD X h vs ps) (t : aD X h ws qs) : aD X h (vs ++ ws) (ps ++ qs) :=
  r.ind (P := fun vs ps => aD X h (vs ++ ws) (ps ++ qs)) t fun a _ ih => .cons a ih
theorem aD.set {vs : List Value} {ps : List PV} (r : aD X h vs ps) (i : Nat) {v : Value} {p : PV} (t : Rep X h v p) : aD X h (vs.set i v) (ps.set i p) :=
  r.ind (P := fun vs ps => ∀ i, aD X h (vs.set i v) (ps.set i p)) (fun _ => .nil) (fun a b ih i => by cases i with
    | zero => exact .cons t b
    | succ i => exact .cons a (ih i)) i
end
structure Hd where
  μ : Option Addr
  X : List Addr
noncomputable abbrev Hd.hid (H : Hd) : List Addr := H.μ.toList ++ H.X
structure Cx where
  prog : Program
  w : World
  tabs : List Addr
  TI : Heap → Prop
  hB : Heap
  mg : Str → Option Value
  mb : Str → Option Value
  tk0 : Nat
noncomputable abbrev Cx.M (C : Cx) : Model := model C.prog C.w
noncomputable def aB (o : Obj) : Prop := ∃ vs q t, o.data = .fields vs ∧ vs[1]? = some (Value.str q t)
structure dG (C : Cx) : Prop where
  g : C.hB.Ns mainGlobals C.mg
  b : C.hB.Ns builtinsNs C.mb
  nolimit : C.hB.NoLimit
  gT : mainGlobals ∉ C.tabs
  bT : builtinsNs ∉ C.tabs
  sT : cStatics ∉ C.tabs
  ti : ∀ h h' : Heap, C.TI h → (∀ b o, h.get? b = some o → (b ∈ C.tabs ∨ aB o) → h'.get? b = some o) → C.TI h'
  tk : 0 < C.tk0
  tabIs : ∀ h : Heap, C.TI h → ∀ b ∈ C.tabs, ∃ o vs, h.get? b = some o ∧ o.data = .fields vs ∧ o.cls = .none ∧ ¬ aB o
structure Gr (C : Cx) (X : List Addr) (s s' : Shared) : Prop where
  keep : ∀ b o, b ∉ C.tabs → b ∉ X → s.heap.get? b = some o → s'.heap.get? b = some o
  tab : C.TI s.heap → C.TI s'.heap
  gens : ∃ l : Array GenState, s'.gens = s.gens ++ l ∧ ∀ x ∈ l, x.bare = true
  os : s'.os = s.os
  toks : s.toks ≤ s'.toks
theorem Gr.refl (C : Cx) (X : List Addr) (s : Shared) : Gr C X s s := ⟨fun _ _ _ _ e => e, fun x => x, ⟨#[], by simp, by simp⟩, rfl, Nat.le_refl _⟩
theorem Gr.then {C : Cx} {X Y : List Addr} {s s' s'' : Shared} (a : Gr C X s s') (b : Gr C Y s' s'') (hY : ∀ y ∈ Y, y ∈ X ∨ s.heap.get? y = none) : Gr C X s s'' :=
  ⟨fun x o ht hx e => b.keep x o ht (fun hy => (hY x hy).elim hx fun z => by rw [e] at z; cases z) (a.keep x o ht hx e), fun x => b.tab (a.tab x), by
    refine aI a.gens fun n hn hn' => ?_
    refine aI b.gens fun m hm hm' => ?_
    exact ⟨n ++ m, by rw [hm, hn, Array.append_assoc], fun x hx => (Array.mem_append.mp hx).elim (hn' x) (hm' x)⟩, b.os.trans a.os, Nat.le_trans a.toks b.toks⟩
theorem Gr.trans {C : Cx} {X : List Addr} {s s' s'' : Shared} (a : Gr C X s s') (b : Gr C X s' s'') : Gr C X s s'' := a.then b fun y h => .inl h
theorem Gr.wider {C : Cx} {X Y : List Addr} {s s' : Shared} (a : Gr C X s s') (h : ∀ x ∈ X, x ∈ Y) : Gr C Y s s' :=
  ⟨fun x o ht hx e => a.keep x o ht (fun q => hx (h x q)) e, a.tab, a.gens, a.os, a.toks⟩
theorem Gr.plain {C : Cx} {X : List Addr} {s s' : Shared} (a : Gr C [] s s') : Gr C X s s' := a.wider (fun x h => by cases h)
noncomputable def zA (C : Cx) (X : List Addr) (h : Heap) : Prop := ∀ x ∈ X, x ∉ C.tabs ∧ ∀ o, h.get? x = some o → ¬ aB o
theorem Gr.but {C : Cx} (K : dG C) {X : List Addr} {s : Shared} {h' : Heap} {tk : Nat} (hX : zA C X s.heap) (k : ∀ b o, b ∉ X → s.heap.get? b = some o → h'.get? b = some o) (ht : s.toks ≤ tk := by omega) :
    Gr C X s { s with heap := h', toks := tk } :=
  ⟨fun b o _ hx e => k b o hx e, fun x => K.ti _ _ x fun b o e q => k b o (fun hb => by
    obtain ⟨h1, h2⟩ := hX b hb
    rcases q with q | q
    · exact h1 q
    · exact h2 o e q) e, ⟨#[], by simp, by simp⟩, rfl, ht⟩
theorem Gr.of {C : Cx} (K : dG C) {X : List Addr} {s : Shared} {h' : Heap} {tk : Nat} (k : ∀ b o, s.heap.get? b = some o → h'.get? b = some o) (ht : s.toks ≤ tk := by omega) : Gr C X s { s with heap := h', toks := tk } :=
  (Gr.but K (X := []) (fun x h => by cases h) (fun b o _ e => k b o e) ht).plain
theorem Gr.toks' {C : Cx} {X : List Addr} {s : Shared} {tk : Nat} (ht : s.toks ≤ tk := by omega) : Gr C X s { s with toks := tk } := ⟨fun _ _ _ _ e => e, fun x => x, ⟨#[], by simp, by simp⟩, rfl, ht⟩
theorem Gr.push {C : Cx} (K : dG C) {X : List Addr} {s : Shared} {o : Obj} {tk : Nat} (ht : s.toks ≤ tk := by omega) : Gr C X s { s with heap := s.heap.push o, toks := tk } :=
  Gr.of K (fun _ _ e => Heap.get?_push_of_some o e) ht
noncomputable def YG (C : Cx) (A : Around) (X : List Addr) (s : Shared) {α : Type} (t : Sem α) (R : α → Shared → Prop) : Prop :=
  ∀ (Q : α → Shared → Prop) (E : Value → Shared → Prop), (∀ a s', Gr C X s s' → R a s' → Q a s') → wpAny C.M A t Q E s
section
variable {C : Cx} {A : Around} {X : List Addr} {s : Shared} {α β : Type}
theorem YG.mono {t : Sem α} {R R' : α → Shared → Prop} (h : YG C A X s t R) (k : ∀ a s', Gr C X s s' → R a s' → R' a s') : YG C A X s t R' := fun Q E q => h Q E fun a s' g r => q a s' g (k a s' g r)
theorem YG.ofToks {t : Sem α} {R : α → Shared → Prop} (h : ∀ (Q : α → Shared → Prop) (E : Value → Shared → Prop), (∀ a s', (s.toks ≤ s'.toks → Gr C X s s') → R a s' → Q a s') → wpAny C.M A t Q E s) : YG C A X s t R := fun Q E q =>
  wpAny_mono (wpAny_toks (h (fun a s' => s.toks ≤ s'.toks → Q a s') E fun a s' g r ht => q a s' (g ht) r)) (fun a s' z => z.2 z.1) (fun _ _ z => z.2)
end
structure bO (C : Cx) (H : Hd) (h : Heap) : Prop where
  there : ∀ a ∈ H.hid, (h.get? a).isSome
  tabs : ∀ a ∈ C.tabs, a ∈ H.X
  μB : ∀ a, H.μ = some a → C.hB.get? a = none ∧ a ∉ H.X
  nc : ∀ a ∈ H.hid, ∀ o, h.get? a = some o → ¬ aB o
theorem bO.μC {C : Cx} {H : Hd} {h : Heap} (O : bO C H h) : ∀ a o, H.μ = some a → h.get? a = some o → ¬ aB o := fun a o hm e => O.nc a (by simp [Hd.hid, hm]) o e
theorem aS {h : Heap} {a : Addr} {m : Str → Option Value} {o : Obj} (n : h.Ns a m) (e : h.get? a = some o) : ¬ aB o := fun hc => by
  refine eM n fun o' es ep e' d _ => ?_; clear n
  rw [e] at e'; cases e'
  refine bH hc fun vs _ _ hv _ => ?_; clear hc
  rw [d] at hv; cases hv
theorem gR {h : Heap} {a : Addr} {v : Option Value} {o : Obj} (n : h.IsCell a v) (e : h.get? a = some o) : ¬ aB o := fun hc => by
  refine aI n fun o' e' d => ?_; clear n
  rw [e] at e'; cases e'
  refine bH hc fun vs _ _ hv _ => ?_; clear hc
  rw [d] at hv; cases hv
structure Inv (C : Cx) (H : Hd) (s : Shared) : Prop where
  ok : dG C
  keep : ∀ b o, b ∉ C.tabs → C.hB.get? b = some o → s.heap.get? b = some o
  tab : C.TI s.heap
  hid : bO C H s.heap
  tk : C.tk0 ≤ s.toks
theorem bO.gr0 {C : Cx} (K : dG C) {H : Hd} {s s' : Shared} (T : C.TI s.heap) (O : bO C H s.heap) (g : Gr C [] s s') : bO C H s'.heap :=
  ⟨fun a ha => by
    by_cases ht : a ∈ C.tabs
    · refine cA (K.tabIs _ (g.tab T) a ht) fun o vs e _ => ?_
      rw [e]; rfl
    · obtain ⟨o, e⟩ := iS (O.there a ha)
      rw [g.keep a o ht (by simp) e]; rfl, O.tabs, O.μB, fun a ha o e => by
    by_cases ht : a ∈ C.tabs
    · refine jN (K.tabIs _ (g.tab T) a ht) fun o' vs e' _ _ hn => ?_
      rw [e] at e'; cases e'
      exact hn
    · obtain ⟨o', e'⟩ := iS (O.there a ha)
      have := g.keep a o' ht (by simp) e'
      rw [e] at this; cases this
      exact O.nc a ha o e'⟩
theorem jS {C : Cx} {H : Hd} {Y : List Addr} {s s' : Shared} (I : Inv C H s) (g : Gr C Y s s') {a : Addr} (ha : a ∈ H.hid) (hY : a ∉ Y) {o : Obj} (e : s'.heap.get? a = some o) : ¬ aB o := by
  by_cases ht : a ∈ C.tabs
  · refine jN (I.ok.tabIs _ (g.tab I.tab) a ht) fun o' vs e' _ _ hn => ?_
    rw [e] at e'; cases e'
    exact hn
  · obtain ⟨o', e'⟩ := iS (I.hid.there a ha)
    have := g.keep a o' ht hY e'
    rw [e] at this; cases this
    exact I.hid.nc a ha o e'
theorem Inv.gr0 {C : Cx} {H : Hd} {s s' : Shared} (I : Inv C H s) (g : Gr C [] s s') : Inv C H s' :=
  ⟨I.ok, fun b o ht e => g.keep b o ht (by simp) (I.keep b o ht e), g.tab I.tab, I.hid.gr0 I.ok I.tab g, Nat.le_trans I.tk g.toks⟩
theorem Inv.gr {C : Cx} {H H' : Hd} {Y : List Addr} {s s' : Shared} (I : Inv C H s) (g : Gr C Y s s') (hY : ∀ x ∈ Y, C.hB.get? x = none) (hO : bO C H' s'.heap) : Inv C H' s' :=
  ⟨I.ok, fun b o ht e => g.keep b o ht (fun hb => by rw [hY b hb] at e; cases e) (I.keep b o ht e), g.tab I.tab, hO, Nat.le_trans I.tk g.toks⟩
theorem Inv.ns {C : Cx} {H : Hd} {s : Shared} (I : Inv C H s) {a : Addr} {m : Str → Option Value} (ha : a ∉ C.tabs) (h : C.hB.Ns a m) : s.heap.Ns a m := by
  refine bH h fun o es ep e r => ?_; clear h
  exact ⟨o, es, ep, I.keep _ _ ha e, r⟩
theorem Inv.nolimit {C : Cx} {H : Hd} {s : Shared} (I : Inv C H s) : s.heap.NoLimit := by
  refine aI I.ok.nolimit fun mc h e => ?_
  exact ⟨mc, I.ns I.ok.sT h, e⟩
theorem Inv.fresh {C : Cx} {H : Hd} {s : Shared} (I : Inv C H s) {a : Addr} (ha : s.heap.objs.size ≤ a) : a ∉ H.hid := fun hh => by
  obtain ⟨o, e⟩ := iS (I.hid.there a hh)
  exact absurd (Heap.lt_size e) (Nat.not_lt.mpr ha)
theorem Inv.tabH {C : Cx} {H : Hd} {s : Shared} (I : Inv C H s) : ∀ b, b ∉ H.hid → b ∉ C.tabs := fun b hb ht => hb (mR (I.hid.tabs b ht))
theorem Rep.gr {C : Cx} {X Y : List Addr} {s s' : Shared} (hT : ∀ b ∈ C.tabs, b ∈ X) (g : Gr C Y s s') (hY : ∀ x ∈ Y, x ∈ X) {v : Value} {p : PV} (r : Rep X s.heap v p) : Rep X s'.heap v p :=
  r.mono fun b o hb e => g.keep b o (fun ht => hb (hT b ht)) (fun hy => hb (hY b hy)) e
theorem aD.gr {C : Cx} {X Y : List Addr} {s s' : Shared} (hT : ∀ b ∈ C.tabs, b ∈ X) (g : Gr C Y s s') (hY : ∀ x ∈ Y, x ∈ X) {v : List Value} {p : List PV} (r : aD X s.heap v p) : aD X s'.heap v p :=
  r.mono fun b o hb e => g.keep b o (fun ht => hb (hT b ht)) (fun hy => hb (hY b hy)) e
theorem Inv.tabs {C : Cx} {H : Hd} {s : Shared} (I : Inv C H s) : ∀ b ∈ C.tabs, b ∈ H.hid := fun b ht => mR (I.hid.tabs b ht)
theorem Rep.gr0 {C : Cx} {H : Hd} {s s' : Shared} (I : Inv C H s) (g : Gr C [] s s') {v : Value} {p : PV} (r : Rep H.hid s.heap v p) : Rep H.hid s'.heap v p := r.gr I.tabs g (fun x h => by cases h)
theorem aD.gr0 {C : Cx} {H : Hd} {s s' : Shared} (I : Inv C H s) (g : Gr C [] s s') {v : List Value} {p : List PV} (r : aD H.hid s.heap v p) : aD H.hid s'.heap v p := r.gr I.tabs g (fun x h => by cases h)
noncomputable def cO (C : Cx) (env : Env) (h : Heap) (x : Str) (v : Value) : Prop :=
  (env.kindOf x = some .local ∧ ∃ m, h.Ns env.locals m ∧ m x = some v) ∨
  ((env.kindOf x = some .cell ∨ env.kindOf x = some .free ∧ (x == ("__classdict__" : Str)) = false) ∧ ∃ c, env.cells.lookup x = some c ∧ h.IsCell c (some v)) ∨
  (env.kindOf x = some .globalImplicit ∧ (C.mg x = some v ∨ (C.mg x = none ∧ C.mb x = some v)))
noncomputable abbrev Vars := List (Str × PV)
inductive bD (H : Hd) (h : Heap) : Value → PV → Prop where
  | imm {v : Value} {p : PV} : Rep H.hid h v p → bD H h v p
  | mlst {a : Addr} {vs : Array Value} {n : Nat} {l : List PV} : H.μ = some a → h.get? a = some { cls := .type "list", data := .seq vs n } → aD H.hid h vs.toList l → bD H h (.ref a) (.mlst l)
  | mute {a : Addr} {o : Obj} {P : Obj → Prop} : H.μ = some a → h.get? a = some o → P o → bD H h (.ref a) (.mute P)
theorem bD.is {H : Hd} {h : Heap} {v : Value} {p : PV} (r : bD H h v p) (hp : p.imm = true) : Rep H.hid h v p := by
  cases r with
  | imm r => exact r
  | mlst => cases hp
  | mute => cases hp
theorem bD.gr {C : Cx} {H : Hd} {s s' : Shared} (I : Inv C H s) {Y : List Addr} (g : Gr C Y s s') (hY : ∀ x ∈ Y, x ∈ H.X) {v : Value} {p : PV} (r : bD H s.heap v p) : bD H s'.heap v p := by
  have hY' : ∀ x ∈ Y, x ∈ H.hid := fun x hx => mR (hY x hx)
  cases r with
  | imm r => exact .imm (r.gr I.tabs g hY')
  | mlst hm e r => exact .mlst hm (g.keep _ _ (fun ht => (I.hid.μB _ hm).2 (I.hid.tabs _ ht)) (fun hy => (I.hid.μB _ hm).2 (hY _ hy)) e) (r.gr I.tabs g hY')
  | mute hm e r => exact .mute hm (g.keep _ _ (fun ht => (I.hid.μB _ hm).2 (I.hid.tabs _ ht)) (fun hy => (I.hid.μB _ hm).2 (hY _ hy)) e) r
noncomputable def aA (C : Cx) (env : Env) (H : Hd) (h : Heap) (m : Vars) : Prop := ∀ x p, m.lookup x = some p → ∃ v, cO C env h x v ∧ bD H h v p
noncomputable def own (env : Env) : List Addr := env.locals :: (env.cells.filter fun c => env.kindOf c.1 == some .cell).map (·.2)
structure zIu (env : Env) : Prop where
  kind : env.scope.kind = .function
  globals : env.globals = mainGlobals
  builtins : env.builtins = builtinsNs
noncomputable def lW (env : Env) : Prop := ∀ c ∈ env.cells, ∃ x, env.cells.lookup x = some c.2
structure aF (C : Cx) (env : Env) (H : Hd) (h : Heap) : Prop where
  eok : zIu env
  found : lW env
  loc : env.locals ∉ C.tabs
  locB : C.hB.get? env.locals = none
  ns : ∃ m, h.Ns env.locals m
  cell : ∀ x c, env.cells.lookup x = some c → c ∉ C.tabs ∧ C.hB.get? c = none ∧ ∃ v, h.IsCell c v
  inj : ∀ x y c, env.cells.lookup x = some c → env.cells.lookup y = some c → x = y
  hid : ∀ x ∈ own env, x ∈ H.X
theorem cO.gr0 {C : Cx} {env : Env} {H : Hd} {s s' : Shared} (F : aF C env H s.heap) (g : Gr C [] s s') {x : Str} {v : Value} (l : cO C env s.heap x v) : cO C env s'.heap x v := by
  rcases l with ⟨hk, m, hn, hv⟩ | ⟨hk, c, hc, o, ho, hd⟩ | l
  · refine bH hn fun o es ep e r => ?_; clear hn
    exact .inl ⟨hk, m, ⟨o, es, ep, g.keep _ _ F.loc (by simp) e, r⟩, hv⟩
  · exact .inr (.inl ⟨hk, c, hc, o, g.keep _ _ (F.cell x c hc).1 (by simp) ho, hd⟩)
  · exact .inr (.inr l)
theorem aA.gr0 {C : Cx} {env : Env} {H : Hd} {s s' : Shared} {m : Vars} (I : Inv C H s) (F : aF C env H s.heap) (g : Gr C [] s s') (V : aA C env H s.heap m) : aA C env H s'.heap m := fun x p e =>
  let ⟨v, l, r⟩ := V x p e
  ⟨v, l.gr0 F g, r.gr I g (fun x h => by cases h)⟩
theorem aF.gr0 {C : Cx} {env : Env} {H : Hd} {s s' : Shared} (F : aF C env H s.heap) (g : Gr C [] s s') : aF C env H s'.heap :=
  ⟨F.eok, F.found, F.loc, F.locB, by
    refine rI F.ns fun m o es ep e r => ?_
    exact ⟨m, o, es, ep, g.keep _ _ F.loc (by simp) e, r⟩, fun x c hc => by
    refine cps fun Pz kz => ?_
    obtain ⟨h1, h2, v, o, e, r⟩ := F.cell x c hc
    refine kz ?_; clear kz Pz
    exact ⟨h1, h2, v, o, g.keep _ _ h1 (by simp) e, r⟩, F.inj, F.hid⟩
structure AOk (A : Around) (d : Nat) : Prop where
  handled : A.handled = none
  depth : A.depth ≤ d
  units : A.units ≤ 10 * d
structure Ev (C : Cx) (d : Nat) (env : Env) (m : Vars) (e : Expr) (p : PV) : Prop where
  run : ∀ A s H, AOk A d → Inv C H s → aF C env H s.heap → aA C env H s.heap m → YG C A [] s (eval e env) (fun v s' => Rep H.hid s'.heap v p)
structure Ts (C : Cx) (d : Nat) (env : Env) (m : Vars) (e : Expr) (b : Bool) : Prop where
  run : ∀ A s H, AOk A d → Inv C H s → aF C env H s.heap → aA C env H s.heap m → YG C A [] s (isTrue e env (eval e env)) (fun c _ => c = b)
noncomputable def truth : PV → Bool
  | .none => false
  | .bool b => b
  | .int i => i != 0
  | .str x => x.length != 0
  | .tup l => !l.isEmpty
  | .lst l => !l.isEmpty
  | _ => true
section
variable {C : Cx} {d : Nat} {env : Env} {m : Vars}
theorem Ev.int {i : Int} {k : Nat} {pos : Pos} : Ev C d env m (.Constant (.int i) k pos) (.int i) := .mk fun _ _ _ _ _ _ _ _ _ q => wpAny_Constant_int (q _ _ Gr.toks' (.int _ _))
theorem Ev.str {x : Str} {k : Nat} {pos : Pos} : Ev C d env m (.Constant (.str x) k pos) (.str x) := .mk fun _ _ _ _ _ _ _ _ _ q => wpAny_Constant_str (q _ _ Gr.toks' (.str _ _))
theorem Ev.bool {b : Bool} {k : Nat} {pos : Pos} : Ev C d env m (.Constant (.bool b) k pos) (.bool b) := .mk fun _ _ _ _ _ _ _ _ _ q => wpAny_Constant_bool (q _ _ (Gr.refl ..) (.bool _))
theorem Ev.none {k : Nat} {pos : Pos} : Ev C d env m (.Constant .none k pos) .none := .mk fun _ _ _ _ _ _ _ _ _ q => wpAny_Constant_none (q _ _ (Gr.refl ..) .none)
theorem gV {x : Str} {p : PV} (h : m.lookup x = some p) {A : Around} {s : Shared} {H : Hd} (I : Inv C H s) (F : aF C env H s.heap) (V : aA C env H s.heap m) : YG C A [] s (loadName env x) (fun v s' => s' = s ∧ bD H s'.heap v p) := fun Q E q => by
  refine aI (V x p h) fun v l r => ?_
  have hq := q v s (Gr.refl ..) ⟨rfl, r⟩
  have EO := F.eok
  have K := I.ok
  rcases l with ⟨hk, mm, hn, hv⟩ | ⟨hk, c, hc, hv⟩ | ⟨hk, hv⟩
  · exact wpAny_loadName_local EO.kind hk hn hv hq
  · rcases hk with hk | ⟨hk, hcd⟩
    · exact wpAny_loadName_cell EO.kind hk hc hv hq
    · exact wpAny_loadName_free EO.kind hk hc hv hq hcd
  · rw [loadName_read EO.kind hk]
    rcases hv with hv | ⟨h0, hv⟩
    · exact loadGlobal_global (mg := C.mg) (by rw [EO.globals]; exact I.ns K.gT K.g) hv hq
    · exact loadGlobal_builtin (mg := C.mg) (mb := C.mb) (by rw [EO.globals]; exact I.ns K.gT K.g) h0 (by rw [EO.builtins]; exact I.ns K.bT K.b) hv hq
theorem Ev.name {x : Str} {pos : Pos} {p : PV} (h : m.lookup x = some p) (hd : (x == ("__debug__" : Str)) = false) (hp : p.imm = true := by rfl) : Ev C d env m (.Name x pos) p := .mk fun A s H _ I F V Q E q =>
  wpAny_Name (gV h I F V Q E fun v s' g r => q v s' g (r.2.is hp)) hd
theorem Ev.two {l r : Expr} {p q : PV} (hl : Ev C d env m l p) (hr : Ev C d env m r q) {A : Around} {s : Shared} {H : Hd} (hA : AOk A d) (I : Inv C H s) (F : aF C env H s.heap) (V : aA C env H s.heap m)
    {Q : Value → Value → Shared → Prop} {E : Value → Shared → Prop} (k : ∀ a b s', Gr C [] s s' → Rep H.hid s'.heap a p → Rep H.hid s'.heap b q → Q a b s') :
    wpAny C.M A (eval l env) (fun a s₁ => wpAny C.M A (eval r env) (fun b s₂ => Q a b s₂) E s₁) E s :=
  hl.run A s H hA I F V _ E fun a s₁ g₁ r₁ => hr.run A s₁ H hA (I.gr0 g₁) (F.gr0 g₁) (V.gr0 I F g₁) _ E fun b s₂ g₂ r₂ => k a b s₂ (g₁.trans g₂) (r₁.gr0 (I.gr0 g₁) g₂) r₂
noncomputable def Bin (C : Cx) (d : Nat) (op : Operator) (p q z : PV) : Prop :=
  ∀ A s H a b, AOk A d → Inv C H s → Rep H.hid s.heap a p → Rep H.hid s.heap b q → YG C A [] s (binaryOp op a b) (fun v s' => Rep H.hid s'.heap v z)
noncomputable def Inp (C : Cx) (d : Nat) (op : Operator) (p q z : PV) : Prop :=
  ∀ A s H a b, AOk A d → Inv C H s → Rep H.hid s.heap a p → Rep H.hid s.heap b q → YG C A [] s (inplaceOp op a b) (fun v s' => Rep H.hid s'.heap v z)
noncomputable def Cmp (C : Cx) (d : Nat) (op : CmpOp) (p q : PV) (z : Bool) : Prop :=
  ∀ A s H a b, AOk A d → Inv C H s → Rep H.hid s.heap a p → Rep H.hid s.heap b q → YG C A [] s (compareOp op a b) (fun v _ => v = .bool z)
theorem Ev.bin {l r : Expr} {op : Operator} {pos : Pos} {p q z : PV} (hl : Ev C d env m l p) (hr : Ev C d env m r q) (ho : Bin C d op p q z) : Ev C d env m (.BinOp l op r pos) z :=
  .mk fun A s H hA I F V _ E k => wpAny_BinOp (hl.two hr hA I F V fun a b s' g ra rb => ho A s' H a b hA (I.gr0 g) ra rb _ E fun v s'' g' rv => k v s'' (g.trans g') rv)
theorem Ev.cmp {l r : Expr} {op : CmpOp} {pos : Pos} {p q : PV} {z : Bool} (hl : Ev C d env m l p) (hr : Ev C d env m r q) (ho : Cmp C d op p q z) (hm : behindInMarks op r = false) :
    Ev C d env m (.Compare l [op] [r] pos) (.bool z) :=
  .mk fun A s H hA I F V _ E k => wpAny_Compare1 (hl.two hr hA I F V fun a b s' g ra rb => ho A s' H a b hA (I.gr0 g) ra rb _ E fun v s'' g' rv => k v s'' (g.trans g') (by rw [rv]; exact .bool z)) hm
theorem Ts.cmp {l r : Expr} {op : CmpOp} {pos : Pos} {p q : PV} {z : Bool} (hl : Ev C d env m l p) (hr : Ev C d env m r q) (ho : Cmp C d op p q z) (hm : behindInMarks op r = false) :
    Ts C d env m (.Compare l [op] [r] pos) z :=
  .mk fun A s H hA I F V _ E k => wpAny_isTrue_Compare1 (hl.two hr hA I F V fun a b s' g ra rb => ho A s' H a b hA (I.gr0 g) ra rb _ E fun v s'' g' rv => by
    rw [rv]; exact wpAny_truthy_bool (k z s'' (g.trans g') rfl)) hm
theorem Ts.not {x : Expr} {pos : Pos} {b : Bool} (h : Ts C d env m x b) : Ts C d env m (.UnaryOp .Not x pos) (!b) :=
  .mk fun A s H hA I F V _ E k => wpAny_isTrue_Not (h.run A s H hA I F V _ E fun c s' g e => k _ s' g (by rw [e]))
theorem Ev.ifTrue {t b o : Expr} {pos : Pos} {p : PV} (ht : Ts C d env m t true) (h : Ev C d env m b p) : Ev C d env m (.IfExp t b o pos) p :=
  .mk fun A s H hA I F V _ E k => wpAny_IfExp (ht.run A s H hA I F V _ E fun c s' g e => by
    subst e
    exact h.run A s' H hA (I.gr0 g) (F.gr0 g) (V.gr0 I F g) _ E fun v s'' g' r => k v s'' (g.trans g') r)
theorem Ev.ifFalse {t b o : Expr} {pos : Pos} {p : PV} (ht : Ts C d env m t false) (h : Ev C d env m o p) : Ev C d env m (.IfExp t b o pos) p :=
  .mk fun A s H hA I F V _ E k => wpAny_IfExp (ht.run A s H hA I F V _ E fun c s' g e => by
    subst e
    exact h.run A s' H hA (I.gr0 g) (F.gr0 g) (V.gr0 I F g) _ E fun v s'' g' r => k v s'' (g.trans g') r)
end
section
variable {X : List Addr} {h : Heap} {v : Value}
noncomputable def Rep.As (X : List Addr) (h : Heap) (v : Value) : PV → Prop
  | .none => v = .none
  | .bool b => v = .bool b
  | .int i => ∃ t, v = .int i t
  | .str x => ∃ t, v = .str x t
  | .tup l => ∃ a vs n, v = .ref a ∧ a ∉ X ∧ h.get? a = some { cls := .type "tuple", data := .seq vs n } ∧ aD X h vs.toList l
  | .lst l => ∃ a vs n, v = .ref a ∧ a ∉ X ∧ h.get? a = some { cls := .type "list", data := .seq vs n } ∧ aD X h vs.toList l
  | .rng a b c => ∃ p t u w, v = .ref p ∧ p ∉ X ∧ IsRange h p a b c t u w
  | .fn w => v = w
  | .sem P => ∀ h', (∀ b o, b ∉ X → h.get? b = some o → h'.get? b = some o) → P h' v
  | _ => False
theorem Rep.as {p : PV} (r : Rep X h v p) : Rep.As X h v p := by
  cases r with
  | none => rfl
  | bool => rfl
  | int _ t => exact ⟨t, rfl⟩
  | str _ t => exact ⟨t, rfl⟩
  | tup a b c => exact ⟨_, _, _, rfl, a, b, c⟩
  | lst a b c => exact ⟨_, _, _, rfl, a, b, c⟩
  | rng a b => exact ⟨_, _, _, _, rfl, a, b⟩
  | fn => rfl
  | sem p => exact p
theorem Rep.intI {i : Int} (r : Rep X h v (.int i)) : ∃ t, v = .int i t := r.as
theorem Rep.strI {x : Str} (r : Rep X h v (.str x)) : ∃ t, v = .str x t := r.as
theorem Rep.boolI {b : Bool} (r : Rep X h v (.bool b)) : v = .bool b := r.as
theorem Rep.noneI (r : Rep X h v .none) : v = .none := r.as
theorem Rep.fnI {w : Value} (r : Rep X h v (.fn w)) : v = w := r.as
theorem Rep.lstI {l : List PV} (r : Rep X h v (.lst l)) : ∃ a vs n, v = .ref a ∧ a ∉ X ∧ h.get? a = some { cls := .type "list", data := .seq vs n } ∧ aD X h vs.toList l := r.as
theorem Rep.tupI {l : List PV} (r : Rep X h v (.tup l)) : ∃ a vs n, v = .ref a ∧ a ∉ X ∧ h.get? a = some { cls := .type "tuple", data := .seq vs n } ∧ aD X h vs.toList l := r.as
theorem Rep.rngI {a b c : Int} (r : Rep X h v (.rng a b c)) : ∃ p t u w, v = .ref p ∧ p ∉ X ∧ IsRange h p a b c t u w := r.as
theorem Rep.semI {P : Heap → Value → Prop} (r : Rep X h v (.sem P)) : ∀ h', (∀ b o, b ∉ X → h.get? b = some o → h'.get? b = some o) → P h' v := r.as
theorem aD.nilI {vs : List Value} (r : aD X h vs []) : vs = [] := by cases r; rfl
theorem aD.consI {vs : List Value} {p : PV} {ps : List PV} (r : aD X h vs (p :: ps)) : ∃ v vs', vs = v :: vs' ∧ Rep X h v p ∧ aD X h vs' ps := by cases r; exact ⟨_, _, rfl, ‹_›, ‹_›⟩
theorem bD.mlstI {H : Hd} {l : List PV} (r : bD H h v (.mlst l)) : ∃ a vs n, v = .ref a ∧ H.μ = some a ∧ h.get? a = some { cls := .type "list", data := .seq vs n } ∧ aD H.hid h vs.toList l := by
  cases r with
  | imm r => exact r.as.elim
  | mlst a b c => exact ⟨_, _, _, rfl, a, b, c⟩
theorem bD.muteI {H : Hd} {P : Obj → Prop} (r : bD H h v (.mute P)) : ∃ a o, v = .ref a ∧ H.μ = some a ∧ h.get? a = some o ∧ P o := by
  cases r with
  | imm r => exact r.as.elim
  | mute a b c => exact ⟨_, _, rfl, a, b, c⟩
theorem cO.of {C : Cx} {env : Env} {x : Str} (hk : env.kindOf x = some .cell ∨ env.kindOf x = some .free) (l : cO C env h x v) : ∃ c, env.cells.lookup x = some c ∧ h.IsCell c (some v) := by
  have no : ∀ {k : NameKind}, k ≠ .cell → k ≠ .free → env.kindOf x ≠ some k := fun h1 h2 e => hk.elim (fun h => h1 (Option.some.inj (e.symm.trans h))) fun h => h2 (Option.some.inj (e.symm.trans h))
  rcases l with ⟨k, _⟩ | ⟨_, l⟩ | ⟨k, _⟩
  · exact (no (by decide) (by decide) k).elim
  · exact l
  · exact (no (by decide) (by decide) k).elim
theorem aD.size {vs : Array Value} {l : List PV} (r : aD X h vs.toList l) : vs.size = l.length := by rw [← r.length]; simp
end
end
local macro_rules | `(tactic| cases $h:ident) => `(tactic| first
  | (have he := Mine.Rep.intI $h; clear $h; obtain ⟨_, he⟩ := he; subst he)
  | (have he := Mine.Rep.strI $h; clear $h; obtain ⟨_, he⟩ := he; subst he)
  | (have he := Mine.Rep.boolI $h; clear $h; subst he)
  | (have he := Mine.Rep.noneI $h; clear $h; subst he)
  | (have he := Mine.Rep.fnI $h; clear $h; subst he)
  | (have he := Mine.aD.nilI $h; clear $h; subst he))
local macro_rules | `(tactic| cases $h:ident with | cons $a:ident $b:ident => $t:tacticSeq) => `(tactic| (have he := Mine.aD.consI $h; clear $h; obtain ⟨_, _, he, $a:ident, $b:ident⟩ := he; subst he; ($t)))
section
section
variable {C : Cx} {d : Nat} {env : Env} {m : Vars}
theorem Bin.add {a b : Int} : Bin C d .Add (.int a) (.int b) (.int (a + b)) := fun A s H x y _ _ ra rb Q E q => by
  cases ra; cases rb; exact PyProof.Rows.add_int (q _ _ Gr.toks' (.int _ _))
theorem Bin.sub {a b : Int} : Bin C d .Sub (.int a) (.int b) (.int (a - b)) := fun A s H x y _ _ ra rb Q E q => by
  cases ra; cases rb; exact PyProof.Rows.sub_int (q _ _ Gr.toks' (.int _ _))
theorem Bin.mul {a b : Int} (hm : IntMulOk a b) : Bin C d .Mult (.int a) (.int b) (.int (a * b)) := fun A s H x y _ _ ra rb Q E q => by
  cases ra; cases rb; exact P.mul_int (q _ _ Gr.toks' (.int _ _)) hm
theorem Bin.fdiv {a b : Int} (hb : b ≠ 0) (hp : Builtin.divisionGoesByPylong a b = false) : Bin C d .FloorDiv (.int a) (.int b) (.int (a.fdiv b)) := fun A s H x y _ _ ra rb Q E q => by
  cases ra; cases rb; exact floordiv_int hb (q _ _ Gr.toks' (.int _ _)) (.inl hp)
theorem Bin.fmod {a b : Int} (hb : b ≠ 0) : Bin C d .Mod (.int a) (.int b) (.int (a.fmod b)) := fun A s H x y _ _ ra rb Q E q => by
  cases ra; cases rb; exact PyProof.Rows.mod_int hb (q _ _ Gr.toks' (.int _ _))
theorem Bin.and {a b : Int} : Bin C d .BitAnd (.int a) (.int b) (.int (Builtin.bitAnd a b)) := fun A s H x y _ _ ra rb Q E q => by
  cases ra; cases rb; exact and_int (q _ _ Gr.toks' (.int _ _))
theorem Bin.or {a b : Int} : Bin C d .BitOr (.int a) (.int b) (.int (Builtin.bitOr a b)) := fun A s H x y _ _ ra rb Q E q => by
  cases ra; cases rb; exact or_int (q _ _ Gr.toks' (.int _ _))
theorem Bin.xor {a b : Int} : Bin C d .BitXor (.int a) (.int b) (.int (Builtin.bitXor a b)) := fun A s H x y _ _ ra rb Q E q => by
  cases ra; cases rb; exact xor_int (q _ _ Gr.toks' (.int _ _))
theorem Bin.shl {a n : Int} (hn : 0 ≤ n) (hsz : (Builtin.Int.intBits a : Int) + n ≤ 2 ^ 27) : Bin C d .LShift (.int a) (.int n) (.int (a * 2 ^ n.toNat)) := fun A s H x y _ _ ra rb Q E q => by
  cases ra; cases rb; exact lshift_int hn hsz (q _ _ Gr.toks' (.int _ _))
theorem Bin.shr {a n : Int} (hn : 0 ≤ n) : Bin C d .RShift (.int a) (.int n) (.int (a.fdiv (2 ^ n.toNat))) := fun A s H x y _ _ ra rb Q E q => by
  cases ra; cases rb; exact rshift_int hn (q _ _ Gr.toks' (.int _ _))
theorem Inp.add {a b : Int} : Inp C d .Add (.int a) (.int b) (.int (a + b)) := fun A s H x y _ _ ra rb Q E q => by
  cases ra; cases rb; exact PyProof.Rows.iadd_int (q _ _ Gr.toks' (.int _ _))
theorem Inp.sub {a b : Int} : Inp C d .Sub (.int a) (.int b) (.int (a - b)) := fun A s H x y _ _ ra rb Q E q => by
  cases ra; cases rb; exact P.isub_int (q _ _ Gr.toks' (.int _ _))
theorem Inp.shl {a n : Int} (hn : 0 ≤ n) (hsz : (Builtin.Int.intBits a : Int) + n ≤ 2 ^ 27) : Inp C d .LShift (.int a) (.int n) (.int (a * 2 ^ n.toNat)) := fun A s H x y _ _ ra rb Q E q => by
  cases ra; cases rb; exact ilshift_int hn hsz (q _ _ Gr.toks' (.int _ _))
theorem Inp.shr {a n : Int} (hn : 0 ≤ n) : Inp C d .RShift (.int a) (.int n) (.int (a.fdiv (2 ^ n.toNat))) := fun A s H x y _ _ ra rb Q E q => by
  cases ra; cases rb; exact irshift_int hn (q _ _ Gr.toks' (.int _ _))
theorem Cmp.eq {a b : Int} : Cmp C d .Eq (.int a) (.int b) (a == b) := fun A s H x y _ _ ra rb Q E q => by
  cases ra; cases rb; exact PyProof.Rows.eq_int (q _ _ (Gr.refl ..) rfl)
theorem Cmp.ne {a b : Int} : Cmp C d .NotEq (.int a) (.int b) (a != b) := fun A s H x y _ _ ra rb Q E q => by
  cases ra; cases rb; exact PyProof.Rows.ne_int (q _ _ (Gr.refl ..) rfl)
theorem Cmp.lt {a b : Int} : Cmp C d .Lt (.int a) (.int b) (decide (a < b)) := fun A s H x y _ _ ra rb Q E q => by
  cases ra; cases rb; exact PyProof.Rows.lt_int (q _ _ (Gr.refl ..) rfl)
theorem Cmp.gt {a b : Int} : Cmp C d .Gt (.int a) (.int b) (decide (b < a)) := fun A s H x y _ _ ra rb Q E q => by
  cases ra; cases rb; exact PyProof.Rows.gt_int (q _ _ (Gr.refl ..) rfl)
theorem Cmp.le {a b : Int} : Cmp C d .LtE (.int a) (.int b) (decide (a ≤ b)) := fun A s H x y _ _ ra rb Q E q => by
  cases ra; cases rb; exact P.le_int (q _ _ (Gr.refl ..) rfl)
theorem Cmp.ge {a b : Int} : Cmp C d .GtE (.int a) (.int b) (decide (b ≤ a)) := fun A s H x y _ _ ra rb Q E q => by
  cases ra; cases rb; exact P.ge_int (q _ _ (Gr.refl ..) rfl)
theorem Cmp.eqStr {x y : Str} : Cmp C d .Eq (.str x) (.str y) (x.cps.toList == y.cps.toList) := fun A s H a b _ _ ra rb Q E q => by
  cases ra; cases rb; exact P.eq_str (q _ _ (Gr.refl ..) rfl)
theorem Cmp.neStr {x y : Str} : Cmp C d .NotEq (.str x) (.str y) (x.cps.toList != y.cps.toList) := fun A s H a b _ _ ra rb Q E q => by
  cases ra; cases rb; exact P.ne_str (q _ _ (Gr.refl ..) rfl)
noncomputable def Tru (C : Cx) (d : Nat) (p : PV) (z : Bool) : Prop := ∀ A s H a, AOk A d → Inv C H s → Rep H.hid s.heap a p → YG C A [] s (truthy a) (fun c _ => c = z)
theorem Tru.int {a : Int} : Tru C d (.int a) (a != 0) := fun A s H x _ _ ra Q E q => by cases ra; exact PyProof.Rows.truthy_int (q _ _ (Gr.refl ..) rfl)
theorem Tru.bool {b : Bool} : Tru C d (.bool b) b := fun A s H x _ _ ra Q E q => by cases ra; exact wpAny_truthy_bool (q _ _ (Gr.refl ..) rfl)
theorem Tru.lst {l : List PV} (hl : (l.length : Int) < 2 ^ 63) : Tru C d (.lst l) (!l.isEmpty) := fun A s H x _ _ ra Q E q => by
  refine aV (Rep.lstI ra) fun _ vs _ ez1 hx e r => ?_; subst ez1
  ·
    have hlen := r.length
    refine wpAny_truthy_list ⟨_, e, rfl, _, rfl⟩ (by rw [← Array.length_toList, hlen]; exact hl) (q _ _ Gr.toks' ?_)
    have : l.isEmpty = vs.isEmpty := by
      cases l with
      | nil => simp at hlen; simp [hlen]
      | cons a b =>
        have : vs.size ≠ 0 := by rw [← Array.length_toList, hlen]; simp
        simp [Array.isEmpty, this]
    rw [this]
theorem Ts.val {e : Expr} {p : PV} {z : Bool} (h : Ev C d env m e p) (ht : Tru C d p z) (he : ∀ whole, isTrue e env whole = (do let v ← whole; standAt e.pos; holding [v] (truthy v))) : Ts C d env m e z :=
  .mk fun A s H hA I F V _ E k => wpAny_isTrue_value (h.run A s H hA I F V _ E fun v s' g r => ht A s' H v hA (I.gr0 g) r _ E fun c s'' g' e' => k c s'' (g.trans g') e') (he _)
theorem Ev.neg {e : Expr} {a : Int} {pos : Pos} (h : Ev C d env m e (.int a)) : Ev C d env m (.UnaryOp .USub e pos) (.int (-a)) :=
  .mk fun A s H hA I F V _ E k => wpAny_UnaryOp (h.run A s H hA I F V _ E fun v s' g r => by cases r; exact P.neg_int (k _ _ (g.trans Gr.toks') (.int _ _)))
theorem Ev.inv {e : Expr} {a : Int} {pos : Pos} (h : Ev C d env m e (.int a)) : Ev C d env m (.UnaryOp .Invert e pos) (.int (-a - 1)) :=
  .mk fun A s H hA I F V _ E k => wpAny_UnaryOp (h.run A s H hA I F V _ E fun v s' g r => by cases r; exact invert_int (k _ _ (g.trans Gr.toks') (.int _ _)))
inductive Evs (C : Cx) (d : Nat) (env : Env) (m : Vars) : List Expr → List PV → Prop where
  | nil : Evs C d env m [] []
  | cons {e : Expr} {es : List Expr} {p : PV} {ps : List PV} : Ev C d env m e p → (∀ rest, starEach (e :: rest) env = (false, eval e env) :: starEach rest env) → Evs C d env m es ps → Evs C d env m (e :: es) (p :: ps)
theorem Evs.spliced {pos : Pos} {es : List Expr} {ps : List PV} (k : Evs C d env m es ps) : ∀ {A : Around} {s : Shared} {H : Hd}, AOk A d → Inv C H s → aF C env H s.heap → aA C env H s.heap m →
    YG C A [] s (spliced (backTo pos (starEach es env))) (fun vs s' => aD H.hid s'.heap vs ps) := by
  induction k with
  | nil => exact fun _ _ _ _ Q E q => wpAny_items_nil (q [] _ (Gr.refl ..) .nil)
  | @cons e es p ps h hs r ih =>
    intro A s H hA I F V Q E q
    rw [hs]
    show wpAny C.M A (PySem.spliced ((false, eval e env) :: backTo pos (starEach es env))) Q E s
    refine spliced_cons (h.run A s H hA I F V _ E fun v s' g rv => ?_)
    exact ih hA (I.gr0 g) (F.gr0 g) (V.gr0 I F g) _ E fun vs s'' g' rs => q _ s'' (g.trans g') (.cons (rv.gr0 (I.gr0 g) g') rs)
theorem Evs.star {es : List Expr} {ps : List PV} {pos : Pos} (h : Evs C d env m es ps) : (backTo pos (starEach es env)).any (·.1) = false := by
  induction h with
  | nil => rfl
  | cons _ hs _ ih => rw [hs]; show (false || (backTo pos (starEach _ env)).any (·.1)) = false; rw [ih]; rfl
theorem Ev.tup {es : List Expr} {ps : List PV} {k : Nat} {pos : Pos} (h : Evs C d env m es ps) (hl : ps.length ≤ sizeLine) : Ev C d env m (.Tuple es k pos) (.tup ps) :=
  .mk fun A s H hA I F V _ E q => wpAny_Tuple_spliced (h.spliced hA I F V _ E fun vs s' g r => ⟨by rw [r.length]; exact hl, q _ _ (g.trans (Gr.push I.ok)) (.tup (n := 0) ((I.gr0 g).fresh (Nat.le_refl _)) (Heap.get?_push_size _ rfl) (by
    show aD _ _ vs ps
    exact r.mono fun b o _ e => Heap.get?_push_of_some _ e))⟩)
theorem Ev.lst {es : List Expr} {ps : List PV} {pos : Pos} (h : Evs C d env m es ps) (hl : ps.length ≤ sizeLine) : Ev C d env m (.List es pos) (.lst ps) :=
  .mk fun A s H hA I F V _ E q => wpAny_List_spliced (h.spliced hA I F V _ E fun vs s' g r => ⟨by rw [r.length]; exact hl, q _ _ (g.trans (Gr.push I.ok)) (.lst (n := 0) ((I.gr0 g).fresh (Nat.le_refl _)) (Heap.get?_push_size _ rfl) (by
    show aD _ _ vs ps
    exact r.mono fun b o _ e => Heap.get?_push_of_some _ e))⟩)
noncomputable def Calls (C : Cx) (d : Nat) (f : Value) (ps : List PV) (r : PV) : Prop :=
  ∀ A s H vs, AOk A d → Inv C H s → aD H.hid s.heap vs ps → YG C A [] s (call f vs) (fun v s' => Rep H.hid s'.heap v r)
theorem Ev.callB {f : Expr} {id : String} {e : Expr} {es : List Expr} {pos : Pos} {ps : List PV} {r : PV} (hf : Ev C d env m f (.fn (.builtin id))) (ha : Evs C d env m (e :: es) ps) (hc : Calls C d (.builtin id) ps r)
    (hshape : eval (.Call f (e :: es) [] pos) env = (do callWith pos (← eval f env) [] (backTo pos (starEach (e :: es) env)) [])) : Ev C d env m (.Call f (e :: es) [] pos) r :=
  .mk fun A s H hA I F V _ E q => by
    rw [hshape]
    refine wpAny_bind (hf.run A s H hA I F V _ E fun v s' g rv => ?_)
    cases rv
    have hst := ha.star (pos := pos)
    cases ha with
    | cons h1 hs h2 =>
      have ha : Evs C d env m (e :: es) (_ :: _) := .cons h1 hs h2
      rw [hs] at hst ⊢
      refine callWith_builtin hst (evalArgs_plain ?_)
      have := ha.spliced (pos := pos) hA (I.gr0 g) (F.gr0 g) (V.gr0 I F g)
      rw [hs] at this
      exact this _ E fun vs s'' g' rs => hc A s'' H vs hA ((I.gr0 g).gr0 g') rs _ E fun v s3 g3 r3 => q v s3 ((g.trans g').trans g3) r3
theorem Ev.callT {f : Expr} {T : String} {e : Expr} {es : List Expr} {pos : Pos} {ps : List PV} {r : PV} (hf : Ev C d env m f (.fn (.type T))) (ha : Evs C d env m (e :: es) ps) (hc : Calls C d (.type T) ps r)
    (hshape : eval (.Call f (e :: es) [] pos) env = (do callWith pos (← eval f env) [] (backTo pos (starEach (e :: es) env)) [])) : Ev C d env m (.Call f (e :: es) [] pos) r :=
  .mk fun A s H hA I F V _ E q => by
    rw [hshape]
    refine wpAny_bind (hf.run A s H hA I F V _ E fun v s' g rv => ?_)
    cases rv
    have hst := ha.star (pos := pos)
    cases ha with
    | cons h1 hs h2 =>
      have ha : Evs C d env m (e :: es) (_ :: _) := .cons h1 hs h2
      rw [hs] at hst ⊢
      refine PyProof.Rows.callWith_type hst (evalArgs_plain ?_)
      have := ha.spliced (pos := pos) hA (I.gr0 g) (F.gr0 g) (V.gr0 I F g)
      rw [hs] at this
      exact this _ E fun vs s'' g' rs => hc A s'' H vs hA ((I.gr0 g).gr0 g') rs _ E fun v s3 g3 r3 => q v s3 ((g.trans g').trans g3) r3
structure FnAt (C : Cx) (a : Addr) : Prop where
  there : ∃ o fd, C.hB.get? a = some o ∧ o.data = .func fd
  tab : a ∉ C.tabs
theorem Ev.callF {f : Expr} {a : Addr} {e : Expr} {es : List Expr} {pos : Pos} {ps : List PV} {r : PV} (hF : FnAt C a) (hf : Ev C d env m f (.fn (.ref a))) (ha : Evs C d env m (e :: es) ps) (hc : Calls C d (.ref a) ps r)
    (hshape : eval (.Call f (e :: es) [] pos) env = (do callWith pos (← eval f env) [] (backTo pos (starEach (e :: es) env)) [])) : Ev C d env m (.Call f (e :: es) [] pos) r :=
  .mk fun A s H hA I F V _ E q => by
    rw [hshape]
    refine wpAny_bind (hf.run A s H hA I F V _ E fun v s' g rv => ?_)
    cases rv
    refine cA hF.there fun o fd ho hd => ?_
    cases ha with
    | cons h1 hs h2 =>
      have ha : Evs C d env m (e :: es) (_ :: _) := .cons h1 hs h2
      rw [hs]
      refine callWith_function (o := o) (fd := fd) (evalArgs_plain ?_)
      have := ha.spliced (pos := pos) hA (I.gr0 g) (F.gr0 g) (V.gr0 I F g)
      rw [hs] at this
      exact this _ E fun vs s'' g' rs => ⟨⟨((I.gr0 g).gr0 g').keep a o hF.tab ho, hd⟩, hc A s'' H vs hA ((I.gr0 g).gr0 g') rs _ E fun v s3 g3 r3 => q v s3 ((g.trans g').trans g3) r3⟩
end
end
section
theorem iL {h : Heap} {a : Addr} {m m' : Str → Option Value} (x : h.Ns a m) (y : h.Ns a m') : m = m' := by
  refine aV x fun o es ep e d _ f => ?_; clear x
  refine aV y fun o' es' ep' e' d' _ f' => ?_; clear y
  rw [e] at e'; cases e'
  rw [d] at d'; cases d'
  funext n; rw [← f, ← f']
section
variable {C : Cx} {d : Nat} {env : Env} {m : Vars}
theorem bO.write {H : Hd} {h h' : Heap} {c : Addr} (O : bO C H h) (hs : ∀ b, b ≠ c → h'.get? b = h.get? b) (hc : (h'.get? c).isSome = true) (hm : ∀ o, h'.get? c = some o → ¬ aB o) : bO C H h' :=
  ⟨fun a ha => by
    by_cases e : a = c
    · subst e; exact hc
    · rw [hs a e]; exact O.there a ha, O.tabs, O.μB, fun a ha o e => by
    by_cases e' : a = c
    · subst e'; exact hm o e
    · rw [hs a e'] at e; exact O.nc a ha o e⟩
theorem aF.free {H : Hd} {h : Heap} (F : aF C env H h) : zA C (own env) h := by
  intro x hx
  rcases mC hx with rfl | hx
  · refine ⟨F.loc, fun o e hc => ?_⟩
    refine zIj F.ns fun mm o' es ep e' d _ => ?_
    rw [e] at e'; cases e'
    refine bH hc fun vs _ _ hv _ => ?_; clear hc
    rw [d] at hv; cases hv
  · obtain ⟨c, hc, rfl⟩ := mM hx
    obtain ⟨y, hy⟩ := F.found c (List.mem_filter.mp hc).1
    refine cps fun Pz kz => ?_
    obtain ⟨h1, _, v, o', e', d⟩ := F.cell y c.2 hy
    refine kz ?_; clear kz Pz
    refine ⟨h1, fun o e hc => ?_⟩
    rw [e] at e'; cases e'
    refine bH hc fun vs _ _ hv _ => ?_; clear hc
    rw [d] at hv; cases hv
theorem aF.ownB {H : Hd} {h : Heap} (F : aF C env H h) : ∀ x ∈ own env, C.hB.get? x = none := by
  intro x hx
  rcases mC hx with rfl | hx
  · exact F.locB
  · obtain ⟨c, hc, rfl⟩ := mM hx
    obtain ⟨y, hy⟩ := F.found c (List.mem_filter.mp hc).1
    exact (F.cell y c.2 hy).2.1
theorem kL {x : Str} {c : Addr} (hk : env.kindOf x = some .cell) (hc : env.cells.lookup x = some c) : c ∈ own env := by
  refine mT (List.mem_map.mpr ⟨(x, c), List.mem_filter.mpr ⟨?_, by simp [hk]⟩, rfl⟩)
  have : ∀ (l : List (Str × Addr)), l.lookup x = some c → (x, c) ∈ l := by
    intro l
    induction l with
    | nil => intro h; cases h
    | cons y l ih =>
      intro h
      obtain ⟨y, d⟩ := y
      rw [List.lookup_cons] at h
      by_cases e : x == y
      · simp only [e] at h
        cases h
        have := eq_of_beq e
        subst this
        exact mH
      · simp only [e] at h
        exact mT (ih h)
  exact this _ hc
theorem bP {A : Around} {s : Shared} {H : Hd} (I : Inv C H s) (F : aF C env H s.heap) (V : aA C env H s.heap m) {x : Str} {v : Value} {p : PV}
    (hk : env.kindOf x = some .local ∨ (env.kindOf x = some .cell ∧ (env.cells.lookup x).isSome = true)) (r : bD H s.heap v p) :
    YG C A (own env) s (storeName env x v) (fun _ s' => bO C H s'.heap ∧ aF C env H s'.heap ∧ aA C env H s'.heap ((x, p) :: m)) := by
  intro Q E q
  have K := I.ok
  have EO := F.eok
  rcases hk with hk | ⟨hk, hc⟩
  · obtain ⟨mm, hn⟩ := F.ns
    refine wpAny_storeName_local hk hn (fun h' hn' hs => ?_) (by rw [EO.kind]; rfl)
    have keep : ∀ b o, b ≠ env.locals → s.heap.get? b = some o → h'.get? b = some o := fun b o hb e => (hs.2 b hb).trans e
    have g : Gr C (own env) s { s with heap := h', toks := s.toks + 1 } := Gr.but K F.free fun b o hb e => keep b o (fun q => hb (by subst q; exact mH)) e
    have rm : ∀ {v : Value} {p : PV}, bD H s.heap v p → bD H h' v p := fun r => r.gr I g F.hid
    have hcl : ∀ y c, env.cells.lookup y = some c → c ≠ env.locals := fun y c hy e => by
      refine cps fun Pz kz => ?_
      obtain ⟨_, _, v, o, e', d⟩ := F.cell y c hy
      refine kz ?_; clear kz Pz
      refine eM hn fun o' es ep e'' d' _ => ?_; clear hn
      subst e
      rw [e'] at e''; cases e''
      rw [d] at d'; cases d'
    refine q () _ g ⟨I.hid.write hs.2 (by obtain ⟨o, es, ep, e, _⟩ := hn'; rw [e]; rfl) (fun o e => aS hn' e), ⟨F.eok, F.found, F.loc, F.locB, ⟨_, hn'⟩, fun y c hy => ?_, F.inj, F.hid⟩, fun y p' e => ?_⟩
    · refine cps fun Pz kz => ?_
      obtain ⟨h1, h2, v', o, e', d⟩ := F.cell y c hy
      refine kz ?_; clear kz Pz
      exact ⟨h1, h2, v', o, keep c o (hcl y c hy) e', d⟩
    · rw [List.lookup_cons] at e
      by_cases hxy : y == x
      · simp only [hxy] at e
        cases e
        have := eq_of_beq hxy
        subst this
        exact ⟨v, .inl ⟨hk, _, hn', by simp⟩, rm r⟩
      · simp only [hxy] at e
        refine aI (V y p' e) fun v' l r' => ?_
        refine ⟨v', ?_, rm r'⟩
        rcases l with ⟨k, m2, hn2, hv⟩ | ⟨k, c, hc, o, e', d⟩ | l
        · have : m2 = mm := iL hn2 hn
          subst this
          refine .inl ⟨k, _, hn', ?_⟩
          have : y ≠ x := fun z => hxy (by simp [z])
          simp [this, hv]
        · exact .inr (.inl ⟨k, c, hc, o, keep c o (hcl y c hc) e', d⟩)
        · exact .inr (.inr l)
  · obtain ⟨c, hc⟩ := Option.isSome_iff_exists.mp hc
    obtain ⟨h1, h2, v0, hv0⟩ := F.cell x c hc
    refine wpAny_storeName_cell EO.kind hk hc hv0 fun h' hn' hs => ?_
    have keep : ∀ b o, b ≠ c → s.heap.get? b = some o → h'.get? b = some o := fun b o hb e => (hs.2 b hb).trans e
    have g : Gr C (own env) s { s with heap := h' } := Gr.but K (tk := s.toks) F.free fun b o hb e => keep b o (fun q => hb (by subst q; exact kL hk hc)) e
    have rm : ∀ {v : Value} {p : PV}, bD H s.heap v p → bD H h' v p := fun r => r.gr I g F.hid
    obtain ⟨mm, hn⟩ := F.ns
    have hcl : env.locals ≠ c := fun e => by
      refine aI hv0 fun o e' d => ?_; clear hv0
      refine eM hn fun o' es ep e'' d' _ => ?_; clear hn
      subst e
      rw [e'] at e''; cases e''
      rw [d] at d'; cases d'
    have hns : ∀ {m2}, s.heap.Ns env.locals m2 → h'.Ns env.locals m2 := fun z => by
      refine eM z fun o' es ep e'' d' z => ?_
      exact ⟨o', es, ep, keep _ _ hcl e'', d', z⟩
    refine q () _ g ⟨I.hid.write hs.2 (by obtain ⟨o, e, _⟩ := hn'; rw [e]; rfl) (fun o e => gR hn' e), ⟨F.eok, F.found, F.loc, F.locB, ⟨_, hns hn⟩, fun y c' hy => ?_, F.inj, F.hid⟩, fun y p' e => ?_⟩
    · refine cps fun Pz kz => ?_
      obtain ⟨k1, k2, v', o, e', d⟩ := F.cell y c' hy
      refine kz ?_; clear kz Pz
      by_cases hcc : c' = c
      · subst hcc; exact ⟨k1, k2, _, hn'⟩
      · exact ⟨k1, k2, v', o, keep c' o hcc e', d⟩
    · rw [List.lookup_cons] at e
      by_cases hxy : y == x
      · simp only [hxy] at e
        cases e
        have := eq_of_beq hxy
        subst this
        exact ⟨v, .inr (.inl ⟨.inl hk, c, hc, hn'⟩), rm r⟩
      · simp only [hxy] at e
        refine aI (V y p' e) fun v' l r' => ?_
        refine ⟨v', ?_, rm r'⟩
        rcases l with ⟨k, m2, hn2, hv⟩ | ⟨k, c', hc', o, e', d⟩ | l
        · exact .inl ⟨k, m2, hns hn2, hv⟩
        · have : c' ≠ c := fun z => hxy (by rw [F.inj y x c (z ▸ hc') hc]; simp)
          exact .inr (.inl ⟨k, c', hc', o, keep c' o this e', d⟩)
        · exact .inr (.inr l)
structure bM (C : Cx) (H H' : Hd) (s s' : Shared) : Prop where
  X : H'.X = H.X
  fresh : ∀ a, H'.μ = some a → H.μ = some a ∨ s.heap.get? a = none
  ok : bO C H' s'.heap
noncomputable def wr (env : Env) (H : Hd) : List Addr := own env ++ H.μ.toList
theorem zIw {H : Hd} {s : Shared} (I : Inv C H s) (F : aF C env H s.heap) : ∀ x ∈ wr env H, C.hB.get? x = none := fun x hx => by
  rcases mA hx with h | h
  · exact F.ownB x h
  · exact (I.hid.μB x (by simpa using h)).1
theorem cI {H : Hd} : ∀ x ∈ own env, x ∈ wr env H := fun x hx => mL hx
theorem bM.same {H : Hd} {s s' : Shared} (h : bO C H s'.heap) : bM C H H s s' := ⟨rfl, fun a h => .inl h, h⟩
theorem bM.inv {H H' : Hd} {s s' : Shared} (I : Inv C H s) (F : aF C env H s.heap) (g : Gr C (wr env H) s s') (a : bM C H H' s s') : Inv C H' s' := I.gr g (zIw I F) a.ok
theorem bM.gr {H H' : Hd} {s s' s'' : Shared} (g : Gr C (wr env H) s s') (a : bM C H H' s s') (g' : Gr C (wr env H') s' s'') : Gr C (wr env H) s s'' :=
  g.then g' fun y hy => by
    rcases mA hy with h | h
    · exact .inl (cI y h)
    · rcases a.fresh y (by simpa using h) with h | h
      · exact .inl (mR (by simp [h]))
      · exact .inr h
theorem bM.trans {H H' H'' : Hd} {s s' s'' : Shared} (I : Inv C H s) (F : aF C env H s.heap) (F' : aF C env H' s'.heap) (g : Gr C (wr env H) s s') (a : bM C H H' s s') (b : bM C H' H'' s' s'') : bM C H H'' s s'' :=
  ⟨b.X.trans a.X, fun x hx => by
    rcases b.fresh x hx with h | h
    · exact a.fresh x h
    · by_cases hm : H.μ = some x
      · exact .inl hm
      · refine .inr ?_
        cases e : s.heap.get? x with
        | none => rfl
        | some o =>
          exfalso
          have hin : ∀ y ∈ H'.hid, (s'.heap.get? y).isSome := a.ok.there
          by_cases ht : x ∈ C.tabs
          · have := hin x (mR (a.ok.tabs x ht))
            rw [h] at this; cases this
          by_cases hw : x ∈ wr env H
          · rcases mA hw with hw | hw
            · have := hin x (mR (F'.hid x hw))
              rw [h] at this; cases this
            · exact hm (by simpa using hw)
          · rw [g.keep x o ht hw e] at h
            exact absurd h (by simp), b.ok⟩
inductive Out where
  | next (m : Vars)
  | brk (m : Vars)
  | cont (m : Vars)
  | ret (p : PV)
  | retm (p : PV) (m : Vars)
noncomputable def uF (C : Cx) (env : Env) (H : Hd) (f : Flow) (s : Shared) : Out → Prop
  | .next m => f = .next ∧ aF C env H s.heap ∧ aA C env H s.heap m
  | .brk m => f = .brk ∧ aF C env H s.heap ∧ aA C env H s.heap m
  | .cont m => f = .cont ∧ aF C env H s.heap ∧ aA C env H s.heap m
  | .ret p => ∃ v, f = .ret v ∧ Rep H.hid s.heap v p
  | .retm p m => ∃ v, f = .ret v ∧ Rep H.hid s.heap v p ∧ aF C env H s.heap ∧ aA C env H s.heap m
noncomputable def YS (C : Cx) (A : Around) (env : Env) (H : Hd) (s : Shared) (t : Sem Flow) (o : Out) : Prop :=
  YG C A (wr env H) s t (fun f s' => ∃ H', bM C H H' s s' ∧ uF C env H' f s' o)
structure Es (C : Cx) (d : Nat) (env : Env) (m : Vars) (st : Stmt) (o : Out) : Prop where
  run : ∀ A s H, AOk A d → Inv C H s → aF C env H s.heap → aA C env H s.heap m → YS C A env H s (exec st env) o
structure Ex (C : Cx) (d : Nat) (env : Env) (m : Vars) (b : List Stmt) (o : Out) : Prop where
  run : ∀ A s H, AOk A d → Inv C H s → aF C env H s.heap → aA C env H s.heap m → YS C A env H s (execs b env) o
theorem YS.after {A : Around} {H H₁ : Hd} {s s' : Shared} {t : Sem Flow} {o : Out} (I : Inv C H s) (F : aF C env H s.heap) (F' : aF C env H₁ s'.heap) (g : Gr C (wr env H) s s') (a : bM C H H₁ s s') (h : YS C A env H₁ s' t o)
    {Q : Flow → Shared → Prop} {E : Value → Shared → Prop} (q : ∀ f s'', Gr C (wr env H) s s'' → (∃ H', bM C H H' s s'' ∧ uF C env H' f s'' o) → Q f s'') : wpAny C.M A t Q E s' :=
  h Q E fun f s'' g' r => by
    refine aI r fun H' b r => ?_
    exact q f s'' (a.gr g g') ⟨H', a.trans I F F' g b, r⟩
theorem Ex.nil : Ex C d env m [] (.next m) := .mk fun A s H hA I F V Q E q => wpAny_execs_nil (q _ _ (Gr.refl ..) ⟨H, .same I.hid, rfl, F, V⟩)
theorem Ex.cons {st : Stmt} {rest : List Stmt} {m' : Vars} {o : Out} (h : Es C d env m st (.next m')) (k : Ex C d env m' rest o) : Ex C d env m (st :: rest) o :=
  .mk fun A s H hA I F V Q E q => wpAny_execs_cons (h.run A s H hA I F V _ E fun f s' g r => by
    refine iU r fun H' a ez1 F' V' => ?_; clear r; subst ez1
    exact (k.run A s' H' hA (a.inv I F g) F' V').after I F F' g a q)
theorem Ex.stop {st : Stmt} {rest : List Stmt} {p : PV} (h : Es C d env m st (.ret p)) : Ex C d env m (st :: rest) (.ret p) :=
  .mk fun A s H hA I F V Q E q => wpAny_execs_cons (h.run A s H hA I F V _ E fun f s' g r => by
    refine cps fun Pz kz => ?_
    obtain ⟨H', a, v, rfl, rv⟩ := r
    refine kz ?_; clear kz Pz
    exact q _ s' g ⟨H', a, v, rfl, rv⟩)
theorem Ex.stopm {st : Stmt} {rest : List Stmt} {p : PV} {m' : Vars} (h : Es C d env m st (.retm p m')) : Ex C d env m (st :: rest) (.retm p m') :=
  .mk fun A s H hA I F V Q E q => wpAny_execs_cons (h.run A s H hA I F V _ E fun f s' g r => by
    refine cps fun Pz kz => ?_
    obtain ⟨H', a, v, rfl, rv⟩ := r
    refine kz ?_; clear kz Pz
    exact q _ s' g ⟨H', a, v, rfl, rv⟩)
theorem Ex.brk {st : Stmt} {rest : List Stmt} {m' : Vars} (h : Es C d env m st (.brk m')) : Ex C d env m (st :: rest) (.brk m') :=
  .mk fun A s H hA I F V Q E q => wpAny_execs_cons (h.run A s H hA I F V _ E fun f s' g r => by
    refine bY r fun H' a ez1 rv => ?_; clear r; subst ez1
    exact q _ s' g ⟨H', a, rfl, rv⟩)
theorem Es.ret {e : Expr} {pos : Pos} {p : PV} (h : Ev C d env m e p) : Es C d env m (.Return (some e) pos) (.ret p) :=
  .mk fun A s H hA I F V Q E q => wpAny_Return_some (h.run A s H hA I F V _ E fun v s' g r => q _ s' g.plain ⟨H, .same (I.gr0 g).hid, v, rfl, r⟩)
theorem Es.retmNone {pos : Pos} : Es C d env m (.Return none pos) (.retm .none m) :=
  .mk fun A s H hA I F V Q E q => wpAny_Return_none (q _ s (Gr.refl ..) ⟨H, .same I.hid, .none, rfl, .none, F, V⟩)
theorem Es.brk' {pos : Pos} : Es C d env m (.Break pos) (.brk m) := .mk fun A s H hA I F V Q E q => wpAny_Break (q _ s (Gr.refl ..) ⟨H, .same I.hid, rfl, F, V⟩)
noncomputable abbrev cN (env : Env) (x : Str) : Prop := env.kindOf x = some .local ∨ (env.kindOf x = some .cell ∧ (env.cells.lookup x).isSome = true)
theorem iH {A : Around} {H : Hd} {s s' : Shared} (I : Inv C H s) (F : aF C env H s.heap) (V : aA C env H s.heap m) (g : Gr C [] s s') {x : Str} {v : Value} {p : PV} (hk : cN env x) (r : bD H s'.heap v p)
    {Q : Flow → Shared → Prop} {E : Value → Shared → Prop} (q : ∀ f s'', Gr C (wr env H) s s'' → (∃ H', bM C H H' s s'' ∧ uF C env H' f s'' (.next ((x, p) :: m))) → Q f s'') :
    wpAny C.M A (storeName env x v) (fun _ s'' => Q .next s'') E s' :=
  bP (I.gr0 g) (F.gr0 g) (V.gr0 I F g) hk r _ E fun _ s'' g' r' => q _ s'' (g.plain.trans (g'.wider cI)) ⟨H, .same r'.1, rfl, r'.2⟩
theorem Es.assign {x : Str} {px pos : Pos} {e : Expr} {p : PV} (h : Ev C d env m e p) (hs : swapsWith e (some (.Name x px)) pos.line env = pure false)
    (hk : cN env x) : Es C d env m (.Assign [.Name x px] e pos) (.next ((x, p) :: m)) :=
  .mk fun A s H hA I F V Q E q => wpAny_Assign_Name (h.run A s H hA I F V _ E fun v s' g r => iH I F V g hk (.imm r) q) hs
theorem Es.aug {x : Str} {px pos : Pos} {e : Expr} {op : Operator} {p p' z : PV} (hx : m.lookup x = some p) (h : Ev C d env m e p') (ho : Inp C d op p p' z)
    (hk : cN env x) (hp : p.imm = true := by rfl) : Es C d env m (.AugAssign (.Name x px) op e pos) (.next ((x, z) :: m)) :=
  .mk fun A s H hA I F V Q E q => wpAny_AugAssign_Name (gV hx I F V _ E fun v₁ s₁ g₁ r₁ => h.run A s₁ H hA (I.gr0 g₁) (F.gr0 g₁) (V.gr0 I F g₁) _ E fun v₂ s₂ g₂ r₂ =>
    have g12 := g₁.trans g₂
    ho A s₂ H v₁ v₂ hA (I.gr0 g12) ((r₁.2.is hp).gr0 (I.gr0 g₁) g₂) r₂ _ E fun v₃ s₃ g₃ r₃ => iH I F V (g12.trans g₃) hk (.imm r₃) q)
noncomputable def zBh (env : Env) (x : Str) (f : Value → Sem Unit) : Prop := ∀ (M : Model) (A : Around) (v : Value) (Q : Unit → Shared → Prop) (E : Value → Shared → Prop) (s : Shared), wpAny M A (bindName env x v) Q E s → wpAny M A (f v) Q E s
inductive dB (env : Env) : List Str → List (Value → Sem Unit) → Prop where
  | nil : dB env [] []
  | cons {x : Str} {xs : List Str} {f : Value → Sem Unit} {fs : List (Value → Sem Unit)} : zBh env x f → dB env xs fs → dB env (x :: xs) (f :: fs)
theorem mQ {A : Around} {H : Hd} {xs : List Str} {fs : List (Value → Sem Unit)} (S : dB env xs fs) : ∀ {vs : List Value} {ps : List PV} {m : Vars} {s : Shared}, Inv C H s → aF C env H s.heap → aA C env H s.heap m → aD H.hid s.heap vs ps → xs.length = ps.length →
    (∀ x ∈ xs, cN env x) →
    YG C A (own env) s (assignInOrder fs vs) (fun _ s' => bO C H s'.heap ∧ aF C env H s'.heap ∧ aA C env H s'.heap ((xs.zip ps).reverse ++ m)) := by
  induction S with
  | nil => exact fun I F V _ _ _ Q E q => wpAny_pure (q () _ (Gr.refl ..) ⟨I.hid, F, V⟩)
  | @cons x xs f fs hf hfs ih =>
    intro vs ps m s I F V R hl hk
    cases ps with
    | nil => cases hl
    | cons p ps =>
      refine cps fun Pz kz => ?_
      obtain ⟨v, vs, rfl, r, R⟩ := R.consI
      refine kz ?_; clear kz Pz
      intro Q E q
      show wpAny C.M A (do holding vs (f v); assignInOrder fs vs) Q E s
      refine wpAny_bind (wpAny_holding (hf _ _ _ _ _ _ (wpAny_bindName (bP I F V (hk x mH) (.imm r) _ E fun _ s' g z => ?_))))
      refine ih (I.gr g F.ownB z.1) z.2.1 z.2.2 (R.gr I.tabs g fun x hx => mR (F.hid x hx)) (Nat.succ.inj hl) (fun y hy => hk y (mT hy)) _ E fun _ s'' g' z' => q () s'' (g.trans g') ?_
      rw [List.zip_cons_cons, List.reverse_cons, List.append_assoc]
      exact z'
inductive eV : List Str → List Expr → Prop where
  | nil : eV [] []
  | cons {x : Str} {xs : List Str} {ts : List Expr} {p : Pos} : eV xs ts → eV (x :: xs) (.Name x p :: ts)
theorem eV.fns {xs : List Str} {ts : List Expr} (h : eV xs ts) : dB env xs ((assignEach ts env).map (·.2)) ∧ (assignEach ts env).length = xs.length ∧ (assignEach ts env).findIdx? (·.1) = none := by
  induction h with
  | nil => exact ⟨.nil, rfl, rfl⟩
  | @cons x xs ts p _ ih =>
    refine ⟨.cons (fun M A v Q E s h => wpAny_bind (wpAny_standAt h)) ih.1, ?_, ?_⟩
    · show (_ :: assignEach ts env).length = _
      simp only [List.length_cons, ih.2.1]
    · show ((false, PySem.assign (Expr.Name x p) env) :: assignEach ts env).findIdx? _ = none
      rw [List.findIdx?_cons]
      simp [ih.2.2]
theorem iC {A : Around} {s : Shared} {H : Hd} {ts : List Expr} {k : Nat} {pt : Pos} {xs : List Str} {ps : List PV} {v : Value} (hA : A.handled = none) (I : Inv C H s) (F : aF C env H s.heap) (V : aA C env H s.heap m)
    (ht : eV xs ts) (hl : xs.length = ps.length) (hk : ∀ x ∈ xs, cN env x) (r : Rep H.hid s.heap v (.tup ps)) :
    YG C A (own env) s (PySem.assign (Expr.Tuple ts k pt) env v) (fun _ s' => bO C H s'.heap ∧ aF C env H s'.heap ∧ aA C env H s'.heap ((xs.zip ps).reverse ++ m)) := fun Q E q => by
  refine wpAny_bind (wpAny_standAt ?_)
  refine aV (Rep.tupI r) fun a vs n ez1 hx er R => ?_; subst ez1
  ·
    have hlen := R.length
    refine bZ (ht.fns (env := env)) fun h1 h2 h3 => ?_
    refine wpAny_unpack_tuple hA ⟨_, er, rfl, _, rfl⟩ (by rw [h2, hl, ← hlen]; simp) h3 fun h' hx => ?_
    have hk' : ∀ b o, s.heap.get? b = some o → h'.get? b = some o := fun b o e => hx b o (Nat.ne_of_lt (Heap.lt_size e)) e
    have g2 : Gr C [] s { s with heap := h' } := Gr.of I.ok (tk := s.toks) hk'
    exact mQ h1 (I.gr0 g2) (F.gr0 g2) (V.gr0 I F g2) (R.gr0 I g2) hl hk _ E fun _ s'' g' r' => q _ s'' (g2.plain.trans g') r'
theorem Es.unpack {ts : List Expr} {k : Nat} {pt pos : Pos} {e : Expr} {xs : List Str} {ps : List PV} (h : Ev C d env m e (.tup ps)) (hl : xs.length = ps.length)
    (hk : ∀ x ∈ xs, cN env x)
    (ht : eV xs ts) (hs : swapsWithSole [Expr.Tuple ts k pt] e pos.line env = pure false) (hw : swappedStores [Expr.Tuple ts k pt] e env = pure none) :
    Es C d env m (.Assign [Expr.Tuple ts k pt] e pos) (.next ((xs.zip ps).reverse ++ m)) :=
  .mk fun A s H hA I F V Q E q => wpAny_Assign_stores (h.run A s H hA I F V _ E fun v s' g r =>
    iC (k := k) (pt := pt) hA.handled (I.gr0 g) (F.gr0 g) (V.gr0 I F g) ht hl hk r _ E fun _ s'' g' r' => q _ s'' (g.plain.trans (g'.wider cI)) ⟨H, .same r'.1, rfl, r'.2⟩) hs hw
theorem vJ (xs : List Str) : dB env xs (xs.map fun n => bindName env n) := by
  induction xs with
  | nil => exact .nil
  | cons x xs ih => exact .cons (fun M A v Q E s h => h) ih
theorem aD.reverse {X : List Addr} {h : Heap} {vs : List Value} {ps : List PV} (r : aD X h vs ps) : aD X h vs.reverse ps.reverse := by
  induction vs generalizing ps with
  | nil => cases r; exact .nil
  | cons v vs ih =>
    cases r with
    | cons a b => simp only [List.reverse_cons]; exact (ih b).append (.cons a .nil)
theorem sP {α β : Type} : ∀ (xs : List α) (ps : List β), xs.length = ps.length → (xs.reverse.zip ps.reverse).reverse = xs.zip ps
  | [], [], _ => rfl
  | [], _ :: _, h => by cases h
  | _ :: _, [], h => by cases h
  | x :: xs, p :: ps, h => by
    rw [List.reverse_cons, List.reverse_cons, List.zip_append (by simpa using h)]
    simp [sP xs ps (by simpa using h)]
theorem Es.swap {ts : List Expr} {k : Nat} {pt pos : Pos} {e : Expr} {xs : List Str} {ps : List PV} (h : Ev C d env m e (.tup ps)) (hl : xs.length = ps.length)
    (hk : ∀ x ∈ xs, cN env x)
    (hs : swapsWithSole [Expr.Tuple ts k pt] e pos.line env = pure false) (hw : swappedStores [Expr.Tuple ts k pt] e env = pure (some xs)) :
    Es C d env m (.Assign [Expr.Tuple ts k pt] e pos) (.next (xs.zip ps ++ m)) :=
  .mk fun A s H hA I F V Q E q => by
    show wpAny C.M A (do
      standAt pos
      if ← swapsWithSole [Expr.Tuple ts k pt] e pos.line env then do
        evalThenUse e env fun v => assignAll v ((assignEach [Expr.Tuple ts k pt] env).map (·.2))
        pure .next
      else do
        let v ← eval e env
        assignStores env v (← swappedStores [Expr.Tuple ts k pt] e env) ((assignEach [Expr.Tuple ts k pt] env).map (·.2))) Q E s
    rw [hs, hw]
    refine wpAny_bind (wpAny_standAt (wpAny_bind (wpAny_pure ?_)))
    rw [if_neg (by simp)]
    refine wpAny_bind (h.run A s H hA I F V _ E fun v s' g r => wpAny_bind (wpAny_pure ?_))
    refine aV (Rep.tupI r) fun a vs n ez1 hx er R => ?_; subst ez1
    ·
      have hlen := R.length
      show wpAny C.M A (do
        rule "assign.swapped-stores"
        let items ← unpackItems (.ref a) xs.length none
        assignInOrder (xs.reverse.map fun n => bindName env n) items.reverse
        pure .next) Q E s'
      rw [show xs.length = vs.size by rw [hl, ← hlen]; simp]
      refine wpAny_bind (wpAny_rule (wpAny_bind (wpAny_unpackItems_tuple hA.handled ⟨_, er, rfl, _, rfl⟩ fun h' hx => ?_)))
      have hk' : ∀ b o, s'.heap.get? b = some o → h'.get? b = some o := fun b o e => hx b o (Nat.ne_of_lt (Heap.lt_size e)) e
      have g2 : Gr C [] s' { s' with heap := h' } := Gr.of I.ok (tk := s'.toks) hk'
      have g12 := g.trans g2
      refine wpAny_bind (mQ (vJ xs.reverse) (I.gr0 g12) (F.gr0 g12) (V.gr0 I F g12) (R.gr0 (I.gr0 g) g2).reverse (by simp [hl]) (fun x hx => hk x (List.mem_reverse.mp hx)) _ E fun _ s'' g' r' => wpAny_pure (q _ s'' (g12.plain.trans (g'.wider cI)) ⟨H, .same r'.1, rfl, ?_⟩))
      rw [sP xs ps hl] at r'
      exact r'.2
theorem Es.whileTurns {t : Expr} {b : List Stmt} {pos : Pos} (st : Nat → Vars) (n : Nat) (h0 : m = st n) (ht : ∀ i, i < n → Ts C d env (st (i + 1)) t true) (hb : ∀ i, i < n → Ex C d env (st (i + 1)) b (.next (st i)))
    (he : Ts C d env (st 0) t false) : Es C d env m (.While t b [] pos) (.next (st 0)) := by
  subst h0
  refine .mk ?_
  intro A s H hA I F V Q E q
  refine wpAny_While (codeAny_whileLoop (fun k s' => k ≤ n ∧ Gr C (wr env H) s s' ∧ ∃ H', bM C H H' s s' ∧ aF C env H' s'.heap ∧ aA C env H' s'.heap (st k)) (fun k s' hI => ?_) n ⟨Nat.le_refl _, Gr.refl .., H, .same I.hid, F, V⟩)
  refine cps fun Pz kz => ?_
  obtain ⟨hk, g, H', a, F', V'⟩ := hI
  refine kz ?_; clear kz Pz
  have I' := a.inv I F g
  cases k with
  | zero =>
    refine he.run A s' H' hA I' F' V' _ _ fun c s'' g' e => ?_
    subst e
    refine wpAny_execs_nil ?_
    exact q _ s'' (a.gr g g'.plain) ⟨H', a.trans I F F' g (.same (I'.gr0 g').hid), rfl, F'.gr0 g', V'.gr0 I' F' g'⟩
  | succ k =>
    refine (ht k (by exact hk)).run A s' H' hA I' F' V' _ _ fun c s'' g' e => ?_
    subst e
    have a2 := a.trans I F F' g (.same (I'.gr0 g').hid)
    have g2 := a.gr (env := env) g g'.plain
    refine ((hb k (by exact hk)).run A s'' H' hA (I'.gr0 g') (F'.gr0 g') (V'.gr0 I' F' g')).after I F (F'.gr0 g') g2 a2 fun f s3 g3 r3 => ?_
    refine iU r3 fun H3 a3 ez1 F3 V3 => ?_; clear r3; subst ez1
    exact ⟨k, Nat.lt_succ_self _, by exact Nat.le_of_succ_le hk, g3, H3, a3, F3, V3⟩
theorem Es.whileRet {t : Expr} {b : List Stmt} {pos : Pos} {p : PV} (st : Nat → Vars) (n : Nat) (h0 : m = st n) (ht : ∀ i, i ≤ n → Ts C d env (st i) t true) (hb : ∀ i, i < n → Ex C d env (st (i + 1)) b (.next (st i)))
    (he : Ex C d env (st 0) b (.ret p)) : Es C d env m (.While t b [] pos) (.ret p) := by
  subst h0
  refine .mk ?_
  intro A s H hA I F V Q E q
  refine wpAny_While (codeAny_whileLoop (fun k s' => k ≤ n ∧ Gr C (wr env H) s s' ∧ ∃ H', bM C H H' s s' ∧ aF C env H' s'.heap ∧ aA C env H' s'.heap (st k)) (fun k s' hI => ?_) n ⟨Nat.le_refl _, Gr.refl .., H, .same I.hid, F, V⟩)
  refine cps fun Pz kz => ?_
  obtain ⟨hk, g, H', a, F', V'⟩ := hI
  refine kz ?_; clear kz Pz
  have I' := a.inv I F g
  refine (ht k hk).run A s' H' hA I' F' V' _ _ fun c s'' g' e => ?_
  subst e
  have a2 := a.trans I F F' g (.same (I'.gr0 g').hid)
  have g2 := a.gr (env := env) g g'.plain
  cases k with
  | zero =>
    refine (he.run A s'' H' hA (I'.gr0 g') (F'.gr0 g') (V'.gr0 I' F' g')).after I F (F'.gr0 g') g2 a2 fun f s3 g3 r3 => ?_
    refine cps fun Pz kz => ?_
    obtain ⟨H3, a3, v, rfl, rv⟩ := r3
    refine kz ?_; clear kz Pz
    exact q _ s3 g3 ⟨H3, a3, v, rfl, rv⟩
  | succ k =>
    refine ((hb k (by exact hk)).run A s'' H' hA (I'.gr0 g') (F'.gr0 g') (V'.gr0 I' F' g')).after I F (F'.gr0 g') g2 a2 fun f s3 g3 r3 => ?_
    refine iU r3 fun H3 a3 ez1 F3 V3 => ?_; clear r3; subst ez1
    exact ⟨k, Nat.lt_succ_self _, by exact Nat.le_of_succ_le hk, g3, H3, a3, F3, V3⟩
theorem Es.ifTrue {t : Expr} {b o : List Stmt} {pos : Pos} {out : Out} (ht : Ts C d env m t true) (h : Ex C d env m b out) : Es C d env m (.If t b o pos) out :=
  .mk fun A s H hA I F V Q E q => wpAny_If (ht.run A s H hA I F V _ E fun c s' g e => by
    subst e
    exact (h.run A s' H hA (I.gr0 g) (F.gr0 g) (V.gr0 I F g)).after I F (F.gr0 g) g.plain (.same (I.gr0 g).hid) q)
theorem Es.ifFalse {t : Expr} {b o : List Stmt} {pos : Pos} {out : Out} (ht : Ts C d env m t false) (h : Ex C d env m o out) : Es C d env m (.If t b o pos) out :=
  .mk fun A s H hA I F V Q E q => wpAny_If (ht.run A s H hA I F V _ E fun c s' g e => by
    subst e
    exact (h.run A s' H hA (I.gr0 g) (F.gr0 g) (V.gr0 I F g)).after I F (F.gr0 g) g.plain (.same (I.gr0 g).hid) q)
end
end
section
section
variable {C : Cx}
noncomputable def GlobOk (C : Cx) (scope : Scope) (glb : Vars) : Prop :=
  ∀ x p, glb.lookup x = some p → ∃ v, (∀ X h, Rep X h v p) ∧ scope.names.lookup x = some .globalImplicit ∧ (C.mg x = some v ∨ (C.mg x = none ∧ C.mb x = some v))
theorem GlobOk.nil {C : Cx} {scope : Scope} : GlobOk C scope [] := fun x p e => by cases e
theorem GlobOk.cons {C : Cx} {scope : Scope} {glb : Vars} {x : Str} {v : Value} {p : PV} (hr : ∀ X h, Rep X h v p) (hk : scope.names.lookup x = some .globalImplicit) (hv : C.mg x = some v ∨ (C.mg x = none ∧ C.mb x = some v)) (h : GlobOk C scope glb) :
    GlobOk C scope ((x, p) :: glb) := fun y q e => by
  rw [List.lookup_cons] at e
  by_cases hxy : y == x
  · simp only [hxy] at e
    cases e
    have := eq_of_beq hxy
    subst this
    exact ⟨v, hr, hk, hv⟩
  · simp only [hxy] at e
    exact h y q e
structure zB (C : Cx) (a : Addr) (name : Str) (params : Arguments) (body : List Stmt) (scope : Scope) (cd : Value) : Prop where
  obj : ∃ o pm doc, C.hB.get? a = some o ∧ o.data = .func (docDef name params body scope pm cd doc)
  tab : a ∉ C.tabs
  code : ∀ H s, Inv C H s → s.heap.CodeRec cd name
theorem zB.at {a : Addr} {name : Str} {params : Arguments} {body : List Stmt} {scope : Scope} {cd : Value} (F : zB C a name params body scope cd) : FnAt C a := by
  refine bH F.obj fun o pm doc h1 h2 => ?_
  exact ⟨⟨o, _, h1, h2⟩, F.tab⟩
theorem dZ {β : Type} : ∀ (xs : List Str) (vs : List β), xs.Nodup → ∀ x, ((xs.zip vs).reverse).lookup x = (xs.zip vs).lookup x
  | [], _, _, _ => by simp
  | _ :: _, [], _, _ => by simp
  | y :: xs, v :: vs, hn, x => by
    obtain ⟨h1, h2⟩ := List.nodup_cons.mp hn
    rw [List.zip_cons_cons, List.reverse_cons, List.lookup_append, dZ xs vs h2 x, List.lookup_cons, List.lookup_cons]
    by_cases e : x == y
    · have := eq_of_beq e
      subst this
      have hno : (xs.zip vs).lookup x = none := by
        rw [List.lookup_eq_none_iff]
        intro p hp
        have := List.of_mem_zip hp
        simp only [bne_iff_ne, ne_eq]
        rintro rfl
        exact h1 this.1
      rw [hno]; simp
    · simp only [e]
      simp
theorem lkT {β : Type} {k k' : Str} {q : β} {m : List (Str × β)} (h : (k == k') = true) : List.lookup k ((k', q) :: m) = some q := by rw [List.lookup_cons, h]
theorem lkF {β : Type} {k k' : Str} {q : β} {m : List (Str × β)} (h : (k == k') = false) : List.lookup k ((k', q) :: m) = List.lookup k m := by rw [List.lookup_cons, h]
theorem dD {X : List Addr} {h : Heap} (xs : List Str) {vs : List Value} {ps : List PV} (r : aD X h vs ps) : ∀ x p, (xs.zip ps).lookup x = some p → ∃ v, (xs.zip vs).lookup x = some v ∧ Rep X h v p :=
  r.ind (P := fun vs ps => ∀ xs x p, (List.zip xs ps).lookup x = some p → ∃ v, (List.zip xs vs).lookup x = some v ∧ Rep X h v p) (fun xs x p e => by cases xs <;> cases e) (fun a _ ih xs x p e => by
    cases xs with
    | nil => cases e
    | cons y xs =>
      cases hb : x == y with
      | true => exact ⟨_, lkT hb, Option.some.inj ((lkT hb).symm.trans e) ▸ a⟩
      | false =>
        obtain ⟨v, e1, e2⟩ := ih xs x p ((lkF hb).symm.trans e)
        exact ⟨v, (lkF hb).trans e1, e2⟩) xs
theorem enter {H : Hd} {s s₁ : Shared} {env : Env} (I : Inv C H s) (g : Gr C [] s s₁) (hnew : ∀ x ∈ own env, s.heap.get? x = none) (hthere : ∀ x ∈ own env, (s₁.heap.get? x).isSome = true) (hnc : ∀ x ∈ own env, ∀ o, s₁.heap.get? x = some o → ¬ aB o) : Inv C ⟨none, own env ++ H.hid⟩ s₁ := by
  have I1 := I.gr0 g
  refine ⟨I1.ok, I1.keep, I1.tab, ⟨fun a ha => ?_, fun a ha => mR (I.tabs a ha), (fun a h => by cases h), fun a ha o e => (mA (by simpa [Hd.hid] using ha : a ∈ own env ++ H.hid)).elim (fun h => hnc a h o e) fun h => I1.hid.nc a h o e⟩, I1.tk⟩
  rcases mA (by simpa [Hd.hid] using ha : a ∈ own env ++ H.hid) with h | h
  · exact hthere a h
  · exact I1.hid.there a h
theorem aD.enter {H : Hd} {s s₁ : Shared} {env : Env} (I : Inv C H s) (g : Gr C [] s s₁) (hnew : ∀ x ∈ own env, s.heap.get? x = none) {vs : List Value} {ps : List PV} (R : aD H.hid s.heap vs ps) : aD (own env ++ H.hid) s₁.heap vs ps :=
  (R.rehide (Y := own env ++ H.hid) fun a ha => (mA ha).elim (fun h => .inr (hnew a h)) .inl).gr (fun b hb => mR (I.tabs b hb)) g (fun x h => by cases h)
theorem xI {H : Hd} {s s₁ s' : Shared} {env : Env} {A : Around} {b : List Stmt} {p : PV} (I : Inv C H s) (g : Gr C [] s s₁) (hnew : ∀ x ∈ own env, s.heap.get? x = none) {f : Flow} (g' : Gr C (wr env ⟨none, own env ++ H.hid⟩) s₁ s')
    (r : ∃ H', bM C ⟨none, own env ++ H.hid⟩ H' s₁ s' ∧ uF C env H' f s' (.ret p)) : ∃ v, f = .ret v ∧ Gr C [] s s' ∧ Rep H.hid s'.heap v p := by
  refine cps fun Pz kz => ?_
  obtain ⟨H', a, v, rfl, rv⟩ := r
  refine kz ?_; clear kz Pz
  refine ⟨v, rfl, g.then g' fun y hy => .inr (hnew y (by simpa [wr] using hy)), rv.rehide fun x hx => .inl ?_⟩
  rw [Hd.hid, a.X]
  exact mR (mR hx)
theorem Calls.plain {a : Addr} {name : Str} {params : Arguments} {body : List Stmt} {scope : Scope} {cd : Value} (hF : zB C a name params body scope cd) {d : Nat} (hD : d < recursionLimit)
    {xs : List Str} {ps : List PV} {r : PV} {glb : Vars} (hb : ∀ pm doc vs, vs.length = xs.length → bindArgs (docDef name params body scope pm cd doc) ⟨vs, []⟩ = pure (xs.zip vs))
    (hloc : ∀ x ∈ xs, scope.names.lookup x = some .local) (hnd : xs.Nodup) (hl : xs.length = ps.length) (hcell : ∀ x ∈ scope.names, x.2 ≠ .cell) (hk : scope.kind = .function) (hgen : scope.isGenerator = false) (hco : scope.isCoroutine = false)
    (G : GlobOk C scope glb) (h : ∀ L, Ex C (d + 1) (envOf name scope L a cd) (xs.zip ps ++ glb) body (.ret r)) : Calls C d (.ref a) ps r := by
  intro A s H vs hA I R Q E q
  have K := I.ok
  refine bH hF.obj fun o pm doc ho hd => ?_
  have hlen := R.length
  refine wpAny_call (call_plain (binds := xs.zip vs) (by have := hA.depth; exact Nat.lt_of_le_of_lt this hD) (I.keep _ _ hF.tab ho) hd I.nolimit (hF.code H s I) (hb pm doc vs (by omega)) (fun x hx => hloc x.1 (List.of_mem_zip hx).1) (fun h₁ F => ?_) hco hgen hk hcell)
  generalize hL : s.heap.objs.size = L at F ⊢
  have g1 : Gr C [] s { s with heap := h₁, toks := s.toks + (xs.zip vs).length } := Gr.of K F.keep
  have hLn : s.heap.get? L = none := by
    cases e : s.heap.get? L with
    | none => rfl
    | some o' => exact absurd (Heap.lt_size e) (by rw [hL]; exact Nat.lt_irrefl _)
  have hLt : L ∉ C.tabs := fun ht => by
    refine iT (K.tabIs _ I.tab L ht) fun o' _ e' _ _ => ?_
    rw [hLn] at e'; cases e'
  have hLB : C.hB.get? L = none := by
    cases e : C.hB.get? L with
    | none => rfl
    | some o' => rw [I.keep L o' hLt e] at hLn; cases hLn
  have hown : own (envOf name scope L a cd) = [L] := rfl
  have hnew : ∀ x ∈ own (envOf name scope L a cd), s.heap.get? x = none := by rw [hown]; intro x hx; simp at hx; subst hx; exact hLn
  have I1 := enter (env := envOf name scope L a cd) I g1 hnew (by rw [hown]; intro x hx; simp at hx; subst hx; obtain ⟨o, _, _, e, _⟩ := F.ns; show (h₁.get? x).isSome = true; rw [e]; rfl) (by rw [hown]; intro x hx o e; simp at hx; subst hx; exact aS F.ns e)
  have R1 := R.enter (env := envOf name scope L a cd) I g1 hnew
  have FO : aF C (envOf name scope L a cd) ⟨none, own (envOf name scope L a cd) ++ H.hid⟩ h₁ := ⟨⟨hk, rfl, rfl⟩, (fun c hc => by cases hc), hLt, hLB, ⟨_, F.ns⟩, (fun x c hc => by cases hc), (fun x y c hc => by cases hc), fun x hx => mL hx⟩
  have V : aA C (envOf name scope L a cd) ⟨none, own (envOf name scope L a cd) ++ H.hid⟩ h₁ (xs.zip ps ++ glb) := fun x p e => by
    rw [List.lookup_append] at e
    cases e2 : (xs.zip ps).lookup x with
    | some p' =>
      rw [e2] at e
      cases e
      refine aI (dD xs R1 x p e2) fun v hv rv => ?_
      refine ⟨v, .inl ⟨?_, _, F.ns, by rw [dZ xs vs hnd x]; exact hv⟩, .imm rv⟩
      exact hloc x (List.of_mem_zip (mem_of_lookup hv)).1
    | none =>
      rw [e2] at e
      refine bY (G x p e) fun v hr h1 h2 => ?_
      exact ⟨v, .inr (.inr ⟨h1, h2⟩), .imm (hr _ h₁)⟩
  refine (h L).run (A.deeper (envOf name scope L a cd)) _ _ ⟨hA.handled, by show A.depth + 1 ≤ d + 1; have := hA.depth; exact Nat.add_le_add_right this 1, by show A.units + 3 ≤ 10 * (d + 1); have := hA.units; omega⟩ I1 FO V _ _ fun f s' g r' => ?_
  refine bY (xI (A := A) (b := []) I g1 hnew g r') fun v ez1 g2 rv => ?_; subst ez1
  exact q v s' g2 rv
end
end
section
noncomputable def wK : PV → String
  | .none => "NoneType"
  | .bool _ => "bool"
  | .int _ => "int"
  | .str _ => "str"
  | .tup _ => "tuple"
  | .lst _ => "list"
  | .rng _ _ _ => "range"
  | _ => "?"
noncomputable def PV.plain : PV → Bool
  | .none | .bool _ | .int _ | .str _ | .tup _ | .lst _ | .rng _ _ _ => true
  | _ => false
theorem Rep.type {X : List Addr} {s : Shared} {v : Value} {p : PV} (r : Rep X s.heap v p) (hp : p.plain = true) : s.TypeIs v (wK p) ∧ ∀ a, v = .ref a → ∃ ob, s.heap.get? a = some ob ∧ ob.dict = Option.none := by
  cases r with
  | none => exact ⟨rfl, fun a e => by cases e⟩
  | bool b => exact ⟨rfl, fun a e => by cases e⟩
  | int i t => exact ⟨rfl, fun a e => by cases e⟩
  | str x t => exact ⟨rfl, fun a e => by cases e⟩
  | tup hx e r => exact ⟨⟨_, e, rfl⟩, fun a h => by cases h; exact ⟨_, e, rfl⟩⟩
  | lst hx e r => exact ⟨⟨_, e, rfl⟩, fun a h => by cases h; exact ⟨_, e, rfl⟩⟩
  | rng hx e => exact ⟨⟨_, e, rfl⟩, fun a h => by cases h; exact ⟨_, e, rfl⟩⟩
  | fn v => cases hp
  | sem P => cases hp
structure lU (T : String) (name : Str) (id : String) : Prop where
  pa : PlainAttrs T
  slot : Slot T name id
  ty : typeOf (.builtin id) = pure (.type "method_descriptor")
section
variable {C : Cx} {d : Nat} {env : Env} {m : Vars}
theorem Ev.meth0 {o : Expr} {name : Str} {id : String} {apos pos : Pos} {p r : PV} (ho : Ev C d env m o p) (hp : p.plain = true) (hm : lU (wK p) name id) (hc : Calls C d (.builtin id) [p] r)
    (hbase : attributeBase o name env (eval o env) = eval o env) (hline : (apos.endLine == pos.line) = true) : Ev C d env m (.Call (.Attribute o name apos) [] [] pos) r :=
  .mk fun A s H hA I F V Q E q => wpAny_Call_method hbase rfl hline hm.pa hm.slot hm.ty (ho.run A s H hA I F V _ E fun v s' g rv => by
    obtain ⟨h1, h2⟩ := rv.type hp
    refine ⟨h1, h2, ?_⟩
    refine callWith_builtin rfl (evalArgs_nil3 ?_)
    exact hc A s' H [v] hA (I.gr0 g) (.cons rv .nil) _ E fun v s3 g3 r3 => q v s3 (g.trans g3) r3)
theorem Ev.meth {o e : Expr} {es : List Expr} {name : Str} {id : String} {apos pos : Pos} {p r : PV} {ps : List PV} (ho : Ev C d env m o p) (hp : p.plain = true) (hm : lU (wK p) name id)
    (ha : Evs C d env m (e :: es) ps) (hc : Calls C d (.builtin id) (p :: ps) r)
    (hbase : attributeBase o name env (eval o env) = eval o env) (hline : (apos.endLine == pos.line) = true)
    (hfew : ((backTo pos (starEach (e :: es) env)).all (fun x => !x.1) && (backToKw pos (keywordEach [] env)).all (fun x => x.1.isSome)
      && decide ((e :: es).length + ([] : List Keyword).length + (if ([] : List Keyword).isEmpty then 0 else 1) < 30)) = true) : Ev C d env m (.Call (.Attribute o name apos) (e :: es) [] pos) r :=
  .mk fun A s H hA I F V Q E q => wpAny_Call_method hbase hfew hline hm.pa hm.slot hm.ty (ho.run A s H hA I F V _ E fun v s' g rv => by
    obtain ⟨h1, h2⟩ := rv.type hp
    refine ⟨h1, h2, ?_⟩
    have hst := ha.star (pos := pos)
    cases ha with
    | cons k1 hs k2 =>
      have ha : Evs C d env m (e :: es) (_ :: _) := .cons k1 hs k2
      rw [hs] at hst ⊢
      refine callWith_builtin hst (evalArgs_plain ?_)
      have := ha.spliced (pos := pos) hA (I.gr0 g) (F.gr0 g) (V.gr0 I F g)
      rw [hs] at this
      exact this _ E fun vs s'' g' rs => hc A s'' H (v :: vs) hA ((I.gr0 g).gr0 g') (.cons (rv.gr0 (I.gr0 g) g') rs) _ E fun v s3 g3 r3 => q v s3 ((g.trans g').trans g3) r3)
theorem Calls.bit_length {a : Int} : Calls C d (.builtin "int.bit_length") [.int a] (.int (Builtin.Int.intBits a)) := fun A s H vs hA I R Q E q => by
  cases R with | cons r R => cases R; cases r; exact call_int_bit_length (q _ _ Gr.toks' (.int _ _))
theorem jM : lU "int" "bit_length" "int.bit_length" := ⟨F.plainAttrs_int, PyProof.Rows.slot_int_bit_length, PyProof.Rows.type_int_bit_length⟩
theorem Ev.bitlen {o : Expr} {apos pos : Pos} {a : Int} (ho : Ev C d env m o (.int a))
    (hbase : attributeBase o (Str.ofString "bit_length") env (eval o env) = eval o env) (hline : (apos.endLine == pos.line) = true) : Ev C d env m (.Call (.Attribute o (Str.ofString "bit_length") apos) [] [] pos) (.int (Builtin.Int.intBits a)) :=
  Ev.meth0 ho rfl jM Calls.bit_length hbase hline
theorem Calls.divmod {a b : Int} (hb : b ≠ 0) (hp : Builtin.divisionGoesByPylong a b = false) : Calls C d (.builtin "divmod") [.int a, .int b] (.tup [.int (a.fdiv b), .int (a.fmod b)]) := fun A s H vs hA I R Q E q => by
  cases R with | cons r R => cases R with | cons r' R => cases R; cases r; cases r'; exact divmod_int hb (q _ _ (Gr.push I.ok) (.tup (n := 0) (I.fresh (Nat.le_refl _)) (Heap.get?_push_size _ rfl) (.cons (.int _ _) (.cons (.int _ _) .nil)))) (.inl hp)
theorem Calls.abs {a : Int} : Calls C d (.builtin "abs") [.int a] (.int (if a < 0 then -a else a)) := fun A s H vs hA I R Q E q => by
  cases R with | cons r R => cases R; cases r; exact YG.ofToks (R := fun v s' => Rep H.hid s'.heap v _) (fun Q E q => call_abs_int fun u tk => q _ _ (fun h => Gr.toks' h) (.int _ _)) Q E q
end
end
section
inductive Sub (m : Vars) : Vars → Prop where
  | nil : Sub m []
  | cons {x : Str} {p : PV} {m' : Vars} : m.lookup x = some p → Sub m m' → Sub m ((x, p) :: m')
theorem Sub.look {m m' : Vars} (h : Sub m m') : ∀ x p, m'.lookup x = some p → m.lookup x = some p := by
  induction h with
  | nil => intro x p e; cases e
  | @cons y q m' hy _ ih =>
    intro x p e
    rw [List.lookup_cons] at e
    by_cases hxy : x == y
    · simp only [hxy] at e
      cases e
      have := eq_of_beq hxy
      subst this
      exact hy
    · simp only [hxy] at e
      exact ih x p e
section
variable {C : Cx} {d : Nat} {env : Env} {m m' : Vars}
theorem aA.sub {H : Hd} {h : Heap} (V : aA C env H h m) (k : Sub m m') : aA C env H h m' := fun x p e => V x p (k.look x p e)
theorem Es.sub {st : Stmt} {o : Out} (k : Sub m m') (h : Es C d env m' st o) : Es C d env m st o := .mk fun A s H hA I F V => h.run A s H hA I F (V.sub k)
theorem Ex.sub {b : List Stmt} {o : Out} (k : Sub m m') (h : Ex C d env m' b o) : Ex C d env m b o := .mk fun A s H hA I F V => h.run A s H hA I F (V.sub k)
theorem Es.less {st : Stmt} {m₁ m₂ : Vars} (h : Es C d env m st (.next m₁)) (k : Sub m₁ m₂) : Es C d env m st (.next m₂) :=
  .mk fun A s H hA I F V => (h.run A s H hA I F V).mono fun f s' g r => r.imp fun H' r => ⟨r.1, r.2.1, r.2.2.1, r.2.2.2.sub k⟩
theorem Ex.less {b : List Stmt} {m₁ m₂ : Vars} (h : Ex C d env m b (.next m₁)) (k : Sub m₁ m₂) : Ex C d env m b (.next m₂) :=
  .mk fun A s H hA I F V => (h.run A s H hA I F V).mono fun f s' g r => r.imp fun H' r => ⟨r.1, r.2.1, r.2.2.1, r.2.2.2.sub k⟩
theorem Ev.cast {e : Expr} {p p' : PV} (h : Ev C d env m e p) (k : p = p') : Ev C d env m e p' := k ▸ h
theorem Ts.cast {e : Expr} {p p' : Bool} (h : Ts C d env m e p) (k : p = p') : Ts C d env m e p' := k ▸ h
end
theorem pQ {a : Int} {n : Nat} (h : a.natAbs < 2 ^ n) : Builtin.Int.intBits a ≤ n := by
  unfold Builtin.Int.intBits
  by_cases h0 : a = 0
  · simp [h0]
  · have h1 : a.natAbs ≠ 0 := by exact Int.natAbs_ne_zero.mpr h0
    have := (Nat.log2_lt h1).mpr h
    simp only [beq_iff_eq, h0, if_false]
    exact this
theorem aN {a : Int} {n : Nat} (h0 : 0 ≤ a) (h : a < 2 ^ n) : Builtin.Int.intBits a ≤ n := by
  refine pQ ?_
  have h2 : ((2 ^ n : Nat) : Int) = (2 : Int) ^ n := kbt_cast n
  omega
theorem fR {a : Int} (h0 : 0 ≤ a) : a < 2 ^ (Builtin.Int.intBits a) := by
  have := lt_pow_of_bits (a := a) (Nat.le_refl _) (Nat.le_refl _)
  have h2 : ((2 ^ Builtin.Int.intBits a : Nat) : Int) = (2 : Int) ^ Builtin.Int.intBits a := kbt_cast _
  omega
theorem sG {a : Int} (h0 : 0 < a) : 2 ^ (Builtin.Int.intBits a - 1) ≤ a := by
  have h1 : a.natAbs ≠ 0 := by walk_at "o"
  have h3 : Builtin.Int.intBits a = a.natAbs.log2 + 1 := by
    unfold Builtin.Int.intBits
    have : (a == 0) = false := by simp; exact Int.ne_of_gt h0
    simp [this]
  rw [h3, Nat.add_sub_cancel]
  have := Nat.log2_self_le h1
  have h2 : ((2 ^ a.natAbs.log2 : Nat) : Int) = (2 : Int) ^ a.natAbs.log2 := kbt_cast _
  omega
end
section
noncomputable def envC (name : Str) (scope : Scope) (L a : Addr) (cd : Value) : Env :=
  newEnv scope L mainGlobals (cellsFrom (L + 1) scope.names []) (name ++ ".<locals>.") (some a) cd none builtinsNs
theorem jJ {k : Str → Option NameKind} {x : Str} : ∀ (r : List (Str × Value)) (m : Str → Option Value), (∀ y ∈ r, y.1 ≠ x) → bindL k r m x = m x
  | [], m, _ => rfl
  | (n, v) :: r, m, h => by
    unfold bindL
    rw [jJ r _ fun y hy => h y (mT hy)]
    have hn : x ≠ n := fun e => h (n, v) mH e.symm
    split
    · simp [hn]
    · rfl
theorem jK {k : Str → Option NameKind} {x : Str} : ∀ (r : List (Str × Value)) (m : Str → Option Value), (∀ y ∈ r, y.1 ≠ x) → bindC k r m x = m x
  | [], m, _ => rfl
  | (n, v) :: r, m, h => by
    unfold bindC
    rw [jK r _ fun y hy => h y (mT hy)]
    have hn : x ≠ n := fun e => h (n, v) mH e.symm
    split
    · rfl
    · simp [hn]
theorem rJ {k : Str → Option NameKind} {x : Str} (hk : k x = some .local) : ∀ (xs : List Str) (vs : List Value) (m : Str → Option Value), xs.Nodup → ∀ v, (xs.zip vs).lookup x = some v → bindL k (xs.zip vs) m x = some v
  | [], _, m, _, v, h => by simp at h
  | _ :: _, [], m, _, v, h => by simp at h
  | y :: xs, w :: vs, m, hn, v, h => by
    obtain ⟨h1, h2⟩ := List.nodup_cons.mp hn
    rw [List.zip_cons_cons, List.lookup_cons] at h
    rw [List.zip_cons_cons]
    unfold bindL
    by_cases hxy : x == y
    · simp only [hxy] at h
      cases h
      have := eq_of_beq hxy
      subst this
      rw [if_pos hk, jJ]
      · simp
      · intro z hz e
        exact h1 (e ▸ (List.of_mem_zip hz).1)
    · simp only [hxy] at h
      exact rJ hk xs vs _ h2 v h
theorem rK {k : Str → Option NameKind} {x : Str} (hk : k x = some .cell) : ∀ (xs : List Str) (vs : List Value) (m : Str → Option Value), xs.Nodup → ∀ v, (xs.zip vs).lookup x = some v → bindC k (xs.zip vs) m x = some v
  | [], _, m, _, v, h => by simp at h
  | _ :: _, [], m, _, v, h => by simp at h
  | y :: xs, w :: vs, m, hn, v, h => by
    obtain ⟨h1, h2⟩ := List.nodup_cons.mp hn
    rw [List.zip_cons_cons, List.lookup_cons] at h
    rw [List.zip_cons_cons]
    unfold bindC
    by_cases hxy : x == y
    · simp only [hxy] at h
      cases h
      have := eq_of_beq hxy
      subst this
      rw [if_neg (by rw [hk]; simp), jK]
      · simp
      · intro z hz e
        exact h1 (e ▸ (List.of_mem_zip hz).1)
    · simp only [hxy] at h
      exact rK hk xs vs _ h2 v h
theorem bK {β : Type} : ∀ (l : List (Str × β)), (l.map (·.1)).Nodup → ∀ c ∈ l, l.lookup c.1 = some c.2
  | [], _, c, h => by cases h
  | (x, b) :: l, hn, c, h => by
    obtain ⟨h1, h2⟩ := List.nodup_cons.mp hn
    rw [List.lookup_cons]
    rcases mC h with rfl | h
    · simp
    · have : (c.1 == x) = false := by
        rw [beq_eq_false_iff_ne]
        rintro e
        exact h1 (List.mem_map.mpr ⟨c, h, e⟩)
      rw [this]
      exact bK l h2 c h
theorem fX : ∀ (names : List (Str × NameKind)) (n : Nat) (acc : List (Str × Addr)), (cellsFrom n names acc).map (·.1) = ((names.filter fun x => x.2 == .cell).map (·.1)).reverse ++ acc.map (·.1)
  | [], n, acc => by simp [cellsFrom]
  | (x, k) :: r, n, acc => by
    unfold cellsFrom
    by_cases hk : k == .cell
    · rw [if_pos hk, fX r]
      simp [hk]
    · rw [if_neg hk, fX r]
      simp [hk]
theorem eU {names : List (Str × NameKind)} (h : (names.map (·.1)).Nodup) (n : Nat) : ∀ c ∈ cellsFrom n names [], (cellsFrom n names []).lookup c.1 = some c.2 := by
  refine bK _ ?_
  rw [fX]
  simp only [List.map_nil, List.append_nil]
  have h2 : ((names.filter fun x => x.2 == .cell).map (·.1)).Nodup := h.sublist ((List.filter_sublist).map _)
  exact List.pairwise_reverse.mpr (h2.imp fun e => Ne.symm e)
section
variable {C : Cx}
theorem Calls.cells {a : Addr} {name : Str} {params : Arguments} {body : List Stmt} {scope : Scope} {cd : Value} (hF : zB C a name params body scope cd) {d : Nat} (hD : d < recursionLimit)
    {xs : List Str} {ps : List PV} {r : PV} {glb : Vars} (hb : ∀ pm doc vs, vs.length = xs.length → bindArgs (docDef name params body scope pm cd doc) ⟨vs, []⟩ = pure (xs.zip vs))
    (hloc : ∀ x ∈ xs, scope.names.lookup x = some .local ∨ (scope.names.lookup x = some .cell ∧ ∀ n, ((cellsFrom n scope.names []).lookup x).isSome = true)) (hnd : xs.Nodup) (hl : xs.length = ps.length)
    (hns : (scope.names.map (·.1)).Nodup) (hk : scope.kind = .function) (hgen : scope.isGenerator = false) (hco : scope.isCoroutine = false)
    (G : GlobOk C scope glb) (h : ∀ L, Ex C (d + 1) (envC name scope L a cd) (xs.zip ps ++ glb) body (.ret r)) : Calls C d (.ref a) ps r := by
  intro A s H vs hA I R Q E q
  have K := I.ok
  refine bH hF.obj fun o pm doc ho hd => ?_
  have hlen := R.length
  refine wpAny_call (codeAny_call_function (by have := hA.depth; exact Nat.lt_of_le_of_lt this hD) (I.keep _ _ hF.tab ho) hd hco hgen rfl (hF.code H s I) ?_)
  rw [hb pm doc vs (by omega)]
  refine wpAny_pure (wpAny_with_toks (n := s.toks) (Nat.le_refl _) (wpAny_newFunctionEnv_cells hk (fun x hx => (hloc x.1 (List.of_mem_zip hx).1).imp id fun z => ⟨z.1, z.2 _⟩) fun env he s' x htk => ?_))
  have he' : env = envC name scope s.heap.objs.size a cd := he
  clear he
  subst he'
  refine cps fun Pz kz => ?_
  obtain ⟨⟨⟨h₁, tk, rfl⟩, hns', hkeep, hfresh⟩, hcell, hap, habove⟩ := x
  refine kz ?_; clear kz Pz
  generalize hL : s.heap.objs.size = L at *
  have g1 : Gr C [] s { s with heap := h₁, toks := tk } := Gr.of K hkeep htk
  have fresh : ∀ b : Addr, L ≤ b → b ∉ C.tabs ∧ C.hB.get? b = none ∧ s.heap.get? b = none := fun b hbL => by
    have h0 : s.heap.get? b = none := by
      cases e : s.heap.get? b with
      | none => rfl
      | some o' => exact absurd (Heap.lt_size e) (by rw [hL]; exact Nat.not_lt.mpr hbL)
    have h1 : b ∉ C.tabs := fun ht => by
      refine iT (K.tabIs _ I.tab b ht) fun o' _ e' _ _ => ?_
      rw [h0] at e'; cases e'
    refine ⟨h1, ?_, h0⟩
    cases e : C.hB.get? b with
    | none => rfl
    | some o' => rw [I.keep b o' h1 e] at h0; cases h0
  have hfound : lW (envC name scope L a cd) := fun c hc => ⟨c.1, eU hns (L + 1) c hc⟩
  have hown : ∀ x ∈ own (envC name scope L a cd), L ≤ x ∧ (h₁.get? x).isSome = true := fun x hx => by
    rcases mC hx with rfl | hx
    · refine ⟨Nat.le_refl _, ?_⟩
      refine bH hns' fun o _ _ e _ => ?_; clear hns'
      exact Option.isSome_iff_exists.mpr ⟨o, e⟩
    · obtain ⟨c, hc, rfl⟩ := mM hx
      have hm := (List.mem_filter.mp hc).1
      refine ⟨Nat.le_of_lt (habove c.1 c.2 hm), ?_⟩
      refine aI (hcell c.1 c.2 (eU hns (L + 1) c hm)) fun o e _ => ?_
      exact Option.isSome_iff_exists.mpr ⟨o, e⟩
  have hnew : ∀ x ∈ own (envC name scope L a cd), s.heap.get? x = none := fun x hx => (fresh x (hown x hx).1).2.2
  have I1 := enter (env := envC name scope L a cd) I g1 hnew (fun x hx => (hown x hx).2) (fun x hx o e => by
    rcases mC hx with rfl | hx
    · exact aS hns' e
    · obtain ⟨c, hc, rfl⟩ := mM hx
      exact gR (hcell c.1 c.2 (eU hns (L + 1) c (List.mem_filter.mp hc).1)) e)
  have R1 := R.enter (env := envC name scope L a cd) I g1 hnew
  refine ⟨I1.nolimit, codeAny_func ?_⟩
  have FO : aF C (envC name scope L a cd) ⟨none, own (envC name scope L a cd) ++ H.hid⟩ h₁ := by
    refine ⟨⟨hk, rfl, rfl⟩, hfound, (fresh L (Nat.le_refl _)).1, (fresh L (Nat.le_refl _)).2.1, ⟨_, hns'⟩, fun x c hc => ?_, fun x y c hx hy => ?_, fun x hx => mL hx⟩
    · have hm := mem_of_lookup hc
      have := habove x c hm
      exact ⟨(fresh c (Nat.le_of_lt this)).1, (fresh c (Nat.le_of_lt this)).2.1, _, hcell x c hc⟩
    · exact name_of_addr hap (mem_of_lookup hx) (mem_of_lookup hy)
  have V : aA C (envC name scope L a cd) ⟨none, own (envC name scope L a cd) ++ H.hid⟩ h₁ (xs.zip ps ++ glb) := fun x p e => by
    rw [List.lookup_append] at e
    cases e2 : (xs.zip ps).lookup x with
    | some p' =>
      rw [e2] at e
      cases e
      refine aI (dD xs R1 x p e2) fun v hv rv => ?_
      refine ⟨v, ?_, .imm rv⟩
      have hx : x ∈ xs := (List.of_mem_zip (mem_of_lookup hv)).1
      rcases hloc x hx with hlx | ⟨hcx, hcs⟩
      · exact .inl ⟨hlx, _, hns', rJ (k := (envC name scope L a cd).kindOf) hlx xs vs _ hnd v hv⟩
      · obtain ⟨c, hc⟩ := iS (hcs (L + 1))
        have := hcell x c hc
        rw [rK (k := (envC name scope L a cd).kindOf) hcx xs vs _ hnd v hv] at this
        exact .inr (.inl ⟨.inl hcx, c, hc, this⟩)
    | none =>
      rw [e2] at e
      refine bY (G x p e) fun v hr h1 h2 => ?_
      exact ⟨v, .inr (.inr ⟨h1, h2⟩), .imm (hr _ h₁)⟩
  refine (h L).run (A.deeper (envC name scope L a cd)) _ _ ⟨hA.handled, by show A.depth + 1 ≤ d + 1; have := hA.depth; exact Nat.add_le_add_right this 1, by show A.units + 3 ≤ 10 * (d + 1); have := hA.units; omega⟩ I1 FO V _ _ fun f s' g r' => ?_
  refine bY (xI (A := A) (b := []) I g1 hnew g r') fun v ez1 g2 rv => ?_; subst ez1
  exact q v s' g2 rv
end
end
section
noncomputable def lT (o : Obj) : Prop := ∀ n, o.cls = .type n → ["enumerate", "zip", "dict_itemiterator", "dict_reverseitemiterator", "odict_iterator", "itertools.zip_longest", "itertools.pairwise"].contains n = false
theorem lT.of {o : Obj} {n : String} (h : o.cls = .type n) (k : ["enumerate", "zip", "dict_itemiterator", "dict_reverseitemiterator", "odict_iterator", "itertools.zip_longest", "itertools.pairwise"].contains n = false) : lT o := fun n' h' => by
  rw [h] at h'; cases h'; exact k
structure Itr (C : Cx) (X0 : List Addr) (h0 : Heap) (I : Addr) (l : List PV) (fp : List Addr) (St : Nat → Heap → Prop) : Prop where
  walks : ∀ A : Around, A.handled = none → Walks C.prog C.w A I fp [I] l.length (fun i v => ∃ q, l[i]? = some q ∧ Rep (I :: X0) h0 v q) St
  fpI : ∀ b ∈ fp, b = I ∨ b ∉ X0
  there : ∀ b ∈ fp, (h0.get? b).isSome = true
  self : I ∈ fp
  code : ∀ i h, St i h → ∃ o, h.get? I = some o ∧ ¬ aB o ∧ lT o
section
variable {C : Cx} {X0 : List Addr} {h0 : Heap} {I : Addr} {l : List PV} {fp : List Addr} {St : Nat → Heap → Prop}
theorem Itr.free (it : Itr C X0 h0 I l fp St) (hI : I ∉ C.tabs) {i : Nat} {h : Heap} (hs : St i h) : zA C [I] h := fun x hx => by
  rcases mS hx with rfl
  refine ⟨hI, fun o e => ?_⟩
  refine bY (it.code i h hs) fun o' e' hc _ => ?_
  rw [e] at e'; cases e'; exact hc
theorem Itr.next (it : Itr C X0 h0 I l fp St) (K : dG C) {A : Around} {s : Shared} {i : Nat} (hA : A.handled = none) (hI : I ∉ C.tabs) (hi : i < l.length) (hs : St i s.heap) :
    YG C A [I] s (pyNext (.ref I)) (fun r s' => ∃ v q, r = some v ∧ l[i]? = some q ∧ Rep (I :: X0) h0 v q ∧ St (i + 1) s'.heap) := YG.ofToks fun Q E q =>
  (it.walks A hA).item i s Q E hi hs fun v h' tk hv hst hk => by
    refine aI hv fun p h1 h2 => ?_; clear hv
    exact q _ _ (fun ht => Gr.but K (it.free hI hs) (fun b o hb e => hk b o hb e) ht) ⟨v, p, rfl, h1, h2, hst⟩
theorem Itr.done (it : Itr C X0 h0 I l fp St) (K : dG C) {A : Around} {s : Shared} (hA : A.handled = none) (hI : I ∉ C.tabs) (hs : St l.length s.heap) :
    YG C A [I] s (pyNext (.ref I)) (fun r s' => r = none) := YG.ofToks fun Q E q =>
  (it.walks A hA).done s Q E hs fun h' tk hk => q _ _ (fun ht => Gr.but K (it.free hI hs) (fun b o hb e => hk b o hb e) ht) rfl
theorem Itr.stays (it : Itr C X0 h0 I l fp St) (hT : ∀ b ∈ C.tabs, b ∈ X0) (hI : I ∉ C.tabs) {s s' : Shared} {Y : List Addr} (g : Gr C Y s s') (hY : ∀ b ∈ Y, b ≠ I ∧ (b ∈ X0 ∨ h0.get? b = none)) {i : Nat} {A : Around} (hA : A.handled = none) (hs : St i s.heap) : St i s'.heap :=
  (it.walks A hA).frame i _ _ hs fun b hb o e => g.keep b o (fun ht => (it.fpI b hb).elim (fun h => hI (h ▸ ht)) fun h => h (hT b ht)) (fun hy => by
    obtain ⟨h1, h2⟩ := hY b hy
    rcases h2 with h2 | h2
    · exact (it.fpI b hb).elim h1 fun h => h h2
    · have := it.there b hb
      rw [h2] at this; cases this) e
end
noncomputable def Its (C : Cx) (d : Nat) (p : PV) (l : List PV) : Prop :=
  ∀ A s H v, AOk A d → Inv C H s → Rep H.hid s.heap v p → YG C A [] s (pyIter v) (fun it s' => ∃ I fp St, it = .ref I ∧ Itr C H.hid s'.heap I l fp St ∧ St 0 s'.heap ∧ s.heap.get? I = none)
section
variable {C : Cx} {d : Nat}
theorem Itr.of {X0 : List Addr} {h0 : Heap} {I : Addr} {l : List PV} {fp : List Addr} {St : Nat → Heap → Prop} {P : Nat → Value → Prop} {n : Nat} (hw : ∀ A : Around, A.handled = none → Walks C.prog C.w A I fp [I] n P St) (hn : n = l.length)
    (hP : ∀ i v, i < n → P i v → ∃ q, l[i]? = some q ∧ Rep (I :: X0) h0 v q) (hfp : ∀ b ∈ fp, b = I ∨ b ∉ X0) (hth : ∀ b ∈ fp, (h0.get? b).isSome = true) (hself : I ∈ fp) (hc : ∀ i h, St i h → ∃ o, h.get? I = some o ∧ ¬ aB o ∧ lT o) : Itr C X0 h0 I l fp St := by
  subst hn
  refine ⟨fun A hA => ?_, hfp, hth, hself, hc⟩
  have W := hw A hA
  exact { sub := W.sub, frame := W.frame, item := fun i s Q E hi st hQ => W.item i s Q E hi st fun v h' tk hv => hQ v h' tk (hP i v hi hv), done := W.done, self := W.self }
theorem bR (s : Shared) : s.heap.get? s.heap.objs.size = none := by
  cases e : s.heap.get? s.heap.objs.size with
  | none => rfl
  | some o => exact absurd (Heap.lt_size e) (Nat.lt_irrefl _)
theorem Rep.behind {H : Hd} {s s' : Shared} (I : Inv C H s) (g : Gr C [] s s') {a : Addr} (ha : s.heap.get? a = Option.none) {v : Value} {p : PV} (r : Rep H.hid s.heap v p) : Rep (a :: H.hid) s'.heap v p :=
  (r.rehide (Y := a :: H.hid) fun b hb => (mC hb).elim (fun h => .inr (h ▸ ha)) .inl).mono fun b o hb e => g.keep b o (fun ht => hb (mT (I.tabs b ht))) (by simp) e
theorem eO {o : Obj} {v : Value} {i : Int} {t : Tok} (h : o.data = .fields #[v, .int i t]) : ¬ aB o := fun hc => by
  refine bH hc fun ws x u h1 h2 => ?_; clear hc
  rw [h] at h1; cases h1
  simp at h2
theorem Its.lst {l : List PV} : Its C d (.lst l) l := fun A s H v hA I r Q E q => by
  refine aV (Rep.lstI r) fun a vs n ez1 hx e R => ?_; subst ez1
  ·
    have hne : a ≠ s.heap.objs.size := Nat.ne_of_lt (Heap.lt_size e)
    have hl : s.heap.IsList a vs := ⟨_, e, rfl, _, rfl⟩
    refine wpAny_pyIter_list hl ?_
    have g : Gr C [] s { s with heap := s.heap.push { cls := .type "list_iterator", data := .fields #[.ref a, rawInt 0] } } := Gr.of I.ok (tk := s.toks) fun _ _ e => Heap.get?_push_of_some _ e
    refine q _ _ g ⟨s.heap.objs.size, _, _, rfl, Itr.of (fun A hA => Walks.list hA s.heap.objs.size a hne vs) (R.size) (fun i v hi hv => ?_) ?_ ?_ (by simp) ?_, ⟨⟨_, Heap.get?_push_size _ rfl, rfl, rfl⟩, hl.push _⟩, bR s⟩
    · refine aI (R.get i v (by simpa using hv)) fun p h1 h2 => ?_
      exact ⟨p, h1, h2.behind I g (bR s)⟩
    · intro b hb
      simp at hb
      rcases hb with rfl | rfl
      · exact .inl rfl
      · exact .inr hx
    · intro b hb
      simp at hb
      rcases hb with rfl | rfl
      · show ((s.heap.push _).get? _).isSome = true
        rw [Heap.get?_push_size _ rfl]; rfl
      · show ((s.heap.push _).get? _).isSome = true
        rw [Heap.get?_push_of_some _ e]; rfl
    · rintro i h ⟨⟨o', ho', hc', hd'⟩, _⟩
      exact ⟨o', ho', eO hd', .of hc' (by decide)⟩
noncomputable def signs (x : Str) : List PV := x.cps.toList.map fun c => .str ⟨#[c]⟩
theorem Its.str {x : Str} : Its C d (.str x) (signs x) := fun A s H v hA I r Q E q => by
  obtain ⟨t, rfl⟩ := Rep.strI r
  ·
    have fin : ∀ (o : Obj) (St : Nat → Heap → Prop), (∀ A' : Around, A'.handled = none → Walks C.prog C.w A' s.heap.objs.size [s.heap.objs.size] [s.heap.objs.size] x.cps.size (SignAt x) St) → St 0 (s.heap.push o) → (s.heap.push o).get? s.heap.objs.size = some o →
        (∀ i h, St i h → ∃ o', h.get? s.heap.objs.size = some o' ∧ ¬ aB o' ∧ lT o') → Q (.ref s.heap.objs.size) { s with heap := s.heap.push o } := fun o St hW hst hget hc => by
      have g : Gr C [] s { s with heap := s.heap.push o } := Gr.of I.ok (tk := s.toks) fun _ _ e => Heap.get?_push_of_some _ e
      refine q _ _ g ⟨s.heap.objs.size, _, _, rfl, Itr.of hW (by simp [signs]) (fun i v hi hv => ?_) (fun b hb => .inl (by simpa using hb)) (fun b hb => ?_) (by simp) hc, hst, bR s⟩
      · refine cA hv fun c u hc ez1 => ?_; clear hv; subst ez1
        exact ⟨.str ⟨#[c]⟩, by simp only [signs, List.getElem?_map, Array.getElem?_toList, hc, Option.map], .str _ _⟩
      · rw [mS hb]
        show ((s.heap.push o).get? _).isSome = true
        rw [hget]; rfl
    have code : ∀ ty, ["enumerate", "zip", "dict_itemiterator", "dict_reverseitemiterator", "odict_iterator", "itertools.zip_longest", "itertools.pairwise"].contains ty = false → ∀ i (h : Heap), h.IsStrIter s.heap.objs.size ty x t i → ∃ o', h.get? s.heap.objs.size = some o' ∧ ¬ aB o' ∧ lT o' := fun ty hty i h st => by
      refine bY st fun o ho hc hd => ?_; clear st
      exact ⟨o, ho, eO hd, .of hc hty⟩
    cases ha : x.cps.all (· < 128)
    · exact wpAny_pyIter_wide ha (fin _ _ (fun A' hA => Walks.strWide hA _ x t) ⟨_, Heap.get?_push_size _ rfl, rfl, rfl⟩ (Heap.get?_push_size _ rfl) (code "str_iterator" (by decide)))
    · exact wpAny_pyIter_ascii ha (fin _ _ (fun A' hA => Walks.strAscii hA _ x t) ⟨_, Heap.get?_push_size _ rfl, rfl, rfl⟩ (Heap.get?_push_size _ rfl) (code "str_ascii_iterator" (by decide)))
noncomputable def nums (a c : Int) (n : Nat) : List PV := (List.range n).map fun (i : Nat) => .int (a + (i : Int) * c)
theorem Its.rng {a b c : Int} {n : Nat} (hsmall : Builtin.Range.small a b c = true) (hn : Builtin.Range.rangeSize a b c = (n : Int)) : Its C d (.rng a b c) (nums a c n) := fun A s H v hA I r Q E q => by
  cases r with
  | rng hx hr =>
    refine wpAny_pyIter_range hr hsmall ?_
    have g : Gr C [] s { s with heap := s.heap.push { cls := .type "range_iterator", data := .fields #[rawInt a, rawInt (Builtin.Range.rangeSize a b c), rawInt c] } } := Gr.of I.ok (tk := s.toks) fun _ _ e => Heap.get?_push_of_some _ e
    refine q _ _ g ⟨s.heap.objs.size, _, _, rfl, Itr.of (fun A hA => Walks.range hA s.heap.objs.size a c n) (by simp [nums]) (fun i v hi hv => ?_) (fun b hb => .inl (by simpa using hb)) (fun b hb => ?_) (by simp) ?_, ?_, bR s⟩
    · obtain ⟨t, rfl⟩ := hv
      exact ⟨_, by simp [nums, hi], .int _ _⟩
    · rw [mS hb]
      show ((s.heap.push _).get? _).isSome = true
      rw [Heap.get?_push_size _ rfl]; rfl
    · intro i h st
      refine ⟨_, st, fun hc => ?_, .of rfl (by decide)⟩
      refine bH hc fun ws x u h1 h2 => ?_; clear hc
      cases h1
      simp [rawInt] at h2
    · show IsRangeIter _ _ _ _ _
      have : (s.heap.push { cls := .type "range_iterator", data := .fields #[rawInt a, rawInt (Builtin.Range.rangeSize a b c), rawInt c] }).get? s.heap.objs.size = some _ := Heap.get?_push_size _ rfl
      rw [hn] at this
      simpa [IsRangeIter, hn] using this
structure EvIt (C : Cx) (d : Nat) (env : Env) (m : Vars) (e : Expr) (l : List PV) : Prop where
  run : ∀ A s H, AOk A d → Inv C H s → aF C env H s.heap → aA C env H s.heap m → ∀ (Q : Value → Shared → Prop) (E : Value → Shared → Prop),
    (∀ I fp St s', Gr C [] s s' → Itr C H.hid s'.heap I l fp St → St 0 s'.heap → s.heap.get? I = none → Q (.ref I) s') → wpAny C.M A (eval e env) (fun x s₁ => wpAny C.M A (pyIter x) Q E s₁) E s
variable {env : Env} {m : Vars}
theorem EvIt.of {e : Expr} {p : PV} {l : List PV} (h : Ev C d env m e p) (k : Its C d p l) : EvIt C d env m e l := .mk fun A s H hA I F V Q E q =>
  h.run A s H hA I F V _ E fun v s' g r => k A s' H v hA (I.gr0 g) r _ E fun it s'' g' z => by
    refine aV z fun J fp St ez1 h1 h2 h3 => ?_; clear z; subst ez1
    refine q J fp St s'' (g.trans g') h1 h2 ?_
    cases e : s.heap.get? J with
    | none => rfl
    | some o =>
      by_cases ht : J ∈ C.tabs
      · refine cA (I.ok.tabIs _ (g.tab I.tab) J ht) fun o' _ e' _ => ?_
        rw [h3] at e'; cases e'
      · rw [g.keep J o ht (by simp) e] at h3; cases h3
end
end
section
section
variable {C : Cx} {d : Nat} {env : Env} {m : Vars}
structure bV (C : Cx) (env : Env) (H : Hd) (s s0 : Shared) (J : Addr) (fp : List Addr) (St : Nat → Heap → Prop) (i : Nat) (m : Vars) (H' : Hd) (s' : Shared) : Prop where
  gr : Gr C (wr env H) s s'
  X : H'.X = J :: H.X
  fresh : ∀ a, H'.μ = some a → H.μ = some a ∨ s.heap.get? a = none ∧ s0.heap.get? a = none
  inv : Inv C H' s'
  fr : aF C env H' s'.heap
  va : aA C env H' s'.heap m
  st : St i s'.heap
  old : ∀ b o, b ∉ J :: H.hid → s0.heap.get? b = some o → s'.heap.get? b = some o
theorem aF.hide {H H' : Hd} {h : Heap} (F : aF C env H h) (hX : ∀ x ∈ H.X, x ∈ H'.X) : aF C env H' h := ⟨F.eok, F.found, F.loc, F.locB, F.ns, F.cell, F.inj, fun x hx => hX x (F.hid x hx)⟩
theorem bD.rehide {H H' : Hd} {h : Heap} (hm : H'.μ = H.μ) (k : ∀ a ∈ H'.hid, a ∈ H.hid ∨ h.get? a = none) {v : Value} {p : PV} (r : bD H h v p) : bD H' h v p := by
  cases r with
  | imm r => exact .imm (r.rehide k)
  | mlst h1 e r => exact .mlst (hm ▸ h1) e (r.rehide k)
  | mute h1 e r => exact .mute (hm ▸ h1) e r
theorem aA.rehide {H H' : Hd} {h : Heap} (hm : H'.μ = H.μ) (k : ∀ a ∈ H'.hid, a ∈ H.hid ∨ h.get? a = none) (V : aA C env H h m) : aA C env H' h m := fun x p e =>
  let ⟨v, l, r⟩ := V x p e
  ⟨v, l, r.rehide hm k⟩
theorem aO {H : Hd} {a : Addr} : a ∈ H.hid ↔ H.μ = some a ∨ a ∈ H.X := by
  simp [Hd.hid]
theorem mU {H : Hd} {a : Addr} (h : H.μ = some a ∨ a ∈ H.X) : a ∈ H.hid := aO.mpr h
theorem bV.start {H : Hd} {s s0 : Shared} {J : Addr} {fp : List Addr} {St : Nat → Heap → Prop} {l : List PV} (I : Inv C H s) (F : aF C env H s.heap) (V : aA C env H s.heap m) (g : Gr C [] s s0) (it : Itr C H.hid s0.heap J l fp St) (hs : St 0 s0.heap)
    (hJ : s.heap.get? J = none) : bV C env H s s0 J fp St 0 m ⟨H.μ, J :: H.X⟩ s0 := by
  have I0 := I.gr0 g
  have hJh : J ∉ H.hid := fun h => by
    have := I.hid.there J h
    rw [hJ] at this; cases this
  refine ⟨g.plain, rfl, fun a h => .inl h, ⟨I0.ok, I0.keep, I0.tab, ⟨fun a ha => ?_, fun a ha => mT (I0.hid.tabs a ha), fun a h => ⟨(I0.hid.μB a h).1, fun hx => ?_⟩, fun a ha o e => ?_⟩, I0.tk⟩, (F.gr0 g).hide fun x hx => mT hx, ?_, hs, fun b o _ e => e⟩
  · rcases aO.mp ha with h | h
    · exact I0.hid.there a (mU (.inl h))
    · rcases mC h with rfl | h
      · exact it.there a it.self
      · exact I0.hid.there a (mU (.inr h))
  · rcases mC hx with rfl | hx
    · exact hJh (mU (.inl h))
    · exact (I0.hid.μB a h).2 hx
  · rcases aO.mp ha with h | h
    · exact I0.hid.nc a (mU (.inl h)) o e
    · rcases mC h with rfl | h
      · refine bY (it.code _ _ hs) fun o' e' hc _ => ?_
        rw [e] at e'; cases e'
        exact hc
      · exact I0.hid.nc a (mU (.inr h)) o e
  · have V1 : aA C env ⟨H.μ, J :: H.X⟩ s.heap m := aA.rehide (H := H) rfl (fun a ha => by
      rcases aO.mp ha with h | h
      · exact .inl (mU (.inl h))
      · rcases mC h with rfl | h
        · exact .inr hJ
        · exact .inl (mU (.inr h))) V
    intro x p ex
    refine aI (V1 x p ex) fun v l r => ?_
    refine ⟨v, l.gr0 F g, ?_⟩
    have hT : ∀ b, b ∈ C.tabs → b ∈ (⟨H.μ, J :: H.X⟩ : Hd).hid := fun b hb => mU (.inr (mT (I.hid.tabs b hb)))
    cases r with
    | imm r => exact .imm (r.mono fun b o hb e => g.keep b o (fun ht => hb (hT b ht)) (by simp) e)
    | mlst h1 e r => exact .mlst h1 (g.keep _ _ (fun ht => (I.hid.μB _ h1).2 (I.hid.tabs _ ht)) (by simp) e) (r.mono fun b o hb e => g.keep b o (fun ht => hb (hT b ht)) (by simp) e)
    | mute h1 e r => exact .mute h1 (g.keep _ _ (fun ht => (I.hid.μB _ h1).2 (I.hid.tabs _ ht)) (by simp) e) r
structure cL (C : Cx) (env : Env) (J : Addr) : Prop where
  tab : J ∉ C.tabs
  base : C.hB.get? J = none
  loc : env.locals ≠ J
  cell : ∀ x c, env.cells.lookup x = some c → c ≠ J
  own : J ∉ own env
theorem cL.of {H : Hd} {s : Shared} {J : Addr} (I : Inv C H s) (F : aF C env H s.heap) (hJ : s.heap.get? J = none) : cL C env J := by
  have ht : J ∉ C.tabs := fun ht => by
    refine cA (I.ok.tabIs _ I.tab J ht) fun o _ e _ => ?_
    rw [hJ] at e; cases e
  have hl : env.locals ≠ J := fun h => by
    refine rI F.ns fun mm o es ep e _ => ?_
    rw [h, hJ] at e; cases e
  have hc : ∀ x c, env.cells.lookup x = some c → c ≠ J := fun x c hc h => by
    refine cps fun Pz kz => ?_
    obtain ⟨_, _, v, o, e, _⟩ := F.cell x c hc
    refine kz ?_; clear kz Pz
    rw [h, hJ] at e; cases e
  refine ⟨ht, ?_, hl, hc, fun h => ?_⟩
  · cases e : C.hB.get? J with
    | none => rfl
    | some o => rw [I.keep J o ht e] at hJ; cases hJ
  · rcases mC h with h | h
    · exact hl h.symm
    · obtain ⟨c, h1, h2⟩ := mM h
      obtain ⟨x, hx⟩ := F.found c (List.mem_filter.mp h1).1
      exact hc x c.2 hx h2
section
variable {H : Hd} {s s2 : Shared} {J : Addr}
theorem Inv.wrote (N : cL C env J) (I : Inv C H s) (hX : J ∈ H.X) (g : Gr C [J] s s2) (ht : (s2.heap.get? J).isSome = true) (hn : ∀ o, s2.heap.get? J = some o → ¬ aB o) : Inv C H s2 := by
  refine I.gr g (fun x hx => by rw [mS hx]; exact N.base) ⟨fun a ha => ?_, I.hid.tabs, I.hid.μB, fun a ha o e => ?_⟩
  · by_cases hj : a = J
    · rw [hj]; exact ht
    by_cases htb : a ∈ C.tabs
    · refine cA (I.ok.tabIs _ (g.tab I.tab) a htb) fun o _ e _ => ?_
      rw [e]; rfl
    · obtain ⟨o, e⟩ := iS (I.hid.there a ha)
      rw [g.keep a o htb (by simpa using hj) e]; rfl
  · by_cases hj : a = J
    · exact hn o (hj ▸ e)
    · exact jS I g ha (by simpa using hj) e
theorem aF.wrote (N : cL C env J) (F : aF C env H s.heap) (g : Gr C [J] s s2) : aF C env H s2.heap :=
  ⟨F.eok, F.found, F.loc, F.locB, by
    refine rI F.ns fun m o es ep e r => ?_
    exact ⟨m, o, es, ep, g.keep _ _ F.loc (by simpa using N.loc) e, r⟩, fun x c hc => by
    refine cps fun Pz kz => ?_
    obtain ⟨h1, h2, v, o, e, r⟩ := F.cell x c hc
    refine kz ?_; clear kz Pz
    exact ⟨h1, h2, v, o, g.keep _ _ h1 (by simpa using N.cell x c hc) e, r⟩, F.inj, F.hid⟩
theorem aA.wrote (N : cL C env J) (I : Inv C H s) (F : aF C env H s.heap) (hX : J ∈ H.X) (g : Gr C [J] s s2) (V : aA C env H s.heap m) : aA C env H s2.heap m := fun x p e => by
  refine aI (V x p e) fun v l r => ?_
  refine ⟨v, ?_, r.gr I g fun y hy => by rw [mS hy]; exact hX⟩
  rcases l with ⟨hk, m, hn, hv⟩ | ⟨hk, c, hc, o, ho, hd⟩ | l
  · refine bH hn fun o es ep e r => ?_; clear hn
    exact .inl ⟨hk, m, ⟨o, es, ep, g.keep _ _ F.loc (by simpa using N.loc) e, r⟩, hv⟩
  · exact .inr (.inl ⟨hk, c, hc, o, g.keep _ _ (F.cell x c hc).1 (by simpa using N.cell x c hc) ho, hd⟩)
  · exact .inr (.inr l)
end
section
variable {H H' : Hd} {s s0 s' : Shared} {J : Addr} {fp : List Addr} {St : Nat → Heap → Prop} {i : Nat} {l : List PV}
theorem bV.JX (L : bV C env H s s0 J fp St i m H' s') : J ∈ H'.X := by rw [L.X]; exact mH
theorem bV.wrote (I : Inv C H s) (L : bV C env H s s0 J fp St i m H' s') (N : cL C env J) (hJ : s.heap.get? J = none) {s2 : Shared} (g : Gr C [J] s' s2) {j : Nat} (hst : St j s2.heap) (ht : (s2.heap.get? J).isSome = true) (hn : ∀ o, s2.heap.get? J = some o → ¬ aB o) :
    bV C env H s s0 J fp St j m H' s2 :=
  ⟨L.gr.then g fun y hy => .inr (by rw [mS hy]; exact hJ), L.X, L.fresh, L.inv.wrote N L.JX g ht hn, L.fr.wrote N g, L.va.wrote N L.inv L.fr L.JX g, hst,
    fun b o hb e => g.keep b o (fun h => hb (mT (I.tabs b h))) (fun h => hb (by rw [mS h]; exact mH)) (L.old b o hb e)⟩
theorem bV.ran (I : Inv C H s) (F : aF C env H s.heap) (N : cL C env J) (it : Itr C H.hid s0.heap J l fp St) (L : bV C env H s s0 J fp St i m H' s') {s3 : Shared} {H3 : Hd} {m3 : Vars} {A : Around} (hA : A.handled = none)
    (g : Gr C (wr env H') s' s3) (a : bM C H' H3 s' s3) (F3 : aF C env H3 s3.heap) (V3 : aA C env H3 s3.heap m3) : bV C env H s s0 J fp St i m3 H3 s3 := by
  have hin : ∀ y ∈ H'.hid, ∃ o, s'.heap.get? y = some o := fun y hy => iS (L.inv.hid.there y hy)
  have hX : ∀ y ∈ H.X, y ∈ H'.hid := fun y hy => mU (.inr (by rw [L.X]; exact mT hy))
  have hwr : ∀ b ∈ wr env H', b ≠ J ∧ (b ∈ H.hid ∨ s.heap.get? b = none ∧ s0.heap.get? b = none) := fun b hb => by
    rcases mA hb with h | h
    · exact ⟨fun e => N.own (e ▸ h), .inl (mU (.inr (F.hid b h)))⟩
    · have hm : H'.μ = some b := by simpa using h
      refine ⟨fun e => (L.inv.hid.μB b hm).2 (e ▸ L.JX), ?_⟩
      rcases L.fresh b hm with h | h
      · exact .inl (mU (.inl h))
      · exact .inr h
  refine ⟨L.gr.then g fun y hy => ?_, a.X.trans L.X, fun x hx => ?_, a.inv L.inv L.fr g, F3, V3, it.stays I.tabs N.tab g (fun b hb => ⟨(hwr b hb).1, (hwr b hb).2.imp id (·.2)⟩) hA L.st, fun b o hb e => g.keep b o (fun h => hb (mT (I.tabs b h))) (fun h => ?_) (L.old b o hb e)⟩
  · rcases mA hy with h | h
    · exact .inl (cI y h)
    · rcases L.fresh y (by simpa using h) with h | h
      · exact .inl (mR (by simp [h]))
      · exact .inr h.1
  · rcases a.fresh x hx with h | h
    · exact L.fresh x h
    · by_cases hm : H.μ = some x
      · exact .inl hm
      have hno : x ∉ H'.hid := fun hh => by
        obtain ⟨o, e⟩ := hin x hh
        rw [h] at e; cases e
      refine .inr ⟨?_, ?_⟩
      · cases e : s.heap.get? x with
        | none => rfl
        | some o =>
          rw [L.gr.keep x o (fun ht => hno (hX x (I.hid.tabs x ht))) (fun hw => ?_) e] at h
          · cases h
          · rcases mA hw with hw | hw
            · exact hno (hX x (F.hid x hw))
            · exact hm (by simpa using hw)
      · cases e : s0.heap.get? x with
        | none => rfl
        | some o =>
          rw [L.old x o (fun hh => ?_) e] at h
          · cases h
          · rcases mC hh with rfl | hh
            · exact hno (mU (.inr L.JX))
            · rcases aO.mp hh with hh | hh
              · exact hm hh
              · exact hno (hX x hh)
  · rcases (hwr b h).2 with h | h
    · exact hb (mT h)
    · rw [h.2] at e; cases e
theorem bV.elem (L : bV C env H s s0 J fp St i m H' s') {v : Value} {q : PV} (r : Rep (J :: H.hid) s0.heap v q) : Rep H'.hid s'.heap v q := by
  have r1 : Rep (H'.hid ++ (J :: H.hid)) s0.heap v q := r.rehide fun a ha => by
    rcases mA ha with h | h
    · rcases aO.mp h with h | h
      · rcases L.fresh a h with h | h
        · exact .inl (mT (mU (.inl h)))
        · exact .inr h.2
      · rw [L.X] at h
        exact .inl ((mC h).elim (fun e => e ▸ mH) fun h => mT (mU (.inr h)))
    · exact .inl h
  exact (r1.mono fun b o hb e => L.old b o (fun h => hb (mR h)) e).rehide fun a ha => .inl (mL ha)
theorem bV.finish (I : Inv C H s) (F : aF C env H s.heap) (N : cL C env J) (hJ : s.heap.get? J = none) (L : bV C env H s s0 J fp St i m H' s') {s2 : Shared} (g : Gr C [J] s' s2) :
    Gr C (wr env H) s s2 ∧ bM C H ⟨H'.μ, H.X⟩ s s2 ∧ aF C env ⟨H'.μ, H.X⟩ s2.heap ∧ aA C env ⟨H'.μ, H.X⟩ s2.heap m := by
  have hJX : J ∉ H.X := fun h => by
    have := I.hid.there J (mU (.inr h))
    rw [hJ] at this; cases this
  have hsub : ∀ a ∈ (⟨H'.μ, H.X⟩ : Hd).hid, a ∈ H'.hid ∧ a ≠ J := fun a ha => by
    rcases aO.mp ha with h | h
    · exact ⟨mU (.inl h), fun e => (L.inv.hid.μB a h).2 (e ▸ L.JX)⟩
    · exact ⟨mU (.inr (by rw [L.X]; exact mT h)), fun e => hJX (e ▸ h)⟩
  refine ⟨L.gr.then g fun y hy => .inr (by rw [mS hy]; exact hJ), ⟨rfl, fun a h => (L.fresh a h).imp id (·.1), fun a ha => ?_, I.hid.tabs, fun a h => ⟨(L.inv.hid.μB a h).1, fun hx => (L.inv.hid.μB a h).2 (by rw [L.X]; exact mT hx)⟩, fun a ha o e => ?_⟩, ?_, ?_⟩
  · by_cases htb : a ∈ C.tabs
    · refine cA (I.ok.tabIs _ (g.tab L.inv.tab) a htb) fun o _ e _ => ?_
      rw [e]; rfl
    · obtain ⟨o, e⟩ := iS (L.inv.hid.there a (hsub a ha).1)
      rw [g.keep a o htb (by simpa using (hsub a ha).2) e]; rfl
  · exact jS L.inv g (hsub a ha).1 (by simpa using (hsub a ha).2) e
  · have F2 := L.fr.wrote N g
    exact ⟨F2.eok, F2.found, F2.loc, F2.locB, F2.ns, F2.cell, F2.inj, F.hid⟩
  · exact aA.rehide (H := H') rfl (fun a ha => .inl (hsub a ha).1) (L.va.wrote N L.inv L.fr L.JX g)
end
theorem Es.forTo {x : Str} {px pos : Pos} {iter : Expr} {b : List Stmt} {l : List PV} (st : Nat → Vars) (k : Nat) {m' : Vars} (h0 : Sub m (st 0)) (hi : EvIt C d env m iter l) (hk : cN env x)
    (hb : ∀ i q, i < k → l[i]? = some q → Ex C d env ((x, q) :: st i) b (.next (st (i + 1))))
    (he : (k = l.length ∧ m' = st k) ∨ (∃ q, l[k]? = some q ∧ Ex C d env ((x, q) :: st k) b (.brk m')))
    (hs : ∀ x, foldedSetIterable iter env x = pure x := by intro _; rfl) : Es C d env m (.For (.Name x px) iter b [] pos) (.next m') := by
  refine .mk ?_
  intro A s H hA I F V Q E q
  refine wpAny_For (hi.run A s H hA I F V _ E fun J fp St s0 g it hs0 hJ => ?_) hs
  have N : cL C env J := .of I F hJ
  have hkl : k ≤ l.length := by
    rcases he with ⟨h, _⟩ | ⟨q, h, _⟩
    · exact Nat.le_of_eq h
    · have := (List.getElem?_eq_some_iff.mp h).1; exact Nat.le_of_succ_le this
  refine codeAny_forLoop (fun n s' => ∃ i H', i + n = k ∧ bV C env H s s0 J fp St i (st i) H' s') (fun n s' hI => ?_) k ⟨0, _, by exact Nat.zero_add k, bV.start I F (V.sub h0) g it hs0 hJ⟩
  refine cA hI fun i H' hin L => ?_; clear hI
  by_cases hlt : i < l.length
  · refine it.next I.ok hA.handled N.tab hlt L.st _ _ fun r s2 g2 z => ?_
    refine jN z fun v p ez1 hp rp hst => ?_; clear z; subst ez1
    refine bY (it.code _ _ hst) fun oJ heJ hcJ _ => ?_
    have L2 := L.wrote I N hJ g2 hst (by rw [heJ]; rfl) (fun o e => by rw [heJ] at e; cases e; exact hcJ)
    refine wpAny_assign_Name (bP L2.inv L2.fr L2.va hk (.imm (L2.elem rp)) _ _ fun _ s3 g3 z3 => ?_)
    have L3 := L2.ran I F N it (A := A) hA.handled (g3.wider cI) (.same z3.1) z3.2.1 z3.2.2
    by_cases hik : i < k
    · refine (hb i p hik hp).run A s3 H' hA L3.inv L3.fr L3.va _ _ fun f s4 g4 z4 => ?_
      refine iU z4 fun H4 a4 ez1 F4 V4 => ?_; clear z4; subst ez1
      exact ⟨n - 1, by omega, i + 1, H4, by omega, L3.ran I F N it (A := A) hA.handled g4 a4 F4 V4⟩
    · have hik : i = k := by omega
      subst hik
      rcases he with ⟨h, _⟩ | ⟨q', h, hx⟩
      · (exfalso; omega)
      · rw [hp] at h; cases h
        refine hx.run A s3 H' hA L3.inv L3.fr L3.va _ _ fun f s4 g4 z4 => ?_
        refine iU z4 fun H4 a4 ez1 F4 V4 => ?_; clear z4; subst ez1
        have L4 := L3.ran I F N it (A := A) hA.handled g4 a4 F4 V4
        refine yF (L4.finish I F N hJ (Gr.refl ..)) fun w1 w2 w3 w4 => ?_
        exact q _ s4 w1 ⟨_, w2, rfl, w3, w4⟩
  · have hie : i = l.length := by omega
    have hkk : k = l.length := by omega
    subst hie
    refine it.done I.ok hA.handled N.tab L.st _ _ fun r s2 g2 z => ?_
    subst z
    refine wpAny_execs_nil ?_
    refine yF (L.finish I F N hJ g2) fun w1 w2 w3 w4 => ?_
    rcases he with ⟨h, rfl⟩ | ⟨q', h, hx⟩
    · rw [hkk] at q
      exact q _ s2 w1 ⟨_, w2, rfl, w3, w4⟩
    · have := (List.getElem?_eq_some_iff.mp h).1; (exfalso; omega)
end
end
section
section
variable {C : Cx} {d : Nat} {env : Env} {m : Vars}
theorem mV {A : Around} {s : Shared} {H : Hd} (I : Inv C H s) (F : aF C env H s.heap) (V : aA C env H s.heap m) {x : Str} {v : Value} {p : PV}
    (hk : env.kindOf x = some .local) (r : bD H s.heap v p) :
    YG C A [env.locals] s (storeName env x v) (fun _ s' => Inv C H s' ∧ aF C env H s'.heap ∧ aA C env H s'.heap ((x, p) :: m)) := by
  intro Q E q
  have K := I.ok
  have EO := F.eok
  have hlX : env.locals ∈ H.X := F.hid _ mH
  have hfree : zA C [env.locals] s.heap := fun y hy => F.free y (by rw [mS hy]; exact mH)
  obtain ⟨mm, hn⟩ := F.ns
  refine wpAny_storeName_local hk hn (fun h' hn' hs => ?_) (by rw [EO.kind]; rfl)
  have keep : ∀ b o, b ≠ env.locals → s.heap.get? b = some o → h'.get? b = some o := fun b o hb e => (hs.2 b hb).trans e
  have g : Gr C [env.locals] s { s with heap := h', toks := s.toks + 1 } := Gr.but K hfree fun b o hb e => keep b o (by simpa using hb) e
  have rm : ∀ {v : Value} {p : PV}, bD H s.heap v p → bD H h' v p := fun r => r.gr I g fun y hy => by rw [mS hy]; exact hlX
  have hcl : ∀ y c, env.cells.lookup y = some c → c ≠ env.locals := fun y c hy e => by
    refine cps fun Pz kz => ?_
    obtain ⟨_, _, v, o, e', d⟩ := F.cell y c hy
    refine kz ?_; clear kz Pz
    refine eM hn fun o' es ep e'' d' _ => ?_; clear hn
    subst e
    rw [e'] at e''; cases e''
    rw [d] at d'; cases d'
  refine q () _ g ⟨I.gr g (fun y hy => by rw [mS hy]; exact F.locB) (I.hid.write hs.2 (by obtain ⟨o, es, ep, e, _⟩ := hn'; rw [e]; rfl) (fun o e => aS hn' e)), ⟨F.eok, F.found, F.loc, F.locB, ⟨_, hn'⟩, fun y c hy => ?_, F.inj, F.hid⟩, fun y p' e => ?_⟩
  · refine cps fun Pz kz => ?_
    obtain ⟨h1, h2, v', o, e', d⟩ := F.cell y c hy
    refine kz ?_; clear kz Pz
    exact ⟨h1, h2, v', o, keep c o (hcl y c hy) e', d⟩
  · rw [List.lookup_cons] at e
    by_cases hxy : y == x
    · simp only [hxy] at e
      cases e
      have := eq_of_beq hxy
      subst this
      exact ⟨v, .inl ⟨hk, _, hn', by simp⟩, rm r⟩
    · simp only [hxy] at e
      refine aI (V y p' e) fun v' l r' => ?_
      refine ⟨v', ?_, rm r'⟩
      rcases l with ⟨k, m2, hn2, hv⟩ | ⟨k, c, hc, o, e', d⟩ | l
      · have : m2 = mm := iL hn2 hn
        subst this
        refine .inl ⟨k, _, hn', ?_⟩
        have : y ≠ x := fun z => hxy (by simp [z])
        simp [this, hv]
      · exact .inr (.inl ⟨k, c, hc, o, keep c o (hcl y c hc) e', d⟩)
      · exact .inr (.inr l)
theorem rW {A : Around} {H : Hd} {xs : List Str} {fs : List (Value → Sem Unit)} (S : dB env xs fs) : ∀ {vs : List Value} {ps : List PV} {m : Vars} {s : Shared}, Inv C H s → aF C env H s.heap → aA C env H s.heap m → aD H.hid s.heap vs ps → xs.length = ps.length →
    (∀ x ∈ xs, env.kindOf x = some .local) →
    YG C A [env.locals] s (assignInOrder fs vs) (fun _ s' => Inv C H s' ∧ aF C env H s'.heap ∧ aA C env H s'.heap ((xs.zip ps).reverse ++ m)) := by
  induction S with
  | nil => exact fun I F V _ _ _ Q E q => wpAny_pure (q () _ (Gr.refl ..) ⟨I, F, V⟩)
  | @cons x xs f fs hf hfs ih =>
    intro vs ps m s I F V R hl hk
    cases ps with
    | nil => cases hl
    | cons p ps =>
      refine cps fun Pz kz => ?_
      obtain ⟨v, vs, rfl, r, R⟩ := R.consI
      refine kz ?_; clear kz Pz
      intro Q E q
      show wpAny C.M A (do holding vs (f v); assignInOrder fs vs) Q E s
      refine wpAny_bind (wpAny_holding (hf _ _ _ _ _ _ (wpAny_bindName (mV I F V (hk x mH) (.imm r) _ E fun _ s' g z => ?_))))
      refine ih z.1 z.2.1 z.2.2 (R.gr I.tabs g fun y hy => by rw [mS hy]; exact mR (F.hid _ mH)) (Nat.succ.inj hl) (fun y hy => hk y (mT hy)) _ E fun _ s'' g' z' => q () s'' (g.trans g') ?_
      rw [List.zip_cons_cons, List.reverse_cons, List.append_assoc]
      exact z'
noncomputable def Tgt (C : Cx) (env : Env) (t : Expr) (q : PV) (mt : Vars) : Prop :=
  ∀ (A : Around) (s : Shared) (H : Hd) (m : Vars) (v : Value), A.handled = none → Inv C H s → aF C env H s.heap → aA C env H s.heap m → Rep H.hid s.heap v q →
    YG C A [env.locals] s (PySem.assign t env v) (fun _ s' => Inv C H s' ∧ aF C env H s'.heap ∧ aA C env H s'.heap (mt ++ m))
theorem Tgt.name {x : Str} {px : Pos} {q : PV} (hk : env.kindOf x = some .local) : Tgt C env (.Name x px) q [(x, q)] := fun A s H m v hA I F V r Q E k =>
  wpAny_assign_Name (mV I F V hk (.imm r) _ E k)
theorem Tgt.tup {ts : List Expr} {k : Nat} {pt : Pos} {xs : List Str} {ps : List PV} (ht : eV xs ts) (hl : xs.length = ps.length) (hk : ∀ x ∈ xs, env.kindOf x = some .local) : Tgt C env (.Tuple ts k pt) (.tup ps) ((xs.zip ps).reverse) := fun A s H m v hA I F V r Q E q => by
  refine wpAny_bind (wpAny_standAt ?_)
  refine aV (Rep.tupI r) fun a vs n ez1 hx er R => ?_; subst ez1
  ·
    have hlen := R.length
    refine bZ (ht.fns (env := env)) fun h1 h2 h3 => ?_
    refine wpAny_unpack_tuple hA ⟨_, er, rfl, _, rfl⟩ (by rw [h2, hl, ← hlen]; simp) h3 fun h' hx => ?_
    have hk' : ∀ b o, s.heap.get? b = some o → h'.get? b = some o := fun b o e => hx b o (Nat.ne_of_lt (Heap.lt_size e)) e
    have g2 : Gr C [] s { s with heap := h' } := Gr.of I.ok (tk := s.toks) hk'
    exact rW h1 (I.gr0 g2) (F.gr0 g2) (V.gr0 I F g2) (R.gr0 I g2) hl hk _ E fun _ s'' g' r' => q _ s'' (g2.plain.trans g') r'
structure Ifs (C : Cx) (d : Nat) (env : Env) (m : Vars) (ifs : List Expr) (b : Bool) : Prop where
  run : ∀ A s H, AOk A d → Inv C H s → aF C env H s.heap → aA C env H s.heap m →
    YG C A [] s (forIn ifs true fun c r => if r = true then do let ok ← isTrue c env (eval c env); pure (ForInStep.yield ok) else pure (ForInStep.yield r)) (fun ok _ => ok = b)
theorem Ifs.nil : Ifs C d env m [] true := .mk fun A s H hA I F V Q E q => wpAny_pure (q true s (Gr.refl ..) rfl)
theorem Ifs.one {c : Expr} {b : Bool} (h : Ts C d env m c b) : Ifs C d env m [c] b := .mk fun A s H hA I F V Q E q => by
  simp only [List.forIn_cons, List.forIn_nil]
  refine wpAny_bind (wpAny_bind (h.run A s H hA I F V _ E fun ok s' g e => ?_))
  exact wpAny_pure (wpAny_pure (q ok s' g e))
inductive gB (env : Env) : List (Str × Addr) → Prop where
  | nil : gB env []
  | cons {x : Str} {c : Addr} {cl : List (Str × Addr)} : env.cells.lookup x = some c → gB env cl → gB env ((x, c) :: cl)
theorem gB.look {cl : List (Str × Addr)} (h : gB env cl) : ∀ x c, cl.lookup x = some c → env.cells.lookup x = some c := by
  induction h with
  | nil => intro x c e; cases e
  | @cons y b cl hy _ ih =>
    intro x c e
    rw [List.lookup_cons] at e
    by_cases hxy : x == y
    · simp only [hxy] at e
      cases e
      have := eq_of_beq hxy
      subst this
      exact hy
    · simp only [hxy] at e
      exact ih x c e
theorem gB.mem {cl : List (Str × Addr)} (h : gB env cl) : ∀ c ∈ cl, env.cells.lookup c.1 = some c.2 := by
  induction h with
  | nil => intro c hc; cases hc
  | cons hy _ ih =>
    intro c hc
    rcases mC hc with rfl | hc
    · exact hy
    · exact ih c hc
theorem dT {env : Env} : ∀ {names : List (Str × NameKind)} {x : Str}, (∀ y ∈ names, y.2 ≠ .cell) →
    (names.map fun (n, k) => if (k == NameKind.free && env.scope.kind == .function && env.kindOf n == some .cell) then (n, NameKind.cell) else (n, k)).lookup x = some .cell → env.kindOf x = some .cell
  | [], _, _, h => by simp at h
  | (n, k) :: r, x, hc, h => by
    have ih := @dT env r x (fun y hy => hc y (mT hy))
    have h : List.lookup x ((if (k == NameKind.free && env.scope.kind == .function && env.kindOf n == some .cell) = true then (n, NameKind.cell) else (n, k)) :: _) = _ := h
    by_cases hk : (k == NameKind.free && env.scope.kind == .function && env.kindOf n == some .cell) = true
    · rw [if_pos hk, List.lookup_cons] at h
      by_cases hx : x == n
      · have := eq_of_beq hx
        subst this
        simp at hk
        exact hk.2
      · simp only [hx] at h
        exact ih h
    · rw [if_neg hk, List.lookup_cons] at h
      by_cases hx : x == n
      · simp only [hx] at h
        cases h
        exact absurd rfl (hc (n, .cell) mH)
      · simp only [hx] at h
        exact ih h
inductive CSub (C : Cx) (env cenv : Env) (m : Vars) : Vars → Prop where
  | nil : CSub C env cenv m []
  | cell {x : Str} {p : PV} {m' : Vars} : m.lookup x = some p → (env.kindOf x = some .cell ∨ env.kindOf x = some .free) → (cenv.kindOf x = some .cell ∨ cenv.kindOf x = some .free ∧ (x == ("__classdict__" : Str)) = false) → (cenv.cells.lookup x).isSome = true → CSub C env cenv m m' → CSub C env cenv m ((x, p) :: m')
  | glob {x : Str} {p : PV} {v : Value} {m' : Vars} : (∀ X h, Rep X h v p) → cenv.kindOf x = some .globalImplicit → (C.mg x = some v ∨ (C.mg x = none ∧ C.mb x = some v)) → CSub C env cenv m m' → CSub C env cenv m ((x, p) :: m')
noncomputable def eX (C : Cx) (env : Env) (H : Hd) (h : Heap) (m : Vars) : Prop := ∀ x p, m.lookup x = some p → env.kindOf x ≠ some .local ∧ ∃ v, cO C env h x v ∧ bD H h v p
theorem eX.vars {H : Hd} {h : Heap} (B : eX C env H h m) : aA C env H h m := fun x p e => (B x p e).2
theorem CSub.base {cenv : Env} {m m' : Vars} {H : Hd} {h : Heap} (k : CSub C env cenv m m') (hcl : ∀ x c, cenv.cells.lookup x = some c → env.cells.lookup x = some c) (V : aA C env H h m) : eX C cenv H h m' := by
  induction k with
  | nil => intro x p e; cases e
  | @cell y q m' hy hk hk' hc _ ih =>
    intro x p e
    rw [List.lookup_cons] at e
    by_cases hxy : x == y
    · simp only [hxy] at e
      cases e
      have := eq_of_beq hxy
      subst this
      refine aI (V x _ hy) fun v l r => ?_
      obtain ⟨c, hc⟩ := Option.isSome_iff_exists.mp hc
      refine ⟨fun h => ?_, v, ?_, r⟩
      · rcases hk' with h' | ⟨h', _⟩ <;> (rw [h] at h'; cases h')
      · rcases l with ⟨hk2, _⟩ | ⟨hk2, c', hc', hv⟩ | ⟨hk2, _⟩
        · rcases hk with h | h <;> (rw [hk2] at h; cases h)
        · have := hcl x c hc
          rw [hc'] at this; cases this
          exact .inr (.inl ⟨hk', _, hc, hv⟩)
        · rcases hk with h | h <;> (rw [hk2] at h; cases h)
    · simp only [hxy] at e
      exact ih x p e
  | @glob y q v m' hr hk hv _ ih =>
    intro x p e
    rw [List.lookup_cons] at e
    by_cases hxy : x == y
    · simp only [hxy] at e
      cases e
      have := eq_of_beq hxy
      subst this
      exact ⟨(by rw [hk]; simp), v, .inr (.inr ⟨hk, hv⟩), .imm (hr _ _)⟩
    · simp only [hxy] at e
      exact ih x p e
theorem eT {prog : Program} {w : World} {A : Around} {s : Shared} {R : Result → Shared → Prop} {elt target iter : Expr} {ifs : List Expr} {scope : Scope} {pos : Pos} {it acc : Value} {env : Env} (I : Nat → Shared → Prop)
    (turn : ∀ n s, I n s → wpAny (model prog w) A (pyNext it) (fun r s₁ => match r with
      | none => R (.ok .next) s₁
      | some v => wpAny (model prog w) A (letOwnedTupleGo target it v) (fun _ s₁' => wpAny (model prog w) A (assign target env v) (fun _ s₂ =>
          wpAny (model prog w) A (forIn ifs true fun c r => if r = true then do let ok ← isTrue c env (eval c env); pure (ForInStep.yield ok) else pure (ForInStep.yield r)) (fun ok s₃ =>
            if ok = true then wpAny (model prog w) A (eval elt env) (fun x s₄ =>
              wpAny (model prog w) A (call (.builtin "list.append") [acc, x]) (fun _ s₅ => ∃ m, m < n ∧ I m s₅) (notedBy (model prog w) A env fun e s' => R (.error e) s') s₄) (notedBy (model prog w) A env fun e s' => R (.error e) s') s₃
            else ∃ m, m < n ∧ I m s₃) (notedBy (model prog w) A env fun e s' => R (.error e) s') s₂) (notedBy (model prog w) A env fun e s' => R (.error e) s') s₁') (notedBy (model prog w) A env fun e s' => R (.error e) s') s₁) (notedBy (model prog w) A env fun e s' => R (.error e) s') s)
    (n : Nat) (h : I n s) : codeAny (model prog w) A (.compLoop (.ListComp elt [⟨target, iter, ifs, 0⟩] scope pos) 0 it acc env) R s := by
  refine codeAny_loop rfl I (fun n s hI => ?_) n h
  show wpAny _ A ((compTurn (.ListComp elt [⟨target, iter, ifs, 0⟩] scope pos) 0 it acc env).onRaise (fun x => do noteFrame x env; theTreesLotGoes x)) _ _ s
  refine wpAny_noted ?_
  rw [compTurn_list]
  refine wpAny_bind (wpAny_standAt (wpAny_bind (wpAny_mono (turn n s hI) (fun r s₁ h₁ => ?_) fun _ _ h' => h')))
  cases r with
  | none => exact wpAny_pure h₁
  | some v =>
    refine wpAny_bind (wpAny_mono h₁ (fun _ s₁' h₁' => ?_) fun _ _ h' => h')
    refine wpAny_bind (wpAny_mono h₁' (fun _ s₂ h₂ => wpAny_bind (wpAny_mono h₂ (fun ok s₃ h₃ => ?_) fun _ _ h' => h')) fun _ _ h' => h')
    cases ok with
    | false => exact wpAny_pure ⟨rfl, h₃⟩
    | true =>
      exact wpAny_bind (wpAny_bind (wpAny_mono h₃ (fun x s₄ h₄ => wpAny_bind (wpAny_mono h₄ (fun _ s₅ h₅ => wpAny_pure (wpAny_pure ⟨rfl, h₅⟩)) fun _ _ h' => h')) fun _ _ h' => h'))
theorem xH {P : Sem Unit → Prop} {target : Expr} {i v : Value} (h0 : P (pure ())) (h1 : P (letOwnedTupleGo (.Tuple [] default default) i v)) : P (letOwnedTupleGo target i v) := by
  cases target <;> first | exact h0 | exact h1
set_option tactic.hygienic true in
theorem kQ {M : Model} {A : Around} {s : Shared} {E : Value → Shared → Prop} {target : Expr} {J : Addr} {o : Obj} (ho : s.heap.get? J = some o) (hn : lT o) {v : Value} {Q : Unit → Shared → Prop} (q : Q () s) : wpAny M A (letOwnedTupleGo target (.ref J) v) Q E s := by
  refine xH (P := fun x => wpAny M A x Q E s) (wpAny_pure q) ?_
  have h0 : wpAny M A (pure ()) Q E s := wpAny_pure q
  cases v with
  | ref a =>
    refine wpAny_bind (wpAny_load ho ?_)
    obtain ⟨cls, dict, data, slots⟩ := o
    clear ho
    cases cls with
    | type n =>
      cases data with
      | fields vs => show wpAny _ _ (if _ then _ else _) _ _ _; rw [hn n rfl]; exact h0
      | _ => exact h0
    | _ => exact h0
  | _ => exact h0
structure zC (C : Cx) (cenv : Env) (Hc : Hd) (s2 : Shared) (J D : Addr) (St : Nat → Heap → Prop) (base : Vars) (i : Nat) (out : List PV) (s' : Shared) : Prop where
  gr : Gr C [J, D, cenv.locals] s2 s'
  inv : Inv C Hc s'
  fr : aF C cenv Hc s'.heap
  ba : eX C cenv Hc s'.heap base
  st : St i s'.heap
  acc : ∃ ys, s'.heap.PlainList D ys ∧ aD Hc.hid s'.heap ys.toList out
section
variable {cenv : Env} {Hc : Hd} {s2 s' s3 : Shared} {J D : Addr} {St : Nat → Heap → Prop} {base : Vars} {i j : Nat} {out : List PV}
theorem eX.wrote {Y : List Addr} {H : Hd} {s s' : Shared} (I : Inv C H s) (F : aF C cenv H s.heap) (B : eX C cenv H s.heap base) (g : Gr C Y s s') (hY : ∀ y ∈ Y, y ∈ H.X) (hc : ∀ x c, cenv.cells.lookup x = some c → c ∉ Y) : eX C cenv H s'.heap base := fun x p e => by
  obtain ⟨hk, v, l, r⟩ := B x p e
  refine ⟨hk, v, ?_, r.gr I g hY⟩
  rcases l with ⟨hl, _⟩ | ⟨hk', c, hc', o, ho, hd⟩ | l
  · exact absurd hl hk
  · exact .inr (.inl ⟨hk', c, hc', o, g.keep _ _ (F.cell x c hc').1 (hc x c hc') ho, hd⟩)
  · exact .inr (.inr l)
end
theorem aF.cellLoc {H : Hd} {h : Heap} (F : aF C env H h) : ∀ x c, env.cells.lookup x = some c → c ≠ env.locals := fun y c hy e => by
  refine cps fun Pz kz => ?_
  obtain ⟨_, _, v, o, e', d⟩ := F.cell y c hy
  refine kz ?_; clear kz Pz
  refine zIj F.ns fun mm o' es ep e'' d' _ => ?_
  subst e
  rw [e'] at e''; cases e''
  rw [d] at d'; cases d'
theorem jP {α β : Type} (g : α → Option β) (xs : List α) (i : Nat) (h : i < xs.length) : (xs.take (i + 1)).filterMap g = (xs.take i).filterMap g ++ (g xs[i]).toList := by
  rw [List.take_add_one, List.filterMap_append, List.getElem?_eq_getElem h]
  cases hg : g xs[i] <;> simp [hg]
theorem wA {α : Type} {elt tgt iter : Expr} {ifs : List Expr} {scope : Scope} {pos : Pos} {cenv : Env} {Hc : Hd} {s2 : Shared} {J D : Addr} {fp : List Addr} {St : Nat → Heap → Prop} {base : Vars} {X0 : List Addr} {h0 : Heap} {A : Around} {RR : Result → Shared → Prop}
    (xs : List α) (φ : α → PV) (gg : α → Option PV) (hA : AOk A d) (it : Itr C X0 h0 J (xs.map φ) fp St)
    (N : cL C cenv J) (ND : cL C cenv D) (hJD : J ≠ D) (hJX : J ∈ Hc.X) (hDX : D ∈ Hc.X) (hmid : ∀ b o, b ∉ Hc.hid → h0.get? b = some o → s2.heap.get? b = some o)
    (hD0 : h0.get? D = none) (hC0 : h0.get? cenv.locals = none) (hT0 : ∀ b ∈ C.tabs, b ∈ X0) (hnew : ∀ a ∈ Hc.hid, a ∈ J :: X0 ∨ h0.get? a = none)
    (L : zC C cenv Hc s2 J D St base 0 [] s2) (hsz : xs.length ≤ sizeLine)
    (body : ∀ x ∈ xs, ∃ mt, Tgt C cenv tgt (φ x) mt ∧ match gg x with
      | none => Ifs C d cenv (mt ++ base) ifs false
      | some p => Ifs C d cenv (mt ++ base) ifs true ∧ Ev C d cenv (mt ++ base) elt p)
    (hR : ∀ s', Gr C [J, D, cenv.locals] s2 s' → (∃ m, s'.heap.Ns cenv.locals m) → (∃ ys, s'.heap.PlainList D ys ∧ aD Hc.hid s'.heap ys.toList (xs.filterMap gg)) → RR (.ok .next) s') :
    codeAny C.M A (.compLoop (.ListComp elt [⟨tgt, iter, ifs, 0⟩] scope pos) 0 (.ref J) (.ref D) cenv) RR s2 := by
  have hlocX : cenv.locals ∈ Hc.X := L.fr.hid _ mH
  have hYX : ∀ y ∈ [J, D, cenv.locals], y ∈ Hc.X := fun y hy => by
    simp at hy
    rcases hy with rfl | rfl | rfl
    · exact hJX
    · exact hDX
    · exact hlocX
  have hYh : ∀ y ∈ [J, D, cenv.locals], y ∈ Hc.hid := fun y hy => mU (.inr (hYX y hy))
  refine eT (fun n s' => ∃ i, i + n = xs.length ∧ zC C cenv Hc s2 J D St base i ((xs.take i).filterMap gg) s') (fun n s' hI => ?_) xs.length ⟨0, by exact Nat.zero_add xs.length, by simpa using L⟩
  refine aI hI fun i hin Li => ?_; clear hI
  refine aI Li.acc fun ys hys hR0 => ?_
  by_cases hlt : i < xs.length
  · refine it.next Li.inv.ok hA.handled N.tab (by simpa using hlt) Li.st _ _ fun r s3 g3 z => ?_
    refine jN z fun v p ez1 hp rp hst => ?_; clear z; subst ez1
    have hpx : p = φ xs[i] := by
      rw [List.getElem?_map, List.getElem?_eq_getElem hlt] at hp
      exact (Option.some.inj hp).symm
    subst hpx
    refine bY (it.code _ _ hst) fun oJ heJ hcJ hnt => ?_
    have hJh : ∀ y ∈ [J], y ∈ Hc.X := fun y hy => by rw [mS hy]; exact hJX
    have I3 := Li.inv.wrote N hJX g3 (by rw [heJ]; rfl) (fun o e => by rw [heJ] at e; cases e; exact hcJ)
    have F3 := Li.fr.wrote N g3
    have B3 := Li.ba.wrote Li.inv Li.fr g3 hJh (fun x c hc h => N.cell x c hc (mS h))
    have gr3 : Gr C [J, D, cenv.locals] s2 s3 := Li.gr.trans (g3.wider fun y hy => by rw [mS hy]; simp)
    have hys3 : s3.heap.PlainList D ys := hys.at fun o e => g3.keep D o ND.tab (fun h => hJD (mS h).symm) e
    have R3 : aD Hc.hid s3.heap ys.toList ((xs.take i).filterMap gg) := hR0.gr Li.inv.tabs g3 fun y hy => mU (.inr (hJh y hy))
    have rp3 : Rep Hc.hid s3.heap v (φ xs[i]) := (rp.rehide hnew).mono fun b o hb e => gr3.keep b o (fun ht => hb (I3.tabs b ht)) (fun hy => hb (hYh b hy)) (hmid b o hb e)
    show wpAny C.M A (letOwnedTupleGo tgt (.ref J) v) _ _ _
    refine kQ heJ hnt ?_
    refine aI (body xs[i] (List.getElem_mem hlt)) fun mt ht hbody => ?_
    refine ht A s3 Hc base v hA.handled I3 F3 B3.vars rp3 _ _ fun _ s4 g4 z4 => ?_
    refine bZ z4 fun I4 F4 V4 => ?_; clear z4
    have hLh : ∀ y ∈ [cenv.locals], y ∈ Hc.X := fun y hy => by rw [mS hy]; exact hlocX
    have B4 := B3.wrote I3 F3 g4 hLh (fun x c hc h => F3.cellLoc x c hc (mS h))
    have gr4 : Gr C [J, D, cenv.locals] s2 s4 := gr3.trans (g4.wider fun y hy => by rw [mS hy]; simp)
    have hys4 : s4.heap.PlainList D ys := hys3.at fun o e => g4.keep D o ND.tab (fun h => ND.loc (mS h).symm) e
    have R4 : aD Hc.hid s4.heap ys.toList ((xs.take i).filterMap gg) := R3.gr I3.tabs g4 fun y hy => mU (.inr (hLh y hy))
    have st4 : St (i + 1) s4.heap := it.stays hT0 N.tab g4 (fun b hb => by rw [mS hb]; exact ⟨N.loc, .inr hC0⟩) hA.handled hst
    cases hg : gg xs[i] with
    | none =>
      rw [hg] at hbody
      refine hbody.run A s4 Hc hA I4 F4 V4 _ _ fun ok s5 g5 e => ?_
      subst e
      simp only [Bool.false_eq_true, if_false]
      refine ⟨n - 1, by walk_at "o", i + 1, by omega, gr4.trans g5.plain, I4.gr0 g5, F4.gr0 g5, B4.wrote I4 F4 g5 (fun y h => by cases h) (fun _ _ _ h => by cases h), it.stays hT0 N.tab g5 (fun b hb => by cases hb) hA.handled st4, ys, hys4.at fun o e => g5.keep D o ND.tab (by simp) e, ?_⟩
      rw [jP gg xs i hlt, hg]
      simpa using R4.gr0 I4 g5
    | some p =>
      rw [hg] at hbody
      refine hbody.1.run A s4 Hc hA I4 F4 V4 _ _ fun ok s5 g5 e => ?_
      subst e
      simp only [if_true]
      refine hbody.2.run A s5 Hc hA (I4.gr0 g5) (F4.gr0 g5) (V4.gr0 I4 F4 g5) _ _ fun y s6 g6 ry => ?_
      have g46 := g5.trans g6
      have hys6 : s6.heap.PlainList D ys := hys4.at fun o e => g46.keep D o ND.tab (by simp) e
      have R6 := R4.gr0 I4 g46
      have I6 := I4.gr0 g46
      have hlen : ys.size ≤ sizeLine := by
        have h1 := R6.length
        have h2 : ((xs.take i).filterMap gg).length ≤ (xs.take i).length := List.length_filterMap_le _ _
        have h3 : (xs.take i).length ≤ xs.length := by rw [List.length_take]; exact Nat.min_le_right i xs.length
        simp only [Array.length_toList] at h1
        omega
      refine wpAny_list_append_plain (hsz := hlen) hys6 fun h' hl' hs' => ?_
      obtain ⟨nn, hD6⟩ := hys6
      have g7 : Gr C [D] s6 { s6 with heap := h' } := Gr.but I6.ok (tk := s6.toks) (fun x hx => by
        rw [mS hx]
        refine ⟨ND.tab, fun o e hc => ?_⟩
        rw [hD6] at e; cases e
        refine bH hc fun _ _ _ h1 _ => ?_; clear hc
        cases h1) fun b o hb e => (hs'.2 b (by simpa using hb)).trans e
      have hDh : ∀ y ∈ [D], y ∈ Hc.X := fun y hy => by rw [mS hy]; exact hDX
      have F6 := F4.gr0 g46
      have B6 := B4.wrote I4 F4 g46 (fun y h => by cases h) (fun _ _ _ h => by cases h)
      refine ⟨n - 1, by omega, i + 1, by omega, (gr4.trans g46.plain).trans (g7.wider fun y hy => by rw [mS hy]; simp), I6.wrote ND hDX g7 (by obtain ⟨_, e⟩ := hl'; show (h'.get? D).isSome = true; rw [e]; rfl) (fun o e => by
        obtain ⟨_, e'⟩ := hl'
        have e : h'.get? D = some o := e
        rw [e'] at e; cases e
        rintro ⟨_, _, _, h1, _⟩
        cases h1), F6.wrote ND g7, B6.wrote I6 F6 g7 hDh (fun x c hc h => ND.cell x c hc (mS h)),
        it.stays hT0 N.tab g7 (fun b hb => by rw [mS hb]; exact ⟨hJD.symm, .inr hD0⟩) hA.handled (it.stays hT0 N.tab g46 (fun b hb => by cases hb) hA.handled st4), ys.push y, hl', ?_⟩
      rw [jP gg xs i hlt, hg]
      have := (R6.append (.cons ry .nil)).gr I6.tabs g7 fun y hy => mU (.inr (hDh y hy))
      simpa using this
  · have hie : i = xs.length := by omega
    subst hie
    refine it.done Li.inv.ok hA.handled N.tab (by simpa using Li.st) _ _ fun r s3 g3 z => ?_
    subst z
    refine hR s3 (Li.gr.trans (g3.wider fun y hy => by rw [mS hy]; simp)) ?_ ⟨ys, hys.at fun o e => g3.keep D o ND.tab (fun h => hJD (mS h).symm) e, ?_⟩
    · refine rI Li.fr.ns fun mm o es ep e r => ?_
      exact ⟨mm, o, es, ep, g3.keep _ _ Li.fr.loc (by simpa using N.loc) e, r⟩
    · have := hR0.gr Li.inv.tabs g3 fun y hy => by rw [mS hy]; exact mU (.inr hJX)
      simpa using this
end
end
section
section
variable {C : Cx} {d : Nat} {env : Env} {m : Vars}
theorem aA.move {H Hc : Hd} {s s4 : Shared} (I : Inv C H s) (F : aF C env H s.heap) (V : aA C env H s.heap m) (g : Gr C [] s s4) (hm : Hc.μ = H.μ) (hk : ∀ a ∈ Hc.hid, a ∈ H.hid ∨ s.heap.get? a = none) (hs : ∀ a ∈ H.hid, a ∈ Hc.hid) :
    aA C env Hc s4.heap m := by
  have V1 : aA C env Hc s.heap m := aA.rehide (H := H) hm hk V
  intro x p ex
  refine aI (V1 x p ex) fun v l r => ?_
  refine ⟨v, l.gr0 F g, ?_⟩
  have hT : ∀ b, b ∈ C.tabs → b ∈ Hc.hid := fun b hb => hs b (I.tabs b hb)
  cases r with
  | imm r => exact .imm (r.mono fun b o hb e => g.keep b o (fun ht => hb (hT b ht)) (by simp) e)
  | mlst h1 e r => exact .mlst h1 (g.keep _ _ (fun ht => (I.hid.μB _ (hm ▸ h1)).2 (I.hid.tabs _ ht)) (by simp) e) (r.mono fun b o hb e => g.keep b o (fun ht => hb (hT b ht)) (by simp) e)
  | mute h1 e r => exact .mute h1 (g.keep _ _ (fun ht => (I.hid.μB _ (hm ▸ h1)).2 (I.hid.tabs _ ht)) (by simp) e) r
theorem bQ {H : Hd} {s s' : Shared} (I : Inv C H s) (g : Gr C [] s s') {a : Addr} (h : s'.heap.get? a = none) : s.heap.get? a = none := by
  cases e : s.heap.get? a with
  | none => rfl
  | some o =>
    by_cases ht : a ∈ C.tabs
    · refine cA (I.ok.tabIs _ (g.tab I.tab) a ht) fun o' _ e' _ => ?_
      rw [h] at e'; cases e'
    · rw [g.keep a o ht (by simp) e] at h; cases h
theorem oQ {α : Type} {elt tgt iter : Expr} {ifs : List Expr} {scope : Scope} {cl : List (Str × Addr)} {pos : Pos} (xs : List α) (φ : α → PV) (gg : α → Option PV) (base : Vars) {A : Around} {s : Shared} {H : Hd} (hA : AOk A d) (I : Inv C H s) (F : aF C env H s.heap)
    (V : aA C env H s.heap m) (hi : EvIt C d env m iter (xs.map φ)) (hcl : gB env cl) (hnd : (cl.map (·.1)).Nodup) (hcell : ∀ y ∈ scope.names, y.2 ≠ .cell) (hkind : scope.kind = .function) (hsz : xs.length ≤ sizeLine)
    (hb : ∀ Cc, CSub C env (compEnvC scope cl Cc env) m base)
    (body : ∀ Cc, ∀ x ∈ xs, ∃ mt, Tgt C (compEnvC scope cl Cc env) tgt (φ x) mt ∧ match gg x with
      | none => Ifs C d (compEnvC scope cl Cc env) (mt ++ base) ifs false
      | some p => Ifs C d (compEnvC scope cl Cc env) (mt ++ base) ifs true ∧ Ev C d (compEnvC scope cl Cc env) (mt ++ base) elt p)
    {RR : Value → Addr → Result → Shared → Prop} {E : Value → Shared → Prop}
    (hRR : ∀ D Cc s', Gr C [] s s' → s.heap.get? Cc = none → (∃ m, s'.heap.Ns Cc m) → Rep (Cc :: H.hid) s'.heap (.ref D) (.lst (xs.filterMap gg)) → s.heap.get? D = none → RR (.ref D) Cc (.ok .next) s') :
    wpAny C.M A (eval iter env) (fun xv s₁ => wpAny C.M A (pyIter xv) (fun it s₂ => wpAny C.M A (newList []) (fun acc s₃ => wpAny C.M A (newFunctionEnv scope env.globals cl [] env.qual none .none (some env)) (fun cenv s₄ =>
      codeAny C.M A (.compStart (.ListComp elt [⟨tgt, iter, ifs, 0⟩] scope pos) 0 it acc { cenv with scope := relabel scope env }) (RR acc cenv.locals) s₄) E s₃) E s₂) E s₁) E s := by
  refine hi.run A s H hA I F V _ E fun J fp St s0 g it hst0 hJ => ?_
  refine wpAny_newObj_type (wpAny_newFunctionEnv hcell (by intro y hy; simp at hy) (fun h₁ hns₁ hsb₁ => ?_) hkind)
  dsimp only at hns₁ hsb₁ ⊢
  generalize hH2 : s0.heap.push { cls := .type "list", dict := none, data := .seq ([] : List Value).toArray } = H2 at hns₁ hsb₁ ⊢
  have hC : H2.objs.size = s0.heap.objs.size + 1 := by rw [← hH2, Heap.size_push]
  generalize hD : s0.heap.objs.size = D at hC ⊢
  generalize hCc : H2.objs.size = Cc at hns₁ hsb₁ hC ⊢
  have hDC : D ≠ Cc := by rw [hC]; exact Nat.ne_of_lt (Nat.lt_succ_self _)
  have none0 : ∀ a : Addr, D ≤ a → s0.heap.get? a = none := fun a ha => by
    cases e : s0.heap.get? a with
    | none => rfl
    | some o' => exact absurd (Heap.lt_size e) (by rw [hD]; exact Nat.not_lt.mpr ha)
  have hD0 : s0.heap.get? D = none := none0 D (Nat.le_refl _)
  have hC0 : s0.heap.get? Cc = none := none0 Cc (by rw [hC]; exact Nat.le_succ _)
  have old : ∀ b o, s0.heap.get? b = some o → h₁.get? b = some o := fun b o e => hsb₁.extBut b o (fun h => by rw [h, hC0] at e; cases e) (Heap.get?_push_of_some _ (hH2 ▸ Heap.get?_push_of_some _ e))
  have hacc : h₁.PlainList D #[] := ⟨0, hsb₁.extBut _ _ hDC (Heap.get?_push_of_some _ (by rw [← hH2, ← hD]; exact Heap.get?_push_size _ rfl))⟩
  have I0 := I.gr0 g
  have g04 : Gr C [] s0 { s0 with heap := h₁, toks := s0.toks + ([] : List (Str × Value)).length } := Gr.of I.ok old
  have g4 := g.trans g04
  have hJ0 : (s0.heap.get? J).isSome = true := it.there J it.self
  have hJD : J ≠ D := fun h => by rw [h, hD0] at hJ0; cases hJ0
  have hJC : J ≠ Cc := fun h => by rw [h, hC0] at hJ0; cases hJ0
  have hsD := bQ I g hD0
  have hsC := bQ I g hC0
  have NJ : cL C env J := .of I F hJ
  have ND : cL C env D := .of I F hsD
  have NC : cL C env Cc := .of I F hsC
  have hlook := hcl.look
  generalize hs4 : ({ s0 with heap := h₁, toks := s0.toks + ([] : List (Str × Value)).length } : Shared) = s4 at g04 g4 ⊢
  have hh4 : s4.heap = h₁ := by rw [← hs4]
  rw [← hh4] at hns₁ hacc old
  have I4 := I.gr0 g4
  have F4 := F.gr0 g4
  have hHX : ∀ a ∈ H.hid, a ≠ J ∧ a ≠ D ∧ a ≠ Cc := fun a ha => by
    have := I.hid.there a ha
    refine ⟨fun h => ?_, fun h => ?_, fun h => ?_⟩
    · rw [h, hJ] at this; cases this
    · rw [h, hsD] at this; cases this
    · rw [h, hsC] at this; cases this
  have hidc : ∀ a, a ∈ (⟨H.μ, J :: D :: Cc :: H.X⟩ : Hd).hid ↔ a = J ∨ a = D ∨ a = Cc ∨ a ∈ H.hid := fun a => by
    rw [aO, aO]
    simp only [List.mem_cons]
    constructor
    · rintro (h | h | h | h | h)
      · exact .inr (.inr (.inr (.inl h)))
      · exact .inl h
      · exact .inr (.inl h)
      · exact .inr (.inr (.inl h))
      · exact .inr (.inr (.inr (.inr h)))
    · rintro (h | h | h | h | h)
      · exact .inr (.inl h)
      · exact .inr (.inr (.inl h))
      · exact .inr (.inr (.inr (.inl h)))
      · exact .inl h
      · exact .inr (.inr (.inr (.inr h)))
  obtain ⟨oJ, hoJ⟩ := Option.isSome_iff_exists.mp hJ0
  have hJ4 : s4.heap.get? J = some oJ := old J oJ hoJ
  have hD4 : ∃ o, s4.heap.get? D = some o := let ⟨n, e⟩ := hacc; ⟨_, e⟩
  have hC4 : ∃ o, s4.heap.get? Cc = some o := let ⟨o, _, _, e, _⟩ := hns₁; ⟨_, e⟩
  have Ic : Inv C ⟨H.μ, J :: D :: Cc :: H.X⟩ s4 := ⟨I4.ok, I4.keep, I4.tab, ⟨fun a ha => by
      rcases (hidc a).mp ha with h | h | h | h
      · rw [h, hJ4]; rfl
      · obtain ⟨o, e⟩ := hD4; rw [h, e]; rfl
      · obtain ⟨o, e⟩ := hC4; rw [h, e]; rfl
      · exact I4.hid.there a h, fun a ha => mT (mT (mT (I.hid.tabs a ha))), fun a h => ⟨(I.hid.μB a h).1, fun hx => by
        have hne := hHX a (mU (.inl h))
        simp only [List.mem_cons] at hx
        rcases hx with h' | h' | h' | h'
        · exact hne.1 h'
        · exact hne.2.1 h'
        · exact hne.2.2 h'
        · exact (I.hid.μB a h).2 h'⟩, fun a ha o e => by
      rcases (hidc a).mp ha with h | h | h | h
      · refine bY (it.code _ _ hst0) fun o' e' hc _ => ?_
        rw [h] at e
        rw [old J o' e'] at e; cases e
        exact hc
      · obtain ⟨n, e'⟩ := hacc
        rw [h, e'] at e; cases e
        rintro ⟨_, _, _, h1, _⟩
        cases h1
      · exact aS hns₁ (h ▸ e)
      · exact I4.hid.nc a h o e⟩, I4.tk⟩
  have Fc : aF C (compEnvC scope cl Cc env) ⟨H.μ, J :: D :: Cc :: H.X⟩ s4.heap := by
    refine ⟨⟨hkind, F.eok.globals, F.eok.builtins⟩, fun c hc => ⟨c.1, bK cl hnd c hc⟩, NC.tab, NC.base, ⟨_, hns₁⟩, fun x c hc => F4.cell x c (hlook x c hc), fun x y c hx hy => F.inj x y c (hlook x c hx) (hlook y c hy), fun x hx => ?_⟩
    rcases mC hx with h | h
    · rw [h]
      exact mT (mT mH)
    · obtain ⟨c, h1, rfl⟩ := mM h
      obtain ⟨h2, h3⟩ := List.mem_filter.mp h1
      have hk : env.kindOf c.1 = some .cell := dT hcell (eq_of_beq h3)
      exact mT (mT (mT (F.hid _ (kL hk (hcl.mem c h2)))))
  have Vc : aA C env ⟨H.μ, J :: D :: Cc :: H.X⟩ s4.heap m := V.move I F g4 rfl (fun a ha => by
    rcases (hidc a).mp ha with h | h | h | h
    · exact .inr (h ▸ hJ)
    · exact .inr (h ▸ hsD)
    · exact .inr (h ▸ hsC)
    · exact .inl h) fun a ha => (hidc a).mpr (.inr (.inr (.inr ha)))
  have Bc := (hb Cc).base hlook Vc
  have NJc : cL C (compEnvC scope cl Cc env) J := ⟨NJ.tab, NJ.base, hJC.symm, fun x c hc => NJ.cell x c (hlook x c hc), fun h => by
    rcases mC h with h | h
    · exact hJC h
    · obtain ⟨c, h1, h2⟩ := mM h
      exact NJ.cell c.1 c.2 (hcl.mem c (List.mem_filter.mp h1).1) h2⟩
  have NDc : cL C (compEnvC scope cl Cc env) D := ⟨ND.tab, ND.base, hDC.symm, fun x c hc => ND.cell x c (hlook x c hc), fun h => by
    rcases mC h with h | h
    · exact hDC h
    · obtain ⟨c, h1, h2⟩ := mM h
      exact ND.cell c.1 c.2 (hcl.mem c (List.mem_filter.mp h1).1) h2⟩
  have st4 : St 0 s4.heap := it.stays I.tabs NJ.tab g04 (fun b hb => by cases hb) hA.handled hst0
  have loop : codeAny C.M A (.compLoop (.ListComp elt [⟨tgt, iter, ifs, 0⟩] scope pos) 0 (.ref J) (.ref D) (compEnvC scope cl Cc env)) (RR (.ref D) Cc) s4 := by
    refine wA (cenv := compEnvC scope cl Cc env) (Hc := ⟨H.μ, J :: D :: Cc :: H.X⟩) xs φ gg hA it NJc NDc hJD mH (mT mH) (fun b o _ e => old b o e) hD0 hC0 I.tabs (fun a ha => ?_)
      ⟨Gr.refl .., Ic, Fc, Bc, st4, #[], hacc, .nil⟩ hsz (body Cc) fun s' g' hn' hl' => ?_
    · rcases (hidc a).mp ha with h | h | h | h
      · exact .inl (h ▸ mH)
      · exact .inr (h ▸ hD0)
      · exact .inr (h ▸ hC0)
      · exact .inl (mT h)
    · obtain ⟨ys, ⟨n, hys⟩, R⟩ := hl'
      refine hRR D Cc s' (g4.then g' fun y hy => .inr ?_) hsC hn' (.lst (n := n) (fun hx => ?_) hys (R.rehide fun a ha => .inl ?_)) hsD
      · simp only [List.mem_cons, List.not_mem_nil, or_false] at hy
        rcases hy with rfl | rfl | rfl
        · exact hJ
        · exact hsD
        · exact hsC
      · rcases mC hx with h | h
        · exact hDC h
        · exact (hHX D h).2.1 rfl
      · rcases mC ha with h | h
        · exact (hidc a).mpr (.inr (.inr (.inl h)))
        · exact (hidc a).mpr (.inr (.inr (.inr h)))
  exact codeAny_compStart_list loop ((it.walks A hA.handled).self 0 _ _ _ st4 loop)
theorem Gr.wroteNew {H : Hd} {s s' : Shared} {h' : Heap} {c : Addr} (I : Inv C H s) (g : Gr C [] s s') (hc : s.heap.get? c = none) {mm : Str → Option Value} (hn : s'.heap.Ns c mm) (hs : Heap.SameBut c s'.heap h') : Gr C [] s { s' with heap := h' } := by
  have g2 : Gr C [c] s' { s' with heap := h' } := Gr.but I.ok (tk := s'.toks) (fun x hx => by
    rw [mS hx]
    refine ⟨fun ht => ?_, fun o e hcd => ?_⟩
    · refine cA (I.ok.tabIs _ I.tab c ht) fun o _ e _ => ?_
      rw [hc] at e; cases e
    · refine eM hn fun o' es ep e' d _ => ?_; clear hn
      rw [e] at e'; cases e'
      refine bH hcd fun _ _ _ h1 _ => ?_; clear hcd
      rw [d] at h1; cases h1) fun b o hb e => (hs.2 b (by simpa using hb)).trans e
  exact g.then g2 fun y hy => .inr (by rw [mS hy]; exact hc)
theorem evListComp {α : Type} {elt tgt iter : Expr} {ifs : List Expr} {scope : Scope} {cl : List (Str × Addr)} {pos : Pos} (xs : List α) (φ : α → PV) (gg : α → Option PV) (base : Vars) (hclos : closureFor scope env = pure cl)
    (hi : EvIt C d env m iter (xs.map φ)) (hcl : gB env cl) (hnd : (cl.map (·.1)).Nodup) (hcell : ∀ y ∈ scope.names, y.2 ≠ .cell) (hkind : scope.kind = .function) (hnames : ∀ x ∈ scope.names, x.2 = .local → scope.names.lookup x.1 = some .local) (hsz : xs.length ≤ sizeLine)
    (hb : ∀ Cc, CSub C env (compEnvC scope cl Cc env) m base)
    (body : ∀ Cc, ∀ x ∈ xs, ∃ mt, Tgt C (compEnvC scope cl Cc env) tgt (φ x) mt ∧ match gg x with
      | none => Ifs C d (compEnvC scope cl Cc env) (mt ++ base) ifs false
      | some p => Ifs C d (compEnvC scope cl Cc env) (mt ++ base) ifs true ∧ Ev C d (compEnvC scope cl Cc env) (mt ++ base) elt p)
    (hs : ∀ x, foldedSetIterable iter env x = pure x := by intro _; rfl) : Ev C d env m (.ListComp elt [⟨tgt, iter, ifs, 0⟩] scope pos) (.lst (xs.filterMap gg)) := by
  refine .mk ?_
  intro A s H hA I F V Q E q
  rw [eval_ListComp]
  refine wpAny_comprehension_free (use := none) rfl hs hclos hkind hnames (oQ xs φ gg base hA I F V hi hcl hnd hcell hkind hsz hb body (RR := fun acc C' => compPost C.M A E none Q acc C') fun D Cc s' g hC hn hr hD => ?_)
  obtain ⟨mm, hn⟩ := hn
  refine ⟨mm, hn, fun h' hs' => ?_⟩
  have g' := Gr.wroteNew I g hC hn hs'
  refine q _ _ g' ?_
  have : Rep (Cc :: H.hid) h' (.ref D) (.lst (xs.filterMap gg)) := hr.mono fun b o hb e => (hs'.2 b (fun h => hb (by rw [h]; exact mH))).trans e
  exact this.rehide fun a ha => .inl (mT ha)
end
end
section
section
variable {C : Cx} {d : Nat} {env : Env} {m : Vars}
theorem bO.drop {H : Hd} {c : Addr} {s s2 : Shared} (I : Inv C ⟨H.μ, c :: H.X⟩ s) (hc : c ∉ H.hid) (hT : ∀ b ∈ C.tabs, b ∈ H.X) (g : Gr C [c] s s2) : bO C H s2.heap := by
  have hin : ∀ a ∈ H.hid, a ∈ (⟨H.μ, c :: H.X⟩ : Hd).hid := fun a ha => (aO.mp ha).elim (fun h => mU (.inl h)) fun h => mU (.inr (mT h))
  have hne : ∀ a ∈ H.hid, a ≠ c := fun a ha h => hc (h ▸ ha)
  refine ⟨fun a ha => ?_, hT, fun a h => ⟨(I.hid.μB a h).1, fun hx => (I.hid.μB a h).2 (mT hx)⟩, fun a ha o e => jS I g (hin a ha) (by simpa using hne a ha) e⟩
  by_cases htb : a ∈ C.tabs
  · refine cA (I.ok.tabIs _ (g.tab I.tab) a htb) fun o _ e _ => ?_
    rw [e]; rfl
  · obtain ⟨o, e⟩ := iS (I.hid.there a (hin a ha))
    rw [g.keep a o htb (by simpa using hne a ha) e]; rfl
theorem Inv.hide {H : Hd} {c : Addr} {s s2 : Shared} (I : Inv C H s) (g : Gr C [] s s2) (hc : s.heap.get? c = none) (ht : (s2.heap.get? c).isSome = true) (hn : ∀ o, s2.heap.get? c = some o → ¬ aB o) : Inv C ⟨H.μ, c :: H.X⟩ s2 := by
  have I2 := I.gr0 g
  have hch : c ∉ H.hid := fun h => by
    have := I.hid.there c h
    rw [hc] at this; cases this
  refine ⟨I2.ok, I2.keep, I2.tab, ⟨fun a ha => ?_, fun a ha => mT (I.hid.tabs a ha), fun a h => ⟨(I.hid.μB a h).1, fun hx => ?_⟩, fun a ha o e => ?_⟩, I2.tk⟩
  · rcases aO.mp ha with h | h
    · exact I2.hid.there a (mU (.inl h))
    · rcases mC h with rfl | h
      · exact ht
      · exact I2.hid.there a (mU (.inr h))
  · rcases mC hx with rfl | hx
    · exact hch (mU (.inl h))
    · exact (I.hid.μB a h).2 hx
  · rcases aO.mp ha with h | h
    · exact I2.hid.nc a (mU (.inl h)) o e
    · rcases mC h with rfl | h
      · exact hn o e
      · exact I2.hid.nc a (mU (.inr h)) o e
theorem bS {α : Type} {elt tgt iter : Expr} {ifs : List Expr} {scope : Scope} {cl : List (Str × Addr)} {pos spos py : Pos} {y : Str} (xs : List α) (φ : α → PV) (gg : α → Option PV) (base : Vars)
    (hsw : swapsWith (.ListComp elt [⟨tgt, iter, ifs, 0⟩] scope pos) (some (.Name y py)) spos.line env = pure true) (hclos : closureFor scope env = pure cl)
    (hi : EvIt C d env m iter (xs.map φ)) (hcl : gB env cl) (hnd : (cl.map (·.1)).Nodup) (hcell : ∀ y ∈ scope.names, y.2 ≠ .cell) (hkind : scope.kind = .function) (hnames : ∀ x ∈ scope.names, x.2 = .local → scope.names.lookup x.1 = some .local) (hsz : xs.length ≤ sizeLine)
    (hb : ∀ Cc, CSub C env (compEnvC scope cl Cc env) m base)
    (body : ∀ Cc, ∀ x ∈ xs, ∃ mt, Tgt C (compEnvC scope cl Cc env) tgt (φ x) mt ∧ match gg x with
      | none => Ifs C d (compEnvC scope cl Cc env) (mt ++ base) ifs false
      | some p => Ifs C d (compEnvC scope cl Cc env) (mt ++ base) ifs true ∧ Ev C d (compEnvC scope cl Cc env) (mt ++ base) elt p)
    (hy : cN env y) (hs : ∀ x, foldedSetIterable iter env x = pure x := by intro _; rfl) : Es C d env m (.Assign [.Name y py] (.ListComp elt [⟨tgt, iter, ifs, 0⟩] scope pos) spos) (.next ((y, .lst (xs.filterMap gg)) :: m)) := by
  refine .mk ?_
  intro A s H hA I F V Q E q
  rw [exec_Assign_Name_used _ _ _ _ hsw]
  refine wpAny_bind (wpAny_standAt (wpAny_bind ?_))
  show wpAny _ A (do let _ ← comprehension (.ListComp elt [⟨tgt, iter, ifs, 0⟩] scope pos) scope env _ (newList []) false (eval iter env) (some (assign (.Name y py) env))) _ _ s
  refine wpAny_bind (wpAny_mono (wpAny_comprehension_free (use := some (assign (.Name y py) env)) (Q := fun _ s' => Q .next s') rfl hs hclos hkind hnames
    (oQ xs φ gg base hA I F V hi hcl hnd hcell hkind hsz hb body (RR := fun acc C' => compPost C.M A E (some (assign (.Name y py) env)) (fun _ s' => Q .next s') acc C') fun D Cc s' g hC hn hr hD => ?_)) (fun _ s' hq => wpAny_pure (wpAny_pure hq)) fun _ _ e => e)
  obtain ⟨mm, hn⟩ := hn
  show wpAny _ A (assign (.Name y py) env (.ref D)) _ _ _
  have N : cL C env Cc := .of I F hC
  have hCh : Cc ∉ H.hid := fun h => by
    have := I.hid.there Cc h
    rw [hC] at this; cases this
  have I1 : Inv C ⟨H.μ, Cc :: H.X⟩ s' := I.hide g hC (by obtain ⟨o, _, _, e, _⟩ := hn; rw [e]; rfl) (fun o e => aS hn e)
  have F1 : aF C env ⟨H.μ, Cc :: H.X⟩ s'.heap := (F.gr0 g).hide fun x hx => mT hx
  have hin : ∀ a, a ∈ (⟨H.μ, Cc :: H.X⟩ : Hd).hid ↔ a = Cc ∨ a ∈ H.hid := fun a => by
    rw [aO, aO]
    simp only [List.mem_cons]
    constructor
    · rintro (h | h | h)
      · exact .inr (.inl h)
      · exact .inl h
      · exact .inr (.inr h)
    · rintro (h | h | h)
      · exact .inr (.inl h)
      · exact .inl h
      · exact .inr (.inr h)
  have V1 : aA C env ⟨H.μ, Cc :: H.X⟩ s'.heap m := V.move I F g rfl (fun a ha => ((hin a).mp ha).elim (fun h => .inr (h ▸ hC)) .inl) fun a ha => (hin a).mpr (.inr ha)
  have r1 : Rep (⟨H.μ, Cc :: H.X⟩ : Hd).hid s'.heap (.ref D) (.lst (xs.filterMap gg)) := hr.rehide fun a ha => .inl (((hin a).mp ha).elim (fun h => h ▸ mH) fun h => mT h)
  refine wpAny_assign_Name (bP I1 F1 V1 hy (.imm r1) _ _ fun _ s2 g2 z => ?_)
  have I2 := I1.gr g2 F1.ownB z.1
  have hn2 : s2.heap.Ns Cc mm := by
    refine bH hn fun o es ep e r => ?_; clear hn
    exact ⟨o, es, ep, g2.keep _ _ N.tab N.own e, r⟩
  refine ⟨mm, hn2, fun h' hs' => ?_⟩
  have g3 : Gr C [Cc] s2 { s2 with heap := h' } := Gr.but I.ok (tk := s2.toks) (fun x hx => by
    rw [mS hx]
    refine ⟨N.tab, fun o e hcd => ?_⟩
    refine eM hn2 fun o' es ep e' d _ => ?_; clear hn2
    rw [e] at e'; cases e'
    refine bH hcd fun _ _ _ h1 _ => ?_; clear hcd
    rw [d] at h1; cases h1) fun b o hb e => (hs'.2 b (by simpa using hb)).trans e
  have F3 := z.2.1.wrote N g3
  refine q _ _ ?_ ⟨H, .same (bO.drop I2 hCh I.hid.tabs g3), rfl, ⟨F3.eok, F3.found, F3.loc, F3.locB, F3.ns, F3.cell, F3.inj, F.hid⟩, aA.rehide (H := ⟨H.μ, Cc :: H.X⟩) rfl (fun a ha => .inl ((hin a).mpr (.inr ha))) (z.2.2.wrote N I2 z.2.1 mH g3)⟩
  exact (g.plain.trans (g2.wider cI)).then g3 fun y hy => .inr (by rw [mS hy]; exact hC)
end
end
section
section
variable {C : Cx} {d : Nat} {env : Env} {m : Vars}
noncomputable def Get (C : Cx) (d : Nat) (p q z : PV) : Prop :=
  ∀ A s H a b, AOk A d → Inv C H s → Rep H.hid s.heap a p → Rep H.hid s.heap b q → YG C A [] s (getItem a b) (fun v s' => Rep H.hid s'.heap v z)
theorem Ev.sub1 {value slice : Expr} {pos : Pos} {p q z : PV} (hv : Ev C d env m value p) (hi : Ev C d env m slice q) (hg : Get C d p q z) (hp : p.plain = true) (hl : ∃ id, typeLookup (.type (wK p)) "__getitem__" = pure (some (.builtin id)))
    (hs : ∀ o i, subscripted slice false o i = operate [o, i] (getItem o i)) : Ev C d env m (.Subscript value slice pos) z := .mk fun A s H hA I F V Q E k => by
  rw [eval_Subscript]
  refine wpAny_bind (hv.run A s H hA I F V _ E fun o s₁ g₁ r₁ => wpAny_bind (wpAny_holding (hi.run A s₁ H hA (I.gr0 g₁) (F.gr0 g₁) (V.gr0 I F g₁) _ E fun i s₂ g₂ r₂ => wpAny_bind (wpAny_standAt ?_))))
  have g12 := g₁.trans g₂
  have r1 := r₁.gr0 (I.gr0 g₁) g₂
  have hT := (r1.type hp).1
  obtain ⟨id, hl⟩ := hl
  refine wpAny_bind ?_
  rw [getitemInPython_of_ne hT.not_modules]
  refine wpAny_bind (wpAny_specialOf hT hl ?_)
  have fin : wpAny C.M A (subscripted slice false o i) (fun r s₃ => wpAny C.M A (letTemporaryGo value o r >>= fun _ => pure r) Q E s₃) E s₂ := by
    rw [hs]
    exact wpAny_operating (hg A s₂ H o i hA (I.gr0 g12) r1 r₂ _ E fun v s₃ g₃ r₃ => wpAny_bind (wpAny_letTemporaryGo (wpAny_pure (k v s₃ (g12.trans g₃) r₃))))
  first
    | exact wpAny_pure (wpAny_bind fin)
    | exact wpAny_bind (wpAny_pure (wpAny_bind fin))
    | exact wpAny_bind fin
theorem Get.lst {l : List PV} {i : Int} {z : PV} (h0 : 0 ≤ i) (h1 : i < 2 ^ 63) (hz : l[i.toNat]? = some z) : Get C d (.lst l) (.int i) z := fun A s H a b hA I ra rb Q E q => by
  cases rb
  refine aV (Rep.lstI ra) fun a vs n ez1 hx e R => ?_; subst ez1
  ·
    refine aI (R.at i.toNat z hz) fun v hv rv => ?_
    exact wpAny_getItem_list ⟨_, e, rfl, _, rfl⟩ h0 h1 (by simpa using hv) (q _ _ (Gr.refl ..) rv)
theorem Get.lstNeg {l : List PV} {i : Int} {z : PV} (h0 : i < 0) (h1 : -(l.length : Int) ≤ i) (h2 : -(2 ^ 63) ≤ i) (hz : l[(i + l.length).toNat]? = some z) : Get C d (.lst l) (.int i) z := fun A s H a b hA I ra rb Q E q => by
  cases rb
  refine aV (Rep.lstI ra) fun a vs n ez1 hx e R => ?_; subst ez1
  ·
    have hlen : vs.size = l.length := R.size
    refine aI (R.at _ z hz) fun v hv rv => ?_
    exact wpAny_getItem_list_neg ⟨_, e, rfl, _, rfl⟩ h0 (by rw [hlen]; exact h1) h2 (by rw [hlen]; simpa using hv) (q _ _ (Gr.refl ..) rv)
end
end
section
section
variable {C : Cx} {d : Nat} {env : Env} {m : Vars}
theorem cT {i : Int} {n : Nat} (h0 : 0 ≤ i) (h1 : i < n) : seqIndex? i n = some i.toNat := by
  unfold seqIndex?
  have : ¬ i < 0 := by exact Int.not_lt_of_ge h0
  simp [this, h0, h1]
theorem Get.tup {l : List PV} {i : Int} {z : PV} (h0 : 0 ≤ i) (h1 : i < 2 ^ 63) (hz : l[i.toNat]? = some z) : Get C d (.tup l) (.int i) z := fun A s H a b hA I ra rb Q E q => by
  cases rb
  refine aV (Rep.tupI ra) fun a vs n ez1 hx e R => ?_; subst ez1
  ·
    have hlen : vs.size = l.length := R.size
    have hlt := (List.getElem?_eq_some_iff.mp hz).1
    refine aI (R.at i.toNat z hz) fun v hv rv => ?_
    exact P.getItem_tuple (n := n) e (by omega) h1 (cT h0 (by omega)) (by simpa using hv) (q _ _ (Gr.refl ..) rv)
theorem Get.str {x : Str} {i : Int} {c : Nat} (h0 : 0 ≤ i) (h1 : i < 2 ^ 63) (hz : x.cps[i.toNat]? = some c) : Get C d (.str x) (.int i) (.str ⟨#[c]⟩) := fun A s H a b hA I ra rb Q E q => by
  cases rb
  cases ra
  have hlt := (Array.getElem?_eq_some_iff.mp hz).1
  refine P.getItem_str (c := c) (by simp; omega) ?_ (q _ _ Gr.toks' (.str _ _))
  rw [cT h0 (by show i < (x.cps.size : Int); exact (Int.toNat_lt h0).mp hlt)]
  exact hz
theorem Calls.lenStr {x : Str} (h : (x.length : Int) < 2 ^ 63) : Calls C d (.builtin "len") [.str x] (.int x.length) := fun A s H vs hA I R Q E q => by
  cases R with | cons r R => cases R; cases r; exact P.len_str (by omega) (q _ _ Gr.toks' (.int _ _))
theorem Calls.lenLst {l : List PV} (h : (l.length : Int) < 2 ^ 63) : Calls C d (.builtin "len") [.lst l] (.int l.length) := fun A s H vs hA I R Q E q => by
  cases R with
  | cons r R =>
    cases R
    refine aV (Rep.lstI r) fun a vs n ez1 hx e R => ?_; subst ez1
    ·
      have hlen : vs.size = l.length := R.size
      refine call_len_list ⟨_, e, rfl, _, rfl⟩ (by rw [hlen]; exact h) (q _ _ Gr.toks' ?_)
      rw [hlen]; exact .int _ _
theorem Calls.lenTup {l : List PV} (h : (l.length : Int) < 2 ^ 63) : Calls C d (.builtin "len") [.tup l] (.int l.length) := fun A s H vs hA I R Q E q => by
  cases R with
  | cons r R =>
    cases R
    refine aV (Rep.tupI r) fun a vs n ez1 hx e R => ?_; subst ez1
    ·
      have hlen : vs.size = l.length := R.size
      refine P.len_tuple (n := n) e (by rw [hlen]; exact Int.not_le.mpr h) (q _ _ Gr.toks' ?_)
      rw [hlen]; exact .int _ _
theorem Calls.ord {c : Nat} : Calls C d (.builtin "ord") [.str ⟨#[c]⟩] (.int c) := fun A s H vs hA I R Q E q => by
  cases R with | cons r R => cases R; cases r; exact P.ord_of_char (q _ _ Gr.toks' (.int _ _))
theorem Calls.chr {i : Int} (h0 : 0 ≤ i) (h1 : i ≤ 0x10FFFF) : Calls C d (.builtin "chr") [.int i] (.str ⟨#[i.toNat]⟩) := fun A s H vs hA I R Q E q => by
  cases R with | cons r R => cases R; cases r; exact P.chr_of_int (by simp; exact ⟨h0, h1⟩) (q _ _ Gr.toks' (.str _ _))
theorem Bin.addLst {l r : List PV} (h : l.length + r.length ≤ sizeLine) : Bin C d .Add (.lst l) (.lst r) (.lst (l ++ r)) := fun A s H x y hA I ra rb Q E q => by
  refine aV (Rep.lstI ra) fun a vs n ez1 hx e R => ?_; subst ez1
  ·
    refine aV (Rep.lstI rb) fun b ws k ez1 hy e' R' => ?_; subst ez1
    ·
      have h1 : vs.size = l.length := R.size
      have h2 : ws.size = r.length := R'.size
      refine P.add_list (n := n) (n2 := k) e e' (q _ _ (Gr.push I.ok) (.lst (n := 0) (I.fresh (Nat.le_refl _)) (Heap.get?_push_size _ rfl) ?_)) (by omega)
      rw [Array.toList_append]
      exact (R.append R').mono fun b o _ e => Heap.get?_push_of_some _ e
theorem Bin.addTup {l r : List PV} (h : l.length + r.length ≤ sizeLine) (hl : l ≠ []) (hr : r ≠ []) : Bin C d .Add (.tup l) (.tup r) (.tup (l ++ r)) := fun A s H x y hA I ra rb Q E q => by
  refine aV (Rep.tupI ra) fun a vs n ez1 hx e R => ?_; subst ez1
  ·
    refine aV (Rep.tupI rb) fun b ws k ez1 hy e' R' => ?_; subst ez1
    ·
      have h1 : vs.size = l.length := R.size
      have h2 : ws.size = r.length := R'.size
      have h3 : 0 < l.length := List.length_pos_iff.mpr hl
      have h4 : 0 < r.length := List.length_pos_iff.mpr hr
      have v1 : ¬ vs.isEmpty = true := fun hh => by
        have : vs.size = 0 := by simpa [Array.isEmpty] using hh
        omega
      have v2 : ¬ ws.isEmpty = true := fun hh => by
        have : ws.size = 0 := by simpa [Array.isEmpty] using hh
        omega
      refine P.add_tuple (n := n) (n2 := k) e e' v1 v2 (q _ _ (Gr.push I.ok) (.tup (n := 0) (I.fresh (Nat.le_refl _)) (Heap.get?_push_size _ rfl) ?_)) (by omega)
      rw [Array.toList_append]
      exact (R.append R').mono fun b o _ e => Heap.get?_push_of_some _ e
end
end
section
section
variable {C : Cx} {d : Nat} {env : Env} {m : Vars}
theorem cC {x : Str} (h : (x.length == 0) = true) : x = ⟨#[]⟩ := by
  obtain ⟨c⟩ := x
  have h1 : c.size = 0 := by simpa [Str.length] using h
  have : c = #[] := Array.eq_empty_of_size_eq_zero h1
  rw [this]
theorem cY (x y : Str) : x ++ y = ⟨x.cps ++ y.cps⟩ := rfl
theorem Bin.addStr {x y : Str} (h : x.length + y.length ≤ sizeLine) : Bin C d .Add (.str x) (.str y) (.str ⟨x.cps ++ y.cps⟩) := fun A s H a b hA I ra rb Q E q => by
  cases ra; cases rb
  refine P.add_str ?_
  split
  · rename_i hx
    have := cC hx
    subst this
    exact q _ _ (Gr.refl ..) (by simpa using Rep.str _ _)
  · split
    · rename_i hy
      have := cC hy
      subst this
      exact q _ _ (Gr.refl ..) (by simpa using Rep.str _ _)
    · refine ⟨?_, q _ _ Gr.toks' (by rw [cY]; exact .str _ _)⟩
      rw [cY]
      show (x.cps ++ y.cps).size ≤ sizeLine
      rw [Array.size_append]; exact h
theorem Calls.range2 {a b : Int} : Calls C d (.type "range") [.int a, .int b] (.rng a b 1) := fun A s H vs hA I R Q E q => by
  cases R with
  | cons r R =>
    cases R with
    | cons r' R => cases R; cases r; cases r'; exact call_range_2 (q _ _ (Gr.push I.ok) (.rng (I.fresh (Nat.le_refl _)) (IsRange.new ..)))
theorem Calls.range3 {a b c : Int} (hc : c ≠ 0) (hp : Builtin.divisionGoesByPylong (b - a) c = false) : Calls C d (.type "range") [.int a, .int b, .int c] (.rng a b c) := fun A s H vs hA I R Q E q => by
  cases R with
  | cons r R =>
    cases R with
    | cons r' R =>
      cases R with
      | cons r'' R => cases R; cases r; cases r'; cases r''; exact call_range_3 hc (q _ _ (Gr.push I.ok) (.rng (I.fresh (Nat.le_refl _)) (IsRange.new ..))) (.inl hp)
theorem Calls.tupLst {l : List PV} (hl : l.length ≤ sizeLine) : Calls C d (.type "tuple") [.lst l] (.tup l) := fun A s H vs hA I R Q E q => by
  cases R with
  | cons r R =>
    cases R
    refine aV (Rep.lstI r) fun a vs n ez1 hx e R => ?_; subst ez1
    ·
      have h1 : vs.size = l.length := R.size
      refine call_tuple_list ⟨_, e, rfl, _, rfl⟩ (fun h' hk => ?_) (by omega)
      have hg : Gr C [] s { s with heap := h'.push { cls := .type "tuple", data := .seq vs } } := Gr.of I.ok (tk := s.toks) fun b o e => Heap.get?_push_of_some _ (hk b o e)
      refine q _ _ hg (.tup (n := 0) (fun hh => ?_) (Heap.get?_push_size _ rfl) (R.gr0 I hg))
      obtain ⟨o, e⟩ := iS (I.hid.there _ hh)
      exact absurd (Heap.lt_size (hk _ _ e)) (Nat.lt_irrefl _)
end
end
section
noncomputable def PV.flat : PV → Bool
  | .none | .bool _ | .int _ | .str _ | .fn _ => true
  | _ => false
theorem Rep.flat {X Y : List Addr} {h h' : Heap} {v : Value} {p : PV} (r : Rep X h v p) (hp : p.flat = true) : Rep Y h' v p := by
  cases r with
  | none => exact .none
  | bool b => exact .bool b
  | int i t => exact .int i t
  | str x t => exact .str x t
  | fn v => exact .fn v
  | tup | lst | rng | sem => cases hp
theorem aD.flat {X Y : List Addr} {h h' : Heap} {vs : List Value} {ps : List PV} (r : aD X h vs ps) : ps.all PV.flat = true → aD Y h' vs ps :=
  r.ind (P := fun vs ps => ps.all PV.flat = true → aD Y h' vs ps) (fun _ => .nil) fun a _ ih hp => .cons (a.flat (Bool.and_eq_true_iff.mp hp).1) (ih (Bool.and_eq_true_iff.mp hp).2)
noncomputable def PV.fz : PV → PV
  | .mlst l => .lst l
  | .mute _ => .sem fun _ _ => True
  | p => p
noncomputable def fz (m : Vars) : Vars := m.map fun e => (e.1, e.2.fz)
theorem oE : ∀ (m : Vars) (x : Str), (fz m).lookup x = (m.lookup x).map PV.fz
  | [], x => rfl
  | (y, p) :: m, x => by
    show List.lookup x ((y, p.fz) :: fz m) = _
    rw [List.lookup_cons, List.lookup_cons]
    by_cases h : x == y
    · simp [h]
    · simp only [h]; exact oE m x
section
variable {C : Cx} {d : Nat} {env : Env} {m : Vars}
theorem Inv.freeze {H : Hd} {s : Shared} (I : Inv C H s) : Inv C ⟨none, H.X⟩ s :=
  ⟨I.ok, I.keep, I.tab, ⟨fun a ha => I.hid.there a (mU (.inr ((aO.mp ha).elim (fun h => by cases h) id))), I.hid.tabs, (fun a h => by cases h), fun a ha o e => I.hid.nc a (mU (.inr ((aO.mp ha).elim (fun h => by cases h) id))) o e⟩, I.tk⟩
theorem Rep.fzEq {X : List Addr} {h : Heap} {v : Value} {q : PV} (r : Rep X h v q) : q.fz = q := by cases r <;> rfl
theorem aA.freeze {H : Hd} {s : Shared} (I : Inv C H s) (V : aA C env H s.heap m) : aA C env ⟨none, H.X⟩ s.heap (fz m) := fun x p e => by
  rw [oE] at e
  refine aI (Option.map_eq_some_iff.mp e) fun q hq ez1 => ?_; subst ez1
  refine aI (V x q hq) fun v l r => ?_
  have hsub : ∀ a ∈ (⟨none, H.X⟩ : Hd).hid, a ∈ H.hid ∨ s.heap.get? a = none := fun a ha => .inl (mR ha)
  refine ⟨v, l, ?_⟩
  cases r with
  | imm r => exact r.fzEq.symm ▸ .imm (r.rehide hsub)
  | mlst hm e' r => exact .imm (.lst (I.hid.μB _ hm).2 e' (r.rehide hsub))
  | mute hm e r => exact .imm (.sem fun _ _ => trivial)
theorem aF.freeze {H : Hd} {h : Heap} (F : aF C env H h) : aF C env ⟨none, H.X⟩ h := F.hide fun _ h => h
theorem Ev.frozen {e : Expr} {p : PV} (h : Ev C d env (fz m) e p) (hp : p.flat = true := by rfl) : Ev C d env m e p := .mk fun A s H hA I F V Q E q =>
  h.run A s ⟨Option.none, H.X⟩ hA I.freeze F.freeze (V.freeze I) Q E fun v s' g r => q v s' g (r.flat hp)
theorem Ts.frozen {e : Expr} {b : Bool} (h : Ts C d env (fz m) e b) : Ts C d env m e b := .mk fun A s H hA I F V Q E q =>
  h.run A s ⟨Option.none, H.X⟩ hA I.freeze F.freeze (V.freeze I) Q E q
theorem Ex.frozen {b : List Stmt} {o : Out} (h : Ex C d env (fz m) b o) : Ex C d env m b o := .mk fun A s H hA I F V Q E q =>
  h.run A s ⟨Option.none, H.X⟩ hA I.freeze F.freeze (V.freeze I) Q E fun f s' g r => by
    refine aI r fun H' a z => ?_; clear r
    refine q f s' (g.wider fun x hx => ?_) ⟨H', ⟨a.X, fun b hb => .inr ?_, a.ok⟩, z⟩
    · rcases mA hx with h | h
      · exact cI x h
      · cases h
    · rcases a.fresh b hb with h | h
      · cases h
      · exact h
structure EvNew (C : Cx) (d : Nat) (env : Env) (m : Vars) (e : Expr) (l : List PV) : Prop where
  run : ∀ A s H, AOk A d → Inv C H s → aF C env H s.heap → aA C env H s.heap m →
    YG C A [] s (eval e env) (fun v s' => ∃ a vs n, v = .ref a ∧ s.heap.get? a = none ∧ s'.heap.get? a = some { cls := .type "list", data := .seq vs n } ∧ aD H.hid s'.heap vs.toList l)
theorem EvNew.lst {es : List Expr} {ps : List PV} {pos : Pos} (h : Evs C d env m es ps) (hl : ps.length ≤ sizeLine) : EvNew C d env m (.List es pos) ps :=
  .mk fun A s H hA I F V _ E q => wpAny_List_spliced (h.spliced hA I F V _ E fun vs s' g r => ⟨by rw [r.length]; exact hl, q _ _ (g.trans (Gr.push I.ok)) ⟨_, _, 0, rfl, bQ I g (bR s'), Heap.get?_push_size _ rfl, by
    show aD _ _ vs ps
    exact r.mono fun b o _ e => Heap.get?_push_of_some _ e⟩⟩)
theorem EvNew.nil {pos : Pos} : EvNew C d env m (.List [] pos) [] := EvNew.lst .nil (Nat.zero_le _)
theorem EvNew.add {l r : Expr} {pos : Pos} {p q : List PV} (hl : Ev C d env m l (.lst p)) (hr : Ev C d env m r (.lst q)) (h : p.length + q.length ≤ sizeLine) : EvNew C d env m (.BinOp l .Add r pos) (p ++ q) :=
  .mk fun A s H hA I F V _ E k => wpAny_BinOp (hl.two hr hA I F V fun x y s' g ra rb => by
    refine aV (Rep.lstI ra) fun a vs n ez1 hx e R => ?_; subst ez1
    ·
      refine aV (Rep.lstI rb) fun b ws k' ez1 hy e' R' => ?_; subst ez1
      ·
        have h1 : vs.size = p.length := R.size
        have h2 : ws.size = q.length := R'.size
        refine P.add_list (n := n) (n2 := k') e e' (k _ _ (g.trans (Gr.push I.ok)) ⟨_, _, 0, rfl, bQ I g (bR s'), Heap.get?_push_size _ rfl, ?_⟩) (by omega)
        rw [Array.toList_append]
        exact (R.append R').mono fun b o _ e => Heap.get?_push_of_some _ e)
theorem Inv.write {H : Hd} {s s' : Shared} {a : Addr} {o : Obj} (I : Inv C H s) (g : Gr C [] s s') (ha : s.heap.get? a = none) (ho : s'.heap.get? a = some o) (hc : ¬ aB o) : Inv C ⟨some a, H.X⟩ s' := by
  have I' := I.gr0 g
  refine ⟨I'.ok, I'.keep, I'.tab, ⟨fun b hb => ?_, I.hid.tabs, fun b hb => ?_, fun b hb o' e => ?_⟩, I'.tk⟩
  · rcases aO.mp hb with h | h
    · cases h; rw [ho]; rfl
    · exact I'.hid.there b (mU (.inr h))
  · cases hb
    refine ⟨?_, fun hx => ?_⟩
    · cases e : C.hB.get? a with
      | none => rfl
      | some o' =>
        by_cases ht : a ∈ C.tabs
        · refine cA (I.ok.tabIs _ I.tab a ht) fun o2 _ e2 _ => ?_
          rw [ha] at e2; cases e2
        · rw [I.keep a o' ht e] at ha; cases ha
    · have := I.hid.there a (mU (.inr hx))
      rw [ha] at this; cases this
  · rcases aO.mp hb with h | h
    · cases h
      rw [ho] at e; cases e
      exact hc
    · exact I'.hid.nc b (mU (.inr h)) o' e
theorem aA.write {H : Hd} {s s' : Shared} {a : Addr} (I : Inv C H s) (F : aF C env H s.heap) (V : aA C env H s.heap m) (g : Gr C [] s s') (ha : s.heap.get? a = none) (him : m.all (fun e => e.2.imm) = true) : aA C env ⟨some a, H.X⟩ s'.heap m := fun x p e => by
  refine aI (V x p e) fun v l r => ?_
  have hp : p.imm = true := by
    have := List.all_eq_true.mp him (x, p) (mem_of_lookup e)
    exact this
  have hT : ∀ b ∈ C.tabs, b ∈ (⟨some a, H.X⟩ : Hd).hid := fun b hb => mU (.inr (I.hid.tabs b hb))
  have r1 : Rep (⟨some a, H.X⟩ : Hd).hid s.heap v p := (r.is hp).rehide fun b hb => by
    rcases aO.mp hb with h | h
    · cases h; exact .inr ha
    · exact .inl (mU (.inr h))
  exact ⟨v, l.gr0 F g, .imm (r1.gr hT g fun x h => by cases h)⟩
where
  mem_of_lookup : ∀ {l : Vars} {x : Str} {p : PV}, l.lookup x = some p → (x, p) ∈ l
    | [], _, _, h => by cases h
    | (y, q) :: l, x, p, h => by
      rw [List.lookup_cons] at h
      by_cases e : x == y
      · simp only [e] at h
        cases h
        have := eq_of_beq e
        subst this
        exact mH
      · simp only [e] at h
        exact mT (mem_of_lookup h)
theorem dX {vs : Array Value} {n : Nat} : ¬ aB { cls := .type "list", data := .seq vs n } := fun hc => by
  refine bH hc fun _ _ _ h1 _ => ?_; clear hc
  cases h1
theorem Es.assignNew {x : Str} {px pos : Pos} {e : Expr} {l : List PV} (h : EvNew C d env m e l) (hl : l.all PV.flat = true) (him : m.all (fun e => e.2.imm) = true) (hk : cN env x)
    (hs : swapsWith e (some (.Name x px)) pos.line env = pure false := by rfl) : Es C d env m (.Assign [.Name x px] e pos) (.next ((x, .mlst l) :: m)) :=
  .mk fun A s H hA I F V Q E q => wpAny_Assign_Name (h.run A s H hA I F V _ E fun v s' g r => by
    refine aV r fun a vs n ez1 h2 h3 h4 => ?_; clear r; subst ez1
    have I1 := I.write g h2 h3 dX
    have V1 := V.write I F g h2 him
    have F1 : aF C env ⟨some a, H.X⟩ s'.heap := (F.gr0 g).hide fun _ h => h
    refine bP I1 F1 V1 hk (.mlst rfl h3 (h4.flat hl)) _ E fun _ s'' g' r' => ?_
    exact q _ s'' (g.plain.trans (g'.wider cI)) ⟨⟨some a, H.X⟩, ⟨rfl, fun b hb => .inr (by cases hb; exact h2), r'.1⟩, rfl, r'.2⟩) hs
theorem bO.mut {H : Hd} {s s' : Shared} {a : Addr} {o : Obj} (I : Inv C H s) (hm : H.μ = some a) (g : Gr C [a] s s') (ho : s'.heap.get? a = some o) (hc : ¬ aB o) : bO C H s'.heap := by
  refine ⟨fun b hb => ?_, I.hid.tabs, I.hid.μB, fun b hb o' e => ?_⟩
  · by_cases h : b = a
    · rw [h, ho]; rfl
    · by_cases ht : b ∈ C.tabs
      · refine cA (I.ok.tabIs _ (g.tab I.tab) b ht) fun o' _ e _ => ?_
        rw [e]; rfl
      · obtain ⟨o', e⟩ := iS (I.hid.there b hb)
        rw [g.keep b o' ht (by simpa using h) e]; rfl
  · by_cases h : b = a
    · rw [h, ho] at e; cases e
      exact hc
    · exact jS I g hb (by simpa using h) e
theorem aF.mut {H : Hd} {s s' : Shared} {a : Addr} {o : Obj} (I : Inv C H s) (F : aF C env H s.heap) (hm : H.μ = some a) (g : Gr C [a] s s') (ho : s.heap.get? a = some o) (hnc : ∀ v, o.data ≠ .cell v) : aF C env H s'.heap := by
  have hl : env.locals ≠ a := fun h => (I.hid.μB a hm).2 (h ▸ F.hid _ mH)
  have hcl : ∀ x c, env.cells.lookup x = some c → c ≠ a := fun x c hc h => by
    refine cps fun Pz kz => ?_
    obtain ⟨_, _, v, o', e, d⟩ := F.cell x c hc
    refine kz ?_; clear kz Pz
    rw [h, ho] at e; cases e
    exact hnc _ d
  refine ⟨F.eok, F.found, F.loc, F.locB, ?_, fun x c hc => ?_, F.inj, F.hid⟩
  · refine rI F.ns fun m o es ep e r => ?_
    exact ⟨m, o, es, ep, g.keep _ _ F.loc (by simpa using hl) e, r⟩
  · refine cps fun Pz kz => ?_
    obtain ⟨h1, h2, v, o, e, r⟩ := F.cell x c hc
    refine kz ?_; clear kz Pz
    exact ⟨h1, h2, v, o, g.keep _ _ h1 (by simpa using hcl x c hc) e, r⟩
theorem cO.mut {H : Hd} {s s' : Shared} {a : Addr} {o : Obj} (I : Inv C H s) (F : aF C env H s.heap) (hm : H.μ = some a) (g : Gr C [a] s s') (ho : s.heap.get? a = some o) (hnc : ∀ v, o.data ≠ .cell v) {x : Str} {v : Value} (l : cO C env s.heap x v) : cO C env s'.heap x v := by
  have hl : env.locals ≠ a := fun h => (I.hid.μB a hm).2 (h ▸ F.hid _ mH)
  have hcl : ∀ x c, env.cells.lookup x = some c → c ≠ a := fun x c hc h => by
    refine cps fun Pz kz => ?_
    obtain ⟨_, _, v, o', e, d⟩ := F.cell x c hc
    refine kz ?_; clear kz Pz
    rw [h, ho] at e; cases e
    exact hnc _ d
  rcases l with ⟨hk, m, hn, hv⟩ | ⟨hk, c, hc, o, ho, hd⟩ | l
  · refine bH hn fun o es ep e r => ?_; clear hn
    exact .inl ⟨hk, m, ⟨o, es, ep, g.keep _ _ F.loc (by simpa using hl) e, r⟩, hv⟩
  · exact .inr (.inl ⟨hk, c, hc, o, g.keep _ _ (F.cell x c hc).1 (by simpa using hcl x c hc) ho, hd⟩)
  · exact .inr (.inr l)
theorem aA.mut {H : Hd} {s s' : Shared} {a : Addr} {o : Obj} {x : Str} {p q : PV} (I : Inv C H s) (F : aF C env H s.heap) (V : aA C env H s.heap ((x, p) :: m)) (hm : H.μ = some a) (g : Gr C [a] s s') (ho : s.heap.get? a = some o) (hnc : ∀ v, o.data ≠ .cell v)
    (hl : cO C env s.heap x (.ref a)) (hq : bD H s'.heap (.ref a) q) (him : m.all (fun e => e.2.imm) = true) : aA C env H s'.heap ((x, q) :: m) := fun y p' e => by
  rw [List.lookup_cons] at e
  by_cases h : y == x
  · simp only [h] at e
    cases e
    have := eq_of_beq h
    subst this
    exact ⟨_, hl.mut I F hm g ho hnc, hq⟩
  · simp only [h] at e
    obtain ⟨v, l, r⟩ := V y p' (by rw [List.lookup_cons]; simp only [h]; exact e)
    have hp : p'.imm = true := List.all_eq_true.mp him (y, p') (aA.write.mem_of_lookup e)
    exact ⟨v, l.mut I F hm g ho hnc, .imm ((r.is hp).gr I.tabs g fun b hb => by rw [mS hb]; exact mU (.inl hm))⟩
theorem jT {H : Hd} {s : Shared} {x : Str} {l : List PV} (V : aA C env H s.heap ((x, .mlst l) :: m)) : ∃ a vs n, H.μ = some a ∧ cO C env s.heap x (.ref a) ∧ s.heap.get? a = some { cls := .type "list", data := .seq vs n } ∧ aD H.hid s.heap vs.toList l := by
  obtain ⟨v, hl, r⟩ := V x (.mlst l) (by rw [List.lookup_cons]; simp)
  refine cps fun Pz kz => ?_
  obtain ⟨a, vs, n, rfl, hm, e, r⟩ := r.mlstI
  refine kz ?_; clear kz Pz
  exact ⟨a, vs, n, hm, hl, e, r⟩
theorem kP {A : Around} {s : Shared} {H : Hd} {a : Addr} {vs : Array Value} {n : Nat} {v : Value} (I : Inv C H s) (hm : H.μ = some a) (e : s.heap.get? a = some { cls := .type "list", data := .seq vs n }) (hsz : vs.size ≤ sizeLine) :
    YG C A [a] s (call (.builtin "list.append") [.ref a, v]) (fun r s' => r = .none ∧ ∃ n', s'.heap.get? a = some { cls := .type "list", data := .seq (vs.push v) n' }) := fun Q E q =>
  wpAny_list_append_plain (hsz := hsz) ⟨n, e⟩ fun h' hl hs => q _ _ (Gr.but I.ok (tk := s.toks) (fun x hx => by
    rw [mS hx]
    refine ⟨fun ht => (I.hid.μB a hm).2 (I.hid.tabs a ht), fun o e' => ?_⟩
    exact I.hid.μC a o hm e') fun b o hb e => (hs.2 b (by simpa using hb)).trans e) ⟨rfl, hl⟩
theorem eP : lU "list" "append" "list.append" := ⟨F.plainAttrs_list, F.slot_list_append, F.type_list_append⟩
theorem dY : lU "list" "reverse" "list.reverse" := ⟨F.plainAttrs_list, F.slot_list_reverse, F.type_list_reverse⟩
theorem cZ {H : Hd} {s : Shared} {x : Str} {v : Value} (I : Inv C H s) (F : aF C env H s.heap) (l : cO C env s.heap x v) {A : Around} {Q : Value → Shared → Prop} {E : Value → Shared → Prop} (q : Q v s) : wpAny C.M A (loadName env x) Q E s := by
  have EO := F.eok
  have K := I.ok
  rcases l with ⟨hk, mm, hn, hv⟩ | ⟨hk, c, hc, hv⟩ | ⟨hk, hv⟩
  · exact wpAny_loadName_local EO.kind hk hn hv q
  · rcases hk with hk | ⟨hk, hcd⟩
    · exact wpAny_loadName_cell EO.kind hk hc hv q
    · exact wpAny_loadName_free EO.kind hk hc hv q hcd
  · rw [loadName_read EO.kind hk]
    rcases hv with hv | ⟨h0, hv⟩
    · exact loadGlobal_global (mg := C.mg) (by rw [EO.globals]; exact I.ns K.gT K.g) hv q
    · exact loadGlobal_builtin (mg := C.mg) (mb := C.mb) (by rw [EO.globals]; exact I.ns K.gT K.g) h0 (by rw [EO.builtins]; exact I.ns K.bT K.b) hv q
theorem Es.append {x : Str} {px apos pos epos : Pos} {e : Expr} {l : List PV} {p : PV} (h : Ev C d env ((x, .mlst l) :: m) e p) (him : m.all (fun e => e.2.imm) = true) (hsz : l.length ≤ sizeLine) (hi : interactive env = false) (hd : (x == ("__debug__" : Str)) = false)
    (hstar : ∀ rest, starEach (e :: rest) env = (false, eval e env) :: starEach rest env)
    (hbase : attributeBase (.Name x px) (Str.ofString "append") env (eval (.Name x px) env) = eval (.Name x px) env := by rfl) (hline : (apos.endLine == pos.line) = true := by rfl)
    (hfew : ((backTo pos (starEach [e] env)).all (fun x => !x.1) && (backToKw pos (keywordEach [] env)).all (fun x => x.1.isSome)
      && decide ([e].length + ([] : List Keyword).length + (if ([] : List Keyword).isEmpty then 0 else 1) < 30)) = true := by rfl)
    (hs : swapsWith (.Call (.Attribute (.Name x px) (Str.ofString "append") apos) [e] [] pos) none epos.line env = pure false := by rfl) :
    Es C d env ((x, .mlst l) :: m) (.Expr (.Call (.Attribute (.Name x px) (Str.ofString "append") apos) [e] [] pos) epos) (.next ((x, .mlst (l ++ [p])) :: m)) := .mk fun A s H hA I F V Q E q => by
  refine wpAny_Expr_any ?_ hi hs
  refine wpAny_Call_method hbase hfew hline eP.pa eP.slot eP.ty ?_
  refine aV (jT V) fun a vs n hm hl e1 R => ?_
  refine wpAny_Name (cZ I F hl ?_) hd
  refine ⟨⟨_, e1, rfl⟩, fun b hb => by cases hb; exact ⟨_, e1, rfl⟩, ?_⟩
  have hst : (backTo pos (starEach [e] env)).any (·.1) = false := by rw [hstar]; rfl
  have hE : Evs C d env ((x, .mlst l) :: m) [e] [p] := .cons h hstar .nil
  have hsp := hE.spliced (pos := pos) hA I F V
  rw [hstar] at hst hsp ⊢
  refine callWith_builtin hst (evalArgs_plain ?_)
  refine hsp _ E fun ws s1 g1 R1 => ?_
  cases R1 with
  | cons r1 R1 =>
    cases R1
    have I1 := I.gr0 g1
    have F1 := F.gr0 g1
    have V1 := V.gr0 I F g1
    refine aV (jT V1) fun a' vs' n' hm' hl' e1' R' => ?_
    rw [hm] at hm'; cases hm'
    have e2 := g1.keep a _ (fun ht => (I.hid.μB a hm).2 (I.hid.tabs a ht)) (by simp) e1
    rw [e1'] at e2; cases e2
    refine kP I1 hm e1' (by rw [← Array.length_toList, R'.length]; exact hsz) _ E fun _ s2 g2 z => ?_
    obtain ⟨_, n2, e3⟩ := z
    have hd2 : bO C H s2.heap := bO.mut I1 hm g2 e3 dX
    have hnc : ∀ v, (Data.seq vs n) ≠ .cell v := fun v h => by cases h
    have F2 := F1.mut I1 hm g2 e1' hnc
    have rq : bD H s2.heap (.ref a) (.mlst (l ++ [p])) := .mlst hm e3 (by
      rw [Array.toList_push]
      exact (R'.append (.cons r1 .nil)).gr I1.tabs g2 fun b hb => by rw [mS hb]; exact mU (.inl hm))
    have V2 := V1.mut I1 F1 hm g2 e1' hnc hl' rq him
    refine q _ s2 (g1.plain.trans (g2.wider fun b hb => ?_)) ⟨H, .same hd2, rfl, F2, V2⟩
    rw [mS hb]
    exact mR (by simp [hm])
end
end
section
section
variable {C : Cx} {d : Nat} {env : Env} {m : Vars}
theorem kM {A : Around} {s s1 : Shared} {H : Hd} {x : Str} {l l' : List PV} {a : Addr} {vs vs' : Array Value} {n n' : Nat} {h' : Heap} {tk : Nat} (I : Inv C H s) (F : aF C env H s.heap) (V : aA C env H s.heap ((x, .mlst l) :: m)) (him : m.all (fun e => e.2.imm) = true)
    (hm : H.μ = some a) (hl : cO C env s.heap x (.ref a)) (e : s.heap.get? a = some { cls := .type "list", data := .seq vs n }) (hs : Heap.SameBut a s.heap h') (e' : h'.get? a = some { cls := .type "list", data := .seq vs' n' }) (R : aD H.hid s.heap vs'.toList l') (ht : s.toks ≤ tk) :
    Gr C (wr env H) s { s with heap := h', toks := tk } ∧ bO C H h' ∧ aF C env H h' ∧ aA C env H h' ((x, .mlst l') :: m) := by
  have g : Gr C [a] s { s with heap := h', toks := tk } := Gr.but I.ok (fun y hy => by
    rw [mS hy]
    exact ⟨fun ht => (I.hid.μB a hm).2 (I.hid.tabs a ht), fun o e' => I.hid.μC a o hm e'⟩) (fun b o hb e => (hs.2 b (by simpa using hb)).trans e) ht
  have hnc : ∀ v, (Data.seq vs n) ≠ .cell v := fun v h => by cases h
  have hd : bO C H h' := bO.mut (s' := { s with heap := h', toks := tk }) I hm g e' dX
  have rq : bD H h' (.ref a) (.mlst l') := .mlst hm e' (R.gr (s' := { s with heap := h', toks := tk }) I.tabs g fun b hb => by rw [mS hb]; exact mU (.inl hm))
  refine ⟨g.wider fun b hb => ?_, hd, F.mut I hm g e hnc, V.mut I F hm g e hnc hl rq him⟩
  rw [mS hb]
  exact mR (by simp [hm])
theorem Es.reverse {x : Str} {px apos pos epos : Pos} {l : List PV} (him : m.all (fun e => e.2.imm) = true) (hsz : l.length ≤ sizeLine) (hi : interactive env = false) (hd : (x == ("__debug__" : Str)) = false)
    (hbase : attributeBase (.Name x px) (Str.ofString "reverse") env (eval (.Name x px) env) = eval (.Name x px) env := by rfl) (hline : (apos.endLine == pos.line) = true := by rfl)
    (hs : swapsWith (.Call (.Attribute (.Name x px) (Str.ofString "reverse") apos) [] [] pos) none epos.line env = pure false := by rfl) :
    Es C d env ((x, .mlst l) :: m) (.Expr (.Call (.Attribute (.Name x px) (Str.ofString "reverse") apos) [] [] pos) epos) (.next ((x, .mlst l.reverse) :: m)) := .mk fun A s H hA I F V Q E q => by
  refine wpAny_Expr_any ?_ hi hs
  refine wpAny_Call_method hbase rfl hline dY.pa dY.slot dY.ty ?_
  refine aV (jT V) fun a vs n hm hl e1 R => ?_
  refine wpAny_Name (cZ I F hl ?_) hd
  refine ⟨⟨_, e1, rfl⟩, fun b hb => by cases hb; exact ⟨_, e1, rfl⟩, ?_⟩
  refine callWith_builtin rfl (evalArgs_nil3 ?_)
  have hz : vs.size ≤ sizeLine := by rw [← Array.length_toList, R.length]; exact hsz
  refine call_meets (rest := []) PySem.F.slot_list_reverse ⟨_, e1, rfl⟩ PySem.F.entry_list_reverse (PySem.F.args_list_reverse_1 _) (AutoSeq1.list_reverse_list_0 a vs n hz) ⟨e1, ?_⟩
  have e2 : (s.heap.update a (Obj.mapSeq fun x => x.reverse)).get? a = some { cls := .type "list", data := .seq vs.reverse n } := by
    rw [Heap.get?_update_self _ e1 (by rfl)]
    show some (Obj.mapSeq _ _) = _
    unfold Obj.mapSeq
    simp
  refine yF (kM (A := A) (s1 := s) I F V him hm hl e1 (Heap.SameBut.update ..) e2 (by simpa using R.reverse) (Nat.le_refl _)) fun k1 k2 k3 k4 => ?_
  exact q _ _ k1 ⟨H, .same k2, rfl, k3, k4⟩
theorem Es.setItem {x : Str} {px ps pos : Pos} {i e : Expr} {l : List PV} {k : Int} {p : PV} (he : Ev C d env ((x, .mlst l) :: m) e p) (hi : Ev C d env ((x, .mlst l) :: m) i (.int k)) (h0 : 0 ≤ k) (hk : k < l.length) (hl : l.length ≤ sizeLine) (him : m.all (fun e => e.2.imm) = true) (hd : (x == ("__debug__" : Str)) = false)
    (hs : swapsWith e (some (.Subscript (.Name x px) i ps)) pos.line env = pure false := by rfl) :
    Es C d env ((x, .mlst l) :: m) (.Assign [.Subscript (.Name x px) i ps] e pos) (.next ((x, .mlst (l.set k.toNat p)) :: m)) := .mk fun A s H hA I F V Q E q => by
  refine wpAny_Assign_Subscript ?_ hs
  refine he.run A s H hA I F V _ E fun v s1 g1 r1 => ?_
  have I1 := I.gr0 g1
  have F1 := F.gr0 g1
  have V1 := V.gr0 I F g1
  refine aV (jT V1) fun a vs n hm hl' e1 R => ?_
  refine wpAny_Name (cZ I1 F1 hl' ?_) hd
  refine hi.run A s1 H hA I1 F1 V1 _ E fun iv s2 g2 r2 => ?_
  cases r2
  have I2 := I1.gr0 g2
  have e2 := g2.keep a _ (fun ht => (I.hid.μB a hm).2 (I.hid.tabs a ht)) (by simp) e1
  have R2 := R.gr0 I1 g2
  have hlen : vs.size = l.length := R.size
  have hz : sizeLine < 2 ^ 62 := by decide
  refine ki_setAt e2 h0 (by omega) (by exact lt_of_lt_of_eq hk (congrArg Nat.cast (id (Eq.symm hlen)))) ?_
  have e3 : (s2.heap.update a (Obj.mapSeq (·.setIfInBounds k.toNat v))).get? a = some { cls := .type "list", data := .seq (vs.setIfInBounds k.toNat v) n } := by
    rw [Heap.get?_update_self _ e2 (by rfl)]
    show some (Obj.mapSeq _ _) = _
    unfold Obj.mapSeq
    simp
  have g12 := g1.trans g2
  obtain ⟨k1, k2, k3, k4⟩ := kM (A := A) (s1 := s) (l' := l.set k.toNat p) I2 (F1.gr0 g2) (V1.gr0 I1 F1 g2) him hm (hl'.gr0 F1 g2) e2 (Heap.SameBut.update ..) e3 (by
    rw [Array.toList_setIfInBounds]
    exact R2.set _ (r1.gr0 I1 g2)) (Nat.le_refl _)
  exact q _ _ (g12.plain.trans k1) ⟨H, .same k2, rfl, k3, k4⟩
end
end
section
noncomputable def jO (name qual : Str) (params : Arguments) (body : List Stmt) (scope : Scope) (cl : List (Str × Addr)) (h : Heap) (v : Value) : Prop :=
  ∃ fa o doc pm cdv ct, v = .ref fa ∧ h.get? fa = some o ∧ o.data = .func (fnX name qual params body scope cl .none .none doc pm none cdv ct) ∧ h.CodeRec cdv qual
noncomputable def fT (qual : Str) (scope : Scope) (L a : Addr) (cd : Value) (cl : List (Str × Addr)) : Env :=
  newEnv scope L mainGlobals cl (qual ++ ".<locals>.") (some a) cd none builtinsNs
structure lV (C : Cx) (cl : List (Str × Addr)) (H : Hd) (h : Heap) (m : Vars) : Prop where
  look : ∀ x p, m.lookup x = some p → ∃ c v, cl.lookup x = some c ∧ h.IsCell c (some v) ∧ bD H h v p
  cell : ∀ x c, cl.lookup x = some c → c ∉ C.tabs ∧ C.hB.get? c = none ∧ ∃ v, h.IsCell c v
  inj : ∀ x y c, cl.lookup x = some c → cl.lookup y = some c → x = y
noncomputable def iX (C : Cx) (d : Nat) (name qual : Str) (params : Arguments) (body : List Stmt) (scope : Scope) (cl : List (Str × Addr)) (m : Vars) (ps : List PV) (r : PV) (m' : Vars) : Prop :=
  ∀ A s H f vs, AOk A d → Inv C H s → jO name qual params body scope cl s.heap f → lV C cl H s.heap m → aD H.hid s.heap vs ps →
    YG C A H.μ.toList s (call f vs) (fun v s' => Rep H.hid s'.heap v r ∧ bO C H s'.heap ∧ lV C cl H s'.heap m')
noncomputable def lX (C : Cx) (d : Nat) (name qual : Str) (params : Arguments) (body : List Stmt) (scope : Scope) (cl : List (Str × Addr)) (m : Vars) (ps : List PV) (r : PV) : Prop :=
  ∀ A s H f vs, AOk A d → Inv C H s → jO name qual params body scope cl s.heap f → lV C cl H s.heap m → aD H.hid s.heap vs ps →
    YG C A [] s (call f vs) (fun v s' => Rep H.hid s'.heap v r)
section
variable {C : Cx} {d : Nat} {env : Env} {m : Vars} {name qual : Str} {params : Arguments} {body : List Stmt} {scope : Scope} {cl : List (Str × Addr)}
theorem wY {L a : Addr} {cd : Value} (hcell : ∀ x ∈ scope.names, x.2 ≠ .cell) : own (fT qual scope L a cd cl) = [L] := by
  unfold own
  have : (fT qual scope L a cd cl).cells.filter (fun c => (fT qual scope L a cd cl).kindOf c.1 == some .cell) = [] := by
    rw [List.filter_eq_nil_iff]
    intro c hc h
    have h : scope.names.lookup c.1 = some .cell := eq_of_beq h
    exact hcell _ (mem_of_lookup h) rfl
  rw [this]
  rfl
structure pV (H H1 : Hd) (L : Addr) : Prop where
  hid : ∀ a, a ∈ H1.hid → a = L ∨ a ∈ H.hid
  X : ∀ a ∈ H.X, a ∈ H1.X
  all : ∀ a ∈ H.hid, a ∈ H1.hid
  inX : L ∈ H1.X
  μ : ∀ a, H1.μ = some a → H.μ = some a
  no : ∀ a, H1.μ = some a → a ∉ H.X → a ≠ L → a ∉ H1.X
theorem pV.on {H : Hd} {L : Addr} : pV H ⟨H.μ, L :: H.X⟩ L :=
  ⟨fun a h => (aO.mp h).elim (fun h => .inr (mU (.inl h))) fun h => (mC h).imp id fun h => mU (.inr h), fun a h => mT h,
    fun a h => mU ((aO.mp h).imp id (mT)), mH, fun a h => h, fun a _ h1 h2 h3 => (mC h3).elim h2 h1⟩
theorem pV.shut {H : Hd} {L : Addr} : pV H ⟨none, L :: H.hid⟩ L :=
  ⟨fun a h => mC ((aO.mp h).elim (fun h => by cases h) id), fun a h => mT (mU (.inr h)), fun a h => mU (.inr (mT h)), mH, (fun a h => by cases h), fun a h => by cases h⟩
theorem Inv.into {H H1 : Hd} {s s1 : Shared} {L : Addr} (I : Inv C H s) (g : Gr C [] s s1) (K : pV H H1 L) (h0 : s.heap.get? L = none) (h1 : (s1.heap.get? L).isSome = true) (hn : ∀ o, s1.heap.get? L = some o → ¬ aB o) : Inv C H1 s1 := by
  have I1 := I.gr0 g
  refine ⟨I1.ok, I1.keep, I1.tab, ⟨fun a ha => ?_, fun a ha => K.X a (I.hid.tabs a ha), fun a h => ⟨(I.hid.μB a (K.μ a h)).1, K.no a h (I.hid.μB a (K.μ a h)).2 fun e => ?_⟩, fun a ha o e => (K.hid a ha).elim (fun h => hn o (h ▸ e)) fun h => I1.hid.nc a h o e⟩, I1.tk⟩
  · rcases K.hid a ha with rfl | h
    · exact h1
    · exact I1.hid.there a h
  · have := I.hid.there a (mU (.inl (K.μ a h)))
    rw [e, h0] at this; cases this
theorem Rep.into {H H1 : Hd} {s s1 : Shared} {L : Addr} (I : Inv C H s) (g : Gr C [] s s1) (K : pV H H1 L) (h0 : s.heap.get? L = Option.none) {v : Value} {p : PV} (r : Rep H.hid s.heap v p) : Rep H1.hid s1.heap v p :=
  (r.rehide (Y := H1.hid) fun a ha => (K.hid a ha).elim (fun h => .inr (h ▸ h0)) .inl).gr (fun b hb => K.all b (I.tabs b hb)) g fun x h => by cases h
theorem aD.into {H H1 : Hd} {s s1 : Shared} {L : Addr} (I : Inv C H s) (g : Gr C [] s s1) (K : pV H H1 L) (h0 : s.heap.get? L = Option.none) {v : List Value} {p : List PV} (r : aD H.hid s.heap v p) : aD H1.hid s1.heap v p :=
  (r.rehide (Y := H1.hid) fun a ha => (K.hid a ha).elim (fun h => .inr (h ▸ h0)) .inl).gr (fun b hb => K.all b (I.tabs b hb)) g fun x h => by cases h
theorem bD.into {H H1 : Hd} {s s1 : Shared} {L : Addr} (I : Inv C H s) (g : Gr C [] s s1) (K : pV H H1 L) (h0 : s.heap.get? L = Option.none) {v : Value} {p : PV} (hp : H1.μ = H.μ ∨ p.imm = true) (r : bD H s.heap v p) : bD H1 s1.heap v p := by
  rcases hp with hp | hp
  · cases r with
    | imm r => exact .imm (r.into I g K h0)
    | mlst hm e r => exact .mlst (hp.trans hm) (g.keep _ _ (fun ht => (I.hid.μB _ hm).2 (I.hid.tabs _ ht)) (by simp) e) (r.into I g K h0)
    | mute hm e r => exact .mute (hp.trans hm) (g.keep _ _ (fun ht => (I.hid.μB _ hm).2 (I.hid.tabs _ ht)) (by simp) e) r
  · exact .imm ((r.is hp).into I g K h0)
noncomputable def tX : Flow → Value
  | .ret v => v
  | _ => .none
theorem yD {A : Around} {s : Shared} {H : Hd} {ps : List PV} {f : Value} {vs : List Value} {xs : List Str} {glb : Vars} {Q : Value → Shared → Prop} {E : Value → Shared → Prop} (I : Inv C H s) (hd : A.depth < recursionLimit) (K : jO name qual params body scope cl s.heap f) (V : lV C cl H s.heap m) (Rr : aD H.hid s.heap vs ps)
    (hb : ∀ doc pm cdv ct vs, vs.length = xs.length → bindArgs (fnX name qual params body scope cl .none .none doc pm none cdv ct) ⟨vs, []⟩ = pure (xs.zip vs))
    (hloc : ∀ x ∈ xs, scope.names.lookup x = some .local) (hnd : xs.Nodup) (hl : xs.length = ps.length) (hcell : ∀ x ∈ scope.names, x.2 ≠ .cell) (hk : scope.kind = .function) (hgen : scope.isGenerator = false) (hco : scope.isCoroutine = false)
    (hcl : (cl.map (·.1)).Nodup) (hfree : ∀ x p, m.lookup x = some p → scope.names.lookup x = some .free ∧ (x == ("__classdict__" : Str)) = false) (G : GlobOk C scope glb)
    (T : Addr → Hd) (hT : ∀ L, pV H (T L) L) (hμ : ∀ L x p, m.lookup x = some p → (T L).μ = H.μ ∨ p.imm = true)
    (h : ∀ L fa cdv s1, Gr C [] s s1 → s.heap.get? L = none → Inv C (T L) s1 → aF C (fT qual scope L fa cdv cl) (T L) s1.heap → aA C (fT qual scope L fa cdv cl) (T L) s1.heap (xs.zip ps ++ (m ++ glb)) →
      wpAny C.M (A.deeper (fT qual scope L fa cdv cl)) (execs body (fT qual scope L fa cdv cl)) (fun fl s' => Q (tX fl) s') (fun _ _ => False) s1) : wpAny C.M A (call f vs) Q E s := by
  refine zFt K fun fa o doc pm cdv ct ez1 ho hdt hcd => ?_; clear K; subst ez1
  have hlen := Rr.length
  refine wpAny_call (codeAny_call_function hd ho hdt hco hgen rfl hcd ?_)
  rw [hb doc pm cdv ct vs (by omega)]
  refine wpAny_pure (wpAny_newFunctionEnv hcell (fun x hx => hloc x.1 (List.of_mem_zip hx).1) (fun h₁ hns hsb => ⟨I.nolimit.fresh _ hsb, ?_⟩) hk)
  generalize hLd : s.heap.objs.size = L at hns hsb ⊢
  have h0 : s.heap.get? L = none := hLd ▸ bR s
  have old : ∀ b o, s.heap.get? b = some o → h₁.get? b = some o := fun b o e => hsb.extBut b o (fun q => by rw [q, h0] at e; cases e) (Heap.get?_push_of_some _ e)
  have g : Gr C [] s { s with heap := h₁, toks := s.toks + (xs.zip vs).length } := Gr.of I.ok old
  have h1 : (h₁.get? L).isSome = true := by obtain ⟨o, _, _, e, _⟩ := hns; rw [e]; rfl
  have I1 := I.into g (hT L) h0 h1 (fun o e => aS hns e)
  have hLt : L ∉ C.tabs := fun ht => by
    refine cA (I.ok.tabIs _ I.tab L ht) fun o' _ e' _ => ?_
    rw [h0] at e'; cases e'
  have hLB : C.hB.get? L = none := by
    cases e : C.hB.get? L with
    | none => rfl
    | some o' => rw [I.keep L o' hLt e] at h0; cases h0
  have F1 : aF C (fT qual scope L fa cdv cl) (T L) h₁ := by
    refine ⟨⟨hk, rfl, rfl⟩, fun c hc => ⟨c.1, bK cl hcl c hc⟩, hLt, hLB, ⟨_, hns⟩, fun x c hc => ?_, V.inj, fun x hx => ?_⟩
    · refine cps fun Pz kz => ?_
      obtain ⟨k1, k2, v, o', e', k3⟩ := V.cell x c hc
      refine kz ?_; clear kz Pz
      exact ⟨k1, k2, v, o', old _ _ e', k3⟩
    · rw [wY hcell, List.mem_singleton] at hx
      rw [hx]; exact (hT L).inX
  refine codeAny_func (wpAny_mono (h L fa cdv _ g h0 I1 F1 fun x p e => ?_) (fun fl s' hq => hq) fun _ _ z => z.elim)
  rw [List.lookup_append] at e
  cases e2 : (xs.zip ps).lookup x with
  | some p' =>
    rw [e2] at e
    cases e
    refine aI (dD xs Rr x p e2) fun v hv rv => ?_
    refine ⟨v, .inl ⟨?_, _, hns, by rw [dZ xs vs hnd x]; exact hv⟩, .imm (rv.into I g (hT L) h0)⟩
    exact hloc x (List.of_mem_zip (mem_of_lookup hv)).1
  | none =>
    rw [e2] at e
    rw [Option.none_or, List.lookup_append] at e
    cases e3 : m.lookup x with
    | some p' =>
      rw [e3] at e
      cases e
      refine cps fun Pz kz => ?_
      obtain ⟨c, v, hc, ⟨o', e', k3⟩, rv⟩ := V.look x p e3
      refine kz ?_; clear kz Pz
      exact ⟨v, .inr (.inl ⟨.inr (hfree x p e3), c, hc, o', old _ _ e', k3⟩), rv.into I g (hT L) h0 (hμ L x p e3)⟩
    | none =>
      rw [e3] at e
      refine bY (G x p e) fun v hr k1 k2 => ?_
      exact ⟨v, .inr (.inr ⟨k1, k2⟩), .imm (hr _ h₁)⟩
theorem lX.of {xs : List Str} {ps : List PV} {r : PV} {glb : Vars} (hd : d < recursionLimit)
    (hb : ∀ doc pm cdv ct vs, vs.length = xs.length → bindArgs (fnX name qual params body scope cl .none .none doc pm none cdv ct) ⟨vs, []⟩ = pure (xs.zip vs))
    (hloc : ∀ x ∈ xs, scope.names.lookup x = some .local) (hnd : xs.Nodup) (hl : xs.length = ps.length) (hcell : ∀ x ∈ scope.names, x.2 ≠ .cell) (hk : scope.kind = .function) (hgen : scope.isGenerator = false) (hco : scope.isCoroutine = false)
    (hcl : (cl.map (·.1)).Nodup) (hfree : ∀ x p, m.lookup x = some p → scope.names.lookup x = some .free ∧ (x == ("__classdict__" : Str)) = false) (G : GlobOk C scope glb) (him : ∀ x p, m.lookup x = some p → p.imm = true)
    (h : ∀ L fa cdv, Ex C (d + 1) (fT qual scope L fa cdv cl) (xs.zip ps ++ (m ++ glb)) body (.ret r)) : lX C d name qual params body scope cl m ps r := by
  intro A s H f vs hA I K V Rr Q E q
  refine yD I (by have := hA.depth; exact Nat.lt_of_le_of_lt this hd) K V Rr hb hloc hnd hl hcell hk hgen hco hcl hfree G (fun L => ⟨none, L :: H.hid⟩) (fun L => .shut) (fun L x p e => .inr (him x p e)) fun L fa cdv s1 g h0 I1 F1 V1 => ?_
  refine (h L fa cdv).run (A.deeper (fT qual scope L fa cdv cl)) s1 _ ⟨hA.handled, by show A.depth + 1 ≤ d + 1; have := hA.depth; exact Nat.add_le_add_right this 1, by show A.units + 3 ≤ 10 * (d + 1); have := hA.units; omega⟩ I1 F1 V1 _ _ fun fl s' g' r' => ?_
  refine cps fun Pz kz => ?_
  obtain ⟨H', a, v, rfl, rv⟩ := r'
  refine kz ?_; clear kz Pz
  refine q v s' (g.then g' fun y hy => .inr ?_) (rv.rehide fun x hx => .inl ?_)
  · have : y ∈ own (fT qual scope L fa cdv cl) := by simpa [wr] using hy
    rw [wY hcell, List.mem_singleton] at this
    rw [this]; exact h0
  · rw [Hd.hid, a.X]
    exact mR (mT hx)
theorem iX.of {xs : List Str} {ps : List PV} {r : PV} {glb m' : Vars} {o : Out} (hd : d < recursionLimit)
    (hb : ∀ doc pm cdv ct vs, vs.length = xs.length → bindArgs (fnX name qual params body scope cl .none .none doc pm none cdv ct) ⟨vs, []⟩ = pure (xs.zip vs))
    (hloc : ∀ x ∈ xs, scope.names.lookup x = some .local) (hnd : xs.Nodup) (hl : xs.length = ps.length) (hcell : ∀ x ∈ scope.names, x.2 ≠ .cell) (hk : scope.kind = .function) (hgen : scope.isGenerator = false) (hco : scope.isCoroutine = false)
    (hcl : (cl.map (·.1)).Nodup) (hfree : ∀ x p, m.lookup x = some p → scope.names.lookup x = some .free ∧ (x == ("__classdict__" : Str)) = false) (G : GlobOk C scope glb)
    (ho : (∃ M', o = .retm r M' ∧ Sub M' m') ∨ (r = .none ∧ ∃ M', o = .next M' ∧ Sub M' m')) (hfree' : ∀ x p, m'.lookup x = some p → scope.names.lookup x = some .free)
    (hμ : ∃ x l l', m.lookup x = some (.mlst l) ∧ m'.lookup x = some (.mlst l'))
    (h : ∀ L fa cdv, Ex C (d + 1) (fT qual scope L fa cdv cl) (xs.zip ps ++ (m ++ glb)) body o) : iX C d name qual params body scope cl m ps r m' := by
  intro A s H f vs hA I K V Rr Q E q
  refine yD I (by have := hA.depth; exact Nat.lt_of_le_of_lt this hd) K V Rr hb hloc hnd hl hcell hk hgen hco hcl hfree G (fun L => ⟨H.μ, L :: H.X⟩) (fun L => .on) (fun L x p e => .inl rfl) fun L fa cdv s1 g h0 I1 F1 V1 => ?_
  refine (h L fa cdv).run (A.deeper (fT qual scope L fa cdv cl)) s1 _ ⟨hA.handled, by show A.depth + 1 ≤ d + 1; have := hA.depth; exact Nat.add_le_add_right this 1, by show A.units + 3 ≤ 10 * (d + 1); have := hA.units; omega⟩ I1 F1 V1 _ _ fun fl s' g' r' => ?_
  refine aI r' fun H' a r' => ?_
  have fin : ∃ v, tX fl = v ∧ Rep H'.hid s'.heap v r ∧ aF C (fT qual scope L fa cdv cl) H' s'.heap ∧ aA C (fT qual scope L fa cdv cl) H' s'.heap m' := by
    rcases ho with ⟨M', rfl, hs⟩ | ⟨rfl, M', rfl, hs⟩
    · refine iU r' fun v ez1 rv F' V' => ?_; clear r'; subst ez1
      exact ⟨v, rfl, rv, F', V'.sub hs⟩
    · refine bZ r' fun ez1 F' V' => ?_; clear r'; subst ez1
      exact ⟨_, rfl, .none, F', V'.sub hs⟩
  refine iU fin fun v hv rv F' V' => ?_; clear fin
  rw [hv]
  have g2 : Gr C H.μ.toList s s' := g.plain.then g' fun y hy => by
    rcases mA hy with h | h
    · rw [wY hcell, List.mem_singleton] at h
      exact .inr (h ▸ h0)
    · exact .inl h
  have cells : ∀ x c, cl.lookup x = some c → ∀ o, s.heap.get? c = some o → (∃ v, o.data = .cell v) → s'.heap.get? c = some o := fun x c hc o e hcell' => g2.keep c o (V.cell x c hc).1 (fun hy => by
    have hm : H.μ = some c := by simpa using hy
    refine bH hμ fun y l _ hy1 _ => ?_; clear hμ
    refine iT (V.look y _ hy1) fun c2 v2 _ _ rv2 => ?_
    refine cps fun Pz kz => ?_
    obtain ⟨_, _, _, rfl, hm2, e2, _⟩ := rv2.mlstI
    refine kz ?_; clear kz Pz
    obtain rfl := Option.some.inj (hm.symm.trans hm2)
    obtain rfl := Option.some.inj (e.symm.trans e2)
    obtain ⟨_, h⟩ := hcell'
    cases h) e
  have hμ' : H'.μ = H.μ := by
    refine bH hμ fun y l l' hy1 hy2 => ?_; clear hμ
    refine cps fun Pz kz => ?_
    obtain ⟨c, v1, hc1, ⟨o1, e1, d1⟩, rv1⟩ := V.look y _ hy1
    refine kz ?_; clear kz Pz
    refine aI (V' y _ hy2) fun v2 l2 rv2 => ?_
    have e1' := cells y c hc1 o1 e1 ⟨_, d1⟩
    refine cps fun Pz kz => ?_
    obtain ⟨c2, hc2, o2, e2, d2⟩ := l2.of (.inr (by exact hfree' y _ hy2))
    refine kz ?_; clear kz Pz
    obtain rfl := Option.some.inj (hc1.symm.trans hc2)
    obtain rfl := Option.some.inj (e1'.symm.trans e2)
    refine cps fun Pz kz => ?_
    obtain ⟨_, _, _, rfl, hm1, _⟩ := rv1.mlstI
    refine kz ?_; clear kz Pz
    refine cps fun Pz kz => ?_
    obtain ⟨_, _, _, e, hm2, _⟩ := rv2.mlstI
    refine kz ?_; clear kz Pz
    have e3 := d1.symm.trans d2
    rw [e] at e3
    cases e3
    exact hm2.trans hm1.symm
  have hsub : ∀ b ∈ H.hid, b ∈ H'.hid := fun b hb => by
    rcases aO.mp hb with h | h
    · exact mU (.inl (hμ'.trans h))
    · exact mU (.inr (by rw [a.X]; exact mT h))
  have rV : ∀ {v : Value} {p : PV}, bD H' s'.heap v p → bD H s'.heap v p := fun r => bD.rehide (H := H') hμ'.symm (fun b hb => .inl (hsub b hb)) r
  refine q v s' g2 ⟨rv.rehide fun b hb => .inl (hsub b hb), ?_, ?_⟩
  · refine ⟨fun b hb => a.ok.there b (hsub b hb), I.hid.tabs, I.hid.μB, fun b hb o e => a.ok.nc b (hsub b hb) o e⟩
  · refine ⟨fun x p e => ?_, fun x c hc => ?_, V.inj⟩
    · refine aI (V' x p e) fun v2 l2 rv2 => ?_
      obtain ⟨c2, hc2, hv2⟩ := l2.of (.inr (by exact hfree' x p e))
      exact ⟨c2, v2, hc2, hv2, rV rv2⟩
    · refine cps fun Pz kz => ?_
      obtain ⟨k1, k2, v, o, e, k3⟩ := V.cell x c hc
      refine kz ?_; clear kz Pz
      exact ⟨k1, k2, v, o, cells x c hc o e ⟨_, k3⟩, k3⟩
end
end
section
inductive NSub (env : Env) (cl : List (Str × Addr)) (m : Vars) : Vars → Prop where
  | nil : NSub env cl m []
  | cons {x : Str} {p : PV} {m' : Vars} : m.lookup x = some p → (env.kindOf x = some .cell ∨ env.kindOf x = some .free) → (cl.lookup x).isSome = true → NSub env cl m m' → NSub env cl m ((x, p) :: m')
section
variable {C : Cx} {d : Nat} {env : Env} {m : Vars} {name qual : Str} {params : Arguments} {body : List Stmt} {scope : Scope} {cl : List (Str × Addr)}
theorem NSub.look {H : Hd} {h : Heap} {m' : Vars} (k : NSub env cl m m') (hcl : ∀ x c, cl.lookup x = some c → env.cells.lookup x = some c) (V : aA C env H h m) : ∀ x p, m'.lookup x = some p → ∃ c v, cl.lookup x = some c ∧ h.IsCell c (some v) ∧ bD H h v p := by
  induction k with
  | nil => intro x p e; cases e
  | @cons y q m' hy hk hc _ ih =>
    intro x p e
    rw [List.lookup_cons] at e
    by_cases hxy : x == y
    · simp only [hxy] at e
      cases e
      have := eq_of_beq hxy
      subst this
      refine aI (V x _ hy) fun v l r => ?_
      obtain ⟨c, hc⟩ := Option.isSome_iff_exists.mp hc
      obtain ⟨c', hc', hv⟩ := l.of hk
      exact ⟨c, v, hc, Option.some.inj (hc'.symm.trans (hcl x c hc)) ▸ hv, r⟩
    · simp only [hxy] at e
      exact ih x p e
theorem NSub.vars {H : Hd} {h : Heap} {m' : Vars} (k : NSub env cl m m') (hcl : gB env cl) (F : aF C env H h) (V : aA C env H h m) : lV C cl H h m' :=
  ⟨k.look hcl.look V, fun x c hc => F.cell x c (hcl.look x c hc), fun x y c hx hy => F.inj x y c (hcl.look x c hx) (hcl.look y c hy)⟩
theorem Ev.callR {x : Str} {px pos : Pos} {e : Expr} {es : List Expr} {mc : Vars} {ps : List PV} {r : PV} (hx : m.lookup x = some (.sem (jO name qual params body scope cl))) (hd : (x == ("__debug__" : Str)) = false) (hm : NSub env cl m mc) (hcl : gB env cl)
    (ha : Evs C d env m (e :: es) ps) (hc : lX C d name qual params body scope cl mc ps r)
    (hshape : eval (.Call (.Name x px) (e :: es) [] pos) env = (do callWith pos (← eval (.Name x px) env) [] (backTo pos (starEach (e :: es) env)) [])) : Ev C d env m (.Call (.Name x px) (e :: es) [] pos) r :=
  .mk fun A s H hA I F V Q E q => by
    rw [hshape]
    refine wpAny_bind (wpAny_Name (gV hx I F V _ E fun v s' g rv => ?_) hd)
    obtain ⟨rfl, rv⟩ := rv
    have rv := rv.is rfl
    cases ha with
    | cons h1 hs h2 =>
      have ha : Evs C d env m (e :: es) (_ :: _) := .cons h1 hs h2
      have hsp := ha.spliced (pos := pos) hA I F V
      rw [hs] at hsp ⊢
      have K0 : ∀ s'', Gr C [] s' s'' → jO name qual params body scope cl s''.heap v := fun s'' g => by
        have := rv.gr0 I g
        have h := Rep.semI this
        · exact h _ fun _ _ _ e => e
      refine zFt (K0 s' (Gr.refl ..)) fun fa o doc pm cdv ct ez1 ho hdt hcd => ?_; subst ez1
      have hnt : fa ∉ C.tabs := fun ht => by
        refine iT (I.ok.tabIs _ (g.tab I.tab) fa ht) fun o' vs e' hv _ => ?_
        rw [ho] at e'; cases e'
        rw [hdt] at hv; cases hv
      refine callWith_function (o := o) (evalArgs_plain (hsp _ E fun vs s2 g2 rs => ⟨⟨g2.keep fa o hnt (by simp) ho, hdt⟩, ?_⟩))
      have I2 := I.gr0 g2
      exact hc A s2 H _ vs hA I2 (K0 s2 g2) (hm.vars hcl (F.gr0 g2) (V.gr0 I F g2)) rs _ E fun v s3 g3 r3 => q v s3 (g2.trans g3) r3
theorem Es.callW {x : Str} {px pos epos : Pos} {e : Expr} {es : List Expr} {mc mc' m' : Vars} {ps : List PV} {r : PV} (hx : m.lookup x = some (.sem (jO name qual params body scope cl))) (hd : (x == ("__debug__" : Str)) = false) (hm : NSub env cl m mc) (hcl : gB env cl)
    (ha : Evs C d env m (e :: es) ps) (hc : iX C d name qual params body scope cl mc ps r mc')
    (hm' : ∀ y p, m'.lookup y = some p → (mc'.lookup y = some p ∧ (env.kindOf y = some .cell ∨ env.kindOf y = some .free ∧ (y == ("__classdict__" : Str)) = false)) ∨ (m.lookup y = some p ∧ p.imm = true))
    (hl : ∃ y l, mc.lookup y = some (.mlst l))
    (hi : interactive env = false) (hs' : swapsWith (.Call (.Name x px) (e :: es) [] pos) none epos.line env = pure false)
    (hshape : eval (.Call (.Name x px) (e :: es) [] pos) env = (do callWith pos (← eval (.Name x px) env) [] (backTo pos (starEach (e :: es) env)) [])) : Es C d env m (.Expr (.Call (.Name x px) (e :: es) [] pos) epos) (.next m') :=
  .mk fun A s H hA I F V Q E q => by
    refine wpAny_Expr_any ?_ hi hs'
    rw [hshape]
    refine wpAny_bind (wpAny_Name (gV hx I F V _ E fun v s' g rv => ?_) hd)
    obtain ⟨rfl, rv⟩ := rv
    have rv := rv.is rfl
    cases ha with
    | cons h1 hs h2 =>
      have ha : Evs C d env m (e :: es) (_ :: _) := .cons h1 hs h2
      have hsp := ha.spliced (pos := pos) hA I F V
      rw [hs] at hsp ⊢
      have K0 : ∀ s'', Gr C [] s' s'' → jO name qual params body scope cl s''.heap v := fun s'' g => by
        have := rv.gr0 I g
        have h := Rep.semI this
        · exact h _ fun _ _ _ e => e
      refine zFt (K0 s' (Gr.refl ..)) fun fa o doc pm cdv ct ez1 ho hdt hcd => ?_; subst ez1
      have hnt : fa ∉ C.tabs := fun ht => by
        refine iT (I.ok.tabIs _ (g.tab I.tab) fa ht) fun o' vs e' hv _ => ?_
        rw [ho] at e'; cases e'
        rw [hdt] at hv; cases hv
      refine callWith_function (o := o) (evalArgs_plain (hsp _ E fun vs s2 g2 rs => ⟨⟨g2.keep fa o hnt (by simp) ho, hdt⟩, ?_⟩))
      have I2 := I.gr0 g2
      have F2 := F.gr0 g2
      have V2 := V.gr0 I F g2
      have CV := hm.vars hcl F2 V2
      refine hc A s2 H _ vs hA I2 (K0 s2 g2) CV rs _ E fun v s3 g3 r3 => ?_
      refine bZ r3 fun _ hd3 CV3 => ?_; clear r3
      refine fG hl fun y l hy => ?_; clear hl
      refine iT (CV.look y _ hy) fun c0 v0 _ _ rv0 => ?_
      refine cps fun Pz kz => ?_
      obtain ⟨a, vs0, n0, rfl, hμ, e2, R0⟩ := rv0.mlstI
      refine kz ?_; clear kz Pz
      · have hY : H.μ.toList = [a] := by rw [hμ]; rfl
        rw [hY] at g3
        have hnc : ∀ v, (Data.seq vs0 n0) ≠ .cell v := fun v h => by cases h
        have F3 := F2.mut I2 hμ g3 e2 hnc
        refine q _ s3 (g2.plain.trans (g3.wider fun b hb => ?_)) ⟨H, .same hd3, rfl, F3, fun z p ez => ?_⟩
        · rw [mS hb]
          exact mR (by simp [hμ])
        · rcases hm' z p ez with ⟨k1, k2⟩ | ⟨k1, k2⟩
          · refine iT (CV3.look z p k1) fun c v hc hv rv => ?_
            exact ⟨v, .inr (.inl ⟨k2, c, hcl.look z c hc, hv⟩), rv⟩
          · refine aI (V2 z p k1) fun v l r => ?_
            exact ⟨v, l.mut I2 F2 hμ g3 e2 hnc, .imm ((r.is k2).gr I2.tabs g3 fun b hb => by rw [mS hb]; exact mU (.inl hμ))⟩
structure NestOk (C : Cx) (c P : Addr) (pos : Pos) (qual : Str) : Prop where
  tab : P ∈ C.tabs
  at_ : ∀ h, C.TI h → CodeHd h c P ∧ (h.get? P = some (tabObj #[]) ∨ ∃ c', h.get? P = some (tabObj #[rawInt pos.line, rawInt pos.col, .ref c']) ∧ h.CodeRec (.ref c') qual)
  grow : ∀ h h' c', C.TI h → h.get? P = some (tabObj #[]) → Heap.ExtBut P h h' → h'.get? P = some (tabObj #[rawInt pos.line, rawInt pos.col, .ref c']) → h'.CodeRec (.ref c') qual → C.TI h'
noncomputable def BmOk (C : Cx) : Prop := ∃ bm ob, C.mg "__builtins__" = some (.ref bm) ∧ bm ≠ builtinsNs ∧ bm ≠ mainGlobals ∧ bm ∉ C.tabs ∧ C.hB.get? bm = some ob ∧ ob.cls = .type "module" ∧ ob.dict = some builtinsNs ∧ ob.data = .plain
theorem Es.nestDef {c P : Addr} {pos : Pos} (N : NestOk C c P pos (qualnameIn env name name)) (B : BmOk C) (hcode : env.code = .ref c) (hcl : closureFor scope env = pure cl) (hk : cN env name) (hd0 : params.defaults = []) (hk0 : params.kw_defaults = []) (hann : annTrees params none env = []) :
    Es C d env m (.FunctionDef name params body [] none [] scope none name pos) (.next ((name, .sem (jO name (qualnameIn env name name) params body scope cl)) :: m)) :=
  .mk fun A s H hA I F V Q E q => by
    refine nestDef_K hd0 hk0 hann ?_
    obtain ⟨hcH, hP⟩ := N.at_ _ I.tab
    have hgs := I.ns I.ok.gT I.ok.g
    refine zIm B fun bm ob b1 b2 b3 b4 b5 b6 b7 b8 => ?_; clear B
    have hbP : bm ≠ P := fun e => b4 (e ▸ N.tab)
    have hgP : mainGlobals ≠ P := fun e => I.ok.gT (e ▸ N.tab)
    have hBA : s.heap.BuiltinsAt C.mg P := ⟨bm, ob, b1, b2, b3, hbP, I.keep _ _ b4 b5, b6, b7, b8⟩
    have mk : YG C A [] s (makeFunction name (qualnameIn env name name) params (.stmts body) scope env [] [] [] pos pos.line) (fun v s' => Rep H.hid s'.heap v (.sem (jO name (qualnameIn env name name) params body scope cl))) := by
      have fin : ∀ (doc pm ct cv : Value) (h' : Heap) (tk : Nat) (Q : Value → Shared → Prop), s.heap.objs.size ≤ h'.objs.size → (s.toks ≤ tk → Gr C [] s { s with heap := h', toks := tk }) → h'.CodeRec cv (qualnameIn env name name) → (∀ c o, cv = .ref c → h'.get? c = some o → c ∉ H.hid) →
          (∀ a s', (s.toks ≤ s'.toks → Gr C [] s s') → Rep H.hid s'.heap a (.sem (jO name (qualnameIn env name name) params body scope cl)) → Q a s') →
          Q (.ref h'.objs.size) { s with heap := h'.push { cls := .type "function", data := .func (fnX name (qualnameIn env name name) params body scope cl .none .none doc pm none cv ct) }, toks := tk } := fun doc pm ct cv h' tk Q hsz g hrec hhid q => by
        refine q _ _ (fun ht => (g ht).trans (Gr.of I.ok (s := { s with heap := h', toks := tk }) (tk := tk) (fun b o e => Heap.get?_push_of_some _ e) (Nat.le_refl _))) (.sem fun h'' kk => ?_)
        refine zAy hrec fun cc oc vs t e1 e2 e3 e4 => ?_; clear hrec
        exact ⟨_, _, doc, pm, cv, ct, rfl, kk _ _ (I.fresh hsz) (Heap.get?_push_size _ rfl), rfl, cc, oc, vs, t, e1, kk _ _ (hhid cc oc e1 e2) (Heap.get?_push_of_some _ e2), e3, e4⟩
      refine YG.ofToks fun Q E q => ?_
      rcases hP with hP | ⟨c', hP, hrec⟩
      · refine makeFunction_K (mg := C.mg) hcl F.eok.globals hgs hcode hcH hP trivial rfl hgP hBA fun c' ctv doc h' tk hx hge hlt hrec htb => ?_
        refine fin doc _ ctv (.ref c') h' tk Q (by omega) (fun ht => ⟨fun b o hb _ e => hx b o (fun e => hb (e ▸ N.tab)) e, fun T => N.grow _ _ c' T hP hx (by simpa using htb) hrec, ⟨#[], by simp, by simp⟩, rfl, ht⟩) hrec (fun c o e _ => ?_) q
        cases e
        exact I.fresh hge
      · refine makeFunction_hit (mg := C.mg) hcl F.eok.globals hgs hcode hcH hP (by simp [TriplesOk, rawInt]) (cv := .ref c') (by simp [codeAmong, rawInt]) hBA fun ctv doc h' tk hx hsz => ?_
        have hfree : ∀ c o, Value.ref c' = .ref c → h'.get? c = some o → c ∉ H.hid := fun c o e _ hh => by
          cases e
          refine zAy hrec fun cc oc vs t e1 e2 e3 e4 => ?_; clear hrec
          cases e1
          exact I.hid.nc _ hh oc e2 ⟨vs, _, t, e3, e4⟩
        refine fin doc _ ctv (.ref c') h' tk Q hsz (fun ht => Gr.of I.ok hx ht) ?_ hfree q
        refine zAy hrec fun cc oc vs t e1 e2 e3 e4 => ?_; clear hrec
        exact ⟨cc, oc, vs, t, e1, hx _ _ e2, e3, e4⟩
    exact mk _ E fun v s' g r => iH I F V g hk (.imm r) q
end
end
section
section
variable {C : Cx} {d : Nat} {env : Env} {m : Vars}
theorem aD.replicate {X : List Addr} {h : Heap} {vs : List Value} {ps : List PV} (r : aD X h vs ps) : ∀ k : Nat, aD X h (List.replicate k vs).flatten (List.replicate k ps).flatten
  | 0 => .nil
  | k + 1 => by
    rw [List.replicate_succ, List.replicate_succ, List.flatten_cons, List.flatten_cons]
    exact r.append (aD.replicate r k)
theorem EvNew.cast {e : Expr} {l l' : List PV} (h : EvNew C d env m e l) (k : l = l') : EvNew C d env m e l' := k ▸ h
theorem EvNew.mul {l r : Expr} {pos : Pos} {p : List PV} {x : Int} (hl : Ev C d env m l (.lst p)) (hr : Ev C d env m r (.int x)) (h0 : 0 ≤ x) (h : p.length * x.toNat ≤ 2 ^ 24) (hx : x < 2 ^ 63) : EvNew C d env m (.BinOp l .Mult r pos) (List.replicate x.toNat p).flatten :=
  .mk fun A s H hA I F V _ E k => wpAny_BinOp (hl.two hr hA I F V fun a b s' g ra rb => by
    obtain ⟨u, rfl⟩ := Rep.intI rb
    ·
      refine aV (Rep.lstI ra) fun a vs n ez1 hx e R => ?_; subst ez1
      ·
        have h1 : vs.size = p.length := R.size
        have hz : vs.toList.toArray = vs := by simp
        have e' : s'.heap.get? a = some { cls := .type "list", dict := Option.none, data := .seq vs.toList.toArray n, slots := #[] } := by rw [hz]; exact e
        have hsz : vs.toList.toArray.size * x.toNat ≤ 2 ^ 24 := by rw [hz, h1]; exact h
        refine wpAny_binaryOp_repeat_ref (T := "list") (U := "int") (by decide) ⟨_, e', rfl⟩ (fun s' => typeIs_int s' x u) noFill_list_mul PySem.F.fills_int_mul PySem.F.slot_int_rmul repeat_list PySem.F.slot_int_index.lookup
          (call_meets PySem.F.slot_int_rmul (typeIs_int s' x u) PySem.F.entry_int_rmul (PySem.F.args_int_rmul_2 _ _) (int___rmul___int_list x u a vs.toList.toArray n)
            ⟨e', rfl, ⟨_, e', rfl⟩, call_meets PySem.F.slot_list_mul ⟨_, e', rfl⟩ PySem.F.entry_list_mul (PySem.F.args_list_mul_2 _ _)
              (AutoListH.list___mul___list_int_3 a vs.toList.toArray n x u (by simp [Builtin.List.listFitsIndex]; omega) (by walk_at "o") (by simp [Builtin.List.listTooLong, sizeLine]; rw [← hz] at h1; rw [hz] at hsz; walk_at "o"))
              ⟨e', ?_⟩⟩)
        refine k _ _ (g.trans (Gr.push I.ok)) ⟨_, _, 0, rfl, bQ I g (bR s'), Heap.get?_push_size _ rfl, ?_⟩
        rw [listMul_foldl_if]
        simp only [List.toList_toArray]
        exact (R.replicate x.toNat).mono fun b o _ e => Heap.get?_push_of_some _ e)
theorem EvIt.reversed {f e : Expr} {pos : Pos} {l : List PV} (hf : Ev C d env m f (.fn (.type "reversed"))) (he : Ev C d env m e (.lst l)) (hs : ∀ rest, starEach (e :: rest) env = (false, eval e env) :: starEach rest env)
    (hshape : eval (.Call f [e] [] pos) env = (do callWith pos (← eval f env) [] (backTo pos (starEach [e] env)) [])) : EvIt C d env m (.Call f [e] [] pos) l.reverse := .mk fun A s H hA I F V Q E q => by
  rw [hshape]
  refine wpAny_bind (hf.run A s H hA I F V _ _ fun v s1 g1 rv => ?_)
  cases rv
  have I1 := I.gr0 g1
  have hE : Evs C d env m [e] [.lst l] := .cons he hs .nil
  have hst := hE.star (pos := pos)
  have hsp := hE.spliced (pos := pos) hA I1 (F.gr0 g1) (V.gr0 I F g1)
  rw [hs] at hst hsp ⊢
  refine PyProof.Rows.callWith_type hst (evalArgs_plain ?_)
  refine hsp _ _ fun vs s2 g2 rs => ?_
  have I2 := I1.gr0 g2
  have g12 := g1.trans g2
  cases rs with
  | cons r rs =>
    cases rs
    refine aV (Rep.lstI r) fun a vs n ez1 hx e R => ?_; subst ez1
    ·
      have hl : s2.heap.IsList a vs := ⟨_, e, rfl, _, rfl⟩
      have hne : a ≠ s2.heap.objs.size := Nat.ne_of_lt (Heap.lt_size e)
      refine call_reversed_list hl ?_
      generalize ho : revObj a ((vs.size : Int) - 1) = o
      have g3 : Gr C [] s2 { s2 with heap := s2.heap.push o } := Gr.of I.ok (tk := s2.toks) fun _ _ e => Heap.get?_push_of_some _ e
      have hget : (s2.heap.push o).get? s2.heap.objs.size = some o := Heap.get?_push_size _ (by rw [← ho]; rfl)
      have hit : (s2.heap.push o).IsRevIter s2.heap.objs.size a ((vs.size : Int) - 1) := ⟨o, hget, by rw [← ho]; rfl, by rw [← ho]; rfl⟩
      refine wpAny_pyIter_revIter hit ?_
      refine q _ _ _ _ (g12.trans g3) (Itr.of (fun A hA => Walks.listRev hA s2.heap.objs.size a hne vs) (by rw [List.length_reverse, ← R.length]; simp) (fun i v hi hv => ?_) ?_ ?_ (by simp) ?_) ⟨Nat.zero_le _, by simpa using hit, hl.push _⟩ (bQ I g12 (bR s2))
      · refine aI (R.get _ v (by simpa using hv)) fun p h1 h2 => ?_
        have h3 : vs.size = l.length := R.size
        refine ⟨p, ?_, h2.behind I2 g3 (bR s2)⟩
        rw [List.getElem?_reverse (by exact Nat.lt_of_lt_of_eq hi h3), ← h3]
        exact h1
      · intro b hb
        simp at hb
        rcases hb with rfl | rfl
        · exact .inl rfl
        · exact .inr hx
      · intro b hb
        simp at hb
        rcases hb with rfl | rfl
        · show ((s2.heap.push o).get? _).isSome = true
          rw [hget]; rfl
        · show ((s2.heap.push o).get? _).isSome = true
          rw [Heap.get?_push_of_some _ e]; rfl
      · rintro i h ⟨_, ⟨o', ho', hc', hd'⟩, _⟩
        exact ⟨o', ho', eO hd', .of hc' (by decide)⟩
end
end
section
section
variable {C : Cx} {d : Nat} {env : Env} {m : Vars}
theorem Ts.orNil {pos : Pos} : Ts C d env m (.BoolOp .Or [] pos) false := .mk fun A s H hA I F V Q E q => isTrue_or_nil (q false s (Gr.refl ..) rfl)
theorem Ts.orT {x : Expr} {rest : List Expr} {pos : Pos} (h : Ts C d env m x true) : Ts C d env m (.BoolOp .Or (x :: rest) pos) true := .mk fun A s H hA I F V Q E q =>
  isTrue_or (h.run A s H hA I F V _ E fun c s' g e => by
    subst e
    exact q true s' g rfl)
theorem Ts.orF {x : Expr} {rest : List Expr} {pos : Pos} {b : Bool} (h : Ts C d env m x false) (k : Ts C d env m (.BoolOp .Or rest pos) b) : Ts C d env m (.BoolOp .Or (x :: rest) pos) b := .mk fun A s H hA I F V Q E q =>
  isTrue_or (h.run A s H hA I F V _ E fun c s' g e => by
    subst e
    exact k.run A s' H hA (I.gr0 g) (F.gr0 g) (V.gr0 I F g) Q E fun c s'' g' e => q c s'' (g.trans g') e)
theorem Ev.and1 {x : Expr} {pos : Pos} {p : PV} (h : Ev C d env m x p) : Ev C d env m (.BoolOp .And [x] pos) p := .mk h.run
theorem Ev.andT {x y : Expr} {rest : List Expr} {pos : Pos} {p : PV} (h : Ev C d env m x (.bool true)) (k : Ev C d env m (.BoolOp .And (y :: rest) pos) p) : Ev C d env m (.BoolOp .And (x :: y :: rest) pos) p := .mk fun A s H hA I F V Q E q =>
  BoolOp_and (h.run A s H hA I F V _ E fun v s' g r => by
    cases r
    refine wpAny_truthy_bool ?_
    exact k.run A s' H hA (I.gr0 g) (F.gr0 g) (V.gr0 I F g) Q E fun v s'' g' r => q v s'' (g.trans g') r)
end
end
section
noncomputable abbrev pstrs (l : List Str) : List PV := l.map .str
theorem aD.strs {X : List Addr} {h : Heap} {l : List Str} : ∀ {vs : List Value}, aD X h vs (pstrs l) → ∃ ts : List (Str × Tok), strValues ts = vs ∧ ts.map (·.1) = l := by
  induction l with
  | nil => exact fun r => ⟨[], (aD.nilI r).symm, rfl⟩
  | cons x l ih =>
    intro vs r
    refine cps fun Pz kz => ?_
    obtain ⟨v, vs', rfl, a, b⟩ := aD.consI (p := .str x) (ps := pstrs l) r
    refine kz ?_; clear kz Pz
    obtain ⟨ts, rfl, rfl⟩ := ih b
    obtain ⟨t, rfl⟩ := Rep.strI a
    exact ⟨(x, t) :: ts, rfl, rfl⟩
theorem aD.ofStrs {X : List Addr} {h : Heap} : ∀ ts : List (Str × Tok), aD X h (strValues ts) (pstrs (ts.map (·.1)))
  | [] => .nil
  | (x, t) :: ts => .cons (.str x t) (aD.ofStrs ts)
section
variable {C : Cx} {d : Nat} {env : Env} {m : Vars}
theorem Calls.lower {x y : Str} (e : Txt.lower x = y) (hl : y.length ≤ sizeLine) : Calls C d (.builtin "str.lower") [.str x] (.str y) := fun A s H vs hA I R Q E q => by
  cases R with | cons r R => cases R; cases r; exact SC.lower (by rw [e]; unfold Builtin.Str.tooLong; exact decide_eq_false (by exact Nat.not_lt.mpr hl)) (q _ _ Gr.toks' (by rw [e]; exact .str _ _))
theorem Calls.endswith {x y : Str} : Calls C d (.builtin "str.endswith") [.str x, .str y] (.bool (Txt.endswith x y)) := fun A s H vs hA I R Q E q => by
  cases R with | cons r R => cases R with | cons r' R => cases R; cases r; cases r'; exact SC.endswith (q _ _ (Gr.refl ..) (.bool _))
theorem Calls.count {x y : Str} : Calls C d (.builtin "str.count") [.str x, .str y] (.int (Txt.count x y)) := fun A s H vs hA I R Q E q => by
  cases R with | cons r R => cases R with | cons r' R => cases R; cases r; cases r'; exact SC.count (q _ _ Gr.toks' (.int _ _))
theorem Calls.join {x : Str} {l : List Str} (hok : JoinOk x l = true) : Calls C d (.builtin "str.join") [.str x, .lst (pstrs l)] (.str (Txt.join x l)) := fun A s H vs hA I R Q E q => by
  cases R with
  | cons r R =>
    cases R with
    | cons r' R =>
      cases R
      cases r
      refine aV (Rep.lstI r') fun a vs n ez1 hx e R => ?_; subst ez1
      ·
        refine aI R.strs fun ts h1 h2 => ?_
        exact YG.ofToks (R := fun v s' => Rep H.hid s'.heap v _) (fun Q E q => SC.join ⟨_, e, rfl, n, by rw [h1]⟩ h2 hok fun t' k => q _ _ (fun h => Gr.toks' h) (.str _ _)) Q E q
theorem Calls.split {x y : Str} (hy : (y.length == 0) = false) (hx : x.length + 2 ≤ sizeLine) : Calls C d (.builtin "str.split") [.str x, .str y] (.lst (pstrs (Txt.split x y))) := fun A s H vs hA I R Q E q => by
  cases R with
  | cons r R =>
    cases R with
    | cons r' R =>
      cases R
      obtain ⟨t, rfl⟩ := Rep.strI r
      ·
        obtain ⟨u, rfl⟩ := Rep.strI r'
        ·
          have fin : ∀ (ts : List (Str × Tok)) (tk : Nat), s.toks ≤ tk → ts.map (·.1) = Txt.split x y → Q (.ref s.heap.objs.size) { s with heap := s.heap.push { cls := .type "list", data := .seq (strValues ts).toArray }, toks := tk } := fun ts tk htk e => by
            refine q _ _ (Gr.push I.ok htk) (.lst (n := 0) (I.fresh (Nat.le_refl _)) (Heap.get?_push_size _ rfl) ?_)
            rw [← e]
            simpa using aD.ofStrs ts
          have hocc := StrLaws.occ_length_le x y 0 x.length (x.length + 1)
          cases h1 : (decide (x.length < y.length) || decide (Builtin.Str.strKind x < Builtin.Str.strKind y))
          · cases hf : (Builtin.Str.occurrences x y 0 x.length (x.length + 1)).isEmpty
            · have hn : (Builtin.Str.partsBetween x (Builtin.Str.occurrences x y 0 x.length (x.length + 1)) y.length).length ≤ sizeLine := by
                rw [length_partsBetween]; exact fits_base_add hocc hx
              refine call_meets PySem.F.slot_str_split (typeIs_str _ _ _) PySem.F.entry_str_split (PySem.F.args_str_split_2 _ _) (meets_str_split_sep x y t u h1 hy hf (by exact Nat.le_of_add_right_le hx) hn) ?_
              show wants Q E _ { s with toks := _, heap := s.heap.push { cls := .type "list", data := .seq (strsFrom s.toks (Builtin.Str.partsBetween x (Builtin.Str.occurrences x y 0 x.length (x.length + 1)) y.length)).toArray } }
              rw [strsFrom_eq]
              exact fin (numbered s.toks _) _ (by exact Nat.le_add_right s.toks (Builtin.Str.partsBetween x (Builtin.Str.occurrences x y 0 x.length (x.length + 1)) y.length).length) ((numbered_texts _ _).trans ((if_neg (ne_true_of_eq_false h1)).trans (if_neg (ne_true_of_eq_false hf))).symm)
            · exact call_meets PySem.F.slot_str_split (typeIs_str _ _ _) PySem.F.entry_str_split (PySem.F.args_str_split_2 _ _) (meets_str_split_not_found x y t u h1 hy hf)
                (fin [(x, t)] _ (Nat.le_refl _) ((if_neg (ne_true_of_eq_false h1)).trans (if_pos hf)).symm)
          · exact call_meets PySem.F.slot_str_split (typeIs_str _ _ _) PySem.F.entry_str_split (PySem.F.args_str_split_2 _ _) (meets_str_split_cannot_occur x y t u h1)
              (fin [(x, t)] _ (Nat.le_refl _) (if_pos h1).symm)
end
end
section
theorem AOk.in1 {A : Around} {d : Nat} (h : AOk A d) : AOk A.in1 (d + 1) := ⟨h.handled, by show A.depth ≤ d + 1; have := h.depth; exact Nat.le_add_right_of_le this, by show A.units + 1 ≤ 10 * (d + 1); have := h.units; omega⟩
theorem fI {X : List Addr} {h : Heap} : ∀ {vs : List Value} {ps : List PV}, vs.length = ps.length → (∀ (i : Nat) (v : Value), vs[i]? = some v → ∃ p, ps[i]? = some p ∧ Rep X h v p) → aD X h vs ps
  | [], [], _, _ => .nil
  | v :: vs, p :: ps, hl, k => by
    refine aI (k 0 v rfl) fun q h1 h2 => ?_
    simp at h1
    subst h1
    exact .cons h2 (fI (by simpa using hl) fun i v hv => by simpa using k (i + 1) v (by simpa using hv))
section
variable {C : Cx} {d : Nat} {env : Env} {m : Vars}
theorem Gr.moved {H : Hd} {s s2 s' : Shared} {J : Addr} {l : List PV} {X0 : List Addr} {h0 : Heap} {fp : List Addr} {St : Nat → Heap → Prop} (I : Inv C H s) (g : Gr C [] s s2) (it : Itr C X0 h0 J l fp St) (hst : St 0 s2.heap) (hJ : s.heap.get? J = none) (hm : Moved [J] (fun a b => b = a) s2 s') : Gr C [] s s' := by
  have ht : J ∉ C.tabs := fun ht => by
    refine cA (I.ok.tabIs _ I.tab J ht) fun o _ e _ => ?_
    rw [hJ] at e; cases e
  have hfree := it.free ht hst
  refine g.then (Y := [J]) ⟨fun b o _ hx e => hm.heap b o hx e, fun x => I.ok.ti _ _ x fun b o e q => hm.heap b o (fun hb => by
    obtain ⟨h1, h2⟩ := hfree b hb
    rcases q with q | q
    · exact h1 q
    · exact h2 o e q) e, ⟨#[], by rw [hm.gens]; simp, by simp⟩, hm.os, hm.toks⟩ fun y hy => .inr (by rw [mS hy]; exact hJ)
theorem nE (l : List Int) : ∀ n, n ≤ l.length → preSum (fun i => l.getD i 0) n = (l.take n).sum
  | 0, _ => by simp [preSum]
  | n + 1, h => by
    have hn : n < l.length := by exact h
    show preSum _ n + l.getD n 0 = _
    rw [nE l n (by exact Nat.le_of_succ_le h), List.take_add_one, List.getElem?_eq_getElem hn, List.sum_append, show l.getD n 0 = l[n] by simp [List.getD, hn]]
    simp
theorem Calls.sum {p : PV} {l : List Int} (h : Its C (d + 1) p (l.map .int)) : Calls C d (.builtin "sum") [p] (.int l.sum) := fun A s H vs hA I R Q E q => by
  cases R with
  | cons r R =>
    cases R
    refine call_sum_walkAnyS (h A.in1 s H _ hA.in1 I r _ _ fun it s2 g z => ?_)
    refine aV z fun J fp St ez1 it hst hJ => ?_; clear z; subst ez1
    refine ⟨J, fp, [J], _, _, _, _, fun i => l.getD i 0, rfl, (it.walks A.in1 hA.handled).toS, hst, fun b hb => ?_, fun i v hv => ?_, fun s' t' hm => ?_⟩
    · obtain ⟨o, e⟩ := iS (it.there b hb)
      exact Heap.lt_size e
    · refine aI hv fun p h1 h2 => ?_; clear hv
      rw [List.getElem?_map] at h1
      refine aI (Option.map_eq_some_iff.mp h1) fun x hx ez1 => ?_; subst ez1
      obtain ⟨t, rfl⟩ := Rep.intI h2
      · exact ⟨t, by simp [List.getD, hx]⟩
    · have := nE l l.length (Nat.le_refl _)
      rw [List.take_length] at this
      rw [List.length_map, this]
      exact q _ _ (Gr.moved I g it hst hJ hm) (.int _ _)
theorem jL (l : List Int) : ∀ n, n < l.length → argBest (fun i j => decide (l.getD i 0 > l.getD j 0)) n < l.length ∧ ∀ k, k ≤ n → l.getD k 0 ≤ l.getD (argBest (fun i j => decide (l.getD i 0 > l.getD j 0)) n) 0
  | 0, h => ⟨h, fun k hk => by rw [Nat.le_zero.mp hk]; exact Int.le_refl _⟩
  | n + 1, h => by
    obtain ⟨h1, h2⟩ := jL l n (by exact Nat.lt_of_succ_lt h)
    unfold argBest
    split
    · rename_i hc
      have hc := of_decide_eq_true hc
      refine ⟨h, fun k hk => ?_⟩
      rcases (by exact Nat.le_or_eq_of_le_succ hk : k ≤ n ∨ k = n + 1) with hk | rfl
      · have := h2 k hk; omega
      · exact Int.le_refl _
    · rename_i hc
      have hc : ¬ (l.getD (n + 1) 0 > l.getD (argBest _ n) 0) := fun hh => hc (decide_eq_true hh)
      refine ⟨h1, fun k hk => ?_⟩
      rcases (by exact Nat.le_or_eq_of_le_succ hk : k ≤ n ∨ k = n + 1) with hk | rfl
      · exact h2 k hk
      · walk_at "o"
theorem Calls.max {p : PV} {l : List Int} {x : Int} (h : Its C (d + 1) p (l.map .int)) (hx : x ∈ l) (hm : ∀ y ∈ l, y ≤ x) : Calls C d (.builtin "max") [p] (.int x) := fun A s H vs hA I R Q E q => by
  cases R with
  | cons r R =>
    cases R
    have hne : 0 < l.length := List.length_pos_iff.mpr (List.ne_nil_of_mem hx)
    refine call_max_walkS (h A.in1 s H _ hA.in1 I r _ _ fun it s2 g z => ?_)
    refine aV z fun J fp St ez1 it hst hJ => ?_; clear z; subst ez1
    have hval : ∀ i v, (∃ q, (l.map PV.int)[i]? = some q ∧ Rep (J :: H.hid) s2.heap v q) → ∃ t, v = .int (l.getD i 0) t := fun i v hv => by
      refine aI hv fun p h1 h2 => ?_; clear hv
      rw [List.getElem?_map] at h1
      refine aI (Option.map_eq_some_iff.mp h1) fun x hx ez1 => ?_; subst ez1
      obtain ⟨t, rfl⟩ := Rep.intI h2
      · exact ⟨t, by simp [List.getD, hx]⟩
    refine ⟨J, fp, [J], _, _, _, _, fun i j => decide (l.getD i 0 > l.getD j 0), rfl, (it.walks A.in1 hA.handled).toS, hst, fun b hb => ?_, by simpa using hne, CmpOf.ints_gt _ hval, fun v s' hv hmv => ?_⟩
    · obtain ⟨o, e⟩ := iS (it.there b hb)
      exact Heap.lt_size e
    · obtain ⟨t, rfl⟩ := hval _ _ hv
      obtain ⟨k1, k2⟩ := jL l (l.length - 1) (by exact Nat.sub_one_lt_of_lt hne)
      have : l.getD (argBest (fun i j => decide (l.getD i 0 > l.getD j 0)) ((l.map PV.int).length - 1)) 0 = x := by
        rw [List.length_map]
        refine Int.le_antisymm (hm _ ?_) ?_
        · generalize argBest (fun i j => decide (l.getD i 0 > l.getD j 0)) (l.length - 1) = j at k1
          rw [show l.getD j 0 = l[j] by simp [List.getD, k1]]
          exact List.getElem_mem _
        · obtain ⟨i, hi, rfl⟩ := List.getElem_of_mem hx
          have := k2 i (by exact (Nat.le_sub_one_iff_lt hne).mpr hi)
          rwa [show l.getD i 0 = l[i] by simp [List.getD, hi]] at this
      rw [this]
      exact q _ _ (Gr.moved I g it hst hJ hmv) (.int _ _)
theorem Calls.allT {p : PV} {n : Nat} (h : Its C (d + 1) p (List.replicate n (.bool true))) : Calls C d (.builtin "all") [p] (.bool true) := fun A s H vs hA I R Q E q => by
  cases R with
  | cons r R =>
    cases R
    refine call_all_walkS (h A.in1 s H _ hA.in1 I r _ _ fun it s2 g z => ?_)
    refine aV z fun J fp St ez1 it hst hJ => ?_; clear z; subst ez1
    refine ⟨J, fp, [J], _, _, _, _, fun _ => true, rfl, (it.walks A.in1 hA.handled).toS, hst, ?_, fun s' hm => ?_⟩
    · intro i v s Q E hv hq
      refine aI hv fun p h1 h2 => ?_; clear hv
      rw [List.getElem?_replicate] at h1
      split at h1
      · cases h1
        cases h2
        exact wpAny_truthy_bool hq
      · cases h1
    · have : ((List.range (List.replicate n (PV.bool true)).length).all fun _ => true) = true := by simp
      rw [this]
      exact q _ _ (Gr.moved I g it hst hJ hm) (.bool _)
theorem Calls.max2 {a b : Int} : Calls C d (.builtin "max") [.int a, .int b] (.int (if b > a then b else a)) := fun A s H vs hA I R Q E q => by
  cases R with
  | cons r R =>
    cases R with
    | cons r' R =>
      cases R
      cases r
      cases r'
      refine YG.ofToks (R := fun v s' => Rep H.hid s'.heap v _) (fun Q E q => max_two_ints hA.handled fun h' tk hk => q _ _ (fun ht => Gr.of I.ok hk ht) ?_) Q E q
      split <;> exact .int _ _
theorem Calls.isBool {b : Bool} : Calls C d (.builtin "isinstance") [.bool b, .fn (.type "bool")] (.bool true) := fun A s H vs hA I R Q E q => by
  cases R with
  | cons r R =>
    cases R with
    | cons r' R =>
      cases R
      cases r
      cases r'
      exact IsiPair.bool_bool (q _ _ (Gr.refl ..) (.bool _))
theorem Calls.lstRng {a b : Int} {n : Nat} (hsmall : Builtin.Range.small a b 1 = true) (hn : Builtin.Range.rangeSize a b 1 = (n : Int)) (hlen : n ≤ 2 ^ 24) : Calls C d (.type "list") [.rng a b 1] (.lst (nums a 1 n)) := fun A s H vs hA I R Q E q => by
  cases R with
  | cons r R =>
    cases R
    cases r with
    | rng hx hr =>
      refine YG.ofToks (R := fun v s' => Rep H.hid s'.heap v _) (fun Q E q => call_list_range hA.handled hr hsmall hn hlen fun h' tk acc c' hk hget hit => ?_) Q E q
      refine q _ _ (fun ht => Gr.of I.ok hk ht) (.lst (I.fresh (Nat.le_refl _)) hget ?_)
      refine fI (by simp [nums, hit.1]) fun i v hv0 => ?_
      have hv : acc[i]? = some v := by simpa using hv0
      obtain ⟨t, rfl⟩ := hit.2 i v hv
      have hi : i < n := by
        have := (Array.getElem?_eq_some_iff.mp hv).1
        rw [hit.1] at this
        exact this
      exact ⟨_, by simp [nums, hi], .int _ _⟩
theorem Calls.strInt {a : Int} (h : a.natAbs.log2 < 1920) : Calls C d (.type "str") [.int a] (.str (toString a)) := fun A s H vs hA I R Q E q => by
  cases R with | cons r R => cases R; cases r; exact P.str_of_int h (q _ _ Gr.toks' (.str _ _))
end
end
section
open PySem.SeqAt
inductive Dat : Nat → PV → Prop where
  | none {n : Nat} : Dat n .none
  | bool {n : Nat} (b : Bool) : Dat n (.bool b)
  | int {n : Nat} (i : Int) : Dat n (.int i)
  | str {n : Nat} (x : Str) : Dat n (.str x)
  | tup {n : Nat} {l : List PV} : (∀ p ∈ l, Dat n p) → Dat (n + 1) (.tup l)
  | lst {n : Nat} {l : List PV} : (∀ p ∈ l, Dat n p) → Dat (n + 1) (.lst l)
theorem lS (k : Nat) : ((List.range k).all fun _ => true) = true := List.all_eq_true.mpr fun _ _ => rfl
theorem pN {X Y : List Addr} {s : Shared} {p : PV} {k : Nat} (D : Dat k p) : ∀ {A : Around} {u : Nat} {a b : Value}, A.units ≤ u → u + k < cLine → Rep X s.heap a p → Rep Y s.heap b p → EqAt A s a b true := by
  induction D with
  | none => intro A u a b _ _ ra rb; cases ra; cases rb; exact EqAt.same _
  | bool b => intro A u a b _ _ ra rb; cases ra; cases rb; exact EqAt.same _
  | int i => intro A u a b _ _ ra rb; cases ra; cases rb; simpa using EqAt.int_int (A := A) (s := s) i _ i _
  | str x => intro A u a b _ _ ra rb; cases ra; cases rb; simpa using EqAt.str_str (A := A) (s := s) x _ x _
  | @tup k l h ih =>
    intro A u a b hu hc ra rb
    refine aV (Rep.tupI ra) fun a vs n ez1 _ ea Ra => ?_; subst ez1
    ·
      refine aV (Rep.tupI rb) fun b ws n2 ez1 _ eb Rb => ?_; subst ez1
      ·
        by_cases hab : a = b
        · subst hab; exact EqAt.same _
        · have h1 : vs.size = l.length := Ra.size
          have h2 : ws.size = l.length := Rb.size
          have := RcAt.tuples (A := A) (s := s) (l := a) (b := b) (items := vs) (items2 := ws) (e := fun _ => true) ⟨_, ea, rfl, _, rfl⟩ ⟨_, eb, rfl, _, rfl⟩ (by omega) fun j h1 h2 => by
            refine aI (Ra.get j vs[j] (by simp [h1])) fun p k1 k2 => ?_
            refine aI (Rb.get j ws[j] (by simp [h2])) fun q k3 k4 => ?_
            rw [k1] at k3; cases k3
            have hm := List.mem_of_getElem? k1
            exact ih p hm (A := A.in1) (u := u + 1) (by show A.units + 1 ≤ u + 1; exact Nat.add_le_add_right hu 1) (by omega) k2 k4
          refine EqAt.of_refs hab ?_
          simpa [h1, h2, lS] using this
  | @lst k l h ih =>
    intro A u a b hu hc ra rb
    refine aV (Rep.lstI ra) fun a vs n ez1 _ ea Ra => ?_; subst ez1
    ·
      refine aV (Rep.lstI rb) fun b ws n2 ez1 _ eb Rb => ?_; subst ez1
      ·
        by_cases hab : a = b
        · subst hab; exact EqAt.same _
        · have h1 : vs.size = l.length := Ra.size
          have h2 : ws.size = l.length := Rb.size
          have := RcAt.lists (A := A) (s := s) (l := a) (b := b) (items := vs) (items2 := ws) (e := fun _ => true) ⟨_, ea, rfl, _, rfl⟩ ⟨_, eb, rfl, _, rfl⟩ (by omega) (by omega) fun j h1 h2 => by
            refine aI (Ra.get j vs[j] (by simp [h1])) fun p k1 k2 => ?_
            refine aI (Rb.get j ws[j] (by simp [h2])) fun q k3 k4 => ?_
            rw [k1] at k3; cases k3
            have hm := List.mem_of_getElem? k1
            exact ih p hm (A := A.in1) (u := u + 1) (by show A.units + 1 ≤ u + 1; exact Nat.add_le_add_right hu 1) (by omega) k2 k4
          refine EqAt.of_refs hab ?_
          rwa [lS] at this
section
variable {C : Cx} {d : Nat} {env : Env} {m : Vars}
theorem Cmp.eqDatL {l : List PV} {k : Nat} (D : ∀ p ∈ l, Dat k p) (hd : 10 * d + k + 2 < cLine) : Cmp C d .Eq (.lst l) (.lst l) true := fun A s H a b hA I ra rb Q E q => by
  have hu := hA.units
  refine aV (Rep.lstI ra) fun a vs n ez1 _ ea Ra => ?_; subst ez1
  ·
    refine aV (Rep.lstI rb) fun b ws n2 ez1 _ eb Rb => ?_; subst ez1
    ·
      have h1 : vs.size = l.length := Ra.size
      have h2 : ws.size = l.length := Rb.size
      refine eq_listAt (e := fun _ => true) ⟨_, ea, rfl, _, rfl⟩ ⟨_, eb, rfl, _, rfl⟩ (by omega) (by omega) (fun j j1 j2 => ?_) (by rw [lS]; exact q _ _ (Gr.refl ..) rfl)
      refine aI (Ra.get j vs[j] (by simp [j1])) fun p k1 k2 => ?_
      refine aI (Rb.get j ws[j] (by simp [j2])) fun q k3 k4 => ?_
      rw [k1] at k3; cases k3
      exact pN (D p (List.mem_of_getElem? k1)) (A := A.in1) (u := 10 * d + 1) (by show A.units + 1 ≤ 10 * d + 1; exact Nat.add_le_add_right hu 1) (by omega) k2 k4
theorem Cmp.eqDatT {l : List PV} {k : Nat} (D : ∀ p ∈ l, Dat k p) (hd : 10 * d + k + 2 < cLine) : Cmp C d .Eq (.tup l) (.tup l) true := fun A s H a b hA I ra rb Q E q => by
  have hu := hA.units
  refine aV (Rep.tupI ra) fun a vs n ez1 _ ea Ra => ?_; subst ez1
  ·
    refine aV (Rep.tupI rb) fun b ws n2 ez1 _ eb Rb => ?_; subst ez1
    ·
      have h1 : vs.size = l.length := Ra.size
      have h2 : ws.size = l.length := Rb.size
      refine eq_tupleAt (e := fun _ => true) ⟨_, ea, rfl, _, rfl⟩ ⟨_, eb, rfl, _, rfl⟩ (by omega) (fun j j1 j2 => ?_) (by rw [lS, h1, h2]; exact q _ _ (Gr.refl ..) (by simp))
      refine aI (Ra.get j vs[j] (by simp [j1])) fun p k1 k2 => ?_
      refine aI (Rb.get j ws[j] (by simp [j2])) fun q k3 k4 => ?_
      rw [k1] at k3; cases k3
      exact pN (D p (List.mem_of_getElem? k1)) (A := A.in1) (u := 10 * d + 1) (by show A.units + 1 ≤ 10 * d + 1; exact Nat.add_le_add_right hu 1) (by omega) k2 k4
theorem Cmp.neDatL {l : List PV} {k : Nat} (D : ∀ p ∈ l, Dat k p) (hd : 10 * d + k + 2 < cLine) : Cmp C d .NotEq (.lst l) (.lst l) false := fun A s H a b hA I ra rb Q E q => by
  have hu := hA.units
  refine aV (Rep.lstI ra) fun a vs n ez1 _ ea Ra => ?_; subst ez1
  ·
    refine aV (Rep.lstI rb) fun b ws n2 ez1 _ eb Rb => ?_; subst ez1
    ·
      have h1 : vs.size = l.length := Ra.size
      have h2 : ws.size = l.length := Rb.size
      have := RcNeAt.lists (A := A) (s := s) (l := a) (b := b) (items := vs) (items2 := ws) (e := fun _ => true) ⟨_, ea, rfl, _, rfl⟩ ⟨_, eb, rfl, _, rfl⟩ (by omega) (by omega) (fun j j1 j2 => ?_)
      · refine this C.prog C.w E Q ?_
        rw [lS]; exact q _ _ (Gr.refl ..) rfl
      · refine aI (Ra.get j vs[j] (by simp [j1])) fun p k1 k2 => ?_
        refine aI (Rb.get j ws[j] (by simp [j2])) fun q k3 k4 => ?_
        rw [k1] at k3; cases k3
        exact pN (D p (List.mem_of_getElem? k1)) (A := A.in1) (u := 10 * d + 1) (by show A.units + 1 ≤ 10 * d + 1; exact Nat.add_le_add_right hu 1) (by omega) k2 k4
end
end
section
theorem aD.drop {X : List Addr} {h : Heap} {vs : List Value} {ps : List PV} (k : Nat) (r : aD X h vs ps) : aD X h (vs.drop k) (ps.drop k) :=
  r.ind (P := fun vs ps => ∀ k, aD X h (vs.drop k) (ps.drop k)) (fun k => by cases k <;> exact .nil) (fun a b ih k => by cases k with
    | zero => exact .cons a b
    | succ k => exact ih k) k
theorem aD.take {X : List Addr} {h : Heap} {vs : List Value} {ps : List PV} (k : Nat) (r : aD X h vs ps) : aD X h (vs.take k) (ps.take k) :=
  r.ind (P := fun vs ps => ∀ k, aD X h (vs.take k) (ps.take k)) (fun k => by cases k <;> exact .nil) (fun a b ih k => by cases k with
    | zero => exact .nil
    | succ k => exact .cons a (ih k)) k
section
variable {C : Cx} {d : Nat} {env : Env} {m : Vars}
noncomputable def strRep (x : Str) (n : Nat) : Str := ⟨(List.replicate n x.cps.toList).flatten.toArray⟩
theorem fH (x : Str) (n : Nat) : (strRep x n).length = n * x.length := by
  simp [strRep, Str.length]
theorem Bin.mulStr {x : Str} {n : Nat} (h : n * x.length ≤ sizeLine) (hn : (n : Int) < 2 ^ 63) (hx : x.length * n < 2 ^ 62) : Bin C d .Mult (.str x) (.int n) (.str (strRep x n)) := fun A s H a b _ _ ra rb Q E q => by
  cases ra
  cases rb
  refine P.mul_str (by simp; exact hn) (fun h1 _ => ?_) (fun _ _ => ?_) ?_
  · have h2 : (0 : Int) < n := by omega
    intro hc
    have := Int.lt_of_lt_of_le hc (Int.le_refl _)
    have h3 : ((2 ^ 63 - 1 : Int) / n + 1) * n ≤ (x.length : Int) * n := Int.mul_le_mul_of_nonneg_right (by exact hc) (by exact Int.natCast_nonneg n)
    have h4 := Int.emod_lt_of_pos (2 ^ 63 - 1) h2
    have h5 := Int.mul_ediv_add_emod (2 ^ 63 - 1) n
    rw [Int.add_mul, Int.mul_comm] at h3
    have h6 : ((x.length * n : Nat) : Int) < ((2 ^ 62 : Nat) : Int) := Int.ofNat_lt.mpr hx
    rw [Int.natCast_mul] at h6
    have h7 : ((2 ^ 62 : Nat) : Int) = 4611686018427387904 := by decide
    omega
  · unfold Builtin.Str.tooLong
    rw [Int.toNat_natCast, Nat.mul_comm]
    exact decide_eq_false (by exact Nat.not_lt.mpr h)
  · split
    · have : n = 0 := by omega
      subst this
      exact ⟨by decide, q _ _ Gr.toks' (.str _ _)⟩
    · split
      · rename_i h1
        have hr : strRep x n = x := by
          rw [Bool.or_eq_true] at h1
          rcases h1 with h1 | h1
          · have : n = 1 := by have := of_decide_eq_true h1; omega
            subst this
            simp [strRep]
          · have := cC h1
            subst this
            simp [strRep]
        show Q _ s
        refine q _ _ (Gr.refl ..) ?_
        rw [hr]
        exact .str _ _
      · have hr : (⟨(List.replicate ((n : Int)).toNat x.cps).foldl (· ++ ·) #[]⟩ : Str) = strRep x n := by
          rw [Int.toNat_natCast]
          have := listMul_foldl' x.cps n #[]
          simp only [List.nil_append] at this
          rw [strRep, this]
        rw [hr]
        exact ⟨by rw [fH]; exact h, q _ _ Gr.toks' (.str _ _)⟩
where
  listMul_foldl' (items : Array Nat) : ∀ (k : Nat) (acc : Array Nat), List.foldl (fun x1 x2 => x1 ++ x2) acc (List.replicate k items) = (acc.toList ++ (List.replicate k items.toList).flatten).toArray
    | 0, acc => by simp
    | k + 1, acc => by
      rw [List.replicate_succ, List.foldl_cons, listMul_foldl' items k, List.replicate_succ, List.flatten_cons]
      simp
structure cG (C : Cx) (d : Nat) (env : Env) (m : Vars) (e : Option Expr) (k : Option Int) : Prop where
  run : ∀ A s H, AOk A d → Inv C H s → aF C env H s.heap → aA C env H s.heap m → YG C A [] s (evalPart e env) (fun v _ => ∃ p : Option (Int × Tok), v = partValue p ∧ p.map (·.1) = k)
theorem cG.none : cG C d env m none none := .mk fun A s H hA I F V Q E q => by
  rw [evalPart_none]
  exact wpAny_pure (q _ _ (Gr.refl ..) ⟨Option.none, rfl, rfl⟩)
theorem cG.some {e : Expr} {i : Int} (h : Ev C d env m e (.int i)) : cG C d env m (some e) (some i) := .mk fun A s H hA I F V Q E q => by
  rw [evalPart_some]
  refine h.run A s H hA I F V Q E fun v s' g r => ?_
  obtain ⟨t, rfl⟩ := Rep.intI r
  · exact q _ _ g ⟨Option.some (i, t), rfl, rfl⟩
theorem tY {value : Expr} {lower upper : Option Expr} {p pos : Pos} {pv z : PV} {lo hi : Option Int} (hv : Ev C d env m value pv) (hp : pv.plain = true) (hl : ∃ id, typeLookup (.type (wK pv)) "__getitem__" = pure (some (.builtin id))) (h1 : cG C d env m lower lo) (h2 : cG C d env m upper hi)
    (hg : ∀ A s H a sl (l u : Option (Int × Tok)), AOk A d → Inv C H s → Rep H.hid s.heap a pv → s.heap.IsSlice sl l u Option.none → l.map (·.1) = lo → u.map (·.1) = hi → YG C A [] s (getItem a (.ref sl)) (fun v s' => Rep H.hid s'.heap v z)) :
    Ev C d env m (.Subscript value (.Slice lower upper Option.none p) pos) z := .mk fun A s H hA I F V Q E k => by
  rw [eval_Subscript]
  refine wpAny_bind (hv.run A s H hA I F V _ E fun o s₁ g₁ r₁ => wpAny_bind (wpAny_holding ?_))
  have I1 := I.gr0 g₁
  have F1 := F.gr0 g₁
  have V1 := V.gr0 I F g₁
  refine wpAny_Slice (h1.run A s₁ H hA I1 F1 V1 _ _ fun l s2 g2 z2 => h2.run A s2 H hA (I1.gr0 g2) (F1.gr0 g2) (V1.gr0 I1 F1 g2) _ _ fun u s3 g3 z3 => ?_)
  rw [evalPart_none]
  refine wpAny_pure ?_
  refine aI z2 fun lp ez1 hlp => ?_; clear z2; subst ez1
  refine aI z3 fun up ez1 hup => ?_; clear z3; subst ez1
  have g4 : Gr C [] s3 { s3 with heap := s3.heap.push { cls := .type "slice", data := .fields #[partValue lp, partValue up, .none] } } := Gr.push I.ok (tk := s3.toks)
  have g14 := (g2.trans g3).trans g4
  have r4 := r₁.gr0 I1 g14
  have hT := (r4.type hp).1
  obtain ⟨id, hl⟩ := hl
  refine wpAny_bind (wpAny_standAt ?_)
  refine wpAny_bind ?_
  rw [getitemInPython_of_ne hT.not_modules]
  refine wpAny_bind (wpAny_specialOf hT hl ?_)
  have fin : wpAny C.M A (subscripted (.Slice lower upper Option.none p) false o (.ref s3.heap.objs.size)) (fun r s₃ => wpAny C.M A (letTemporaryGo value o r >>= fun _ => pure r) Q E s₃) E { s3 with heap := s3.heap.push { cls := .type "slice", data := .fields #[partValue lp, partValue up, .none] } } :=
    wpAny_operating (hg A _ H o _ lp up hA (I1.gr0 g14) r4 ⟨_, Heap.get?_push_size _ rfl, rfl, rfl⟩ hlp hup _ E fun v s₃ g₃ r₃ => wpAny_bind (wpAny_letTemporaryGo (wpAny_pure (k v s₃ ((g₁.trans g14).trans g₃) r₃))))
  first
    | exact wpAny_pure (wpAny_bind fin)
    | exact wpAny_bind (wpAny_pure (wpAny_bind fin))
    | exact wpAny_bind fin
theorem Ev.sliceStr {value upper : Expr} {p pos : Pos} {x : Str} {n : Nat} (hv : Ev C d env m value (.str x)) (hu : Ev C d env m upper (.int n)) (hn : n ≤ x.length) (hx : x.length ≤ sizeLine) :
    Ev C d env m (.Subscript value (.Slice Option.none (some upper) Option.none p) pos) (.str ⟨(x.cps.toList.take n).toArray⟩) :=
  tY hv rfl ⟨_, PySem.F.slot_str_getitem.lookup⟩ cG.none (cG.some hu) fun A s H a sl l u hA I r hs hl hu Q E q => by
    obtain ⟨t, rfl⟩ := Rep.strI r
    ·
      have hl : l = Option.none := by cases l with | none => rfl | some p => cases hl
      subst hl
      refine wpAny_getItem_str_slice hs rfl ?_
      have hpick : slicePicked x Option.none u Option.none = Builtin.Str.strSliceIndices Option.none (Option.some (n : Int)) 1 x.length := by
        unfold slicePicked
        rw [hu]
        rfl
      have hsl := StrLaws.sliced_plain x (a := 0) (b := n) (by exact Nat.zero_le n) hn
      have e0 : Builtin.Str.strSliceIndices Option.none (Option.some (n : Int)) 1 x.length = Builtin.Str.strSliceIndices (Option.some ((0 : Nat) : Int)) (Option.some (n : Int)) 1 x.length := StrLaws.sliceIdx_none_lo _ _
      rw [← e0, List.drop_zero, Nat.sub_zero] at hsl
      unfold sliceMade
      rw [hpick]
      split
      · rename_i hc
        have hlen : (Builtin.Str.strSliceIndices Option.none (Option.some (n : Int)) 1 x.length).length = x.length := by
          have := (Bool.and_eq_true_iff.mp hc).2
          exact eq_of_beq this
        have hn2 : n = x.length := by
          have h1 := congrArg List.length hsl
          have h2 := List.length_filterMap_le (x.cps[·]?) (Builtin.Str.strSliceIndices Option.none (Option.some (n : Int)) 1 x.length)
          have hlt : ∀ i ∈ Builtin.Str.strSliceIndices Option.none (Option.some (n : Int)) 1 x.length, i < n := by
            intro i hi
            rw [e0, StrLaws.strSliceIndices_plain (by exact Nat.zero_le n) hn] at hi
            simp at hi
            exact hi
          rw [e0, StrLaws.strSliceIndices_plain (by exact Nat.zero_le n) hn] at hlen
          simp at hlen
          exact hlen
        show Q _ s
        refine q _ _ (Gr.refl ..) ?_
        have : (⟨(x.cps.toList.take n).toArray⟩ : Str) = x := by
          rw [List.take_of_length_le (by simp [Str.length] at hn2 ⊢; exact Nat.le_of_eq (id (Eq.symm hn2)))]
        rw [this]
        exact .str _ _
      · rw [hsl]
        refine ⟨?_, q _ _ Gr.toks' (.str _ _)⟩
        show ((x.cps.toList.take n).toArray).size ≤ sizeLine
        simp [Str.length] at hn hx ⊢
        omega
theorem Ev.sliceLst {value : Expr} {lower upper : Option Expr} {p pos : Pos} {xs : List PV} {lo hi : Option Int} (hv : Ev C d env m value (.lst xs)) (hlo : cG C d env m lower lo) (hhi : cG C d env m upper hi) (hx : xs.length ≤ sizeLine) :
    Ev C d env m (.Subscript value (.Slice lower upper Option.none p) pos) (.lst ((xs.drop (kms_lo lo xs.length)).take (kms_hi hi xs.length - kms_lo lo xs.length))) :=
  tY hv rfl ⟨_, PySem.slot_list_getitem.lookup⟩ hlo hhi fun A s H a sl l u hA I r hs hl hu Q E q => by
    refine aV (Rep.lstI r) fun a vs n ez1 hx' e R => ?_; subst ez1
    ·
      refine bY hs fun os k1 k2 k3 => ?_; clear hs
      have hlen : vs.size = xs.length := R.size
      have part : ∀ p : Option (Int × Tok), IsPart (partValue p) (p.map (·.1)) := fun p => by
        cases p with
        | none => exact .none
        | some q => exact .int _ _
      refine wpAny_getItem_list_slice ⟨_, e, rfl, _, rfl⟩ ⟨os, k1, k2, k3⟩ (hl ▸ part l) (hu ▸ part u) .none (by simp) (q _ _ (Gr.push I.ok) (.lst (n := 0) (I.fresh (Nat.le_refl _)) (Heap.get?_push_size _ rfl) ?_)) (by omega)
      rw [kms_pick_eq]
      simp only [List.toList_toArray, kms_pick]
      have hl2 : vs.toList.length = xs.length := by simpa using hlen
      rw [hl2]
      exact ((R.drop _).take _).mono fun b o _ e => Heap.get?_push_of_some _ e
end
end
section
section
variable {C : Cx} {d : Nat} {env : Env} {m : Vars}
theorem Cmp.inSet {S : Addr} {P : Int → Bool} {n : Nat} {i : Int} (hS : C.hB.SetOf (intKind C.prog C.w) S P n) (ht : S ∉ C.tabs) : Cmp C d .In (.int i) (.fn (.ref S)) (P i) := fun A s H a b hA I ra rb Q E q => by
  obtain ⟨t, rfl⟩ := Rep.intI ra
  ·
    cases rb
    refine rI hS fun o es ep tb h1 h2 => ?_; clear hS
    exact wpAny_inSet_of (knd := intKind C.prog C.w) (k := i) (S := P) (n := n) (by show decide (i = i) = true; simp) rfl ⟨o, es, ep, tb, I.keep _ _ ht h1, h2⟩ (q _ _ Gr.toks' rfl)
theorem Ev.dictGet {D : Addr} {f : Int → Option Value} {o e : Expr} {apos pos : Pos} {i : Int} {z : PV} (hm : C.hB.MapOf (intKind C.prog C.w) D f) (ht : D ∉ C.tabs) (hds : (D == sysModules) = false) (ho : Ev C d env m o (.fn (.ref D))) (he : Ev C d env m e (.int i)) (hs : ∀ rest, starEach (e :: rest) env = (false, eval e env) :: starEach rest env)
    (hz : ∀ X h, Rep X h ((f i).getD .none) z)
    (hbase : attributeBase o (Str.ofString "get") env (eval o env) = eval o env) (hline : (apos.endLine == pos.line) = true)
    (hfew : ((backTo pos (starEach [e] env)).all (fun x => !x.1) && (backToKw pos (keywordEach [] env)).all (fun x => x.1.isSome)
      && decide ([e].length + ([] : List Keyword).length + (if ([] : List Keyword).isEmpty then 0 else 1) < 30)) = true) : Ev C d env m (.Call (.Attribute o (Str.ofString "get") apos) [e] [] pos) z := .mk fun A s H hA I F V Q E q => by
  refine eM hm fun ob es ep h1 h2 h3 => ?_; clear hm
  refine wpAny_Call_method hbase hfew hline PySem.F.plainAttrs_dict PySem.F.slot_dict_get PySem.F.type_dict_get (ho.run A s H hA I F V _ E fun v s1 g1 rv => ?_)
  cases rv
  have I1 := I.gr0 g1
  have e1 : s1.heap.get? D = some ob := I1.keep _ _ ht h1
  refine ⟨⟨ob, e1, h2.1⟩, fun a ha => by cases ha; exact ⟨ob, e1, h2.2.1⟩, ?_⟩
  have hE : Evs C d env m [e] [.int i] := .cons he hs .nil
  have hsp := hE.spliced (pos := pos) hA I1 (F.gr0 g1) (V.gr0 I F g1)
  have hst := hE.star (pos := pos)
  rw [hs] at hst hsp ⊢
  refine callWith_builtin hst (evalArgs_plain (hsp _ E fun ws s2 g2 R => ?_))
  cases R with
  | cons r R =>
    cases R
    obtain ⟨t, rfl⟩ := Rep.intI r
    ·
      have I2 := I1.gr0 g2
      have e2 : s2.heap.get? D = some ob := I2.keep _ _ ht h1
      refine call_meetsIn PySem.F.slot_dict_get ⟨ob, e2, h2.1⟩ PySem.F.entry_dict_get (PySem.F.args_dict_get_2 _ _) (meets_dict_get (intKind C.prog C.w) D (k := i) (by show decide (i = i) = true; simp) hds) ⟨f, ⟨ob, es, ep, e2, h2, h3⟩, ?_⟩
      exact q _ _ ((g1.trans g2).trans Gr.toks') (hz _ _)
theorem Cmp.isNotNone {p : PV} {b : Bool} (hb : (p = .none ∧ b = false) ∨ (∃ x, p = .str x ∧ b = true)) : Cmp C d .IsNot p .none b := fun A s H x y hA I ra rb Q E q => by
  cases rb
  rcases hb with ⟨rfl, rfl⟩ | ⟨x, rfl, rfl⟩
  · cases ra; exact isNot_none (q _ _ (Gr.refl ..) rfl)
  · cases ra; exact isNot_none (q _ _ (Gr.refl ..) rfl)
end
end
section
inductive cF : List (Int × Value) → List (Int × Int) → Prop where
  | nil : cF [] []
  | cons {k x : Int} {t : Tok} {vs : List (Int × Value)} {ks : List (Int × Int)} : cF vs ks → cF ((k, .int x t) :: vs) ((k, x) :: ks)
theorem cF.snoc {vs : List (Int × Value)} {ks : List (Int × Int)} (h : cF vs ks) (k x : Int) (t : Tok) : cF (vs ++ [(k, .int x t)]) (ks ++ [(k, x)]) := by
  induction h with
  | nil => exact .cons .nil
  | cons _ ih => exact .cons ih
theorem cF.length {vs : List (Int × Value)} {ks : List (Int × Int)} (h : cF vs ks) : vs.length = ks.length := by
  induction h with
  | nil => rfl
  | cons _ ih => simp [ih]
theorem cF.at {vs : List (Int × Value)} {ks : List (Int × Int)} (h : cF vs ks) (k : Int) : (valueAt vs k = none ∧ ks.lookup k = none) ∨ ∃ x t, valueAt vs k = some (.int x t) ∧ ks.lookup k = some x := by
  induction h with
  | nil => exact .inl ⟨rfl, rfl⟩
  | @cons j x t vs ks _ ih =>
    unfold valueAt at ih ⊢
    rw [List.lookup_cons, List.find?_cons]
    by_cases e : j = k
    · subst e
      simp
    · have h1 : (k == j) = false := beq_eq_false_iff_ne.mpr fun h => e h.symm
      simp only [e, h1, decide_false]
      exact ih
noncomputable def iD (C : Cx) (kvs : List (Int × Int)) (o : Obj) : Prop :=
  ∃ es ep vals, o.ExactDict ∧ o.data = .dict es ep ∧ KeysOf (intKind C.prog C.w) es ∧ Pairs (intKind C.prog C.w) es.toList vals ∧ (vals.map (·.1)).Nodup ∧ cF vals kvs
theorem iD.of {C : Cx} {h : Heap} {a : Addr} {o : Obj} {kvs : List (Int × Int)} (e : h.get? a = some o) (d : iD C kvs o) : ∃ vals, h.DictOf (intKind C.prog C.w) a vals ∧ cF vals kvs := by
  refine zIk d fun es ep vals h1 h2 h3 h4 h5 h6 => ?_; clear d
  exact ⟨vals, ⟨o, es, ep, e, h1, h2, h3, h4, h5⟩, h6⟩
theorem iD.to {C : Cx} {h : Heap} {a : Addr} {vals : List (Int × Value)} {kvs : List (Int × Int)} (d : h.DictOf (intKind C.prog C.w) a vals) (i : cF vals kvs) : ∃ o, h.get? a = some o ∧ iD C kvs o := by
  refine zIk d fun o es ep e h1 h2 h3 h4 h5 => ?_; clear d
  exact ⟨o, e, es, ep, vals, h1, h2, h3, h4, h5, i⟩
theorem iD.notCode {C : Cx} {kvs : List (Int × Int)} {o : Obj} (d : iD C kvs o) : ¬ aB o := fun hc => by
  refine eM d fun es ep vals h1 h2 _ => ?_; clear d
  refine bH hc fun _ _ _ h _ => ?_; clear hc
  rw [h2] at h; cases h
theorem iD.notCell {C : Cx} {kvs : List (Int × Int)} {o : Obj} (d : iD C kvs o) : ∀ v, o.data ≠ .cell v := fun v h => by
  refine eM d fun es ep vals h1 h2 _ => ?_; clear d
  rw [h2] at h; cases h
noncomputable def dictPV (C : Cx) (kvs : List (Int × Int)) : PV := .mute (iD C kvs)
section
variable {C : Cx} {d : Nat} {env : Env} {m : Vars}
theorem Es.newDict {x : Str} {px pe pos : Pos} (him : m.all (fun e => e.2.imm) = true) (hk : cN env x) (hs : swapsWith (.Dict [] [] pe) (some (.Name x px)) pos.line env = pure false := by rfl) :
    Es C d env m (.Assign [.Name x px] (.Dict [] [] pe) pos) (.next ((x, dictPV C []) :: m)) := .mk fun A s H hA I F V Q E q => wpAny_Assign_Name (wpAny_Dict_empty (by
    have g : Gr C [] s { s with heap := s.heap.push { cls := .type "dict", data := .dict #[] } } := Gr.push I.ok (tk := s.toks)
    refine aI (iD.to (C := C) (Heap.DictOf.new (knd := intKind C.prog C.w) s.heap) cF.nil) fun o e hd => ?_
    have h0 := bR s
    have I1 := I.write g h0 e hd.notCode
    have V1 := V.write I F g h0 him
    have F1 : aF C env ⟨some s.heap.objs.size, H.X⟩ (s.heap.push { cls := .type "dict", data := .dict #[] }) := (F.gr0 g).hide fun _ h => h
    refine bP I1 F1 V1 hk (p := dictPV C []) (.mute rfl e hd) _ E fun _ s'' g' r' => ?_
    exact q _ s'' (g.plain.trans (g'.wider cI)) ⟨⟨some s.heap.objs.size, H.X⟩, ⟨rfl, fun b hb => .inr (by cases hb; exact h0), r'.1⟩, rfl, r'.2⟩)) hs
theorem tG {H : Hd} {s : Shared} {x : Str} {P : Obj → Prop} {m : Vars} (V : aA C env H s.heap m) (hx : m.lookup x = some (.mute P)) : ∃ a o, H.μ = some a ∧ cO C env s.heap x (.ref a) ∧ s.heap.get? a = some o ∧ P o := by
  refine aI (V x _ hx) fun v hl r => ?_
  refine cps fun Pz kz => ?_
  obtain ⟨a, o, rfl, hm, e, r⟩ := r.muteI
  refine kz ?_; clear kz Pz
  exact ⟨a, o, hm, hl, e, r⟩
theorem Ev.dictAt {x : Str} {px pos : Pos} {slice : Expr} {kvs : List (Int × Int)} {k v : Int} (hx : m.lookup x = some (dictPV C kvs)) (hi : Ev C d env m slice (.int k)) (hv : kvs.lookup k = some v) (hd : (x == ("__debug__" : Str)) = false)
    (hs : ∀ o i, subscripted slice false o i = operate [o, i] (getItem o i) := by intro _ _; rfl) : Ev C d env m (.Subscript (.Name x px) slice pos) (.int v) := .mk fun A s H hA I F V Q E q => by
  rw [eval_Subscript]
  refine jN (tG V hx) fun a o hm hl e hP => ?_
  refine wpAny_bind (wpAny_Name (cZ I F hl ?_) hd)
  refine wpAny_bind (wpAny_holding (hi.run A s H hA I F V _ E fun i s₂ g₂ r₂ => wpAny_bind (wpAny_standAt ?_)))
  have e2 : s₂.heap.get? a = some o := g₂.keep a _ (fun ht => (I.hid.μB a hm).2 (I.hid.tabs a ht)) (by simp) e
  refine aI (iD.of e2 hP) fun vals hdict hp => ?_
  cases r₂ with
  | int _ t =>
    rcases hp.at k with ⟨_, h⟩ | ⟨y, u, h1, h2⟩
    · rw [hv] at h; cases h
    · rw [hv] at h2; cases h2
      refine wpAny_bind ?_
      rw [getitemInPython_of_ne hdict.typeIs.not_modules]
      refine wpAny_bind (wpAny_specialOf hdict.typeIs PySem.slot_dict_getitem.lookup ?_)
      have fin : wpAny C.M A (subscripted slice false (.ref a) (.int k t)) (fun r s₃ => wpAny C.M A (letTemporaryGo (.Name x px) (.ref a) r >>= fun _ => pure r) Q E s₃) E s₂ := by
        rw [hs]
        exact wpAny_operating (wpAny_getItem_of (knd := intKind C.prog C.w) (k := k) (by show decide (k = k) = true; simp) hdict.mapOf h1 (wpAny_bind (wpAny_letTemporaryGo (wpAny_pure (q _ _ (g₂.trans Gr.toks') (.int _ _))))))
      first
        | exact wpAny_pure (wpAny_bind fin)
        | exact wpAny_bind (wpAny_pure (wpAny_bind fin))
        | exact wpAny_bind fin
theorem rX {vs : List (Int × Value)} {k : Int} {v : Value} (h : valueAt vs k = none) : stored vs k v = vs ++ [(k, v)] := by
  unfold stored valueAt at *
  simp only [Option.map_eq_none_iff, List.find?_eq_none] at h
  split
  · rename_i hh
    exfalso
    simp only [List.any_eq_true] at hh
    refine aI hh fun x h1 h2 => ?_; clear hh
    exact h x h1 (by simpa using h2)
  · rfl
theorem Es.setKey {x : Str} {px ps pos : Pos} {i e : Expr} {kvs : List (Int × Int)} {k v : Int} (he : Ev C d env ((x, dictPV C kvs) :: m) e (.int v)) (hi : Ev C d env ((x, dictPV C kvs) :: m) i (.int k)) (hk : kvs.lookup k = none) (hl : kvs.length ≤ sizeLine) (him : m.all (fun e => e.2.imm) = true) (hd : (x == ("__debug__" : Str)) = false)
    (hs : swapsWith e (some (.Subscript (.Name x px) i ps)) pos.line env = pure false := by rfl) :
    Es C d env ((x, dictPV C kvs) :: m) (.Assign [.Subscript (.Name x px) i ps] e pos) (.next ((x, dictPV C (kvs ++ [(k, v)])) :: m)) := .mk fun A s H hA I F V Q E q => by
  refine wpAny_Assign_Subscript ?_ hs
  refine he.run A s H hA I F V _ E fun ev s1 g1 r1 => ?_
  obtain ⟨u, rfl⟩ := Rep.intI r1
  ·
    have I1 := I.gr0 g1
    have F1 := F.gr0 g1
    have V1 := V.gr0 I F g1
    obtain ⟨a, o, hm, hl', e1, hP⟩ := tG V1 (x := x) (P := iD C kvs) (by rw [List.lookup_cons]; simp [dictPV])
    refine wpAny_Name (cZ I1 F1 hl' ?_) hd
    refine hi.run A s1 H hA I1 F1 V1 _ E fun iv s2 g2 r2 => ?_
    obtain ⟨t, rfl⟩ := Rep.intI r2
    ·
      have I2 := I1.gr0 g2
      have e2 := g2.keep a _ (fun ht => (I.hid.μB a hm).2 (I.hid.tabs a ht)) (by simp) e1
      refine aI (iD.of e2 hP) fun vals hdict hp => ?_
      have hva : valueAt vals k = none := by
        rcases hp.at k with ⟨h, _⟩ | ⟨y, u, h1, h2⟩
        · exact h
        · rw [hk] at h2; cases h2
      refine wpAny_setItem_pairs (knd := intKind C.prog C.w) (k := k) (by show decide (k = k) = true; simp) hdict (fun h' hd' hs' => ?_) (by rw [hp.length]; exact hl)
      rw [rX hva] at hd'
      refine aI (iD.to hd' (hp.snoc k v u)) fun o' e' hP' => ?_
      have g : Gr C [a] s2 { s2 with heap := h', toks := s2.toks + 1 } := Gr.but I.ok (fun y hy => by
        rw [mS hy]
        exact ⟨fun ht => (I.hid.μB a hm).2 (I.hid.tabs a ht), fun o e' => I2.hid.μC a o hm e'⟩) (fun b o hb e => (hs'.2 b (by simpa using hb)).trans e)
      have hd3 : bO C H h' := bO.mut (s' := { s2 with heap := h', toks := s2.toks + 1 }) I2 hm g e' hP'.notCode
      have F2 := F1.gr0 g2
      have V2 := V1.gr0 I1 F1 g2
      have F3 := F2.mut I2 hm g e2 hP.notCell
      have V3 := V2.mut I2 F2 hm g e2 hP.notCell (hl'.gr0 F1 g2) (q := dictPV C (kvs ++ [(k, v)])) (.mute hm e' hP') him
      refine q _ _ (((g1.trans g2).plain).trans (g.wider fun b hb => ?_)) ⟨H, .same hd3, rfl, F3, V3⟩
      rw [mS hb]
      exact mR (by simp [hm])
end
end
section
theorem sV {X : List Addr} {h : Heap} (a : Addr) (o : Obj) (_ : a ∉ []) (e : (hideAll h X).get? a = some o) : a ∉ X ∧ h.get? a = some o := ⟨fun hx => (nomatch (hideAll_none _ hx).symm.trans e), of_hideAll _ e⟩
theorem Rep.unhide {X : List Addr} {h : Heap} {v : Value} {p : PV} (r : Rep [] (hideAll h X) v p) : Rep X h v p := r.shift sV
theorem aD.unhide {X : List Addr} {h : Heap} {vs : List Value} {ps : List PV} (r : aD [] (hideAll h X) vs ps) : aD X h vs ps := r.shift sV
noncomputable def InstIs (K : Addr) (attrs : Vars) (h : Heap) (v : Value) : Prop :=
  ∃ x mA, v = .ref x ∧ h.Inst x K mA ∧ (∀ y p, attrs.lookup y = some p → ∃ w, mA y = some w ∧ Rep [] h w p) ∧ ∀ y, attrs.lookup y = none → mA y = none
theorem InstIs.of {X : List Addr} {h : Heap} {K : Addr} {attrs : Vars} {v : Value} (r : Rep X h v (.sem (InstIs K attrs))) :
    ∃ x mA, v = .ref x ∧ h.Inst x K mA ∧ (∀ y p, attrs.lookup y = some p → ∃ w, mA y = some w ∧ Rep X h w p) ∧ ∀ y, attrs.lookup y = none → mA y = none := by
  have P := Rep.semI r
  ·
    refine jN (P (hideAll h X) fun b o hb e => hideAll_get _ e hb) fun x mA ez1 I ha hn => ?_; subst ez1
    exact ⟨x, mA, rfl, I.keeps fun b o e => of_hideAll _ e, fun y p e => let ⟨w, h1, h2⟩ := ha y p e; ⟨w, h1, h2.unhide⟩, hn⟩
structure dO (C : Cx) (K N : Addr) (mN : Str → Option Value) : Prop where
  at' : ClsAt C.hB K N mN
  kT : K ∉ C.tabs
  nT : N ∉ C.tabs
  hook1 : mN "__getattribute__" = none
  hook2 : mN "__getattr__" = none
  hook3 : mN "__setattr__" = none
section
variable {C : Cx} {d : Nat} {env : Env} {m : Vars} {K N : Addr} {mN : Str → Option Value}
theorem dO.now {H : Hd} {s : Shared} (X : dO C K N mN) (I : Inv C H s) : ClsAt s.heap K N mN := by
  refine cps fun Pz kz => ?_
  obtain ⟨nm, q, bs, sn, sub, col, dd, k0, k1, k2, k3, k5, e⟩ := X.at'.obj
  refine kz ?_; clear kz Pz
  exact ⟨⟨nm, q, bs, sn, sub, col, dd, k0, k1, k2, k3, k5, I.keep _ _ X.kT e⟩, I.ns X.nT X.at'.ns⟩
theorem Ev.attr {x name : Str} {px pos : Pos} {attrs : Vars} {p : PV} (X : dO C K N mN) (ho : m.lookup x = some (.sem (InstIs K attrs))) (hd : (x == ("__debug__" : Str)) = false) (hp : attrs.lookup name = some p) (hna : mN name = Option.none)
    (hq : p.plain = true) (hB : typeLookup (.type "object") name = pure Option.none) : Ev C d env m (.Attribute (.Name x px) name pos) p :=
  .mk fun A s H hA I F V Q E q => Attribute_name ((Ev.name ho hd).run A s H hA I F V _ E fun v s' g rv => by
    refine jN (InstIs.of rv) fun x mA ez1 J ha _ => ?_; subst ez1
    refine aI (ha name p hp) fun w hw rw' => ?_
    have I' := I.gr0 g
    refine cps fun Pz kz => ?_
    obtain ⟨hh, gs, dr, t, os⟩ := s'
    refine kz ?_; clear kz Pz
    refine cps fun Pz kz => ?_
    obtain ⟨nm, qn, bs, sn, sub, col, dd, k0, k1, k2, k3, k5, hC⟩ := (X.now I').obj
    refine kz ?_; clear kz Pz
    refine load_attr hC (X.now I').ns X.hook1 hna hB J hw ?_ (q w _ (g.trans (Gr.toks' (Nat.le_succ _))) rw')
    cases rw' <;> first | rfl | cases hq)
structure pU (C : Cx) (a : Addr) (name qual : Str) (params : Arguments) (body : List Stmt) (scope : Scope) (cd : Value) : Prop where
  obj : ∃ o pm doc, C.hB.get? a = some o ∧ o.cls = .type "function" ∧ o.data = .func (methDef name qual params body scope pm cd doc)
  tab : a ∉ C.tabs
  code : ∀ H s, Inv C H s → s.heap.CodeRec cd qual
theorem Calls.meth {a : Addr} {name qual : Str} {params : Arguments} {body : List Stmt} {scope : Scope} {cd : Value} (hF : pU C a name qual params body scope cd) {d : Nat} (hD : d < recursionLimit)
    {xs : List Str} {ps : List PV} {r : PV} {glb : Vars} (hb : ∀ pm doc vs, vs.length = xs.length → bindArgs (methDef name qual params body scope pm cd doc) ⟨vs, []⟩ = pure (xs.zip vs))
    (hloc : ∀ x ∈ xs, scope.names.lookup x = some .local) (hnd : xs.Nodup) (hl : xs.length = ps.length) (hcell : ∀ x ∈ scope.names, x.2 ≠ .cell) (hk : scope.kind = .function) (hgen : scope.isGenerator = false) (hco : scope.isCoroutine = false)
    (G : GlobOk C scope glb) (h : ∀ L, Ex C (d + 1) (envOf qual scope L a cd) (xs.zip ps ++ glb) body (.ret r)) : Calls C d (.ref a) ps r := by
  intro A s H vs hA I R Q E q
  have K := I.ok
  refine eM hF.obj fun o pm doc ho _ hd => ?_
  have hlen := R.length
  refine wpAny_call (codeAny_call_def (fd := methDef name qual params body scope pm cd doc) (body := body) (binds := xs.zip vs) (by have := hA.depth; exact Nat.lt_of_le_of_lt this hD) (I.keep _ _ hF.tab ho) hd I.nolimit (hF.code H s I) rfl (.of_eq (hb pm doc vs (by omega))) hcell (fun x hx => hloc x.1 (List.of_mem_zip hx).1) (fun h₁ hns hkeep => ?_) hco hgen hk)
  show wpAny _ (A.deeper (envOf qual scope s.heap.objs.size a cd)) (execs body (envOf qual scope s.heap.objs.size a cd)) _ _ _
  generalize hL : s.heap.objs.size = L at hns ⊢
  have g1 : Gr C [] s { s with heap := h₁, toks := s.toks + (xs.zip vs).length } := Gr.of K hkeep
  have hLn : s.heap.get? L = Option.none := by
    cases e : s.heap.get? L with
    | none => rfl
    | some o' => exact absurd (Heap.lt_size e) (by rw [hL]; exact Nat.lt_irrefl _)
  have hLt : L ∉ C.tabs := fun ht => by
    refine iT (K.tabIs _ I.tab L ht) fun o' _ e' _ _ => ?_
    rw [hLn] at e'; cases e'
  have hLB : C.hB.get? L = Option.none := by
    cases e : C.hB.get? L with
    | none => rfl
    | some o' => rw [I.keep L o' hLt e] at hLn; cases hLn
  have hown : own (envOf qual scope L a cd) = [L] := rfl
  have hnew : ∀ x ∈ own (envOf qual scope L a cd), s.heap.get? x = Option.none := by rw [hown]; intro x hx; simp at hx; subst hx; exact hLn
  have I1 := enter (env := envOf qual scope L a cd) I g1 hnew (by rw [hown]; intro x hx; simp at hx; subst hx; obtain ⟨o, _, _, e, _⟩ := hns; show (h₁.get? x).isSome = true; rw [e]; rfl) (by rw [hown]; intro x hx o e; simp at hx; subst hx; exact aS hns e)
  have R1 := R.enter (env := envOf qual scope L a cd) I g1 hnew
  have FO : aF C (envOf qual scope L a cd) ⟨Option.none, own (envOf qual scope L a cd) ++ H.hid⟩ h₁ := ⟨⟨hk, rfl, rfl⟩, (fun c hc => by cases hc), hLt, hLB, ⟨_, hns⟩, (fun x c hc => by cases hc), (fun x y c hc => by cases hc), fun x hx => mL hx⟩
  have V : aA C (envOf qual scope L a cd) ⟨Option.none, own (envOf qual scope L a cd) ++ H.hid⟩ h₁ (xs.zip ps ++ glb) := fun x p e => by
    rw [List.lookup_append] at e
    cases e2 : (xs.zip ps).lookup x with
    | some p' =>
      rw [e2] at e
      cases e
      refine aI (dD xs R1 x p e2) fun v hv rv => ?_
      refine ⟨v, .inl ⟨?_, _, hns, by rw [dZ xs vs hnd x]; exact hv⟩, .imm rv⟩
      exact hloc x (List.of_mem_zip (mem_of_lookup hv)).1
    | none =>
      rw [e2] at e
      refine bY (G x p e) fun v hr h1 h2 => ?_
      exact ⟨v, .inr (.inr ⟨h1, h2⟩), .imm (hr _ h₁)⟩
  refine (h L).run (A.deeper (envOf qual scope L a cd)) _ _ ⟨hA.handled, by show A.depth + 1 ≤ d + 1; have := hA.depth; exact Nat.add_le_add_right this 1, by show A.units + 3 ≤ 10 * (d + 1); have := hA.units; omega⟩ I1 FO V _ _ fun f s' g r' => ?_
  refine bY (xI (A := A) (b := []) I g1 hnew g r') fun v ez1 g2 rv => ?_; subst ez1
  exact q v s' g2 rv
theorem tW {H : Hd} {s : Shared} {A : Around} {name : Str} {f : Addr} {of : Obj} {attrs : Vars} {y : Option Value} {v : Value} {pl : Sem Bool} {Q : Value × List Value → Shared → Prop} {E : Value → Shared → Prop} (X : dO C K N mN) (I : Inv C H s)
    (rv : Rep H.hid s.heap v (.sem (InstIs K attrs))) (hf : mN name = some (.ref f)) (hft : f ∉ C.tabs) (hfo : C.hB.get? f = some of) (hfc : of.cls = .type "function") (hsh : attrs.lookup name = Option.none)
    (hB : typeLookup (.type "object") name = pure y) (h : Q (.ref f, [v]) s) : wpAny C.M A (getMethod v name pl) Q E s := by
  refine jN (InstIs.of rv) fun x mA ez1 J _ hn => ?_; subst ez1
  refine cps fun Pz kz => ?_
  obtain ⟨hh, gs, dr, t, os⟩ := s
  refine kz ?_; clear kz Pz
  refine cps fun Pz kz => ?_
  obtain ⟨nm, qn, bs, sn, sub, col, dd, k0, k1, k2, k3, k5, hC⟩ := (X.now I).obj
  refine kz ?_; clear kz Pz
  exact method_of hC (X.now I).ns X.hook1 X.hook2 hf (I.keep _ _ hft hfo) hfc hB J (hn _ hsh) h
theorem Ev.callM0 {o : Expr} {name nm qual : Str} {params : Arguments} {body : List Stmt} {scope : Scope} {cd : Value} {apos pos : Pos} {attrs : Vars} {f : Addr} {r : PV} {y : Option Value} {pl : Sem Bool} (X : dO C K N mN) (ho : Ev C d env m o (.sem (InstIs K attrs)))
    (hF : pU C f nm qual params body scope cd) (hf : mN name = some (.ref f)) (hsh : attrs.lookup name = Option.none) (hB : typeLookup (.type "object") name = pure y) (hc : Calls C d (.ref f) [.sem (InstIs K attrs)] r)
    (he : eval (.Call (.Attribute o name apos) [] [] pos) env = (do
      let ov ← eval o env
      standAt apos.atName
      let (f, first) ← holding [ov] (getMethod ov name pl)
      callWith pos f first (backTo pos (starEach [] env)) (backToKw pos (keywordEach [] env)))) : Ev C d env m (.Call (.Attribute o name apos) [] [] pos) r :=
  .mk fun A s H hA I F V Q E q => methodCall_KW (he := he) (ho.run A s H hA I F V _ E fun v s' g rv => by
    refine eM hF.obj fun of pm doc hfo hfc hd => ?_
    have I' := I.gr0 g
    refine tW X I' rv hf hF.tab hfo hfc hsh hB ?_
    refine callWith_meth0 hd (I'.keep _ _ hF.tab hfo) ?_
    exact hc A s' H [v] hA I' (.cons rv .nil) _ E fun v s3 g3 r3 => q v s3 (g.trans g3) r3)
theorem Ev.callM {o e : Expr} {es : List Expr} {name nm qual : Str} {params : Arguments} {body : List Stmt} {scope : Scope} {cd : Value} {apos pos : Pos} {attrs : Vars} {f : Addr} {r : PV} {ps : List PV} {y : Option Value} {pl : Sem Bool} (X : dO C K N mN) (ho : Ev C d env m o (.sem (InstIs K attrs)))
    (ha : Evs C d env m (e :: es) ps) (hF : pU C f nm qual params body scope cd) (hf : mN name = some (.ref f)) (hsh : attrs.lookup name = Option.none) (hB : typeLookup (.type "object") name = pure y) (hc : Calls C d (.ref f) (.sem (InstIs K attrs) :: ps) r)
    (he : eval (.Call (.Attribute o name apos) (e :: es) [] pos) env = (do
      let ov ← eval o env
      standAt apos.atName
      let (f, first) ← holding [ov] (getMethod ov name pl)
      callWith pos f first (backTo pos (starEach (e :: es) env)) (backToKw pos (keywordEach [] env)))) : Ev C d env m (.Call (.Attribute o name apos) (e :: es) [] pos) r :=
  .mk fun A s H hA I F V Q E q => methodCall_KW (he := he) (ho.run A s H hA I F V _ E fun v s' g rv => by
    refine eM hF.obj fun of pm doc hfo hfc hd => ?_
    have I' := I.gr0 g
    refine tW X I' rv hf hF.tab hfo hfc hsh hB ?_
    show wpAny _ _ (callWith pos _ _ _ []) _ _ _
    cases ha with
    | cons h1 hs h2 =>
      have ha : Evs C d env m (e :: es) (_ :: _) := .cons h1 hs h2
      rw [hs]
      refine callWith_function (o := of) (fd := methDef nm qual params body scope pm cd doc) (evalArgs_plain ?_)
      have := ha.spliced (pos := pos) hA I' (F.gr0 g) (V.gr0 I F g)
      rw [hs] at this
      exact this _ E fun vs s'' g' rs => ⟨⟨(I'.gr0 g').keep _ _ hF.tab hfo, hd⟩, hc A s'' H (v :: vs) hA (I'.gr0 g') (.cons (rv.gr0 I' g') rs) _ E fun v s3 g3 r3 => q v s3 ((g.trans g').trans g3) r3⟩)
end
end
section
structure bW (x dx K : Addr) (mA : Str → Option Value) (h : Heap) : Prop where
  obj : ∃ ox, h.get? x = some ox ∧ ox.cls = .ref K ∧ ox.dict = some dx ∧ ∀ c, ox.data ≠ .cls c
  ne : dx ≠ x
  ns : h.Ns1 dx mA
theorem bW.inst {x dx K : Addr} {mA : Str → Option Value} {h : Heap} (J : bW x dx K mA h) : h.Inst x K mA := by
  refine iU J.obj fun ox h1 h2 h3 h4 => ?_
  exact ⟨ox, h1, h2, h4, .inr ⟨dx, h3, J.ne, J.ns⟩⟩
theorem bW.keeps {x dx K : Addr} {mA : Str → Option Value} {h h' : Heap} (J : bW x dx K mA h) (k1 : ∀ o, h.get? x = some o → h'.get? x = some o) (k2 : ∀ o, h.get? dx = some o → h'.get? dx = some o) : bW x dx K mA h' := by
  refine iU J.obj fun ox h1 h2 h3 h4 => ?_
  refine ⟨⟨ox, k1 _ h1, h2, h3, h4⟩, J.ne, ?_⟩
  refine bH J.ns fun o es ep e r => ?_
  exact ⟨o, es, ep, k2 _ e, r⟩
theorem bW.dir {x dx K : Addr} {mA : Str → Option Value} {h : Heap} (J : bW x dx K mA h) : ∃ o, h.get? dx = some o ∧ ¬ aB o := by
  refine bH J.ns.ns fun o es ep e r => ?_
  exact ⟨o, e, aS J.ns.ns e⟩
section
variable {C : Cx} {d : Nat} {env : Env} {m : Vars} {K N : Addr} {mN : Str → Option Value}
theorem sM {A : Around} {s : Shared} {H : Hd} {x dx : Addr} {mA : Str → Option Value} {name : Str} {v : Value} {ns : List Str} (X : dO C K N mN) (I : Inv C H s) (J : bW x dx K mA s.heap) (hxK : x ≠ K) (hdT : dx ∉ C.tabs)
    (hna : mN name = Option.none) (hB : typeLookup (.type "object") name = pure Option.none) (hw : Within mA ns) (hsz : ns.length ≤ sizeLine) :
    YG C A [dx] s (setAttr (.ref x) name v) (fun _ s' => bW x dx K (fun y => if y = name then some v else mA y) s'.heap) := by
  refine YG.ofToks fun Q E q => ?_
  refine iU J.obj fun ox hx hc hdx hncl => ?_
  have free : zA C [dx] s.heap := fun b hb => by
    rw [mS hb]
    exact ⟨hdT, fun o e => aS J.ns.ns e⟩
  have X' := X.now I
  have K' := I.ok
  have JI := J.inst
  refine cps fun Pz kz => ?_
  obtain ⟨hh, gs, dr, t, os⟩ := s
  refine kz ?_; clear kz Pz
  refine cps fun Pz kz => ?_
  obtain ⟨nm, qn, bs, sn, sub, col, dd, k0, k1, k2, k3, k5, hC⟩ := X'.obj
  refine kz ?_; clear kz Pz
  refine store_attr PySem.F.store_object hC X'.ns X.hook3 hna hB hxK JI (fun h' tk' I' hk hsame => ?_) hw hsz
  refine zIn (hsame ox hx) fun o₁ e₁ c₁ dt₁ sl₁ dk₁ => ?_
  have hxx : h'.get? x = some ox := by
    rw [e₁]
    have := dk₁ dx hdx
    cases o₁; cases ox
    simp only at c₁ dt₁ sl₁ this hdx
    subst c₁; subst dt₁; subst sl₁
    rw [this, hdx]
  have kk : ∀ b o, b ∉ [dx] → hh.get? b = some o → h'.get? b = some o := fun b o hb e => by
    by_cases hbx : b = x
    · subst hbx
      rw [hx] at e; cases e
      exact hxx
    · exact hk b o hbx (fun o₀ d' e₀ ed => by
        rw [hx] at e₀; cases e₀
        rw [hdx] at ed; cases ed
        simpa using hb) e
  refine q () _ (fun ht => Gr.but K' free kk ht) ⟨⟨ox, hxx, hc, hdx, hncl⟩, J.ne, ?_⟩
  refine iU I' fun o' e' _ _ hd' => ?_; clear I'
  rw [hxx] at e'; cases e'
  rcases hd' with ⟨hn0, _⟩ | ⟨d', hd', _, hns'⟩
  · rw [hdx] at hn0; cases hn0
  · rw [hdx] at hd'; cases hd'
    exact hns'
noncomputable def yZ (C : Cx) (d : Nat) (K f : Addr) (ps : List PV) (attrs : Vars) : Prop :=
  ∀ A s H x dx vs, AOk A d → Inv C H s → bW x dx K (fun _ => Option.none) s.heap → x ∉ H.hid → dx ∉ H.hid → C.hB.get? x = Option.none → C.hB.get? dx = Option.none → aD (x :: dx :: H.hid) s.heap vs ps →
    YG C A [dx] s (call (.ref f) (.ref x :: vs)) (fun r s' => r = .none ∧ Rep H.hid s'.heap (.ref x) (.sem (InstIs K attrs)))
theorem Ev.make {o e : Expr} {es : List Expr} {pos : Pos} {f : Addr} {of : Obj} {ps : List PV} {attrs : Vars} (X : dO C K N mN) (ho : Ev C d env m o (.fn (.ref K))) (ha : Evs C d env m (e :: es) ps)
    (hi : mN "__init__" = some (.ref f)) (hfT : f ∉ C.tabs) (hf : C.hB.get? f = some of) (hfc : of.cls = .type "function") (hc : yZ C (d + 1) K f ps attrs)
    (hplain : (backTo pos (starEach es env)).any (·.1) = false)
    (hshape : eval (.Call o (e :: es) [] pos) env = (do callWith pos (← eval o env) [] (backTo pos (starEach (e :: es) env)) [])) : Ev C d env m (.Call o (e :: es) [] pos) (.sem (InstIs K attrs)) :=
  .mk fun A s H hA I F V Q E q => by
    rw [hshape]
    refine wpAny_bind (ho.run A s H hA I F V _ E fun v s' g rv => ?_)
    cases rv
    have I' := I.gr0 g
    have Y : ClsAt (hideAll s'.heap C.tabs) K N mN := by
      refine cps fun Pz kz => ?_
      obtain ⟨nm, q, bs, sn, sub, col, dd, k0, k1, k2, k3, k5, e⟩ := X.at'.obj
      refine kz ?_; clear kz Pz
      refine bH X.at'.ns fun o es ep e' r => ?_
      exact ⟨⟨nm, q, bs, sn, sub, col, dd, k0, k1, k2, k3, k5, hideAll_get _ (I'.keep _ _ X.kT e) X.kT⟩, ⟨o, es, ep, hideAll_get _ (I'.keep _ _ X.nT e') X.nT, r⟩⟩
    cases ha with
    | cons h1 hs h2 =>
      have ha : Evs C d env m (e :: es) (_ :: _) := .cons h1 hs h2
      refine callWith_cls Y ?_ (hs es) hplain
      refine ha.spliced (pos := pos) hA I' (F.gr0 g) (V.gr0 I F g) _ E fun vs s'' g' rs => ?_
      refine ⟨fun b o e => g'.keep b o (fun hb => by rw [hideAll_none _ hb] at e; cases e) (by simp) (of_hideAll _ e), ?_⟩
      have I2 := I'.gr0 g'
      refine cps fun Pz kz => ?_
      obtain ⟨hh, gs, dr, t, os⟩ := s''
      refine kz ?_; clear kz Pz
      refine cps fun Pz kz => ?_
      obtain ⟨nm, qn, bs, sn, sub, col, dd, k0, k1, k2, k3, k5, hC⟩ := (X.now I2).obj
      refine kz ?_; clear kz Pz
      refine wpAny_call_obj_init PySem.F.objNew hC (X.now I2).ns hi (I2.keep _ _ hfT hf) hfc fun h' x dx Mk => ?_
      have g3 : Gr C [] ⟨hh, gs, dr, t, os⟩ ⟨h', gs, dr, t, os⟩ := Gr.of (s := ⟨hh, gs, dr, t, os⟩) I2.ok Mk.keeps (Nat.le_refl _)
      have I3 := I2.gr0 g3
      have hxn : x ∉ H.hid := fun hb => by
        obtain ⟨o, e⟩ := iS (I2.hid.there x hb)
        rw [Mk.newX] at e; cases e
      have hdn : dx ∉ H.hid := fun hb => by
        obtain ⟨o, e⟩ := iS (I2.hid.there dx hb)
        rw [Mk.newD] at e; cases e
      have hB0 : ∀ b, b ∉ H.hid → hh.get? b = Option.none → C.hB.get? b = Option.none := fun b hb hn => by
        cases e : C.hB.get? b with
        | none => rfl
        | some o => rw [I2.keep b o (I2.tabH b hb) e] at hn; cases hn
      have J : bW x dx K (fun _ => Option.none) h' := by
        refine iU Mk.inst fun ox h1 h2 h3 h4 => ?_
        have hd := Mk.dict ox h1
        rcases h4 with ⟨h4, _⟩ | ⟨d', h4, h5, h6⟩
        · rw [hd] at h4; cases h4
        · rw [hd] at h4; cases h4
          exact ⟨⟨ox, h1, h2, hd, h3⟩, h5, h6⟩
      refine hc (A.under (.builtin "type.__call__" ⟨.ref K :: vs, []⟩)) ⟨h', gs, dr, t, os⟩ H x dx vs ⟨hA.handled, by show A.depth + 1 ≤ d + 1; have := hA.depth; exact Nat.add_le_add_right this 1, ?_⟩ I3 J hxn hdn (hB0 x hxn Mk.newX) (hB0 dx hdn Mk.newD)
        ((rs.rehide fun a ha => ?_).mono fun b o _ e => Mk.keeps b o e) _ E fun r s3 g4 hr => ⟨hr.1, q _ s3 (((g.trans g').trans g3).then g4 fun y hy => .inr ?_) hr.2⟩
      · have := hA.units
        show (A.under (.builtin "type.__call__" ⟨.ref K :: vs, []⟩)).units ≤ _
        have hu : (A.under (.builtin "type.__call__" ⟨.ref K :: vs, []⟩)).units ≤ A.units + 10 :=
          Nat.add_le_add_left (Nat.le_of_ble_eq_true (by kernel_rfl : Nat.ble (Code.builtin "type.__call__" ⟨.ref K :: vs, []⟩).cUnits 10 = true)) _
        omega
      · rcases mC ha with rfl | ha
        · exact .inr Mk.newX
        · rcases mC ha with rfl | ha
          · exact .inr Mk.newD
          · exact .inl ha
      · rw [mS hy]
        cases e : s.heap.get? dx with
        | none => rfl
        | some o =>
          have := (g.trans g').keep dx o (I2.tabH dx hdn) (by simp) e
          rw [Mk.newD] at this; cases this
end
end
section
noncomputable def PV.easy : PV → Bool
  | .lst l => l.all PV.flat
  | p => p.flat
theorem Rep.dir {X : List Addr} {h : Heap} {dx : Addr} {o : Obj} (e : h.get? dx = some o) (hd : ∀ vs n, o.data ≠ .seq vs n) {v : Value} {p : PV} (r : Rep X h v p) (hp : p.easy = true) : Rep (dx :: X) h v p := by
  cases r with
  | lst hx e' r =>
    refine .lst (fun hm => ?_) e' (r.flat hp)
    rcases mC hm with rfl | hm
    · rw [e] at e'; cases e'
      exact hd _ _ rfl
    · exact hx hm
  | none => exact .none
  | bool b => exact .bool b
  | int i t => exact .int i t
  | str x t => exact .str x t
  | fn v => exact .fn v
  | tup => cases hp
  | rng => cases hp
  | sem => cases hp
section
variable {C : Cx} {d : Nat} {env : Env} {m : Vars} {K N : Addr} {mN : Str → Option Value}
theorem aA.dir {X : List Addr} {h : Heap} {dx : Addr} {o : Obj} (e : h.get? dx = some o) (hd : ∀ vs n, o.data ≠ .seq vs n) (hm : m.all (fun e => e.2.easy) = true) (V : aA C env ⟨Option.none, X⟩ h m) : aA C env ⟨Option.none, dx :: X⟩ h m := fun x p ex => by
  refine aI (V x p ex) fun v l r => ?_
  refine ⟨v, l, ?_⟩
  have hp : p.easy = true := List.all_eq_true.mp hm _ (mem_of_lookup ex)
  cases r with
  | imm r => exact .imm (r.dir e hd hp)
  | mlst hm _ _ => cases hm
  | mute hm _ _ => cases hm
noncomputable def iE (C : Cx) (K : Addr) (name : Str) (v : Value) : Prop :=
  ∀ A s H, Inv C H s → YG C A [] s (getAttr (.ref K) name true) (fun w _ => w = v)
theorem Ev.clsAttr {x name : Str} {px pos : Pos} {v : Value} {p : PV} (ho : m.lookup x = some (.fn (.ref K))) (hd : (x == ("__debug__" : Str)) = false) (hr : iE C K name v) (hv : ∀ X h, Rep X h v p) : Ev C d env m (.Attribute (.Name x px) name pos) p :=
  .mk fun A s H hA I F V Q E q => Attribute_name ((Ev.name ho hd).run A s H hA I F V _ E fun o s' g rv => by
    cases rv
    exact hr A s' H (I.gr0 g) _ E fun w s'' g' e => q w s'' (g.trans g') (by rw [e]; exact hv _ _))
theorem Ev.semMono {e : Expr} {P P' : Heap → Value → Prop} (h : Ev C d env m e (.sem P)) (k : ∀ h v, P h v → P' h v) : Ev C d env m e (.sem P') :=
  .mk fun A s H hA I F V Q E q => h.run A s H hA I F V _ E fun v s' g r => q v s' g (by
    have z := Rep.semI r
    · exact .sem fun h' kk => k _ _ (z h' kk))
theorem Ev.attr' {o : Expr} {name : Str} {pos : Pos} {attrs : Vars} {p : PV} (X : dO C K N mN) (ho : Ev C d env m o (.sem (InstIs K attrs))) (hp : attrs.lookup name = some p) (hna : mN name = Option.none)
    (hq : p.plain = true) (hB : typeLookup (.type "object") name = pure Option.none) (e1 : attributeBase o name env (eval o env) = eval o env) (e2 : ∀ a r, letTemporaryGo o a r = pure ()) : Ev C d env m (.Attribute o name pos) p :=
  .mk fun A s H hA I F V Q E q => by
    rw [arm_eval_Attribute, e1]
    refine wpAny_bind (ho.run A s H hA I F V _ E fun v s' g rv => ?_)
    refine jN (InstIs.of rv) fun x mA ez1 J ha _ => ?_; subst ez1
    refine aI (ha name p hp) fun w hw rw' => ?_
    have I' := I.gr0 g
    refine cps fun Pz kz => ?_
    obtain ⟨hh, gs, dr, t, os⟩ := s'
    refine kz ?_; clear kz Pz
    refine cps fun Pz kz => ?_
    obtain ⟨nm, qn, bs, sn, sub, col, dd, k0, k1, k2, k3, k5, hC⟩ := (X.now I').obj
    refine kz ?_; clear kz Pz
    refine wpAny_bind (wpAny_standAt (wpAny_bind (wpAny_holding (load_attr hC (X.now I').ns X.hook1 hna hB J hw ?_ ?_))))
    · cases rw' <;> first | rfl | cases hq
    · rw [e2]
      exact wpAny_bind (wpAny_pure (wpAny_pure (q w _ (g.trans (Gr.toks' (Nat.le_succ _))) rw')))
theorem Es.assign3 {x y z : Str} {px py pz pos : Pos} {e : Expr} {p : PV} (h : Ev C d env m e p) (hx : cN env x) (hy : cN env y) (hz : cN env z)
    (hw : swappedStores [.Name x px, .Name y py, .Name z pz] e env = pure Option.none) :
    Es C d env m (.Assign [.Name x px, .Name y py, .Name z pz] e pos) (.next ((z, p) :: (y, p) :: (x, p) :: m)) :=
  .mk fun A s H hA I F V Q E q => wpAny_Assign_three (hw := hw) (h.run A s H hA I F V _ E fun v s1 g1 r1 => by
    have I1 := I.gr0 g1
    have hh : ∀ x ∈ own env, x ∈ H.hid := fun x hx => mR (F.hid x hx)
    refine wpAny_bind (wpAny_standAt (wpAny_bindName (bP I1 (F.gr0 g1) (V.gr0 I F g1) hx (.imm r1) _ E fun _ s2 g2 z2 => ?_)))
    have I2 := I1.gr g2 (F.gr0 g1).ownB z2.1
    have r2 := r1.gr I1.tabs g2 hh
    refine wpAny_bind (wpAny_standAt (wpAny_bindName (bP I2 z2.2.1 z2.2.2 hy (.imm r2) _ E fun _ s3 g3 z3 => ?_)))
    have I3 := I2.gr g3 z2.2.1.ownB z3.1
    have r3 := r2.gr I2.tabs g3 hh
    refine wpAny_bind (wpAny_standAt (wpAny_bindName (bP I3 z3.2.1 z3.2.2 hz (.imm r3) _ E fun _ s4 g4 z4 => ?_)))
    exact q _ s4 (g1.plain.trans ((g2.trans (g3.trans g4)).wider cI)) ⟨H, .same z4.1, rfl, z4.2⟩)
theorem Es.then {A : Around} {s : Shared} {H : Hd} {st : Stmt} {rest : List Stmt} {m' : Vars} (h : Es C d env m st (.next m')) (hA : AOk A d) (I : Inv C H s) (F : aF C env H s.heap) (V : aA C env H s.heap m) {Q : Flow → Shared → Prop} {E : Value → Shared → Prop}
    (k : ∀ s' H', Gr C (wr env H) s s' → bM C H H' s s' → Inv C H' s' → aF C env H' s'.heap → aA C env H' s'.heap m' → wpAny C.M A (execs rest env) Q E s') : wpAny C.M A (execs (st :: rest) env) Q E s :=
  wpAny_execs_cons (h.run A s H hA I F V _ E fun f s' g r => by
    refine iU r fun H' a ez1 F' V' => ?_; clear r; subst ez1
    exact k s' H' g a (a.inv I F g) F' V')
theorem dM {A : Around} {s : Shared} {H : Hd} {x dx : Addr} {mA : Str → Option Value} {self name : Str} {px pos' pos : Pos} {e : Expr} {p : PV} {ns : List Str} (X : dO C K N mN) (hA : AOk A d) (I : Inv C H s) (F : aF C env H s.heap) (V : aA C env H s.heap m)
    (hdx : dx ∈ H.X) (Nw : cL C env dx) (hxT : x ∉ C.tabs) (J : bW x dx K mA s.heap) (hxK : x ≠ K) (hself : m.lookup self = some (.fn (.ref x))) (hsd : (self == ("__debug__" : Str)) = false) (he : Ev C d env m e p)
    (hna : mN name = Option.none) (hB : typeLookup (.type "object") name = pure Option.none) (hw : Within mA ns) (hsz : ns.length ≤ sizeLine)
    (hs : swapsWith e (some (.Attribute (.Name self px) name pos')) pos.line env = pure false) {Q : Flow → Shared → Prop} {E : Value → Shared → Prop}
    (q : ∀ w s', Gr C [dx] s s' → Inv C H s' → aF C env H s'.heap → aA C env H s'.heap m → bW x dx K (fun y => if y = name then some w else mA y) s'.heap → Rep H.hid s'.heap w p → Q .next s') :
    wpAny C.M A (exec (.Assign [.Attribute (.Name self px) name pos'] e pos) env) Q E s :=
  plainObj_wpAny_Assign_Attribute (hs := hs) (he.run A s H hA I F V _ E fun w s1 g1 r1 => (Ev.name hself hsd).run A s1 H hA (I.gr0 g1) (F.gr0 g1) (V.gr0 I F g1) _ E fun ov s2 g2 r2 => by
    cases r2
    have I1 := I.gr0 g1
    have I2 := I1.gr0 g2
    have g12 := g1.trans g2
    refine sM X I2 (J.keeps (fun o e => g12.keep _ o hxT (by simp) e) (fun o e => g12.keep _ o Nw.tab (by simp) e)) hxK Nw.tab hna hB hw hsz _ E fun _ s3 g3 J3 => ?_
    refine aI J3.dir fun o3 e3 hn3 => ?_
    have F2 := F.gr0 g12
    have hid : ∀ y ∈ [dx], y ∈ H.hid := fun y hy => by rw [mS hy]; exact mR hdx
    exact q w s3 (g12.plain.trans g3) (I2.wrote Nw hdx g3 (by rw [e3]; rfl) (fun o e => by rw [e3] at e; cases e; exact hn3)) (F2.wrote Nw g3) ((V.gr0 I F g12).wrote Nw I2 F2 hdx g3) J3
      ((r1.gr0 I1 g2).gr I2.tabs g3 hid))
end
end
section
section
variable {C : Cx} {d : Nat} {env : Env} {m : Vars} {K N : Addr} {mN : Str → Option Value}
inductive Run (C : Cx) (d : Nat) (env : Env) : Vars → List Stmt → Vars → Prop where
  | nil {m : Vars} : Run C d env m [] m
  | cons {m m1 m2 : Vars} {st : Stmt} {l : List Stmt} : Es C d env m st (.next m1) → Run C d env m1 l m2 → Run C d env m (st :: l) m2
theorem Run.then {l : List Stmt} {m' : Vars} (h : Run C d env m l m') : ∀ {A : Around} {s : Shared} {H : Hd} {rest : List Stmt}, AOk A d → Inv C H s → aF C env H s.heap → aA C env H s.heap m → ∀ {Q : Flow → Shared → Prop} {E : Value → Shared → Prop},
    (∀ s' H', Gr C (wr env H) s s' → bM C H H' s s' → Inv C H' s' → aF C env H' s'.heap → aA C env H' s'.heap m' → wpAny C.M A (execs rest env) Q E s') → wpAny C.M A (execs (l ++ rest) env) Q E s := by
  induction h with
  | nil => intro A s H rest hA I F V Q E k; exact k s H (Gr.refl ..) (.same I.hid) I F V
  | @cons m m1 m2 st l h _ ih =>
    intro A s H rest hA I F V Q E k
    exact h.then hA I F V fun s1 H1 g1 a1 I1 F1 V1 => ih hA I1 F1 V1 fun s2 H2 g2 a2 I2 F2 V2 => k s2 H2 (bM.gr g1 a1 g2) (bM.trans I F F1 g1 a1 a2) I2 F2 V2
theorem Inv.hideOne {X : List Addr} {s : Shared} {dx : Addr} {o : Obj} (I : Inv C ⟨Option.none, X⟩ s) (e : s.heap.get? dx = some o) (hn : ¬ aB o) : Inv C ⟨Option.none, dx :: X⟩ s :=
  ⟨I.ok, I.keep, I.tab, ⟨fun a ha => by
    rcases mC (by simpa [Hd.hid] using ha : a ∈ dx :: X) with rfl | ha
    · rw [e]; rfl
    · exact I.hid.there a (by simpa [Hd.hid] using ha), fun a ha => mT (I.hid.tabs a ha), (fun a h => by cases h), fun a ha o' e' => by
    rcases mC (by simpa [Hd.hid] using ha : a ∈ dx :: X) with rfl | ha
    · rw [e] at e'; cases e'; exact hn
    · exact I.hid.nc a (by simpa [Hd.hid] using ha) o' e'⟩, I.tk⟩
theorem Inv.showOne {X : List Addr} {s : Shared} {dx : Addr} (I : Inv C ⟨Option.none, dx :: X⟩ s) (hT : ∀ a ∈ C.tabs, a ∈ X) : Inv C ⟨Option.none, X⟩ s :=
  ⟨I.ok, I.keep, I.tab, ⟨fun a ha => I.hid.there a (by simp [Hd.hid] at ha ⊢; exact .inr ha), hT, (fun a h => by cases h), fun a ha => I.hid.nc a (by simp [Hd.hid] at ha ⊢; exact .inr ha)⟩, I.tk⟩
theorem aF.other {H H' : Hd} {h : Heap} (F : aF C env H h) (k : ∀ x ∈ own env, x ∈ H'.X) : aF C env H' h := ⟨F.eok, F.found, F.loc, F.locB, F.ns, F.cell, F.inj, k⟩
theorem aA.showOne {X : List Addr} {h : Heap} {dx : Addr} (V : aA C env ⟨Option.none, dx :: X⟩ h m) : aA C env ⟨Option.none, X⟩ h m :=
  aA.rehide (H := ⟨Option.none, dx :: X⟩) rfl (fun a ha => .inl (by simp [Hd.hid] at ha ⊢; exact .inr ha)) V
theorem aA.cons {H : Hd} {h : Heap} {x : Str} {p : PV} (V : aA C env H h m) (hx : ∃ v, cO C env h x v ∧ bD H h v p) : aA C env H h ((x, p) :: m) := fun y q e => by
  rw [List.lookup_cons] at e
  by_cases hxy : y == x
  · simp only [hxy] at e
    cases e
    rw [eq_of_beq hxy]
    exact hx
  · simp only [hxy] at e
    exact V y q e
theorem aA.nil {H : Hd} {h : Heap} : aA C env H h [] := fun x p e => by cases e
theorem aA.as {H : Hd} {h : Heap} {x : Str} {p p' : PV} (V : aA C env H h m) (e : m.lookup x = some p) (hp : p.imm = true) (k : ∀ v, Rep H.hid h v p → Rep H.hid h v p') : ∃ v, cO C env h x v ∧ bD H h v p' := by
  refine aI (V x p e) fun v l r => ?_
  exact ⟨v, l, .imm (k v (r.is hp))⟩
end
end
section
section
variable {prog : Program} {w : World} {A : Around} {E : Value → Shared → Prop}
theorem uL {cenv : Env} {x : Str} {s : Shared} {m mg mb : Str → Option Value} {a : Addr} {vs : Array Value} {n : Nat} {k : Int} {t : Tok} {p1 p2 p3 p4 p5 : Pos} (hk : cenv.scope.kind = .function) (kx : cenv.kindOf x = some .local) (ks : cenv.kindOf (Str.ofString "str") = some .globalImplicit)
    (g : cenv.globals = mainGlobals) (b : cenv.builtins = builtinsNs) (hn : s.heap.Ns cenv.locals m) (hx : m x = some (.ref a)) (ha : s.heap.get? a = some { cls := .type "tuple", data := .seq vs n }) (h0 : vs[0]? = some (.int k t))
    (hg : s.heap.Ns mainGlobals mg) (hg0 : mg (Str.ofString "str") = none) (hb : s.heap.Ns builtinsNs mb) (hb0 : mb (Str.ofString "str") = some (.type "str")) (hlog : k.natAbs.log2 < 1920) (hd : (x == ("__debug__" : Str)) = false) {Q : Value → Shared → Prop}
    (hshape : eval (.Call (.Name "str" p1) [.Subscript (.Name x p2) (.Constant (.int 0) 0 p3) p4] [] p5) cenv = (do callWith p5 (← eval (.Name "str" p1) cenv) [] (backTo p5 (starEach [.Subscript (.Name x p2) (.Constant (.int 0) 0 p3) p4] cenv)) []))
    (hstar : ∀ rest, starEach (.Subscript (.Name x p2) (.Constant (.int 0) 0 p3) p4 :: rest) cenv = (false, eval (.Subscript (.Name x p2) (.Constant (.int 0) 0 p3) p4) cenv) :: starEach rest cenv)
    (hsub : ∀ o i, subscripted (.Constant (.int 0) 0 p3) false o i = operate [o, i] (getItem o i))
    (hq : ∀ tk tk', Q (.str (toString k) tk) { s with toks := tk' }) :
    wpAny (model prog w) A (eval (.Call (.Name "str" p1) [.Subscript (.Name x p2) (.Constant (.int 0) 0 p3) p4] [] p5) cenv) Q E s := by
  rw [hshape]
  refine wpAny_bind (wpAny_Name (by
    rw [loadName_read hk ks]
    refine loadGlobal_builtin (mg := mg) (mb := mb) (by rw [g]; exact hg) hg0 (by rw [b]; exact hb) hb0 ?_
    have hst : (backTo p5 (starEach [.Subscript (.Name x p2) (.Constant (.int 0) 0 p3) p4] cenv)).any (·.1) = false := by rw [hstar]; rfl
    rw [hstar] at hst ⊢
    refine PyProof.Rows.callWith_type hst (evalArgs_plain ?_)
    show wpAny _ A (PySem.spliced ((false, eval (.Subscript (.Name x p2) (.Constant (.int 0) 0 p3) p4) cenv) :: backTo p5 (starEach [] cenv))) _ E s
    refine spliced_cons ?_
    rw [eval_Subscript]
    refine wpAny_bind (wpAny_Name (wpAny_loadName_local hk kx hn hx ?_) hd)
    refine wpAny_bind (wpAny_holding (wpAny_Constant_int (wpAny_bind (wpAny_standAt ?_))))
    have hT : ({ s with toks := s.toks + 1 } : Shared).TypeIs (.ref a) "tuple" := ⟨_, ha, rfl⟩
    refine wpAny_bind ?_
    rw [getitemInPython_of_ne hT.not_modules]
    refine wpAny_bind (wpAny_specialOf hT PySem.F.slot_tuple_getitem.lookup ?_)
    have fin : wpAny (model prog w) A (subscripted (.Constant (.int 0) 0 p3) false (.ref a) (.int 0 s.toks)) (fun r s₃ => wpAny (model prog w) A (letTemporaryGo (.Name x p2) (.ref a) r >>= fun _ => pure r) (fun v s₄ => wpAny (model prog w) A (PySem.spliced (backTo p5 (starEach [] cenv))) (fun vs s₅ => wpAny (model prog w) A (call (.type "str") (v :: vs)) Q E s₅) E s₄) E s₃) E { s with toks := s.toks + 1 } := by
      rw [hsub]
      refine wpAny_operating ?_
      refine P.getItem_tuple (n := n) ha (by decide) (by decide) (cT (by decide) (by have := (Array.getElem?_eq_some_iff.mp h0).1; exact Int.natCast_pos.mpr this)) (y := .int k t) (by simpa using h0) ?_
      refine wpAny_bind (wpAny_letTemporaryGo (wpAny_pure ?_))
      refine wpAny_items_nil ?_
      exact P.str_of_int hlog (hq _ _)
    first
      | exact wpAny_pure (wpAny_bind fin)
      | exact wpAny_bind (wpAny_pure (wpAny_bind fin))
      | exact wpAny_bind fin) (by decide))
end
end
section
structure pW (C : Cx) (A : Around) (L : Addr) (s : Shared) (a : Addr) (n : Nat) (f : Nat → Str) (s5 : Shared) : Prop where
  has : ∃ g Cf J fp St, WalksS C.prog C.w A.in4 a (a :: Cf :: fp) [Cf, J] (GenOnlyQ g) n (fun j y => ∃ i, (List.range n)[j]? = some i ∧ ∃ t, y = Value.str (f i) t) St ∧ St 0 s5 ∧ (∀ i s', St i s' → s'.TypeIs (.ref a) "generator") ∧
    (∀ s', (∀ b ∈ a :: Cf :: fp, ∀ o, s5.heap.get? b = some o → s'.heap.get? b = some o) → (∀ x, s5.gens[g]? = some x → s'.gens[g]? = some x) → St 0 s') ∧
    (∀ b ∈ a :: Cf :: fp, (∃ o, s5.heap.get? b = some o) ∧ b ∉ C.tabs) ∧ L ∉ a :: Cf :: fp ∧ s.heap.get? a = none ∧ (∀ b ∈ [Cf, J], s.heap.get? b = none ∧ ∃ o, s5.heap.get? b = some o ∧ ¬ aB o) ∧ g = s.gens.size ∧ g < s5.gens.size
theorem qN (n : Nat) : passing (fun _ => true) n 0 = List.range n := by simp [passing]
section
variable {C : Cx} {d : Nat} {env : Env} {m : Vars}
theorem xY {A : Around} {s : Shared} {H : Hd} {l : List PV} {wn x : Str} {pw px pos : Pos} {elt : Expr} {scope : Scope} {c P : Addr} {f : Nat → Str}
    (hA : AOk A d) (hd : d < recursionLimit) (I : Inv C H s) (F : aF C env H s.heap) (V : aA C env H s.heap m)
    (N : NestOk C c P pos (env.qual ++ "<genexpr>")) (B : BmOk C) (hcode : env.code = .ref c)
    (hco : scope.isCoroutine = false) (hclos : closureFor scope env = pure []) (hcell : ∀ y ∈ scope.names, y.2 ≠ .cell) (h0 : scope.names.lookup (".0" : Str) = some NameKind.local)
    (hx : scope.names.lookup x = some .local) (hkind : scope.kind = .function) (hw : m.lookup wn = some (.lst l)) (hwd : (wn == ("__debug__" : Str)) = false)
    (helt : ∀ (Cf : Addr) (code : Value) (A' : Around) E' i q v (s2 : Shared) m2, A'.handled = none → l[i]? = some q → Rep [] s2.heap v q → s2.heap.Ns Cf m2 → m2 x = some v → s2.heap.Ns mainGlobals C.mg → s2.heap.Ns builtinsNs C.mb →
      wpAny C.M A' (eval elt (genEnv scope [] Cf code builtinsNs env)) (fun y s3 => (∃ t, y = Value.str (f i) t) ∧ Keeps s2 s3) E' s2)
    (hs : ∀ x, genFold (.Name wn pw) env x = pure x) :
    YG C A [] s (eval (.GeneratorExp elt [⟨.Name x px, .Name wn pw, [], 0⟩] scope pos) env) (fun v s5 => ∃ a, v = .ref a ∧ pW C A env.locals s a l.length f s5) := by
  refine YG.ofToks fun Q E q => ?_
  have K := I.ok
  refine wpAny_GeneratorExp_make hco hclos hcell h0 hkind (by have := hA.depth; exact Nat.lt_of_le_of_lt this hd) ?_ hs
  refine wpAny_Name (gV hw I F V _ E fun v s' g r => ?_) hwd
  obtain ⟨rfl, r⟩ := r
  have r := r.is rfl
  refine aV (Rep.lstI r) fun la vs n ez1 hla ela R => ?_; subst ez1
  have hlen : vs.size = l.length := R.size
  rw [← hlen] at q
  have hLX : env.locals ∈ H.hid := mR (F.hid _ mH)
  have hlaL : la ≠ env.locals := fun h => hla (h ▸ hLX)
  have hLs : env.locals < s'.heap.objs.size := by
    refine rI F.ns fun mm o es ep e _ => ?_
    exact Heap.lt_size e
  refine wpAny_pyIter_list (items := vs) ⟨_, ela, rfl, n, rfl⟩ ⟨I.nolimit.push _, ?_⟩
  generalize hs2 : ({ s' with heap := s'.heap.push { cls := .type "list_iterator", data := .fields #[.ref la, .int 0 0] } } : Shared) = s2
  have h2 : s2.heap = s'.heap.push { cls := .type "list_iterator", data := .fields #[.ref la, .int 0 0] } := by rw [← hs2]
  have h2g : s2.gens = s'.gens := by rw [← hs2]
  have h2o : s2.os = s'.os := by rw [← hs2]
  have h2t : s2.toks = s'.toks := by rw [← hs2]
  have g12 : Gr C [] s' s2 := by rw [← hs2]; exact Gr.push (s := s') I.ok (tk := s'.toks) (Nat.le_refl _)
  have I2 := I.gr0 g12
  have hJ : s2.heap.get? s'.heap.objs.size = some { cls := .type "list_iterator", data := .fields #[.ref la, .int 0 0] } := by rw [h2]; exact Heap.get?_push_size _ rfl
  have hsz2 : s2.heap.objs.size = s'.heap.objs.size + 1 := by rw [h2, Heap.size_push]
  obtain ⟨hcH, hP⟩ := N.at_ _ I2.tab
  refine zIm B fun bm ob b1 b2 b3 b4 b5 b6 b7 b8 => ?_; clear B
  have hPX : P ∈ H.hid := I.tabs _ N.tab
  have hPJ : P ≠ s'.heap.objs.size := fun h => by
    refine cA (K.tabIs _ I.tab P N.tab) fun o _ e _ => ?_
    rw [h] at e
    exact absurd (Heap.lt_size e) (Nat.lt_irrefl _)
  have hPL : P ≠ env.locals := fun h => F.loc (h ▸ N.tab)
  have hPla : P ≠ la := fun h => hla (h ▸ hPX)
  have fin : ∀ (code : Value) (h3 : Heap) (tk : Nat), (∀ b o, b ≠ P → s2.heap.get? b = some o → h3.get? b = some o) → C.TI h3 → s2.heap.objs.size ≤ h3.objs.size → (s2.toks ≤ tk → True) →
      wpAny C.M A (builtinsFor env.globals env.builtins) (fun bi s4 => ∀ h', h'.Ns s4.heap.objs.size (fun y => if y = ".0" then some (.ref s'.heap.objs.size) else none) → Heap.SameBut s4.heap.objs.size (s4.heap.push { cls := .type "frame", data := .dict #[] }) h' →
          Q (.ref h'.objs.size) { s4 with
            gens := s4.gens.push (.fresh (.compStart (.GeneratorExp elt [⟨.Name x px, .Name wn pw, [], 0⟩] scope pos) 0 (.ref s'.heap.objs.size) .none (genEnv scope [] s4.heap.objs.size code bi env))),
            toks := s4.toks + 1 + 1 + 1,
            heap := h'.push { cls := .type "generator", data := .fields #[.int s4.gens.size 0, .str "<genexpr>" (s4.toks + 1), .str (env.qual ++ "<genexpr>") (s4.toks + 1 + 1)] } }) E { s2 with heap := h3, toks := tk } := by
    intro code h3 tk k3 T3 hsz3 _
    have hgs : h3.Ns mainGlobals C.mg := by
      refine bH (I2.ns K.gT K.g) fun o es ep e r => ?_
      exact ⟨o, es, ep, k3 _ _ (fun e => K.gT (e ▸ N.tab)) e, r⟩
    refine wpAny_builtinsFor (m := C.mg) (by rw [F.eok.globals]; exact hgs) b1 b2 (k3 _ _ (fun e => b4 (e ▸ N.tab)) (I2.keep _ _ b4 b5)) b6 b7 b8 ?_
    intro h' hn' hs'
    dsimp only at hn' hs' ⊢
    have hsz' : h'.objs.size = h3.objs.size + 1 := by rw [hs'.1, Heap.size_push]
    have keep' : ∀ b o, h3.get? b = some o → h'.get? b = some o := fun b o e => hs'.extBut b o (Nat.ne_of_lt (Heap.lt_size e)) (Heap.get?_push_of_some _ e)
    have kk : ∀ b o, b ≠ P → s'.heap.get? b = some o → h3.get? b = some o := fun b o hb e => k3 b o hb (by rw [h2]; exact Heap.get?_push_of_some _ e)
    have hge3 : s'.heap.objs.size < h3.objs.size := by omega
    generalize hog : ({ cls := .type "generator", data := .fields #[.int s2.gens.size 0, .str "<genexpr>" (tk + 1), .str (env.qual ++ "<genexpr>") (tk + 1 + 1)] } : Obj) = og
    have keep5 : ∀ b o, h3.get? b = some o → (h'.push og).get? b = some o := fun b o e => Heap.get?_push_of_some _ (keep' b o e)
    have hnoB : ∀ b, C.hB.get? b ≠ none → b ∉ C.tabs → b < s'.heap.objs.size ∧ b ≠ env.locals := fun b hb ht => by
      cases e : C.hB.get? b with
      | none => exact absurd e hb
      | some o => exact ⟨Heap.lt_size (I.keep b o ht e), fun hL => by rw [hL, F.locB] at e; cases e⟩
    let fp := (List.range h3.objs.size).filter fun b => b != env.locals && !C.tabs.contains b && (h3.get? b).isSome
    have mem_fp : ∀ b, b ∈ fp ↔ b < h3.objs.size ∧ b ≠ env.locals ∧ b ∉ C.tabs ∧ (h3.get? b).isSome = true := by
      intro b
      simp [fp, List.mem_filter, List.mem_range, and_assoc]
    have hJt : s'.heap.objs.size ∉ C.tabs := fun h => by
      refine cA (K.tabIs _ I.tab _ h) fun o _ e _ => ?_
      exact absurd (Heap.lt_size e) (Nat.lt_irrefl _)
    have hJL : s'.heap.objs.size ≠ env.locals := fun h => by rw [h] at hLs; exact absurd hLs (Nat.lt_irrefl _)
    have hlat : la ∉ C.tabs := fun h => hla (I.tabs _ h)
    have hlalt : la < s'.heap.objs.size := Heap.lt_size ela
    have hlaJ : la ≠ s'.heap.objs.size := Nat.ne_of_lt hlalt
    have hst0 : cStatics < s'.heap.objs.size ∧ cStatics ≠ env.locals := hnoB _ (by obtain ⟨mc, ⟨o, _, _, e, _⟩, _⟩ := K.nolimit; rw [e]; simp) K.sT
    have hcs : cStatics ∈ fp := (mem_fp _).mpr ⟨Nat.lt_trans hst0.1 hge3, hst0.2, K.sT, by
      refine cps fun Pz kz => ?_
      obtain ⟨mc, ⟨o, _, _, e, _⟩, _⟩ := I.nolimit
      refine kz ?_; clear kz Pz
      have e' := kk cStatics o (fun h => K.sT (h ▸ N.tab)) e
      rw [e']
      rfl⟩
    have hnl5 : (h'.push og).NoLimit := by
      refine cps fun Pz kz => ?_
      obtain ⟨mc, ⟨o, es, ep, e, r⟩, hnn⟩ := I.nolimit
      refine kz ?_; clear kz Pz
      exact ⟨mc, ⟨o, es, ep, keep5 _ _ (kk _ _ (fun h => K.sT (h ▸ N.tab)) e), r⟩, hnn⟩
    have T5 : C.TI (h'.push og) := K.ti _ _ T3 fun b o e _ => keep5 b o e
    have hgb : og.data = .fields #[.int s2.gens.size 0, .str "<genexpr>" (tk + 1), .str (env.qual ++ "<genexpr>") (tk + 1 + 1)] := by rw [← hog]
    have hlit : h'.push og |>.IsListIter s'.heap.objs.size la 0 := by
      have e := keep5 _ _ (k3 _ _ (fun h => hPJ h.symm) hJ)
      exact ⟨_, e, rfl, rfl⟩
    have hisg : (h'.push og).IsGen h'.objs.size s2.gens.size := ⟨og, _, _, Heap.get?_push_size _ (by rw [← hog]; rfl), by rw [← hog], hgb, by rw [← hog]⟩
    have haC : h'.objs.size ≠ h3.objs.size := by rw [hsz']; exact Nat.succ_ne_self _
    have haf : h'.objs.size ∉ fp := fun hm => by have := ((mem_fp _).mp hm).1; rw [hsz'] at this; exact absurd this (Nat.not_lt.mpr (Nat.le_succ _))
    have hCf : h3.objs.size ∉ fp := fun hm => Nat.lt_irrefl _ ((mem_fp _).mp hm).1
    have hJfp : s'.heap.objs.size ∈ fp := (mem_fp _).mpr ⟨hge3, hJL, hJt, by rw [k3 _ _ (fun h => hPJ h.symm) hJ]; rfl⟩
    have W := WalksS.genexpQ (prog := C.prog) (w := C.w) (A := A.in4) hA.handled h'.objs.size s2.gens.size h3.objs.size fp [s'.heap.objs.size] (fun _ => true) vs.size (fun i y => ∃ t, y = Value.str (f i) t) haC haf
      (fun b hb => by rw [mS hb]; exact hJfp) (by show A.depth < _; have := hA.depth; exact Nat.lt_of_le_of_lt this hd) hcs (Nat.ne_of_lt (Nat.lt_trans hst0.1 hge3)) (fun hm => by rw [mS hm] at hst0; exact absurd hst0.1 (Nat.lt_irrefl _))
    rw [qN, List.length_range] at W
    have hq : QuietGen C.prog C.w (genEnv scope [] h3.objs.size code builtinsNs env) x [] elt fp [s'.heap.objs.size] (fun i v => vs[i]? = some v) (fun _ => true) (fun i y => ∃ t, y = Value.str (f i) t) (h'.push og) := by
      refine ⟨fun A' E' i v t m2 _ hv hn2 hm2 hk2 => wpAny_pure ⟨rfl, ⟨t.heap, t.toks, rfl, fun _ _ e => e⟩⟩, fun A' E' i v t m2 hh' hv _ hn2 hm2 hk2 => ?_⟩
      have kt : ∀ b o, b ∉ C.tabs → b ≠ env.locals → s'.heap.get? b = some o → t.heap.get? b = some o := fun b o hb hbL e =>
        hk2 b ((mem_fp b).mpr ⟨Nat.lt_trans (Heap.lt_size e) hge3, hbL, hb, by
          have e' := kk b o (fun h => hb (h ▸ N.tab)) e
          rw [e']
          rfl⟩) (fun hm => by rw [mS hm] at e; exact absurd (Heap.lt_size e) (Nat.lt_irrefl _)) o (keep5 _ _ (kk _ _ (fun h => hb (h ▸ N.tab)) e))
      refine aI (R.get i v (by simpa using hv)) fun qv hq1 hq2 => ?_
      have ns : ∀ (b : Addr) (mm : Str → Option Value), C.hB.Ns b mm → b ∉ C.tabs → t.heap.Ns b mm := fun b mm hb ht => by
        refine bH hb fun o es ep e r => ?_; clear hb
        exact ⟨o, es, ep, kt _ _ ht (hnoB b (by rw [e]; simp) ht).2 (I.keep _ _ ht e), r⟩
      refine helt h3.objs.size code A' E' i qv v t m2 hh' hq1 ?_ hn2 hm2 (ns _ _ K.g K.gT) (ns _ _ K.b K.bT)
      exact (hq2.mono fun b o hb e => kt b o (fun h => hb (I.tabs _ h)) (fun h => hb (h ▸ hLX)) e).rehide fun a ha => by cases ha
    have G0 := GenAt.fresh (prog := C.prog) (w := C.w) (A := A.in4) (elt := elt) (iter := .Name wn pw) (px := px) (ifs := []) (scope := scope) (pos := pos) (cenv := genEnv scope [] h3.objs.size code builtinsNs env) (m := fun y => if y = ".0" then some (.ref s'.heap.objs.size) else none) (x := x) hA.handled
      (fun A' hA' => (Walks.list hA' s'.heap.objs.size la hlaJ vs).mono_fp fun b hb => by
        rcases mC hb with rfl | hb
        · exact hJfp
        · rw [mS hb]
          exact (mem_fp _).mpr ⟨Nat.lt_trans hlalt hge3, hlaL, hlat, by rw [kk _ _ (fun h => hPla h.symm) ela]; rfl⟩) (fun _ => true) (fun i y => ∃ t, y = Value.str (f i) t) hx (by simp [genEnv, hkind]) hco hCf (s := { s2 with gens := s2.gens.push (.fresh (.compStart (.GeneratorExp elt [⟨.Name x px, .Name wn pw, [], 0⟩] scope pos) 0 (.ref s'.heap.objs.size) .none (genEnv scope [] h3.objs.size code builtinsNs env))), toks := tk + 1 + 1 + 1, heap := h'.push og }) hq hisg (Array.getElem?_push_size ..) ⟨hlit, ⟨_, keep5 _ _ (kk _ _ (fun h => hPla h.symm) ela), rfl, n, rfl⟩⟩ (hn'.push _) hnl5
    refine q _ _ (fun ht => ⟨fun b o hb _ e => keep5 _ _ (kk _ _ (fun h => hb (h ▸ N.tab)) e), fun _ => T5, ⟨#[_], by rw [h2g, Array.push_eq_append], fun x hx => by rw [Array.mem_singleton.mp hx]; rfl⟩, h2o, ht⟩) ⟨h'.objs.size, rfl, ⟨s2.gens.size, h3.objs.size, s'.heap.objs.size, fp, _, W, G0, fun i s' st => st.1.typeIs, ?mv, ?ex, ?lo, ?na, ?cj, by rw [h2g], by simp⟩⟩
    case mv =>
      intro t hk hg
      refine cps fun Pz kz => ?_
      obtain ⟨⟨o, nm, qn, ho, r⟩, ⟨mc, hns, hnn⟩, gs, hgs, hgo⟩ := G0
      refine kz ?_; clear kz Pz
      exact ⟨⟨o, nm, qn, hk _ mH o ho, r⟩, ⟨mc, hns.at' fun o e => hk cStatics (mT (mT hcs)) o e, hnn⟩, gs, hg _ hgs, fun s'' hal => hgo s'' fun b hb o e => hal b hb o (hk b (mT hb) o e)⟩
    case ex =>
      intro b hb
      rcases mC hb with rfl | hb
      · exact ⟨⟨og, Heap.get?_push_size _ (by rw [← hog]; rfl)⟩, fun ht => by
          refine cA (K.tabIs _ T3 _ ht) fun o _ e _ => ?_
          have := Heap.lt_size e
          rw [hsz'] at this
          exact absurd this (Nat.not_lt.mpr (Nat.le_succ _))⟩
      · rcases mC hb with rfl | hb
        · refine bH (id hn') fun o es ep e r => ?_
          exact ⟨⟨o, Heap.get?_push_of_some _ e⟩, fun ht => by
            refine cA (K.tabIs _ T3 _ ht) fun o _ e _ => ?_
            exact absurd (Heap.lt_size e) (Nat.lt_irrefl _)⟩
        · refine yF ((mem_fp b).mp hb) fun h1 h2 h3' h4' => ?_
          obtain ⟨o, e⟩ := Option.isSome_iff_exists.mp h4'
          exact ⟨⟨o, keep5 _ _ e⟩, h3'⟩
    case lo =>
      intro hm
      rcases mC hm with h | hm
      · rw [h, hsz'] at hLs
        exact absurd (Nat.lt_trans hLs hge3) (Nat.not_lt.mpr (Nat.le_succ _))
      · rcases mC hm with h | hm
        · rw [h] at hLs
          exact absurd (Nat.lt_trans hLs hge3) (Nat.lt_irrefl _)
        · exact ((mem_fp _).mp hm).2.1 rfl
    case na => exact Heap.get?_none_of_le (by rw [hsz']; exact Nat.le_succ_of_le (Nat.le_of_lt hge3))
    case cj =>
      intro b hb
      rcases mC hb with rfl | hb
      · refine ⟨Heap.get?_none_of_le (Nat.le_of_lt hge3), ?_⟩
        refine bH (id hn') fun o es ep e r => ?_
        exact ⟨o, Heap.get?_push_of_some _ e, aS hn' e⟩
      · rw [mS hb]
        refine ⟨Heap.get?_none_of_le (Nat.le_refl _), _, keep5 _ _ (k3 _ _ (fun h => hPJ h.symm) hJ), ?_⟩
        rintro ⟨vs, q, t, hd, hv⟩
        cases hd
        cases hv
  rcases hP with hP | ⟨c', hP, hrec⟩
  · refine wpAny_genexprCodeX hcode (hcH.code hP trivial) (hcH.tab hP) rfl fun c' h' tk hx' hge hlt hcode' hrec' htab' _ => ?_
    refine fin _ h' tk (fun b o hb e => hx' b o hb e) (N.grow _ _ c' I2.tab hP hx' (by simpa using htab'.2) hrec') (by omega) (fun _ => trivial)
  · refine wpAny_genexprCode_hit (c' := .ref c') hcode (hcH.code hP (by simp [TriplesOk, rawInt])) (by simp [codeAmong, rawInt]) ?_
    exact fin _ s2.heap s2.toks (fun b o _ e => e) I2.tab (Nat.le_refl _) (fun _ => trivial)
end
end
section
theorem mE {g : Nat} {p l b : Array GenState} (hl : ∀ x ∈ l, x.bare = true) (hg : p.size ≤ g) (h : GenOnlyQ g (p ++ l) b) : ∃ l', b = p ++ l' ∧ ∀ x ∈ l', x.bare = true := by
  rcases h with rfl | ⟨⟨hs, hk⟩, hb⟩
  · exact ⟨l, rfl, hl⟩
  · refine ⟨b.extract p.size b.size, ?_, ?_⟩
    · apply Array.ext_getElem?
      intro i
      rw [Array.getElem?_append]
      split
      · rename_i hi
        have := hk i (by omega)
        rw [this, Array.getElem?_append_left hi]
      · rename_i hi
        rw [Array.getElem?_extract]
        have hsz : b.size = p.size + l.size := by rw [hs, Array.size_append]
        split
        · congr 1; omega
        · rw [Array.getElem?_eq_none]; omega
    · intro x hx
      obtain ⟨i, hi, rfl⟩ := Array.mem_iff_getElem.mp hx
      rw [Array.getElem_extract]
      have hi' : i < b.size - p.size := by simpa using hi
      have e : b[p.size + i]? = some b[p.size + i] := Array.getElem?_eq_getElem (by exact Nat.add_lt_of_lt_sub' hi')
      by_cases hgi : p.size + i = g
      · subst hgi
        exact hb _ e
      · have := hk _ hgi
        rw [e, Array.getElem?_append_right (by exact Nat.le_add_right p.size i)] at this
        exact hl _ (Array.mem_of_getElem? this.symm)
structure zIt (C : Cx) (s1 s8 s10 : Shared) : Prop where
  keep : ∀ b o, s1.heap.get? b ≠ none → s8.heap.get? b = some o → s10.heap.get? b = some o
  tab : C.TI s10.heap
  gens : ∀ p l, s8.gens = p ++ l → (∀ x ∈ l, x.bare = true) → p.size ≤ s1.gens.size → ∃ l', s10.gens = p ++ l' ∧ ∀ x ∈ l', x.bare = true
  os : s10.os = s8.os
  toks : s8.toks ≤ s10.toks
section
variable {C : Cx}
theorem xZ {A : Around} {L a : Addr} {s1 s5 s8 : Shared} {n : Nat} {f : Nat → Str} {sep : Str} {t : Tok} (K : dG C) (T1 : C.TI s1.heap) (T8 : C.TI s8.heap) (pk : pW C A L s1 a n f s5) (g58 : Gr C [L] s5 s8) (hL : s1.heap.get? L ≠ none)
    (hn : n ≤ sizeLine) (hok : JoinOk sep ((List.range n).map f) = true) {Q : Value → Shared → Prop} {E : Value → Shared → Prop} (q : ∀ t' s10, zIt C s1 s8 s10 → Q (.str (Txt.join sep ((List.range n).map f)) t') s10) :
    wpAny C.M A (call (.builtin "str.join") [.str sep t, .ref a]) Q E s8 := by
  refine zIi pk.has fun g Cf J fp St W hst hT hmv hex hLo hna hcj hg1 hg2 => ?_
  have hst8 : St 0 s8 := hmv s8 (fun b hb o e => g58.keep b o (hex b hb).2 (fun h => hLo (mS h ▸ hb)) e) fun x hx => by
    refine aI g58.gens fun l hl _ => ?_
    rw [hl, Array.getElem?_append_left (by walk_at "o")]
    exact hx
  have h58 : ∀ b o, b ∈ a :: Cf :: fp → s5.heap.get? b = some o → s8.heap.get? b = some o := fun b o hb e => g58.keep b o (hex b hb).2 (fun h => hLo (mS h ▸ hb)) e
  have key : wpAny C.M A (call (.builtin "str.join") [.str sep t, .ref a]) (fun v s' => s8.toks ≤ s'.toks → Q v s') E s8 := by
    refine SC.joinGen (W.in4_2) hT hst8 ?_ mH (fun i v hv => by obtain ⟨_, _, t, rfl⟩ := hv; exact ⟨_, t, rfl⟩) (fun s9 lt hm hacc => ?_) hn
    · intro b hb
      obtain ⟨o, ho⟩ := (hex b hb).1
      exact Heap.lt_size (h58 b o hb ho)
    have hl : lt.map (·.1) = (List.range n).map f := by
      apply List.ext_getElem?
      intro j
      have hsz : lt.length = n := by simpa [strValues] using hacc.1
      by_cases hj : j < n
      · have hj' : j < lt.length := hsz ▸ hj
        obtain ⟨i, hi, u, hv⟩ := hacc.2 j (.str lt[j].1 lt[j].2) (by simp [strValues, List.getElem?_eq_getElem hj'])
        have hij : i = j := by
          rw [List.getElem?_range hj] at hi
          exact (Option.some.inj hi).symm
        subst hij
        injection hv with h1 _
        simp [List.getElem?_eq_getElem hj', hj, h1]
      · rw [List.getElem?_eq_none (by simpa [hsz] using Nat.le_of_not_lt hj), List.getElem?_eq_none (by simpa using Nat.le_of_not_lt hj)]
    rw [hl]
    refine ⟨hok, fun t' k => fun hk => q t' _ ⟨fun b o hb e => hm.heap b o (fun hb' => hb (hcj b hb').1) e, ?_, fun p l hp hb hs => ?_, hm.os, hk⟩⟩
    · refine K.ti _ _ T8 fun b o e hbo => hm.heap b o (fun hb' => ?_) e
      obtain ⟨hn1, o5, ho5, hnc⟩ := hcj b hb'
      rcases hbo with hbt | hbc
      · refine cA (K.tabIs _ T1 b hbt) fun o' _ e' _ => ?_
        rw [hn1] at e'; cases e'
      · have hbt : b ∉ C.tabs := fun hbt => by
          refine cA (K.tabIs _ T1 b hbt) fun o' _ e' _ => ?_
          rw [hn1] at e'; cases e'
        have hbL : b ∉ [L] := fun h => by rw [mS h] at hn1; exact hL hn1
        have := g58.keep b o5 hbt hbL ho5
        rw [e] at this; cases this
        exact hnc hbc
    · have hgq := hm.gens
      rw [hp] at hgq
      exact mE hb (by exact le_of_le_of_eq hs (id (Eq.symm hg1))) hgq
  exact wpAny_mono (wpAny_toks key) (fun a s' z => z.2 z.1) (fun _ _ z => z.2)
end
end
section
section
variable {C : Cx} {d : Nat} {env : Env} {m : Vars}
theorem Bin.pow2 {n : Nat} (hn : 0 < n) (hb : Builtin.Int.intTooBig (((Builtin.Int.intBits 2 : Nat) : Int) * (n : Int)) = false) : Bin C d .Pow (.int 2) (.int (n : Nat)) (.int (2 ^ n)) := fun A s H x y _ _ ra rb Q E q => by
  cases ra
  cases rb
  refine PySem.AutoIntOps.pow_4 (by exact Int.natCast_nonneg n) (by simp; exact Nat.ne_zero_of_lt hn) (by decide) (by decide) (by rw [hb]; decide) (q _ _ Gr.toks' ?_)
  rw [Int.toNat_natCast]
  exact .int _ _
end
end
section
theorem eN {prog : Program} {w : World} {A : Around} {s : Shared} {R : Result → Shared → Prop} {kx vx target iter : Expr} {ifs : List Expr} {scope : Scope} {pos : Pos} {it : Value} {D : Addr} {env : Env} (I : Nat → Shared → Prop)
    (turn : ∀ n s, I n s → wpAny (model prog w) A (pyNext it) (fun r s₁ => match r with
      | none => R (.ok .next) s₁
      | some v => wpAny (model prog w) A (letOwnedTupleGo target it v) (fun _ s₁' => wpAny (model prog w) A (assign target env v) (fun _ s₂ =>
          wpAny (model prog w) A (forIn ifs true fun c r => if r = true then do let ok ← isTrue c env (eval c env); pure (ForInStep.yield ok) else pure (ForInStep.yield r)) (fun ok s₃ =>
            if ok = true then wpAny (model prog w) A (eval kx env) (fun kv s₄ => wpAny (model prog w) A (eval vx env) (fun vv s₅ =>
              wpAny (model prog w) A (dictSet D kv vv) (fun _ s₆ => ∃ m, m < n ∧ I m s₆) (notedBy (model prog w) A env fun e s' => R (.error e) s') s₅) (notedBy (model prog w) A env fun e s' => R (.error e) s') s₄) (notedBy (model prog w) A env fun e s' => R (.error e) s') s₃
            else ∃ m, m < n ∧ I m s₃) (notedBy (model prog w) A env fun e s' => R (.error e) s') s₂) (notedBy (model prog w) A env fun e s' => R (.error e) s') s₁') (notedBy (model prog w) A env fun e s' => R (.error e) s') s₁) (notedBy (model prog w) A env fun e s' => R (.error e) s') s)
    (n : Nat) (h : I n s) : codeAny (model prog w) A (.compLoop (.DictComp kx vx [⟨target, iter, ifs, 0⟩] scope pos) 0 it (.ref D) env) R s := by
  refine codeAny_loop rfl I (fun n s hI => ?_) n h
  show wpAny _ A ((compTurn (.DictComp kx vx [⟨target, iter, ifs, 0⟩] scope pos) 0 it (.ref D) env).onRaise (fun x => do noteFrame x env; theTreesLotGoes x)) _ _ s
  refine wpAny_noted ?_
  rw [compTurn_dict]
  refine wpAny_bind (wpAny_standAt (wpAny_bind (wpAny_mono (turn n s hI) (fun r s₁ h₁ => ?_) fun _ _ h' => h')))
  cases r with
  | none => exact wpAny_pure h₁
  | some v =>
    refine wpAny_bind (wpAny_mono h₁ (fun _ s₁' h₁' => ?_) fun _ _ h' => h')
    refine wpAny_bind (wpAny_mono h₁' (fun _ s₂ h₂ => wpAny_bind (wpAny_mono h₂ (fun ok s₃ h₃ => ?_) fun _ _ h' => h')) fun _ _ h' => h')
    cases ok with
    | false => exact wpAny_pure ⟨rfl, h₃⟩
    | true =>
      exact wpAny_bind (wpAny_bind (wpAny_mono h₃ (fun kv s₄ h₄ => wpAny_bind (wpAny_holding (wpAny_mono h₄ (fun vv s₅ h₅ => wpAny_bind (wpAny_standAt (wpAny_holding (wpAny_mono h₅ (fun _ s₆ h₆ => wpAny_pure ⟨rfl, h₆⟩) fun _ _ h' => h')))) fun _ _ h' => h'))) fun _ _ h' => h'))
end
section
inductive bI : List (Str × Value) → List (Str × Str) → Prop where
  | nil : bI [] []
  | cons {k x : Str} {t : Tok} {vs : List (Str × Value)} {ks : List (Str × Str)} : bI vs ks → bI ((k, .str x t) :: vs) ((k, x) :: ks)
theorem bI.length {vs : List (Str × Value)} {ks : List (Str × Str)} (h : bI vs ks) : vs.length = ks.length := by
  induction h with
  | nil => rfl
  | cons _ ih => simp [ih]
noncomputable def fP (kvs : List (Str × Str)) (p : Str × Str) : List (Str × Str) :=
  if kvs.any (fun kv => kv.1 = p.1) then kvs.map (fun kv => if kv.1 = p.1 then (kv.1, p.2) else kv) else kvs ++ [p]
noncomputable def bX (l : List (Str × Str)) : List (Str × Str) := l.foldl fP []
theorem bI.keys {vs : List (Str × Value)} {ks : List (Str × Str)} (h : bI vs ks) (k : Str) : vs.any (fun kv => kv.1 = k) = ks.any (fun kv => kv.1 = k) := by
  induction h with
  | nil => rfl
  | cons _ ih => simp only [List.any_cons, ih]
theorem bI.mapPut {vs : List (Str × Value)} {ks : List (Str × Str)} (h : bI vs ks) (k x : Str) (t : Tok) : bI (vs.map (fun kv => if kv.1 = k then (kv.1, Value.str x t) else kv)) (ks.map (fun kv => if kv.1 = k then (kv.1, x) else kv)) := by
  induction h with
  | nil => exact .nil
  | @cons j y u vs ks _ ih =>
    simp only [List.map_cons]
    by_cases e : j = k
    · simp only [e, if_true]; exact .cons ih
    · simp only [e, if_false]; exact .cons ih
theorem bI.snoc {vs : List (Str × Value)} {ks : List (Str × Str)} (h : bI vs ks) (k x : Str) (t : Tok) : bI (vs ++ [(k, .str x t)]) (ks ++ [(k, x)]) := by
  induction h with
  | nil => exact .cons .nil
  | cons _ ih => exact .cons ih
theorem bI.put {vs : List (Str × Value)} {ks : List (Str × Str)} (h : bI vs ks) (k x : Str) (t : Tok) : bI (stored vs k (.str x t)) (fP ks (k, x)) := by
  unfold stored fP
  rw [h.keys]
  split
  · exact h.mapPut k x t
  · exact h.snoc k x t
theorem qK (ks : List (Str × Str)) (p : Str × Str) : (fP ks p).length ≤ ks.length + 1 := by
  unfold fP; split <;> simp
theorem fJ (l : List (Str × Str)) : (bX l).length ≤ l.length := by
  have : ∀ (l : List (Str × Str)) acc, (l.foldl fP acc).length ≤ acc.length + l.length := by
    intro l
    induction l with
    | nil => intro acc; simp
    | cons p l ih => intro acc; have := ih (fP acc p); have := qK acc p; simp only [List.foldl_cons, List.length_cons]; omega
  simpa [bX] using this l []
theorem qJ (l : List (Str × Str)) (p : Str × Str) : bX (l ++ [p]) = fP (bX l) p := by simp [bX]
noncomputable def eL (C : Cx) (D : Addr) (h : Heap) (kvs : List (Str × Str)) : Prop := ∃ vals, h.DictOf (strKind C.prog C.w) D vals ∧ bI vals kvs
theorem eL.keep {C : Cx} {D : Addr} {h h' : Heap} {kvs : List (Str × Str)} (x : eL C D h kvs) (k : ∀ o, h.get? D = some o → h'.get? D = some o) : eL C D h' kvs :=
  let ⟨vals, a, b⟩ := x; ⟨vals, a.at k, b⟩
section
variable {C : Cx} {d : Nat} {env : Env} {m : Vars}
structure uG (C : Cx) (cenv : Env) (Hc : Hd) (s2 : Shared) (J D : Addr) (St : Nat → Heap → Prop) (base : Vars) (i : Nat) (out : List (Str × Str)) (s' : Shared) : Prop where
  gr : Gr C [J, D, cenv.locals] s2 s'
  inv : Inv C Hc s'
  fr : aF C cenv Hc s'.heap
  ba : eX C cenv Hc s'.heap base
  st : St i s'.heap
  acc : eL C D s'.heap (bX out)
theorem sJ {α : Type} {kx vx tgt iter : Expr} {ifs : List Expr} {scope : Scope} {pos : Pos} {cenv : Env} {Hc : Hd} {s2 : Shared} {J D : Addr} {fp : List Addr} {St : Nat → Heap → Prop} {base : Vars} {X0 : List Addr} {h0 : Heap} {A : Around} {RR : Result → Shared → Prop}
    (xs : List α) (φ : α → PV) (gg : α → Option (Str × Str)) (hA : AOk A d) (it : Itr C X0 h0 J (xs.map φ) fp St)
    (N : cL C cenv J) (ND : cL C cenv D) (hJD : J ≠ D) (hJX : J ∈ Hc.X) (hDX : D ∈ Hc.X) (hmid : ∀ b o, b ∉ Hc.hid → h0.get? b = some o → s2.heap.get? b = some o)
    (hD0 : h0.get? D = none) (hC0 : h0.get? cenv.locals = none) (hT0 : ∀ b ∈ C.tabs, b ∈ X0) (hnew : ∀ a ∈ Hc.hid, a ∈ J :: X0 ∨ h0.get? a = none)
    (L : uG C cenv Hc s2 J D St base 0 [] s2) (hsz : xs.length ≤ sizeLine)
    (body : ∀ x ∈ xs, ∃ mt, Tgt C cenv tgt (φ x) mt ∧ match gg x with
      | none => Ifs C d cenv (mt ++ base) ifs false
      | some p => Ifs C d cenv (mt ++ base) ifs true ∧ Ev C d cenv (mt ++ base) kx (.str p.1) ∧ Ev C d cenv (mt ++ base) vx (.str p.2))
    (hR : ∀ s', Gr C [J, D, cenv.locals] s2 s' → (∃ m, s'.heap.Ns cenv.locals m) → eL C D s'.heap (bX (xs.filterMap gg)) → RR (.ok .next) s') :
    codeAny C.M A (.compLoop (.DictComp kx vx [⟨tgt, iter, ifs, 0⟩] scope pos) 0 (.ref J) (.ref D) cenv) RR s2 := by
  have hlocX : cenv.locals ∈ Hc.X := L.fr.hid _ mH
  have hYX : ∀ y ∈ [J, D, cenv.locals], y ∈ Hc.X := fun y hy => by
    simp at hy
    rcases hy with rfl | rfl | rfl
    · exact hJX
    · exact hDX
    · exact hlocX
  have hYh : ∀ y ∈ [J, D, cenv.locals], y ∈ Hc.hid := fun y hy => mU (.inr (hYX y hy))
  refine eN (fun n s' => ∃ i, i + n = xs.length ∧ uG C cenv Hc s2 J D St base i ((xs.take i).filterMap gg) s') (fun n s' hI => ?_) xs.length ⟨0, by exact Nat.zero_add xs.length, by simpa using L⟩
  refine aI hI fun i hin Li => ?_; clear hI
  have hys := Li.acc
  by_cases hlt : i < xs.length
  · refine it.next Li.inv.ok hA.handled N.tab (by simpa using hlt) Li.st _ _ fun r s3 g3 z => ?_
    refine jN z fun v p ez1 hp rp hst => ?_; clear z; subst ez1
    have hpx : p = φ xs[i] := by
      rw [List.getElem?_map, List.getElem?_eq_getElem hlt] at hp
      exact (Option.some.inj hp).symm
    subst hpx
    refine bY (it.code _ _ hst) fun oJ heJ hcJ hnt => ?_
    have hJh : ∀ y ∈ [J], y ∈ Hc.X := fun y hy => by rw [mS hy]; exact hJX
    have I3 := Li.inv.wrote N hJX g3 (by rw [heJ]; rfl) (fun o e => by rw [heJ] at e; cases e; exact hcJ)
    have F3 := Li.fr.wrote N g3
    have B3 := Li.ba.wrote Li.inv Li.fr g3 hJh (fun x c hc h => N.cell x c hc (mS h))
    have gr3 : Gr C [J, D, cenv.locals] s2 s3 := Li.gr.trans (g3.wider fun y hy => by rw [mS hy]; simp)
    have hys3 : eL C D s3.heap (bX ((xs.take i).filterMap gg)) := hys.keep fun o e => g3.keep D o ND.tab (fun h => hJD (mS h).symm) e
    have rp3 : Rep Hc.hid s3.heap v (φ xs[i]) := (rp.rehide hnew).mono fun b o hb e => gr3.keep b o (fun ht => hb (I3.tabs b ht)) (fun hy => hb (hYh b hy)) (hmid b o hb e)
    show wpAny C.M A (letOwnedTupleGo tgt (.ref J) v) _ _ _
    refine kQ heJ hnt ?_
    refine aI (body xs[i] (List.getElem_mem hlt)) fun mt ht hbody => ?_
    refine ht A s3 Hc base v hA.handled I3 F3 B3.vars rp3 _ _ fun _ s4 g4 z4 => ?_
    refine bZ z4 fun I4 F4 V4 => ?_; clear z4
    have hLh : ∀ y ∈ [cenv.locals], y ∈ Hc.X := fun y hy => by rw [mS hy]; exact hlocX
    have B4 := B3.wrote I3 F3 g4 hLh (fun x c hc h => F3.cellLoc x c hc (mS h))
    have gr4 : Gr C [J, D, cenv.locals] s2 s4 := gr3.trans (g4.wider fun y hy => by rw [mS hy]; simp)
    have hys4 : eL C D s4.heap (bX ((xs.take i).filterMap gg)) := hys3.keep fun o e => g4.keep D o ND.tab (fun h => ND.loc (mS h).symm) e
    have st4 : St (i + 1) s4.heap := it.stays hT0 N.tab g4 (fun b hb => by rw [mS hb]; exact ⟨N.loc, .inr hC0⟩) hA.handled hst
    cases hg : gg xs[i] with
    | none =>
      rw [hg] at hbody
      refine hbody.run A s4 Hc hA I4 F4 V4 _ _ fun ok s5 g5 e => ?_
      subst e
      simp only [Bool.false_eq_true, if_false]
      refine ⟨n - 1, by walk_at "o", i + 1, by omega, gr4.trans g5.plain, I4.gr0 g5, F4.gr0 g5, B4.wrote I4 F4 g5 (fun y h => by cases h) (fun _ _ _ h => by cases h), it.stays hT0 N.tab g5 (fun b hb => by cases hb) hA.handled st4, ?_⟩
      rw [jP gg xs i hlt, hg]
      simpa using hys4.keep fun o e => g5.keep D o ND.tab (by simp) e
    | some p =>
      rw [hg] at hbody
      refine hbody.1.run A s4 Hc hA I4 F4 V4 _ _ fun ok s5 g5 e => ?_
      subst e
      simp only [if_true]
      refine hbody.2.1.run A s5 Hc hA (I4.gr0 g5) (F4.gr0 g5) (V4.gr0 I4 F4 g5) _ _ fun y s6 g6 ry => ?_
      have g46 := g5.trans g6
      refine hbody.2.2.run A s6 Hc hA (I4.gr0 g46) (F4.gr0 g46) (V4.gr0 I4 F4 g46) _ _ fun z s7 g7 rz => ?_
      have g47 := g46.trans g7
      obtain ⟨tk, rfl⟩ := ry.strI
      obtain ⟨tv, rfl⟩ := rz.strI
      refine aI (hys4.keep fun o e => g47.keep D o ND.tab (by simp) e) fun vals hd7 hp7 => ?_
      have I7 := I4.gr0 g47
      have hlen : vals.length ≤ sizeLine := by
        have h1 := hp7.length
        have h2 := fJ ((xs.take i).filterMap gg)
        have h3 : ((xs.take i).filterMap gg).length ≤ (xs.take i).length := List.length_filterMap_le _ _
        have h4 : (xs.take i).length ≤ xs.length := by rw [List.length_take]; exact Nat.min_le_right i xs.length
        omega
      refine wpAny_dictSet_pairs (knd := strKind C.prog C.w) (k := p.1) (by first | (show decide (p.1 = p.1) = true; simp) | (show (p.1 == p.1) = true; simp) | simp [strKind]) hd7 (fun h' hd' hs' => ?_) hlen
      refine aV (id hd7) fun o7 es7 ep7 e7 _ hdd7 _ => ?_
      refine aV (id hd') fun o8 es8 ep8 e8 _ hdd8 _ => ?_
      have g8 : Gr C [D] s7 { s7 with heap := h', toks := s7.toks + 1 } := Gr.but I7.ok (tk := s7.toks + 1) (fun x hx => by
        rw [mS hx]
        refine ⟨ND.tab, fun o e hc => ?_⟩
        rw [e7] at e; cases e
        refine bH hc fun _ _ _ h1 _ => ?_; clear hc
        rw [hdd7] at h1; cases h1) (fun b o hb e => (hs'.2 b (by simpa using hb)).trans e) (Nat.le_succ _)
      have hDh : ∀ y ∈ [D], y ∈ Hc.X := fun y hy => by rw [mS hy]; exact hDX
      have F7 := F4.gr0 g47
      have B7 := B4.wrote I4 F4 g47 (fun y h => by cases h) (fun _ _ _ h => by cases h)
      refine ⟨n - 1, by walk_at "o", i + 1, by omega, (gr4.trans g47.plain).trans (g8.wider fun y hy => by rw [mS hy]; simp), I7.wrote ND hDX g8 (by show (h'.get? D).isSome = true; rw [e8]; rfl) (fun o e => by
        have e : h'.get? D = some o := e
        rw [e8] at e; cases e
        rintro ⟨_, _, _, h1, _⟩
        rw [hdd8] at h1; cases h1), F7.wrote ND g8, B7.wrote I7 F7 g8 hDh (fun x c hc h => ND.cell x c hc (mS h)),
        it.stays hT0 N.tab g8 (fun b hb => by rw [mS hb]; exact ⟨hJD.symm, .inr hD0⟩) hA.handled (it.stays hT0 N.tab g47 (fun b hb => by cases hb) hA.handled st4), ?_⟩
      rw [jP gg xs i hlt, hg]
      show eL C D h' (bX (_ ++ [p]))
      rw [qJ]
      exact ⟨_, hd', hp7.put p.1 p.2 tv⟩
  · have hie : i = xs.length := by omega
    subst hie
    refine it.done Li.inv.ok hA.handled N.tab (by simpa using Li.st) _ _ fun r s3 g3 z => ?_
    subst z
    refine hR s3 (Li.gr.trans (g3.wider fun y hy => by rw [mS hy]; simp)) ?_ ?_
    · refine rI Li.fr.ns fun mm o es ep e r => ?_
      exact ⟨mm, o, es, ep, g3.keep _ _ Li.fr.loc (by simpa using N.loc) e, r⟩
    · have := hys.keep fun o e => g3.keep D o ND.tab (fun h => hJD (mS h).symm) e
      simpa using this
end
end
section
noncomputable def sdictPV (C : Cx) (kvs : List (Str × Str)) : PV := .sem fun h v => ∃ D, v = .ref D ∧ C.hB.get? D = none ∧ eL C D h kvs
section
variable {C : Cx} {d : Nat} {env : Env} {m : Vars}
theorem sK {α : Type} {kx vx tgt iter : Expr} {ifs : List Expr} {scope : Scope} {cl : List (Str × Addr)} {pos : Pos} (xs : List α) (φ : α → PV) (gg : α → Option (Str × Str)) (base : Vars) {A : Around} {s : Shared} {H : Hd} (hA : AOk A d) (I : Inv C H s) (F : aF C env H s.heap)
    (V : aA C env H s.heap m) (hi : EvIt C d env m iter (xs.map φ)) (hcl : gB env cl) (hnd : (cl.map (·.1)).Nodup) (hcell : ∀ y ∈ scope.names, y.2 ≠ .cell) (hkind : scope.kind = .function) (hsz : xs.length ≤ sizeLine)
    (hb : ∀ Cc, CSub C env (compEnvC scope cl Cc env) m base)
    (body : ∀ Cc, ∀ x ∈ xs, ∃ mt, Tgt C (compEnvC scope cl Cc env) tgt (φ x) mt ∧ match gg x with
      | none => Ifs C d (compEnvC scope cl Cc env) (mt ++ base) ifs false
      | some p => Ifs C d (compEnvC scope cl Cc env) (mt ++ base) ifs true ∧ Ev C d (compEnvC scope cl Cc env) (mt ++ base) kx (.str p.1) ∧ Ev C d (compEnvC scope cl Cc env) (mt ++ base) vx (.str p.2))
    {RR : Value → Addr → Result → Shared → Prop} {E : Value → Shared → Prop}
    (hRR : ∀ D Cc s', Gr C [] s s' → s.heap.get? Cc = none → (∃ m, s'.heap.Ns Cc m) → Rep (Cc :: H.hid) s'.heap (.ref D) (sdictPV C (bX (xs.filterMap gg))) → s.heap.get? D = none → RR (.ref D) Cc (.ok .next) s') :
    wpAny C.M A (eval iter env) (fun xv s₁ => wpAny C.M A (pyIter xv) (fun it s₂ => wpAny C.M A (newDict) (fun acc s₃ => wpAny C.M A (newFunctionEnv scope env.globals cl [] env.qual none .none (some env)) (fun cenv s₄ =>
      codeAny C.M A (.compStart (.DictComp kx vx [⟨tgt, iter, ifs, 0⟩] scope pos) 0 it acc { cenv with scope := relabel scope env }) (RR acc cenv.locals) s₄) E s₃) E s₂) E s₁) E s := by
  refine hi.run A s H hA I F V _ E fun J fp St s0 g it hst0 hJ => ?_
  refine wpAny_newObj_type (wpAny_newFunctionEnv hcell (by intro y hy; simp at hy) (fun h₁ hns₁ hsb₁ => ?_) hkind)
  dsimp only at hns₁ hsb₁ ⊢
  generalize hH2 : s0.heap.push { cls := .type "dict", dict := none, data := .dict #[] } = H2 at hns₁ hsb₁ ⊢
  have hC : H2.objs.size = s0.heap.objs.size + 1 := by rw [← hH2, Heap.size_push]
  generalize hD : s0.heap.objs.size = D at hC ⊢
  generalize hCc : H2.objs.size = Cc at hns₁ hsb₁ hC ⊢
  have hDC : D ≠ Cc := by rw [hC]; exact Nat.ne_of_lt (Nat.lt_succ_self _)
  have none0 : ∀ a : Addr, D ≤ a → s0.heap.get? a = none := fun a ha => by
    cases e : s0.heap.get? a with
    | none => rfl
    | some o' => exact absurd (Heap.lt_size e) (by rw [hD]; exact Nat.not_lt.mpr ha)
  have hD0 : s0.heap.get? D = none := none0 D (Nat.le_refl _)
  have hC0 : s0.heap.get? Cc = none := none0 Cc (by rw [hC]; exact Nat.le_succ _)
  have old : ∀ b o, s0.heap.get? b = some o → h₁.get? b = some o := fun b o e => hsb₁.extBut b o (fun h => by rw [h, hC0] at e; cases e) (Heap.get?_push_of_some _ (hH2 ▸ Heap.get?_push_of_some _ e))
  have hacc : eL C D h₁ (bX []) := ⟨[], (by rw [← hH2, ← hD] at *; exact Heap.DictOf.at (Heap.DictOf.new s0.heap) fun o e => hsb₁.extBut _ _ hDC (Heap.get?_push_of_some _ e)), .nil⟩
  have I0 := I.gr0 g
  have g04 : Gr C [] s0 { s0 with heap := h₁, toks := s0.toks + ([] : List (Str × Value)).length } := Gr.of I.ok old
  have g4 := g.trans g04
  have hJ0 : (s0.heap.get? J).isSome = true := it.there J it.self
  have hJD : J ≠ D := fun h => by rw [h, hD0] at hJ0; cases hJ0
  have hJC : J ≠ Cc := fun h => by rw [h, hC0] at hJ0; cases hJ0
  have hsD := bQ I g hD0
  have hsC := bQ I g hC0
  have NJ : cL C env J := .of I F hJ
  have ND : cL C env D := .of I F hsD
  have NC : cL C env Cc := .of I F hsC
  have hlook := hcl.look
  generalize hs4 : ({ s0 with heap := h₁, toks := s0.toks + ([] : List (Str × Value)).length } : Shared) = s4 at g04 g4 ⊢
  have hh4 : s4.heap = h₁ := by rw [← hs4]
  rw [← hh4] at hns₁ hacc old
  have I4 := I.gr0 g4
  have F4 := F.gr0 g4
  have hHX : ∀ a ∈ H.hid, a ≠ J ∧ a ≠ D ∧ a ≠ Cc := fun a ha => by
    have := I.hid.there a ha
    refine ⟨fun h => ?_, fun h => ?_, fun h => ?_⟩
    · rw [h, hJ] at this; cases this
    · rw [h, hsD] at this; cases this
    · rw [h, hsC] at this; cases this
  have hidc : ∀ a, a ∈ (⟨H.μ, J :: D :: Cc :: H.X⟩ : Hd).hid ↔ a = J ∨ a = D ∨ a = Cc ∨ a ∈ H.hid := fun a => by
    rw [aO, aO]
    simp only [List.mem_cons]
    constructor
    · rintro (h | h | h | h | h)
      · exact .inr (.inr (.inr (.inl h)))
      · exact .inl h
      · exact .inr (.inl h)
      · exact .inr (.inr (.inl h))
      · exact .inr (.inr (.inr (.inr h)))
    · rintro (h | h | h | h | h)
      · exact .inr (.inl h)
      · exact .inr (.inr (.inl h))
      · exact .inr (.inr (.inr (.inl h)))
      · exact .inl h
      · exact .inr (.inr (.inr (.inr h)))
  obtain ⟨oJ, hoJ⟩ := Option.isSome_iff_exists.mp hJ0
  have hJ4 : s4.heap.get? J = some oJ := old J oJ hoJ
  have hD4 : ∃ o, s4.heap.get? D = some o ∧ ¬ aB o := by
    refine cps fun Pz kz => ?_
    obtain ⟨vals, ⟨o, es, ep, e, _, hd, _⟩, _⟩ := id hacc
    refine kz ?_; clear kz Pz
    exact ⟨o, e, fun hc => by obtain ⟨_, _, _, h1, _⟩ := hc; rw [hd] at h1; cases h1⟩
  have hC4 : ∃ o, s4.heap.get? Cc = some o := let ⟨o, _, _, e, _⟩ := hns₁; ⟨_, e⟩
  have Ic : Inv C ⟨H.μ, J :: D :: Cc :: H.X⟩ s4 := ⟨I4.ok, I4.keep, I4.tab, ⟨fun a ha => by
      rcases (hidc a).mp ha with h | h | h | h
      · rw [h, hJ4]; rfl
      · obtain ⟨o, e, _⟩ := hD4; rw [h, e]; rfl
      · obtain ⟨o, e⟩ := hC4; rw [h, e]; rfl
      · exact I4.hid.there a h, fun a ha => mT (mT (mT (I.hid.tabs a ha))), fun a h => ⟨(I.hid.μB a h).1, fun hx => by
        have hne := hHX a (mU (.inl h))
        simp only [List.mem_cons] at hx
        rcases hx with h' | h' | h' | h'
        · exact hne.1 h'
        · exact hne.2.1 h'
        · exact hne.2.2 h'
        · exact (I.hid.μB a h).2 h'⟩, fun a ha o e => by
      rcases (hidc a).mp ha with h | h | h | h
      · refine bY (it.code _ _ hst0) fun o' e' hc _ => ?_
        rw [h] at e
        rw [old J o' e'] at e; cases e
        exact hc
      · refine aI hD4 fun o' e' hnc => ?_; clear hD4
        rw [h, e'] at e; cases e
        exact hnc
      · exact aS hns₁ (h ▸ e)
      · exact I4.hid.nc a h o e⟩, I4.tk⟩
  have Fc : aF C (compEnvC scope cl Cc env) ⟨H.μ, J :: D :: Cc :: H.X⟩ s4.heap := by
    refine ⟨⟨hkind, F.eok.globals, F.eok.builtins⟩, fun c hc => ⟨c.1, bK cl hnd c hc⟩, NC.tab, NC.base, ⟨_, hns₁⟩, fun x c hc => F4.cell x c (hlook x c hc), fun x y c hx hy => F.inj x y c (hlook x c hx) (hlook y c hy), fun x hx => ?_⟩
    rcases mC hx with h | h
    · rw [h]
      exact mT (mT mH)
    · obtain ⟨c, h1, rfl⟩ := mM h
      obtain ⟨h2, h3⟩ := List.mem_filter.mp h1
      have hk : env.kindOf c.1 = some .cell := dT hcell (eq_of_beq h3)
      exact mT (mT (mT (F.hid _ (kL hk (hcl.mem c h2)))))
  have Vc : aA C env ⟨H.μ, J :: D :: Cc :: H.X⟩ s4.heap m := V.move I F g4 rfl (fun a ha => by
    rcases (hidc a).mp ha with h | h | h | h
    · exact .inr (h ▸ hJ)
    · exact .inr (h ▸ hsD)
    · exact .inr (h ▸ hsC)
    · exact .inl h) fun a ha => (hidc a).mpr (.inr (.inr (.inr ha)))
  have Bc := (hb Cc).base hlook Vc
  have NJc : cL C (compEnvC scope cl Cc env) J := ⟨NJ.tab, NJ.base, hJC.symm, fun x c hc => NJ.cell x c (hlook x c hc), fun h => by
    rcases mC h with h | h
    · exact hJC h
    · obtain ⟨c, h1, h2⟩ := mM h
      exact NJ.cell c.1 c.2 (hcl.mem c (List.mem_filter.mp h1).1) h2⟩
  have NDc : cL C (compEnvC scope cl Cc env) D := ⟨ND.tab, ND.base, hDC.symm, fun x c hc => ND.cell x c (hlook x c hc), fun h => by
    rcases mC h with h | h
    · exact hDC h
    · obtain ⟨c, h1, h2⟩ := mM h
      exact ND.cell c.1 c.2 (hcl.mem c (List.mem_filter.mp h1).1) h2⟩
  have st4 : St 0 s4.heap := it.stays I.tabs NJ.tab g04 (fun b hb => by cases hb) hA.handled hst0
  have loop : codeAny C.M A (.compLoop (.DictComp kx vx [⟨tgt, iter, ifs, 0⟩] scope pos) 0 (.ref J) (.ref D) (compEnvC scope cl Cc env)) (RR (.ref D) Cc) s4 := by
    refine sJ (cenv := compEnvC scope cl Cc env) (Hc := ⟨H.μ, J :: D :: Cc :: H.X⟩) xs φ gg hA it NJc NDc hJD mH (mT mH) (fun b o _ e => old b o e) hD0 hC0 I.tabs (fun a ha => ?_)
      ⟨Gr.refl .., Ic, Fc, Bc, st4, hacc⟩ hsz (body Cc) fun s' g' hn' hl' => ?_
    · rcases (hidc a).mp ha with h | h | h | h
      · exact .inl (h ▸ mH)
      · exact .inr (h ▸ hD0)
      · exact .inr (h ▸ hC0)
      · exact .inl (mT h)
    · refine hRR D Cc s' (g4.then g' fun y hy => .inr ?_) hsC hn' (.sem fun h' k => ⟨D, rfl, ND.base, hl'.keep fun o e => k D o (fun hx => ?_) e⟩) hsD
      · simp only [List.mem_cons, List.not_mem_nil, or_false] at hy
        rcases hy with rfl | rfl | rfl
        · exact hJ
        · exact hsD
        · exact hsC
      · rcases mC hx with h | h
        · exact hDC h
        · exact (hHX D h).2.1 rfl
  exact codeAny_compStart_dict loop ((it.walks A hA.handled).self 0 _ _ _ st4 loop)
end
end
section
section
variable {C : Cx} {d : Nat} {env : Env} {m : Vars}
theorem mF {α : Type} {kx vx tgt iter : Expr} {ifs : List Expr} {scope : Scope} {cl : List (Str × Addr)} {pos spos py : Pos} {y : Str} (xs : List α) (φ : α → PV) (gg : α → Option (Str × Str)) (base : Vars)
    (hsw : swapsWith (.DictComp kx vx [⟨tgt, iter, ifs, 0⟩] scope pos) (some (.Name y py)) spos.line env = pure true) (hclos : closureFor scope env = pure cl)
    (hi : EvIt C d env m iter (xs.map φ)) (hcl : gB env cl) (hnd : (cl.map (·.1)).Nodup) (hcell : ∀ y ∈ scope.names, y.2 ≠ .cell) (hkind : scope.kind = .function) (hnames : ∀ x ∈ scope.names, x.2 = .local → scope.names.lookup x.1 = some .local) (hsz : xs.length ≤ sizeLine)
    (hb : ∀ Cc, CSub C env (compEnvC scope cl Cc env) m base)
    (body : ∀ Cc, ∀ x ∈ xs, ∃ mt, Tgt C (compEnvC scope cl Cc env) tgt (φ x) mt ∧ match gg x with
      | none => Ifs C d (compEnvC scope cl Cc env) (mt ++ base) ifs false
      | some p => Ifs C d (compEnvC scope cl Cc env) (mt ++ base) ifs true ∧ Ev C d (compEnvC scope cl Cc env) (mt ++ base) kx (.str p.1) ∧ Ev C d (compEnvC scope cl Cc env) (mt ++ base) vx (.str p.2))
    (hy : cN env y) (hs : ∀ x, foldedSetIterable iter env x = pure x := by intro _; rfl) : Es C d env m (.Assign [.Name y py] (.DictComp kx vx [⟨tgt, iter, ifs, 0⟩] scope pos) spos) (.next ((y, sdictPV C (bX (xs.filterMap gg))) :: m)) := by
  refine .mk ?_
  intro A s H hA I F V Q E q
  rw [exec_Assign_Name_used _ _ _ _ hsw]
  refine wpAny_bind (wpAny_standAt (wpAny_bind ?_))
  show wpAny _ A (do let _ ← comprehension (.DictComp kx vx [⟨tgt, iter, ifs, 0⟩] scope pos) scope env _ (newDict) false (eval iter env) (some (assign (.Name y py) env))) _ _ s
  refine wpAny_bind (wpAny_mono (wpAny_comprehension_free (use := some (assign (.Name y py) env)) (Q := fun _ s' => Q .next s') rfl hs hclos hkind hnames
    (sK xs φ gg base hA I F V hi hcl hnd hcell hkind hsz hb body (RR := fun acc C' => compPost C.M A E (some (assign (.Name y py) env)) (fun _ s' => Q .next s') acc C') fun D Cc s' g hC hn hr hD => ?_)) (fun _ s' hq => wpAny_pure (wpAny_pure hq)) fun _ _ e => e)
  obtain ⟨mm, hn⟩ := hn
  show wpAny _ A (assign (.Name y py) env (.ref D)) _ _ _
  have N : cL C env Cc := .of I F hC
  have hCh : Cc ∉ H.hid := fun h => by
    have := I.hid.there Cc h
    rw [hC] at this; cases this
  have I1 : Inv C ⟨H.μ, Cc :: H.X⟩ s' := I.hide g hC (by obtain ⟨o, _, _, e, _⟩ := hn; rw [e]; rfl) (fun o e => aS hn e)
  have F1 : aF C env ⟨H.μ, Cc :: H.X⟩ s'.heap := (F.gr0 g).hide fun x hx => mT hx
  have hin : ∀ a, a ∈ (⟨H.μ, Cc :: H.X⟩ : Hd).hid ↔ a = Cc ∨ a ∈ H.hid := fun a => by
    rw [aO, aO]
    simp only [List.mem_cons]
    constructor
    · rintro (h | h | h)
      · exact .inr (.inl h)
      · exact .inl h
      · exact .inr (.inr h)
    · rintro (h | h | h)
      · exact .inr (.inl h)
      · exact .inl h
      · exact .inr (.inr h)
  have V1 : aA C env ⟨H.μ, Cc :: H.X⟩ s'.heap m := V.move I F g rfl (fun a ha => ((hin a).mp ha).elim (fun h => .inr (h ▸ hC)) .inl) fun a ha => (hin a).mpr (.inr ha)
  have r1 : Rep (⟨H.μ, Cc :: H.X⟩ : Hd).hid s'.heap (.ref D) (sdictPV C (bX (xs.filterMap gg))) := hr.rehide fun a ha => .inl (((hin a).mp ha).elim (fun h => h ▸ mH) fun h => mT h)
  refine wpAny_assign_Name (bP I1 F1 V1 hy (.imm r1) _ _ fun _ s2 g2 z => ?_)
  have I2 := I1.gr g2 F1.ownB z.1
  have hn2 : s2.heap.Ns Cc mm := by
    refine bH hn fun o es ep e r => ?_; clear hn
    exact ⟨o, es, ep, g2.keep _ _ N.tab N.own e, r⟩
  refine ⟨mm, hn2, fun h' hs' => ?_⟩
  have g3 : Gr C [Cc] s2 { s2 with heap := h' } := Gr.but I.ok (tk := s2.toks) (fun x hx => by
    rw [mS hx]
    refine ⟨N.tab, fun o e hcd => ?_⟩
    refine eM hn2 fun o' es ep e' d _ => ?_; clear hn2
    rw [e] at e'; cases e'
    refine bH hcd fun _ _ _ h1 _ => ?_; clear hcd
    rw [d] at h1; cases h1) fun b o hb e => (hs'.2 b (by simpa using hb)).trans e
  have F3 := z.2.1.wrote N g3
  refine q _ _ ?_ ⟨H, .same (bO.drop I2 hCh I.hid.tabs g3), rfl, ⟨F3.eok, F3.found, F3.loc, F3.locB, F3.ns, F3.cell, F3.inj, F.hid⟩, aA.rehide (H := ⟨H.μ, Cc :: H.X⟩) rfl (fun a ha => .inl ((hin a).mpr (.inr ha))) (z.2.2.wrote N I2 z.2.1 mH g3)⟩
  exact (g.plain.trans (g2.wider cI)).then g3 fun y hy => .inr (by rw [mS hy]; exact hC)
end
end
section
theorem bI.vals {vs : List (Str × Value)} {ks : List (Str × Str)} (h : bI vs ks) : ∀ (j : Nat) (k : Str) (v : Value), vs[j]? = some (k, v) → ∃ x t, v = .str x t ∧ (ks.map (·.2))[j]? = some x := by
  induction h with
  | nil => intro j k v e; simp at e
  | @cons a x t vs ks _ ih =>
    intro j k v e
    cases j with
    | zero => simp at e; exact ⟨x, t, e.2.symm, by simp⟩
    | succ j => simpa using ih j k v (by simpa using e)
theorem nA {X : List Addr} {h : Heap} : ∀ {vs : List Value} {xs : List Str}, vs.length = xs.length → (∀ (j : Nat) (v : Value), vs[j]? = some v → ∃ x t, v = .str x t ∧ xs[j]? = some x) → aD X h vs (pstrs xs)
  | [], [], _, _ => .nil
  | [], _ :: _, hl, _ => by cases hl
  | _ :: _, [], hl, _ => by cases hl
  | v :: vs, x :: xs, hl, hv => by
    refine cA (hv 0 v rfl) fun y t ez1 e => ?_; subst ez1
    simp at e
    subst e
    exact .cons (.str _ _) (nA (by simpa using hl) fun j u hu => by simpa using hv (j + 1) u (by simpa using hu))
noncomputable def rS (C : Cx) (kvs : List (Str × Str)) : PV := .sem fun h v => ∃ r D, v = .ref r ∧ h.IsValuesView r D ∧ eL C D h kvs
section
variable {C : Cx} {d : Nat} {env : Env} {m : Vars}
theorem Calls.dictValues {kvs : List (Str × Str)} (hs : C.hB.get? sysModules ≠ none) : Calls C d (.builtin "dict.values") [sdictPV C kvs] (rS C kvs) := fun A s H vs hA I R Q E q => by
  cases R with
  | cons r R =>
    cases R
    have r0 := r
    have P := Rep.semI r
    ·
      refine bY (P s.heap fun _ _ _ e => e) fun D ez1 hD _ => ?_; subst ez1
      have P' : ∀ h', (∀ b o, b ∉ H.hid → s.heap.get? b = some o → h'.get? b = some o) → eL C D h' kvs := fun h' k => by
        refine bY (P h' k) fun D' e _ x => ?_
        cases e
        exact x
      have hne : (D == sysModules) = false := by
        rw [beq_eq_false_iff_ne]
        rintro rfl
        exact hs hD
      refine aI (P' s.heap fun _ _ _ e => e) fun vals hd _ => ?_
      have fin : Q (.ref s.heap.objs.size) { s with heap := s.heap.push { cls := .type "dict_values", data := .fields #[.ref D] } } :=
        q _ _ (Gr.push I.ok (tk := s.toks) (Nat.le_refl _)) (.sem fun h' k => ⟨_, D, rfl, ⟨_, k _ _ (I.fresh (Nat.le_refl _)) (Heap.get?_push_size _ rfl), rfl, rfl⟩, P' h' fun b o hb e => k b o hb (Heap.get?_push_of_some _ e)⟩)
      exact call_meetsIn PySem.F.slot_dict_values hd.typeIs PySem.F.entry_dict_values (PySem.F.args_dict_values_1 _) (meets_dict_values (strKind C.prog C.w) D hne) ⟨⟨vals, hd⟩, fin⟩
theorem Calls.listView {kvs : List (Str × Str)} (hn : kvs.length ≤ sizeLine) : Calls C d (.type "list") [rS C kvs] (.lst (pstrs (kvs.map (·.2)))) := fun A s H vs hA I R Q E q => by
  cases R with
  | cons r R =>
    cases R
    have P := Rep.semI r
    ·
      refine cps fun Pz kz => ?_
      obtain ⟨rr, D, rfl, hv, vals, hd, hp⟩ := P s.heap fun _ _ _ e => e
      refine kz ?_; clear kz Pz
      obtain ⟨ep, hat⟩ := hd.dictAt
      have key := kdl_call (prog := C.prog) (w := C.w) (A := A) (E := E) (s := s) (Q := fun v s' => s.toks ≤ s'.toks → Q v s') (kdl_values (knd := strKind C.prog C.w) (r := rr) (d := D) (kvs := vals) (ep := ep)) hA.handled ⟨hv, hat⟩ (by rw [hp.length]; exact hn) (fun h' tk acc c' hk hS hacc htk => ?_)
      · exact wpAny_mono (wpAny_toks key) (fun a s' z => z.2 z.1) (fun _ _ z => z.2)
      · refine q _ _ (Gr.of I.ok hk htk) (.lst (n := c') (I.fresh (Nat.le_refl _)) hS ?_)
        refine nA (by rw [Array.length_toList, hacc.1, List.length_map, hp.length]) fun j v hv => ?_
        obtain ⟨k, hk⟩ := hacc.2 j v (by rw [← Array.getElem?_toList]; exact hv)
        exact hp.vals j k v hk
theorem Ev.values {o : Expr} {apos pos : Pos} {kvs : List (Str × Str)} (hs : C.hB.get? sysModules ≠ Option.none) (ho : Ev C d env m o (sdictPV C kvs))
    (hbase : attributeBase o "values" env (eval o env) = eval o env) (hline : (apos.endLine == pos.line) = true) : Ev C d env m (.Call (.Attribute o "values" apos) [] [] pos) (rS C kvs) :=
  .mk fun A s H hA I F V Q E q => wpAny_Call_method hbase rfl hline PySem.F.plainAttrs_dict PySem.F.slot_dict_values PySem.F.type_dict_values (ho.run A s H hA I F V _ E fun v s' g rv => by
    have r0 := rv
    have P := Rep.semI rv
    ·
      refine cps fun Pz kz => ?_
      obtain ⟨D, rfl, hD, vals, hd, _⟩ := P s'.heap fun _ _ _ e => e
      refine kz ?_; clear kz Pz
      refine ⟨hd.typeIs, fun a e => ?_, ?_⟩
      · cases e
        refine eM hd fun o es ep e hx _ => ?_; clear hd
        exact ⟨o, e, hx.2.1⟩
      · refine callWith_builtin rfl (evalArgs_nil3 ?_)
        exact Calls.dictValues hs A s' H [.ref D] hA (I.gr0 g) (.cons r0 .nil) _ E fun v s3 g3 r3 => q v s3 (g.trans g3) r3)
end
end
section
noncomputable def oldStr (C : Cx) (x : Str) : PV := .sem fun _ v => ∃ t, v = .str x t ∧ t ≠ 0 ∧ t < C.tk0
section
variable {C : Cx} {d : Nat} {env : Env} {m : Vars}
structure eW (C : Cx) (d : Nat) (env : Env) (m : Vars) (e : Expr) (x : Str) : Prop where
  run : ∀ A s H, AOk A d → Inv C H s → aF C env H s.heap → aA C env H s.heap m → YG C A [] s (eval e env) (fun v s' => ∃ t, v = .str x t ∧ t ≠ 0 ∧ t < s'.toks)
theorem eW.lit {x : Str} {k : Nat} {pos : Pos} : eW C d env m (.Constant (.str x) k pos) x := .mk fun A s H hA I F V Q E q =>
  wpAny_Constant_str (q _ _ (Gr.toks' (Nat.le_succ _)) ⟨_, rfl, Nat.ne_of_gt (Nat.lt_of_lt_of_le I.ok.tk I.tk), Nat.lt_succ_self _⟩)
theorem eW.old {e : Expr} {x : Str} (h : Ev C d env m e (oldStr C x)) : eW C d env m e x := .mk fun A s H hA I F V Q E q => h.run A s H hA I F V _ E fun v s' g r => by
  have P := Rep.semI r
  ·
    refine bY (P s'.heap fun _ _ _ e => e) fun t ez1 h1 h2 => ?_; subst ez1
    exact q _ s' g ⟨t, rfl, h1, Nat.lt_of_lt_of_le h2 (I.gr0 g).tk⟩
theorem Ev.ofOld {e : Expr} {x : Str} (h : Ev C d env m e (oldStr C x)) : Ev C d env m e (.str x) := .mk fun A s H hA I F V Q E q => h.run A s H hA I F V _ E fun v s' g r => by
  have P := Rep.semI r
  ·
    refine bY (P s'.heap fun _ _ _ e => e) fun t ez1 h1 h2 => ?_; subst ez1
    exact q _ s' g (.str _ _)
theorem Ev.replace {o e1 : Expr} {apos pos p2 : Pos} {k2 : Nat} {x y z : Str} (ho : Ev C d env m o (.str x)) (h1 : eW C d env m e1 y) (hyz : (y == z) = false) (hb : x.length + (x.length + 1) * z.length ≤ 16777216)
    (hs1 : ∀ rest, starEach (e1 :: rest) env = (false, eval e1 env) :: starEach rest env) (hs2 : ∀ rest, starEach (Expr.Constant (.str z) k2 p2 :: rest) env = (false, eval (Expr.Constant (.str z) k2 p2) env) :: starEach rest env)
    (hbase : attributeBase o "replace" env (eval o env) = eval o env) (hline : (apos.endLine == pos.line) = true)
    (hfew : ((backTo pos (starEach [e1, Expr.Constant (.str z) k2 p2] env)).all (fun x => !x.1) && (backToKw pos (keywordEach [] env)).all (fun x => x.1.isSome)
      && decide ([e1, Expr.Constant (.str z) k2 p2].length + ([] : List Keyword).length + (if ([] : List Keyword).isEmpty then 0 else 1) < 30)) = true) :
    Ev C d env m (.Call (.Attribute o "replace" apos) [e1, .Constant (.str z) k2 p2] [] pos) (.str (Txt.replace x y z)) :=
  .mk fun A s H hA I F V Q E q => wpAny_Call_method hbase hfew hline PySem.F.plainAttrs_str PySem.F.slot_str_replace PySem.F.type_str_replace (ho.run A s H hA I F V _ E fun v s' g rv => by
    obtain ⟨tx, rfl⟩ := rv.strI
    refine ⟨typeIs_str _ _ _, (fun a h => by cases h), ?_⟩
    have I1 := I.gr0 g
    rw [hs1, hs2]
    refine callWith_builtin (by rfl) (evalArgs_plain ?_)
    show wpAny _ A (PySem.spliced ((false, eval e1 env) :: (false, eval (Expr.Constant (.str z) k2 p2) env) :: backTo pos (starEach [] env))) _ E s'
    refine spliced_cons (h1.run A s' H hA I1 (F.gr0 g) (V.gr0 I F g) _ E fun v1 s1 g1 r1 => ?_)
    refine bY r1 fun t1 ez1 hn1 hl1 => ?_; clear r1; subst ez1
    refine spliced_cons (wpAny_Constant_str ?_)
    refine wpAny_items_nil ?_
    have I2 := I1.gr0 g1
    have key : wpAny C.M A (call (.builtin "str.replace") [.str x tx, .str y t1, .str z s1.toks]) (fun v s' => s1.toks + 1 ≤ s'.toks → Q v s') E { s1 with toks := s1.toks + 1 } :=
      SC.replace hn1 (Nat.ne_of_gt (Nat.lt_of_lt_of_le I2.ok.tk I2.tk)) (Nat.ne_of_lt hl1) hyz hb fun t' k hk => q _ _ ((g.trans g1).trans (Gr.toks' (Nat.le_trans (Nat.le_succ _) hk))) (.str _ _)
    exact wpAny_mono (wpAny_toks key) (fun a s' z => z.2 z.1) (fun _ _ z => z.2))
end
end
section
noncomputable abbrev Cx.later (C : Cx) (n : Nat) : Cx := { C with tk0 := n }
section
variable {C : Cx} {d : Nat} {env : Env} {m : Vars} {n : Nat}
theorem dG.later (K : dG C) (hn : 0 < n) : dG (C.later n) := ⟨K.g, K.b, K.nolimit, K.gT, K.bT, K.sT, K.ti, hn, K.tabIs⟩
theorem bO.later {H : Hd} {h : Heap} (O : bO C H h) : bO (C.later n) H h := ⟨O.there, O.tabs, O.μB, O.nc⟩
theorem bO.sooner {H : Hd} {h : Heap} (O : bO (C.later n) H h) : bO C H h := ⟨O.there, O.tabs, O.μB, O.nc⟩
theorem Inv.later {H : Hd} {s : Shared} (I : Inv C H s) (h0 : 0 < n) (hn : n ≤ s.toks) : Inv (C.later n) H s := ⟨I.ok.later h0, I.keep, I.tab, I.hid.later, hn⟩
theorem aF.later {H : Hd} {h : Heap} (F : aF C env H h) : aF (C.later n) env H h := ⟨F.eok, F.found, F.loc, F.locB, F.ns, F.cell, F.inj, F.hid⟩
theorem Gr.sooner {X : List Addr} {s s' : Shared} (g : Gr (C.later n) X s s') : Gr C X s s' := ⟨g.keep, g.tab, g.gens, g.os, g.toks⟩
end
end
section
noncomputable def fBody (i : Nat) : List Stmt := match PySem.Challenge.pw_rl0136_01.main.body[i]? with
  | some (.FunctionDef _ _ b _ _ _ _ _ _ _) => b
  | _ => []
noncomputable def fScope (i : Nat) : Scope := match PySem.Challenge.pw_rl0136_01.main.body[i]? with
  | some (.FunctionDef _ _ _ _ _ _ sc _ _ _) => sc
  | _ => { kind := .function, names := [], isGenerator := false, isCoroutine := false, more := [] }
noncomputable def fParams (i : Nat) : Arguments := match PySem.Challenge.pw_rl0136_01.main.body[i]? with
  | some (.FunctionDef _ a _ _ _ _ _ _ _ _) => a
  | _ => { posonlyargs := [], args := [], vararg := none, kwonlyargs := [], kw_defaults := [], kwarg := none, defaults := [] }
theorem sY (a b : String) : (Str.ofString a == Str.ofString b) = (a == b) := by
  have inj : Str.ofString a = Str.ofString b → a = b := by
    intro h
    rw [Str.ofString_eq_byList] at h
    unfold Str.ofStringByList at h
    have h2 : a.toList.map Char.toNat = b.toList.map Char.toNat := by
      have := congrArg Str.cps h
      simpa using this
    have h3 : a.toList = b.toList := by
      have inj : ∀ (x y : List Char), x.map Char.toNat = y.map Char.toNat → x = y := by
        intro x
        induction x with
        | nil => intro y e; cases y with
          | nil => rfl
          | cons _ _ => cases e
        | cons c x ih =>
          intro y e
          cases y with
          | nil => cases e
          | cons d y =>
            simp only [List.map_cons, List.cons.injEq] at e
            have : c = d := by
              have h1 : c.val.toNat = d.val.toNat := e.1
              exact Char.ext (UInt32.toNat_inj.mp h1)
            rw [this, ih y e.2]
      exact inj _ _ h2
    exact String.toList_inj.mp h3
  by_cases h : a = b
  · subst h; simp
  · have : Str.ofString a ≠ Str.ofString b := fun e => h (inj e)
    rw [beq_eq_false_iff_ne.mpr this, beq_eq_false_iff_ne.mpr h]
structure FnT (C : Cx) (i : Nat) (name : String) (a : Addr) (cd : Value) : Prop where
  is : zB C a (Str.ofString name) (fParams i) (fBody i) (fScope i) cd
  g : C.mg (Str.ofString name) = some (.ref a)
theorem zJw {α : Type} {l : List α} (h : l.length = 0) : l = [] := List.length_eq_zero_iff.mp h
theorem sF {α : Type} {l : List α} {n : Nat} (h : l.length = n + 1) : ∃ a r, l = a :: r ∧ r.length = n := by
  cases l with
  | nil => cases h
  | cons a r => exact ⟨a, r, rfl, Nat.succ.inj h⟩
theorem vN {α : Type} {l : List α} (h : l.length = 1) : ∃ a, l = [a] := by
  refine cA (sF h) fun a r ez1 k => ?_; subst ez1
  obtain rfl := zJw k
  exact ⟨a, rfl⟩
theorem kR {α : Type} {l : List α} (h : l.length = 2) : ∃ a b, l = [a, b] := by
  refine cA (sF h) fun a r ez1 k => ?_; subst ez1
  obtain ⟨b, rfl⟩ := vN k
  exact ⟨a, b, rfl⟩
theorem zAi {α : Type} {l : List α} (h : l.length = 3) : ∃ a b c, l = [a, b, c] := by
  refine cA (sF h) fun a r ez1 k => ?_; subst ez1
  refine fG (kR k) fun b c ez1 => ?_; subst ez1
  exact ⟨a, b, c, rfl⟩
theorem zJv {α : Type} {l : List α} (h : l.length = 4) : ∃ a b c d, l = [a, b, c, d] := by
  refine cA (sF h) fun a r ez1 k => ?_; subst ez1
  refine zIl (zAi k) fun b c d ez1 => ?_; subst ez1
  exact ⟨a, b, c, d, rfl⟩
theorem zJu {α : Type} {l : List α} (h : l.length = 6) : ∃ a b c d e f, l = [a, b, c, d, e, f] := by
  refine cA (sF h) fun a r ez1 k => ?_; subst ez1
  refine cA (sF k) fun b r ez1 k2 => ?_; subst ez1
  refine cA (sF k2) fun c r ez1 k3 => ?_; subst ez1
  refine zIl (zAi k3) fun d e f ez1 => ?_; subst ez1
  exact ⟨a, b, c, d, e, f, rfl⟩
end
theorem zAg {k : Str} {p : PV} {m : Vars} : List.lookup k ((k, p) :: m) = some p := by rw [List.lookup_cons]; simp
theorem zAf {k k' : Str} {q : PV} {m : Vars} {r : Option PV} (h : (k == k') = false) (g : List.lookup k m = r) : List.lookup k ((k', q) :: m) = r := by rw [List.lookup_cons, h]; exact g
theorem sne {a b : String} (h : (a == b) = false) : (Str.ofString a == Str.ofString b) = false := by rw [sY]; exact h
local macro_rules | `(tactic| walk_at "lk1") => `(tactic| (focus (with_reducible (repeat (first | exact zAg | (refine zAf (sne (by dsimp only [String.reduceBEq])) ?_))); done)))
local macro_rules | `(tactic| walk_at "lk") => `(tactic| first
  | walk_at "lk1"
  | (focus (dsimp only [List.zip_cons_cons, List.zip_nil_left, List.zip_nil_right, List.cons_append, List.nil_append, List.reverse, List.reverseAux]; walk_at "lk1"))
  | (simp only [List.zip_cons_cons, List.zip_nil_left, List.zip_nil_right, List.cons_append, List.nil_append, List.reverse_cons, List.reverse_nil, List.lookup_cons, List.lookup_nil, sY, String.reduceBEq] <;> rfl))
local macro_rules | `(tactic| walk_at "sub") => `(tactic| (repeat (first | exact Sub.nil | (refine Sub.cons (by walk_at "lk") ?_))))
local macro_rules | `(tactic| walk_at "loc") => `(tactic| first | exact Or.inl rfl | exact Or.inr ⟨rfl, rfl⟩)
local macro_rules | `(tactic| walk_at "locs") => `(tactic| (repeat (first | exact List.forall_mem_nil _ | (refine List.forall_mem_cons.mpr ⟨by walk_at "loc", ?_⟩))))
local macro_rules | `(tactic| walk_at "go") => `(tactic| repeat' (first
  | with_reducible first
    | exact Ev.int | exact Ev.str | exact Ev.bool | exact Ev.none | exact Evs.nil
    | refine' Ev.bin ?_ ?_ ?_
    | refine' Evs.cons ?_ ?_ ?_
    | exact Bin.add | exact Bin.sub | exact Bin.and | exact Bin.or | exact Bin.xor
    | refine' Bin.mul ?_ | refine' Bin.shl ?_ ?_ | refine' Bin.shr ?_ | refine' Bin.fdiv ?_ ?_ | refine' Bin.fmod ?_
    | exact Inp.add | exact Inp.sub | refine' Inp.shl ?_ ?_ | refine' Inp.shr ?_
    | exact Cmp.eq | exact Cmp.ne | exact Cmp.lt | exact Cmp.gt | exact Cmp.le | exact Cmp.ge
    | exact Tru.int | exact Tru.bool
    | refine' Ev.bitlen ?_ ?_ ?_
    | refine' Ev.callB ?_ ?_ ?_ ?_
    | refine' Calls.divmod ?_ ?_ | exact Calls.abs
    | refine' Ev.tup ?_ ?_
    | refine' Ev.neg ?_
    | refine' Ev.inv ?_
    | refine' Ev.cmp ?_ ?_ ?_ ?_
    | refine' Ts.cmp ?_ ?_ ?_ ?_
    | refine' Ts.not ?_
    | refine' Ev.name ?_ ?_ ?_
  | ((with_reducible show List.lookup _ _ = some _); walk_at "lk")
  | ((with_reducible show (_ == Str.ofString "__debug__") = false); decide)
  | ((with_reducible show ∀ _, starEach _ _ = _); intro _; rfl)
  | ((with_reducible show PV.imm _ = true); rfl)
  | ((with_reducible show PV.plain _ = true); rfl)
  | ((with_reducible show behindInMarks _ _ = false); rfl)
  | ((with_reducible show attributeBase _ _ _ _ = _); rfl)
  | ((with_reducible show (Pos.endLine _ == Pos.line _) = true); rfl)
  | ((with_reducible show eval (Expr.Call _ _ _ _) _ = _); rfl)
  | ((with_reducible show List.length _ ≤ sizeLine); exact Nat.le_of_ble_eq_true rfl)))
local macro_rules | `(tactic| walk_at "free") => `(tactic| first | exact Or.inl rfl | exact Or.inr rfl | exact Or.inr ⟨rfl, by decide⟩)
local macro_rules | `(tactic| walk_at "nsub") => `(tactic| (repeat (first | exact NSub.nil | (refine NSub.cons (by walk_at "lk") (by walk_at "free") rfl ?_))))
local macro_rules | `(tactic| walk_at "csub") => `(tactic| (repeat (first | exact CSub.nil | (refine CSub.cell (by walk_at "lk") (by walk_at "free") (by walk_at "free") rfl ?_))))
local macro_rules | `(tactic| walk_at "tgl") => `(tactic| (repeat (first | exact List.forall_mem_nil _ | (refine List.forall_mem_cons.mpr ⟨rfl, ?_⟩))))
local macro_rules | `(tactic| walk_at "at") => `(tactic| (show List.lookup _ _ = some _; walk_at "lk"))
section
variable {C : Cx}
set_option maxHeartbeats 4000000 in
theorem yG (K : dG C) {a32 a21 : Addr} {cd : Value} (F3 : FnT C 4 "_div3n2n" a32 cd) (FA : FnAt C a21) (g21 : C.mg (Str.ofString "_div2n1n") = some (.ref a21)) {d : Nat} (hD : d < recursionLimit) {a12 a3 b b1 b2 : Int} {n : Nat}
    (hn : n ≤ 2 ^ 20) (hb : b = b1 * 2 ^ n + b2) (hb2 : 0 ≤ b2 ∧ b2 < 2 ^ n) (hb1 : 0 < b1 ∧ b1 < 2 ^ n) (h3 : 0 ≤ a3 ∧ a3 < 2 ^ n) (h12 : 0 ≤ a12 ∧ a12 < b)
    (h21 : a12.fdiv (2 ^ n) ≠ b1 → Calls C (d + 1) (.ref a21) [.int a12, .int b1, .int n] (.tup [.int (a12.fdiv b1), .int (a12.fmod b1)])) :
    Calls C d (.ref a32) [.int a12, .int a3, .int b, .int b1, .int b2, .int n] (.tup [.int ((a12 * 2 ^ n + a3).fdiv b), .int ((a12 * 2 ^ n + a3).fmod b)]) := by
  have hB := bE n
  have hn2 : (2 : Int) ^ n + 2 ^ n ≤ 2 ^ (2 * n) := by
    have e : (2 : Int) ^ (2 * n) = 2 ^ n * 2 ^ n := by rw [← Int.pow_add]; congr 1; exact Nat.two_mul n
    have := Int.mul_le_mul_of_nonneg_right (show (2 : Int) ≤ 2 ^ n by omega) (Int.le_of_lt hB)
    rw [e]; omega
  have hbpos : 0 < b := by have := Int.mul_pos hb1.1 hB; omega
  have hbl : b < 2 ^ (2 * n) := by
    have e : (2 : Int) ^ (2 * n) = 2 ^ n * 2 ^ n := by rw [← Int.pow_add]; congr 1; exact Nat.two_mul n
    have h1 : b1 + 1 ≤ 2 ^ n := by omega
    have h2 := Int.mul_le_mul_of_nonneg_right h1 (Int.le_of_lt hB)
    rw [e]; grind
  refine Calls.plain F3.is hD (xs := ["a12", "a3", "b", "b1", "b2", "n"]) (glb := [("_div2n1n", .fn (.ref a21))]) ?_ (by decide) (by decide) rfl (by decide) rfl rfl rfl ?_ ?_
  · intro pm doc vs hv
    obtain ⟨v1, v2, v3, v4, v5, v6, rfl⟩ := zJu hv; rfl
  · exact .cons (fun _ _ => .fn _) rfl (.inl g21) .nil
  intro L
  have tn : ((n : Int)).toNat = n := Int.toNat_natCast n
  have n0 : (0 : Int) ≤ n := Int.natCast_nonneg n
  refine bZ (aM (a12 * 2 ^ n + a3) hbpos) fun hq1 hq2 hq3 => ?_
  generalize (a12 * 2 ^ n + a3).fdiv b = qf at *
  generalize (a12 * 2 ^ n + a3).fmod b = rf at *
  have bits : ∀ x : Int, 0 ≤ x → x < 2 ^ (2 * n) → Builtin.Int.intBits x ≤ 2 ^ 21 := fun x h0 h1 => Nat.le_trans (aN h0 h1) (by omega)
  have hBle : (2 : Int) ^ n ≤ 2 ^ (2 * n) := by rw [← kbt_cast, ← kbt_cast]; exact Int.ofNat_le.mpr (Nat.pow_le_pow_right (by decide) (by omega))
  have rest : ∀ (q r : Int) (m : Vars), Sub m [("q", .int q), ("r", .int r), ("a3", .int a3), ("b", .int b), ("b2", .int b2), ("n", .int n)] →
      ((q = 2 ^ n - 1 ∧ r = a12 - b1 * 2 ^ n + b1 ∧ b1 * 2 ^ n ≤ a12) ∨ (q * b1 + r = a12 ∧ 0 ≤ r ∧ r < b1 ∧ 0 ≤ q)) → 0 ≤ r → r < 2 ^ (2 * n) → 0 ≤ q → q < 2 ^ (2 * n) →
      Ex C (d + 1) (envOf (Str.ofString "_div3n2n") (fScope 4) L a32 cd) m (fBody 4).tail (.ret (.tup [.int qf, .int rf])) := by
    intro q r m hm hc hr0 hr1 hq0 hq4
    obtain ⟨k1, k2⟩ := vZ hB hb hb2.1 h3 h12.2 hc
    have hqq : 0 ≤ q - qf := by
      have : (q - qf) * b = rf - (r * 2 ^ n + a3 - q * b2) := by grind
      have h1 : -b < (q - qf) * b := by omega
      rcases (by omega : 0 ≤ q - qf ∨ q - qf ≤ -1) with h | h
      · exact h
      · have := Int.mul_le_mul_of_nonneg_right h (Int.le_of_lt hbpos)
        (exfalso; walk_at "o")
    obtain ⟨t, ht⟩ : ∃ t : Nat, q = qf + t := ⟨(q - qf).toNat, by omega⟩
    have hrt : r * 2 ^ n + a3 - q * b2 = rf - t * b := by subst ht; grind
    refine Ex.sub hm ?_
    refine Ex.cons (Es.less (Es.assign (p := .int (rf - t * b)) ?ev rfl (by walk_at "loc")) (m₂ := [("r", .int (rf - t * b)), ("q", .int q), ("b", .int b)]) (by walk_at "sub")) ?_
    case ev =>
      apply Ev.cast
      · walk_at "go"
        · exact n0
        · have := bits r hr0 hr1; omega
        · exact mulOk_of_bits (bits q hq0 hq4) (bits b2 hb2.1 (by omega)) (by decide)
      · rw [tn, qO r n a3 h3.1 h3.2, hrt]
    subst ht
    refine Ex.cons (Es.whileTurns (fun i => [("r", .int (rf - i * b)), ("q", .int (qf + i)), ("b", .int b)]) t rfl (fun i hi => ?_) (fun i hi => ?_) ?_) (Ex.stop (Es.ret ?_))
    · apply Ts.cast
      · walk_at "go"
      · have : (0 : Int) ≤ i * b := Int.mul_nonneg (by exact Int.natCast_nonneg i) (by exact Int.le_of_lt hbpos)
        rw [decide_eq_true_eq, Int.natCast_succ, Int.add_mul]; omega
    · refine Ex.less (Ex.cons (Es.aug (by walk_at "lk") Ev.int Inp.sub (by walk_at "loc")) (Ex.cons (Es.aug (by walk_at "lk") (Ev.name (by walk_at "lk") (by decide)) Inp.add (by walk_at "loc")) Ex.nil)) ?_
      have e1 : rf - ((i + 1 : Nat) : Int) * b + b = rf - i * b := by rw [Int.natCast_succ, Int.add_mul]; omega
      have e2 : qf + ((i + 1 : Nat) : Int) - 1 = qf + i := by omega
      rw [e1, e2]
      walk_at "sub"
    · apply Ts.cast
      · walk_at "go"
      · simp; exact hq2
    · apply Ev.cast
      · walk_at "go"
      · simp
  by_cases hc : a12.fdiv (2 ^ n) = b1
  · have hle : b1 * 2 ^ n ≤ a12 := by
      have := (aM a12 hB).1
      have := (aM a12 hB).2.1
      rw [hc] at *; walk_at "o"
    have hlt2 : a12 < 2 ^ (2 * n) := by omega
    refine Ex.cons (Es.ifTrue ?t (Ex.cons (Es.swap (xs := ["q", "r"]) (ps := [.int (2 ^ n - 1), .int (a12 - b1 * 2 ^ n + b1)]) ?sw rfl (by walk_at "locs") rfl rfl) Ex.nil)) (rest _ _ _ (by walk_at "sub") (.inl ⟨rfl, rfl, hle⟩) ?_ ?_ ?_ ?_)
    case t =>
      apply Ts.cast
      · walk_at "go"
        exact n0
      · rw [tn, hc]; simp
    case sw =>
      apply Ev.cast
      · walk_at "go"
        · exact n0
        · have : Builtin.Int.intBits 1 = 1 := by decide
          omega
        · exact n0
        · have := bits b1 (by omega) (by omega)
          omega
      · rw [tn, Int.one_mul]
    all_goals omega
  · have hne := hc
    refine bZ (aM a12 hb1.1) fun s1 s2 s3 => ?_
    have hq0 : 0 ≤ a12.fdiv b1 := bG h12.1 hb1.1
    have hqle : a12.fdiv b1 ≤ a12 := by
      have := Int.mul_le_mul_of_nonneg_left (show 1 ≤ b1 by omega) hq0
      walk_at "o"
    refine Ex.cons (Es.ifFalse ?t (Ex.cons (Es.unpack (xs := ["q", "r"]) (ps := [.int (a12.fdiv b1), .int (a12.fmod b1)]) ?sw rfl (by walk_at "locs") (.cons (.cons .nil)) rfl rfl) Ex.nil)) (rest _ _ _ (by walk_at "sub") (.inr ⟨s1, s2, s3, hq0⟩) s2 ?_ hq0 ?_)
    case t =>
      apply Ts.cast
      · walk_at "go"
        exact n0
      · rw [tn]; simpa using hne
    case sw =>
      refine Ev.callF FA (Ev.name (by walk_at "lk") (by decide)) (ps := [.int a12, .int b1, .int n]) ?_ (h21 hne) rfl
      walk_at "go"
    all_goals walk_at "o"
end
section
variable {C : Cx}
theorem qP {a b : Int} {n : Nat} (hb0 : 0 < b) (hb : 2 ^ (n - 1) ≤ b) (ha0 : 0 ≤ a) (ha : (Builtin.Int.intBits a : Int) - n ≤ 4000) : Builtin.divisionGoesByPylong a b = false := by
  unfold Builtin.divisionGoesByPylong
  simp only [Bool.and_eq_false_iff, decide_eq_false_iff_not, beq_iff_eq]
  right
  have hb1 : b ≠ 0 := by exact Ne.symm (Int.ne_of_lt hb0)
  have hlb : n - 1 ≤ b.natAbs.log2 := by
    rw [Nat.le_log2 (by omega)]
    have h2 : ((2 ^ (n - 1) : Nat) : Int) = (2 : Int) ^ (n - 1) := kbt_cast _
    omega
  simp only [hb1, if_false]
  by_cases h0 : a = 0
  · simp [h0]
  · have hla : Builtin.Int.intBits a = a.natAbs.log2 + 1 := by
      unfold Builtin.Int.intBits
      have : (a == 0) = false := by simp; exact h0
      simp [this]
    simp only [h0, if_false]
    omega
theorem uC {a b : Int} {n : Nat} (hb2 : b < 2 ^ n) (ha0 : 0 ≤ a) (ha : a < b * 2 ^ n) : a < 2 ^ (2 * n) := by
  have e : (2 : Int) ^ (2 * n) = 2 ^ n * 2 ^ n := by rw [← Int.pow_add]; congr 1; exact Nat.two_mul n
  have := Int.mul_le_mul_of_nonneg_right (show b + 1 ≤ 2 ^ n by exact hb2) (Int.le_of_lt (bE n))
  have h2 := bE n
  rw [e]; grind
theorem div32_use (K : dG C) {a32 a21 : Addr} {cd : Value} (F3 : FnT C 4 "_div3n2n" a32 cd) (FA : FnAt C a21) (g21 : C.mg (Str.ofString "_div2n1n") = some (.ref a21)) {d : Nat} (hD : d < recursionLimit) {a12 a3 b : Int} {h : Nat}
    (hh : h ≤ 2 ^ 20) (h1 : 1 ≤ h) (hb1 : 2 ^ (2 * h - 1) ≤ b) (hb2 : b < 2 ^ (2 * h)) (h3 : 0 ≤ a3 ∧ a3 < 2 ^ h) (h12 : 0 ≤ a12 ∧ a12 < b)
    (h21 : ∀ x y : Int, 2 ^ (h - 1) ≤ y → y < 2 ^ h → 0 ≤ x → x < y * 2 ^ h → Calls C (d + 1) (.ref a21) [.int x, .int y, .int h] (.tup [.int (x.fdiv y), .int (x.fmod y)])) :
    Calls C d (.ref a32) [.int a12, .int a3, .int b, .int (b.fdiv (2 ^ h)), .int (b.fmod (2 ^ h)), .int h] (.tup [.int ((a12 * 2 ^ h + a3).fdiv b), .int ((a12 * 2 ^ h + a3).fmod b)]) := by
  have hB := bE h
  refine bZ (aM b hB) fun s1 s2 s3 => ?_
  have e2 : (2 : Int) ^ (2 * h) = 2 ^ h * 2 ^ h := by rw [← Int.pow_add]; congr 1; exact Nat.two_mul h
  have e1 : (2 : Int) ^ (2 * h - 1) = 2 ^ (h - 1) * 2 ^ h := by rw [← Int.pow_add]; congr 1; exact Eq.symm (Nat.sub_one_add_self h)
  have k1 : 2 ^ (h - 1) ≤ b.fdiv (2 ^ h) := xJ hB (by rw [← e1]; exact hb1)
  have k2 : b.fdiv (2 ^ h) < 2 ^ h := eS hB (by rw [← e2]; exact hb2)
  have k0 := bE (h - 1)
  refine yG K F3 FA g21 hD hh s1.symm ⟨s2, s3⟩ ⟨by exact Int.lt_of_lt_of_le k0 k1, k2⟩ h3 h12 fun hne => h21 _ _ k1 k2 h12.1 ?_
  refine bZ (aM a12 hB) fun t1 t2 t3 => ?_
  have h5 : a12.fdiv (2 ^ h) ≤ b.fdiv (2 ^ h) := by
    have : a12.fdiv (2 ^ h) * 2 ^ h < (b.fdiv (2 ^ h) + 1) * 2 ^ h := by rw [Int.add_mul]; walk_at "o"
    have := Int.lt_of_mul_lt_mul_right this (Int.le_of_lt hB)
    exact (Int.add_le_add_iff_right 1).mp this
  have h6 : (a12.fdiv (2 ^ h) + 1) * 2 ^ h ≤ b.fdiv (2 ^ h) * 2 ^ h := Int.mul_le_mul_of_nonneg_right (by walk_at "o") (Int.le_of_lt hB)
  rw [Int.add_mul] at h6
  walk_at "o"
theorem vV (a : Int) (h : Nat) : (a.fdiv (2 ^ h)).fdiv (2 ^ h) = a.fdiv (2 ^ (2 * h)) := by
  have hB := bE h
  have e2 : (2 : Int) ^ (2 * h) = 2 ^ h * 2 ^ h := by rw [← Int.pow_add]; congr 1; exact Nat.two_mul h
  refine bZ (aM a hB) fun s1 s2 s3 => ?_
  refine bZ (aM (a.fdiv (2 ^ h)) hB) fun t1 t2 t3 => ?_
  have := dA (a := a) (b := 2 ^ (2 * h)) (q := (a.fdiv (2 ^ h)).fdiv (2 ^ h)) (r := (a.fdiv (2 ^ h)).fmod (2 ^ h) * 2 ^ h + a.fmod (2 ^ h)) (by rw [e2]; exact Int.mul_pos hB hB) (by rw [e2]; grind)
    (by have := Int.mul_nonneg t2 (Int.le_of_lt hB); exact Int.add_nonneg this s2)
    (by
      have := Int.mul_le_mul_of_nonneg_right (show (a.fdiv (2 ^ h)).fmod (2 ^ h) + 1 ≤ 2 ^ h by exact t3) (Int.le_of_lt hB)
      rw [e2]; grind)
  exact this.1.symm
set_option maxHeartbeats 4000000 in
theorem lI (K : dG C) {a32 a21 : Addr} {cd cd' : Value} (F3 : FnT C 4 "_div3n2n" a32 cd) (F2 : FnT C 3 "_div2n1n" a21 cd') {tk : Tok} (gl : C.mg (Str.ofString "_DIV_LIMIT") = some (.int 4000 tk))
    (gd : C.mg (Str.ofString "divmod") = none ∧ C.mb (Str.ofString "divmod") = some (.builtin "divmod")) {d : Nat} (hD : d + 1 < recursionLimit) {a b : Int} {n : Nat} (hn20 : n + 1 ≤ 2 ^ 20) (hn1 : 1 ≤ n) (hb1 : 2 ^ (n - 1) ≤ b) (hb2 : b < 2 ^ n) (ha0 : 0 ≤ a) (ha : a < b * 2 ^ n)
    (h21 : ¬ (Builtin.Int.intBits a : Int) - n ≤ 4000 → ∀ x y : Int, 2 ^ ((n + 1) / 2 - 1) ≤ y → y < 2 ^ ((n + 1) / 2) → 0 ≤ x → x < y * 2 ^ ((n + 1) / 2) →
      Calls C (d + 2) (.ref a21) [.int x, .int y, .int ((n + 1) / 2 : Nat)] (.tup [.int (x.fdiv y), .int (x.fmod y)])) :
    Calls C d (.ref a21) [.int a, .int b, .int n] (.tup [.int (a.fdiv b), .int (a.fmod b)]) := by
  have hB := bE n
  have hbpos : 0 < b := by have := bE (n - 1); exact Int.lt_of_lt_of_le this hb1
  refine Calls.plain F2.is (by exact Nat.lt_of_succ_lt hD) (xs := ["a", "b", "n"]) (glb := [("_DIV_LIMIT", .int 4000), ("divmod", .fn (.builtin "divmod")), ("_div3n2n", .fn (.ref a32))]) ?_ (by decide) (by decide) rfl (by decide) rfl rfl rfl ?_ ?_
  · intro pm doc vs hv
    obtain ⟨v1, v2, v3, rfl⟩ := zAi hv; rfl
  · exact .cons (fun _ _ => .int _ _) rfl (.inl gl) (.cons (fun _ _ => .fn _) rfl (.inr gd) (.cons (fun _ _ => .fn _) rfl (.inl F3.g) .nil))
  intro L
  have n0 : (0 : Int) ≤ n := Int.natCast_nonneg n
  by_cases hbase : (Builtin.Int.intBits a : Int) - n ≤ 4000
  · refine Ex.stop (Es.ifTrue ?t (Ex.stop (Es.ret ?r)))
    case t =>
      apply Ts.cast
      · walk_at "go"
      · simpa using hbase
    case r =>
      walk_at "go"
      · exact Ne.symm (Int.ne_of_lt hbpos)
      · exact qP hbpos hb1 ha0 hbase
  specialize h21 hbase
  generalize hh : (n + 1) / 2 = h at h21
  have rest : ∀ (p : Nat) (m : Vars), 2 * h = n + p → p ≤ 1 → Sub m [("a", .int (a * 2 ^ p)), ("b", .int (b * 2 ^ p)), ("n", .int (2 * h : Nat)), ("pad", .int p), ("_div3n2n", .fn (.ref a32))] →
      Ex C (d + 1) (envOf (Str.ofString "_div2n1n") (fScope 3) L a21 cd') m ((fBody 3).drop 3) (.ret (.tup [.int (a.fdiv b), .int (a.fmod b)])) := by
    intro p m hp hp1 hm
    refine Ex.sub hm ?_
    have h1 : 1 ≤ h := by omega
    have hP := bE p
    have hH := bE h
    have ha' : 0 ≤ a * 2 ^ p := Int.mul_nonneg ha0 (Int.le_of_lt hP)
    have hb' : 0 < b * 2 ^ p := Int.mul_pos hbpos hP
    have hbl : 2 ^ (2 * h - 1) ≤ b * 2 ^ p := by
      have e : (2 : Int) ^ (2 * h - 1) = 2 ^ (n - 1) * 2 ^ p := by rw [← Int.pow_add]; congr 1; omega
      rw [e]; exact Int.mul_le_mul_of_nonneg_right hb1 (Int.le_of_lt hP)
    have hbu : b * 2 ^ p < 2 ^ (2 * h) := by
      have e : (2 : Int) ^ (2 * h) = 2 ^ n * 2 ^ p := by rw [← Int.pow_add]; congr 1
      rw [e]; exact Int.mul_lt_mul_of_pos_right hb2 hP
    have hau : a * 2 ^ p < b * 2 ^ p * 2 ^ (2 * h) := by
      have e : b * 2 ^ p * 2 ^ (2 * h) = b * 2 ^ n * 2 ^ p * 2 ^ p := by
        have : (2 : Int) ^ (2 * h) = 2 ^ n * 2 ^ p := by rw [← Int.pow_add]; congr 1
        rw [this]; grind
      have h2 : a * 2 ^ p < b * 2 ^ n * 2 ^ p := Int.mul_lt_mul_of_pos_right ha hP
      have h3 : b * 2 ^ n * 2 ^ p * 1 ≤ b * 2 ^ n * 2 ^ p * 2 ^ p := Int.mul_le_mul_of_nonneg_left (by exact hP) (Int.le_of_lt (Int.mul_pos (Int.mul_pos hbpos hB) hP))
      rw [e]; omega
    have hpad := zAu a hbpos p
    have hab : a * 2 ^ p < 2 ^ (4 * h) := by
      have e : (2 : Int) ^ (4 * h) = 2 ^ (2 * h) * 2 ^ (2 * h) := by rw [← Int.pow_add]; congr 1; omega
      have := Int.mul_lt_mul_of_pos_right hbu (bE (2 * h))
      rw [e]; exact Int.lt_trans hau this
    generalize a * 2 ^ p = a' at *
    generalize b * 2 ^ p = b' at *
    have th : ((2 * h : Nat) : Int).toNat = 2 * h := Int.toNat_natCast _
    have t1 : ((h : Nat) : Int).toNat = h := Int.toNat_natCast _
    have h0 : (0 : Int) ≤ h := Int.natCast_nonneg h
    refine bZ (aM a' hH) fun u1 u2 u3 => ?_
    refine bZ (aM (a'.fdiv (2 ^ h)) hH) fun v1 v2 v3 => ?_
    rw [vV] at v1
    have w1 : 0 ≤ a'.fdiv (2 ^ (2 * h)) := bG ha' (bE _)
    have w2 : a'.fdiv (2 ^ (2 * h)) < b' := eS (bE _) (by rw [Int.mul_comm]; exact hau)
    refine Ex.cons (Es.assign (p := .int h) ?half rfl (by walk_at "loc")) ?_
    case half =>
      apply Ev.cast
      · walk_at "go"
        decide
      · have : ((2 * h : Nat) : Int).fdiv (2 ^ (1 : Int).toNat) = h := by
          rw [show (2 : Int) ^ (1 : Int).toNat = 2 from rfl, Int.fdiv_eq_ediv_of_nonneg _ (by decide)]; omega
        rw [this]
    refine Ex.cons (Es.assign (p := .int (2 ^ h - 1)) ?mask rfl (by walk_at "loc")) ?_
    case mask =>
      apply Ev.cast
      · walk_at "go"
        · exact h0
        · have : Builtin.Int.intBits 1 = 1 := by decide
          omega
      · rw [t1, Int.one_mul]
    refine Ex.cons (Es.swap (xs := ["b1", "b2"]) (ps := [.int (b'.fdiv (2 ^ h)), .int (b'.fmod (2 ^ h))]) ?bb rfl (by walk_at "locs") rfl rfl) ?_
    case bb =>
      apply Ev.cast
      · walk_at "go"
        exact h0
      · rw [t1, kbt_maskF]
    refine Ex.cons (Es.unpack (xs := ["q1", "r"]) (ps := [.int ((a'.fdiv (2 ^ (2 * h)) * 2 ^ h + (a'.fdiv (2 ^ h)).fmod (2 ^ h)).fdiv b'), .int ((a'.fdiv (2 ^ (2 * h)) * 2 ^ h + (a'.fdiv (2 ^ h)).fmod (2 ^ h)).fmod b')]) ?c1 rfl (by walk_at "locs") (.cons (.cons .nil)) rfl rfl) ?_
    case c1 =>
      refine Ev.callF F3.is.at (Ev.name (by walk_at "lk") (by decide)) (ps := [.int (a'.fdiv (2 ^ (2 * h))), .int ((a'.fdiv (2 ^ h)).fmod (2 ^ h)), .int b', .int (b'.fdiv (2 ^ h)), .int (b'.fmod (2 ^ h)), .int h]) ?_ (div32_use K F3 F2.is.at F2.g (by walk_at "o") (by omega) h1 hbl hbu ⟨v2, v3⟩ ⟨w1, w2⟩ h21) rfl
      refine .cons (p := .int (a'.fdiv (2 ^ (2 * h)))) ?x1 (fun _ => rfl) (.cons (p := .int ((a'.fdiv (2 ^ h)).fmod (2 ^ h))) ?x2 (fun _ => rfl) ?x3)
      case x1 =>
        apply Ev.cast
        · walk_at "go"
          exact Int.natCast_nonneg (2 * h)
        · rw [th]
      case x2 =>
        apply Ev.cast
        · walk_at "go"
          exact h0
        · rw [t1, kbt_maskF]
      case x3 => walk_at "go"
    rw [v1]
    refine bZ (aM (a'.fdiv (2 ^ h)) hb') fun x1 x2 x3 => ?_
    refine Ex.cons (Es.unpack (xs := ["q2", "r"]) (ps := [.int (((a'.fdiv (2 ^ h)).fmod b' * 2 ^ h + a'.fmod (2 ^ h)).fdiv b'), .int (((a'.fdiv (2 ^ h)).fmod b' * 2 ^ h + a'.fmod (2 ^ h)).fmod b')]) ?c2 rfl (by walk_at "locs") (.cons (.cons .nil)) rfl rfl) ?_
    case c2 =>
      refine Ev.callF F3.is.at (Ev.name (by walk_at "lk") (by decide)) (ps := [.int ((a'.fdiv (2 ^ h)).fmod b'), .int (a'.fmod (2 ^ h)), .int b', .int (b'.fdiv (2 ^ h)), .int (b'.fmod (2 ^ h)), .int h]) ?_ (div32_use K F3 F2.is.at F2.g (by walk_at "o") (by omega) h1 hbl hbu ⟨u2, u3⟩ ⟨x2, x3⟩ h21) rfl
      refine .cons (p := .int ((a'.fdiv (2 ^ h)).fmod b')) ?x1 (fun _ => rfl) (.cons (p := .int (a'.fmod (2 ^ h))) ?x2 (fun _ => rfl) ?x3)
      case x1 => walk_at "go"
      case x2 =>
        apply Ev.cast
        · walk_at "go"
        · rw [kbt_maskF]
      case x3 => walk_at "go"
    refine bZ (aM ((a'.fdiv (2 ^ h)).fmod b' * 2 ^ h + a'.fmod (2 ^ h)) hb') fun y1 y2 y3 => ?_
    have hj := yJ (a := a') (b := b') (B := 2 ^ h) (A2 := a'.fdiv (2 ^ (2 * h))) (A1 := (a'.fdiv (2 ^ h)).fmod (2 ^ h)) (A0 := a'.fmod (2 ^ h)) hH hb' (by rw [v1, u1]) ⟨u2, u3⟩ (by rw [v1]; exact x1) ⟨x2, x3⟩ y1 ⟨y2, y3⟩
    generalize (a'.fdiv (2 ^ h)).fdiv b' = q1 at *
    generalize ((a'.fdiv (2 ^ h)).fmod b' * 2 ^ h + a'.fmod (2 ^ h)).fdiv b' = q2 at *
    generalize ((a'.fdiv (2 ^ h)).fmod b' * 2 ^ h + a'.fmod (2 ^ h)).fmod b' = r2 at *
    refine bZ hj fun j1 j2 j3 => ?_; clear hj
    have hfin := dA hb' j1 y2 y3
    rw [hfin.1, hfin.2] at hpad
    have hq1 : 0 ≤ q1 ∧ q1 < 2 ^ (4 * h) := by
      have hz : 0 ≤ a'.fdiv (2 ^ h) := bG ha' hH
      constructor
      · rcases (by omega : 0 ≤ q1 ∨ q1 ≤ -1) with z | z
        · exact z
        · have := Int.mul_le_mul_of_nonneg_right z (Int.le_of_lt hb')
          omega
      · have z1 : q1 * 1 ≤ q1 * b' ∨ q1 < 0 := by
          rcases (by exact Or.symm (Int.lt_or_le q1 0) : 0 ≤ q1 ∨ q1 < 0) with z | z
          · exact .inl (Int.mul_le_mul_of_nonneg_left (by exact hb') z)
          · exact .inr z
        have z2 : a'.fdiv (2 ^ h) * 1 ≤ a'.fdiv (2 ^ h) * 2 ^ h := Int.mul_le_mul_of_nonneg_left (by exact hH) hz
        rcases z1 with z | z
        · omega
        · have := bE (4 * h); omega
    have hlast : Ex C (d + 1) (envOf (Str.ofString "_div2n1n") (fScope 3) L a21 cd') [("q1", .int q1), ("q2", .int q2), ("half_n", .int h), ("r", .int (r2.fdiv (2 ^ p)))] ((fBody 3).drop 9) (.ret (.tup [.int (a.fdiv b), .int (a.fmod b)])) := by
      refine Ex.stop (Es.ret ?_)
      apply Ev.cast
      · walk_at "go"
        · exact h0
        · have := aN hq1.1 hq1.2; omega
      · rw [t1, qO q1 h q2 j2 j3, hpad.1, hpad.2]
    rcases (by omega : p = 0 ∨ p = 1) with rfl | rfl
    · refine Ex.cons (Es.less (Es.ifFalse ?t Ex.nil) ?ss) hlast
      case t => exact Ts.val (Ev.name (by walk_at "lk") (by decide)) Tru.int (fun _ => rfl)
      case ss =>
        have e : r2.fdiv (2 ^ 0) = r2 := by simp
        rw [e]
        walk_at "sub"
    · refine Ex.cons (Es.less (Es.ifTrue ?t (Ex.cons (Es.aug (by walk_at "lk") Ev.int (Inp.shr (by decide)) (by walk_at "loc")) Ex.nil)) ?ss) hlast
      case t => exact Ts.val (Ev.name (by walk_at "lk") (by decide)) Tru.int (fun _ => rfl)
      case ss => walk_at "sub"
  refine Ex.cons (Es.ifFalse ?t Ex.nil) ?_
  case t =>
    apply Ts.cast
    · walk_at "go"
    · simpa using hbase
  refine Ex.cons (Es.assign (p := .int (n % 2 : Nat)) ?pad rfl (by walk_at "loc")) ?_
  case pad =>
    apply Ev.cast
    · walk_at "go"
    · rw [bitAnd_m1]; simp
  by_cases hodd : n % 2 = 1
  · refine Ex.cons (m' := [("a", .int (a * 2 ^ 1)), ("b", .int (b * 2 ^ 1)), ("n", .int (2 * h : Nat)), ("pad", .int (1 : Nat)), ("_div3n2n", .fn (.ref a32))]) (Es.ifTrue ?tA ?bA) (rest 1 _ (by omega) (by exact (nB rfl)) (by walk_at "sub"))
    case tA =>
      refine Ts.val (Ev.name (by walk_at "lk") (by decide)) ?_ (fun _ => rfl)
      rw [hodd]; exact Tru.int
    case bA =>
      refine Ex.cons (Es.aug (z := .int (a * 2 ^ 1)) (by walk_at "lk") Ev.int ?sA1 (by walk_at "loc")) ?_
      case sA1 => exact Inp.shl (by decide) (by have := aN ha0 (uC hb2 ha0 ha); omega)
      refine Ex.cons (Es.aug (z := .int (b * 2 ^ 1)) (by walk_at "lk") Ev.int ?sA2 (by walk_at "loc")) ?_
      case sA2 => exact Inp.shl (by decide) (by have := aN (Int.le_of_lt hbpos) hb2; omega)
      refine Ex.cons (Es.aug (z := .int (n + 1)) (by walk_at "lk") Ev.int Inp.add (by walk_at "loc")) ?_
      refine Ex.less Ex.nil ?_
      rw [hodd, show ((2 * h : Nat) : Int) = n + 1 by omega]
      walk_at "sub"
  · have hev : n % 2 = 0 := by exact Nat.mod_two_ne_one.mp hodd
    refine Ex.cons (m' := [("a", .int (a * 2 ^ 0)), ("b", .int (b * 2 ^ 0)), ("n", .int (2 * h : Nat)), ("pad", .int (0 : Nat)), ("_div3n2n", .fn (.ref a32))]) (Es.ifFalse ?tB ?bB) (rest 0 _ (by omega) (by exact Nat.zero_le 1) (by walk_at "sub"))
    case tB =>
      refine Ts.val (Ev.name (by walk_at "lk") (by decide)) ?_ (fun _ => rfl)
      rw [hev]; exact Tru.int
    case bB =>
      refine Ex.less Ex.nil ?_
      rw [hev, show ((2 * h : Nat) : Int) = n by omega, Int.pow_zero, Int.mul_one, Int.mul_one]
      walk_at "sub"
theorem yH (K : dG C) {a32 a21 : Addr} {cd cd' : Value} (F3 : FnT C 4 "_div3n2n" a32 cd) (F2 : FnT C 3 "_div2n1n" a21 cd') {tk : Tok} (gl : C.mg (Str.ofString "_DIV_LIMIT") = some (.int 4000 tk))
    (gd : C.mg (Str.ofString "divmod") = none ∧ C.mb (Str.ofString "divmod") = some (.builtin "divmod")) :
    ∀ (lvl : Nat) {d : Nat}, d + 2 * lvl + 2 < recursionLimit → ∀ {a b : Int} {n : Nat}, n ≤ 4000 * 2 ^ lvl → n + 1 ≤ 2 ^ 20 → 1 ≤ n → 2 ^ (n - 1) ≤ b → b < 2 ^ n → 0 ≤ a → a < b * 2 ^ n →
    Calls C d (.ref a21) [.int a, .int b, .int n] (.tup [.int (a.fdiv b), .int (a.fmod b)]) := by
  intro lvl
  induction lvl with
  | zero =>
    intro d hD a b n hn hn20 hn1 hb1 hb2 ha0 ha
    refine lI K F3 F2 gl gd (by exact Nat.lt_of_succ_lt hD) hn20 hn1 hb1 hb2 ha0 ha fun hb => absurd ?_ hb
    have := aN ha0 (uC hb2 ha0 ha)
    (exfalso; omega)
  | succ lvl ih =>
    intro d hD a b n hn hn20 hn1 hb1 hb2 ha0 ha
    refine lI K F3 F2 gl gd (by omega) hn20 hn1 hb1 hb2 ha0 ha fun hb x y h1 h2 h3 h4 => ih (by omega) (by rw [Nat.pow_succ] at hn; omega) (by omega) (by omega) h1 h2 h3 h4
end
section
inductive WSub (env : Env) (mc m : Vars) : Vars → Prop where
  | nil : WSub env mc m []
  | c {x : Str} {p : PV} {m' : Vars} : mc.lookup x = some p → (env.kindOf x = some .cell ∨ env.kindOf x = some .free ∧ (x == ("__classdict__" : Str)) = false) → WSub env mc m m' → WSub env mc m ((x, p) :: m')
  | o {x : Str} {p : PV} {m' : Vars} : m.lookup x = some p → p.imm = true → WSub env mc m m' → WSub env mc m ((x, p) :: m')
theorem WSub.look {env : Env} {mc m m' : Vars} (h : WSub env mc m m') : ∀ y p, m'.lookup y = some p → (mc.lookup y = some p ∧ (env.kindOf y = some .cell ∨ env.kindOf y = some .free ∧ (y == ("__classdict__" : Str)) = false)) ∨ (m.lookup y = some p ∧ p.imm = true) := by
  induction h with
  | nil => intro y p e; cases e
  | @c x q m' h1 h2 _ ih =>
    intro y p e
    rw [List.lookup_cons] at e
    by_cases h : y == x
    · simp only [h] at e
      cases e
      have := eq_of_beq h
      subst this
      exact .inl ⟨h1, h2⟩
    · simp only [h] at e
      exact ih y p e
  | @o x q m' h1 h2 _ ih =>
    intro y p e
    rw [List.lookup_cons] at e
    by_cases h : y == x
    · simp only [h] at e
      cases e
      have := eq_of_beq h
      subst this
      exact .inr ⟨h1, h2⟩
    · simp only [h] at e
      exact ih y p e
local macro_rules | `(tactic| walk_at "wsub") => `(tactic| (repeat (first | exact WSub.nil | (refine WSub.c (by walk_at "lk") (by walk_at "free") ?_) | (refine WSub.o (by walk_at "lk") rfl ?_))))
noncomputable def nBody (i k : Nat) : List Stmt := match (fBody i)[k]? with
  | some (.FunctionDef _ _ b _ _ _ _ _ _ _) => b
  | _ => []
noncomputable def nScope (i k : Nat) : Scope := match (fBody i)[k]? with
  | some (.FunctionDef _ _ _ _ _ _ sc _ _ _) => sc
  | _ => { kind := .function, names := [], isGenerator := false, isCoroutine := false, more := [] }
noncomputable def nParams (i k : Nat) : Arguments := match (fBody i)[k]? with
  | some (.FunctionDef _ a _ _ _ _ _ _ _ _) => a
  | _ => { posonlyargs := [], args := [], vararg := none, kwonlyargs := [], kw_defaults := [], kwarg := none, defaults := [] }
noncomputable def put (l : List PV) (i : Nat) (ds : List PV) : List PV := l.take i ++ ds ++ l.drop (i + ds.length)
theorem rY {l : List PV} {i : Nat} {ds : List PV} (h : i + ds.length ≤ l.length) : (put l i ds).length = l.length := by
  unfold put; simp; omega
theorem zM {l : List PV} {i : Nat} {v : PV} (h : i < l.length) : put l i [v] = l.set i v := by
  unfold put
  rw [List.set_eq_take_append_cons_drop, if_pos h]
  simp
theorem gQ {l : List PV} {i : Nat} {a b : List PV} (h : i + a.length + b.length ≤ l.length) : put (put l i a) (i + a.length) b = put l i (a ++ b) := by
  unfold put
  have h1 : (List.take i l ++ a).length = i + a.length := by simp; omega
  rw [List.take_append_of_le_length (by exact Nat.le_of_eq (id (Eq.symm h1))), ← h1, List.take_length]
  rw [show (List.take i l ++ a).length + b.length = (List.take i l ++ a).length + b.length from rfl, List.drop_append, List.drop_eq_nil_of_le (by exact Nat.le_add_right (List.take i l ++ a).length b.length), List.nil_append, Nat.add_sub_cancel_left, List.drop_drop, List.length_append, List.append_assoc]
  simp
  congr 1
  omega
variable {C : Cx}
noncomputable abbrev q5 : Str := Str.ofString "_int2digits" ++ Str.ofString ".<locals>." ++ Str.ofString "inner"
noncomputable abbrev pints (l : List Int) : List PV := l.map .int
theorem aC : 2 ^ 20 ≤ sizeLine := by decide
noncomputable abbrev cl5 (cn ci ca : Addr) : List (Str × Addr) := [("n", cn), ("inner", ci), ("a_digits", ca)]
noncomputable abbrev F5 (cl : List (Str × Addr)) : PV := .sem (jO "inner" q5 (nParams 5 1) (nBody 5 1) (nScope 5 1) cl)
noncomputable abbrev m5 (cl : List (Str × Addr)) (l : List PV) (n : Nat) : Vars := [("a_digits", .mlst l), ("inner", F5 cl), ("n", .int n)]
noncomputable abbrev sO (C : Cx) (d : Nat) (cl : List (Str × Addr)) (n : Nat) (l : List PV) (x : Int) (L R : Nat) : Prop :=
  iX C d "inner" q5 (nParams 5 1) (nBody 5 1) (nScope 5 1) cl (m5 cl l n) [.int x, .int L, .int R] .none (m5 cl (put l L (pints (dig n x (R - L)))) n)
theorem free5 {cl : List (Str × Addr)} {n : Nat} (l : List PV) (x : Str) (p : PV) (e : (m5 cl l n).lookup x = some p) : (nScope 5 1).names.lookup x = some .free ∧ (x == ("__classdict__" : Str)) = false := by
  have hx : x = "a_digits" ∨ x = "inner" ∨ x = "n" := by
    simp only [List.lookup_cons, List.lookup_nil] at e
    by_cases h1 : x == Str.ofString "a_digits"
    · exact .inl (eq_of_beq h1)
    · by_cases h2 : x == Str.ofString "inner"
      · exact .inr (.inl (eq_of_beq h2))
      · by_cases h3 : x == Str.ofString "n"
        · exact .inr (.inr (eq_of_beq h3))
        · simp [h1, h2, h3] at e
  rcases hx with rfl | rfl | rfl <;> exact ⟨rfl, by decide⟩
theorem bind5 {cl : List (Str × Addr)} : ∀ doc pm cdv ct (vs : List Value), vs.length = [("x" : Str), "L", "R"].length → bindArgs (fnX "inner" q5 (nParams 5 1) (nBody 5 1) (nScope 5 1) cl .none .none doc pm none cdv ct) ⟨vs, []⟩ = pure ([("x" : Str), "L", "R"].zip vs) := by
  intro doc pm cdv ct vs hv
  obtain ⟨v1, v2, v3, rfl⟩ := zAi hv; rfl
set_option maxHeartbeats 4000000 in
theorem jH {cn ci ca : Addr} {n : Nat} (hn1 : 1 ≤ n) (hn : n ≤ 2 ^ 20) {d : Nat} (hd : d < recursionLimit) {l : List PV} {x : Int} {L R : Nat} (hLR : L < R) (hR : R ≤ l.length) (hlen : l.length ≤ 2 ^ 20) (hx0 : 0 ≤ x) (hx1 : x < 2 ^ (n * (R - L))) (hnl : n * l.length ≤ 2 ^ 24)
    (ih : L + 1 ≠ R → ∀ {l' : List PV} {y : Int} {L' R' : Nat}, L' < R' → R' ≤ l'.length → l'.length = l.length → R' - L' ≤ (R - L + 1) / 2 → 0 ≤ y → y < 2 ^ (n * (R' - L')) → sO C (d + 1) (cl5 cn ci ca) n l' y L' R') :
    sO C d (cl5 cn ci ca) n l x L R := by
  have hz := aC
  by_cases hbase : L + 1 = R
  · refine iX.of (o := .retm .none [("a_digits", .mlst (l.set L (.int x))), ("inner", F5 (cl5 cn ci ca)), ("n", .int n), ("x", .int x), ("L", .int L), ("R", .int R)]) (glb := []) hd bind5 (by decide) (by decide) rfl (by decide) rfl rfl rfl (by show [("n" : Str), "inner", "a_digits"].Nodup; decide) (free5 l) .nil (.inl ⟨_, rfl, ?_⟩) (fun x p e => (free5 _ x p e).1) ⟨"a_digits", l, _, rfl, rfl⟩ ?_
    · have e : R - L = 1 := by exact Eq.symm (Nat.eq_sub_of_add_eq' hbase)
      rw [e, Nat.mul_one] at hx1
      rw [e, zAz n hx0 hx1]
      have : put l L (pints [x]) = l.set L (.int x) := zM (by omega)
      rw [this]
      walk_at "sub"
    · intro La fa cdv
      refine Ex.stopm (Es.ifTrue ?t (Ex.cons (Es.sub (m' := [("a_digits", .mlst l), ("inner", F5 (cl5 cn ci ca)), ("n", .int n), ("x", .int x), ("L", .int L), ("R", .int R)]) (by walk_at "sub") (Es.setItem (p := .int x) (k := L) ?e ?i (by exact Int.natCast_nonneg L) (by omega) (by exact fits_of_le20 hlen) rfl (by decide))) (Ex.stopm Es.retmNone)))
      case t =>
        apply Ts.cast
        · walk_at "go"
        · rw [beq_iff_eq]; exact Eq.symm ((fun {a b} => Int.neg_inj.mp) (congrArg Neg.neg (congrArg Nat.cast (id (Eq.symm hbase)))))
      case e => walk_at "go"
      case i => walk_at "go"
  · obtain ⟨M, hM⟩ : ∃ M, M = (L + R) / 2 := ⟨_, rfl⟩
    obtain ⟨sh, hsh⟩ : ∃ sh, sh = n * (M - L) := ⟨_, rfl⟩
    have hMl : L < M := by omega
    have hMr : M < R := by omega
    have hp := bE sh
    have e24 : (2 : Int) ^ 24 = 16777216 := by decide
    have hM24 : (M : Int) - L < 2 ^ 24 := by omega
    have hn24 : (n : Int) < 2 ^ 24 := by omega
    have hup1 : x.fdiv (2 ^ sh) < 2 ^ (n * (R - M)) := eS hp (by rw [← Int.pow_add]; have : sh + n * (R - M) = n * (R - L) := (by rw [hsh, ← Nat.mul_add]; congr 1; omega); rw [this]; exact hx1)
    have hup0 := bG hx0 hp
    refine bZ (aM x hp) fun _ hlo0 hlo1 => ?_
    have hbits : n * (R - L) ≤ 2 ^ 24 := Nat.le_trans (Nat.mul_le_mul_left _ (by omega)) hnl
    have hsh24 : sh ≤ 2 ^ 24 := Nat.le_trans (by rw [hsh]; exact Nat.mul_le_mul_left _ (by omega)) hbits
    have hlow : dig n (x.fmod (2 ^ sh)) (M - L) = dig n x (M - L) := by rw [hsh]; exact zBa n (M - L) x
    have hl1 : (put l L (pints (dig n (x.fmod (2 ^ sh)) (M - L)))).length = l.length := rY (by simp [cK]; omega)
    refine iX.of (o := .next (m5 (cl5 cn ci ca) (put l L (pints (dig n x (R - L)))) n)) (glb := []) hd bind5 (by decide) (by decide) rfl (by decide) rfl rfl rfl (by show [("n" : Str), "inner", "a_digits"].Nodup; decide) (free5 l) .nil (.inr ⟨rfl, _, rfl, ?_⟩) (fun x p e => (free5 _ x p e).1) ⟨"a_digits", l, _, rfl, rfl⟩ ?_
    · walk_at "sub"
    · intro La fa cdv
      refine Ex.cons (Es.ifFalse ?t Ex.nil) ?_
      case t =>
        apply Ts.cast
        · walk_at "go"
        · rw [beq_eq_false_iff_ne]; exact Nat.ToInt.of_diseq rfl rfl hbase
      refine Ex.cons (Es.assign (p := .int M) ?mid rfl (by walk_at "loc")) ?_
      case mid =>
        apply Ev.cast
        · walk_at "go"
          decide
        · have : ((L : Int) + R).fdiv (2 ^ (1 : Int).toNat) = M := by
            rw [show (2 : Int) ^ (1 : Int).toNat = 2 from rfl, Int.fdiv_eq_ediv_of_nonneg _ (by decide)]; exact Eq.symm ((fun {a b} => Int.neg_inj.mp) (congrArg Neg.neg (congrArg Nat.cast hM)))
          rw [this]
      refine Ex.cons (Es.assign (p := .int sh) ?shift rfl (by walk_at "loc")) ?_
      case shift =>
        apply Ev.cast
        · walk_at "go"
          exact mulOk_of_bits (m := 24) (n := 24) (aN (by omega) hM24) (aN (by exact Int.natCast_nonneg n) hn24) (by decide)
        · have : ((M : Int) - L) * n = sh := by rw [hsh, Int.natCast_mul, Int.mul_comm, Int.natCast_sub (by exact Nat.le_of_succ_le hMl)]
          rw [this]
      refine Ex.cons (Es.assign (p := .int (x.fdiv (2 ^ sh))) ?upper rfl (by walk_at "loc")) ?_
      case upper =>
        apply Ev.cast
        · walk_at "go"
          exact Int.natCast_nonneg sh
        · rw [Int.toNat_natCast]
      refine Ex.cons (Es.assign (p := .int (x.fmod (2 ^ sh))) ?lower rfl (by walk_at "loc")) ?_
      case lower =>
        apply Ev.cast
        · walk_at "go"
          · exact Int.natCast_nonneg sh
          · have : Builtin.Int.intBits (x.fdiv (2 ^ sh)) ≤ n * (R - M) := aN hup0 hup1
            have h2 : n * (R - M) ≤ n * (R - L) := Nat.mul_le_mul_left _ (by omega)
            omega
        · rw [Int.toNat_natCast, wE]
      refine Ex.cons (m' := [("a_digits", .mlst (put l L (pints (dig n (x.fmod (2 ^ sh)) (M - L))))), ("inner", F5 (cl5 cn ci ca)), ("n", .int n), ("upper", .int (x.fdiv (2 ^ sh))), ("mid", .int M), ("R", .int R)])
        (Es.callW (ps := [.int (x.fmod (2 ^ sh)), .int L, .int M]) (by walk_at "lk") (by decide) (by walk_at "nsub") (.cons rfl (.cons rfl (.cons rfl .nil))) ?args1 (ih hbase hMl (by omega) rfl (by omega) hlo0 (by rw [← hsh]; exact hlo1)) (WSub.look (by walk_at "wsub")) ⟨"a_digits", l, rfl⟩ rfl rfl rfl) ?_
      case args1 => walk_at "go"
      refine Ex.cons (m' := m5 (cl5 cn ci ca) (put l L (pints (dig n x (R - L)))) n)
        (Es.callW (ps := [.int (x.fdiv (2 ^ sh)), .int M, .int R]) (by walk_at "lk") (by decide) (by walk_at "nsub") (.cons rfl (.cons rfl (.cons rfl .nil))) ?args2 (ih hbase hMr (by rw [hl1]; exact hR) hl1 (by omega) hup0 hup1) (WSub.look ?ws) ⟨"a_digits", _, rfl⟩ rfl rfl rfl) Ex.nil
      case args2 => walk_at "go"
      case ws =>
        have e : put (put l L (pints (dig n (x.fmod (2 ^ sh)) (M - L)))) M (pints (dig n (x.fdiv (2 ^ sh)) (R - M))) = put l L (pints (dig n x (R - L))) := by
          have h1 := gQ (l := l) (i := L) (a := pints (dig n (x.fmod (2 ^ sh)) (M - L))) (b := pints (dig n (x.fdiv (2 ^ sh)) (R - M))) (by simp [cK]; omega)
          have h2 : L + (pints (dig n (x.fmod (2 ^ sh)) (M - L))).length = M := by simp [cK]; omega
          rw [h2] at h1
          rw [h1, hlow, show R - L = (M - L) + (R - M) by omega, lJ, ← hsh]
          simp [pints]
        rw [e]
        walk_at "wsub"
theorem vQ {cn ci ca : Addr} {n : Nat} (hn1 : 1 ≤ n) (hn : n ≤ 2 ^ 20) : ∀ (lvl : Nat) {d : Nat}, d + lvl < recursionLimit → ∀ {l : List PV} {x : Int} {L R : Nat}, L < R → R ≤ l.length → l.length ≤ 2 ^ 20 → R - L ≤ 2 ^ lvl → 0 ≤ x → x < 2 ^ (n * (R - L)) → n * l.length ≤ 2 ^ 24 →
    sO C d (cl5 cn ci ca) n l x L R := by
  intro lvl
  induction lvl with
  | zero =>
    intro d hd l x L R hLR hR hlen hl hx0 hx1 hnl
    exact jH hn1 hn (by walk_at "o") hLR hR hlen hx0 hx1 hnl fun h => by (exfalso; omega)
  | succ lvl ih =>
    intro d hd l x L R hLR hR hlen hl hx0 hx1 hnl
    refine jH hn1 hn (by exact Nat.lt_of_add_right_lt hd) hLR hR hlen hx0 hx1 hnl fun h => ?_
    intro l' y L' R' h1 h2 h3 h4 h5 h6
    exact ih (by omega) h1 h2 (by omega) (by rw [Nat.pow_succ] at hl; omega) h5 h6 (by rw [h3]; exact hnl)
end
local macro_rules | `(tactic| walk_at "wsub") => `(tactic| (repeat (first | exact WSub.nil | (refine WSub.c (by walk_at "lk") (by walk_at "free") ?_) | (refine WSub.o (by walk_at "lk") rfl ?_))))
section
variable {C : Cx}
noncomputable def nPos (i k : Nat) : Pos := match (fBody i)[k]? with
  | some (.FunctionDef _ _ _ _ _ _ _ _ _ p) => p
  | _ => ⟨0, 0, 0, 0⟩
theorem jI (p : PV) : ∀ k : Nat, (List.replicate k [p]).flatten = List.replicate k p
  | 0 => rfl
  | k + 1 => by rw [List.replicate_succ, List.flatten_cons, jI p k]; rfl
noncomputable def cnt (n : Nat) (a : Int) : Nat := (Builtin.Int.intBits a + n - 1) / n
theorem yN {n : Nat} (hn : 1 ≤ n) {a : Int} (h0 : 0 ≤ a) : a < 2 ^ (n * cnt n a) := by
  have h1 := fR h0
  have h2 : Builtin.Int.intBits a ≤ n * cnt n a := by
    unfold cnt
    have := Nat.div_add_mod (Builtin.Int.intBits a + n - 1) n
    have := Nat.mod_lt (Builtin.Int.intBits a + n - 1) (show 0 < n by exact hn)
    walk_at "o"
  have h3 : (2 : Int) ^ Builtin.Int.intBits a ≤ 2 ^ (n * cnt n a) := by
    rw [← kbt_cast, ← kbt_cast]; exact Int.ofNat_le.mpr (Nat.pow_le_pow_right (by decide) h2)
  exact Int.lt_of_lt_of_le h1 h3
theorem yO {n : Nat} (hn : 1 ≤ n) {a : Int} {B : Nat} (h : Builtin.Int.intBits a ≤ B) : cnt n a ≤ B ∧ n * cnt n a ≤ B + n := by
  unfold cnt
  have h1 := Nat.div_mul_le_self (Builtin.Int.intBits a + n - 1) n
  rw [Nat.mul_comm] at h1
  refine ⟨?_, by walk_at "o"⟩
  have h2 : Builtin.Int.intBits a + n - 1 < (B + 1) * n := by
    have : B + 1 ≤ (B + 1) * n ∧ Builtin.Int.intBits a + n - 1 ≤ B + n - 1 := ⟨Nat.le_mul_of_pos_right _ hn, by walk_at "o"⟩
    have h3 : (B + 1) * n = B * n + n := by rw [Nat.add_mul, Nat.one_mul]
    have h4 : B ≤ B * n := Nat.le_mul_of_pos_right _ hn
    walk_at "o"
  have := (Nat.div_lt_iff_lt_mul (show 0 < n by exact hn)).mpr h2
  exact Nat.le_of_lt_succ this
set_option maxHeartbeats 4000000 in
theorem mD (K : dG C) {a5 c P : Addr} (F5 : FnT C 5 "_int2digits" a5 (.ref c)) (N : NestOk C c P (nPos 5 1) q5) (B : BmOk C) (gl : C.mg (Str.ofString "len") = none ∧ C.mb (Str.ofString "len") = some (.builtin "len")) {d : Nat} (hD : d + 24 < recursionLimit) {a : Int} {n : Nat} (hn1 : 1 ≤ n) (hn : n ≤ 2 ^ 19) (ha : 0 ≤ a) (hb : Builtin.Int.intBits a ≤ 2 ^ 19) :
    Calls C d (.ref a5) [.int a, .int n] (.lst (pints (dig n a (cnt n a)))) := by
  have hz := aC
  obtain ⟨k, hk⟩ : ∃ k, k = cnt n a := ⟨_, rfl⟩
  obtain ⟨hk1, hk2⟩ := yO hn1 hb
  have hk3 := yN hn1 ha
  rw [← hk] at hk1 hk2 hk3 ⊢
  refine Calls.cells F5.is (by exact Nat.lt_of_add_right_lt hD) (xs := ["a", "n"]) (glb := [("len", .fn (.builtin "len"))]) ?_ ?_ (by decide) rfl (by decide) rfl rfl rfl ?_ ?_
  · intro pm doc vs hv
    obtain ⟨v1, v2, rfl⟩ := kR hv; rfl
  · intro x hx
    simp only [List.mem_cons, List.not_mem_nil, or_false] at hx
    rcases hx with rfl | rfl
    · exact .inl rfl
    · exact .inr ⟨rfl, fun n => rfl⟩
  · exact .cons (fun _ _ => .fn _) rfl (.inr gl) .nil
  intro L
  refine Ex.cons (Es.assignNew (l := List.replicate k (.int 0)) ?new (by simp [PV.flat]) rfl (by walk_at "loc")) ?_
  case new =>
    refine EvNew.cast (EvNew.mul (p := [.int 0]) (x := k) ?l ?r (by exact Int.natCast_nonneg k) ?sz (by omega)) (by rw [Int.toNat_natCast, jI])
    case l => exact Ev.lst (.cons Ev.int (fun _ => rfl) .nil) ((nB rfl))
    case r =>
        apply Ev.cast
        · walk_at "go"
          · exact Int.natCast_ne_zero_iff_pos.mpr hn1
          · have e19 : (2 : Int) ^ 19 = 524288 := by decide
            refine qP (n := 1) (by exact Int.natCast_pos.mpr hn1) (by show (1 : Int) ≤ n; exact Int.toNat_le.mp hn1) (by omega) ?_
            have : Builtin.Int.intBits ((Builtin.Int.intBits a : Int) + n - 1) ≤ 21 := aN (by omega) (by rw [show (2 : Int) ^ 21 = 2097152 by decide]; omega)
            omega
        · have : ((Builtin.Int.intBits a : Int) + n - 1).fdiv n = k := by
            rw [hk, cnt, Int.fdiv_eq_ediv_of_nonneg _ (by exact Int.natCast_nonneg n), show (Builtin.Int.intBits a : Int) + n - 1 = ((Builtin.Int.intBits a + n - 1 : Nat) : Int) by omega]
            exact (Int.natCast_ediv _ _).symm
          rw [this]
    case sz =>
        rw [Int.toNat_natCast]
        simp
        omega
  refine Ex.cons (Es.nestDef (cl := cl5 (L + 1) (L + 3) (L + 2)) N B rfl rfl (by walk_at "loc") rfl rfl rfl) ?_
  have last : ∀ (m : Vars), Sub m [("a_digits", .mlst (pints (dig n a k)))] → Ex C (d + 1) (envC (Str.ofString "_int2digits") (fScope 5) L a5 (.ref c)) m ((fBody 5).drop 3) (.ret (.lst (pints (dig n a k)))) := by
    intro m hm
    refine Ex.sub hm (Ex.frozen (Ex.stop (Es.ret ?_)))
    exact Ev.name rfl (by decide)
  by_cases h0 : a = 0
  · refine Ex.cons (m' := [("a_digits", .mlst (pints (dig n a k)))]) (Es.less (Es.ifFalse ?t Ex.nil) ?s) (last _ (by walk_at "sub"))
    case t =>
      apply Ts.cast
      · exact Ts.val (Ev.name (by walk_at "lk") (by decide)) Tru.int (fun _ => rfl)
      · simp [h0]
    case s =>
      have : k = 0 := by
        rw [hk, h0]
        show (Builtin.Int.intBits 0 + n - 1) / n = 0
        have : Builtin.Int.intBits 0 = 0 := by decide
        rw [this]
        exact Nat.div_eq_of_lt (by omega)
      rw [this]
      walk_at "sub"
  · have hkp : 0 < k := by
      rcases Nat.eq_zero_or_pos k with h | h
      · rw [h] at hk3
        simp at hk3
        omega
      · exact h
    refine Ex.cons (m' := [("a_digits", .mlst (pints (dig n a k)))]) (Es.ifTrue ?t (Ex.cons (Es.callW (cl := cl5 (L + 1) (L + 3) (L + 2)) (mc := m5 (cl5 (L + 1) (L + 3) (L + 2)) (List.replicate k (.int 0)) n) (ps := [.int a, .int (0 : Nat), .int k]) (by walk_at "lk") (by decide) (by walk_at "nsub") (.cons rfl (.cons rfl (.cons rfl .nil))) ?args
      (vQ hn1 (by omega) 19 (d := d + 1) (by omega) hkp (by simp) (by simp; omega) (by walk_at "o") ha hk3 (by simp; omega)) (WSub.look ?ws) ⟨"a_digits", _, rfl⟩ rfl rfl rfl) Ex.nil)) (last _ (by walk_at "sub"))
    case t =>
      apply Ts.cast
      · exact Ts.val (Ev.name (by walk_at "lk") (by decide)) Tru.int (fun _ => rfl)
      · simp [h0]
    case args =>
      refine .cons (Ev.name (by walk_at "lk") (by decide)) (fun _ => rfl) (.cons Ev.int (fun _ => rfl) (.cons ?_ (fun _ => rfl) .nil))
      refine Ev.frozen ?_
      have hl : ((List.replicate k (PV.int 0)).length : Int) = k := by simp
      rw [← hl]
      refine Ev.callB (Ev.name (by walk_at "lk") (by decide)) (.cons (Ev.name rfl (by decide)) (fun _ => rfl) .nil) (Calls.lenLst (by simp; omega)) rfl
    case ws =>
      have e : put (List.replicate k (PV.int 0)) 0 (pints (dig n a (k - 0))) = pints (dig n a k) := by
        unfold put
        simp [cK]
      rw [e]
      walk_at "wsub"
end
section
variable {C : Cx}
noncomputable abbrev q6 : Str := Str.ofString "_digits2int" ++ Str.ofString ".<locals>." ++ Str.ofString "inner"
noncomputable abbrev cl6 (cn ci ca : Addr) : List (Str × Addr) := [("n", cn), ("inner", ci), ("digits", ca)]
noncomputable abbrev F6 (cl : List (Str × Addr)) : PV := .sem (jO "inner" q6 (nParams 6 0) (nBody 6 0) (nScope 6 0) cl)
noncomputable abbrev m6 (cl : List (Str × Addr)) (ds : List Int) (n : Nat) : Vars := [("digits", .lst (pints ds)), ("inner", F6 cl), ("n", .int n)]
noncomputable abbrev sN (C : Cx) (d : Nat) (cl : List (Str × Addr)) (n : Nat) (ds : List Int) (L R : Nat) : Prop :=
  lX C d "inner" q6 (nParams 6 0) (nBody 6 0) (nScope 6 0) cl (m6 cl ds n) [.int L, .int R] (.int (und n ((ds.drop L).take (R - L))))
theorem zBu {cl : List (Str × Addr)} {n : Nat} (ds : List Int) (x : Str) (p : PV) (e : (m6 cl ds n).lookup x = some p) : ((nScope 6 0).names.lookup x = some .free ∧ (x == ("__classdict__" : Str)) = false) ∧ p.imm = true := by
  simp only [List.lookup_cons, List.lookup_nil] at e
  by_cases h1 : x == Str.ofString "digits"
  · simp only [h1] at e
    have := eq_of_beq h1
    subst this
    cases e
    exact ⟨⟨rfl, by decide⟩, rfl⟩
  · by_cases h2 : x == Str.ofString "inner"
    · simp only [h1, h2] at e
      have := eq_of_beq h2
      subst this
      cases e
      exact ⟨⟨rfl, by decide⟩, rfl⟩
    · by_cases h3 : x == Str.ofString "n"
      · simp only [h1, h2, h3] at e
        have := eq_of_beq h3
        subst this
        cases e
        exact ⟨⟨rfl, by decide⟩, rfl⟩
      · simp [h1, h2, h3] at e
theorem zIp {cl : List (Str × Addr)} : ∀ doc pm cdv ct (vs : List Value), vs.length = [("L" : Str), "R"].length → bindArgs (fnX "inner" q6 (nParams 6 0) (nBody 6 0) (nScope 6 0) cl .none .none doc pm none cdv ct) ⟨vs, []⟩ = pure ([("L" : Str), "R"].zip vs) := by
  intro doc pm cdv ct vs hv
  obtain ⟨v1, v2, rfl⟩ := kR hv; rfl
theorem iK (ds : List Int) (i : Nat) (h : i < ds.length) : (pints ds)[i]? = some (.int ds[i]) := by
  simp [pints, List.getElem?_eq_getElem h]
set_option maxHeartbeats 4000000 in
theorem jG {cn ci ca : Addr} {n : Nat} (hn1 : 1 ≤ n) (hn : n ≤ 2 ^ 20) {d : Nat} (hd : d < recursionLimit) {ds : List Int} {L R : Nat} (hLR : L < R) (hR : R ≤ ds.length) (hlen : ds.length ≤ 2 ^ 20) (hds : ∀ d ∈ ds, 0 ≤ d ∧ d < 2 ^ n) (hnl : n * ds.length ≤ 2 ^ 24)
    (ih : L + 1 ≠ R → ∀ {L' R' : Nat}, L' < R' → R' ≤ ds.length → R' - L' ≤ (R - L + 1) / 2 → sN C (d + 1) (cl6 cn ci ca) n ds L' R') :
    sN C d (cl6 cn ci ca) n ds L R := by
  refine lX.of (glb := []) hd zIp (by decide) (by decide) rfl (by decide) rfl rfl rfl (by show [("n" : Str), "inner", "digits"].Nodup; decide) (fun x p e => (zBu ds x p e).1) .nil (fun x p e => (zBu ds x p e).2) ?_
  intro La fa cdv
  by_cases hbase : L + 1 = R
  · refine Ex.stop (Es.ifTrue ?t (Ex.stop (Es.ret ?r)))
    case t =>
      apply Ts.cast
      · walk_at "go"
      · rw [beq_iff_eq]; exact Eq.symm ((fun {a b} => Int.neg_inj.mp) (congrArg Neg.neg (congrArg Nat.cast (id (Eq.symm hbase)))))
    case r =>
      have hv : und n ((ds.drop L).take (R - L)) = ds[L]'(by omega) := by
        rw [show R - L = 1 by exact Eq.symm (Nat.eq_sub_of_add_eq' hbase), List.drop_eq_getElem_cons (by omega : L < ds.length)]
        simp only [List.take_succ_cons, List.take_zero, und]
        omega
      rw [hv]
      refine Ev.sub1 (Ev.name (by walk_at "lk") (by decide)) (Ev.name (by walk_at "lk") (by decide)) (Get.lst (by exact Int.natCast_nonneg L) (by omega) ?_) rfl ⟨_, PySem.slot_list_getitem.lookup⟩ (fun _ _ => rfl)
      rw [Int.toNat_natCast]
      exact iK ds L (by omega)
  · obtain ⟨M, hM⟩ : ∃ M, M = (L + R) / 2 := ⟨_, rfl⟩
    obtain ⟨sh, hsh⟩ : ∃ sh, sh = n * (M - L) := ⟨_, rfl⟩
    have hMl : L < M := by omega
    have hMr : M < R := by omega
    have e24 : (2 : Int) ^ 24 = 16777216 := by decide
    have hM24 : (M : Int) - L < 2 ^ 24 := by omega
    have hn24 : (n : Int) < 2 ^ 24 := by omega
    have hsh24 : sh ≤ 2 ^ 24 := Nat.le_trans (by rw [hsh]; exact Nat.mul_le_mul_left _ (by omega)) hnl
    have hseg : ∀ i j, ∀ d ∈ (ds.drop i).take j, 0 ≤ d ∧ d < 2 ^ n := fun i j d h => hds d (List.mem_of_mem_drop (List.mem_of_mem_take h))
    have hbits : Builtin.Int.intBits (und n ((ds.drop M).take (R - M))) ≤ 2 ^ 24 := by
      obtain ⟨u1, u2⟩ := wJ n _ (hseg M (R - M))
      refine Nat.le_trans (aN u1 u2) (Nat.le_trans (Nat.mul_le_mul_left _ ?_) hnl)
      simp; omega
    refine Ex.cons (Es.ifFalse ?t Ex.nil) ?_
    case t =>
      apply Ts.cast
      · walk_at "go"
      · rw [beq_eq_false_iff_ne]; exact Nat.ToInt.of_diseq rfl rfl hbase
    refine Ex.cons (Es.assign (p := .int M) ?mid rfl (by walk_at "loc")) ?_
    case mid =>
      apply Ev.cast
      · walk_at "go"
        decide
      · have : ((L : Int) + R).fdiv (2 ^ (1 : Int).toNat) = M := by
          rw [show (2 : Int) ^ (1 : Int).toNat = 2 from rfl, Int.fdiv_eq_ediv_of_nonneg _ (by decide)]; exact Eq.symm ((fun {a b} => Int.neg_inj.mp) (congrArg Neg.neg (congrArg Nat.cast hM)))
        rw [this]
    refine Ex.cons (Es.assign (p := .int sh) ?shift rfl (by walk_at "loc")) ?_
    case shift =>
      apply Ev.cast
      · walk_at "go"
        exact mulOk_of_bits (m := 24) (n := 24) (aN (by omega) hM24) (aN (by exact Int.natCast_nonneg n) hn24) (by decide)
      · have : ((M : Int) - L) * n = sh := by rw [hsh, Int.natCast_mul, Int.mul_comm, Int.natCast_sub (by exact Nat.le_of_succ_le hMl)]
        rw [this]
    refine Ex.stop (Es.ret ?_)
    have hv : und n ((ds.drop L).take (R - L)) = und n ((ds.drop M).take (R - M)) * 2 ^ ((sh : Int)).toNat + und n ((ds.drop L).take (M - L)) := by
      have h1 : (ds.drop L).take (R - L) = (ds.drop L).take (M - L) ++ (ds.drop M).take (R - M) := by
        rw [show R - L = (M - L) + (R - M) by omega, List.take_add, List.drop_drop, show L + (M - L) = M by omega]
      have h2 : ((ds.drop L).take (M - L)).length = M - L := by simp; omega
      rw [h1, kA, h2, Int.toNat_natCast, hsh]
      exact Int.add_comm (und n (List.take (M - L) (List.drop L ds))) (und n (List.take (R - M) (List.drop M ds)) * 2 ^ (n * (M - L)))
    rw [hv]
    refine Ev.bin (Ev.bin (Ev.callR (ps := [.int M, .int R]) (by walk_at "lk") (by decide) (by walk_at "nsub") (.cons rfl (.cons rfl (.cons rfl .nil))) ?a1 (ih hbase hMr hR (by omega)) rfl) ?sh (Bin.shl (by exact Int.natCast_nonneg sh) (by omega))) (Ev.callR (ps := [.int L, .int M]) (by walk_at "lk") (by decide) (by walk_at "nsub") (.cons rfl (.cons rfl (.cons rfl .nil))) ?a2 (ih hbase hMl (by omega) (by omega)) rfl) Bin.add
    case a1 => walk_at "go"
    case a2 => walk_at "go"
    case sh => walk_at "go"
theorem vP {cn ci ca : Addr} {n : Nat} (hn1 : 1 ≤ n) (hn : n ≤ 2 ^ 20) {ds : List Int} (hlen : ds.length ≤ 2 ^ 20) (hds : ∀ d ∈ ds, 0 ≤ d ∧ d < 2 ^ n) (hnl : n * ds.length ≤ 2 ^ 24) : ∀ (lvl : Nat) {d : Nat}, d + lvl < recursionLimit → ∀ {L R : Nat}, L < R → R ≤ ds.length → R - L ≤ 2 ^ lvl →
    sN C d (cl6 cn ci ca) n ds L R := by
  intro lvl
  induction lvl with
  | zero =>
    intro d hd L R hLR hR hl
    exact jG hn1 hn (by walk_at "o") hLR hR hlen hds hnl fun h => by (exfalso; omega)
  | succ lvl ih =>
    intro d hd L R hLR hR hl
    refine jG hn1 hn (by exact Nat.lt_of_add_right_lt hd) hLR hR hlen hds hnl fun h => ?_
    intro L' R' h1 h2 h3
    exact ih (by omega) h1 h2 (by rw [Nat.pow_succ] at hl; omega)
set_option maxHeartbeats 4000000 in
theorem mG (K : dG C) {a6 c P : Addr} (F : FnT C 6 "_digits2int" a6 (.ref c)) (N : NestOk C c P (nPos 6 0) q6) (B : BmOk C) (gl : C.mg (Str.ofString "len") = none ∧ C.mb (Str.ofString "len") = some (.builtin "len")) {d : Nat} (hD : d + 24 < recursionLimit) {ds : List Int} {n : Nat} (hn1 : 1 ≤ n) (hn : n ≤ 2 ^ 20) (hlen : ds.length ≤ 2 ^ 20) (hds : ∀ d ∈ ds, 0 ≤ d ∧ d < 2 ^ n) (hnl : n * ds.length ≤ 2 ^ 24) :
    Calls C d (.ref a6) [.lst (pints ds), .int n] (.int (und n ds)) := by
  have hz := aC
  refine Calls.cells F.is (by exact Nat.lt_of_add_right_lt hD) (xs := ["digits", "n"]) (glb := [("len", .fn (.builtin "len"))]) ?_ ?_ (by decide) rfl (by decide) rfl rfl rfl ?_ ?_
  · intro pm doc vs hv
    obtain ⟨v1, v2, rfl⟩ := kR hv; rfl
  · intro x hx
    simp only [List.mem_cons, List.not_mem_nil, or_false] at hx
    rcases hx with rfl | rfl
    · exact .inr ⟨rfl, fun n => rfl⟩
    · exact .inr ⟨rfl, fun n => rfl⟩
  · exact .cons (fun _ _ => .fn _) rfl (.inr gl) .nil
  intro L
  refine Ex.cons (Es.nestDef (cl := cl6 (L + 2) (L + 3) (L + 1)) N B rfl rfl (by walk_at "loc") rfl rfl rfl) ?_
  refine Ex.stop (Es.ret ?_)
  cases ds with
  | nil => exact Ev.ifFalse (Ts.cast (Ts.val (Ev.name (by walk_at "lk") (by decide)) (Tru.lst (l := pints []) (by simp)) (fun _ => rfl)) rfl) Ev.int
  | cons x ds =>
    have hv : und n (((x :: ds).drop 0).take ((x :: ds).length - 0)) = und n (x :: ds) := by simp
    rw [← hv]
    refine Ev.ifTrue (Ts.cast (Ts.val (Ev.name (by walk_at "lk") (by decide)) (Tru.lst (l := pints (x :: ds)) (by simp at hlen ⊢; omega)) (fun _ => rfl)) rfl) (Ev.callR (cl := cl6 (L + 2) (L + 3) (L + 1)) (mc := m6 (cl6 (L + 2) (L + 3) (L + 1)) (x :: ds) n) (ps := [.int (0 : Nat), .int (x :: ds).length]) (by walk_at "lk") (by decide) (by walk_at "nsub") (.cons rfl (.cons rfl (.cons rfl .nil))) ?args (vP hn1 hn hlen hds hnl 20 (by omega) (by simp) (Nat.le_refl _) (by exact hlen)) rfl)
    refine .cons Ev.int (fun _ => rfl) (.cons ?_ (fun _ => rfl) .nil)
    have hl : ((pints (x :: ds)).length : Int) = (x :: ds).length := by simp
    rw [← hl]
    refine Ev.callB (Ev.name (by walk_at "lk") (by decide)) (.cons (Ev.name (by walk_at "lk") (by decide)) (fun _ => rfl) .nil) (Calls.lenLst (by simp at hlen ⊢; omega)) rfl
end
section
variable {C : Cx}
noncomputable def rem (n : Nat) (b : Int) (f : Nat → Int) : Nat → Int
  | 0 => 0
  | i + 1 => (rem n b f i * 2 ^ n + f i).fmod b
noncomputable def quo (n : Nat) (b : Int) (f : Nat → Int) (i : Nat) : Int := (rem n b f i * 2 ^ n + f i).fdiv b
theorem iJ {n : Nat} {b : Int} {f : Nat → Int} (hb : 0 < b) : ∀ i, 0 ≤ rem n b f i ∧ rem n b f i < b
  | 0 => ⟨Int.le_refl _, hb⟩
  | i + 1 => (aM _ hb).2
theorem nC {n : Nat} {b : Int} {f : Nat → Int} (hb : 0 < b) {i : Nat} (hf : 0 ≤ f i ∧ f i < 2 ^ n) : 0 ≤ rem n b f i * 2 ^ n + f i ∧ rem n b f i * 2 ^ n + f i < b * 2 ^ n ∧ 0 ≤ quo n b f i ∧ quo n b f i < 2 ^ n := by
  obtain ⟨h1, h2⟩ := iJ (n := n) (f := f) hb i
  have hp := bE n
  have h3 := Int.mul_nonneg h1 (Int.le_of_lt hp)
  have h4 := Int.mul_le_mul_of_nonneg_right (show rem n b f i + 1 ≤ b by exact h2) (Int.le_of_lt hp)
  rw [Int.add_mul] at h4
  have h5 : rem n b f i * 2 ^ n + f i < b * 2 ^ n := by omega
  exact ⟨by omega, h5, bG (by omega) hb, eS hb h5⟩
theorem fE (l : List Int) {i : Nat} (h : i < l.length) : l.getD i 0 = l[i] := by simp [List.getD, h]
theorem tC {n : Nat} {b : Int} {rs : List Int} (hb : 0 < b) : ∀ i, i ≤ rs.length →
    und n (((List.range i).map (quo n b fun j => rs.getD j 0)).reverse) * b + rem n b (fun j => rs.getD j 0) i = und n ((rs.take i).reverse)
  | 0, _ => by simp [und, rem]
  | i + 1, h => by
    have ih := tC (n := n) (rs := rs) hb i (by exact Nat.le_of_succ_le h)
    have hl : i < rs.length := by exact h
    have e : rs.getD i 0 = rs[i] := fE _ hl
    refine bZ (aM (rem n b (fun j => rs.getD j 0) i * 2 ^ n + rs.getD i 0) hb) fun h1 h2 h3 => ?_
    have e1 : ((List.range (i + 1)).map (quo n b fun j => rs.getD j 0)).reverse = quo n b (fun j => rs.getD j 0) i :: ((List.range i).map (quo n b fun j => rs.getD j 0)).reverse := by
      rw [List.range_succ, List.map_append, List.reverse_append]; rfl
    have e2 : (rs.take (i + 1)).reverse = rs[i] :: (rs.take i).reverse := by
      rw [List.take_add_one, List.reverse_append, List.getElem?_eq_getElem hl]; rfl
    rw [e1, e2, ← e]
    show (quo n b _ i + und n _ * 2 ^ n) * b + (rem n b (fun j => rs.getD j 0) i * 2 ^ n + rs.getD i 0).fmod b = rs.getD i 0 + und n _ * 2 ^ n
    rw [← ih]
    show ((rem n b (fun j => rs.getD j 0) i * 2 ^ n + rs.getD i 0).fdiv b + _) * b + (rem n b (fun j => rs.getD j 0) i * 2 ^ n + rs.getD i 0).fmod b = _
    generalize (rem n b (fun j => rs.getD j 0) i * 2 ^ n + rs.getD i 0).fdiv b = q at *
    generalize (rem n b (fun j => rs.getD j 0) i * 2 ^ n + rs.getD i 0).fmod b = r at *
    generalize und n (((List.range i).map (quo n b fun j => rs.getD j 0)).reverse) = u at *
    generalize (2 : Int) ^ n = B at *
    grind
structure rO (C : Cx) : Prop where
  K : dG C
  B : BmOk C
  f3 : ∃ a cd, FnT C 4 "_div3n2n" a cd
  f2 : ∃ a cd, FnT C 3 "_div2n1n" a cd
  lim : ∃ tk, C.mg (Str.ofString "_DIV_LIMIT") = some (.int 4000 tk)
  dm : C.mg (Str.ofString "divmod") = none ∧ C.mb (Str.ofString "divmod") = some (.builtin "divmod")
  len : C.mg (Str.ofString "len") = none ∧ C.mb (Str.ofString "len") = some (.builtin "len")
  rev : C.mg (Str.ofString "reversed") = none ∧ C.mb (Str.ofString "reversed") = some (.type "reversed")
  zde : C.mg (Str.ofString "ZeroDivisionError") = none ∧ C.mb (Str.ofString "ZeroDivisionError") = some (.type "ZeroDivisionError")
  f5 : ∃ a c P, FnT C 5 "_int2digits" a (.ref c) ∧ NestOk C c P (nPos 5 1) q5
  f6 : ∃ a c P, FnT C 6 "_digits2int" a (.ref c) ∧ NestOk C c P (nPos 6 0) q6
  f7 : ∃ a cd, FnT C 7 "_divmod_pos" a cd
  f8 : ∃ a cd, FnT C 8 "int_divmod" a cd
set_option maxHeartbeats 4000000 in
theorem divmod_pos_ok (T : rO C) {a7 : Addr} {cd : Value} (F : FnT C 7 "_divmod_pos" a7 cd) {d : Nat} (hD : d + 40 < recursionLimit) {a b : Int} (ha : 0 ≤ a) (hb : 0 < b) (hab : Builtin.Int.intBits a ≤ 2 ^ 18) (hbb : Builtin.Int.intBits b ≤ 2 ^ 18) :
    Calls C d (.ref a7) [.int a, .int b] (.tup [.int (a.fdiv b), .int (a.fmod b)]) := by
  have hz := aC
  refine cps fun Pz kz => ?_
  obtain ⟨K, B, ⟨a32, cd32, F3⟩, ⟨a21, cd21, F2⟩, ⟨tk, lim⟩, dm, len, rev, zde, ⟨a5, c5, P5, F5, N5⟩, ⟨a6, c6, P6, F6, N6⟩, f7, f8⟩ := T
  refine kz ?_; clear kz Pz
  refine Calls.plain F.is (by exact Nat.lt_of_add_right_lt hD) (xs := ["a", "b"]) (glb := [("_int2digits", .fn (.ref a5)), ("reversed", .fn (.type "reversed")), ("_div2n1n", .fn (.ref a21)), ("_digits2int", .fn (.ref a6))]) ?_ (by decide) (by decide) rfl (by decide) rfl rfl rfl ?_ ?_
  · intro pm doc vs hv
    obtain ⟨v1, v2, rfl⟩ := kR hv; rfl
  · exact .cons (fun _ _ => .fn _) rfl (.inl F5.g) (.cons (fun _ _ => .fn _) rfl (.inr rev) (.cons (fun _ _ => .fn _) rfl (.inl F2.g) (.cons (fun _ _ => .fn _) rfl (.inl F6.g) .nil)))
  intro L
  obtain ⟨n, hn⟩ : ∃ n, n = Builtin.Int.intBits b := ⟨_, rfl⟩
  have hb1 : 2 ^ (n - 1) ≤ b := hn ▸ sG hb
  have hb2 : b < 2 ^ n := hn ▸ fR (Int.le_of_lt hb)
  have hn1 : 1 ≤ n := by
    rcases Nat.eq_zero_or_pos n with h | h
    · rw [h] at hb2; simp at hb2; omega
    · exact h
  rw [← hn] at hbb
  obtain ⟨k, hk⟩ : ∃ k, k = cnt n a := ⟨_, rfl⟩
  obtain ⟨hk1, hk2⟩ := yO hn1 hab
  have hk3 := yN hn1 ha
  rw [← hk] at hk1 hk2 hk3
  obtain ⟨ds, hds⟩ : ∃ ds, ds = dig n a k := ⟨_, rfl⟩
  have hlen : ds.length = k := by rw [hds, cK]
  have hran : ∀ d ∈ ds, 0 ≤ d ∧ d < 2 ^ n := by rw [hds]; exact oN n k a
  have hund : und n ds = a := by rw [hds]; exact sU n k ha hk3
  generalize hf : (fun j => ds.reverse.getD j 0) = f
  have hfr : ∀ i, i < k → 0 ≤ f i ∧ f i < 2 ^ n := by
    intro i hi
    have hl : i < ds.reverse.length := by simp; exact Nat.lt_of_lt_of_eq hi (id (Eq.symm hlen))
    rw [← hf]
    show 0 ≤ ds.reverse.getD i 0 ∧ ds.reverse.getD i 0 < 2 ^ n
    have : ds.reverse.getD i 0 = ds.reverse[i] := fE _ hl
    rw [this]
    exact hran _ (List.mem_reverse.mp (List.getElem_mem hl))
  refine Ex.cons (Es.assign (p := .int n) ?nn rfl (by walk_at "loc")) ?_
  case nn =>
    rw [hn]
    walk_at "go"
  refine Ex.cons (Es.assign (p := .lst (pints ds)) ?ad rfl (by walk_at "loc")) ?_
  case ad =>
    rw [hds, hk]
    refine Ev.callF F5.is.at (Ev.name (by walk_at "lk") (by decide)) (ps := [.int a, .int n]) ?_ (mD K F5 N5 B len (by omega) hn1 (by omega) ha (by omega)) rfl
    walk_at "go"
  refine Ex.cons (Es.assign (p := .int 0) Ev.int rfl (by walk_at "loc")) ?_
  refine Ex.cons (Es.assignNew (l := []) EvNew.nil rfl rfl (by walk_at "loc")) ?_
  refine Ex.cons (m' := [("q_digits", .mlst (pints ((List.range k).map (quo n b f)))), ("r", .int (rem n b f k)), ("b", .int b), ("n", .int n), ("_digits2int", .fn (.ref a6))])
    (Es.less (Es.forTo (fun i => [("q_digits", .mlst (pints ((List.range i).map (quo n b f)))), ("r", .int (rem n b f i)), ("b", .int b), ("n", .int n), ("_div2n1n", .fn (.ref a21)), ("_digits2int", .fn (.ref a6))]) k (by walk_at "sub")
      (EvIt.reversed (l := pints ds) (Ev.name (by walk_at "lk") (by decide)) (Ev.name (by walk_at "lk") (by decide)) (fun _ => rfl) rfl) (by walk_at "loc") ?body (.inl ⟨by simp [hlen], rfl⟩)) (by walk_at "sub")) ?_
  case body =>
    intro i q hi hq
    obtain ⟨v, rfl, hv⟩ : ∃ v, q = .int v ∧ v = f i := by
      have hl : i < ds.reverse.length := by simp; exact Nat.lt_of_lt_of_eq hi (id (Eq.symm hlen))
      have : (pints ds).reverse = pints ds.reverse := by simp [pints]
      rw [this, iK _ _ hl] at hq
      refine ⟨_, (Option.some.inj hq).symm, ?_⟩
      rw [← hf]
      exact (fE _ hl).symm
    subst hv
    refine yF (nC (n := n) hb (hfr i hi)) fun w1 w2 w3 w4 => ?_
    obtain ⟨r1, r2⟩ := iJ (n := n) (f := f) hb i
    refine Ex.cons (Es.unpack (xs := ["q_digit", "r"]) (ps := [.int (quo n b f i), .int (rem n b f (i + 1))]) ?call rfl (by walk_at "locs") (.cons (.cons .nil)) rfl rfl) ?_
    case call =>
      refine Ev.callF F2.is.at (Ev.name (by walk_at "lk") (by decide)) (ps := [.int (rem n b f i * 2 ^ n + f i), .int b, .int n]) ?_ (yH K F3 F2 lim dm 8 (by omega) (by omega) (by omega) hn1 hb1 hb2 w1 w2) rfl
      refine .cons ?_ (fun _ => rfl) ?_
      · apply Ev.cast
        · walk_at "go"
          · exact Int.natCast_nonneg n
          · have : Builtin.Int.intBits (rem n b f i) ≤ n := aN r1 (by exact Int.lt_trans r2 hb2)
            omega
        · rw [Int.toNat_natCast]
      · walk_at "go"
    refine Ex.cons (Es.sub (m' := [("q_digits", .mlst (pints ((List.range i).map (quo n b f)))), ("q_digit", .int (quo n b f i)), ("r", .int (rem n b f (i + 1))), ("b", .int b), ("n", .int n), ("_div2n1n", .fn (.ref a21)), ("_digits2int", .fn (.ref a6))]) (by walk_at "sub")
      (Es.append (p := .int (quo n b f i)) (Ev.name (by walk_at "lk") (by decide)) rfl (by simp; omega) rfl (by decide) (fun _ => rfl))) (Ex.less Ex.nil ?_)
    have : pints ((List.range (i + 1)).map (quo n b f)) = pints ((List.range i).map (quo n b f)) ++ [.int (quo n b f i)] := by
      rw [List.range_succ]; simp [pints]
    rw [this]
    walk_at "sub"
  refine Ex.cons (Es.reverse rfl (by simp; omega) rfl (by decide)) ?_
  have hrev : (pints ((List.range k).map (quo n b f))).reverse = pints (((List.range k).map (quo n b f)).reverse) := by simp [pints]
  rw [hrev]
  have hq := tC (n := n) (rs := ds.reverse) hb k (by simp; exact Nat.le_of_eq (id (Eq.symm hlen)))
  rw [hf] at hq
  have ht : (ds.reverse.take k).reverse = ds := by
    rw [List.take_of_length_le (by simp; exact Nat.le_of_eq hlen), List.reverse_reverse]
  rw [ht, hund] at hq
  obtain ⟨r1, r2⟩ := iJ (n := n) (f := f) hb k
  obtain ⟨z1, z2⟩ := dA hb hq r1 r2
  refine Ex.cons (m' := [("q", .int (a.fdiv b)), ("r", .int (a.fmod b))]) (Es.less (Es.assign (p := .int (a.fdiv b)) ?q rfl (by walk_at "loc")) (by rw [z2]; walk_at "sub")) ?_
  case q =>
    refine Ev.frozen ?_
    rw [z1]
    refine Ev.callF F6.is.at (Ev.name rfl (by decide)) (ps := [.lst (pints (((List.range k).map (quo n b f)).reverse)), .int n]) ?_ (mG K F6 N6 B len (by omega) hn1 (by omega) (by simp; omega) ?_ (by simp; omega)) rfl
    · exact .cons (Ev.name rfl (by decide)) (fun _ => rfl) (.cons (Ev.name rfl (by decide)) (fun _ => rfl) .nil)
    · intro d hd
      obtain ⟨i, hi, rfl⟩ := mM (List.mem_reverse.mp hd)
      exact (nC hb (hfr i (List.mem_range.mp hi))).2.2
  refine Ex.stop (Es.ret ?_)
  walk_at "go"
end
section
variable {C : Cx}
theorem kZ (a : Int) {b : Int} (hb : 0 < b) : (-a).fdiv (-b) = a.fdiv b ∧ (-a).fmod (-b) = -(a.fmod b) := by
  have h1 : (-a).fdiv (-b) = a.fdiv b := by
    cases a with
    | ofNat a =>
      cases b with
      | ofNat b =>
        cases a with
        | zero => simp
        | succ a =>
          cases b with
          | zero => simp at hb
          | succ b => rfl
      | negSucc b => exact Int.neg_fdiv_neg (Int.ofNat a) (Int.negSucc b)
    | negSucc a =>
      cases b with
      | ofNat b =>
        cases b with
        | zero => simp at hb
        | succ b =>  rfl
      | negSucc b => exact Eq.refl ((-Int.negSucc a).fdiv (-Int.negSucc b))
  refine ⟨h1, ?_⟩
  have h2 := Int.fmod_add_mul_fdiv a b
  have h3 := Int.fmod_add_mul_fdiv (-a) (-b)
  rw [h1, Int.neg_mul] at h3
  exact Int.neg_fmod_neg a b
theorem zAv (a : Int) {b : Int} (hb : 0 < b) : a.fdiv b = -((-a - 1).fdiv b) - 1 ∧ a.fmod b = b + (-((-a - 1).fmod b) - 1) := by
  refine bZ (aM (-a - 1) hb) fun h1 h2 h3 => ?_
  have := dA (a := a) (b := b) (q := -((-a - 1).fdiv b) - 1) (r := b + (-((-a - 1).fmod b) - 1)) hb (by
    rw [Int.sub_mul, Int.neg_mul]; walk_at "o") (by walk_at "o") (by walk_at "o")
  exact this
theorem lP (a : Int) : Builtin.Int.intBits (-a) = Builtin.Int.intBits a := by
  unfold Builtin.Int.intBits
  simp
theorem pO (T : rO C) {a8 : Addr} {cd : Value} (F : FnT C 8 "int_divmod" a8 cd) {a7 : Addr} (g7 : C.mg (Str.ofString "_divmod_pos") = some (.ref a7)) : GlobOk C (fScope 8) [("ZeroDivisionError", .fn (.type "ZeroDivisionError")), ("int_divmod", .fn (.ref a8)), ("_divmod_pos", .fn (.ref a7))] :=
  .cons (fun _ _ => .fn _) rfl (.inr T.zde) (.cons (fun _ _ => .fn _) rfl (.inl F.g) (.cons (fun _ _ => .fn _) rfl (.inl g7) .nil))
theorem yS : ∀ (cd pm doc : Value) (vs : List Value), vs.length = [("a" : Str), "b"].length → bindArgs (docDef (Str.ofString "int_divmod") (fParams 8) (fBody 8) (fScope 8) pm cd doc) ⟨vs, []⟩ = pure ([("a" : Str), "b"].zip vs) := by
  intro cd pm doc vs hv
  obtain ⟨v1, v2, rfl⟩ := kR hv; rfl
set_option maxHeartbeats 4000000 in
theorem int_divmod_pos (T : rO C) {a8 : Addr} {cd : Value} (F : FnT C 8 "int_divmod" a8 cd) {d : Nat} (hD : d + 41 < recursionLimit) {a b : Int} (ha : 0 ≤ a) (hb : 0 < b) (hab : Builtin.Int.intBits a ≤ 2 ^ 18) (hbb : Builtin.Int.intBits b ≤ 2 ^ 18) :
    Calls C d (.ref a8) [.int a, .int b] (.tup [.int (a.fdiv b), .int (a.fmod b)]) := by
  refine fG T.f7 fun a7 cd7 F7 => ?_
  refine Calls.plain F.is (by exact Nat.lt_of_add_right_lt hD) (yS _) (by decide) (by decide) rfl (by decide) rfl rfl rfl (pO T F F7.g) ?_
  intro L
  refine Ex.stop (Es.ifFalse ?t1 (Ex.stop (Es.ifFalse ?t2 (Ex.stop (Es.ifFalse ?t3 (Ex.stop (Es.ret ?r)))))))
  case t1 =>
    apply Ts.cast
    · walk_at "go"
    · rw [beq_eq_false_iff_ne]; exact Ne.symm (Int.ne_of_lt hb)
  case t2 =>
    apply Ts.cast
    · walk_at "go"
    · rw [decide_eq_false_iff_not]; exact Int.lt_asymm hb
  case t3 =>
    apply Ts.cast
    · walk_at "go"
    · rw [decide_eq_false_iff_not]; exact Int.not_lt_of_ge ha
  case r =>
    refine Ev.callF F7.is.at (Ev.name (by walk_at "lk") (by decide)) (ps := [.int a, .int b]) ?_ (divmod_pos_ok T F7 (by walk_at "o") ha hb hab hbb) rfl
    walk_at "go"
set_option maxHeartbeats 4000000 in
theorem int_divmod_posb (T : rO C) {a8 : Addr} {cd : Value} (F : FnT C 8 "int_divmod" a8 cd) {d : Nat} (hD : d + 42 < recursionLimit) {a b : Int} (hb : 0 < b) (hab : Builtin.Int.intBits a ≤ 2 ^ 17) (hbb : Builtin.Int.intBits b ≤ 2 ^ 17) :
    Calls C d (.ref a8) [.int a, .int b] (.tup [.int (a.fdiv b), .int (a.fmod b)]) := by
  rcases (by exact Or.symm (Int.lt_or_le a 0) : 0 ≤ a ∨ a < 0) with ha | ha
  · exact int_divmod_pos T F (by exact Nat.lt_of_succ_lt hD) ha hb (by omega) (by omega)
  refine fG T.f7 fun a7 cd7 F7 => ?_
  obtain ⟨k1, k2⟩ := zAv a hb
  have hbits : Builtin.Int.intBits (-a - 1) ≤ 2 ^ 18 := by
    have h1 : -a < 2 ^ Builtin.Int.intBits a := by
      rw [← lP]; exact fR (by omega)
    exact Nat.le_trans (aN (by omega) (by omega)) (show Builtin.Int.intBits a ≤ 2 ^ 18 by omega)
  refine Calls.plain F.is (by exact Nat.lt_of_add_right_lt hD) (yS _) (by decide) (by decide) rfl (by decide) rfl rfl rfl (pO T F F7.g) ?_
  intro L
  refine Ex.stop (Es.ifFalse ?t1 (Ex.stop (Es.ifFalse ?t2 (Ex.stop (Es.ifTrue ?t3 (Ex.cons (Es.unpack (xs := ["q", "r"]) (ps := [.int ((-a - 1).fdiv b), .int ((-a - 1).fmod b)]) ?call rfl (by walk_at "locs") (.cons (.cons .nil)) rfl rfl) (Ex.stop (Es.ret ?r))))))))
  case t1 =>
    apply Ts.cast
    · walk_at "go"
    · rw [beq_eq_false_iff_ne]; exact Ne.symm (Int.ne_of_lt hb)
  case t2 =>
    apply Ts.cast
    · walk_at "go"
    · rw [decide_eq_false_iff_not]; exact Int.lt_asymm hb
  case t3 =>
    apply Ts.cast
    · walk_at "go"
    · rw [decide_eq_true_eq]; exact ha
  case call =>
    refine Ev.callF F.is.at (Ev.name (by walk_at "lk") (by decide)) (ps := [.int (-a - 1), .int b]) ?_ (int_divmod_pos T F (by walk_at "o") (by omega) hb hbits (by omega)) rfl
    walk_at "go"
  case r =>
    rw [k1, k2]
    walk_at "go"
set_option maxHeartbeats 4000000 in
theorem int_divmod_ok (T : rO C) {a8 : Addr} {cd : Value} (F : FnT C 8 "int_divmod" a8 cd) {d : Nat} (hD : d + 43 < recursionLimit) {a b : Int} (hb : b ≠ 0) (hab : Builtin.Int.intBits a ≤ 2 ^ 17) (hbb : Builtin.Int.intBits b ≤ 2 ^ 17) :
    Calls C d (.ref a8) [.int a, .int b] (.tup [.int (a.fdiv b), .int (a.fmod b)]) := by
  rcases (by exact Int.ne_iff_lt_or_gt.mp (id (Ne.symm hb)) : 0 < b ∨ b < 0) with hb | hb
  · exact int_divmod_posb T F (by exact Nat.lt_of_succ_lt hD) hb hab hbb
  refine fG T.f7 fun a7 cd7 F7 => ?_
  obtain ⟨k1, k2⟩ := kZ (-a) (b := -b) (by exact Int.neg_pos_of_neg hb)
  rw [Int.neg_neg, Int.neg_neg] at k1 k2
  refine Calls.plain F.is (by exact Nat.lt_of_add_right_lt hD) (yS _) (by decide) (by decide) rfl (by decide) rfl rfl rfl (pO T F F7.g) ?_
  intro L
  refine Ex.stop (Es.ifFalse ?t1 (Ex.stop (Es.ifTrue ?t2 (Ex.cons (Es.unpack (xs := ["q", "r"]) (ps := [.int ((-a).fdiv (-b)), .int ((-a).fmod (-b))]) ?call rfl (by walk_at "locs") (.cons (.cons .nil)) rfl rfl) (Ex.stop (Es.ret ?r))))))
  case t1 =>
    apply Ts.cast
    · walk_at "go"
    · rw [beq_eq_false_iff_ne]; walk_at "o"
  case t2 =>
    apply Ts.cast
    · walk_at "go"
    · rw [decide_eq_true_eq]; exact hb
  case call =>
    refine Ev.callF F.is.at (Ev.name (by walk_at "lk") (by decide)) (ps := [.int (-a), .int (-b)]) ?_ (int_divmod_posb T F (by walk_at "o") (by exact Int.neg_pos_of_neg hb) (by rw [lP]; exact hab) (by rw [lP]; exact hbb)) rfl
    walk_at "go"
  case r =>
    rw [k1, k2]
    walk_at "go"
end
section
variable {C : Cx}
theorem zAd (l a : Int) (hl : l ≠ 0) : (l * a).fdiv l = a ∧ (l * a).fmod l = 0 := by
  have h1 : (l * a).fmod l = 0 := Int.mul_fmod_right l a
  have h2 := Int.fmod_add_mul_fdiv (l * a) l
  rw [h1] at h2
  exact ⟨Int.eq_of_mul_eq_mul_left hl (by omega), h1⟩
theorem zAw (a : Int) {b : Int} (hb : b ≠ 0) : a.fdiv b * b + a.fmod b = a ∧ 0 ≤ a.fmod b * b ∧ (a.fmod b).natAbs < b.natAbs := by
  have h2 := Int.fmod_add_mul_fdiv a b
  refine ⟨by rw [Int.mul_comm]; exact Int.mul_fdiv_add_fmod a b, ?_⟩
  rcases (by exact Int.ne_iff_lt_or_gt.mp (id (Ne.symm hb)) : 0 < b ∨ b < 0) with h | h
  · refine bZ (aM a h) fun _ h4 h5 => ?_
    exact ⟨Int.mul_nonneg h4 (by exact Int.le_of_lt h), by exact Int.natAbs_lt_natAbs_of_nonneg_of_lt h4 h5⟩
  · obtain ⟨k1, k2⟩ := kZ (-a) (b := -b) (by exact Int.neg_pos_of_neg h)
    rw [Int.neg_neg, Int.neg_neg] at k1 k2
    obtain ⟨_, h4, h5⟩ := aM (-a) (b := -b) (by exact Int.neg_pos_of_neg h)
    rw [k2]
    refine ⟨?_, by walk_at "o"⟩
    rw [Int.neg_mul_comm]
    exact Int.mul_nonneg h4 (by omega)
theorem jX (a : Int) : (if a < 0 then -a else a) = (a.natAbs : Int) := by split <;> omega
theorem oW {a b : Int} (h : a.natAbs ≤ b.natAbs) : Builtin.Int.intBits a ≤ Builtin.Int.intBits b := by
  refine pQ ?_
  have := lt_pow_of_bits (a := b) (Nat.le_refl _) (Nat.le_refl _)
  have h3 : b.natAbs < 2 ^ Builtin.Int.intBits b := by
    have e : ((2 ^ Builtin.Int.intBits b : Nat) : Int) = (2 : Int) ^ Builtin.Int.intBits b := kbt_cast _
    walk_at "o"
  exact Nat.lt_of_le_of_lt h this
theorem cJ {l : Int} (hl : l ≠ 0) (R : Int) : ∀ {i t : Nat}, i ≤ t → (l ^ i * R).natAbs ≤ (l ^ t * R).natAbs
  | i, t, h => by
    obtain ⟨j, rfl⟩ : ∃ j, t = i + j := ⟨t - i, by exact Eq.symm (Nat.add_sub_of_le h)⟩
    rw [Int.pow_add, Int.mul_assoc, Int.mul_comm (l ^ j) R, ← Int.mul_assoc, Int.natAbs_mul (l ^ i * R)]
    refine Nat.le_mul_of_pos_right _ ?_
    have : l ^ j ≠ 0 := Int.pow_ne_zero hl
    exact Int.natAbs_pos.mpr this
theorem zCp {R l q r : Int} (h0 : q * l + r = R) (h1 : (q * l).natAbs = q.natAbs * l.natAbs) (h2 : q.natAbs ≤ q.natAbs * l.natAbs) (h3 : r.natAbs < l.natAbs) : q.natAbs ≤ R.natAbs + l.natAbs := by
  have h4 : q * l = R - r := by rw [← h0, Int.add_sub_cancel]
  rw [← h1, h4] at h2
  exact Nat.le_trans h2 (Nat.le_trans (Int.natAbs_sub_le R r) (Nat.add_le_add_left (Nat.le_of_lt h3) _))
theorem pI (T : rO C) {a20 : Addr} {cd : Value} (F : FnT C 20 "_law_times" a20 cd) (ga : C.mg (Str.ofString "abs") = none ∧ C.mb (Str.ofString "abs") = some (.builtin "abs")) {d : Nat} (hD : d + 44 < recursionLimit) {l R : Int} {t : Nat} (hl : l ≠ 0) (hR : R.fmod l ≠ 0)
    (hb : Builtin.Int.intBits (l ^ t * R) ≤ 2 ^ 17) (hlb : Builtin.Int.intBits l ≤ 2 ^ 17) : Calls C d (.ref a20) [.int (l ^ t * R), .int l] (.int t) := by
  refine fG T.f8 fun a8 cd8 F8 => ?_
  refine Calls.plain F.is (by exact Nat.lt_of_add_right_lt hD) (xs := ["book", "line"]) (glb := [("int_divmod", .fn (.ref a8)), ("abs", .fn (.builtin "abs"))]) ?_ (by decide) (by decide) rfl (by decide) rfl rfl rfl ?_ ?_
  · intro pm doc vs hv
    obtain ⟨v1, v2, rfl⟩ := kR hv; rfl
  · exact .cons (fun _ _ => .fn _) rfl (.inl F8.g) (.cons (fun _ _ => .fn _) rfl (.inr ga) .nil)
  intro L
  have bits : ∀ x : Int, x.natAbs ≤ (l ^ t * R).natAbs → Builtin.Int.intBits x ≤ 2 ^ 17 := fun x h => Nat.le_trans (oW h) hb
  have bitsl : ∀ x : Int, x.natAbs ≤ l.natAbs → Builtin.Int.intBits x ≤ 2 ^ 17 := fun x h => Nat.le_trans (oW h) hlb
  refine Ex.cons (Es.assign (p := .int (0 : Nat)) Ev.int rfl (by walk_at "loc")) ?_
  refine Ex.stop (Es.sub (m' := [("times", .int ((t - t : Nat) : Int)), ("book", .int (l ^ t * R)), ("line", .int l), ("int_divmod", .fn (.ref a8)), ("abs", .fn (.builtin "abs"))]) (by rw [Nat.sub_self]; walk_at "sub")
    (Es.whileRet (fun i => [("times", .int ((t - i : Nat) : Int)), ("book", .int (l ^ i * R)), ("line", .int l), ("int_divmod", .fn (.ref a8)), ("abs", .fn (.builtin "abs"))]) t rfl (fun i hi => ?wt) (fun i hi => ?body) ?last))
  case wt => exact Ts.val Ev.bool Tru.bool (fun _ => rfl)
  case body =>
    have hx : l ^ (i + 1) * R = l * (l ^ i * R) := by rw [Int.pow_succ, Int.mul_comm (l ^ i) l, Int.mul_assoc]
    obtain ⟨k1, k2⟩ := zAd l (l ^ i * R) hl
    rw [← hx] at k1 k2
    have hle : (l ^ i * R).natAbs ≤ (l ^ t * R).natAbs := cJ hl R (by exact Nat.le_of_succ_le hi)
    have hle1 : (l ^ (i + 1) * R).natAbs ≤ (l ^ t * R).natAbs := cJ hl R (by exact hi)
    refine Ex.cons (Es.unpack (xs := ["quotient", "rest"]) (ps := [.int (l ^ i * R), .int 0]) ?call rfl (by walk_at "locs") (.cons (.cons .nil)) rfl rfl) ?_
    case call =>
      have := int_divmod_ok T F8 (d := d + 1) (by walk_at "o") (a := l ^ (i + 1) * R) hl (bits _ hle1) hlb
      rw [k1, k2] at this
      refine Ev.callF F8.is.at (Ev.name (by walk_at "lk") (by decide)) (ps := [.int (l ^ (i + 1) * R), .int l]) ?_ this rfl
      walk_at "go"
    refine Ex.cons (Es.ifFalse (Ts.orF ?c1 (Ts.orF ?c2 (Ts.orF ?c3 Ts.orNil))) Ex.nil) ?_
    case c1 =>
      apply Ts.cast
      · walk_at "go"
        exact mulOk_of_bits (bits _ hle) hlb (by decide)
      · rw [hx, Int.mul_comm l]; simp
    case c2 =>
      apply Ts.cast
      · walk_at "go"
        exact mulOk_of_bits (m := 1) (n := 2 ^ 17) (by decide) hlb (by decide)
      · simp
    case c3 =>
      apply Ts.cast
      · walk_at "go"
      · rw [jX, jX]; simp; walk_at "o"
    refine Ex.cons (Es.ifFalse ?c4 Ex.nil) ?_
    case c4 =>
      apply Ts.cast
      · walk_at "go"
      · rfl
    refine Ex.cons (Es.swap (xs := ["book", "times"]) (ps := [.int (l ^ i * R), .int ((t - i : Nat) : Int)]) ?sw rfl (by walk_at "locs") rfl rfl) (Ex.less Ex.nil (by walk_at "sub"))
    case sw =>
      apply Ev.cast
      · walk_at "go"
      · have : ((t - (i + 1) : Nat) : Int) + 1 = ((t - i : Nat) : Int) := by omega
        rw [this]
  case last =>
    simp only [Int.pow_zero, Int.one_mul]
    refine bZ (zAw R hl) fun k1 k2 k3 => ?_
    have hle : R.natAbs ≤ (l ^ t * R).natAbs := by simpa using cJ hl R (i := 0) (t := t) (by exact Nat.zero_le t)
    have hq : (R.fdiv l).natAbs ≤ R.natAbs + l.natAbs := by
      have h1 : (R.fdiv l * l).natAbs = (R.fdiv l).natAbs * l.natAbs := Int.natAbs_mul _ _
      have h2 : (R.fdiv l).natAbs ≤ (R.fdiv l).natAbs * l.natAbs := Nat.le_mul_of_pos_right _ (by exact Nat.zero_lt_of_lt k3)
      exact zCp (by assumption) h1 h2 (by assumption)
    have hqb : Builtin.Int.intBits (R.fdiv l) ≤ 2 ^ 18 := by
      have h1 := lt_pow_of_bits (a := R) (bits R hle) (Nat.le_refl _)
      have h2 := lt_pow_of_bits (a := l) hlb (Nat.le_refl _)
      refine Nat.le_trans (pQ (n := 2 ^ 17 + 1) ?_) (by decide)
      have e : ((2 ^ (2 ^ 17) : Nat) : Int) = (2 : Int) ^ (2 ^ 17) := kbt_cast _
      rw [Nat.pow_succ]
      walk_at "o"
    have hrb : Builtin.Int.intBits (R.fmod l) ≤ 2 ^ 17 := bitsl _ (by exact Nat.le_of_succ_le k3)
    refine Ex.cons (Es.unpack (xs := ["quotient", "rest"]) (ps := [.int (R.fdiv l), .int (R.fmod l)]) ?call rfl (by walk_at "locs") (.cons (.cons .nil)) rfl rfl) ?_
    case call =>
      refine Ev.callF F8.is.at (Ev.name (by walk_at "lk") (by decide)) (ps := [.int R, .int l]) ?_ (int_divmod_ok T F8 (d := d + 1) (by walk_at "o") hl (bits _ hle) hlb) rfl
      walk_at "go"
    refine Ex.cons (Es.ifFalse (Ts.orF ?c1 (Ts.orF ?c2 (Ts.orF ?c3 Ts.orNil))) Ex.nil) ?_
    case c1 =>
      apply Ts.cast
      · walk_at "go"
        exact mulOk_of_bits hqb hlb (by decide)
      · rw [k1]; simp
    case c2 =>
      apply Ts.cast
      · walk_at "go"
        exact mulOk_of_bits hrb hlb (by decide)
      · rw [decide_eq_false_iff_not]; exact Int.not_lt_of_ge k2
    case c3 =>
      apply Ts.cast
      · walk_at "go"
      · rw [jX, jX, decide_eq_false_iff_not]; walk_at "o"
    refine Ex.stop (Es.ifTrue ?c4 (Ex.stop (Es.ret ?r)))
    case c4 =>
      apply Ts.cast
      · walk_at "go"
      · simpa using hR
    case r => exact Ev.name rfl (by decide)
end
section
variable {C : Cx}
noncomputable def hZ (size : Int) (c : Int) (k : Nat) : Int := if k = 32 then c + 1 else c - c.fmod size + size
noncomputable def col (size : Int) (l : List Nat) : Int := l.foldl (hZ size) 0
theorem fL {a : Addr} {cd : Value} (F : FnT C 21 "_law_column" a cd) {d : Nat} (hD : d < recursionLimit) {x : Str} {size : Int} (hs : size ≠ 0) : Calls C d (.ref a) [.str x, .int size] (.int (col size x.cps.toList)) := by
  refine Calls.plain F.is hD (xs := ["lead", "size"]) (glb := []) ?_ (by decide) (by decide) rfl (by decide) rfl rfl rfl .nil ?_
  · intro pm doc vs hv
    obtain ⟨v1, v2, rfl⟩ := kR hv; rfl
  intro L
  refine Ex.cons (Es.assign (p := .int 0) Ev.int rfl (by walk_at "loc")) ?_
  refine Ex.cons (m' := [("column", .int (col size x.cps.toList))]) (Es.less (Es.forTo (fun i => [("column", .int (col size (x.cps.toList.take i))), ("size", .int size)]) x.cps.toList.length ?h0 (EvIt.of (Ev.name (by walk_at "lk") (by decide)) Its.str) (by walk_at "loc") ?body (.inl ⟨by simp [signs], rfl⟩)) (by rw [List.take_length]; walk_at "sub")) (Ex.stop (Es.ret (Ev.name rfl (by decide))))
  case h0 =>
    have : col size (x.cps.toList.take 0) = 0 := rfl
    rw [this]
    walk_at "sub"
  case body =>
    intro i q hi hq
    obtain ⟨k, hk, rfl⟩ : ∃ k, x.cps.toList[i]? = some k ∧ q = .str ⟨#[k]⟩ := by
      unfold signs at hq
      rw [List.getElem?_map] at hq
      refine aI (Option.map_eq_some_iff.mp hq) fun k h1 h2 => ?_
      exact ⟨k, h1, h2.symm⟩
    have hstep : col size (x.cps.toList.take (i + 1)) = hZ size (col size (x.cps.toList.take i)) k := by
      rw [List.take_add_one, hk]
      simp [col, List.foldl_append]
    refine Ex.cons (Es.less (Es.assign (p := .int (hZ size (col size (x.cps.toList.take i)) k)) ?e rfl (by walk_at "loc")) (by rw [hstep]; walk_at "sub")) Ex.nil
    case e =>
      by_cases h : k = 32
      · subst h
        rw [hZ, if_pos rfl]
        refine Ev.ifTrue (Ts.cast (Ts.cmp (Ev.name rfl (by decide)) Ev.str Cmp.eqStr rfl) (by decide)) ?_
        walk_at "go"
      · rw [hZ, if_neg h]
        refine Ev.ifFalse (Ts.cast (Ts.cmp (Ev.name rfl (by decide)) Ev.str Cmp.eqStr rfl) ?_) ?_
        · have : ((⟨#[k]⟩ : Str).cps.toList == (Str.ofString " ").cps.toList) = false := by
            rw [beq_eq_false_iff_ne]
            have h2 : (Str.ofString " ").cps.toList = [32] := by decide
            rw [h2]
            simpa using h
          exact this
        · walk_at "go"
          exact hs
end
section
variable {C : Cx}
structure Sg where
  code : Nat
  nil : Bool
  fold : Str
noncomputable def Sg.pv (s : Sg) : PV := .tup [.str ⟨#[s.code]⟩, .bool s.nil, .str s.fold]
noncomputable def aQ : List Int := [115, 107, 102]
noncomputable def dblL : List Int := [223, 13261, 64256]
noncomputable def dR : List Int := [383, 8490, 8497]
noncomputable def ligL : List Int := [64262, 13188, 64257]
noncomputable def zIe : List Str := ["st", "ka", "fi"]
noncomputable def eK : List Int := [0, 1, 2, 4, 7, 8, 9, 10, 11, 12]
noncomputable def b1L : List Int := [173, 847, 6150, 6155, 6156, 6157, 8203, 8204, 8205, 8288, 65279, 65024, 65025, 65026, 65027, 65028, 65029, 65030, 65031, 65032, 65033, 65034, 65035, 65036, 65037, 65038, 65039]
noncomputable def clL : List Int := [172, 174, 846, 848, 6149, 6151, 6154, 6158, 8202, 8206, 8287, 8289, 65023, 65040, 65278, 65280]
noncomputable def dF (which : Int) (f : Nat) : List Int := [aQ.getD f 0, aQ.getD f 0 - 32, 119711 + 52 * eK.getD (which.fmod 10).toNat 0 + aQ.getD f 0, dR.getD f 0, dblL.getD f 0, dblL.getD f 0]
noncomputable def sgn (number : Int) (f : Nat) : Sg :=
  if (number.fmod 9).toNat < 6 then ⟨((dF (number.fdiv 9) f).getD (number.fmod 9).toNat 0).toNat, false, strRep ⟨#[(aQ.getD f 0).toNat]⟩ (1 + (number.fmod 9).toNat / 4)⟩
  else if (number.fmod 9).toNat = 6 then ⟨(b1L.getD ((number.fdiv 9).fmod 27).toNat 0).toNat, true, ⟨#[(b1L.getD ((number.fdiv 9).fmod 27).toNat 0).toNat]⟩⟩
  else if ((number.fdiv 9).fmod 17).toNat = 16 then ⟨(ligL.getD f 0).toNat, false, zIe.getD f ""⟩
  else ⟨(clL.getD ((number.fdiv 9).fmod 17).toNat 0).toNat, false, ⟨#[(clL.getD ((number.fdiv 9).fmod 17).toNat 0).toNat]⟩⟩
theorem eB (a : Int) (k : Nat) (hk : 0 < k) : ∃ i : Nat, a.fmod k = i ∧ i < k := by
  obtain ⟨_, h1, h2⟩ := aM a (b := k) (by exact Int.natCast_pos.mpr hk)
  exact ⟨(a.fmod k).toNat, by exact Int.eq_natCast_toNat.mpr h1, by exact (Int.toNat_lt' hk).mpr h2⟩
theorem bL {l : List Int} {i : Nat} (h : i < l.length) : l.getD i 0 ∈ l := by
  rw [fE l h]; exact List.getElem_mem h
theorem kI (l : List Int) {i : Nat} (h : i < l.length) : (pints l)[((i : Int)).toNat]? = some (.int (l.getD i 0)) := by
  rw [Int.toNat_natCast, iK l i h, fE l h]
section
variable {d : Nat} {env : Env} {m : Vars}
theorem Ev.tupAt {value slice : Expr} {pos : Pos} {l : List Int} {i : Nat} (hv : Ev C d env m value (.tup (pints l))) (hs : Ev C d env m slice (.int i)) (h : i < l.length) (hz : l.length < 2 ^ 20)
    (hsh : ∀ o i, subscripted slice false o i = operate [o, i] (getItem o i) := by intro _ _; rfl) : Ev C d env m (.Subscript value slice pos) (.int (l.getD i 0)) :=
  Ev.sub1 hv hs (Get.tup (by exact Int.natCast_nonneg i) (by omega) (kI l h)) rfl ⟨_, PySem.F.slot_tuple_getitem.lookup⟩ hsh
theorem Ev.lstAt {value slice : Expr} {pos : Pos} {l : List Int} {i : Nat} (hv : Ev C d env m value (.lst (pints l))) (hs : Ev C d env m slice (.int i)) (h : i < l.length) (hz : l.length < 2 ^ 20)
    (hsh : ∀ o i, subscripted slice false o i = operate [o, i] (getItem o i) := by intro _ _; rfl) : Ev C d env m (.Subscript value slice pos) (.int (l.getD i 0)) :=
  Ev.sub1 hv hs (Get.lst (by exact Int.natCast_nonneg i) (by omega) (kI l h)) rfl ⟨_, PySem.slot_list_getitem.lookup⟩ hsh
theorem Ev.strAt {value slice : Expr} {pos : Pos} {x : Str} {i c : Nat} (hv : Ev C d env m value (.str x)) (hs : Ev C d env m slice (.int i)) (h : x.cps[i]? = some c) (hz : i < 2 ^ 20)
    (hsh : ∀ o i, subscripted slice false o i = operate [o, i] (getItem o i) := by intro _ _; rfl) : Ev C d env m (.Subscript value slice pos) (.str ⟨#[c]⟩) :=
  Ev.sub1 hv hs (Get.str (by exact Int.natCast_nonneg i) (by omega) (by rw [Int.toNat_natCast]; exact h)) rfl ⟨_, PySem.F.slot_str_getitem.lookup⟩ hsh
end
structure yW (C : Cx) : Prop where
  ord : C.mg (Str.ofString "ord") = none ∧ C.mb (Str.ofString "ord") = some (.builtin "ord")
  chr : C.mg (Str.ofString "chr") = none ∧ C.mb (Str.ofString "chr") = some (.builtin "chr")
  list : C.mg (Str.ofString "list") = none ∧ C.mb (Str.ofString "list") = some (.type "list")
  range : C.mg (Str.ofString "range") = none ∧ C.mb (Str.ofString "range") = some (.type "range")
theorem wQ {f : Nat} (hf : f < 3) : (Str.ofString "skf").cps[f]? = some (aQ.getD f 0).toNat ∧ 0 ≤ aQ.getD f 0 ∧ aQ.getD f 0 ≤ 255 := by
  rcases (by omega : f = 0 ∨ f = 1 ∨ f = 2) with rfl | rfl | rfl <;> decide
set_option maxHeartbeats 4000000 in
theorem qT (T : yW C) {a : Addr} {cd : Value} (F : FnT C 18 "_law_sign" a cd) {d : Nat} (hD : d < recursionLimit) {number : Int} {f : Nat} (hf : f < 3) : Calls C d (.ref a) [.int number, .int f] (sgn number f).pv := by
  obtain ⟨ord, chr, list, range⟩ := T
  refine Calls.plain F.is hD (xs := ["number", "family"]) (glb := [("ord", .fn (.builtin "ord")), ("chr", .fn (.builtin "chr")), ("list", .fn (.type "list")), ("range", .fn (.type "range"))]) ?_ (by decide) (by decide) rfl (by decide) rfl rfl rfl ?_ ?_
  · intro pm doc vs hv
    obtain ⟨v1, v2, rfl⟩ := kR hv; rfl
  · exact .cons (fun _ _ => .fn _) rfl (.inr ord) (.cons (fun _ _ => .fn _) rfl (.inr chr) (.cons (fun _ _ => .fn _) rfl (.inr list) (.cons (fun _ _ => .fn _) rfl (.inr range) .nil)))
  intro L
  refine aI (eB number 9 (by decide)) fun k hk hk9 => ?_
  obtain ⟨wh, hwh⟩ : ∃ w, w = number.fdiv 9 := ⟨_, rfl⟩
  refine bZ (wQ hf) fun hs1 hs2 hs3 => ?_
  unfold sgn
  have hk' : (number.fmod 9).toNat = k := by
    have : number.fmod 9 = k := hk
    omega
  rw [hk', ← hwh]
  refine Ex.cons (Es.swap (xs := ["kind", "which"]) (ps := [.int k, .int wh]) ?kw rfl (by walk_at "locs") rfl rfl) ?_
  case kw =>
    apply Ev.cast
    · walk_at "go"
      · decide
      · decide
      · exact PyProof.noPylong_small (by exact Nat.lt_of_sub_eq_succ rfl)
    · have : number.fmod 9 = k := hk
      rw [this, ← hwh]
  by_cases h6 : k < 6
  · rw [if_pos h6]
    refine Ex.stop (Es.ifTrue ?t6 ?_)
    case t6 =>
      apply Ts.cast
      · walk_at "go"
      · simp; exact Int.lt_toNat.mp h6
    refine aI (eB wh 10 (by decide)) fun w10 hw10 hw10' => ?_
    have hw10'' : wh.fmod 10 = w10 := hw10
    refine Ex.cons (Es.assign (p := .int (aQ.getD f 0)) ?small rfl (by walk_at "loc")) ?_
    case small =>
      have : (aQ.getD f 0) = (((aQ.getD f 0).toNat : Nat) : Int) := by exact Int.eq_natCast_toNat.mpr hs2
      rw [this]
      refine Ev.callB (Ev.name (by walk_at "lk") (by decide)) (.cons (Ev.strAt Ev.str (Ev.name (by walk_at "lk") (by decide)) hs1 (by omega)) (fun _ => rfl) .nil) Calls.ord rfl
    refine Ex.cons (Es.assign (p := .int (eK.getD w10 0)) ?alph rfl (by walk_at "loc")) ?_
    case alph =>
      refine Ev.tupAt (l := eK) (Ev.tup (ps := [.int 0, .int 1, .int 2, .int 4, .int 7, .int 8, .int 9, .int 10, .int 11, .int 12]) (by walk_at "go") ((nB rfl))) ?_ (by simpa [eK] using hw10') (by decide)
      apply Ev.cast
      · walk_at "go"
        decide
      · rw [hw10'']
    refine Ex.cons (Es.assign (p := .int (dblL.getD f 0)) ?dbl rfl (by walk_at "loc")) ?_
    case dbl => exact Ev.tupAt (l := dblL) (Ev.tup (ps := [.int 223, .int 13261, .int 64256]) (by walk_at "go") ((nB rfl))) (Ev.name (by walk_at "lk") (by decide)) (by simpa [dblL] using hf) (by decide)
    have hal : 0 ≤ eK.getD w10 0 ∧ eK.getD w10 0 ≤ 12 := by
      have : ∀ x ∈ eK, 0 ≤ x ∧ x ≤ 12 := by decide
      exact this _ (bL (by simpa [eK] using hw10'))
    have hw : (wh.fmod 10).toNat = w10 := by walk_at "o"
    refine Ex.cons (Es.assign (p := .tup (pints (dF wh f))) ?codes rfl (by walk_at "loc")) ?_
    case codes =>
      have e : pints (dF wh f) = [.int (aQ.getD f 0), .int (aQ.getD f 0 - 32), .int (119711 + 52 * eK.getD w10 0 + aQ.getD f 0), .int (dR.getD f 0), .int (dblL.getD f 0), .int (dblL.getD f 0)] := by
        simp only [dF, hw, pints, List.map_cons, List.map_nil]
      rw [e]
      refine Ev.tup (.cons (Ev.name (by walk_at "lk") (by decide)) (fun _ => rfl) (.cons ?_ (fun _ => rfl) (.cons ?_ (fun _ => rfl) (.cons ?_ (fun _ => rfl) (.cons (Ev.name (by walk_at "lk") (by decide)) (fun _ => rfl) (.cons (Ev.name (by walk_at "lk") (by decide)) (fun _ => rfl) .nil)))))) ((nB rfl))
      · walk_at "go"
      · walk_at "go"
        exact mulOk_of_bits (m := 8) (n := 8) (by decide) (aN hal.1 (by have : (2 : Int) ^ 8 = 256 := (by decide); omega)) (by decide)
      · exact Ev.tupAt (l := dR) (Ev.tup (ps := [.int 383, .int 8490, .int 8497]) (by walk_at "go") ((nB rfl))) (Ev.name (by walk_at "lk") (by decide)) (by simpa [dR] using hf) (by decide)
    refine Ex.stop (Es.ret ?_)
    have hlen : (dF wh f).length = 6 := rfl
    have hr : 0 ≤ (dF wh f).getD k 0 ∧ (dF wh f).getD k 0 ≤ 0x10FFFF := by
      have h3 : 0 ≤ dR.getD f 0 ∧ dR.getD f 0 ≤ 70000 := by
        have : ∀ x ∈ dR, 0 ≤ x ∧ x ≤ 70000 := by decide
        exact this _ (bL (by simpa [dR] using hf))
      have h4 : 0 ≤ dblL.getD f 0 ∧ dblL.getD f 0 ≤ 70000 := by
        have : ∀ x ∈ dblL, 0 ≤ x ∧ x ≤ 70000 := by decide
        exact this _ (bL (by simpa [dblL] using hf))
      have h5 : 32 ≤ aQ.getD f 0 := by
        have : ∀ x ∈ aQ, 32 ≤ x := by decide
        exact this _ (bL (by simpa [aQ] using hf))
      have hm := bL (l := dF wh f) (i := k) (by exact h6)
      generalize (dF wh f).getD k 0 = y at hm ⊢
      simp only [dF, hw, List.mem_cons, List.not_mem_nil, or_false] at hm
      omega
    refine Ev.tup (.cons (Ev.callB (Ev.name (by walk_at "lk") (by decide)) (.cons (Ev.tupAt (Ev.name (by walk_at "lk") (by decide)) (Ev.name (by walk_at "lk") (by decide)) (by rw [hlen]; exact h6) (by rw [hlen]; decide)) (fun _ => rfl) .nil) (Calls.chr hr.1 hr.2) rfl) (fun _ => rfl)
      (.cons Ev.bool (fun _ => rfl) (.cons (Ev.bin (Ev.callB (Ev.name (by walk_at "lk") (by decide)) (.cons (Ev.name (by walk_at "lk") (by decide)) (fun _ => rfl) .nil) (Calls.chr (by exact hs2) (by omega)) rfl) ?times (Bin.mulStr ?m1 (by omega) ?m2)) (fun _ => rfl) .nil))) ((nB rfl))
    case times =>
      apply Ev.cast
      · walk_at "go"
        · decide
        · exact PyProof.noPylong_small (by exact Nat.lt_of_sub_eq_succ rfl)
      · have : (1 : Int) + ((k : Int)).fdiv 4 = ((1 + k / 4 : Nat) : Int) := by
          rw [Int.fdiv_eq_ediv_of_nonneg _ (by decide)]; omega
        rw [this]
    case m1 =>
      have := aC
      show (1 + k / 4) * 1 ≤ sizeLine
      omega
    case m2 =>
      show 1 * (1 + k / 4) < 2 ^ 62
      omega
  · rw [if_neg h6]
    refine Ex.cons (Es.ifFalse ?t6 Ex.nil) ?_
    case t6 =>
      apply Ts.cast
      · walk_at "go"
      · simp; omega
    by_cases h7 : k = 6
    · rw [if_pos h7]
      refine aI (eB wh 27 (by decide)) fun w27 hw27 hw27' => ?_
      have hw27'' : wh.fmod 27 = w27 := hw27
      have hw : (wh.fmod 27).toNat = w27 := by walk_at "o"
      rw [hw]
      have hr : 0 ≤ b1L.getD w27 0 ∧ b1L.getD w27 0 ≤ 0x10FFFF := by
        have : ∀ x ∈ b1L, 0 ≤ x ∧ x ≤ 0x10FFFF := by decide
        exact this _ (bL (by exact hw27'))
      refine Ex.stop (Es.ifTrue ?t (Ex.cons (Es.assign (p := .lst (pints b1L)) ?codes rfl (by walk_at "loc")) (Ex.stop (Es.ret ?r))))
      case t =>
        apply Ts.cast
        · walk_at "go"
        · subst h7; rfl
      case codes =>
        have hsplit : pints b1L = pints [173, 847, 6150, 6155, 6156, 6157, 8203, 8204, 8205, 8288, 65279] ++ nums 65024 1 16 := by
          rfl
        rw [hsplit]
        refine Ev.bin (Ev.lst (ps := [.int 173, .int 847, .int 6150, .int 6155, .int 6156, .int 6157, .int 8203, .int 8204, .int 8205, .int 8288, .int 65279]) (by walk_at "go") ((nB rfl))) (Ev.callT (Ev.name (by walk_at "lk") (by decide)) (.cons (Ev.callT (Ev.name (by walk_at "lk") (by decide)) (.cons Ev.int (fun _ => rfl) (.cons Ev.int (fun _ => rfl) .nil)) Calls.range2 rfl) (fun _ => rfl) .nil) (Calls.lstRng (by decide) (by decide) (by decide)) rfl) (Bin.addLst (by decide))
      case r =>
        refine Ev.tup (.cons (Ev.callB (Ev.name (by walk_at "lk") (by decide)) (.cons (Ev.lstAt (i := w27) (Ev.name (by walk_at "lk") (by decide)) ?i1 (by exact hw27') (by decide)) (fun _ => rfl) .nil) (Calls.chr hr.1 hr.2) rfl) (fun _ => rfl)
          (.cons Ev.bool (fun _ => rfl) (.cons (Ev.callB (Ev.name (by walk_at "lk") (by decide)) (.cons (Ev.lstAt (i := w27) (Ev.name (by walk_at "lk") (by decide)) ?i2 (by exact hw27') (by decide)) (fun _ => rfl) .nil) (Calls.chr hr.1 hr.2) rfl) (fun _ => rfl) .nil))) ((nB rfl))
        all_goals
          apply Ev.cast
          · walk_at "go"
            decide
          · rw [hw27'']
    · rw [if_neg h7]
      refine aI (eB wh 17 (by decide)) fun w17 hw17 hw17' => ?_
      have hw17'' : wh.fmod 17 = w17 := hw17
      have hw : (wh.fmod 17).toNat = w17 := by walk_at "o"
      rw [hw]
      refine Ex.cons (Es.ifFalse ?t Ex.nil) ?_
      case t =>
        apply Ts.cast
        · walk_at "go"
        · rw [beq_eq_false_iff_ne]; exact Nat.ToInt.of_diseq rfl rfl h7
      by_cases h16 : w17 = 16
      · rw [if_pos h16]
        have hr : 0 ≤ ligL.getD f 0 ∧ ligL.getD f 0 ≤ 0x10FFFF := by
          have : ∀ x ∈ ligL, 0 ≤ x ∧ x ≤ 0x10FFFF := by decide
          exact this _ (bL (by simpa [ligL] using hf))
        refine Ex.stop (Es.ifTrue ?t (Ex.stop (Es.ret ?r)))
        case t =>
          apply Ts.cast
          · walk_at "go"
            decide
          · rw [hw17'', h16]; rfl
        case r =>
          refine Ev.tup (.cons (Ev.callB (Ev.name (by walk_at "lk") (by decide)) (.cons (Ev.tupAt (l := ligL) (i := f) (Ev.tup (ps := [.int 64262, .int 13188, .int 64257]) (by walk_at "go") ((nB rfl))) (Ev.name (by walk_at "lk") (by decide)) (by simpa [ligL] using hf) (by decide)) (fun _ => rfl) .nil) (Calls.chr hr.1 hr.2) rfl) (fun _ => rfl)
            (.cons Ev.bool (fun _ => rfl) (.cons (Ev.sub1 (Ev.tup (ps := [.str "st", .str "ka", .str "fi"]) (by walk_at "go") ((nB rfl))) (Ev.name (by walk_at "lk") (by decide)) (Get.tup (by exact Int.natCast_nonneg f) (by omega) ?g) rfl ⟨_, PySem.F.slot_tuple_getitem.lookup⟩ (fun _ _ => rfl)) (fun _ => rfl) .nil))) ((nB rfl))
          rw [Int.toNat_natCast]
          rcases (by omega : f = 0 ∨ f = 1 ∨ f = 2) with rfl | rfl | rfl <;> rfl
      · rw [if_neg h16]
        have hr : 0 ≤ clL.getD w17 0 ∧ clL.getD w17 0 ≤ 0x10FFFF := by
          have : ∀ x ∈ clL, 0 ≤ x ∧ x ≤ 0x10FFFF := by decide
          exact this _ (bL (by show w17 < 16; omega))
        refine Ex.cons (Es.ifFalse ?t Ex.nil) (Ex.cons (Es.assign (p := .lst (pints clL)) (Ev.lst (ps := [.int 172, .int 174, .int 846, .int 848, .int 6149, .int 6151, .int 6154, .int 6158, .int 8202, .int 8206, .int 8287, .int 8289, .int 65023, .int 65040, .int 65278, .int 65280]) (by walk_at "go") ((nB rfl))) rfl (by walk_at "loc")) (Ex.stop (Es.ret ?r)))
        case t =>
          apply Ts.cast
          · walk_at "go"
            decide
          · rw [hw17'', beq_eq_false_iff_ne]; exact Nat.ToInt.of_diseq rfl rfl h16
        case r =>
          refine Ev.tup (.cons (Ev.callB (Ev.name (by walk_at "lk") (by decide)) (.cons (Ev.lstAt (i := w17) (Ev.name (by walk_at "lk") (by decide)) ?j1 (by show w17 < 16; omega) (by decide)) (fun _ => rfl) .nil) (Calls.chr hr.1 hr.2) rfl) (fun _ => rfl)
            (.cons Ev.bool (fun _ => rfl) (.cons (Ev.callB (Ev.name (by walk_at "lk") (by decide)) (.cons (Ev.lstAt (i := w17) (Ev.name (by walk_at "lk") (by decide)) ?j2 (by show w17 < 16; omega) (by decide)) (fun _ => rfl) .nil) (Calls.chr hr.1 hr.2) rfl) (fun _ => rfl) .nil))) ((nB rfl))
          all_goals
            apply Ev.cast
            · walk_at "go"
              decide
            · rw [hw17'']
end
section
variable {C : Cx}
noncomputable def zBg : List (Option Expr) → List Expr → List (Int × Str)
  | some (.Constant (.int k) _ _) :: ks, .Constant (.str x) _ _ :: vs => (k, x) :: zBg ks vs
  | _, _ => []
noncomputable def b3E : List (Int × Str) := match PySem.Challenge.pw_rl0136_01.main.body[12]? with
  | some (Stmt.Assign _ (Expr.Dict ks vs _) _) => zBg ks vs
  | _ => []
structure yV (C : Cx) : Prop where
  ord : C.mg (Str.ofString "ord") = none ∧ C.mb (Str.ofString "ord") = some (.builtin "ord")
  b1 : ∃ S n, C.mg (Str.ofString "b1_set") = some (.ref S) ∧ C.hB.SetOf (intKind C.prog C.w) S (fun k => b1L.contains k) n ∧ S ∉ C.tabs
  b3 : ∃ D f, C.mg (Str.ofString "b3_exceptions") = some (.ref D) ∧ C.hB.MapOf (intKind C.prog C.w) D f ∧ D ∉ C.tabs ∧ (D == sysModules) = false ∧ ∀ k, (f k = none ∧ b3E.lookup k = none) ∨ (∃ x t, f k = some (.str x t) ∧ b3E.lookup k = some x)
noncomputable def eR (c : Nat) : Str := match b3E.lookup (c : Int) with
  | some x => x
  | none => Txt.lower ⟨#[c]⟩
theorem xS (T : yV C) {a : Addr} {cd : Value} (F : FnT C 11 "in_table_b1" a cd) {d : Nat} (hD : d < recursionLimit) {c : Nat} : Calls C d (.ref a) [.str ⟨#[c]⟩] (.bool (b1L.contains (c : Int))) := by
  refine cps fun Pz kz => ?_
  obtain ⟨ord, ⟨S, n, gS, hS, tS⟩, _⟩ := T
  refine kz ?_; clear kz Pz
  refine Calls.plain F.is hD (xs := ["code"]) (glb := [("ord", .fn (.builtin "ord")), ("b1_set", .fn (.ref S))]) ?_ (by decide) (by decide) rfl (by decide) rfl rfl rfl ?_ ?_
  · intro pm doc vs hv
    obtain ⟨v1, rfl⟩ := vN hv; rfl
  · exact .cons (fun _ _ => .fn _) rfl (.inr ord) (.cons (fun _ _ => .fn _) rfl (.inl gS) .nil)
  intro L
  refine Ex.stop (Es.ret (Ev.cmp (Ev.callB (Ev.name rfl (by decide)) (.cons (Ev.name rfl (by decide)) (fun _ => rfl) .nil) Calls.ord rfl) (Ev.name rfl (by decide)) (Cmp.inSet hS tS) rfl))
theorem vK (T : yV C) {a : Addr} {cd : Value} (F : FnT C 13 "map_table_b3" a cd) {d : Nat} (hD : d < recursionLimit) {c : Nat} (hl : (eR c).length ≤ sizeLine) : Calls C d (.ref a) [.str ⟨#[c]⟩] (.str (eR c)) := by
  refine cps fun Pz kz => ?_
  obtain ⟨ord, _, ⟨D, f, gD, hD', tD, sD, hf⟩⟩ := T
  refine kz ?_; clear kz Pz
  refine Calls.plain F.is hD (xs := ["code"]) (glb := [("b3_exceptions", .fn (.ref D)), ("ord", .fn (.builtin "ord"))]) ?_ (by decide) (by decide) rfl (by decide) rfl rfl rfl ?_ ?_
  · intro pm doc vs hv
    obtain ⟨v1, rfl⟩ := vN hv; rfl
  · exact .cons (fun _ _ => .fn _) rfl (.inl gD) (.cons (fun _ _ => .fn _) rfl (.inr ord) .nil)
  intro L
  rcases hf c with ⟨h1, h2⟩ | ⟨x, t, h1, h2⟩
  · have hv : eR c = Txt.lower ⟨#[c]⟩ := by unfold eR; rw [h2]
    rw [hv] at hl ⊢
    refine Ex.cons (Es.assign (p := .none) (Ev.dictGet hD' tD sD (Ev.name (by walk_at "lk") (by decide)) (Ev.callB (Ev.name (by walk_at "lk") (by decide)) (.cons (Ev.name (by walk_at "lk") (by decide)) (fun _ => rfl) .nil) Calls.ord rfl) (fun _ => rfl) (fun _ _ => by rw [h1]; exact .none) rfl rfl rfl) rfl (by walk_at "loc")) ?_
    refine Ex.cons (Es.ifFalse (Ts.cmp (Ev.name (by walk_at "lk") (by decide)) Ev.none (Cmp.isNotNone (.inl ⟨rfl, rfl⟩)) rfl) Ex.nil) ?_
    refine Ex.stop (Es.ret (Ev.meth0 (p := .str ⟨#[c]⟩) (Ev.name (by walk_at "lk") (by decide)) rfl ⟨PySem.F.plainAttrs_str, PySem.F.slot_str_lower, PySem.F.type_str_lower⟩ (Calls.lower rfl hl) rfl rfl))
  · have hv : eR c = x := by unfold eR; rw [h2]
    rw [hv] at hl ⊢
    refine Ex.cons (Es.assign (p := .str x) (Ev.dictGet hD' tD sD (Ev.name (by walk_at "lk") (by decide)) (Ev.callB (Ev.name (by walk_at "lk") (by decide)) (.cons (Ev.name (by walk_at "lk") (by decide)) (fun _ => rfl) .nil) Calls.ord rfl) (fun _ => rfl) (fun _ _ => by rw [h1]; exact .str _ _) rfl rfl rfl) rfl (by walk_at "loc")) ?_
    refine Ex.stop (Es.ifTrue (Ts.cmp (Ev.name (by walk_at "lk") (by decide)) Ev.none (Cmp.isNotNone (.inr ⟨x, rfl, rfl⟩)) rfl) (Ex.stop (Es.ret (Ev.name (by walk_at "lk") (by decide)))))
end
section
variable {C : Cx}
noncomputable def tk (x : Str) (e : Nat) : Str := ⟨(x.cps.toList.take e).toArray⟩
noncomputable def wterm (letter : Str) (weight : Int) (W : List Int) (e : Nat) (f : Str) : Int := W.getD (e - f.length) 0 * (if f.cps.toList == letter.cps.toList then weight else 1)
noncomputable def pY (text : Str) (folds : List Str) (letter : Str) (weight : Int) (W : List Int) (e : Nat) : Int := ((folds.filter (Txt.endswith (tk text e))).map (wterm letter weight W e)).sum
noncomputable def waysL (text : Str) (folds : List Str) (letter : Str) (weight : Int) : Nat → List Int
  | 0 => [1]
  | e + 1 => waysL text folds letter weight e ++ [pY text folds letter weight (waysL text folds letter weight e) (e + 1)]
theorem cB (text : Str) (folds : List Str) (letter : Str) (weight : Int) : ∀ e, (waysL text folds letter weight e).length = e + 1
  | 0 => rfl
  | e + 1 => by simp [waysL, cB text folds letter weight e]
theorem eD {α : Type} (p : α → Bool) (g : α → PV) (l : List α) : l.filterMap (fun f => if p f then some (g f) else none) = (l.filter p).map g := by
  induction l with
  | nil => rfl
  | cons a l ih => by_cases h : p a <;> simp [h, ih]
theorem aL {α : Type} (g : α → PV) (l : List α) : l.filterMap (fun f => some (g f)) = l.map g := by
  induction l with
  | nil => rfl
  | cons a l ih => simp [ih]
theorem rH {x y : Str} (h : Txt.endswith x y = true) : y.length ≤ x.length := by
  unfold Txt.endswith at h
  have := (Bool.and_eq_true_iff.mp h).1
  have := of_decide_eq_true this
  omega
theorem uJ {x : Str} {e : Nat} (h : e ≤ x.length) : (tk x e).length = e := by
  simp [tk, Str.length] at h ⊢
  exact Nat.min_eq_left h
structure uE (C : Cx) : Prop where
  range : C.mg (Str.ofString "range") = none ∧ C.mb (Str.ofString "range") = some (.type "range")
  len : C.mg (Str.ofString "len") = none ∧ C.mb (Str.ofString "len") = some (.builtin "len")
  sum : C.mg (Str.ofString "sum") = none ∧ C.mb (Str.ofString "sum") = some (.builtin "sum")
theorem size_range {a b : Nat} : Builtin.Range.rangeSize (a : Int) (b : Int) 1 = ((b - a : Nat) : Int) := by
  unfold Builtin.Range.rangeSize
  rw [if_pos (by decide)]
  split
  · rw [Int.ediv_one]; omega
  · omega
theorem aU {i : Int} (h0 : -(2 ^ 41) ≤ i) (h1 : i < 2 ^ 41) : Builtin.Range.rangeFitsLong i = true := by
  have e41 : (2 : Int) ^ 41 = 2199023255552 := by decide
  have e63 : (2 : Int) ^ 63 = 9223372036854775808 := by decide
  unfold Builtin.Range.rangeFitsLong
  rw [Bool.and_eq_true, decide_eq_true_eq, decide_eq_true_eq]
  omega
theorem small_range {a b : Int} (ha : 0 ≤ a) (hb : b < 2 ^ 40) (ha' : a < 2 ^ 40) (hb0 : 0 ≤ b) : Builtin.Range.small a b 1 = true := by
  have e40 : (2 : Int) ^ 40 = 1099511627776 := by decide
  have e41 : (2 : Int) ^ 41 = 2199023255552 := by decide
  obtain ⟨x, rfl⟩ : ∃ x : Nat, a = x := ⟨a.toNat, by exact Int.eq_natCast_toNat.mpr ha⟩
  obtain ⟨y, rfl⟩ : ∃ y : Nat, b = y := ⟨b.toNat, by exact Int.eq_natCast_toNat.mpr hb0⟩
  unfold Builtin.Range.small
  rw [size_range, aU (by exact Int.neg_ofNat_le_natCast (2 ^ 41) x) (by omega), aU (by exact Int.neg_ofNat_le_natCast (2 ^ 41) y) (by omega), aU (by exact Int.neg_ofNat_le_ofNat (2 ^ 41) 1) (by exact Rat.intCast_lt_intCast.mp rfl), aU (by exact Int.neg_ofNat_le_natCast (2 ^ 41) (y - x)) (by omega), if_pos (by decide), aU (by exact Int.neg_ofNat_le_ofNat (2 ^ 41) (y + (1 - Nat.succ 0))) (by omega)]
  simp
set_option maxHeartbeats 4000000 in
theorem jF (T : uE C) {a : Addr} {cd : Value} (F : FnT C 19 "_law_ways" a cd) {d : Nat} (hD : d < recursionLimit) {text letter : Str} {folds : List Str} {weight : Int} (ht : text.length ≤ 1000) (hf : folds.length ≤ 1000) (hf1 : ∀ f ∈ folds, 1 ≤ f.length) (hf2 : ∀ f ∈ folds, f.length ≤ 1000)
    (hw : Builtin.Int.intBits weight ≤ 2 ^ 17) (hW : ∀ e, e ≤ text.length → ∀ x ∈ waysL text folds letter weight e, Builtin.Int.intBits x ≤ 2 ^ 17) :
    Calls C d (.ref a) [.str text, .lst (pstrs folds), .str letter, .int weight] (.lst (pints (waysL text folds letter weight text.length))) := by
  obtain ⟨range, len, sum⟩ := T
  have hz := aC
  have hz2 : (2 : Nat) ^ 20 = 1048576 := by decide
  refine Calls.cells F.is hD (xs := ["text", "folds", "letter", "weight"]) (glb := [("range", .fn (.type "range")), ("len", .fn (.builtin "len")), ("sum", .fn (.builtin "sum"))]) ?_ ?_ (by decide) rfl (by decide) rfl rfl rfl ?_ ?_
  · intro pm doc vs hv
    obtain ⟨v1, v2, v3, v4, rfl⟩ := zJv hv; rfl
  · intro x hx
    simp only [List.mem_cons, List.not_mem_nil, or_false] at hx
    rcases hx with rfl | rfl | rfl | rfl
    · exact .inr ⟨rfl, fun n => rfl⟩
    · exact .inl rfl
    · exact .inr ⟨rfl, fun n => rfl⟩
    · exact .inr ⟨rfl, fun n => rfl⟩
  · exact .cons (fun _ _ => .fn _) rfl (.inr range) (.cons (fun _ _ => .fn _) rfl (.inr len) (.cons (fun _ _ => .fn _) rfl (.inr sum) .nil))
  intro L
  refine Ex.cons (Es.assignNew (l := pints [1]) (EvNew.lst (.cons Ev.int (fun _ => rfl) .nil) ((nB rfl))) rfl rfl (by walk_at "loc")) ?_
  refine Ex.cons (m' := [("ways", .mlst (pints (waysL text folds letter weight text.length)))])
    (Es.less (Es.forTo (fun i => [("ways", .mlst (pints (waysL text folds letter weight i))), ("text", .str text), ("folds", .lst (pstrs folds)), ("letter", .str letter), ("weight", .int weight), ("len", .fn (.builtin "len")), ("sum", .fn (.builtin "sum"))]) text.length ?h0
      (EvIt.of (Ev.callT (ps := [.int (1 : Nat), .int ((text.length + 1 : Nat) : Int)]) (Ev.name (by walk_at "lk") (by decide)) ?rargs Calls.range2 rfl) (Its.rng (n := text.length) (small_range (by omega) (by omega) (by omega) (by omega)) (by rw [size_range]; omega))) (by walk_at "loc") ?body (.inl ⟨by simp [nums], rfl⟩)) (by walk_at "sub"))
    (Ex.frozen (Ex.stop (Es.ret (Ev.name rfl (by decide)))))
  case h0 =>
    show Sub _ [("ways", .mlst (pints [1])), _, _, _, _, _, _]
    walk_at "sub"
  case rargs =>
    refine .cons Ev.int (fun _ => rfl) (.cons ?_ (fun _ => rfl) .nil)
    refine Ev.bin (Ev.callB (Ev.name (by walk_at "lk") (by decide)) (.cons (Ev.name (by walk_at "lk") (by decide)) (fun _ => rfl) .nil) (Calls.lenStr (by omega)) rfl) Ev.int Bin.add
  case body =>
    intro i q hi hq
    obtain rfl : q = .int ((i + 1 : Nat) : Int) := by
      simp [nums, hi] at hq
      rw [← hq]
      congr 1
      omega
    have hWl := cB text folds letter weight i
    have hlenF : (folds.filter (Txt.endswith (tk text (i + 1)))).length ≤ folds.length := List.length_filter_le _ _
    refine Ex.cons (bS (cl := [("text", L + 1), ("end", L + 5)]) folds (fun f => .str f) (fun f => if Txt.endswith (tk text (i + 1)) f then some (.str f) else none) [("text", .str text), ("end", .int ((i + 1 : Nat) : Int))] rfl rfl (EvIt.of (Ev.name (by walk_at "lk") (by decide)) Its.lst) (.cons rfl (.cons rfl .nil)) (by show [("text" : Str), "end"].Nodup; decide) (by decide) rfl (by decide) (by omega) (fun Cc => by walk_at "csub") ?c1 (by walk_at "loc")) ?_
    case c1 =>
      intro Cc f hf
      refine ⟨_, Tgt.name rfl, ?_⟩
      cases hb : Txt.endswith (tk text (i + 1)) f
      · simp only [Bool.false_eq_true, if_false]
        exact Ifs.one (Ts.cast (Ts.val (Ev.meth (p := .str (tk text (i + 1))) (ps := [.str f]) (Ev.sliceStr (Ev.name (by walk_at "lk") (by decide)) (Ev.name (by walk_at "lk") (by decide)) (by exact hi) (by omega)) rfl ⟨PySem.F.plainAttrs_str, PySem.F.slot_str_endswith, PySem.F.type_str_endswith⟩ (.cons (Ev.name (by walk_at "lk") (by decide)) (fun _ => rfl) .nil) Calls.endswith rfl rfl rfl) Tru.bool (fun _ => rfl)) hb)
      · simp only [if_true]
        exact ⟨Ifs.one (Ts.cast (Ts.val (Ev.meth (p := .str (tk text (i + 1))) (ps := [.str f]) (Ev.sliceStr (Ev.name (by walk_at "lk") (by decide)) (Ev.name (by walk_at "lk") (by decide)) (by exact hi) (by omega)) rfl ⟨PySem.F.plainAttrs_str, PySem.F.slot_str_endswith, PySem.F.type_str_endswith⟩ (.cons (Ev.name (by walk_at "lk") (by decide)) (fun _ => rfl) .nil) Calls.endswith rfl rfl rfl) Tru.bool (fun _ => rfl)) hb), Ev.name (by walk_at "lk") (by decide)⟩
    rw [eD]
    have hstep : pints (waysL text folds letter weight (i + 1)) = pints (waysL text folds letter weight i) ++ [.int (pY text folds letter weight (waysL text folds letter weight i) (i + 1))] := by
      simp [waysL, pints]
    refine Ex.cons (Es.sub (m' := [("ways", .mlst (pints (waysL text folds letter weight i))), ("last", .lst (pstrs (folds.filter (Txt.endswith (tk text (i + 1)))))), ("end", .int ((i + 1 : Nat) : Int)), ("text", .str text), ("folds", .lst (pstrs folds)), ("letter", .str letter), ("weight", .int weight), ("len", .fn (.builtin "len")), ("sum", .fn (.builtin "sum"))]) (by walk_at "sub")
      (Es.append (p := .int (pY text folds letter weight (waysL text folds letter weight i) (i + 1))) ?sum rfl (by simp [hWl]; omega) rfl (by decide) (fun _ => rfl))) (Ex.less Ex.nil (by rw [hstep]; walk_at "sub"))
    case sum =>
      refine Ev.callB (Ev.name (by walk_at "lk") (by decide)) (ps := [.lst (pints ((folds.filter (Txt.endswith (tk text (i + 1)))).map (wterm letter weight (waysL text folds letter weight i) (i + 1))))]) (.cons (Ev.cast (evListComp (cl := [("weight", L + 3), ("ways", L + 4), ("letter", L + 2), ("end", L + 5)]) (folds.filter (Txt.endswith (tk text (i + 1)))) (fun f => .str f) (fun f => some (.int (wterm letter weight (waysL text folds letter weight i) (i + 1) f)))
        [("ways", .mlst (pints (waysL text folds letter weight i))), ("end", .int ((i + 1 : Nat) : Int)), ("letter", .str letter), ("weight", .int weight), ("len", .fn (.builtin "len"))] rfl (EvIt.of (Ev.name (by walk_at "lk") (by decide)) Its.lst) (.cons rfl (.cons rfl (.cons rfl (.cons rfl .nil)))) (by show [("weight" : Str), "ways", "letter", "end"].Nodup; decide) (by decide) rfl (by decide) (by omega) (fun Cc => ?cs) ?c2) (by rw [aL]; simp [pints])) (fun _ => rfl) .nil) (Calls.sum Its.lst) rfl
      case cs =>
        refine .cell (by walk_at "lk") (by walk_at "free") (by walk_at "free") rfl (.cell (by walk_at "lk") (by walk_at "free") (by walk_at "free") rfl (.cell (by walk_at "lk") (by walk_at "free") (by walk_at "free") rfl (.cell (by walk_at "lk") (by walk_at "free") (by walk_at "free") rfl (.glob (fun _ _ => .fn _) rfl (.inr len) .nil))))
      case c2 =>
        intro Cc f hf'
        obtain ⟨hff, hfe⟩ := List.mem_filter.mp hf'
        have hle := rH hfe
        rw [uJ (by exact hi)] at hle
        have h1 := hf1 f hff
        have h2 := hf2 f hff
        refine ⟨_, Tgt.name rfl, Ifs.nil, ?_⟩
        have hidx : i + 1 - f.length < (waysL text folds letter weight i).length := by walk_at "o"
        refine Ev.frozen ?_
        refine Ev.bin (p := .int ((waysL text folds letter weight i).getD (i + 1 - f.length) 0)) (q := .int (if f.cps.toList == letter.cps.toList then weight else 1)) (Ev.lstAt (l := waysL text folds letter weight i) (i := i + 1 - f.length) (Ev.name rfl (by decide)) ?idx hidx (by omega)) ?fac (Bin.mul ?ok)
        case idx =>
          apply Ev.cast
          · refine Ev.bin (Ev.name rfl (by decide)) (Ev.callB (ps := [.str f]) (Ev.name rfl (by decide)) (.cons (Ev.name rfl (by decide)) (fun _ => rfl) .nil) (Calls.lenStr (by omega)) rfl) Bin.sub
          · have : ((i + 1 : Nat) : Int) - (f.length : Int) = ((i + 1 - f.length : Nat) : Int) := by exact Eq.symm (Int.ofNat_sub hle)
            rw [this]
        case fac =>
          cases hb : (f.cps.toList == letter.cps.toList)
          · simp only [Bool.false_eq_true, if_false]
            exact Ev.ifFalse (Ts.cast (Ts.cmp (Ev.name rfl (by decide)) (Ev.name rfl (by decide)) Cmp.eqStr rfl) hb) Ev.int
          · simp only [if_true]
            exact Ev.ifTrue (Ts.cast (Ts.cmp (Ev.name rfl (by decide)) (Ev.name rfl (by decide)) Cmp.eqStr rfl) hb) (Ev.name rfl (by decide))
        case ok =>
          refine mulOk_of_bits (m := 2 ^ 17) (n := 2 ^ 17) ?_ ?_ (by decide)
          · rw [fE _ hidx]
            exact hW i (by exact Nat.le_of_succ_le hi) _ (List.getElem_mem hidx)
          · split
            · exact hw
            · decide
end
section
variable {C : Cx}
noncomputable def kN (s n : Nat) : Nat := if 2 * s < n then (n - 2 * s - 1) / s + 1 else 0
noncomputable def mults (s n : Nat) : List Nat := (List.range (kN s n)).map fun j => 2 * s + j * s
theorem kD {s n : Nat} (hs : 1 ≤ s) : Builtin.Range.rangeSize ((2 * s : Nat) : Int) (n : Int) (s : Int) = ((kN s n : Nat) : Int) := by
  unfold Builtin.Range.rangeSize kN
  rw [if_pos (by exact Int.natCast_pos.mpr hs)]
  by_cases h : 2 * s < n
  · rw [if_pos (by exact Int.ofNat_lt.mpr h), if_pos h]
    have e : (n : Int) - ((2 * s : Nat) : Int) - 1 = ((n - 2 * s - 1 : Nat) : Int) := by walk_at "o"
    rw [e, ← Int.natCast_ediv]
    omega
  · rw [if_neg (by omega), if_neg h]
    rfl
theorem qF {s n : Nat} (hs : 1 ≤ s) (hs2 : s ≤ 2 ^ 20) (hn : n ≤ 2 ^ 20) : Builtin.Range.small ((2 * s : Nat) : Int) (n : Int) (s : Int) = true := by
  have e20 : (2 : Nat) ^ 20 = 1048576 := by decide
  have e41 : (2 : Int) ^ 41 = 2199023255552 := by decide
  have hc : kN s n ≤ n := by
    unfold kN
    split
    · have := Nat.div_le_self (n - 2 * s - 1) s
      walk_at "o"
    · exact Nat.zero_le n
  unfold Builtin.Range.small
  rw [kD hs, aU (by exact Int.neg_ofNat_le_natCast (2 ^ 41) (2 * s)) (by omega), aU (by exact Int.neg_ofNat_le_natCast (2 ^ 41) n) (by omega), aU (by exact Int.neg_ofNat_le_natCast (2 ^ 41) s) (by omega), aU (by exact Int.neg_ofNat_le_natCast (2 ^ 41) (kN s n)) (by omega), if_pos (by exact Int.natCast_pos.mpr hs), aU (by omega) (by omega)]
  simp
theorem size_down (n : Nat) : Builtin.Range.rangeSize (n : Int) 0 (-1) = (n : Int) := by
  unfold Builtin.Range.rangeSize
  rw [if_neg (by decide)]
  split
  · rw [show (-(-1) : Int) = 1 by decide, Int.ediv_one]; exact Int.sub_add_cancel (↑n - 0) 1
  · omega
theorem small_down {n : Nat} (hn : n ≤ 2 ^ 20) : Builtin.Range.small (n : Int) 0 (-1) = true := by
  have e20 : (2 : Nat) ^ 20 = 1048576 := by decide
  have e41 : (2 : Int) ^ 41 = 2199023255552 := by decide
  unfold Builtin.Range.small
  rw [size_down, aU (by exact Int.neg_ofNat_le_natCast (2 ^ 41) n) (by omega), aU (by exact Int.neg_ofNat_le_ofNat (2 ^ 41) 0) (by exact kbt_pos 41), aU (by exact Int.le.intro_sub (Nat.succ 2199023255551 - Nat.succ 0) rfl) (by exact Rat.intCast_lt_intCast.mp rfl), if_neg (by decide), aU (by exact Int.neg_ofNat_le_ofNat (2 ^ 41) (0 + (1 - Nat.succ 0))) (by exact Rat.intCast_lt_intCast.mp rfl)]
  simp
noncomputable def rtab (n : Nat) (rv : Nat → Int) (i : Nat) : List (Int × Int) := (List.range i).map fun j => (((n - 1 - j : Nat) : Int), rv (n - 1 - j))
theorem dL (f : Nat → Nat) (rv : Nat → Int) (l : List Nat) (k : Nat) : (l.map fun j => (((f j : Nat) : Int), rv (f j))).lookup (k : Int) = if (l.any fun j => f j == k) then some (rv k) else none := by
  induction l with
  | nil => rfl
  | cons a l ih =>
    rw [List.map_cons, List.lookup_cons, List.any_cons]
    by_cases h : f a = k
    · have h1 : ((k : Int) == ((f a : Nat) : Int)) = true := by simp [h]
      simp [h1, h]
    · have h1 : ((k : Int) == ((f a : Nat) : Int)) = false := by
        rw [beq_eq_false_iff_ne]; exact Nat.ToInt.of_diseq rfl rfl fun a_1 => h (id (Eq.symm a_1))
      have h2 : (f a == k) = false := by simpa using h
      rw [h1, h2, ih]
      rfl
theorem sZ {n i k : Nat} (rv : Nat → Int) (hi : i ≤ n - 1) (h1 : n - i ≤ k) (h2 : k < n) : (rtab n rv i).lookup (k : Int) = some (rv k) := by
  unfold rtab
  rw [dL (fun j => n - 1 - j) rv]
  rw [if_pos]
  rw [List.any_eq_true]
  exact ⟨n - 1 - k, List.mem_range.mpr (by walk_at "o"), by simp; walk_at "o"⟩
theorem rtab_new {n i k : Nat} (rv : Nat → Int) (hi : i ≤ n - 1) (h1 : k < n - i) : (rtab n rv i).lookup (k : Int) = none := by
  unfold rtab
  rw [dL (fun j => n - 1 - j) rv]
  rw [if_neg]
  rw [List.any_eq_true]
  rintro ⟨j, hj, e⟩
  have := List.mem_range.mp hj
  have e := of_decide_eq_true e
  walk_at "o"
structure yY (C : Cx) : Prop where
  range : C.mg (Str.ofString "range") = none ∧ C.mb (Str.ofString "range") = some (.type "range")
  len : C.mg (Str.ofString "len") = none ∧ C.mb (Str.ofString "len") = some (.builtin "len")
  sum : C.mg (Str.ofString "sum") = none ∧ C.mb (Str.ofString "sum") = some (.builtin "sum")
  tuple : C.mg (Str.ofString "tuple") = none ∧ C.mb (Str.ofString "tuple") = some (.type "tuple")
noncomputable def zGj : Expr := match (fBody 22)[2]? with
  | some (Stmt.Return (some (Expr.Call _ [e] _ _)) _) => e
  | _ => .Constant .none 0 ⟨0, 0, 0, 0⟩
set_option maxHeartbeats 4000000 in
theorem qU (T : yY C) {a : Addr} {cd : Value} (F : FnT C 22 "_law_runs" a cd) {d : Nat} (hD : d < recursionLimit) {ts : List Int} {n : Nat} (hn : ts.length = n) (hn2 : 2 ≤ n) (hn3 : n ≤ 1000) (rv : Nat → Int)
    (hr : ∀ s, 1 ≤ s → s < n → rv s = ts.getD s 0 - ((mults s n).map rv).sum) :
    Calls C d (.ref a) [.lst (pints ts)] (.tup (pints ((List.range (n - 2)).map fun j => rv (j + 1)))) := by
  obtain ⟨range, len, sum, tuple⟩ := T
  have hz := aC
  have hz2 : (2 : Nat) ^ 20 = 1048576 := by decide
  refine Calls.cells F.is hD (xs := ["times"]) (glb := [("range", .fn (.type "range")), ("len", .fn (.builtin "len")), ("sum", .fn (.builtin "sum")), ("tuple", .fn (.type "tuple"))]) ?_ ?_ (by decide) rfl (by decide) rfl rfl rfl ?_ ?_
  · intro pm doc vs hv
    obtain ⟨v1, rfl⟩ := vN hv; rfl
  · intro x hx
    simp only [List.mem_cons, List.not_mem_nil, or_false] at hx
    rcases hx with rfl
    exact .inl rfl
  · exact .cons (fun _ _ => .fn _) rfl (.inr range) (.cons (fun _ _ => .fn _) rfl (.inr len) (.cons (fun _ _ => .fn _) rfl (.inr sum) (.cons (fun _ _ => .fn _) rfl (.inr tuple) .nil)))
  intro L
  have hlen : (pints ts).length = n := by simp [hn]
  refine Ex.cons (Es.newDict rfl (by walk_at "loc")) ?_
  refine Ex.cons (m' := [("runs", dictPV C (rtab n rv (n - 1))), ("times", .lst (pints ts)), ("range", .fn (.type "range")), ("len", .fn (.builtin "len")), ("tuple", .fn (.type "tuple"))])
    (Es.less (Es.forTo (fun i => [("runs", dictPV C (rtab n rv i)), ("times", .lst (pints ts)), ("range", .fn (.type "range")), ("len", .fn (.builtin "len")), ("sum", .fn (.builtin "sum")), ("tuple", .fn (.type "tuple"))]) (n - 1) ?h0
      (EvIt.of (Ev.callT (ps := [.int ((n - 1 : Nat) : Int), .int 0, .int (-1)]) (Ev.name (by walk_at "lk") (by decide)) ?rargs (Calls.range3 (by decide) (PyProof.noPylong_small (by exact Nat.lt_of_sub_eq_succ rfl))) rfl) (Its.rng (n := n - 1) (small_down (by omega)) (size_down _))) (by walk_at "loc") ?body (.inl ⟨by simp [nums], rfl⟩)) (by walk_at "sub"))
    ?last
  case h0 =>
    show Sub _ [("runs", dictPV C []), _, _, _, _, _]
    walk_at "sub"
  case rargs =>
    refine .cons ?_ (fun _ => rfl) (.cons Ev.int (fun _ => rfl) (.cons (Ev.neg Ev.int) (fun _ => rfl) .nil))
    apply Ev.cast
    · exact Ev.bin (Ev.callB (Ev.name (by walk_at "lk") (by decide)) (.cons (Ev.name (by walk_at "lk") (by decide)) (fun _ => rfl) .nil) (Calls.lenLst (by omega)) rfl) Ev.int Bin.sub
    · have : ((pints ts).length : Int) - 1 = ((n - 1 : Nat) : Int) := by omega
      rw [this]
  case body =>
    intro i q hi hq
    obtain ⟨s, hs⟩ : ∃ s, s = n - 1 - i := ⟨_, rfl⟩
    obtain rfl : q = .int (s : Int) := by
      simp [nums, hi] at hq
      rw [← hq]
      congr 1
      omega
    have hs1 : 1 ≤ s := by omega
    have hsn : s < n := by walk_at "o"
    have hstep : rtab n rv (i + 1) = rtab n rv i ++ [((s : Int), rv s)] := by
      unfold rtab
      rw [List.range_succ, List.map_append, hs]
      rfl
    have hrl : (rtab n rv i).length = i := by simp [rtab]
    refine Ex.cons (Es.sub (m' := [("runs", dictPV C (rtab n rv i)), ("size", .int s), ("times", .lst (pints ts)), ("range", .fn (.type "range")), ("len", .fn (.builtin "len")), ("sum", .fn (.builtin "sum")), ("tuple", .fn (.type "tuple"))]) (by walk_at "sub")
      (Es.setKey (k := s) (v := rv s) ?sv (Ev.name (by walk_at "lk") (by decide)) (rtab_new rv (by exact Nat.le_of_succ_le hi) (by walk_at "o")) (by omega) rfl (by decide))) (Ex.less Ex.nil (by rw [hstep]; walk_at "sub"))
    case sv =>
      rw [hr s hs1 hsn]
      refine Ev.bin (Ev.lstAt (Ev.name (by walk_at "lk") (by decide)) (Ev.name (by walk_at "lk") (by decide)) (by exact Nat.lt_of_lt_of_eq hsn (id (Eq.symm hn))) (by omega)) (Ev.callB (Ev.name (by walk_at "lk") (by decide)) (ps := [.lst (pints ((mults s n).map rv))]) (.cons (Ev.cast (evListComp (cl := [("runs", L + 1)]) (mults s n) (fun k => .int (k : Int)) (fun k => some (.int (rv k))) [("runs", dictPV C (rtab n rv i))] rfl
        (EvIt.of (Ev.callT (ps := [.int ((2 * s : Nat) : Int), .int (n : Int), .int (s : Int)]) (Ev.name (by walk_at "lk") (by decide)) ?ra2 (Calls.range3 (by exact Int.natCast_ne_zero_iff_pos.mpr hs1) (PyProof.noPylong_small (by omega))) rfl) ?its) (.cons rfl .nil) (by show [("runs" : Str)].Nodup; decide) (by decide) rfl (by decide) ?szm (fun Cc => by walk_at "csub") ?c2) (by rw [aL]; simp [pints])) (fun _ => rfl) .nil) (Calls.sum Its.lst) rfl) Bin.sub
      case ra2 =>
        refine .cons ?_ (fun _ => rfl) (.cons ?_ (fun _ => rfl) (.cons (Ev.name (by walk_at "lk") (by decide)) (fun _ => rfl) .nil))
        · apply Ev.cast
          · refine Ev.bin Ev.int (Ev.name (by walk_at "lk") (by decide)) (Bin.mul (mulOk_of_bits (m := 2) (n := 20) (by decide) (aN (by exact Int.natCast_nonneg s) (by rw [show (2 : Int) ^ 20 = 1048576 by decide]; omega)) (by decide)))
          · have : (2 : Int) * (s : Int) = ((2 * s : Nat) : Int) := by omega
            rw [this]
        · apply Ev.cast
          · exact Ev.callB (Ev.name (by walk_at "lk") (by decide)) (.cons (Ev.name (by walk_at "lk") (by decide)) (fun _ => rfl) .nil) (Calls.lenLst (by omega)) rfl
          · rw [hlen]
      case its =>
        have := Its.rng (C := C) (d := d + 1) (qF (n := n) hs1 (by omega) (by omega)) (kD (n := n) hs1)
        have e : nums ((2 * s : Nat) : Int) (s : Int) (kN s n) = (mults s n).map fun k => .int (k : Int) := by
          unfold nums mults
          rw [List.map_map]
          apply List.map_congr_left
          intro j _
          show PV.int _ = PV.int _
          congr 1
        rw [e] at this
        exact this
      case szm =>
        have hc : kN s n ≤ n := by
          unfold kN
          split
          · have := Nat.div_le_self (n - 2 * s - 1) s
            walk_at "o"
          · exact Nat.zero_le n
        simp [mults]
        omega
      case c2 =>
        intro Cc k hk
        refine ⟨_, Tgt.name rfl, Ifs.nil, ?_⟩
        obtain ⟨j, hj, rfl⟩ := mM hk
        have hj := List.mem_range.mp hj
        have hlt : 2 * s + j * s < n := by
          unfold kN at hj
          split at hj
          · rename_i h2
            have h3 := Nat.mul_le_of_le_div s j (n - 2 * s - 1) (by exact Nat.le_of_lt_succ hj)
            omega
          · omega
        exact Ev.dictAt (by walk_at "lk") (Ev.name (by walk_at "lk") (by decide)) (sZ rv (by exact Nat.le_of_succ_le hi) (by omega) hlt) (by decide)
  case last =>
    refine Ex.stop (Es.ret ?_)
    have hev : Ev C (d + 1) (envC (Str.ofString "_law_runs") (fScope 22) L a cd) [("runs", dictPV C (rtab n rv (n - 1))), ("times", .lst (pints ts)), ("range", .fn (.type "range")), ("len", .fn (.builtin "len")), ("tuple", .fn (.type "tuple"))] zGj (.lst (pints ((List.range (n - 2)).map fun j => rv (j + 1)))) := by
      refine Ev.cast (evListComp (cl := [("runs", L + 1)]) (List.range (n - 2)) (fun j => .int ((1 : Nat) + (j : Int) * 1)) (fun j => some (.int (rv (j + 1)))) [("runs", dictPV C (rtab n rv (n - 1)))] rfl
        (EvIt.of (Ev.callT (ps := [.int (1 : Nat), .int ((n - 1 : Nat) : Int)]) (Ev.name (by walk_at "lk") (by decide)) ?ra3 Calls.range2 rfl) (Its.rng (n := n - 2) (small_range (by omega) (by omega) (by omega) (by omega)) (by rw [size_range]; omega))) (.cons rfl .nil) (by show [("runs" : Str)].Nodup; decide) (by decide) rfl (by decide) (by simp; omega) (fun Cc => by walk_at "csub") ?c3) (by rw [aL]; simp [pints])
      case ra3 =>
        refine .cons Ev.int (fun _ => rfl) (.cons ?_ (fun _ => rfl) .nil)
        apply Ev.cast
        · exact Ev.bin (Ev.callB (Ev.name (by walk_at "lk") (by decide)) (.cons (Ev.name (by walk_at "lk") (by decide)) (fun _ => rfl) .nil) (Calls.lenLst (by omega)) rfl) Ev.int Bin.sub
        · have : ((pints ts).length : Int) - 1 = ((n - 1 : Nat) : Int) := by omega
          rw [this]
      case c3 =>
        intro Cc j hj
        have hj := List.mem_range.mp hj
        refine ⟨_, Tgt.name rfl, Ifs.nil, ?_⟩
        have e : ((1 : Nat) + (j : Int) * 1 : Int) = ((j + 1 : Nat) : Int) := by omega
        exact Ev.dictAt (k := ((1 : Nat) + (j : Int) * 1 : Int)) (by walk_at "lk") (Ev.name (by walk_at "lk") (by decide)) (by rw [e]; exact sZ rv (by exact Nat.le_refl (n - 1)) (by omega) (by omega)) (by decide)
    exact Ev.callT (Ev.name (by walk_at "lk") (by decide)) (.cons hev (fun _ => rfl) .nil) (Calls.tupLst (by simp; omega)) rfl
end
section
variable {C : Cx}
noncomputable def yQ : List Stmt := match PySem.Challenge.pw_rl0136_01.main.body[(15 : Nat)]? with
  | some (.ClassDef _ _ _ b _ _ _ _ _ _ _) => b
  | _ => []
noncomputable def mBody (i : Nat) : List Stmt := match yQ[i]? with
  | some (.FunctionDef _ _ b _ _ _ _ _ _ _) => b
  | _ => []
noncomputable def mScope (i : Nat) : Scope := match yQ[i]? with
  | some (.FunctionDef _ _ _ _ _ _ sc _ _ _) => sc
  | _ => { kind := .function, names := [], isGenerator := false, isCoroutine := false, more := [] }
noncomputable def mParams (i : Nat) : Arguments := match yQ[i]? with
  | some (.FunctionDef _ a _ _ _ _ _ _ _ _) => a
  | _ => { posonlyargs := [], args := [], vararg := none, kwonlyargs := [], kw_defaults := [], kwarg := none, defaults := [] }
noncomputable def mSt (i k : Nat) : Stmt := (mBody i).getD k (.Pass ⟨0, 0, 0, 0⟩)
theorem EvNew.ev {d : Nat} {env : Env} {m : Vars} {e : Expr} {l : List PV} (h : EvNew C d env m e l) : Ev C d env m e (.lst l) := .mk fun A s H hA I F V Q E q =>
  h.run A s H hA I F V _ E fun v s' g r => by
    refine aV r fun a vs n ez1 h1 h2 h3 => ?_; clear r; subst ez1
    refine q _ s' g (.lst (fun hx => ?_) h2 h3)
    obtain ⟨o, e⟩ := iS (I.hid.there a hx)
    rw [h1] at e; cases e
noncomputable def cQ (w : List Int × Int) : List Int := if (w.1.length : Int) ≤ w.2 then w.1 ++ List.replicate (w.2 - w.1.length + 1).toNat 0 else w.1
noncomputable def dH (w : List Int × Int) (tab : Bool) : List Int × Int :=
  if tab then ((cQ w).set w.2.toNat ((cQ w).getD w.2.toNat 0 + 1), 0) else (w.1, w.2 + 1)
noncomputable def wrun (l : List Bool) : List Int × Int := l.foldl dH ([], 0)
noncomputable def wtabs (l : List Bool) : Int := (l.count true : Nat)
theorem iF {l : List Bool} {i : Nat} {c : Bool} (h : l[i]? = some c) : wrun (l.take (i + 1)) = dH (wrun (l.take i)) c := by
  rw [List.take_add_one, h]
  simp [wrun, List.foldl_append]
theorem rP {l : List Bool} {i : Nat} {c : Bool} (h : l[i]? = some c) : wtabs (l.take (i + 1)) = wtabs (l.take i) + (if c then 1 else 0) := by
  rw [List.take_add_one, h]
  cases c <;> simp [wtabs, List.count_append]
theorem dP {w : List Int × Int} (h0 : 0 ≤ w.2) : w.2.toNat < (cQ w).length ∧ ((cQ w).length = w.1.length ∨ (cQ w).length = w.2.toNat + 1) := by
  unfold cQ
  split
  · simp; omega
  · refine ⟨by omega, .inl rfl⟩
theorem cX (l : List Bool) : ∀ i, i ≤ l.length → 0 ≤ (wrun (l.take i)).2 ∧ (wrun (l.take i)).2 ≤ i ∧ (wrun (l.take i)).1.length ≤ i + 1
  | 0, _ => by simp [wrun]
  | i + 1, h => by
    obtain ⟨h1, h2, h3⟩ := cX l i (by exact Nat.le_of_succ_le h)
    have hc : l[i]? = some l[i] := List.getElem?_eq_getElem (by exact h)
    rw [iF hc]
    have hg := dP h1
    cases l[i]
    · simp only [dH, Bool.false_eq_true, if_false]
      refine ⟨by exact Int.le_add_one h1, by omega, by exact Nat.le_add_right_of_le h3⟩
    · simp only [dH, if_true, List.length_set]
      omega
theorem dU (a b : List Int) : pints (a ++ b) = pints a ++ pints b := by simp [pints]
theorem uP (a : List Int) (i : Nat) (x : Int) : pints (a.set i x) = (pints a).set i (.int x) := by simp [pints, List.map_set]
theorem uQ (n : Nat) (x : Int) : pints (List.replicate n x) = (List.replicate n (pints [x])).flatten := by
  induction n with
  | zero => rfl
  | succ n ih => simp [List.replicate_succ, pints] at ih ⊢
theorem pints_length (a : List Int) : (pints a).length = a.length := by simp [pints]
noncomputable def aW (l : List Bool) : List Nat := l.map fun t => if t then 9 else 32
structure LeadT (x : Str) (l : List Bool) : Prop where
  is : ∃ c r, x.cps.toList = aW l ++ c :: r ∧ c ≠ 32 ∧ c ≠ 9
noncomputable def wV (x : Str) (P : Heap → Value → Prop) (cnt : List PV) (b n nt : Int) : Vars :=
  [("count", .mlst cnt), ("b", .int b), ("n", .int n), ("nt", .int nt), ("S", .str ⟨#[32]⟩), ("T", .str ⟨#[9]⟩), ("self", .sem P), ("ws", .str x), ("len", .fn (.builtin "len")), ("tuple", .fn (.type "tuple"))]
noncomputable def wAt (x : Str) (P : Heap → Value → Prop) (l : List Bool) (i : Nat) : Vars := wV x P (pints (wrun (l.take i)).1) (wrun (l.take i)).2 (i : Nat) (wtabs (l.take i))
set_option maxHeartbeats 4000000 in
theorem vR {d : Nat} {env : Env} {K N : Addr} {mN : Str → Option Value} (X : dO C K N mN) (hna : mN "raw" = none) (hB : typeLookup (.type "object") "raw" = pure none) {P : Heap → Value → Prop} {x : Str} (hP : ∀ h v, P h v → InstIs K [("raw", .str x)] h v) {l : List Bool} (hl : l.length ≤ 10000) (hx : LeadT x l)
    (hs : ∀ y ∈ [("ch" : Str), "n", "b", "nt", "count"], cN env y) (hk : ∀ y, env.kindOf y = some .local → True) :
    Es C d env (wAt x P l 0) (mSt 1 4) (.next (wAt x P l l.length)) := by
  have hz := aC
  have hz2 : (2 : Nat) ^ 20 = 1048576 := by decide
  refine iT hx.is fun c r hxe hc1 hc2 => ?_
  have sch : cN env "ch" := hs _ (by simp)
  have sn : cN env "n" := hs _ (by simp)
  have sb : cN env "b" := hs _ (by simp)
  have snt : cN env "nt" := hs _ (by simp)
  have scount : cN env "count" := hs _ (by simp)
  have hsig : ∀ i : Nat, (signs x)[i]? = ((aW l ++ c :: r)[i]?).map fun c => PV.str ⟨#[c]⟩ := by
    intro i
    unfold signs
    rw [List.getElem?_map, hxe]
  have hbl : (aW l).length = l.length := by simp [aW]
  have eq32 : ∀ k : Nat, ((⟨#[k]⟩ : Str).cps.toList == (⟨#[32]⟩ : Str).cps.toList) = decide (k = 32) := by intro k; simp; rfl
  have eq9 : ∀ k : Nat, ((⟨#[k]⟩ : Str).cps.toList == (⟨#[9]⟩ : Str).cps.toList) = decide (k = 9) := by intro k; simp; rfl
  refine Es.forTo (x := "ch") (fun i => wAt x P l i) l.length (by unfold wAt wV; walk_at "sub") (EvIt.of (Ev.attr' (attrs := [("raw", .str x)]) X (Ev.semMono (Ev.name (x := "self") rfl (by decide)) hP) rfl hna rfl hB rfl (fun _ _ => rfl)) Its.str) sch ?body (.inr ⟨.str ⟨#[c]⟩, ?hq, ?brk⟩)
  case hq =>
    rw [hsig, List.getElem?_append_right (by exact Nat.le_of_eq hbl), hbl]
    simp
  case brk =>
    refine Ex.brk (Es.ifFalse (Ts.cast (Ts.cmp (Ev.name (x := "ch") rfl (by decide)) (Ev.name (x := "S") rfl (by decide)) Cmp.eqStr rfl) (by rw [eq32]; exact decide_eq_false hc1)) (Ex.brk (Es.ifFalse (Ts.cast (Ts.cmp (Ev.name (x := "ch") rfl (by decide)) (Ev.name (x := "T") rfl (by decide)) Cmp.eqStr rfl) (by rw [eq9]; exact decide_eq_false hc2)) (Ex.brk (m' := wAt x P l l.length) ?_))))
    exact Es.sub (by unfold wAt wV; walk_at "sub") Es.brk'
  case body =>
    intro i q hi hq
    obtain ⟨b1, b2, b3⟩ := cX l i (by exact Nat.le_of_succ_le hi)
    have hci : l[i]? = some l[i] := List.getElem?_eq_getElem hi
    have hr := iF hci
    have ht := rP hci
    have hq' : q = .str ⟨#[if l[i] then 9 else 32]⟩ := by
      rw [hsig, List.getElem?_append_left (by exact Nat.lt_of_lt_of_eq hi (id (Eq.symm hbl)))] at hq
      simp [aW, hci] at hq
      exact hq.symm
    subst hq'
    generalize hW : wrun (l.take i) = W at *
    obtain ⟨cnt, b⟩ := W
    have hcur : wAt x P l i = (wV x P (pints cnt) b (i : Nat) (wtabs (l.take i))) := by
      unfold wAt; rw [hW]
    have hi1 : ((i + 1 : Nat) : Int) = (i : Int) + 1 := by omega
    rw [hcur]
    cases hbit : l[i] with
    | false =>
      rw [hbit] at hr ht
      simp only [Bool.false_eq_true, if_false] at ht ⊢
      have hnext : wAt x P l (i + 1) = (wV x P (pints cnt) (b + 1) ((i : Int) + 1) (wtabs (l.take i) + 0)) := by
        unfold wAt; rw [hr, ht, hi1]; rfl
      rw [hnext, Int.add_zero]
      refine Ex.cons (m' := (wV x P (pints cnt) (b + 1) ((i : Int) + 1) (wtabs (l.take i)))) (Es.ifTrue (Ts.cast (Ts.cmp (Ev.name (x := "ch") rfl (by decide)) (Ev.name (x := "S") rfl (by decide)) Cmp.eqStr rfl) (by rw [eq32]; rfl)) ?_) Ex.nil
      refine Ex.cons (Es.assign (p := .int ((i : Int) + 1)) (by walk_at "go") rfl sn) ?_
      refine Ex.cons (Es.assign (p := .int (b + 1)) (by walk_at "go") rfl sb) ?_
      exact Ex.less Ex.nil (by unfold wV; walk_at "sub")
    | true =>
      rw [hbit] at hr ht
      simp only [if_true] at ht ⊢
      have hg := dP (w := (cnt, b)) b1
      have hgl : (cQ (cnt, b)).length ≤ 20001 := by simp only at b2 b3 hg; omega
      generalize hG : cQ (cnt, b) = G at hg hgl
      have hw : dH (cnt, b) true = (G.set b.toNat (G.getD b.toNat 0 + 1), 0) := by simp [dH, hG]
      have hnext : wAt x P l (i + 1) = (wV x P ((pints G).set b.toNat (.int (G.getD b.toNat 0 + 1))) 0 ((i : Int) + 1) (wtabs (l.take i) + 1)) := by
        unfold wAt; rw [hr, ht, hi1, hw, ← uP]
      rw [hnext]
      simp only at b1 b2 b3 hg
      refine Ex.cons (m' := (wV x P ((pints G).set b.toNat (.int (G.getD b.toNat 0 + 1))) 0 ((i : Int) + 1) (wtabs (l.take i) + 1)))
        (Es.ifFalse (Ts.cast (Ts.cmp (Ev.name (x := "ch") rfl (by decide)) (Ev.name (x := "S") rfl (by decide)) Cmp.eqStr rfl) (by rw [eq32]; rfl))
        (Ex.cons (m' := (wV x P ((pints G).set b.toNat (.int (G.getD b.toNat 0 + 1))) 0 ((i : Int) + 1) (wtabs (l.take i) + 1)))
        (Es.ifTrue (Ts.cast (Ts.cmp (Ev.name (x := "ch") rfl (by decide)) (Ev.name (x := "T") rfl (by decide)) Cmp.eqStr rfl) (by rw [eq9]; rfl)) ?_) Ex.nil)) Ex.nil
      refine Ex.cons (Es.assign (p := .int ((i : Int) + 1)) (by walk_at "go") rfl sn) ?_
      refine Ex.cons (Es.assign (p := .int (wtabs (l.take i) + 1)) (by walk_at "go") rfl snt) ?_
      refine Ex.cons (m' := (wV x P (pints G) b ((i : Int) + 1) (wtabs (l.take i) + 1))) ?grow ?_
      case grow =>
        have hlen : (pints cnt).length = cnt.length := pints_length cnt
        refine Es.sub (m' := wV x P (pints cnt) b ((i : Int) + 1) (wtabs (l.take i) + 1)) (by unfold wV; walk_at "sub") ?_
        have lenC : Ev C d env (fz (wV x P (pints cnt) b ((i : Int) + 1) (wtabs (l.take i) + 1))) _ (.int ((pints cnt).length : Nat)) := Ev.callB (pos := ⟨105, 24, 105, 34⟩) (Ev.name (x := "len") (pos := ⟨105, 24, 105, 27⟩) rfl (by decide)) (.cons (Ev.name (x := "count") (pos := ⟨105, 28, 105, 33⟩) rfl (by decide)) (fun _ => rfl) .nil) (Calls.lenLst (by omega)) rfl
        have tst : ∀ bb, decide (((pints cnt).length : Int) ≤ b) = bb → Ts C d env (wV x P (pints cnt) b ((i : Int) + 1) (wtabs (l.take i) + 1)) _ bb := fun bb hbb => Ts.cast (Ts.frozen (Ts.cmp (pos := ⟨105, 19, 105, 34⟩) (Ev.name (x := "b") (pos := ⟨105, 19, 105, 20⟩) rfl (by decide)) lenC Cmp.ge rfl)) hbb
        by_cases hge : (cnt.length : Int) ≤ b
        · have hGe : pints G = pints cnt ++ (List.replicate (b - cnt.length + 1).toNat (pints [0])).flatten := by rw [← hG, ← uQ, ← dU]; simp [cQ, hge]
          refine Es.ifTrue (tst true (by rw [hlen]; exact decide_eq_true hge)) ?_
          refine Ex.frozen (Ex.cons (Es.assignNew (l := pints G) (EvNew.cast (EvNew.add (Ev.name (x := "count") rfl (by decide)) (EvNew.ev (EvNew.mul (x := b - cnt.length + 1) (EvNew.ev (EvNew.lst (ps := pints [0]) (.cons Ev.int (fun _ => rfl) .nil) ((nB rfl))))
            (Ev.bin (Ev.bin (Ev.name (x := "b") rfl (by decide)) (Ev.cast (Ev.callB (Ev.name (x := "len") rfl (by decide)) (.cons (Ev.name (x := "count") rfl (by decide)) (fun _ => rfl) .nil) (Calls.lenLst (by omega)) rfl) (by rw [hlen])) Bin.sub) Ev.int Bin.add) (by omega) ?m1 (by omega))) ?m2) hGe.symm) (by simp [pints, PV.flat]) rfl scount) (Ex.less Ex.nil (by unfold wV; walk_at "sub")))
          case m1 => rw [show (pints [0]).length = 1 from rfl]; omega
          case m2 => simp [pints]; omega
        · have hGe : G = cnt := by rw [← hG]; simp [cQ, hge]
          refine Es.ifFalse (tst false (by rw [hlen]; exact decide_eq_false hge)) ?_
          rw [hGe]
          exact Ex.less Ex.nil (by unfold wV; walk_at "sub")
      refine Ex.cons (Es.setItem (p := .int (G.getD b.toNat 0 + 1)) ?val (k := b) (Ev.name (x := "b") rfl (by decide)) b1 (by rw [pints_length]; omega) (by rw [pints_length]; omega) rfl (by decide)) ?_
      case val =>
        refine Ev.frozen (Ev.bin (Ev.lstAt (i := b.toNat) (Ev.name (x := "count") rfl (by decide)) (Ev.cast (Ev.name (x := "b") rfl (by decide)) (by rw [Int.toNat_of_nonneg b1]; rfl)) hg.1 (by omega)) Ev.int Bin.add)
      refine Ex.cons (Es.assign (p := .int 0) Ev.int rfl sb) ?_
      exact Ex.less Ex.nil (by unfold wV; walk_at "sub")
end
section
variable {C : Cx}
structure MethT (C : Cx) (i : Nat) (name qual : String) (mN : Str → Option Value) (a : Addr) (cd : Value) : Prop where
  is : pU C a (Str.ofString name) (Str.ofString qual) (mParams i) (mBody i) (mScope i) cd
  n : mN (Str.ofString name) = some (.ref a)
structure WsT (C : Cx) (K N : Addr) (mN : Str → Option Value) : Prop where
  X : dO C K N mN
  g : C.mg (Str.ofString "Whitespace") = some (.ref K)
  S : ∃ t, iE C K (Str.ofString "S") (.str ⟨#[32]⟩ t)
  T : ∃ t, iE C K (Str.ofString "T") (.str ⟨#[9]⟩ t)
  free : mN (Str.ofString "raw") = none ∧ mN (Str.ofString "n") = none ∧ mN (Str.ofString "nt") = none ∧ mN (Str.ofString "norm") = none ∧ mN (Str.ofString "is_simple") = none
  len : C.mg (Str.ofString "len") = none ∧ C.mb (Str.ofString "len") = some (.builtin "len")
  tuple : C.mg (Str.ofString "tuple") = none ∧ C.mb (Str.ofString "tuple") = some (.type "tuple")
  max : C.mg (Str.ofString "max") = none ∧ C.mb (Str.ofString "max") = some (.builtin "max")
  range : C.mg (Str.ofString "range") = none ∧ C.mb (Str.ofString "range") = some (.type "range")
noncomputable def wnorm (l : List Bool) : PV := .tup [.tup (pints (wrun l).1), .int (wrun l).2]
noncomputable def wattrs (x : Str) (l : List Bool) : Vars :=
  [("raw", .str x), ("n", .int (l.length : Nat)), ("nt", .int (wtabs l)), ("norm", wnorm l), ("is_simple", .bool (decide ((((wrun l).1.length : Nat) : Int) ≤ 1)))]
theorem qR {l : Vars} {R : Str → PV → Prop} (h : ∀ e ∈ l, R e.1 e.2) (y : Str) (p : PV) (e : l.lookup y = some p) : R y p := h (y, p) (aA.write.mem_of_lookup e)
theorem tJ {y : Str} : ∀ {l : Vars} {z : Str} {p : PV}, l.lookup y = none → (z, p) ∈ l → y ≠ z := fun {l z p} e h hy => by
  induction l with
  | nil => cases h
  | cons a l ih =>
    rw [List.lookup_cons] at e
    cases hb : y == a.1 with
    | true => rw [hb] at e; cases e
    | false =>
      rw [hb] at e
      rcases mC h with rfl | h
      · exact absurd (beq_iff_eq.mpr hy) (by rw [hb]; decide)
      · exact ih e h
theorem dN {α : Type} {R : α → Prop} {a : α} {l : List α} (h : R a) (t : ∀ e ∈ l, R e) : ∀ e ∈ a :: l, R e := fun e he => (mC he).elim (fun h' => h' ▸ h) (t e)
theorem uD {α : Type} {R : α → Prop} : ∀ e ∈ ([] : List α), R e := fun _ h => nomatch h
theorem iP {y n : Str} {w : Value} {r : Option Value} (hn : y ≠ n) (hr : r = none) : (if y = n then some w else r) = none := (if_neg hn).trans hr
set_option maxHeartbeats 4000000 in
theorem rR {K N : Addr} {mN : Str → Option Value} (T : WsT C K N mN) {f : Addr} {cd : Value} (F0 : MethT C 1 "__init__" "Whitespace.__init__" mN f cd) {d : Nat} (hD : d < recursionLimit) {x : Str} {l : List Bool} (hl : l.length ≤ 10000) (hx : LeadT x l) :
    yZ C d K f [.str x] (wattrs x l) := by
  refine cps fun Pz kz => ?_
  obtain ⟨X, hg, ⟨tS, hS⟩, ⟨tT, hT⟩, ⟨f1, f2, f3, f4, f5⟩, len, tuple, _, _⟩ := T
  refine kz ?_; clear kz Pz
  have hz := aC
  have hz2 : (2 : Nat) ^ 20 = 1048576 := by decide
  intro A s H x' dx vs hA I J hxH hdH hxB hdB R Q E q
  obtain ⟨v, t, rfl, rfl⟩ : ∃ v t, vs = [v] ∧ v = .str x t := by
    cases R with
    | cons r R => cases R with
      | nil =>
        obtain ⟨t, rfl⟩ := Rep.strI r
        · exact ⟨_, t, rfl, rfl⟩
  have KO := I.ok
  refine eM F0.is.obj fun o pm doc ho _ hd => ?_
  refine wpAny_call (codeAny_call_def (fd := methDef (Str.ofString "__init__") (Str.ofString "Whitespace.__init__") (mParams 1) (mBody 1) (mScope 1) pm cd doc) (body := mBody 1) (binds := [("self", .ref x'), ("ws", .str x t)]) (by have := hA.depth; exact Nat.lt_of_le_of_lt this hD) (I.keep _ _ F0.is.tab ho) hd I.nolimit (F0.is.code H s I) rfl (.of_eq rfl) (show ∀ x ∈ (mScope 1).names, x.2 ≠ .cell by decide)
    (by intro y hy; simp only [List.mem_cons, List.not_mem_nil, or_false] at hy; rcases hy with rfl | rfl <;> rfl) (fun h₁ hns hkeep => ?_) rfl rfl rfl)
  show wpAny _ (A.deeper (envOf (Str.ofString "Whitespace.__init__") (mScope 1) s.heap.objs.size f cd)) (execs (mBody 1) (envOf (Str.ofString "Whitespace.__init__") (mScope 1) s.heap.objs.size f cd)) _ _ _
  generalize hL : s.heap.objs.size = L at hns ⊢
  have hLn : s.heap.get? L = none := by
    cases e : s.heap.get? L with
    | none => rfl
    | some o' => exact absurd (Heap.lt_size e) (by rw [hL]; exact Nat.lt_irrefl _)
  have hLt : L ∉ C.tabs := fun ht => by
    refine iT (KO.tabIs _ I.tab L ht) fun o' _ e' _ _ => ?_
    rw [hLn] at e'; cases e'
  have hLB : C.hB.get? L = none := by
    cases e : C.hB.get? L with
    | none => rfl
    | some o' => rw [I.keep L o' hLt e] at hLn; cases hLn
  refine aI J.obj fun ox hox _ => ?_
  refine aI J.dir fun od hod hodn => ?_
  have hxL : x' ≠ L := by rintro rfl; rw [hLn] at hox; cases hox
  have hdL : dx ≠ L := by rintro rfl; rw [hLn] at hod; cases hod
  have hxT : x' ∉ C.tabs := fun h => hxH (I.tabs _ h)
  have hdT : dx ∉ C.tabs := fun h => hdH (I.tabs _ h)
  have hxK : x' ≠ K := by
    rintro rfl
    refine cps fun Pz kz => ?_
    obtain ⟨nm, qn, bs, sn, sub, col, dd, k0, k1, k2, k3, k5, e⟩ := X.at'.obj
    refine kz ?_; clear kz Pz
    rw [hxB] at e; cases e
  generalize henv : envOf (Str.ofString "Whitespace.__init__") (mScope 1) L f cd = env
  have hown : own env = [L] := by rw [← henv]; rfl
  have g1 : Gr C [] s { s with heap := h₁, toks := s.toks + ([("self", Value.ref x'), ("ws", .str x t)] : List (Str × Value)).length } := Gr.of KO hkeep
  generalize hs1 : ({ s with heap := h₁, toks := s.toks + ([("self", Value.ref x'), ("ws", .str x t)] : List (Str × Value)).length } : Shared) = s1 at g1
  have hh1 : s1.heap = h₁ := by rw [← hs1]
  have hns1 : s1.heap.Ns L (fun y => ([("self", Value.ref x'), ("ws", .str x t)] : List (Str × Value)).reverse.lookup y) := by rw [hh1]; exact hns
  have hnew : ∀ y ∈ own env, s.heap.get? y = none := by rw [hown]; intro y hy; rw [mS hy]; exact hLn
  have I1 : Inv C ⟨none, [L] ++ H.hid⟩ s1 := by
    rw [← hown]
    exact enter I g1 hnew (by rw [hown]; intro y hy; rw [mS hy]; obtain ⟨o, _, _, e, _⟩ := hns1; rw [e]; rfl) (by rw [hown]; intro y hy o e; rw [mS hy] at e; exact aS hns1 e)
  have hod1 : s1.heap.get? dx = some od := g1.keep _ _ hdT (by simp) hod
  have I1d : Inv C ⟨none, dx :: ([L] ++ H.hid)⟩ s1 := I1.hideOne hod1 hodn
  have loc : ∀ y, (mScope 1).names.lookup y = some .local → env.kindOf y = some .local := by intro y hy; rw [← henv]; exact hy
  have F1 : aF C env ⟨none, dx :: ([L] ++ H.hid)⟩ s1.heap := by
    rw [← henv]
    exact ⟨⟨rfl, rfl, rfl⟩, (fun c hc => by cases hc), hLt, hLB, ⟨_, hns1⟩, (fun x c hc => by cases hc), (fun x y c hc => by cases hc), fun y hy => by
      have : y = L := by simpa [own, envOf] using hy
      rw [this]; simp⟩
  have Nw : cL C env dx := by
    rw [← henv]
    exact ⟨hdT, hdB, fun h => hdL h.symm, (fun x c hc => by cases hc), fun h => hdL (by simpa [own, envOf] using h)⟩
  have V1 : aA C env ⟨none, dx :: ([L] ++ H.hid)⟩ s1.heap [("self", .fn (.ref x')), ("ws", .str x), ("Whitespace", .fn (.ref K)), ("len", .fn (.builtin "len")), ("tuple", .fn (.type "tuple"))] := by
    refine .cons (.cons (.cons (.cons (.cons .nil ?_) ?_) ?_) ?_) ?_
    · exact ⟨_, .inr (.inr ⟨by rw [← henv]; rfl, .inr tuple⟩), .imm (.fn _)⟩
    · exact ⟨_, .inr (.inr ⟨by rw [← henv]; rfl, .inr len⟩), .imm (.fn _)⟩
    · exact ⟨_, .inr (.inr ⟨by rw [← henv]; rfl, .inl hg⟩), .imm (.fn _)⟩
    · exact ⟨_, .inl ⟨by rw [← henv]; rfl, _, by rw [← henv]; exact hns1, rfl⟩, .imm (.str _ _)⟩
    · exact ⟨_, .inl ⟨by rw [← henv]; rfl, _, by rw [← henv]; exact hns1, rfl⟩, .imm (.fn _)⟩
  have J1 : bW x' dx K (fun _ => none) s1.heap := J.keeps (fun o e => g1.keep _ _ hxT (by simp) e) (fun o e => g1.keep _ _ hdT (by simp) e)
  have hA' : AOk (A.deeper env) (d + 1) := by rw [← henv]; exact ⟨hA.handled, by show A.depth + 1 ≤ d + 1; have := hA.depth; exact Nat.add_le_add_right this 1, by show A.units + 3 ≤ 10 * (d + 1); have := hA.units; omega⟩
  have htabs : ∀ a ∈ C.tabs, a ∈ [L] ++ H.hid := fun a ha => mR (I.tabs a ha)
  have hb : mBody 1 = mSt 1 0 :: ([mSt 1 1, mSt 1 2, mSt 1 3, mSt 1 4] ++ [mSt 1 5, mSt 1 6, mSt 1 7, mSt 1 8]) := rfl
  rw [hb]
  refine wpAny_execs_cons (dM (name := "raw") X hA' I1d F1 V1 mH Nw hxT J1 hxK rfl (by decide) (Ev.name (x := "ws") rfl (by decide)) f1 (by rw [typeLookup_type, builtinLookup_eq_fast]; kernel_rfl) (ns := []) (by within_ways) (by size_fits) (by rw [← henv]; rfl) fun w1 s2 g2 I2 F2 V2 J2 r1 => ?_)
  obtain ⟨t1, rfl⟩ := r1.strI
  let P : Heap → Value → Prop := fun h v => v = .ref x' ∧ bW x' dx K (fun y => if y = Str.ofString "raw" then some (Value.str x t1) else none) h
  have hP : ∀ h v, P h v → InstIs K [("raw", .str x)] h v := by
    rintro h v ⟨rfl, j⟩
    refine ⟨x', _, rfl, j.inst, fun y p e => ?_, fun y e => ?_⟩
    · exact qR (R := fun y p => ∃ w, (if y = Str.ofString "raw" then some (Value.str x t1) else none) = some w ∧ Rep [] h w p) (dN ⟨_, rfl, .str _ _⟩ uD) y p e
    · exact iP (tJ e (.head _)) rfl
  have hxX : x' ∉ [L] ++ H.hid := fun h => (mA h).elim (fun h => hxL (mS h)) hxH
  have hdX : dx ∉ [L] ++ H.hid := fun h => (mA h).elim (fun h => hdL (mS h)) hdH
  have I2' := I2.showOne htabs
  have F2' : aF C env ⟨none, [L] ++ H.hid⟩ s2.heap := F2.other (by rw [hown]; intro y hy; rw [mS hy]; simp)
  have V2' : aA C env ⟨none, [L] ++ H.hid⟩ s2.heap [("self", .sem P), ("ws", .str x), ("Whitespace", .fn (.ref K)), ("len", .fn (.builtin "len")), ("tuple", .fn (.type "tuple"))] := by
    have V := V2.showOne
    refine aA.cons (V.sub (by walk_at "sub")) (V.as (x := "self") (p := .fn (.ref x')) rfl rfl fun v r => ?_)
    cases r
    exact .sem fun h' k => ⟨rfl, J2.keeps (fun o e => k _ _ hxX e) (fun o e => k _ _ hdX e)⟩
  have stor : ∀ y, (mScope 1).names.lookup y = some .local → cN env y := fun y hy => .inl (loc y hy)
  have run : Run C (d + 1) env [("self", .sem P), ("ws", .str x), ("Whitespace", .fn (.ref K)), ("len", .fn (.builtin "len")), ("tuple", .fn (.type "tuple"))] [mSt 1 1, mSt 1 2, mSt 1 3, mSt 1 4] (wAt x P l l.length) := by
    refine .cons (Es.swap (xs := ["S", "T"]) (ps := [.str ⟨#[32]⟩, .str ⟨#[9]⟩]) (Ev.tup (.cons (Ev.clsAttr (x := "Whitespace") rfl (by decide) hS (fun _ _ => .str _ _)) (fun _ => rfl) (.cons (Ev.clsAttr (x := "Whitespace") rfl (by decide) hT (fun _ _ => .str _ _)) (fun _ => rfl) .nil)) ((nB rfl))) rfl (by intro y hy; simp only [List.mem_cons, List.not_mem_nil, or_false] at hy; rcases hy with rfl | rfl <;> exact stor _ rfl) rfl (by rw [← henv]; rfl)) ?_
    refine .cons (Es.assignNew (x := "count") (l := []) EvNew.nil rfl rfl (stor _ rfl) (by rw [← henv]; rfl)) ?_
    refine .cons (Es.assign3 (x := "b") (y := "n") (z := "nt") (p := .int 0) Ev.int (stor _ rfl) (stor _ rfl) (stor _ rfl) (by rw [← henv]; rfl)) ?_
    refine .cons (Es.sub (m' := wAt x P l 0) ?_ (vR X f1 (by rw [typeLookup_type, builtinLookup_eq_fast]; kernel_rfl) hP hl hx (by intro y hy; simp only [List.mem_cons, List.not_mem_nil, or_false] at hy; rcases hy with rfl | rfl | rfl | rfl | rfl <;> exact stor _ rfl) (fun _ _ => trivial))) .nil
    show Sub _ (wV x P [] 0 0 0)
    unfold wV
    walk_at "sub"
  refine run.then hA' I2' F2' V2' fun s3 H3 g3 a3 I3 F3 V3 => ?_
  have hX3 : H3.X = [L] ++ H.hid := a3.X
  have If := I3.freeze
  have Ff := F3.freeze
  have Vf := V3.freeze I3
  rw [hX3] at If Ff Vf
  obtain ⟨J3⟩ : Nonempty (PLift (bW x' dx K (fun y => if y = Str.ofString "raw" then some (Value.str x t1) else none) s3.heap)) := by
    refine aI (Vf "self" (.sem P) rfl) fun v _ r => ?_
    have r := bD.is r rfl
    · have z := Rep.semI r
      · exact ⟨⟨(z s3.heap fun _ _ _ e => e).2⟩⟩
  have J3 := J3.down
  refine aI J3.dir fun od3 hod3 hodn3 => ?_
  have hseq : ∀ vs n, od3.data ≠ .seq vs n := by
    refine eM J3.ns.ns fun o es ep e dd _ => ?_
    rw [hod3] at e; cases e
    intro vs n z
    rw [dd] at z; cases z
  let cl := (wrun l).1
  have hcl : (wrun l).1.length ≤ 10001 := by have := (cX l l.length (Nat.le_refl _)).2.2; rw [List.take_length] at this; omega
  have V4 : aA C env ⟨none, dx :: ([L] ++ H.hid)⟩ s3.heap [("self", .fn (.ref x')), ("count", .lst (pints (wrun l).1)), ("b", .int (wrun l).2), ("n", .int (l.length : Nat)), ("nt", .int (wtabs l)), ("len", .fn (.builtin "len")), ("tuple", .fn (.type "tuple"))] := by
    refine aA.dir hod3 hseq (by simp [PV.easy, PV.flat, pints]) ?_
    refine aA.cons ?_ (Vf.as (x := "self") (p := .sem P) rfl rfl fun v r => ?_)
    · have e : fz (wAt x P l l.length) = fz (wV x P (pints (wrun l).1) (wrun l).2 (l.length : Nat) (wtabs l)) := by unfold wAt; rw [List.take_length]
      rw [e] at Vf
      refine Vf.sub ?_
      show Sub [("count", PV.lst _), ("b", .int _), ("n", .int _), ("nt", .int _), ("S", _), ("T", _), ("self", _), ("ws", _), ("len", _), ("tuple", _)] _
      walk_at "sub"
    · have z := Rep.semI r
      · obtain ⟨rfl, _⟩ := z s3.heap fun _ _ _ e => e; exact .fn _
  have I4 := If.hideOne hod3 hodn3
  have F4 : aF C env ⟨none, dx :: ([L] ++ H.hid)⟩ s3.heap := Ff.other (by rw [hown]; intro y hy; rw [mS hy]; simp)
  refine wpAny_execs_cons (dM (name := "n") X hA' I4 F4 V4 mH Nw hxT J3 hxK rfl (by decide) (Ev.name (x := "n") rfl (by decide)) f2 (by rw [typeLookup_type, builtinLookup_eq_fast]; kernel_rfl) (ns := ["raw"]) (by within_ways) (by size_fits) (by rw [← henv]; rfl) fun w2 s5 g5 I5 F5 V5 J5 r2 => ?_)
  refine wpAny_execs_cons (dM (name := "nt") X hA' I5 F5 V5 mH Nw hxT J5 hxK rfl (by decide) (Ev.name (x := "nt") rfl (by decide)) f3 (by rw [typeLookup_type, builtinLookup_eq_fast]; kernel_rfl) (ns := ["n", "raw"]) (by within_ways) (by size_fits) (by rw [← henv]; rfl) fun w3 s6 g6 I6 F6 V6 J6 r3 => ?_)
  refine wpAny_execs_cons (dM (name := "norm") (p := wnorm l) X hA' I6 F6 V6 mH Nw hxT J6 hxK rfl (by decide) (Ev.tup (.cons (Ev.callT (Ev.name (x := "tuple") rfl (by decide)) (.cons (Ev.name (x := "count") rfl (by decide)) (fun _ => rfl) .nil) (Calls.tupLst (by rw [pints_length]; omega)) (by rw [← henv]; rfl)) (fun _ => rfl) (.cons (Ev.name (x := "b") rfl (by decide)) (fun _ => rfl) .nil)) ((nB rfl))) f4 (by rw [typeLookup_type, builtinLookup_eq_fast]; kernel_rfl) (ns := ["nt", "n", "raw"]) (by within_ways) (by size_fits) (by rw [← henv]; rfl) fun w4 s7 g7 I7 F7 V7 J7 r4 => ?_)
  refine wpAny_execs_cons (dM (name := "is_simple") X hA' I7 F7 V7 mH Nw hxT J7 hxK rfl (by decide) (Ev.cmp (Ev.callB (Ev.name (x := "len") rfl (by decide)) (.cons (Ev.name (x := "count") rfl (by decide)) (fun _ => rfl) .nil) (Calls.lenLst (by rw [pints_length]; omega)) (by rw [← henv]; rfl)) Ev.int Cmp.le rfl) f5 (by rw [typeLookup_type, builtinLookup_eq_fast]; kernel_rfl) (ns := ["norm", "nt", "n", "raw"]) (by within_ways) (by size_fits) (by rw [← henv]; rfl) fun w5 s8 g8 I8 F8 V8 J8 r5 => ?_)
  refine wpAny_execs_nil ?_
  show Q .none s8
  have hwr : ∀ y ∈ wr env ⟨none, [L] ++ H.hid⟩, y ∈ [dx, L] := by
    intro y hy
    rcases mA hy with h | h
    · rw [hown] at h; rw [mS h]; simp
    · cases h
  have gA : Gr C [dx, L] s1 s8 := (g2.wider (by simp)).trans ((g3.wider hwr).trans ((((g5.trans g6).trans g7).trans g8).wider (by simp)))
  have hdl : ∀ y ∈ [dx, L], y ∈ [dx] ∨ s.heap.get? y = none := by
    intro y hy
    rcases mC hy with h | h
    · exact .inl (by rw [h]; simp)
    · exact .inr (by rw [mS h]; exact hLn)
  refine q _ s8 ((g1.plain).then gA hdl) ⟨rfl, ?_⟩
  have r4' := r4.gr I7.tabs g8 (fun y hy => by rw [mS hy]; simp [Hd.hid])
  refine .sem fun h' k => ⟨x', _, rfl, (J8.keeps (fun o e => k _ _ hxH e) (fun o e => k _ _ hdH e)).inst, ?_, ?_⟩
  · have r4h : Rep [] h' w4 (wnorm l) := (r4'.mono fun b o hb e => k b o (fun hh => hb (by simp [Hd.hid, hh])) e).rehide (fun a ha => by cases ha)
    exact qR (R := fun y p => ∃ w, _ = some w ∧ Rep [] h' w p) (dN ⟨_, rfl, .str _ _⟩ (dN ⟨_, rfl, r2.flat rfl⟩ (dN ⟨_, rfl, r3.flat rfl⟩ (dN ⟨_, rfl, r4h⟩ (dN ⟨_, rfl, pints_length _ ▸ r5.flat rfl⟩ uD)))))
  · intro y e
    have hne := fun z p => tJ (z := z) (p := p) e
    exact iP (hne _ _ (.tail _ (.tail _ (.tail _ (.tail _ (.head _)))))) (iP (hne _ _ (.tail _ (.tail _ (.tail _ (.head _))))) (iP (hne _ _ (.tail _ (.tail _ (.head _)))) (iP (hne _ _ (.tail _ (.head _))) (iP (hne _ _ (.head _)) rfl))))
end
section
variable {C : Cx}
noncomputable def ilAt (c : List Int) (t : Nat) : Nat → Int
  | 0 => 0
  | k + 1 => ilAt c t k + ((t + k : Nat) : Int).fdiv t * c.getD (t + k) 0
noncomputable def aP (l : List Bool) (t : Nat) : Int := (wrun l).2 + t * (ilAt (wrun l).1 t ((wrun l).1.length - t) + wtabs l)
noncomputable def dC (l : List Bool) : Int := if (wrun l).2 > ((wrun l).1.length : Nat) - 1 then (wrun l).2 else ((wrun l).1.length : Nat) - 1
noncomputable def witT (l m : List Bool) : Nat → List (Int × Int × Int)
  | 0 => []
  | k + 1 => if aP l (k + 1) != aP m (k + 1) then witT l m k ++ [(((k + 1 : Nat) : Int), aP l (k + 1), aP m (k + 1))] else witT l m k
noncomputable def trip (p : Int × Int × Int) : PV := .tup [.int p.1, .int p.2.1, .int p.2.2]
theorem iZ (l m : List Bool) : ∀ k, (witT l m k).length ≤ k
  | 0 => Nat.le_refl _
  | k + 1 => by
    have := iZ l m k
    unfold witT
    split
    · simp; walk_at "o"
    · exact Nat.le_add_right_of_le this
theorem gG (l : List Bool) : ∀ i, i ≤ l.length → ∀ x ∈ (wrun (l.take i)).1, 0 ≤ x ∧ x ≤ i
  | 0, _ => by intro x hx; simp [wrun] at hx
  | i + 1, h => by
    have ih := gG l i (by exact Nat.le_of_succ_le h)
    obtain ⟨b1, _⟩ := cX l i (by exact Nat.le_of_succ_le h)
    have hc : l[i]? = some l[i] := List.getElem?_eq_getElem (by exact h)
    rw [iF hc]
    generalize wrun (l.take i) = W at *
    have hG : ∀ x ∈ cQ W, 0 ≤ x ∧ x ≤ i := by
      intro x hx
      unfold cQ at hx
      split at hx
      · rcases mA hx with hx | hx
        · exact ih x hx
        · rw [(List.mem_replicate.mp hx).2]; omega
      · exact ih x hx
    have hg := (dP b1).1
    intro x hx
    cases hb : l[i]
    · rw [hb] at hx
      simp only [dH, Bool.false_eq_true, if_false] at hx
      have := ih x hx
      omega
    · rw [hb] at hx
      simp only [dH, if_true] at hx
      rcases List.mem_or_eq_of_mem_set hx with hx | hx
      · have := hG x hx; omega
      · have hm : (cQ W).getD W.2.toNat 0 ∈ cQ W := bL hg
        have := hG _ hm
        omega
theorem iG (l : List Bool) (hl : l.length ≤ 10000) : 0 ≤ (wrun l).2 ∧ (wrun l).2 ≤ 10000 ∧ (wrun l).1.length ≤ 10001 ∧ (∀ x ∈ (wrun l).1, 0 ≤ x ∧ x ≤ 10000) ∧ 0 ≤ wtabs l ∧ wtabs l ≤ 10000 := by
  refine bZ (cX l l.length (Nat.le_refl _)) fun h1 h2 h3 => ?_
  have h4 := gG l l.length (Nat.le_refl _)
  rw [List.take_length] at h1 h2 h3 h4
  refine ⟨h1, by omega, by omega, fun x hx => ?_, ?_, ?_⟩
  · have := h4 x hx; omega
  · unfold wtabs; exact Int.natCast_nonneg (List.count true l)
  · unfold wtabs
    have := List.count_le_length (a := true) (l := l)
    omega
theorem lA {t k : Nat} (ht : 0 < t) : 0 ≤ ((t + k : Nat) : Int).fdiv t ∧ ((t + k : Nat) : Int).fdiv t ≤ (t + k : Nat) := by
  have hb : (0 : Int) < (t : Int) := by exact Int.natCast_pos.mpr ht
  refine bZ (aM ((t + k : Nat) : Int) hb) fun h1 h2 h3 => ?_
  have h0 : 0 ≤ ((t + k : Nat) : Int).fdiv t := bG (by exact Int.natCast_nonneg (t + k)) hb
  refine ⟨h0, ?_⟩
  have := Int.mul_le_mul_of_nonneg_left (show (1 : Int) ≤ t by exact Int.toNat_le.mp ht) h0
  walk_at "o"
theorem kU {c : List Int} {t : Nat} (ht : 0 < t) (hc : ∀ x ∈ c, 0 ≤ x ∧ x ≤ 10000) (hlen : c.length ≤ 10001) : ∀ k, t + k ≤ c.length → 0 ≤ ilAt c t k ∧ ilAt c t k ≤ (k : Int) * 100010000
  | 0, _ => by simp [ilAt]
  | k + 1, h => by
    obtain ⟨h1, h2⟩ := kU ht hc hlen k (by exact Nat.le_of_succ_le h)
    obtain ⟨h3, h4⟩ := lA (k := k) ht
    obtain ⟨h5, h6⟩ := hc _ (bL (l := c) (i := t + k) (by exact h))
    have h7 := Int.mul_nonneg h3 h5
    have h8 := Int.mul_le_mul h4 h6 h5 (by exact Int.natCast_nonneg (t + k))
    have h9 : ((t + k : Nat) : Int) * 10000 ≤ 10001 * 10000 := Int.mul_le_mul_of_nonneg_right (by omega) (by decide)
    have h10 : ((k + 1 : Nat) : Int) * 100010000 = (k : Int) * 100010000 + 100010000 := by omega
    show 0 ≤ ilAt c t k + _ ∧ ilAt c t k + _ ≤ _
    walk_at "o"
set_option maxHeartbeats 4000000 in
theorem ws_long_ok {K N : Addr} {mN : Str → Option Value} (T : WsT C K N mN) {f : Addr} {cd : Value} (F : MethT C 2 "longest_run_of_spaces" "Whitespace.longest_run_of_spaces" mN f cd) {d : Nat} (hD : d < recursionLimit) {x : Str} {l : List Bool} (hl : l.length ≤ 10000) :
    Calls C d (.ref f) [.sem (InstIs K (wattrs x l))] (.int (dC l)) := by
  refine cps fun Pz kz => ?_
  obtain ⟨X, hg, _, _, ⟨f1, f2, f3, f4, f5⟩, len, tuple, max, range⟩ := T
  refine kz ?_; clear kz Pz
  refine zFu (iG l hl) fun w1 w2 w3 w4 w5 w6 => ?_
  refine Calls.meth F.is hD (xs := ["self"]) (glb := [("len", .fn (.builtin "len")), ("max", .fn (.builtin "max"))]) ?_ (by decide) (by decide) rfl (by decide) rfl rfl rfl (.cons (fun _ _ => .fn _) rfl (.inr len) (.cons (fun _ _ => .fn _) rfl (.inr max) .nil)) ?_
  · intro pm doc vs hv
    obtain ⟨v1, rfl⟩ := vN hv; rfl
  intro L
  refine Ex.cons (Es.unpack (xs := ["count", "trailing"]) (Ev.attr (attrs := wattrs x l) (p := wnorm l) X rfl (by decide) rfl f4 rfl (by rw [typeLookup_type, builtinLookup_eq_fast]; kernel_rfl)) rfl (by walk_at "locs") (.cons (.cons .nil)) rfl rfl) ?_
  refine Ex.stop (Es.ret (Ev.callB (Ev.name (x := "max") rfl (by decide)) (ps := [.int (((wrun l).1.length : Nat) - 1), .int (wrun l).2]) (.cons (Ev.bin (Ev.cast (Ev.callB (Ev.name (x := "len") rfl (by decide)) (.cons (Ev.name (x := "count") rfl (by decide)) (fun _ => rfl) .nil) (Calls.lenTup (by rw [pints_length]; omega)) rfl) (by rw [pints_length])) Ev.int Bin.sub) (fun _ => rfl) (.cons (Ev.name (x := "trailing") rfl (by decide)) (fun _ => rfl) .nil)) Calls.max2 rfl))
set_option maxHeartbeats 4000000 in
theorem gE {K N : Addr} {mN : Str → Option Value} (T : WsT C K N mN) {f : Addr} {cd : Value} (F : MethT C 3 "indent_level" "Whitespace.indent_level" mN f cd) {d : Nat} (hD : d < recursionLimit) {x : Str} {l : List Bool} (hl : l.length ≤ 10000) {t : Nat} (ht : 0 < t) (ht2 : t ≤ 100000) :
    Calls C d (.ref f) [.sem (InstIs K (wattrs x l)), .int (t : Nat)] (.int (aP l t)) := by
  refine cps fun Pz kz => ?_
  obtain ⟨X, hg, _, _, ⟨f1, f2, f3, f4, f5⟩, len, tuple, max, range⟩ := T
  refine kz ?_; clear kz Pz
  refine zFu (iG l hl) fun w1 w2 w3 w4 w5 w6 => ?_
  have e40 : (2 : Int) ^ 40 = 1099511627776 := by decide
  have hil := kU ht w4 w3
  refine Calls.meth F.is hD (xs := ["self", "tabsize"]) (glb := [("len", .fn (.builtin "len")), ("range", .fn (.type "range"))]) ?_ (by decide) (by decide) rfl (by decide) rfl rfl rfl (.cons (fun _ _ => .fn _) rfl (.inr len) (.cons (fun _ _ => .fn _) rfl (.inr range) .nil)) ?_
  · intro pm doc vs hv
    obtain ⟨v1, v2, rfl⟩ := kR hv; rfl
  intro L
  refine Ex.cons (Es.unpack (xs := ["count", "trailing"]) (Ev.attr (attrs := wattrs x l) (p := wnorm l) X rfl (by decide) rfl f4 rfl (by rw [typeLookup_type, builtinLookup_eq_fast]; kernel_rfl)) rfl (by walk_at "locs") (.cons (.cons .nil)) rfl rfl) ?_
  refine Ex.cons (Es.assign (x := "il") (p := .int 0) Ev.int rfl (by walk_at "loc")) ?_
  generalize hc : (wrun l).1 = c at *
  refine Ex.cons (Es.forTo (x := "i") (fun k => [("il", .int (ilAt c t k)), ("count", .tup (pints c)), ("trailing", .int (wrun l).2), ("tabsize", .int (t : Nat)), ("self", .sem (InstIs K (wattrs x l)))]) (c.length - t) ?h0
    (EvIt.of (Ev.callT (ps := [.int (t : Nat), .int ((c.length : Nat) : Int)]) (Ev.name (x := "range") rfl (by decide)) (.cons (Ev.name (x := "tabsize") rfl (by decide)) (fun _ => rfl) (.cons (Ev.cast (Ev.callB (Ev.name (x := "len") rfl (by decide)) (.cons (Ev.name (x := "count") (p := .tup (pints c)) (by rw [← hc]; rfl) (by decide)) (fun _ => rfl) .nil) (Calls.lenTup (by rw [pints_length]; omega)) rfl) (by rw [pints_length])) (fun _ => rfl) .nil)) Calls.range2 rfl) (Its.rng (n := c.length - t) (small_range (by exact Int.natCast_nonneg t) (by omega) (by omega) (by exact Int.natCast_nonneg c.length)) (by rw [size_range]))) (by walk_at "loc") ?body (.inl ⟨by simp [nums], rfl⟩)) ?_
  case h0 =>
    refine Sub.cons rfl (Sub.cons (by rw [← hc]; rfl) (Sub.cons rfl (Sub.cons rfl (Sub.cons rfl .nil))))
  case body =>
    intro i q hi hq
    obtain rfl : q = .int ((t + i : Nat) : Int) := by
      simp [nums, hi] at hq
      rw [← hq]
      congr 1
    have hti : t + i < c.length := by exact Nat.add_lt_of_lt_sub' hi
    obtain ⟨h1, h2⟩ := hil i (by exact Nat.le_of_succ_le hti)
    obtain ⟨h3, h4⟩ := lA (k := i) ht
    obtain ⟨h5, h6⟩ := w4 _ (bL (l := c) hti)
    have hp : Builtin.divisionGoesByPylong ((t + i : Nat) : Int) (t : Nat) = false := by
      have := aN (a := ((t + i : Nat) : Int)) (n := 40) (by exact Int.natCast_nonneg (t + i)) (by omega)
      exact PyProof.noPylong_small (by walk_at "o")
    refine Ex.cons (Es.less (Es.assign (x := "il") (p := .int (ilAt c t (i + 1))) (Ev.bin (Ev.name (x := "il") rfl (by decide)) (Ev.bin (Ev.bin (Ev.name (x := "i") rfl (by decide)) (Ev.name (x := "tabsize") rfl (by decide)) (Bin.fdiv (by exact Int.natCast_ne_zero_iff_pos.mpr ht) hp)) (Ev.tupAt (i := t + i) (Ev.name (x := "count") rfl (by decide)) (Ev.name (x := "i") rfl (by decide)) hti (by omega)) (Bin.mul ?mul)) Bin.add) rfl (by walk_at "loc")) (by walk_at "sub")) Ex.nil
    case mul => exact mulOk_of_bits (m := 40) (n := 40) (aN h3 (by walk_at "o")) (aN h5 (by omega)) (by decide)
  refine Ex.stop (Es.ret (Ev.cast (p := .int ((wrun l).2 + (t : Nat) * (ilAt c t (c.length - t) + wtabs l))) (Ev.bin (Ev.name (x := "trailing") rfl (by decide)) (Ev.bin (Ev.name (x := "tabsize") rfl (by decide)) (Ev.bin (Ev.name (x := "il") rfl (by decide)) (Ev.attr (attrs := wattrs x l) (p := .int (wtabs l)) X rfl (by decide) rfl f3 rfl (by rw [typeLookup_type, builtinLookup_eq_fast]; kernel_rfl)) Bin.add) (Bin.mul ?mul2)) Bin.add) (by unfold aP; rw [hc])))
  case mul2 =>
    have hb : 0 ≤ ilAt c t (c.length - t) ∧ ilAt c t (c.length - t) ≤ 10001 * 100010000 := by
      by_cases hk : t ≤ c.length
      · obtain ⟨h1, h2⟩ := hil (c.length - t) (by omega)
        refine ⟨h1, Int.le_trans h2 (Int.mul_le_mul_of_nonneg_right (by omega) (by decide))⟩
      · rw [show c.length - t = 0 by omega]
        exact ⟨Int.le_refl _, show (0 : Int) ≤ 10001 * 100010000 by decide⟩
    have e41 : (2 : Int) ^ 41 = 2199023255552 := by decide
    exact mulOk_of_bits (m := 40) (n := 41) (aN (by exact Int.natCast_nonneg t) (by omega)) (aN (by omega) (by omega)) (by decide)
theorem iY {l : List Bool} (hl : l.length ≤ 10000) : -1 ≤ dC l ∧ dC l ≤ 10000 := by
  refine zFu (iG l hl) fun w1 w2 w3 w4 w5 w6 => ?_
  unfold dC
  split <;> omega
noncomputable def wmax (l m : List Bool) : Int := (if dC m > dC l then dC m else dC l) + 1
set_option maxHeartbeats 8000000 in
theorem lY {K N : Addr} {mN : Str → Option Value} (T : WsT C K N mN) {f f2 f3 : Addr} {cd cd2 cd3 : Value} (F : MethT C 5 "not_equal_witness" "Whitespace.not_equal_witness" mN f cd) (F2 : MethT C 2 "longest_run_of_spaces" "Whitespace.longest_run_of_spaces" mN f2 cd2) (F3 : MethT C 3 "indent_level" "Whitespace.indent_level" mN f3 cd3)
    {d : Nat} (hD : d + 1 < recursionLimit) {x y : Str} {l m : List Bool} (hl : l.length ≤ 10000) (hm : m.length ≤ 10000) :
    Calls C d (.ref f) [.sem (InstIs K (wattrs x l)), .sem (InstIs K (wattrs y m))] (.lst ((witT l m (wmax l m).toNat).map trip)) := by
  refine cps fun Pz kz => ?_
  obtain ⟨X, hg, hS, hTT, fr, len, tuple, max, range⟩ := id T
  refine kz ?_; clear kz Pz
  have hz := aC
  have hz2 : (2 : Nat) ^ 20 = 1048576 := by decide
  have e40 : (2 : Int) ^ 40 = 1099511627776 := by decide
  have hb1 := iY hl
  have hb2 := iY hm
  have hbm : 0 ≤ wmax l m ∧ wmax l m ≤ 10001 := by unfold wmax; split <;> omega
  refine Calls.meth F.is (by exact Nat.lt_of_succ_lt hD) (xs := ["self", "other"]) (glb := [("max", .fn (.builtin "max")), ("range", .fn (.type "range"))]) ?_ (by decide) (by decide) rfl (by decide) rfl rfl rfl (.cons (fun _ _ => .fn _) rfl (.inr max) (.cons (fun _ _ => .fn _) rfl (.inr range) .nil)) ?_
  · intro pm doc vs hv
    obtain ⟨v1, v2, rfl⟩ := kR hv; rfl
  intro L
  refine Ex.cons (Es.assign (x := "n") (p := .int (wmax l m)) (Ev.bin (Ev.callB (Ev.name (x := "max") rfl (by decide)) (ps := [.int (dC l), .int (dC m)])
    (.cons (Ev.callM0 (y := none) (attrs := wattrs x l) X (Ev.name (x := "self") rfl (by decide)) F2.is F2.n rfl (by rw [typeLookup_type, builtinLookup_eq_fast]; kernel_rfl) (ws_long_ok T F2 hD hl) rfl) (fun _ => rfl)
    (.cons (Ev.callM0 (y := none) (attrs := wattrs y m) X (Ev.name (x := "other") rfl (by decide)) F2.is F2.n rfl (by rw [typeLookup_type, builtinLookup_eq_fast]; kernel_rfl) (ws_long_ok T F2 hD hm) rfl) (fun _ => rfl) .nil)) Calls.max2 rfl) Ev.int Bin.add) rfl (by walk_at "loc")) ?_
  refine Ex.cons (Es.assignNew (x := "a") (l := []) EvNew.nil rfl rfl (by walk_at "loc")) ?_
  refine Ex.cons (Es.forTo (x := "ts") (fun k => [("a", .mlst ((witT l m k).map trip)), ("self", .sem (InstIs K (wattrs x l))), ("other", .sem (InstIs K (wattrs y m)))]) (wmax l m).toNat ?h0
    (EvIt.of (Ev.callT (ps := [.int (1 : Nat), .int (((wmax l m).toNat + 1 : Nat) : Int)]) (Ev.name (x := "range") rfl (by decide)) (.cons Ev.int (fun _ => rfl) (.cons (Ev.cast (Ev.bin (Ev.name (x := "n") (p := .int (wmax l m)) rfl (by decide)) Ev.int Bin.add) ?cst) (fun _ => rfl) .nil)) Calls.range2 rfl) (Its.rng (n := (wmax l m).toNat) (small_range (by omega) (by omega) (by omega) (by omega)) (by rw [size_range]; omega))) (by walk_at "loc") ?body (.inl ⟨by simp [nums], rfl⟩)) ?_
  case h0 => exact Sub.cons rfl (Sub.cons rfl (Sub.cons rfl .nil))
  case cst => congr 1; omega
  case body =>
    intro i q hi hq
    obtain rfl : q = .int ((i + 1 : Nat) : Int) := by
      simp [nums, hi] at hq
      rw [← hq]
      congr 1
      omega
    have a1 := gE (x := x) T F3 hD hl (t := i + 1) (by exact Nat.zero_lt_succ i) (by omega)
    have a2 := gE (x := y) T F3 hD hm (t := i + 1) (by exact Nat.zero_lt_succ i) (by omega)
    have hlw := iZ l m i
    by_cases hne : (aP l (i + 1) != aP m (i + 1)) = true
    · have hw : (witT l m (i + 1)).map trip = (witT l m i).map trip ++ [.tup [.int ((i + 1 : Nat) : Int), .int (aP l (i + 1)), .int (aP m (i + 1))]] := by
        simp [witT, hne, trip]
      rw [hw]
      refine Ex.cons (Es.ifTrue (Ts.cast (Ts.cmp (Ev.callM (y := none) (attrs := wattrs x l) X (Ev.name (x := "self") rfl (by decide)) (.cons (Ev.name (x := "ts") rfl (by decide)) (fun _ => rfl) .nil) F3.is F3.n rfl (by rw [typeLookup_type, builtinLookup_eq_fast]; kernel_rfl) a1 rfl) (Ev.callM (y := none) (attrs := wattrs y m) X (Ev.name (x := "other") rfl (by decide)) (.cons (Ev.name (x := "ts") rfl (by decide)) (fun _ => rfl) .nil) F3.is F3.n rfl (by rw [typeLookup_type, builtinLookup_eq_fast]; kernel_rfl) a2 rfl) Cmp.ne rfl) hne) (Ex.cons (Es.sub (m' := ("a", .mlst ((witT l m i).map trip)) :: [("ts", .int ((i + 1 : Nat) : Int)), ("self", .sem (InstIs K (wattrs x l))), ("other", .sem (InstIs K (wattrs y m)))]) (Sub.cons rfl (Sub.cons rfl (Sub.cons rfl (Sub.cons rfl .nil))))
        (Es.append (p := .tup [.int ((i + 1 : Nat) : Int), .int (aP l (i + 1)), .int (aP m (i + 1))]) (Ev.tup (.cons (Ev.name (x := "ts") rfl (by decide)) (fun _ => rfl) (.cons (Ev.callM (y := none) (attrs := wattrs x l) X (Ev.name (x := "self") rfl (by decide)) (.cons (Ev.name (x := "ts") rfl (by decide)) (fun _ => rfl) .nil) F3.is F3.n rfl (by rw [typeLookup_type, builtinLookup_eq_fast]; kernel_rfl) a1 rfl) (fun _ => rfl) (.cons (Ev.callM (y := none) (attrs := wattrs y m) X (Ev.name (x := "other") rfl (by decide)) (.cons (Ev.name (x := "ts") rfl (by decide)) (fun _ => rfl) .nil) F3.is F3.n rfl (by rw [typeLookup_type, builtinLookup_eq_fast]; kernel_rfl) a2 rfl) (fun _ => rfl) .nil))) ((nB rfl))) rfl (by rw [List.length_map]; omega) rfl (by decide) (fun _ => rfl))) (Ex.less Ex.nil (Sub.cons rfl (Sub.cons rfl (Sub.cons rfl .nil)))))) Ex.nil
    · have hw : (witT l m (i + 1)) = witT l m i := by simp only [witT, hne]; rfl
      rw [hw]
      exact Ex.cons (Es.ifFalse (Ts.cast (Ts.cmp (Ev.callM (y := none) (attrs := wattrs x l) X (Ev.name (x := "self") rfl (by decide)) (.cons (Ev.name (x := "ts") rfl (by decide)) (fun _ => rfl) .nil) F3.is F3.n rfl (by rw [typeLookup_type, builtinLookup_eq_fast]; kernel_rfl) a1 rfl) (Ev.callM (y := none) (attrs := wattrs y m) X (Ev.name (x := "other") rfl (by decide)) (.cons (Ev.name (x := "ts") rfl (by decide)) (fun _ => rfl) .nil) F3.is F3.n rfl (by rw [typeLookup_type, builtinLookup_eq_fast]; kernel_rfl) a2 rfl) Cmp.ne rfl) (by simpa using hne)) (Ex.less Ex.nil (Sub.cons rfl (Sub.cons rfl (Sub.cons rfl .nil))))) Ex.nil
  exact Ex.frozen (Ex.stop (Es.ret (Ev.name (x := "a") rfl (by decide))))
end
section
variable {C : Cx}
noncomputable def cat (x y : Str) : Str := ⟨x.cps ++ y.cps⟩
noncomputable def shown (l : List Int) : List Str := l.map fun i => Str.ofString (toString i)
noncomputable def yA (l : List Int) : Str := cat (cat (if l.length > 1 then cat "at tab size" "s" else "at tab size") " ") (Txt.join ", " (shown l))
noncomputable def qFmt : Str := (envOf (Str.ofString "format_witnesses") (fScope 16) 0 0 .none).qual ++ "<genexpr>"
structure zGa (C : Cx) : Prop where
  K : dG C
  B : BmOk C
  len : C.mg (Str.ofString "len") = none ∧ C.mb (Str.ofString "len") = some (.builtin "len")
  str : C.mg (Str.ofString "str") = none ∧ C.mb (Str.ofString "str") = some (.type "str")
noncomputable def rF : Scope := { kind := .function, names := [(Str.ofString ".0", .local), (Str.ofString "tup", .local), (Str.ofString "str", .globalImplicit)], isGenerator := true, isCoroutine := false, more := [] }
noncomputable def fSt (i k : Nat) : Stmt := (fBody i).getD k (.Pass ⟨0, 0, 0, 0⟩)
set_option maxHeartbeats 4000000 in
theorem zFr (T : zGa C) {f c P : Addr} (F0 : FnT C 16 "format_witnesses" f (.ref c)) (N : NestOk C c P ⟨144, 13, 144, 39⟩ qFmt) {d : Nat} (hD : d + 1 < recursionLimit) {ws : List (Int × Int × Int)} (hw : ws.length ≤ 100000) (hlog : ∀ w ∈ ws, w.1.natAbs.log2 < 1920)
    (hok : JoinOk ", " (shown (ws.map (·.1))) = true) (hz2 : (Txt.join ", " (shown (ws.map (·.1)))).length ≤ 1000000) :
    Calls C d (.ref f) [.lst (ws.map trip)] (.str (yA (ws.map (·.1)))) := by
  obtain ⟨KO, B, len, str⟩ := T
  have hz := aC
  have hz20 : (2 : Nat) ^ 20 = 1048576 := by decide
  intro A s H vs hA I R Q E q
  refine bH F0.is.obj fun o pm doc ho hd => ?_
  obtain ⟨v, rfl, r0⟩ : ∃ v, vs = [v] ∧ Rep H.hid s.heap v (.lst (ws.map trip)) := by
    cases R with
    | cons r R => cases R; exact ⟨_, rfl, r⟩
  refine wpAny_call (call_plain (binds := [("w", v)]) (by have := hA.depth; omega) (I.keep _ _ F0.is.tab ho) hd I.nolimit (F0.is.code H s I) rfl
    (by intro y hy; simp only [List.mem_cons, List.not_mem_nil, or_false] at hy; rcases hy with rfl; rfl) (fun h₁ FR => ?_) rfl rfl rfl (show ∀ x ∈ (fScope 16).names, x.2 ≠ .cell by decide))
  have hns := FR.ns
  have hkeep := FR.keep
  generalize hL : s.heap.objs.size = L at hns ⊢
  have hLn : s.heap.get? L = none := by
    cases e : s.heap.get? L with
    | none => rfl
    | some o' => exact absurd (Heap.lt_size e) (by rw [hL]; exact Nat.lt_irrefl _)
  have hLt : L ∉ C.tabs := fun ht => by
    refine iT (KO.tabIs _ I.tab L ht) fun o' _ e' _ _ => ?_
    rw [hLn] at e'; cases e'
  have hLB : C.hB.get? L = none := by
    cases e : C.hB.get? L with
    | none => rfl
    | some o' => rw [I.keep L o' hLt e] at hLn; cases hLn
  generalize henv : envOf (Str.ofString "format_witnesses") (fScope 16) L f (.ref c) = env
  have hown : own env = [L] := by rw [← henv]; rfl
  have hloc : env.locals = L := by rw [← henv]; rfl
  have g1 : Gr C [] s { s with heap := h₁, toks := s.toks + ([("w", v)] : List (Str × Value)).length } := Gr.of KO hkeep
  generalize hs1 : ({ s with heap := h₁, toks := s.toks + ([("w", v)] : List (Str × Value)).length } : Shared) = s1 at g1
  have hh1 : s1.heap = h₁ := by rw [← hs1]
  have hns1 : s1.heap.Ns L (fun y => ([("w", v)] : List (Str × Value)).reverse.lookup y) := by rw [hh1]; exact hns
  have hnew : ∀ y ∈ own env, s.heap.get? y = none := by rw [hown]; intro y hy; rw [mS hy]; exact hLn
  have I1 : Inv C ⟨none, [L] ++ H.hid⟩ s1 := by
    rw [← hown]
    exact enter I g1 hnew (by rw [hown]; intro y hy; rw [mS hy]; obtain ⟨o, _, _, e, _⟩ := hns1; rw [e]; rfl) (by rw [hown]; intro y hy o e; rw [mS hy] at e; exact aS hns1 e)
  have F1 : aF C env ⟨none, [L] ++ H.hid⟩ s1.heap := by
    rw [← henv]
    exact ⟨⟨rfl, rfl, rfl⟩, (fun c hc => by cases hc), hLt, hLB, ⟨_, hns1⟩, (fun x c hc => by cases hc), (fun x y c hc => by cases hc), fun y hy => by
      have : y = L := by simpa [own, envOf] using hy
      rw [this]; simp⟩
  have R1 : aD ([L] ++ H.hid) s1.heap [v] [.lst (ws.map trip)] := by
    have := aD.enter (env := env) I g1 hnew (.cons r0 .nil)
    rw [hown] at this
    exact this
  have r1 : Rep ([L] ++ H.hid) s1.heap v (.lst (ws.map trip)) := by cases R1 with | cons r _ => exact r
  have V1 : aA C env ⟨none, [L] ++ H.hid⟩ s1.heap [("w", .lst (ws.map trip)), ("len", .fn (.builtin "len"))] := by
    refine .cons (.cons .nil ?_) ?_
    · exact ⟨_, .inr (.inr ⟨by rw [← henv]; rfl, .inr len⟩), .imm (.fn _)⟩
    · exact ⟨_, .inl ⟨by rw [← henv]; rfl, _, by rw [hloc]; exact hns1, rfl⟩, .imm r1⟩
  have hA' : AOk (A.deeper env) (d + 1) := by rw [← henv]; exact ⟨hA.handled, by show A.depth + 1 ≤ d + 1; have := hA.depth; exact Nat.add_le_add_right this 1, by show A.units + 3 ≤ 10 * (d + 1); have := hA.units; omega⟩
  have stor : ∀ y, (fScope 16).names.lookup y = some .local → cN env y := fun y hy => .inl (by rw [← henv]; exact hy)
  have hb : fBody 16 = fSt 16 0 :: ([fSt 16 1, fSt 16 2] ++ [fSt 16 3]) := rfl
  have hLs1 : s1.heap.get? L ≠ none := by obtain ⟨o, _, _, e, _⟩ := hns1; rw [e]; simp
  rw [hb]
  have gen : YG C (A.deeper env) [] s1 (eval (.GeneratorExp (.Call (.Name "str" ⟨144, 14, 144, 17⟩) [.Subscript (.Name "tup" ⟨144, 18, 144, 21⟩) (.Constant (.int 0) 0 ⟨144, 22, 144, 23⟩) ⟨144, 18, 144, 24⟩] [] ⟨144, 14, 144, 25⟩) [⟨.Name "tup" ⟨144, 30, 144, 33⟩, .Name "w" ⟨144, 37, 144, 38⟩, [], 0⟩] rF ⟨144, 13, 144, 39⟩) env)
      (fun v s5 => ∃ a, v = .ref a ∧ pW C (A.deeper env) env.locals s1 a (ws.map trip).length (fun i => (shown (ws.map (·.1))).getD i "") s5) := by
    refine xY (c := c) (P := P) hA' hD I1 F1 V1 (by rw [← henv]; exact N) B (by rw [← henv]; rfl) rfl (by rw [← henv]; rfl) (by decide) rfl rfl rfl (by rfl) (by decide) ?_ (by rw [← henv]; intro _; rfl)
    intro Cf code A' E' i qv v' s2 m2 hh' hi hr hn2 hm2 hg hbn
    rw [List.getElem?_map] at hi
    refine aI (Option.map_eq_some_iff.mp hi) fun tw hi1 ez1 => ?_; subst ez1
    unfold trip at hr
    refine aV (Rep.tupI hr) fun aa vv nn ez1 _ e RR => ?_; subst ez1
    refine aI (RR.at 0 (.int tw.1) rfl) fun v0 hv0 rv0 => ?_
    obtain ⟨t0, rfl⟩ := Rep.intI rv0
    have hsh : (shown (ws.map (·.1))).getD i "" = Str.ofString (toString tw.1) := by
      simp [shown, List.getD_eq_getElem?_getD, List.getElem?_map, hi1]
    refine uL (cenv := genEnv rF [] Cf code builtinsNs env) (x := "tup") rfl rfl rfl (by rw [← henv]; rfl) rfl hn2 hm2 e (by simpa using hv0) hg str.1 hbn str.2 (hlog tw (List.mem_of_getElem? hi1)) (by decide) rfl (fun _ => rfl) (fun _ _ => rfl) (fun tk tk' => ⟨⟨tk, by rw [hsh]⟩, ⟨s2.heap, tk', rfl, fun _ _ e => e⟩⟩)
  refine wpAny_execs_cons (wpAny_Assign_Name (gen _ _ fun va s5 g5 pk => ?_) (by rw [← henv]; rfl))
  obtain ⟨a, rfl, pk⟩ := pk
  have I5 := I1.gr0 g5
  have F5 := F1.gr0 g5
  refine bP I5 F5 (V1.gr0 I1 F1 g5) (stor "firsts" rfl) (.imm (.fn (.ref a))) _ _ fun _ s6 g6 z6 => ?_
  have I6 := I5.gr g6 F5.ownB z6.1
  let pre : Str := if (ws.map (·.1)).length > 1 then cat "at tab size" "s" else "at tab size"
  have hpre : pre.length ≤ 12 := by
    show Str.length (if _ then _ else _) ≤ 12
    split <;> decide
  have run : Run C (d + 1) env [("firsts", .fn (.ref a)), ("w", .lst (ws.map trip)), ("len", .fn (.builtin "len"))] [fSt 16 1, fSt 16 2] [("prefix", .str pre), ("firsts", .fn (.ref a))] := by
    refine .cons (Es.assign (x := "prefix") (p := .str "at tab size") Ev.str (by rw [← henv]; rfl) (stor _ rfl)) ?_
    refine .cons ?_ .nil
    have tst : ∀ bb, decide ((1 : Int) < ((ws.map trip).length : Nat)) = bb → Ts C (d + 1) env [("prefix", .str "at tab size"), ("firsts", .fn (.ref a)), ("w", .lst (ws.map trip)), ("len", .fn (.builtin "len"))] _ bb := fun bb hbb => Ts.cast (Ts.cmp (pos := ⟨146, 7, 146, 17⟩) (Ev.callB (pos := ⟨146, 7, 146, 13⟩) (Ev.name (x := "len") (pos := ⟨146, 7, 146, 10⟩) rfl (by decide)) (.cons (Ev.name (x := "w") (pos := ⟨146, 11, 146, 12⟩) rfl (by decide)) (fun _ => rfl) .nil) (Calls.lenLst (by rw [List.length_map]; omega)) (by rw [← henv]; rfl)) (Ev.int (k := 0) (pos := ⟨146, 16, 146, 17⟩)) Cmp.gt rfl) hbb
    by_cases h1 : (ws.map (·.1)).length > 1
    · have hp : pre = cat "at tab size" "s" := if_pos h1
      rw [hp]
      refine Es.less (Es.ifTrue (tst true (decide_eq_true (by rw [List.length_map] at h1 ⊢; exact Int.lt_of_toNat_lt h1))) (Ex.cons (Es.assign (x := "prefix") (p := .str (cat "at tab size" "s")) (Ev.bin (Ev.name (x := "prefix") rfl (by decide)) Ev.str (Bin.addStr (Nat.le_trans (by decide) hz))) (by rw [← henv]; rfl) (stor _ rfl)) Ex.nil)) (by walk_at "sub")
    · have hp : pre = "at tab size" := if_neg h1
      rw [hp]
      exact Es.less (Es.ifFalse (tst false (decide_eq_false (by rw [List.length_map] at h1 ⊢; omega))) Ex.nil) (by walk_at "sub")
  refine run.then hA' I6 z6.2.1 z6.2.2 fun s7 H7 g7 a7 I7 F7 V7 => ?_
  have hH7 : H7.X = [L] ++ H.hid := a7.X
  have left : Ev C (d + 1) env [("prefix", .str pre), ("firsts", .fn (.ref a))] (.BinOp (.Name "prefix" ⟨148, 11, 148, 17⟩) .Add (.Constant (.str " ") 0 ⟨148, 20, 148, 23⟩) ⟨148, 11, 148, 23⟩) (.str (cat pre " ")) :=
    Ev.bin (Ev.name (x := "prefix") rfl (by decide)) Ev.str (Bin.addStr (by have : Str.length " " = 1 := rfl; omega))
  refine wpAny_execs_cons (wpAny_Return_some (wpAny_BinOp (left.run _ s7 H7 hA' I7 F7 V7 _ _ fun vl s8 g8 rl => ?_)))
  obtain ⟨tl, rfl⟩ := rl.strI
  rw [hloc] at pk
  refine wpAny_Call_method (T := "str") (id := "str.join") (by rw [← henv]; rfl) (by rw [← henv]; rfl) rfl PySem.F.plainAttrs_str PySem.F.slot_str_join PySem.F.type_str_join (wpAny_Constant_str ⟨typeIs_str _ _ _, (fun a h => by cases h), ?_⟩)
  have g9 : Gr C [] s8 { s8 with toks := s8.toks + 1 } := Gr.toks' (Nat.le_succ _)
  generalize hs9 : ({ s8 with toks := s8.toks + 1 } : Shared) = s9 at g9
  have I8 := I7.gr0 g8
  have I9 := I8.gr0 g9
  have F8 := F7.gr0 g8
  have V8 := V7.gr0 I7 F7 g8
  have hstar : ∀ rest, starEach (Expr.Name "firsts" ⟨148, 36, 148, 42⟩ :: rest) env = (false, eval (Expr.Name "firsts" ⟨148, 36, 148, 42⟩) env) :: starEach rest env := fun _ => rfl
  rw [hstar]
  refine callWith_builtin (by rfl) (evalArgs_plain ?_)
  show wpAny _ _ (PySem.spliced ((false, eval (Expr.Name "firsts" ⟨148, 36, 148, 42⟩) env) :: backTo _ (starEach [] env))) _ _ s9
  refine spliced_cons ((Ev.name (x := "firsts") (p := .fn (.ref a)) rfl (by decide)).run _ s9 H7 hA' I9 (F8.gr0 g9) (V8.gr0 I8 F8 g9) _ _ fun va s10 g10 ra => ?_)
  cases ra
  refine wpAny_items_nil ?_
  have I10 := I9.gr0 g10
  have hwr : ∀ y ∈ wr env ⟨none, [L] ++ H.hid⟩, y ∈ [L] := by
    intro y hy
    rcases mA hy with h | h
    · rw [hown] at h; exact h
    · cases h
  have g510 : Gr C [L] s5 s10 := (g6.wider (by rw [hown]; exact fun x h => h)).trans ((g7.wider hwr).trans (((g8.trans g9).trans g10).plain))
  have gA : Gr C [L] s s10 := g1.plain.trans (g5.plain.trans g510)
  have hrange : (List.range (ws.map trip).length).map (fun i => (shown (ws.map (·.1))).getD i "") = shown (ws.map (·.1)) := by
    have : (ws.map trip).length = (shown (ws.map (·.1))).length := by simp [shown]
    rw [this]
    exact range_getD _ _
  refine xZ KO I1.tab I10.tab pk g510 hLs1 (by rw [List.length_map]; omega) (by rw [hrange]; exact hok) fun t' s11 pj => ?_
  rw [hrange]
  have fin : ∀ tt tk, s11.toks ≤ tk → Q (.str (yA (ws.map (·.1))) tt) { s11 with toks := tk } := fun tt tk htk => by
    refine q _ _ ⟨fun b o hb _ e => ?_, fun _ => pj.tab, ?_, pj.os.trans gA.os, Nat.le_trans gA.toks (Nat.le_trans pj.toks htk)⟩ (.str _ _)
    · have hbL : b ∉ [L] := fun h => by rw [mS h, hLn] at e; cases e
      refine pj.keep b o ?_ (gA.keep b o hb hbL e)
      rw [g1.keep b o hb (by simp) e]; simp
    · refine aI gA.gens fun l hl hlb => ?_
      refine aI g1.gens fun l1 hl1 _ => ?_
      exact pj.gens s.gens l hl hlb (by rw [hl1, Array.size_append]; exact Nat.le_add_right s.gens.size l1.size)
  have hfm : yA (ws.map (·.1)) = cat (cat pre " ") (Txt.join ", " (shown (ws.map (·.1)))) := rfl
  refine PySem.P.add_str ?_
  split
  · rename_i hx
    have := cC hx
    have e2 : (cat pre " ").length = pre.length + 1 := by simp [cat, Str.length]; rfl
    rw [this] at e2
    exact absurd e2 (by show ¬ (0 = pre.length + 1); exact Nat.zero_ne_add_one pre.length)
  · split
    · rename_i hy
      have hy := cC hy
      have : yA (ws.map (·.1)) = cat pre " " := by rw [hfm, hy]; simp [cat]
      have fz := fin tl s11.toks (Nat.le_refl _)
      rw [this] at fz
      exact fz
    · refine ⟨?_, fin _ _ (Nat.le_succ _)⟩
      show (cat pre " " ++ Txt.join ", " (shown (ws.map (·.1)))).length ≤ sizeLine
      rw [cY]
      have e2 : (cat pre " ").length = pre.length + 1 := by simp [cat, Str.length]; rfl
      show ((cat pre " ").cps ++ (Txt.join ", " (shown (ws.map (·.1)))).cps).size ≤ sizeLine
      rw [Array.size_append]
      have e3 : (cat pre " ").cps.size = pre.length + 1 := e2
      have e4 : (Txt.join ", " (shown (ws.map (·.1)))).cps.size ≤ 1000000 := hz2
      omega
end
section
namespace Top
noncomputable section
noncomputable abbrev pw : Program := PySem.Challenge.pw_rl0136_01
noncomputable def I (i : Int) : Value := .int i 0
noncomputable def S (x : String) (t : Nat) : Value := .str (Str.ofString x) t
noncomputable def E (P : Params) (x : String) (t : Nat) (v : Value) : DictEntry := ⟨PyData.keyHash P (Str.ofString x), .str (Str.ofString x) t, v⟩
noncomputable def oT0 : Obj := { cls := .type "tuple", data := .seq #[] }
noncomputable def oT (l : List Value) : Obj := { cls := .type "tuple", data := .seq ⟨l⟩ }
noncomputable def oF (l : List Value) : Obj := { cls := .none, data := .fields ⟨l⟩ }
noncomputable def oC (c : String) (l : List Value) : Obj := { cls := .type c, data := .fields ⟨l⟩ }
noncomputable def oD (l : List DictEntry) (n : Nat) : Obj := { cls := .type "dict", data := .dict ⟨l⟩ n }
noncomputable def oND (i : Nat) (x : String) : Obj := { cls := .none, data := .func { docDef (Str.ofString x) (fParams i) (fBody i) (fScope i) .none .none .none with globals := 0 } }
noncomputable def oUD (i : Nat) (x : String) (pm cd : Value) : Obj := { cls := .type "function", data := .func (docDef (Str.ofString x) (fParams i) (fBody i) (fScope i) pm cd .none) }
noncomputable def oNM (i : Nat) (x y : String) : Obj := { cls := .none, data := .func { methDef (Str.ofString x) (Str.ofString y) (mParams i) (mBody i) (mScope i) .none .none .none with globals := 0 } }
noncomputable def oUM (i : Nat) (x y : String) (pm cd : Value) : Obj := { cls := .type "function", data := .func (methDef (Str.ofString x) (Str.ofString y) (mParams i) (mBody i) (mScope i) pm cd .none) }
noncomputable abbrev N := BT.node
noncomputable abbrev z := BT.nil
noncomputable def lf : Life := { }
noncomputable def dr : Drawn := { }
noncomputable def o3 (P : Params) : Obj := oD [E P "__name__" 165 (S "__main__" 164), E P "__doc__" 166 (.none), E P "__package__" 167 (.none), E P "__loader__" 168 (.builtin "__main__.__loader__#opaque"), E P "__spec__" 169 (.none), E P "__annotations__" 170 (.ref 6), E P "__builtins__" 171 (.ref 4), E P "__file__" 173 (S "/claim/cut.py" 172), E P "__cached__" 174 (.none)] 9
noncomputable def o11 : Obj := oT0
noncomputable def o12 : Obj := oF []
noncomputable def o13 : Obj := oC "code" [S "<module>" 182, S "<module>" 183, S "/claim/cut.py" 184, I 1, I 0, I 0, I 0, I 0, .ref 11, .bool false, I 181, .ref 12, .none, .none, .none, .none, I 185, I 1, S "/claim/cut.py" 186]
noncomputable def o14 : Obj := { cls := Value.type "frame", slots := #[some (Value.ref 13), some (Value.ref 3), some (Value.ref 3), none, some (Value.str (Str.ofString "__main__") 164), none, some (Value.ref 0)] }
noncomputable def TA (P : Params) : BT := (N (boot_o_0 P) (N (boot_o_1 P) (N (o3 P) (N (boot_o_7 P) z z) (N o11 z z)) (N (boot_o_5 P) (N (boot_o_9 P) z z) (N o13 z z))) (N (boot_o_2 P) (N (boot_o_4 P) (N (boot_o_8 P) z z) (N o12 z z)) (N (boot_o_6 P) (N (boot_o_10 P) z z) (N o14 z z))))
noncomputable def XA (w : World) (os : OsState) : SharedT := ⟨TA w.params, 15, lf, #[], dr, 187, os⟩
noncomputable def TB (P : Params) : BT := (N (boot_o_0 P) (N (boot_o_1 P) (N (o3 P) (N (boot_o_7 P) z z) (N o11 z z)) (N (boot_o_5 P) (N (boot_o_9 P) z z) (N o13 z z))) (N (boot_o_2 P) (N (boot_o_4 P) (N (boot_o_8 P) z z) (N o12 z z)) (N (boot_o_6 P) (N (boot_o_10 P) z z) (N o14 z z))))
noncomputable def XB (w : World) (os : OsState) : SharedT := ⟨TB w.params, 15, lf, #[], dr, 187, os⟩
noncomputable def zJr (P : Params) : Obj := oD [E P "__name__" 165 (S "cpy313.stringprep" 276), E P "__doc__" 166 (.none), E P "__package__" 167 (.none), E P "__loader__" 168 (.builtin "__main__.__loader__#opaque"), E P "__spec__" 169 (.none), E P "__annotations__" 170 (.ref 6), E P "__builtins__" 171 (.ref 4), E P "__file__" 173 (S "/claim/cut.py" 172), E P "__cached__" 174 (.none), E P "_wall" 193 (.ref 21), E P "_DIV_LIMIT" 197 (.int 4000 196), E P "_div2n1n" 214 (.ref 28), E P "_div3n2n" 228 (.ref 35), E P "_int2digits" 239 (.ref 42), E P "_digits2int" 250 (.ref 49), E P "_divmod_pos" 265 (.ref 56), E P "int_divmod" 275 (.ref 63)] 17
noncomputable def zBo : Obj := oF [I 1, I 0, .ref 20, I 6, I 0, .ref 27, I 22, I 0, .ref 34, I 32, I 0, .ref 41, I 48, I 0, .ref 48, I 57, I 0, .ref 55, I 68, I 0, .ref 62]
noncomputable def o15 : Obj := oT0
noncomputable def o16 : Obj := oF []
noncomputable def o17 : Obj := oT [S "k" 190]
noncomputable def o18 : Obj := oT0
noncomputable def o19 : Obj := oND 0 "_wall"
noncomputable def o20 : Obj := oC "code" [S "_wall" 187, S "_wall" 188, S "/claim/cut.py" 189, I 1, I 1, I 0, I 0, I 3, .ref 15, .bool true, I 181, .ref 16, .none, .ref 17, .ref 18, .ref 19, I 191, I 1, S "/claim/cut.py" 192]
noncomputable def o21 : Obj := oUD 0 "_wall" (S "__main__" 164) (.ref 20)
noncomputable def o22 : Obj := oT0
noncomputable def o23 : Obj := oF []
noncomputable def o24 : Obj := oT [S "a" 201, S "b" 202, S "n" 203, S "pad" 204, S "half_n" 205, S "mask" 206, S "b1" 207, S "b2" 208, S "q1" 209, S "r" 210, S "q2" 211]
noncomputable def o25 : Obj := oT0
noncomputable def o26 : Obj := oND 3 "_div2n1n"
noncomputable def o27 : Obj := oC "code" [S "_div2n1n" 198, S "_div2n1n" 199, S "/claim/cut.py" 200, I 6, I 3, I 0, I 0, I 3, .ref 22, .bool true, I 181, .ref 23, .none, .ref 24, .ref 25, .ref 26, I 212, I 6, S "/claim/cut.py" 213]
noncomputable def o28 : Obj := oUD 3 "_div2n1n" (S "cpy313._pylong" 194) (.ref 27)
noncomputable def o29 : Obj := oT0
noncomputable def o30 : Obj := oF []
noncomputable def o31 : Obj := oT [S "a12" 218, S "a3" 219, S "b" 220, S "b1" 221, S "b2" 222, S "n" 223, S "q" 224, S "r" 225]
noncomputable def o32 : Obj := oT0
noncomputable def o33 : Obj := oND 4 "_div3n2n"
noncomputable def o34 : Obj := oC "code" [S "_div3n2n" 215, S "_div3n2n" 216, S "/claim/cut.py" 217, I 22, I 6, I 0, I 0, I 3, .ref 29, .bool true, I 181, .ref 30, .none, .ref 31, .ref 32, .ref 33, I 226, I 22, S "/claim/cut.py" 227]
noncomputable def o35 : Obj := oUD 4 "_div3n2n" (S "cpy313._pylong" 194) (.ref 34)
noncomputable def o36 : Obj := oT0
noncomputable def o37 : Obj := oF []
noncomputable def o38 : Obj := oT [S "a" 232, S "n" 233]
noncomputable def o39 : Obj := oT [S "n" 234, S "a_digits" 235, S "inner" 236]
noncomputable def o40 : Obj := oND 5 "_int2digits"
noncomputable def o41 : Obj := oC "code" [S "_int2digits" 229, S "_int2digits" 230, S "/claim/cut.py" 231, I 32, I 2, I 0, I 0, I 3, .ref 36, .bool true, I 181, .ref 37, .none, .ref 38, .ref 39, .ref 40, I 237, I 32, S "/claim/cut.py" 238]
noncomputable def o42 : Obj := oUD 5 "_int2digits" (S "cpy313._pylong" 194) (.ref 41)
noncomputable def o43 : Obj := oT0
noncomputable def o44 : Obj := oF []
noncomputable def o45 : Obj := oT [S "digits" 243, S "n" 244]
noncomputable def o46 : Obj := oT [S "digits" 245, S "n" 246, S "inner" 247]
noncomputable def o47 : Obj := oND 6 "_digits2int"
noncomputable def o48 : Obj := oC "code" [S "_digits2int" 240, S "_digits2int" 241, S "/claim/cut.py" 242, I 48, I 2, I 0, I 0, I 3, .ref 43, .bool true, I 181, .ref 44, .none, .ref 45, .ref 46, .ref 47, I 248, I 48, S "/claim/cut.py" 249]
noncomputable def o49 : Obj := oUD 6 "_digits2int" (S "cpy313._pylong" 194) (.ref 48)
noncomputable def o50 : Obj := oT0
noncomputable def o51 : Obj := oF []
noncomputable def o52 : Obj := oT [S "a" 254, S "b" 255, S "n" 256, S "a_digits" 257, S "r" 258, S "q_digits" 259, S "a_digit" 260, S "q_digit" 261, S "q" 262]
noncomputable def o53 : Obj := oT0
noncomputable def o54 : Obj := oND 7 "_divmod_pos"
noncomputable def o55 : Obj := oC "code" [S "_divmod_pos" 251, S "_divmod_pos" 252, S "/claim/cut.py" 253, I 57, I 2, I 0, I 0, I 3, .ref 50, .bool true, I 181, .ref 51, .none, .ref 52, .ref 53, .ref 54, I 263, I 57, S "/claim/cut.py" 264]
noncomputable def o56 : Obj := oUD 7 "_divmod_pos" (S "cpy313._pylong" 194) (.ref 55)
noncomputable def o57 : Obj := oT0
noncomputable def o58 : Obj := oF []
noncomputable def o59 : Obj := oT [S "a" 269, S "b" 270, S "q" 271, S "r" 272]
noncomputable def o60 : Obj := oT0
noncomputable def o61 : Obj := oND 8 "int_divmod"
noncomputable def o62 : Obj := oC "code" [S "int_divmod" 266, S "int_divmod" 267, S "/claim/cut.py" 268, I 68, I 2, I 0, I 0, I 3, .ref 57, .bool true, I 181, .ref 58, .none, .ref 59, .ref 60, .ref 61, I 273, I 68, S "/claim/cut.py" 274]
noncomputable def o63 : Obj := oUD 8 "int_divmod" (S "cpy313._pylong" 194) (.ref 62)
noncomputable def T9 (P : Params) : BT := (N (boot_o_0 P) (N (boot_o_1 P) (N (zJr P) (N (boot_o_7 P) (N o15 (N o31 (N o63 z z) z) (N o47 z z)) (N o23 (N o39 z z) (N o55 z z))) (N o11 (N o19 (N o35 z z) (N o51 z z)) (N o27 (N o43 z z) (N o59 z z)))) (N (boot_o_5 P) (N (boot_o_9 P) (N o17 (N o33 z z) (N o49 z z)) (N o25 (N o41 z z) (N o57 z z))) (N o13 (N o21 (N o37 z z) (N o53 z z)) (N o29 (N o45 z z) (N o61 z z))))) (N (boot_o_2 P) (N (boot_o_4 P) (N (boot_o_8 P) (N o16 (N o32 z z) (N o48 z z)) (N o24 (N o40 z z) (N o56 z z))) (N zBo (N o20 (N o36 z z) (N o52 z z)) (N o28 (N o44 z z) (N o60 z z)))) (N (boot_o_6 P) (N (boot_o_10 P) (N o18 (N o34 z z) (N o50 z z)) (N o26 (N o42 z z) (N o58 z z))) (N o14 (N o22 (N o38 z z) (N o54 z z)) (N o30 (N o46 z z) (N o62 z z))))))
noncomputable def X9 (w : World) (os : OsState) : SharedT := ⟨T9 w.params, 64, lf, #[], dr, 278, os⟩
noncomputable def env : Env := { scope := pw.main.scope, locals := mainNs, globals := mainNs, cells := [], code := .ref 13, frame := some 14 }
noncomputable abbrev cE : Code := .body (behindTheImports pw) env
noncomputable def p0 : Pos := ⟨0, 0, 0, 0⟩
noncomputable abbrev B : List Frame := [topFrame p0]
noncomputable def sts (i n : Nat) : List Stmt := (pw.main.body.drop i).take n
set_option maxRecDepth 100000
theorem zJq : ∀ w : World, (fun os : OsState => segRunT treeTable pw w 11 (some (.ref 6)) 1 267 (XB w os) (piecesOf (sts 0 10) env cE p0 B)) = fun os => some (.next, X9 w os, cE, ⟨79, 0, 79, 8⟩) := by
  rw [show @segRunT = _ from PySem.W.Fast.te10110043849684766642]
  intro w
  kernel_rfl
end
end Top
end
section
namespace Top
noncomputable section
noncomputable def es1 : List (Int × Nat) := [(65024, 294), (65025, 295), (65026, 296), (65027, 297), (65028, 298), (65029, 299), (6150, 280), (65030, 300), (65031, 301), (65032, 302), (65033, 303), (6155, 281), (6156, 282), (6157, 283), (8203, 284), (8204, 285), (8205, 286), (65034, 304), (65035, 305), (65036, 306), (65037, 307), (65038, 308), (65039, 309), (173, 278), (847, 279), (8288, 287), (65279, 288)]
noncomputable def ob1 (P : Params) : Obj := { cls := .type "set", data := .set ⟨es1.map fun x => (x.1, .int x.1 x.2)⟩ 29 { mask := 127, place := #[0, 1, 2, 3, 4, 5, 6, 7, 8, 9, 10, 11, 12, 13, 14, 15, 16, 17, 18, 19, 20, 21, 22, 45, 79, 96, 127], dummies := #[], finger := 0, led := !P.followText "set-order", moves := 2, plain := true } }
noncomputable def zGn (P : Params) : Obj := oD [E P "__name__" 165 (S "cpy313.stringprep" 276), E P "__doc__" 166 (.none), E P "__package__" 167 (.none), E P "__loader__" 168 (.builtin "__main__.__loader__#opaque"), E P "__spec__" 169 (.none), E P "__annotations__" 170 (.ref 6), E P "__builtins__" 171 (.ref 4), E P "__file__" 173 (S "/claim/cut.py" 172), E P "__cached__" 174 (.none), E P "_wall" 193 (.ref 21), E P "_DIV_LIMIT" 197 (.int 4000 196), E P "_div2n1n" 214 (.ref 28), E P "_div3n2n" 228 (.ref 35), E P "_int2digits" 239 (.ref 42), E P "_digits2int" 250 (.ref 49), E P "_divmod_pos" 265 (.ref 56), E P "int_divmod" 275 (.ref 63), E P "b1_set" 337 (.ref 71)] 18
noncomputable def o64 : Obj := { cls := Value.type "list", data := Data.seq #[Value.int 173 278, Value.int 847 279, Value.int 6150 280, Value.int 6155 281, Value.int 6156 282, Value.int 6157 283, Value.int 8203 284, Value.int 8204 285, Value.int 8205 286, Value.int 8288 287, Value.int 65279 288] }
noncomputable def o65 : Obj := oC "range" [.int 65024 289, .int 65040 290, .int 1 291]
noncomputable def o66 : Obj := { cls := Value.type "list", data := Data.seq #[Value.int 65024 294, Value.int 65025 295, Value.int 65026 296, Value.int 65027 297, Value.int 65028 298, Value.int 65029 299, Value.int 65030 300, Value.int 65031 301, Value.int 65032 302, Value.int 65033 303, Value.int 65034 304, Value.int 65035 305, Value.int 65036 306, Value.int 65037 307, Value.int 65038 308, Value.int 65039 309] 18 }
noncomputable def o67 : Obj := oC "range_iterator" [I 65040, I 0, I 1]
noncomputable def o68 : Obj := oT0
noncomputable def o69 : Obj := oC "StopIteration" [.ref 68, .none, .none, .none, .bool false, .none]
noncomputable def o70 : Obj := { cls := Value.type "list", data := Data.seq #[Value.int 173 278, Value.int 847 279, Value.int 6150 280, Value.int 6155 281, Value.int 6156 282, Value.int 6157 283, Value.int 8203 284, Value.int 8204 285, Value.int 8205 286, Value.int 8288 287, Value.int 65279 288, Value.int 65024 294, Value.int 65025 295, Value.int 65026 296, Value.int 65027 297, Value.int 65028 298, Value.int 65029 299, Value.int 65030 300, Value.int 65031 301, Value.int 65032 302, Value.int 65033 303, Value.int 65034 304, Value.int 65035 305, Value.int 65036 306, Value.int 65037 307, Value.int 65038 308, Value.int 65039 309] }
noncomputable def o72 : Obj := oC "list_iterator" [.none, I 27]
noncomputable def o73 : Obj := oT0
noncomputable def o74 : Obj := oC "StopIteration" [.ref 73, .none, .none, .none, .bool false, .none]
noncomputable def T10 (P : Params) : BT := (N (boot_o_0 P) (N (boot_o_1 P) (N (zGn P) (N (boot_o_7 P) (N o15 (N o31 (N o63 z z) z) (N o47 z z)) (N o23 (N o39 (N (ob1 P) z z) z) (N o55 z z))) (N o11 (N o19 (N o35 (N o67 z z) z) (N o51 z z)) (N o27 (N o43 z z) (N o59 z z)))) (N (boot_o_5 P) (N (boot_o_9 P) (N o17 (N o33 (N o65 z z) z) (N o49 z z)) (N o25 (N o41 (N o73 z z) z) (N o57 z z))) (N o13 (N o21 (N o37 (N o69 z z) z) (N o53 z z)) (N o29 (N o45 z z) (N o61 z z))))) (N (boot_o_2 P) (N (boot_o_4 P) (N (boot_o_8 P) (N o16 (N o32 (N o64 z z) z) (N o48 z z)) (N o24 (N o40 (N o72 z z) z) (N o56 z z))) (N zBo (N o20 (N o36 (N o68 z z) z) (N o52 z z)) (N o28 (N o44 z z) (N o60 z z)))) (N (boot_o_6 P) (N (boot_o_10 P) (N o18 (N o34 (N o66 z z) z) (N o50 z z)) (N o26 (N o42 (N o74 z z) z) (N o58 z z))) (N o14 (N o22 (N o38 (N o70 z z) z) (N o54 z z)) (N o30 (N o46 z z) (N o62 z z))))))
noncomputable def X10 (w : World) (os : OsState) : SharedT := ⟨T10 w.params, 75, lf, #[], dr, 338, os⟩
set_option maxRecDepth 100000
theorem zGh : ∀ w : World, (fun os : OsState => segRunT treeTable pw w 11 (some (.ref 6)) 1 999 (X9 w os) (piecesOf (sts 10 1) env cE ⟨79, 0, 79, 8⟩ B)) = fun os => some (.next, X10 w os, cE, ⟨80, 0, 80, 6⟩) := by
  rw [show @segRunT = _ from PySem.W.Fast.te10110043849684766642, show treeTable = _ from PySem.W.Fast.te14364793385576792824]
  refine byRow2 "set-order" (byRow2 "special-get-raises" ?_ ?_) (byRow2 "special-get-raises" ?_ ?_)
  · intro w
    kernel_rfl
  · intro w
    kernel_rfl
  · intro w
    kernel_rfl
  · intro w
    kernel_rfl
end
end Top
end
section
namespace Top
noncomputable section
noncomputable def D (es : List DictEntry) (n : Nat) : Obj := { cls := .type "dict", data := .dict ⟨es⟩ n }
noncomputable def aG : Nat → List (Int × Str) → List DictEntry
  | _, [] => []
  | t, x :: l => ⟨hashInt x.1, .int x.1 t, .str x.2 (t + 1)⟩ :: aG (t + 3) l
noncomputable def aX : Nat → List (Int × Str) → List DictEntry
  | _, [] => []
  | t, x :: l => ⟨hashInt x.1, .int x.1 t, .str x.2 (t + 1)⟩ :: aX (t + 2) l
noncomputable def ch3 (j : Nat) : List (Int × Str) := (b3E.drop (17 * j)).take 17
noncomputable def oB (j : Nat) : Obj := D (aG (345 + 51 * j) (ch3 j)) 17
noncomputable def pB : Obj := D (aG 345 (b3E.take 646) ++ aX 2283 (b3E.drop 646)) 650
noncomputable def vI : Obj := oB 1
noncomputable def vH : Obj := oB 2
noncomputable def vG : Obj := oB 3
noncomputable def vF : Obj := oB 4
noncomputable def vD : Obj := oB 5
noncomputable def vC : Obj := oB 6
noncomputable def vB : Obj := oB 7
noncomputable def vA : Obj := oB 8
noncomputable def uZ : Obj := oB 9
noncomputable def uY : Obj := oB 10
noncomputable def uX : Obj := oB 11
noncomputable def uW : Obj := oB 12
noncomputable def uV : Obj := oB 13
noncomputable def uU : Obj := oB 14
noncomputable def uT : Obj := oB 15
noncomputable def uS : Obj := oB 16
noncomputable def uR : Obj := oB 17
noncomputable def nZ : Obj := oB 18
noncomputable def nY : Obj := oB 19
noncomputable def nX : Obj := oB 20
noncomputable def nW : Obj := oB 21
noncomputable def nV : Obj := oB 22
noncomputable def nU : Obj := oB 23
noncomputable def nS : Obj := oB 24
noncomputable def nR : Obj := oB 25
noncomputable def nQ : Obj := oB 26
noncomputable def nP : Obj := oB 27
noncomputable def nO : Obj := oB 28
noncomputable def nN : Obj := oB 29
noncomputable def nM : Obj := oB 30
noncomputable def nL : Obj := oB 31
noncomputable def nK : Obj := oB 32
noncomputable def nJ : Obj := oB 33
noncomputable def nI : Obj := oB 34
noncomputable def nH : Obj := oB 35
noncomputable def nG : Obj := oB 36
noncomputable def nF : Obj := oB 37
noncomputable def jD : Obj := D (aX 2283 (b3E.drop 646)) 4
noncomputable def zBn (P : Params) : Obj := oD [E P "__name__" 165 (S "cpy313.stringprep" 276), E P "__doc__" 166 (.none), E P "__package__" 167 (.none), E P "__loader__" 168 (.builtin "__main__.__loader__#opaque"), E P "__spec__" 169 (.none), E P "__annotations__" 170 (.ref 6), E P "__builtins__" 171 (.ref 4), E P "__file__" 173 (S "/claim/cut.py" 172), E P "__cached__" 174 (.none), E P "_wall" 193 (.ref 21), E P "_DIV_LIMIT" 197 (.int 4000 196), E P "_div2n1n" 214 (.ref 28), E P "_div3n2n" 228 (.ref 35), E P "_int2digits" 239 (.ref 42), E P "_digits2int" 250 (.ref 49), E P "_divmod_pos" 265 (.ref 56), E P "int_divmod" 275 (.ref 63), E P "b1_set" 337 (.ref 71), E P "in_table_b1" 344 (.ref 81)] 19
noncomputable def sC : Obj := oF [I 1, I 0, .ref 20, I 6, I 0, .ref 27, I 22, I 0, .ref 34, I 32, I 0, .ref 41, I 48, I 0, .ref 48, I 57, I 0, .ref 55, I 68, I 0, .ref 62, I 81, I 0, .ref 80]
noncomputable def o75 : Obj := oT0
noncomputable def o76 : Obj := oF []
noncomputable def o77 : Obj := oT [S "code" 341]
noncomputable def o78 : Obj := oT0
noncomputable def o79 : Obj := oND 11 "in_table_b1"
noncomputable def o80 : Obj := oC "code" [S "in_table_b1" 338, S "in_table_b1" 339, S "/claim/cut.py" 340, I 81, I 1, I 0, I 0, I 3, .ref 75, .bool true, I 181, .ref 76, .none, .ref 77, .ref 78, .ref 79, I 342, I 81, S "/claim/cut.py" 343]
noncomputable def o81 : Obj := oUD 11 "in_table_b1" (S "cpy313.stringprep" 276) (.ref 80)
noncomputable def T11 (P : Params) : BT := (N (boot_o_0 P) (N (boot_o_1 P) (N (zBn P) (N (boot_o_7 P) (N o15 (N o31 (N o63 z z) z) (N o47 (N o79 z z) z)) (N o23 (N o39 (N (ob1 P) z z) z) (N o55 z z))) (N o11 (N o19 (N o35 (N o67 z z) z) (N o51 z z)) (N o27 (N o43 (N o75 z z) z) (N o59 z z)))) (N (boot_o_5 P) (N (boot_o_9 P) (N o17 (N o33 (N o65 z z) z) (N o49 (N o81 z z) z)) (N o25 (N o41 (N o73 z z) z) (N o57 z z))) (N o13 (N o21 (N o37 (N o69 z z) z) (N o53 z z)) (N o29 (N o45 (N o77 z z) z) (N o61 z z))))) (N (boot_o_2 P) (N (boot_o_4 P) (N (boot_o_8 P) (N o16 (N o32 (N o64 z z) z) (N o48 (N o80 z z) z)) (N o24 (N o40 (N o72 z z) z) (N o56 z z))) (N sC (N o20 (N o36 (N o68 z z) z) (N o52 z z)) (N o28 (N o44 (N o76 z z) z) (N o60 z z)))) (N (boot_o_6 P) (N (boot_o_10 P) (N o18 (N o34 (N o66 z z) z) (N o50 z z)) (N o26 (N o42 (N o74 z z) z) (N o58 z z))) (N o14 (N o22 (N o38 (N o70 z z) z) (N o54 z z)) (N o30 (N o46 (N o78 z z) z) (N o62 z z))))))
noncomputable def X11 (w : World) (os : OsState) : SharedT := ⟨T11 w.params, 82, lf, #[], dr, 345, os⟩
noncomputable def zGm (P : Params) : Obj := oD [E P "__name__" 165 (S "cpy313.stringprep" 276), E P "__doc__" 166 (.none), E P "__package__" 167 (.none), E P "__loader__" 168 (.builtin "__main__.__loader__#opaque"), E P "__spec__" 169 (.none), E P "__annotations__" 170 (.ref 6), E P "__builtins__" 171 (.ref 4), E P "__file__" 173 (S "/claim/cut.py" 172), E P "__cached__" 174 (.none), E P "_wall" 193 (.ref 21), E P "_DIV_LIMIT" 197 (.int 4000 196), E P "_div2n1n" 214 (.ref 28), E P "_div3n2n" 228 (.ref 35), E P "_int2digits" 239 (.ref 42), E P "_digits2int" 250 (.ref 49), E P "_divmod_pos" 265 (.ref 56), E P "int_divmod" 275 (.ref 63), E P "b1_set" 337 (.ref 71), E P "in_table_b1" 344 (.ref 81), E P "b3_exceptions" 2295 (.ref 82)] 20
noncomputable def T12 (P : Params) : BT := (N (boot_o_0 P) (N (boot_o_1 P) (N (zGm P) (N (boot_o_7 P) (N o15 (N o31 (N o63 z z) (N uV z z)) (N o47 (N o79 z z) (N nN z z))) (N o23 (N o39 (N (ob1 P) z z) (N nW z z)) (N o55 (N vD z z) (N nF z z)))) (N o11 (N o19 (N o35 (N o67 z z) (N uR z z)) (N o51 (N vI z z) (N nJ z z))) (N o27 (N o43 (N o75 z z) (N nR z z)) (N o59 (N uZ z z) z)))) (N (boot_o_5 P) (N (boot_o_9 P) (N o17 (N o33 (N o65 z z) (N uT z z)) (N o49 (N o81 z z) (N nL z z))) (N o25 (N o41 (N o73 z z) (N nU z z)) (N o57 (N vB z z) z))) (N o13 (N o21 (N o37 (N o69 z z) (N nY z z)) (N o53 (N vG z z) (N nH z z))) (N o29 (N o45 (N o77 z z) (N nP z z)) (N o61 (N uX z z) z))))) (N (boot_o_2 P) (N (boot_o_4 P) (N (boot_o_8 P) (N o16 (N o32 (N o64 z z) (N uU z z)) (N o48 (N o80 z z) (N nM z z))) (N o24 (N o40 (N o72 z z) (N nV z z)) (N o56 (N vC z z) (N jD z z)))) (N sC (N o20 (N o36 (N o68 z z) (N nZ z z)) (N o52 (N vH z z) (N nI z z))) (N o28 (N o44 (N o76 z z) (N nQ z z)) (N o60 (N uY z z) z)))) (N (boot_o_6 P) (N (boot_o_10 P) (N o18 (N o34 (N o66 z z) (N uS z z)) (N o50 (N pB z z) (N nK z z))) (N o26 (N o42 (N o74 z z) (N nS z z)) (N o58 (N vA z z) z))) (N o14 (N o22 (N o38 (N o70 z z) (N nX z z)) (N o54 (N vF z z) (N nG z z))) (N o30 (N o46 (N o78 z z) (N nO z z)) (N o62 (N uW z z) z))))))
noncomputable def X12 (w : World) (os : OsState) : SharedT := ⟨T12 w.params, 121, lf, #[], dr, 2296, os⟩
noncomputable def TY (P : Params) : BT := (N (boot_o_0 P) (N (boot_o_1 P) (N (zBn P) (N (boot_o_7 P) (N o15 (N o31 (N o63 z z) (N uV z z)) (N o47 (N o79 z z) (N nN z z))) (N o23 (N o39 (N (ob1 P) z z) (N nW z z)) (N o55 (N vD z z) (N nF z z)))) (N o11 (N o19 (N o35 (N o67 z z) (N uR z z)) (N o51 (N vI z z) (N nJ z z))) (N o27 (N o43 (N o75 z z) (N nR z z)) (N o59 (N uZ z z) z)))) (N (boot_o_5 P) (N (boot_o_9 P) (N o17 (N o33 (N o65 z z) (N uT z z)) (N o49 (N o81 z z) (N nL z z))) (N o25 (N o41 (N o73 z z) (N nU z z)) (N o57 (N vB z z) z))) (N o13 (N o21 (N o37 (N o69 z z) (N nY z z)) (N o53 (N vG z z) (N nH z z))) (N o29 (N o45 (N o77 z z) (N nP z z)) (N o61 (N uX z z) z))))) (N (boot_o_2 P) (N (boot_o_4 P) (N (boot_o_8 P) (N o16 (N o32 (N o64 z z) (N uU z z)) (N o48 (N o80 z z) (N nM z z))) (N o24 (N o40 (N o72 z z) (N nV z z)) (N o56 (N vC z z) (N jD z z)))) (N sC (N o20 (N o36 (N o68 z z) (N nZ z z)) (N o52 (N vH z z) (N nI z z))) (N o28 (N o44 (N o76 z z) (N nQ z z)) (N o60 (N uY z z) z)))) (N (boot_o_6 P) (N (boot_o_10 P) (N o18 (N o34 (N o66 z z) (N uS z z)) (N o50 (N pB z z) (N nK z z))) (N o26 (N o42 (N o74 z z) (N nS z z)) (N o58 (N vA z z) z))) (N o14 (N o22 (N o38 (N o70 z z) (N nX z z)) (N o54 (N vF z z) (N nG z z))) (N o30 (N o46 (N o78 z z) (N nO z z)) (N o62 (N uW z z) z))))))
noncomputable def Y (w : World) (os : OsState) : SharedT := ⟨TY w.params, 121, lf, #[], dr, 2295, os⟩
noncomputable def zGl (P : Params) : Obj := oD [E P "__name__" 165 (S "cpy313.tabnanny" 2304), E P "__doc__" 166 (.none), E P "__package__" 167 (.none), E P "__loader__" 168 (.builtin "__main__.__loader__#opaque"), E P "__spec__" 169 (.none), E P "__annotations__" 170 (.ref 6), E P "__builtins__" 171 (.ref 4), E P "__file__" 173 (S "/claim/cut.py" 172), E P "__cached__" 174 (.none), E P "_wall" 193 (.ref 21), E P "_DIV_LIMIT" 197 (.int 4000 196), E P "_div2n1n" 214 (.ref 28), E P "_div3n2n" 228 (.ref 35), E P "_int2digits" 239 (.ref 42), E P "_digits2int" 250 (.ref 49), E P "_divmod_pos" 265 (.ref 56), E P "int_divmod" 275 (.ref 63), E P "b1_set" 337 (.ref 71), E P "in_table_b1" 344 (.ref 81), E P "b3_exceptions" 2295 (.ref 82), E P "map_table_b3" 2303 (.ref 127)] 21
noncomputable def zFg : Obj := oF [I 1, I 0, .ref 20, I 6, I 0, .ref 27, I 22, I 0, .ref 34, I 32, I 0, .ref 41, I 48, I 0, .ref 48, I 57, I 0, .ref 55, I 68, I 0, .ref 62, I 81, I 0, .ref 80, I 84, I 0, .ref 126]
noncomputable def zAc : Obj := oT0
noncomputable def zAb : Obj := oF []
noncomputable def zAa : Obj := oT [S "code" 2299, S "r" 2300]
noncomputable def zZ : Obj := oT0
noncomputable def zY : Obj := oND 13 "map_table_b3"
noncomputable def xA : Obj := oC "code" [S "map_table_b3" 2296, S "map_table_b3" 2297, S "/claim/cut.py" 2298, I 84, I 1, I 0, I 0, I 3, .ref 121, .bool true, I 181, .ref 122, .none, .ref 123, .ref 124, .ref 125, I 2301, I 84, S "/claim/cut.py" 2302]
noncomputable def zX : Obj := oUD 13 "map_table_b3" (S "cpy313.stringprep" 276) (.ref 126)
noncomputable def T14 (P : Params) : BT := (N (boot_o_0 P) (N (boot_o_1 P) (N (zGl P) (N (boot_o_7 P) (N o15 (N o31 (N o63 (N zX z z) z) (N uV z z)) (N o47 (N o79 z z) (N nN z z))) (N o23 (N o39 (N (ob1 P) z z) (N nW z z)) (N o55 (N vD z z) (N nF z z)))) (N o11 (N o19 (N o35 (N o67 z z) (N uR z z)) (N o51 (N vI z z) (N nJ z z))) (N o27 (N o43 (N o75 z z) (N nR z z)) (N o59 (N uZ z z) (N zAa z z))))) (N (boot_o_5 P) (N (boot_o_9 P) (N o17 (N o33 (N o65 z z) (N uT z z)) (N o49 (N o81 z z) (N nL z z))) (N o25 (N o41 (N o73 z z) (N nU z z)) (N o57 (N vB z z) (N zAc z z)))) (N o13 (N o21 (N o37 (N o69 z z) (N nY z z)) (N o53 (N vG z z) (N nH z z))) (N o29 (N o45 (N o77 z z) (N nP z z)) (N o61 (N uX z z) (N zY z z)))))) (N (boot_o_2 P) (N (boot_o_4 P) (N (boot_o_8 P) (N o16 (N o32 (N o64 z z) (N uU z z)) (N o48 (N o80 z z) (N nM z z))) (N o24 (N o40 (N o72 z z) (N nV z z)) (N o56 (N vC z z) (N jD z z)))) (N zFg (N o20 (N o36 (N o68 z z) (N nZ z z)) (N o52 (N vH z z) (N nI z z))) (N o28 (N o44 (N o76 z z) (N nQ z z)) (N o60 (N uY z z) (N zZ z z))))) (N (boot_o_6 P) (N (boot_o_10 P) (N o18 (N o34 (N o66 z z) (N uS z z)) (N o50 (N pB z z) (N nK z z))) (N o26 (N o42 (N o74 z z) (N nS z z)) (N o58 (N vA z z) (N zAb z z)))) (N o14 (N o22 (N o38 (N o70 z z) (N nX z z)) (N o54 (N vF z z) (N nG z z))) (N o30 (N o46 (N o78 z z) (N nO z z)) (N o62 (N uW z z) (N xA z z)))))))
noncomputable def X14 (w : World) (os : OsState) : SharedT := ⟨T14 w.params, 128, lf, #[], dr, 2306, os⟩
noncomputable def zGk (P : Params) : Obj := oD [E P "__name__" 165 (S "cpy313.tabnanny" 2304), E P "__doc__" 166 (.none), E P "__package__" 167 (.none), E P "__loader__" 168 (.builtin "__main__.__loader__#opaque"), E P "__spec__" 169 (.none), E P "__annotations__" 170 (.ref 6), E P "__builtins__" 171 (.ref 4), E P "__file__" 173 (S "/claim/cut.py" 172), E P "__cached__" 174 (.none), E P "_wall" 193 (.ref 21), E P "_DIV_LIMIT" 197 (.int 4000 196), E P "_div2n1n" 214 (.ref 28), E P "_div3n2n" 228 (.ref 35), E P "_int2digits" 239 (.ref 42), E P "_digits2int" 250 (.ref 49), E P "_divmod_pos" 265 (.ref 56), E P "int_divmod" 275 (.ref 63), E P "b1_set" 337 (.ref 71), E P "in_table_b1" 344 (.ref 81), E P "b3_exceptions" 2295 (.ref 82), E P "map_table_b3" 2303 (.ref 127), E P "Whitespace" 2406 (.ref 189)] 22
noncomputable def zFf : Obj := oF [I 1, I 0, .ref 20, I 6, I 0, .ref 27, I 22, I 0, .ref 34, I 32, I 0, .ref 41, I 48, I 0, .ref 48, I 57, I 0, .ref 55, I 68, I 0, .ref 62, I 81, I 0, .ref 80, I 84, I 0, .ref 126, I 90, I 0, .ref 133]
noncomputable def zFi : Obj := oT0
noncomputable def zFh : Obj := oC "builtin_function_or_method" [.builtin "type.__prepare__", .type "type"]
noncomputable def zFe (P : Params) : Obj := oD [E P "__module__" 2313 (S "cpy313.tabnanny" 2304), E P "__qualname__" 2315 (S "Whitespace" 2314), E P "__firstlineno__" 2317 (.int 90 2316), E P "S" 2321 (S " " 2319), E P "T" 2322 (S "\t" 2320), E P "__init__" 2337 (.ref 144), E P "longest_run_of_spaces" 2346 (.ref 151), E P "indent_level" 2358 (.ref 158), E P "equal" 2366 (.ref 165), E P "not_equal_witness" 2377 (.ref 172), E P "less" 2385 (.ref 179), E P "not_less_witness" 2393 (.ref 186), E P "__static_attributes__" 2399 (.ref 187)] 13
noncomputable def zFd : Obj := oT0
noncomputable def zFc : Obj := oF [I 93, I 4, .ref 143, I 116, I 4, .ref 150, I 120, I 4, .ref 157, I 127, I 4, .ref 164, I 130, I 4, .ref 171, I 138, I 4, .ref 178, I 141, I 4, .ref 185]
noncomputable def zFb : Obj := oC "code" [S "Whitespace" 2308, S "Whitespace" 2309, S "/claim/cut.py" 2310, I 90, I 0, I 0, I 0, I 0, .ref 131, .bool false, I 181, .ref 132, .none, .none, .none, .none, I 2311, I 90, S "/claim/cut.py" 2312]
noncomputable def zFa : Obj := { cls := Value.type "frame", slots := #[some (Value.ref 133), some (Value.ref 3), some (Value.ref 130), none, some (Value.str (Str.ofString "cpy313.tabnanny") 2304), none, some (Value.ref 0)] }
noncomputable def zEz : Obj := oC "str_ascii_iterator" [.none, I 2]
noncomputable def zEy : Obj := oT0
noncomputable def zEx : Obj := oC "StopIteration" [.ref 136, .none, .none, .none, .bool false, .none]
noncomputable def zEw : Obj := oT0
noncomputable def zEv : Obj := oF []
noncomputable def zEu : Obj := oT [S "self" 2326, S "ws" 2327, S "S" 2328, S "T" 2329, S "count" 2330, S "b" 2331, S "n" 2332, S "nt" 2333, S "ch" 2334]
noncomputable def zEt : Obj := oT0
noncomputable def zEs : Obj := oNM 1 "__init__" "Whitespace.__init__"
noncomputable def zW : Obj := oC "code" [S "__init__" 2323, S "Whitespace.__init__" 2324, S "/claim/cut.py" 2325, I 93, I 2, I 0, I 0, I 3, .ref 138, .bool true, I 181, .ref 139, .none, .ref 140, .ref 141, .ref 142, I 2335, I 93, S "/claim/cut.py" 2336]
noncomputable def zEr : Obj := oUM 1 "__init__" "Whitespace.__init__" (S "cpy313.tabnanny" 2304) (.ref 143)
noncomputable def zEq : Obj := oT0
noncomputable def zEp : Obj := oF []
noncomputable def zEo : Obj := oT [S "self" 2341, S "count" 2342, S "trailing" 2343]
noncomputable def zEn : Obj := oT0
noncomputable def zEm : Obj := oNM 2 "longest_run_of_spaces" "Whitespace.longest_run_of_spaces"
noncomputable def zV : Obj := oC "code" [S "longest_run_of_spaces" 2338, S "Whitespace.longest_run_of_spaces" 2339, S "/claim/cut.py" 2340, I 116, I 1, I 0, I 0, I 3, .ref 145, .bool true, I 181, .ref 146, .none, .ref 147, .ref 148, .ref 149, I 2344, I 116, S "/claim/cut.py" 2345]
noncomputable def zEl : Obj := oUM 2 "longest_run_of_spaces" "Whitespace.longest_run_of_spaces" (S "cpy313.tabnanny" 2304) (.ref 150)
noncomputable def zEk : Obj := oT0
noncomputable def zEj : Obj := oF []
noncomputable def zEi : Obj := oT [S "self" 2350, S "tabsize" 2351, S "count" 2352, S "trailing" 2353, S "il" 2354, S "i" 2355]
noncomputable def zEh : Obj := oT0
noncomputable def zEg : Obj := oNM 3 "indent_level" "Whitespace.indent_level"
noncomputable def zU : Obj := oC "code" [S "indent_level" 2347, S "Whitespace.indent_level" 2348, S "/claim/cut.py" 2349, I 120, I 2, I 0, I 0, I 3, .ref 152, .bool true, I 181, .ref 153, .none, .ref 154, .ref 155, .ref 156, I 2356, I 120, S "/claim/cut.py" 2357]
noncomputable def zEf : Obj := oUM 3 "indent_level" "Whitespace.indent_level" (S "cpy313.tabnanny" 2304) (.ref 157)
noncomputable def zEe : Obj := oT0
noncomputable def zEd : Obj := oF []
noncomputable def zEc : Obj := oT [S "self" 2362, S "other" 2363]
noncomputable def zEb : Obj := oT0
noncomputable def zEa : Obj := oNM 4 "equal" "Whitespace.equal"
noncomputable def zDz : Obj := oC "code" [S "equal" 2359, S "Whitespace.equal" 2360, S "/claim/cut.py" 2361, I 127, I 2, I 0, I 0, I 3, .ref 159, .bool true, I 181, .ref 160, .none, .ref 161, .ref 162, .ref 163, I 2364, I 127, S "/claim/cut.py" 2365]
noncomputable def zDy : Obj := oUM 4 "equal" "Whitespace.equal" (S "cpy313.tabnanny" 2304) (.ref 164)
noncomputable def zDx : Obj := oT0
noncomputable def zDw : Obj := oF []
noncomputable def zDv : Obj := oT [S "self" 2370, S "other" 2371, S "n" 2372, S "a" 2373, S "ts" 2374]
noncomputable def zDu : Obj := oT0
noncomputable def zDt : Obj := oNM 5 "not_equal_witness" "Whitespace.not_equal_witness"
noncomputable def zT : Obj := oC "code" [S "not_equal_witness" 2367, S "Whitespace.not_equal_witness" 2368, S "/claim/cut.py" 2369, I 130, I 2, I 0, I 0, I 3, .ref 166, .bool true, I 181, .ref 167, .none, .ref 168, .ref 169, .ref 170, I 2375, I 130, S "/claim/cut.py" 2376]
noncomputable def zDs : Obj := oUM 5 "not_equal_witness" "Whitespace.not_equal_witness" (S "cpy313.tabnanny" 2304) (.ref 171)
noncomputable def zDr : Obj := oT0
noncomputable def zDq : Obj := oF []
noncomputable def zDp : Obj := oT [S "self" 2381, S "other" 2382]
noncomputable def zDo : Obj := oT0
noncomputable def zDn : Obj := oNM 6 "less" "Whitespace.less"
noncomputable def zDm : Obj := oC "code" [S "less" 2378, S "Whitespace.less" 2379, S "/claim/cut.py" 2380, I 138, I 2, I 0, I 0, I 3, .ref 173, .bool true, I 181, .ref 174, .none, .ref 175, .ref 176, .ref 177, I 2383, I 138, S "/claim/cut.py" 2384]
noncomputable def zDl : Obj := oUM 6 "less" "Whitespace.less" (S "cpy313.tabnanny" 2304) (.ref 178)
noncomputable def zDk : Obj := oT0
noncomputable def zDj : Obj := oF []
noncomputable def zDi : Obj := oT [S "self" 2389, S "other" 2390]
noncomputable def zDh : Obj := oT0
noncomputable def zDg : Obj := oNM 7 "not_less_witness" "Whitespace.not_less_witness"
noncomputable def zDf : Obj := oC "code" [S "not_less_witness" 2386, S "Whitespace.not_less_witness" 2387, S "/claim/cut.py" 2388, I 141, I 2, I 0, I 0, I 3, .ref 180, .bool true, I 181, .ref 181, .none, .ref 182, .ref 183, .ref 184, I 2391, I 141, S "/claim/cut.py" 2392]
noncomputable def zDe : Obj := oUM 7 "not_less_witness" "Whitespace.not_less_witness" (S "cpy313.tabnanny" 2304) (.ref 185)
noncomputable def zDd : Obj := oT [S "is_simple" 2394, S "n" 2395, S "norm" 2396, S "nt" 2397, S "raw" 2398]
noncomputable def zS (P : Params) : Obj := oD [E P "__module__" 2313 (S "cpy313.tabnanny" 2304), E P "__firstlineno__" 2317 (.int 90 2316), E P "S" 2321 (S " " 2319), E P "T" 2322 (S "\t" 2320), E P "__init__" 2337 (.ref 144), E P "longest_run_of_spaces" 2346 (.ref 151), E P "indent_level" 2358 (.ref 158), E P "equal" 2366 (.ref 165), E P "not_equal_witness" 2377 (.ref 172), E P "less" 2385 (.ref 179), E P "not_less_witness" 2393 (.ref 186), E P "__static_attributes__" 2399 (.ref 187), E P "__dict__" 2401 (.ref 190), E P "__weakref__" 2403 (.ref 191), E P "__doc__" 2404 (.none)] 4
noncomputable def zR : Obj := { cls := Value.type "type", data := Data.cls { name := Str.ofString "Whitespace", bases := [Value.type "object"], mro := [Value.ref 189, Value.type "object"], ns := 188, qualname := Str.ofString "Whitespace" }, slots := #[none, none, some (Value.str (Str.ofString "Whitespace") 2306), some (Value.str (Str.ofString "Whitespace") 2314), some (Value.builtin "object.__new__"), some (Value.bool true)] }
noncomputable def zDc : Obj := oC "getset_descriptor" [S "__dict__" 2400, .ref 189, .builtin "function.__dict__", .builtin "function.__dict__#set"]
noncomputable def zDb : Obj := oC "getset_descriptor" [S "__weakref__" 2402, .ref 189, .builtin "ExceptionGroup.__weakref__", .none]
noncomputable def zDa : Obj := oC "super" [.ref 189, .ref 189, .ref 189]
noncomputable def zCz : Obj := oC "builtin_function_or_method" [.builtin "object.__init_subclass__", .ref 189]
noncomputable def T15 (P : Params) : BT := (N (boot_o_0 P) (N (boot_o_1 P) (N (zGk P) (N (boot_o_7 P) (N o15 (N o31 (N o63 (N zX z z) (N zDb z z)) (N uV (N zEe z z) z)) (N o47 (N o79 (N zW z z) z) (N nN (N zDp z z) z))) (N o23 (N o39 (N (ob1 P) (N zEz z z) z) (N nW (N zDw z z) z)) (N o55 (N vD (N zEl z z) z) (N nF (N zDh z z) z)))) (N o11 (N o19 (N o35 (N o67 (N zFd z z) z) (N uR (N zEa z z) z)) (N o51 (N vI (N zEo z z) z) (N nJ (N zDl z z) z))) (N o27 (N o43 (N o75 (N zEv z z) z) (N nR (N zT z z) z)) (N o59 (N uZ (N zEh z z) z) (N zAa (N zDd z z) z))))) (N (boot_o_5 P) (N (boot_o_9 P) (N o17 (N o33 (N o65 (N zFh z z) (N zCz z z)) (N uT (N zEc z z) z)) (N o49 (N o81 (N zEq z z) z) (N nL (N zDn z z) z))) (N o25 (N o41 (N o73 (N zEx z z) z) (N nU (N zDu z z) z)) (N o57 (N vB (N zEj z z) z) (N zAc (N zDf z z) z)))) (N o13 (N o21 (N o37 (N o69 (N zFb z z) z) (N nY (N zDy z z) z)) (N o53 (N vG (N zEm z z) z) (N nH (N zDj z z) z))) (N o29 (N o45 (N o77 (N zEt z z) z) (N nP (N zDr z z) z)) (N o61 (N uX (N zU z z) z) (N zY (N zR z z) z)))))) (N (boot_o_2 P) (N (boot_o_4 P) (N (boot_o_8 P) (N o16 (N o32 (N o64 (N zFi z z) (N zDa z z)) (N uU (N zEd z z) z)) (N o48 (N o80 (N zEr z z) z) (N nM (N zDo z z) z))) (N o24 (N o40 (N o72 (N zEy z z) z) (N nV (N zDv z z) z)) (N o56 (N vC (N zEk z z) z) (N jD (N zDg z z) z)))) (N zFf (N o20 (N o36 (N o68 (N zFc z z) z) (N nZ (N zDz z z) z)) (N o52 (N vH (N zEn z z) z) (N nI (N zDk z z) z))) (N o28 (N o44 (N o76 (N zEu z z) z) (N nQ (N zDs z z) z)) (N o60 (N uY (N zEg z z) z) (N zZ (N (zS P) z z) z))))) (N (boot_o_6 P) (N (boot_o_10 P) (N o18 (N o34 (N o66 (N (zFe P) z z) z) (N uS (N zEb z z) z)) (N o50 (N pB (N zEp z z) z) (N nK (N zDm z z) z))) (N o26 (N o42 (N o74 (N zEw z z) z) (N nS (N zDt z z) z)) (N o58 (N vA (N zEi z z) z) (N zAb (N zDe z z) z)))) (N o14 (N o22 (N o38 (N o70 (N zFa z z) z) (N nX (N zDx z z) z)) (N o54 (N vF (N zV z z) z) (N nG (N zDi z z) z))) (N o30 (N o46 (N o78 (N zEs z z) z) (N nO (N zDq z z) z)) (N o62 (N uW (N zEf z z) z) (N xA (N zDc z z) z)))))))
noncomputable def X15 (w : World) (os : OsState) : SharedT := ⟨T15 w.params, 194, lf, #[], dr, 2407, os⟩
noncomputable def zBm (P : Params) : Obj := oD [E P "__name__" 165 (S "law_rl0136_01" 2416), E P "__doc__" 166 (.none), E P "__package__" 167 (.none), E P "__loader__" 168 (.builtin "__main__.__loader__#opaque"), E P "__spec__" 169 (.none), E P "__annotations__" 170 (.ref 6), E P "__builtins__" 171 (.ref 4), E P "__file__" 173 (S "/claim/cut.py" 172), E P "__cached__" 174 (.none), E P "_wall" 193 (.ref 21), E P "_DIV_LIMIT" 197 (.int 4000 196), E P "_div2n1n" 214 (.ref 28), E P "_div3n2n" 228 (.ref 35), E P "_int2digits" 239 (.ref 42), E P "_digits2int" 250 (.ref 49), E P "_divmod_pos" 265 (.ref 56), E P "int_divmod" 275 (.ref 63), E P "b1_set" 337 (.ref 71), E P "in_table_b1" 344 (.ref 81), E P "b3_exceptions" 2295 (.ref 82), E P "map_table_b3" 2303 (.ref 127), E P "Whitespace" 2406 (.ref 189), E P "format_witnesses" 2415 (.ref 200), E P "_law_sign" 2431 (.ref 207), E P "_law_ways" 2437 (.ref 212), E P "_law_times" 2448 (.ref 219), E P "_law_column" 2458 (.ref 226), E P "_law_runs" 2464 (.ref 231), E P "law" 2470 (.ref 236)] 29
noncomputable def wZ : Obj := oF [I 1, I 0, .ref 20, I 6, I 0, .ref 27, I 22, I 0, .ref 34, I 32, I 0, .ref 41, I 48, I 0, .ref 48, I 57, I 0, .ref 55, I 68, I 0, .ref 62, I 81, I 0, .ref 80, I 84, I 0, .ref 126, I 90, I 0, .ref 133, I 143, I 0, .ref 199, I 150, I 0, .ref 206, I 165, I 0, .ref 211, I 171, I 0, .ref 218, I 180, I 0, .ref 225, I 185, I 0, .ref 230, I 190, I 0, .ref 235]
noncomputable def zHx : Obj := oT0
noncomputable def zHw : Obj := oF []
noncomputable def zHv : Obj := oT [S "w" 2410, S "firsts" 2411, S "prefix" 2412]
noncomputable def zHu : Obj := oT0
noncomputable def zHt : Obj := oND 16 "format_witnesses"
noncomputable def sB : Obj := oC "code" [S "format_witnesses" 2407, S "format_witnesses" 2408, S "/claim/cut.py" 2409, I 143, I 1, I 0, I 0, I 3, .ref 194, .bool true, I 181, .ref 195, .none, .ref 196, .ref 197, .ref 198, I 2413, I 143, S "/claim/cut.py" 2414]
noncomputable def zHs : Obj := oUD 16 "format_witnesses" (S "cpy313.tabnanny" 2304) (.ref 199)
noncomputable def zHr : Obj := oT0
noncomputable def zHq : Obj := oF []
noncomputable def zHp : Obj := oT [S "number" 2421, S "family" 2422, S "kind" 2423, S "which" 2424, S "small" 2425, S "alphabet" 2426, S "double" 2427, S "codes" 2428]
noncomputable def zHo : Obj := oT0
noncomputable def zHn : Obj := oND 18 "_law_sign"
noncomputable def zCy : Obj := oC "code" [S "_law_sign" 2418, S "_law_sign" 2419, S "/claim/cut.py" 2420, I 150, I 2, I 0, I 0, I 3, .ref 201, .bool true, I 181, .ref 202, .none, .ref 203, .ref 204, .ref 205, I 2429, I 150, S "/claim/cut.py" 2430]
noncomputable def zHm : Obj := oUD 18 "_law_sign" (S "law_rl0136_01" 2416) (.ref 206)
noncomputable def zHl : Obj := oT0
noncomputable def zHk : Obj := oF []
noncomputable def zHj : Obj := oND 19 "_law_ways"
noncomputable def zCx : Obj := oC "code" [S "_law_ways" 2432, S "_law_ways" 2433, S "/claim/cut.py" 2434, I 165, I 4, I 0, I 0, I 3, .ref 208, .bool true, I 181, .ref 209, .none, .none, .none, .ref 210, I 2435, I 165, S "/claim/cut.py" 2436]
noncomputable def zHi : Obj := oUD 19 "_law_ways" (S "law_rl0136_01" 2416) (.ref 211)
noncomputable def zHh : Obj := oT0
noncomputable def zHg : Obj := oF []
noncomputable def zHf : Obj := oT [S "book" 2441, S "line" 2442, S "times" 2443, S "quotient" 2444, S "rest" 2445]
noncomputable def zHe : Obj := oT0
noncomputable def zHd : Obj := oND 20 "_law_times"
noncomputable def zCw : Obj := oC "code" [S "_law_times" 2438, S "_law_times" 2439, S "/claim/cut.py" 2440, I 171, I 2, I 0, I 0, I 3, .ref 213, .bool true, I 181, .ref 214, .none, .ref 215, .ref 216, .ref 217, I 2446, I 171, S "/claim/cut.py" 2447]
noncomputable def zHc : Obj := oUD 20 "_law_times" (S "law_rl0136_01" 2416) (.ref 218)
noncomputable def zHb : Obj := oT0
noncomputable def zHa : Obj := oF []
noncomputable def zGz : Obj := oT [S "lead" 2452, S "size" 2453, S "column" 2454, S "sign" 2455]
noncomputable def zGy : Obj := oT0
noncomputable def zGx : Obj := oND 21 "_law_column"
noncomputable def zCv : Obj := oC "code" [S "_law_column" 2449, S "_law_column" 2450, S "/claim/cut.py" 2451, I 180, I 2, I 0, I 0, I 3, .ref 220, .bool true, I 181, .ref 221, .none, .ref 222, .ref 223, .ref 224, I 2456, I 180, S "/claim/cut.py" 2457]
noncomputable def zGw : Obj := oUD 21 "_law_column" (S "law_rl0136_01" 2416) (.ref 225)
noncomputable def zGv : Obj := oT0
noncomputable def zGu : Obj := oF []
noncomputable def zGt : Obj := oND 22 "_law_runs"
noncomputable def zCu : Obj := oC "code" [S "_law_runs" 2459, S "_law_runs" 2460, S "/claim/cut.py" 2461, I 185, I 1, I 0, I 0, I 3, .ref 227, .bool true, I 181, .ref 228, .none, .none, .none, .ref 229, I 2462, I 185, S "/claim/cut.py" 2463]
noncomputable def zGs : Obj := oUD 22 "_law_runs" (S "law_rl0136_01" 2416) (.ref 230)
noncomputable def zGr : Obj := oT0
noncomputable def zGq : Obj := oF []
noncomputable def zGp : Obj := oND 23 "law"
noncomputable def zCt : Obj := oC "code" [S "law" 2465, S "law" 2466, S "/claim/cut.py" 2467, I 190, I 1, I 0, I 0, I 3, .ref 232, .bool true, I 181, .ref 233, .none, .none, .none, .ref 234, I 2468, I 190, S "/claim/cut.py" 2469]
noncomputable def zGo : Obj := oUD 23 "law" (S "law_rl0136_01" 2416) (.ref 235)
noncomputable def T23 (P : Params) : BT := (N (boot_o_0 P) (N (boot_o_1 P) (N (zBm P) (N (boot_o_7 P) (N o15 (N o31 (N o63 (N zX z z) (N zDb z z)) (N uV (N zEe z z) (N zGy z z))) (N o47 (N o79 (N zW z z) (N zHm z z)) (N nN (N zDp z z) z))) (N o23 (N o39 (N (ob1 P) (N zEz z z) (N sB z z)) (N nW (N zDw z z) (N zGs z z))) (N o55 (N vD (N zEl z z) (N zHf z z)) (N nF (N zDh z z) z)))) (N o11 (N o19 (N o35 (N o67 (N zFd z z) (N zHw z z)) (N uR (N zEa z z) (N zGv z z))) (N o51 (N vI (N zEo z z) (N zCx z z)) (N nJ (N zDl z z) z))) (N o27 (N o43 (N o75 (N zEv z z) (N zHp z z)) (N nR (N zT z z) (N zCt z z))) (N o59 (N uZ (N zEh z z) (N zHc z z)) (N zAa (N zDd z z) z))))) (N (boot_o_5 P) (N (boot_o_9 P) (N o17 (N o33 (N o65 (N zFh z z) (N zCz z z)) (N uT (N zEc z z) (N zCv z z))) (N o49 (N o81 (N zEq z z) (N zHk z z)) (N nL (N zDn z z) z))) (N o25 (N o41 (N o73 (N zEx z z) (N zHr z z)) (N nU (N zDu z z) (N zGq z z))) (N o57 (N vB (N zEj z z) (N zHd z z)) (N zAc (N zDf z z) z)))) (N o13 (N o21 (N o37 (N o69 (N zFb z z) (N zHu z z)) (N nY (N zDy z z) (N zGt z z))) (N o53 (N vG (N zEm z z) (N zHh z z)) (N nH (N zDj z z) z))) (N o29 (N o45 (N o77 (N zEt z z) (N zHn z z)) (N nP (N zDr z z) z)) (N o61 (N uX (N zU z z) (N zHa z z)) (N zY (N zR z z) z)))))) (N (boot_o_2 P) (N (boot_o_4 P) (N (boot_o_8 P) (N o16 (N o32 (N o64 (N zFi z z) (N zDa z z)) (N uU (N zEd z z) (N zGx z z))) (N o48 (N o80 (N zEr z z) (N zHl z z)) (N nM (N zDo z z) z))) (N o24 (N o40 (N o72 (N zEy z z) (N zHs z z)) (N nV (N zDv z z) (N zGr z z))) (N o56 (N vC (N zEk z z) (N zHe z z)) (N jD (N zDg z z) z)))) (N wZ (N o20 (N o36 (N o68 (N zFc z z) (N zHv z z)) (N nZ (N zDz z z) (N zGu z z))) (N o52 (N vH (N zEn z z) (N zHi z z)) (N nI (N zDk z z) z))) (N o28 (N o44 (N o76 (N zEu z z) (N zHo z z)) (N nQ (N zDs z z) (N zGo z z))) (N o60 (N uY (N zEg z z) (N zHb z z)) (N zZ (N (zS P) z z) z))))) (N (boot_o_6 P) (N (boot_o_10 P) (N o18 (N o34 (N o66 (N (zFe P) z z) (N zHx z z)) (N uS (N zEb z z) (N zGw z z))) (N o50 (N pB (N zEp z z) (N zHj z z)) (N nK (N zDm z z) z))) (N o26 (N o42 (N o74 (N zEw z z) (N zHq z z)) (N nS (N zDt z z) (N zGp z z))) (N o58 (N vA (N zEi z z) (N zCw z z)) (N zAb (N zDe z z) z)))) (N o14 (N o22 (N o38 (N o70 (N zFa z z) (N zHt z z)) (N nX (N zDx z z) (N zCu z z))) (N o54 (N vF (N zV z z) (N zHg z z)) (N nG (N zDi z z) z))) (N o30 (N o46 (N o78 (N zEs z z) (N zCy z z)) (N nO (N zDq z z) z)) (N o62 (N uW (N zEf z z) (N zGz z z)) (N xA (N zDc z z) z)))))))
noncomputable def X23 (w : World) (os : OsState) : SharedT := ⟨T23 w.params, 237, lf, #[], dr, 2471, os⟩
set_option maxRecDepth 100000
theorem zGg : ∀ w : World, (fun os : OsState => segRunT treeTable pw w 11 (some (.ref 6)) 1 30 (X10 w os) (piecesOf (sts 11 1) env cE ⟨80, 0, 80, 6⟩ B)) = fun os => some (.next, X11 w os, cE, ⟨81, 0, 82, 30⟩) := by
  rw [show @segRunT = _ from PySem.W.Fast.te10110043849684766642, show treeTable = _ from PySem.W.Fast.te14364793385576792824]
  intro w
  kernel_rfl
theorem zGe : ∀ w : World, (fun os : OsState => segRunT treeTable pw w 11 (some (.ref 6)) 1 60 (X12 w os) (piecesOf (sts 13 2) env cE ⟨83, 0, 83, 13⟩ B)) = fun os => some (.next, X14 w os, cE, ⟨89, 0, 89, 8⟩) := by
  rw [show @segRunT = _ from PySem.W.Fast.te10110043849684766642, show treeTable = _ from PySem.W.Fast.te14364793385576792824]
  intro w
  kernel_rfl
theorem zGd : ∀ w : World, (fun os : OsState => segRunT treeTable pw w 11 (some (.ref 6)) 1 494 (X14 w os) (piecesOf (sts 15 1) env cE ⟨89, 0, 89, 8⟩ B)) = fun os => some (.next, X15 w os, cE, ⟨90, 0, 142, 16⟩) := by
  rw [show @segRunT = _ from PySem.W.Fast.te10110043849684766642, show treeTable = _ from PySem.W.Fast.te14364793385576792824]
  refine byRow2 "special-get-raises" ?_ ?_
  · intro w
    kernel_rfl
  · intro w
    kernel_rfl
theorem zGc : ∀ w : World, (fun os : OsState => segRunT treeTable pw w 11 (some (.ref 6)) 1 290 (X15 w os) (piecesOf (sts 16 8) env cE ⟨90, 0, 142, 16⟩ B)) = fun os => some (.next, X23 w os, cE, ⟨190, 0, 217, 115⟩) := by
  rw [show @segRunT = _ from PySem.W.Fast.te10110043849684766642, show treeTable = _ from PySem.W.Fast.te14364793385576792824]
  intro w
  kernel_rfl
end
end Top
end
section
namespace Top
noncomputable def aR (w : World) (n : Nat) (s : Shared) (p : Pos) {α : Type} (x : Sem α) (s' : Shared) (p' : Pos) (y : Sem α) : Prop :=
  ∀ (K : α → Sem Fin) (H : Value → Sem Fin) (gd : Bool → Bool) (lv : List Value → List Value),
    segGo treeTable pw w 11 (some (.ref 6)) 1 n s ⟨x.wrap K H gd lv, cE, p, B⟩ = some (s', ⟨y.wrap K H gd lv, cE, p', B⟩)
theorem mY {tb : String → Option Builtin} {p : Program} {w : World} {n₀ : Nat} {ann : Option Value} {b : Nat} : ∀ {n m : Nat} {s s' : Shared} {t t' : Thread} {r : Option (Shared × Thread)}, segGo tb p w n₀ ann b n s t = some (s', t') →
    segGo tb p w n₀ ann b m s' t' = r → segGo tb p w n₀ ann b (n + m) s t = r
  | 0, m, s, s', t, t', r, h, k => by
    obtain ⟨rfl, rfl⟩ : s = s' ∧ t = t' := by simpa [segGo] using h
    rw [Nat.zero_add]; exact k
  | n + 1, m, s, s', t, t', r, h, k => by
    rw [show n + 1 + m = n + m + 1 by exact Nat.add_right_comm n 1 m]
    unfold segGo at h ⊢
    cases he : endAt b t with
    | some f => rw [he] at h; cases h
    | none =>
      rw [he] at h
      cases hk : stepOk n₀ ann t with
      | false => rw [hk] at h; cases h
      | true =>
        rw [hk] at h
        cases hs : step (denote tb) p w s t with
        | halt o s₂ => rw [hs] at h; cases h
        | go s₂ t₂ => rw [hs] at h; exact mY h k
section
variable {w : World} {s s' s'' : Shared} {p p' p'' : Pos} {α β : Type} {n m : Nat}
theorem aR.refl {x : Sem α} : aR w 0 s p x s p x := fun _ _ _ _ => rfl
theorem aR.trans {x y z : Sem α} (h : aR w n s p x s' p' y) (k : aR w m s' p' y s'' p'' z) : aR w (n + m) s p x s'' p'' z := fun K H gd lv => mY (h K H gd lv) (k K H gd lv)
theorem aR.bind {x y : Sem α} {f : α → Sem β} (h : aR w n s p x s' p' y) : aR w n s p (x >>= f) s' p' (y >>= f) := fun K H gd lv => by
  rw [Sem.bind_eq_wrap', Sem.bind_eq_wrap', Sem.wrap_wrap, Sem.wrap_wrap]
  exact h _ _ _ _
theorem aR.holding {vs : List Value} {x y : Sem α} (h : aR w n s p x s' p' y) : aR w n s p (holding vs x) s' p' (holding vs y) := fun K H gd lv => by
  unfold PySem.holding
  split
  · exact h K H gd lv
  · rw [Sem.keep_eq_wrap, Sem.keep_eq_wrap, Sem.wrap_wrap, Sem.wrap_wrap]
    exact h _ _ _ _
theorem aR.onRaise {x y : Sem α} {g : Value → Sem Unit} (h : aR w n s p x s' p' y) : aR w n s p (x.onRaise g) s' p' (y.onRaise g) := fun K H gd lv => by
  rw [Sem.onRaise_eq_wrap, Sem.onRaise_eq_wrap, Sem.wrap_wrap, Sem.wrap_wrap]
  exact h _ _ _ _
theorem pL {vs : List Value} {a : α} : holding vs (pure a : Sem α) = pure a := by
  unfold PySem.holding
  split <;> rfl
noncomputable abbrev aH (w : World) (n : Nat) (s : Shared) (p : Pos) {α : Type} (x : Sem α) (s' : Shared) (p' : Pos) (a : α) : Prop := aR w n s p x s' p' (pure a)
theorem aH.bind {x : Sem α} {a : α} {f : α → Sem β} {z : Sem β} (h : aH w n s p x s' p' a) (k : aR w m s' p' (f a) s'' p'' z) : aR w (n + m) s p (x >>= f) s'' p'' z := aR.trans (aR.bind h) k
theorem aH.holding {vs : List Value} {x : Sem α} {a : α} (h : aH w n s p x s' p' a) : aH w n s p (PySem.holding vs x) s' p' a := by
  have := aR.holding (vs := vs) h
  rw [pL] at this
  exact this
theorem aH.onRaise {x : Sem α} {a : α} {g : Value → Sem Unit} (h : aH w n s p x s' p' a) : aH w n s p (x.onRaise g) s' p' a := aR.onRaise h
theorem gX {a : Addr} {q : Option Value} {o : Obj} {k : Obj → Sem α} (h : s.heap.get? a = some o) : aR w 1 s p (.load a q k) s p (k o) := fun K H gd lv => by
  show segGo _ _ _ _ _ _ 1 s ⟨.load a q fun o => (k o).wrap K H gd lv, cE, p, B⟩ = _
  unfold segGo
  show (match step (denote treeTable) pw w s ⟨.load a q fun o => (k o).wrap K H gd lv, cE, p, B⟩ with
    | .go s' t' => segGo treeTable pw w 11 (some (.ref 6)) 1 0 s' t'
    | .halt _ _ => none) = _
  refine cps fun Pz kz => ?_
  obtain ⟨heap, gens, drawn, toks, os⟩ := s
  refine kz ?_; clear kz Pz
  simp only [step, h]
  rfl
theorem vS {a : Addr} {q : Option Value} {o : Obj} {f : Obj → Obj} {k : Unit → Sem α} (h : s.heap.get? a = some o) (ha : 11 ≤ a) : aR w 1 s p (.update a q f k) { s with heap := s.heap.update a f } p (k ()) := fun K H gd lv => by
  show segGo _ _ _ _ _ _ 1 s ⟨.update a q f fun o => (k o).wrap K H gd lv, cE, p, B⟩ = _
  have hok : stepOk 11 (some (.ref 6)) ⟨.update a q f fun o => (k o).wrap K H gd lv, cE, p, B⟩ = true := by
    show (true && (Nat.ble 11 a || a == mainNs || a == cStatics || (some (Value.ref 6)) == some (.ref a))) = true
    rw [Nat.ble_eq_true_of_le ha]
    rfl
  unfold segGo
  rw [hok]
  show (match step (denote treeTable) pw w s ⟨.update a q f fun o => (k o).wrap K H gd lv, cE, p, B⟩ with
    | .go s' t' => segGo treeTable pw w 11 (some (.ref 6)) 1 0 s' t'
    | .halt _ _ => none) = _
  refine cps fun Pz kz => ?_
  obtain ⟨heap, gens, drawn, toks, os⟩ := s
  refine kz ?_; clear kz Pz
  simp only [step, h]
  rfl
theorem rE {o : Obj} {k : Addr → Sem α} : aR w 1 s p (.alloc o k) { s with heap := s.heap.push o } p (k s.heap.objs.size) := fun K H gd lv => by
  refine cps fun Pz kz => ?_
  obtain ⟨heap, gens, drawn, toks, os⟩ := s
  refine kz ?_; clear kz Pz
  rfl
theorem tQ {t : String} {k : Unit → Sem α} : aR w 1 s p (.rule t k) s p (k ()) := fun K H gd lv => by
  refine cps fun Pz kz => ?_
  obtain ⟨heap, gens, drawn, toks, os⟩ := s
  refine kz ?_; clear kz Pz
  rfl
theorem xX {q : Pos} {k : Unit → Sem α} : aR w 1 s p (.at q k) s q (k ()) := fun K H gd lv => by
  refine cps fun Pz kz => ?_
  obtain ⟨heap, gens, drawn, toks, os⟩ := s
  refine kz ?_; clear kz Pz
  rfl
theorem rB {k : Tok → Sem α} : aR w 1 s p (.fresh k) { s with toks := s.toks + 1 } p (k s.toks) := fun K H gd lv => by
  refine cps fun Pz kz => ?_
  obtain ⟨heap, gens, drawn, toks, os⟩ := s
  refine kz ?_; clear kz Pz
  rfl
end
end Top
end
section
set_option maxRecDepth 100000
namespace Top
theorem xT : ∀ w : World, (fun (k : Int) (t : Nat) (heap : Heap) (gens : Array GenState) (drawn : Drawn) (toks : Nat) (os : OsState) (p : Pos) (K : Int → Sem Fin) (H : Value → Sem Fin) (gd : Bool → Bool) (lv : List Value → List Value) =>
    segGo treeTable pw w 11 (some (.ref 6)) 1 5 ⟨heap, gens, drawn, toks, os⟩ ⟨(pyHash (.int k t)).wrap K H gd lv, cE, p, B⟩) =
    fun k t heap gens drawn toks os p K H gd lv => some (⟨heap, gens, drawn, toks + 1, os⟩, ⟨(pyHashByItsType.reduced (rawHash k)).wrap K H gd lv, cE, p, B⟩) := by
  rw [show treeTable = _ from PySem.W.Fast.te14364793385576792824]
  refine byRow2 "special-get-raises" ?_ ?_
  · intro w
    kernel_rfl
  · intro w
    kernel_rfl
section
variable {w : World} {s s' s'' : Shared} {p p' p'' : Pos} {α β : Type} {n m : Nat}
theorem zAs {k : Int} {t : Nat} : aH w 5 s p (pyHash (.int k t)) { s with toks := s.toks + 1 } p (hashInt k) := fun K H gd lv => by
  refine cps fun Pz kz => ?_
  obtain ⟨heap, gens, drawn, toks, os⟩ := s
  refine kz ?_; clear kz Pz
  have h := congrFun (congrFun (congrFun (congrFun (congrFun (congrFun (congrFun (congrFun (congrFun (congrFun (congrFun (congrFun (xT w) k) t) heap) gens) drawn) toks) os) p) K) H) gd) lv
  have hr := rawHash_range k
  have e : pyHashByItsType.reduced (rawHash k) = pure (hashInt k) := by
    show (if (decide (-(2 : Int) ^ 63 ≤ rawHash k) && decide (rawHash k < 2 ^ 63)) = true then _ else _) = _
    rw [if_pos (by rw [decide_eq_true hr.1, decide_eq_true hr.2]; rfl)]
    rfl
  rw [e] at h
  exact h
end
end Top
end
section
set_option maxRecDepth 100000
namespace Top
noncomputable def put (h : Heap) (a : Addr) (o : Obj) : Heap := h.update a fun _ => o
theorem jR {h : Heap} {a : Addr} {o o' : Obj} (e : h.get? a = some o) (hf : o'.isFreed = false) : (put h a o').get? a = some o' := Heap.get?_update_self _ e hf
theorem wU {h : Heap} {a b : Addr} {o' : Obj} (hab : b ≠ a) : (put h a o').get? b = h.get? b := Heap.get?_update_ne h b a _ hab
theorem lZ {α : Type} (xs : Array α) (i : Nat) (f g : α → α) : (xs.modify i f).modify i g = xs.modify i (g ∘ f) := by
  apply Array.ext_getElem?
  intro j
  simp only [Array.getElem?_modify]
  by_cases h : i = j <;> simp [h]
theorem gQ {h : Heap} {a : Addr} {o o' : Obj} : put (put h a o) a o' = put h a o' := by
  show Heap.mk _ _ = Heap.mk _ _
  exact congrArg (Heap.mk · _) (lZ h.objs a _ _)
theorem rT {h : Heap} {a : Addr} {o : Obj} {f : Obj → Obj} (e : h.get? a = some o) : h.update a f = put h a (f o) := by
  obtain ⟨e1, _⟩ := Heap.get?_some_iff.mp e
  have : h.objs.modify a f = h.objs.modify a fun _ => f o := by
    apply Array.ext_getElem?
    intro j
    simp only [Array.getElem?_modify]
    by_cases h : a = j
    · subst h; simp [e1]
    · simp [h]
  exact congrArg (Heap.mk · _) this
section
variable {w : World} {s s' s'' : Shared} {p p' p'' : Pos} {α β : Type} {n m : Nat} {d : Addr} {es : List DictEntry} {ep : Nat}
theorem eA {q : Option Value} (h : s.heap.get? d = some (D es ep)) : aH w 1 s p (dictEntries d q) s p ⟨es⟩ := aR.bind (gX h)
theorem rD {q : Option Value} (h : s.heap.get? d = some (D es ep)) : aH w 1 s p (dictEpoch d q) s p ep := aR.bind (gX h)
theorem tU {k : Int} {t : Nat} {hh : Int} (h : s.heap.get? d = some (D es ep)) (hn : ∀ e ∈ es, e.hash ≠ hh) : aH w 1 s p (dictFind d (.int k t) hh) s p none := by
  unfold dictFind
  refine aH.holding (aH.bind (m := 0) (eA h) ?_)
  have e1 : placesWithHash (Array.mk es).size (fun i => (Array.mk es)[i]?.map (·.hash)) hh = [] := by
    unfold placesWithHash
    rw [List.filter_eq_nil_iff]
    intro i _ hi
    dsimp only at hi
    cases e : (Array.mk es)[i]? with
    | none => rw [e] at hi; simp at hi
    | some x =>
      rw [e] at hi
      have : x ∈ es := by
        have := Array.mem_of_getElem? e
        simpa using this
      exact hn x this (by simpa using hi)
  dsimp only
  rw [e1]
  exact aR.refl
theorem tR {e : DictEntry} {q : Option Value} (h : s.heap.get? d = some (D es ep)) (hd : 11 ≤ d) (hz : es.length ≤ sizeLine) :
    aH w 3 s p (updateDictKeys d (·.push e) q) { s with heap := put s.heap d (D (es ++ [e]) (ep + 1)) } p () := by
  unfold updateDictKeys
  refine aH.bind (n := 1) (m := 2) (gX h) ?_
  show aR w 2 s p (updatePart d q (Obj.mapDictKeys (·.push e)) >>= fun _ => lookBehind d q) _ p (pure ())
  refine aH.bind (n := 1) (m := 1) (vS h hd) ?_
  rw [rT h]
  have e2 : Obj.mapDictKeys (·.push e) (D es ep) = D (es ++ [e]) (ep + 1) := by
    show Obj.mk _ _ (.dict ((Array.mk es).push e) (ep + 1)) _ = _
    rw [show (Array.mk es).push e = Array.mk (es ++ [e]) from by simp]
    rfl
  rw [e2]
  unfold lookBehind
  refine aR.trans (n := 1) (m := 0) (aR.bind (gX (jR h rfl))) ?_
  have : (D (es ++ [e]) (ep + 1)).data.pastItsLine = none := by
    show (if (Array.mk (es ++ [e])).size > sizeLine + 1 then _ else _) = _
    rw [if_neg (by simp; walk_at "o")]
  change aR w 0 _ p (match (D (es ++ [e]) (ep + 1)).data.pastItsLine with | some what => unsupported what | x => pure ()) _ p _
  rw [this]
  exact aR.refl
theorem xU {k : Int} {t : Nat} {v : Value} (h : s.heap.get? d = some (D es ep)) (hd : 11 ≤ d) (hn : ∀ e ∈ es, e.hash ≠ hashInt k) (hz : es.length ≤ sizeLine) :
    aH w 10 s p (dictSet d (.int k t) v) { s with heap := put s.heap d (D (es ++ [⟨hashInt k, .int k t, v⟩]) (ep + 1)), toks := s.toks + 1 } p () := by
  unfold dictSet
  refine aH.holding (aH.bind (n := 5) (m := 5) zAs ?_)
  unfold dictSetHashed
  refine aH.holding (aH.bind (n := 1) (m := 4) (tU (s := { s with toks := s.toks + 1 }) h hn) ?_)
  exact aH.bind (n := 1) (m := 3) tQ (tR (s := { s with toks := s.toks + 1 }) h hd hz)
theorem zFq {k : Int} {t : Nat} {v : Value} {hh : Int} (h : s.heap.get? d = some (D es ep)) (hd : 11 ≤ d) (hn : ∀ e ∈ es, e.hash ≠ hh) (hz : es.length ≤ sizeLine) :
    aH w 4 s p (dictPut d hh (.int k t) v) { s with heap := put s.heap d (D (es ++ [⟨hh, .int k t, v⟩]) (ep + 1)) } p () := by
  unfold dictPut
  refine aH.bind (n := 1) (m := 3) (tU h hn) ?_
  exact tR h hd hz
end
end Top
end
section
set_option maxRecDepth 100000
namespace Top
structure pT (w : World) (q : Pos) (kv : Sem Value × Sem Value) (x : Int × Str) : Prop where
  k : ∀ s p, aH w 1 s p kv.1 { s with toks := s.toks + 1 } p (.int x.1 s.toks)
  v : ∀ s p, aH w 2 s p kv.2 { s with toks := s.toks + 1 } q (.str x.2 s.toks)
inductive bN (w : World) (q : Pos) : List (Sem Value × Sem Value) → List (Int × Str) → Prop where
  | nil : bN w q [] []
  | cons {kv : Sem Value × Sem Value} {x : Int × Str} {ps : List (Sem Value × Sem Value)} {l : List (Int × Str)} : pT w q kv x → bN w q ps l → bN w q (kv :: ps) (x :: l)
theorem bN.length {w : World} {q : Pos} {ps : List (Sem Value × Sem Value)} {l : List (Int × Str)} (h : bN w q ps l) : ps.length = l.length := by
  induction h with
  | nil => rfl
  | cons _ _ ih => simp [ih]
theorem eF : ∀ (a b : List (Int × Str)) (t : Nat), aG t (a ++ b) = aG t a ++ aG (t + 3 * a.length) b
  | [], b, t => by simp [aG]
  | x :: a, b, t => by simp only [List.cons_append, aG, eF a b, List.length_cons]; congr 3; omega
theorem aT : ∀ (a : List (Int × Str)) (t : Nat), (aG t a).length = a.length
  | [], _ => rfl
  | x :: a, t => by simp [aG, aT a]
theorem cU : ∀ (a : List (Int × Str)) (t : Nat), (aX t a).length = a.length
  | [], _ => rfl
  | x :: a, t => by simp [aX, cU a]
theorem eE : ∀ (a : List (Int × Str)) (t : Nat), (aG t a).map (·.hash) = a.map fun x => hashInt x.1
  | [], _ => rfl
  | x :: a, t => by simp [aG, eE a]
theorem lG : ∀ (a : List (Int × Str)) (t : Nat), (aX t a).map (·.hash) = a.map fun x => hashInt x.1
  | [], _ => rfl
  | x :: a, t => by simp [aX, lG a]
noncomputable def bJ (es : List DictEntry) (l : List (Int × Str)) : Prop := (es.map (·.hash) ++ l.map fun x => hashInt x.1).Nodup
theorem bJ.head {es : List DictEntry} {x : Int × Str} {l : List (Int × Str)} (h : bJ es (x :: l)) : ∀ e ∈ es, e.hash ≠ hashInt x.1 := fun e he hh => by
  have := (List.nodup_append.mp h).2.2 e.hash (List.mem_map.mpr ⟨e, he, rfl⟩) (hashInt x.1) (by simp)
  exact this hh
theorem bJ.tail {es : List DictEntry} {x : Int × Str} {l : List (Int × Str)} {e : DictEntry} (h : bJ es (x :: l)) (he : e.hash = hashInt x.1) : bJ (es ++ [e]) l := by
  unfold bJ at h ⊢
  rw [List.map_append, List.append_assoc]
  simpa [he] using h
theorem kH {h : Heap} {a : Addr} {o : Obj} (e : h.get? a = some o) : put h a o = h := by
  obtain ⟨e1, _⟩ := Heap.get?_some_iff.mp e
  have : (h.objs.modify a fun _ => o) = h.objs := by
    apply Array.ext_getElem?
    intro j
    simp only [Array.getElem?_modify]
    by_cases hj : a = j
    · subst hj; simp [e1]
    · simp [hj]
  show Heap.mk _ _ = h
  rw [this]
section
variable {w : World} {s s' s'' : Shared} {p p' p'' q : Pos} {α β : Type} {n m : Nat} {d : Addr} {es : List DictEntry} {ep : Nat}
theorem vU {i : Int} {u : Nat} {q : Pos} : aH w 1 s p (eval (.Constant (.int i) u q) env) { s with toks := s.toks + 1 } p (.int i s.toks) := rB
theorem vT {x : Str} {u : Nat} {q : Pos} : aH w 1 s p (eval (.Constant (.str x) u q) env) { s with toks := s.toks + 1 } p (.str x s.toks) := rB
theorem pT.of {i : Int} {x : Str} {u u' : Nat} {q1 q2 : Pos} : pT w q (eval (.Constant (.int i) u q1) env, (do let x ← eval (.Constant (.str x) u' q2) env; standAt q; pure x)) (i, x) :=
  ⟨fun s p => vU (u := u) (q := q1), fun s p => aH.bind (n := 1) (m := 1) (vT (u := u') (q := q2)) xX⟩
theorem tV {q : Pos} (hd : 11 ≤ d) : ∀ {ps : List (Sem Value × Sem Value)} {l : List (Int × Str)}, bN w q ps l → ∀ {s : Shared} {es : List DictEntry} {ep : Nat}, s.heap.get? d = some (D es ep) → bJ es l → es.length + l.length ≤ sizeLine →
    aH w (13 * l.length) s q (forIn ps PUnit.unit fun (kv : Sem Value × Sem Value) _ => do
        let a ← kv.1
        let b ← holding [a] kv.2
        holding [a, b] (dictSet d a b)
        pure (ForInStep.yield PUnit.unit)) { s with heap := put s.heap d (D (es ++ aG s.toks l) (ep + l.length)), toks := s.toks + 3 * l.length } q PUnit.unit
  | _, _, .nil, s, es, ep, h, ha, hz => by
    have : ({ s with heap := put s.heap d (D (es ++ aG s.toks []) (ep + 0)), toks := s.toks + 0 } : Shared) = s := by
      simp only [aG, List.append_nil, Nat.add_zero]
      rw [kH h]
    show aH w 0 s q _ ({ s with heap := put s.heap d (D (es ++ aG s.toks []) (ep + 0)), toks := s.toks + 0 } : Shared) q PUnit.unit
    rw [this]
    exact aR.refl
  | kv :: ps, x :: l, .cons hx hl, s, es, ep, h, ha, hz => by
    have hlen : es.length + 1 + l.length ≤ sizeLine := by simpa [Nat.add_assoc, Nat.add_comm 1] using hz
    rw [List.forIn_cons]
    have step := aH.bind (n := 1) (m := 12) (f := fun a => (do
        let b ← holding [a] kv.2
        holding [a, b] (dictSet d a b)
        pure (ForInStep.yield PUnit.unit) : Sem (ForInStep PUnit))) (hx.k s q) (aH.bind (n := 2) (m := 10) (aH.holding (hx.v { s with toks := s.toks + 1 } q))
      (aH.bind (n := 10) (m := 0) (aH.holding (xU (s := { s with toks := s.toks + 1 + 1 }) (k := x.1) (t := s.toks) (v := .str x.2 (s.toks + 1)) h hd ha.head (by exact Nat.le_of_add_right_le hz))) aR.refl))
    have rest := tV hd hl (s := { s with heap := put s.heap d (D (es ++ [⟨hashInt x.1, .int x.1 s.toks, .str x.2 (s.toks + 1)⟩]) (ep + 1)), toks := s.toks + 1 + 1 + 1 }) (jR h rfl) (ha.tail rfl) (by simp; exact hlen)
    have e : 13 * (x :: l).length = 13 + 13 * l.length := by rw [List.length_cons]; omega
    rw [e]
    refine aH.bind (n := 13) (m := 13 * l.length) step ?_
    have e2 : ({ s with heap := put s.heap d (D (es ++ aG s.toks (x :: l)) (ep + (x :: l).length)), toks := s.toks + 3 * (x :: l).length } : Shared) =
        { ({ s with heap := put s.heap d (D (es ++ [⟨hashInt x.1, .int x.1 s.toks, .str x.2 (s.toks + 1)⟩]) (ep + 1)), toks := s.toks + 1 + 1 + 1 } : Shared) with
          heap := put (put s.heap d (D (es ++ [⟨hashInt x.1, .int x.1 s.toks, .str x.2 (s.toks + 1)⟩]) (ep + 1))) d (D (es ++ [⟨hashInt x.1, .int x.1 s.toks, .str x.2 (s.toks + 1)⟩] ++ aG (s.toks + 1 + 1 + 1) l) (ep + 1 + l.length)), toks := s.toks + 1 + 1 + 1 + 3 * l.length } := by
      have a1 : es ++ aG s.toks (x :: l) = es ++ [⟨hashInt x.1, .int x.1 s.toks, .str x.2 (s.toks + 1)⟩] ++ aG (s.toks + 1 + 1 + 1) l := by rw [List.append_assoc]; rfl
      have a2 : ep + (x :: l).length = ep + 1 + l.length := by rw [List.length_cons]; exact Eq.symm (Nat.succ_add_eq_add_succ ep l.length)
      have a3 : s.toks + 3 * (x :: l).length = s.toks + 1 + 1 + 1 + 3 * l.length := by rw [List.length_cons]; omega
      rw [gQ, a1, a2, a3]
    rw [e2]
    exact rest
end
end Top
end
section
set_option maxRecDepth 100000
namespace Top
theorem qL {h : Heap} {o o' : Obj} : put (h.push o) h.objs.size o' = h.push o' := by
  have : (h.objs.push o).modify h.objs.size (fun _ => o') = h.objs.push o' := by
    apply Array.ext_getElem?
    intro j
    simp only [Array.getElem?_modify, Array.getElem?_push]
    by_cases hj : h.objs.size = j
    · subst hj; simp
    · simp [hj, Ne.symm hj]
  show Heap.mk _ _ = Heap.mk _ _
  exact congrArg (Heap.mk · _) this
section
variable {w : World} {s s' s'' : Shared} {p p' p'' q : Pos} {α β : Type} {n m : Nat} {d : Addr} {es : List DictEntry} {ep : Nat}
theorem tO {ps : List (Sem Value × Sem Value)} {l : List (Int × Str)} (hp : bN w q ps l) (hl : 15 < l.length) (ha : bJ [] l) (hz : l.length ≤ sizeLine) (hs : 11 ≤ s.heap.objs.size) :
    aH w (1 + (1 + 13 * l.length)) s q (subDict ps) { s with heap := s.heap.push (D (aG s.toks l) l.length), toks := s.toks + 3 * l.length } q s.heap.objs.size := by
  unfold subDict
  refine aH.bind (n := 1) (m := 1 + 13 * l.length) rE ?_
  refine aH.bind (n := 1 + 13 * l.length) (m := 0) (aH.holding (a := PUnit.unit) (s' := { s with heap := s.heap.push (D (aG s.toks l) l.length), toks := s.toks + 3 * l.length }) ?_) aR.refl
  rw [if_neg (by rw [hp.length]; exact Nat.not_le_of_lt hl)]
  refine aH.bind (n := 1) (m := 13 * l.length) tQ ?_
  have h0 : (s.heap.push (D [] 0)).get? s.heap.objs.size = some (D [] 0) := Heap.get?_push_size _ rfl
  have := tV (w := w) (q := q) hs hp (s := { s with heap := s.heap.push (D [] 0) }) h0 ha (by simpa using hz)
  simp only [List.nil_append, Nat.zero_add, qL] at this
  exact aH.bind (m := 0) this aR.refl
noncomputable def sS : Nat → List (Int × Str) → List (Value × Value)
  | _, [] => []
  | t, x :: l => (.int x.1 t, .str x.2 (t + 1)) :: sS (t + 2) l
theorem rA : ∀ {ps : List (Sem Value × Sem Value)} {l : List (Int × Str)}, bN w q ps l → ∀ {s : Shared}, aH w (3 * l.length) s q (evalPairs ps) { s with toks := s.toks + 2 * l.length } q (sS s.toks l)
  | _, _, .nil, s => aR.refl
  | kv :: ps, x :: l, .cons hx hl, s => by
    have e : 3 * (x :: l).length = 1 + (2 + (3 * l.length + 0)) := by rw [List.length_cons]; omega
    have e2 : s.toks + 2 * (x :: l).length = s.toks + 1 + 1 + 2 * l.length := by rw [List.length_cons]; omega
    rw [e, e2]
    unfold evalPairs
    refine aH.bind (n := 1) (m := 2 + (3 * l.length + 0)) (hx.k s q) ?_
    refine aH.bind (n := 2) (m := 3 * l.length + 0) (aH.holding (hx.v _ q)) ?_
    refine aH.bind (n := 3 * l.length) (m := 0) (aH.holding (rA hl (s := { s with toks := s.toks + 1 + 1 }))) aR.refl
theorem tP (hd : 11 ≤ d) : ∀ {l : List (Int × Str)} {t : Nat} {s : Shared} {es : List DictEntry} {ep : Nat}, s.heap.get? d = some (D es ep) → bJ es l → es.length + l.length ≤ sizeLine →
    aH w (10 * l.length) s q (forIn (sS t l) PUnit.unit fun (kv : Value × Value) _ => do
        dictSet d kv.1 kv.2
        pure (ForInStep.yield PUnit.unit)) { s with heap := put s.heap d (D (es ++ aX t l) (ep + l.length)), toks := s.toks + l.length } q PUnit.unit
  | [], t, s, es, ep, h, ha, hz => by
    have : ({ s with heap := put s.heap d (D (es ++ aX t []) (ep + 0)), toks := s.toks + 0 } : Shared) = s := by
      simp only [aX, List.append_nil, Nat.add_zero]
      rw [kH h]
    show aH w 0 s q _ ({ s with heap := put s.heap d (D (es ++ aX t []) (ep + 0)), toks := s.toks + 0 } : Shared) q PUnit.unit
    rw [this]
    exact aR.refl
  | x :: l, t, s, es, ep, h, ha, hz => by
    have hlen : es.length + 1 + l.length ≤ sizeLine := by simpa [Nat.add_assoc, Nat.add_comm 1] using hz
    have e : 10 * (x :: l).length = 10 + 10 * l.length := by rw [List.length_cons]; omega
    rw [e, sS, List.forIn_cons]
    refine aH.bind (n := 10) (m := 10 * l.length) (aH.bind (n := 10) (m := 0) (xU (k := x.1) (t := t) (v := .str x.2 (t + 1)) h hd ha.head (by exact Nat.le_of_add_right_le hz)) aR.refl) ?_
    have rest := tP hd (l := l) (t := t + 2) (s := { s with heap := put s.heap d (D (es ++ [⟨hashInt x.1, .int x.1 t, .str x.2 (t + 1)⟩]) (ep + 1)), toks := s.toks + 1 }) (jR h rfl) (ha.tail rfl) (by simp; walk_at "o")
    have e2 : ({ s with heap := put s.heap d (D (es ++ aX t (x :: l)) (ep + (x :: l).length)), toks := s.toks + (x :: l).length } : Shared) =
        { ({ s with heap := put s.heap d (D (es ++ [⟨hashInt x.1, .int x.1 t, .str x.2 (t + 1)⟩]) (ep + 1)), toks := s.toks + 1 } : Shared) with
          heap := put (put s.heap d (D (es ++ [⟨hashInt x.1, .int x.1 t, .str x.2 (t + 1)⟩]) (ep + 1))) d (D (es ++ [⟨hashInt x.1, .int x.1 t, .str x.2 (t + 1)⟩] ++ aX (t + 2) l) (ep + 1 + l.length)), toks := s.toks + 1 + l.length } := by
      have a1 : es ++ aX t (x :: l) = es ++ [⟨hashInt x.1, .int x.1 t, .str x.2 (t + 1)⟩] ++ aX (t + 2) l := by rw [List.append_assoc]; rfl
      have a2 : ep + (x :: l).length = ep + 1 + l.length := by rw [List.length_cons]; exact Eq.symm (Nat.succ_add_eq_add_succ ep l.length)
      have a3 : s.toks + (x :: l).length = s.toks + 1 + l.length := by rw [List.length_cons]; exact Eq.symm (Nat.succ_add_eq_add_succ s.toks l.length)
      rw [gQ, a1, a2, a3]
    rw [e2]
    exact rest
theorem zAr {ps : List (Sem Value × Sem Value)} {l : List (Int × Str)} (hp : bN w q ps l) (hl : l.length ≤ 15) (ha : bJ [] l) (hs : 11 ≤ s.heap.objs.size) :
    aH w (1 + (3 * l.length + 10 * l.length)) s q (subDict ps) { s with heap := s.heap.push (D (aX s.toks l) l.length), toks := s.toks + 2 * l.length + l.length } q s.heap.objs.size := by
  unfold subDict
  refine aH.bind (n := 1) (m := 3 * l.length + 10 * l.length) rE ?_
  refine aH.bind (n := 3 * l.length + 10 * l.length) (m := 0) (aH.holding (a := PUnit.unit) (s' := { s with heap := s.heap.push (D (aX s.toks l) l.length), toks := s.toks + 2 * l.length + l.length }) ?_) aR.refl
  rw [if_pos (by rw [hp.length]; walk_at "o")]
  refine aH.bind (n := 3 * l.length) (m := 10 * l.length) (rA hp) (aH.holding ?_)
  have h0 : (s.heap.push (D [] 0)).get? s.heap.objs.size = some (D [] 0) := Heap.get?_push_size _ rfl
  have hz : l.length ≤ sizeLine := Nat.le_trans hl (by decide)
  have := tP (w := w) (q := q) hs (l := l) (t := s.toks) (s := { s with heap := s.heap.push (D [] 0), toks := s.toks + 2 * l.length }) h0 ha (by simpa using hz)
  simp only [List.nil_append, Nat.zero_add, qL] at this
  exact aH.bind (m := 0) this aR.refl
theorem wP : isSubtype (.type "dict") (.type "dict") = pure true := by
  rw [isSubtype_type]; kernel_rfl
theorem vM : typeLookup (.type "dict") "__iter__" = pure (some (.builtin "dict.__iter__")) := by
  rw [typeLookup_type, builtinLookup_eq_fast]; kernel_rfl
theorem oK {a : Addr} {fs : List DictEntry} {fp : Nat} (h : s.heap.get? a = some (D fs fp)) : aH w 1 s p (typeOf (.ref a)) s p (.type "dict") := aR.bind (gX h)
theorem xV {bd : Nat → PUnit → Sem (ForInStep PUnit)} (St : Nat → Shared) (c n : Nat) (h : ∀ i, i < n → aH w c (St i) p (bd i PUnit.unit) (St (i + 1)) p (ForInStep.yield PUnit.unit)) :
    aH w (c * n) (St 0) p (forIn (List.range n) PUnit.unit bd) (St n) p PUnit.unit := by
  have gen : ∀ (m i : Nat), i + m = n → aH w (c * m) (St i) p (forIn (List.range' i m) PUnit.unit bd) (St n) p PUnit.unit := by
    intro m
    induction m with
    | zero =>
      intro i e
      have : i = n := by exact e
      subst this
      exact aR.refl
    | succ m ih =>
      intro i e
      rw [List.range'_succ, List.forIn_cons, show c * (m + 1) = c + c * m by rw [Nat.mul_succ]; exact Nat.add_comm (c * m) c]
      exact aH.bind (h i (by omega)) (ih (i + 1) (by omega))
  have := gen n 0 (by exact Nat.zero_add n)
  rwa [← List.range_eq_range'] at this
theorem xW {a : Addr} {fs : List DictEntry} {fp : Nat} (h : s.heap.get? d = some (D es ep)) (hf : s.heap.get? a = some (D fs fp)) (hne : a ≠ d) (hes : es ≠ []) (hsm : (a == sysModules) = false) (hd : 11 ≤ d)
    (hk : ∀ e ∈ fs, ∃ k t, e.key = .int k t) (ha : (es.map (·.hash) ++ fs.map (·.hash)).Nodup) (hz : es.length + fs.length ≤ sizeLine) :
    aH w (5 + 6 * fs.length) s p (mergeMapping d (.ref a) false) { s with heap := put s.heap d (D (es ++ fs) (ep + fs.length)) } p () := by
  unfold mergeMapping
  have hi : aH w 1 s p (isInstance (.ref a) (.type "dict")) s p true := by
    unfold isInstance
    refine aH.bind (n := 1) (m := 0) (oK hf) ?_
    rw [wP]; exact aR.refl
  have hsp : aH w 1 s p (specialOf (.ref a) "__iter__") s p (some (.builtin "dict.__iter__")) := by
    unfold specialOf
    refine aH.bind (n := 1) (m := 0) (oK hf) ?_
    rw [vM]; exact aR.refl
  have e : 5 + 6 * fs.length = 1 + (1 + (0 + (1 + (1 + (1 + (6 * fs.length + 0)))))) := by omega
  rw [e]
  refine aH.bind (n := 1) hi ?_
  rw [if_pos rfl]
  refine aH.bind (n := 1) hsp ?_
  have hb : (some (Value.builtin "dict.__iter__") == some (Value.builtin "dict.__iter__")) = true := by simp
  rw [hb]
  refine aH.bind (n := 0) aR.refl ?_
  dsimp only
  rw [if_neg (by rw [hsm]; simp)]
  refine aH.bind (n := 1) (eA h) ?_
  have he : ((Array.mk es).isEmpty = true) = False := by
    cases es with
    | nil => exact absurd rfl hes
    | cons x l => simp
  rw [if_neg (by rw [he]; simp)]
  refine aH.bind (n := 1) (eA hf) ?_
  refine aH.bind (n := 1) (rD hf) ?_
  have St0 : ({ s with heap := put s.heap d (D (es ++ fs.take 0) (ep + 0)) } : Shared) = s := by
    simp only [List.take_zero, List.append_nil, Nat.add_zero]
    rw [kH h]
  refine aH.bind (n := 6 * fs.length) (m := 0) (a := PUnit.unit) ?_ aR.refl
  have := xV (w := w) (p := p) (fun i => { s with heap := put s.heap d (D (es ++ fs.take i) (ep + i)) }) 6 fs.length (bd := ?bd) (fun i hi => ?_)
  case bd => exact fun i __s => (do
    let es ← dictEntries a
    match es[i]? with
      | some e => do
        holding [e.key, e.val] (if false = true then (do
              let __do_lift ← dictFind d e.key e.hash
              if __do_lift.isSome = true then do
                  rule "dict.merge.duplicate-key"
                  let __do_lift ← newExc (Value.type "KeyError") [e.key]
                  raiseNew __do_lift
                  dictPut d e.hash e.key e.val
                else dictPut d e.hash e.key e.val)
            else dictPut d e.hash e.key e.val)
        let __do_lift ← dictEpoch a
        if (__do_lift != fp) = true then do
            unsupported "dict.changed-during-merge"
            pure (ForInStep.yield PUnit.unit)
          else pure (ForInStep.yield PUnit.unit)
      | x => do
        unsupported "dict.changed-during-merge"
        pure (ForInStep.yield PUnit.unit))
  · simp only [St0, List.take_length] at this
    exact this
  · have hg : ({ s with heap := put s.heap d (D (es ++ fs.take i) (ep + i)) } : Shared).heap.get? a = some (D fs fp) := (wU hne).trans hf
    have hg2 : (put s.heap d (D (es ++ fs.take i) (ep + i))).get? d = some (D (es ++ fs.take i) (ep + i)) := jR h rfl
    refine aH.bind (n := 1) (m := 5) (eA hg) ?_
    have hx : (Array.mk fs)[i]? = some fs[i] := by simp [hi]
    rw [hx]
    simp only [Bool.false_eq_true, if_false]
    refine fG (hk fs[i] (List.getElem_mem hi)) fun k t hkk => ?_
    have hap : ∀ e ∈ es ++ fs.take i, e.hash ≠ fs[i].hash := by
      intro e he hh
      refine bZ (List.nodup_append.mp ha) fun n1 n2 n3 => ?_
      rcases mA he with he | he
      · exact n3 e.hash (List.mem_map.mpr ⟨e, he, rfl⟩) fs[i].hash (List.mem_map.mpr ⟨_, List.getElem_mem hi, rfl⟩) hh
      · obtain ⟨j, hj, rfl⟩ := List.mem_take_iff_getElem.mp he
        have hj' : j < i := by omega
        have := List.pairwise_iff_getElem.mp n2 j i (by simp; exact Nat.lt_trans hj' hi) (by simpa using hi) hj'
        exact this (by simpa using hh)
    have hp := zFq (w := w) (p := p) (s := { s with heap := put s.heap d (D (es ++ fs.take i) (ep + i)) }) (k := k) (t := t) (v := fs[i].val) (hh := fs[i].hash) hg2 hd hap (by simp; omega)
    rw [← hkk] at hp
    refine aH.bind (n := 4) (m := 1) (aH.holding hp) ?_
    have e3 : (⟨fs[i].hash, fs[i].key, fs[i].val⟩ : DictEntry) = fs[i] := rfl
    rw [e3]
    have e4 : put (put s.heap d (D (es ++ fs.take i) (ep + i))) d (D (es ++ fs.take i ++ [fs[i]]) (ep + i + 1)) = put s.heap d (D (es ++ fs.take (i + 1)) (ep + (i + 1))) := by
      rw [gQ, List.append_assoc, ← List.take_succ_eq_append_getElem hi, Nat.add_assoc]
    show aR w 1 ({ s with heap := put (put s.heap d (D (es ++ fs.take i) (ep + i))) d (D (es ++ fs.take i ++ [fs[i]]) (ep + i + 1)) } : Shared) p _ _ p _
    rw [e4]
    refine aH.bind (n := 1) (m := 0) (rD (es := fs) (ep := fp) ((wU hne).trans hf)) ?_
    rw [if_neg (by simp)]
    exact aR.refl
end
end Top
end
section
set_option maxRecDepth 100000
namespace Top
noncomputable def hp (A : Array Obj) (l : Life) (m : Obj) (subs : List Obj) : Heap := ⟨A ++ (m :: subs).toArray, l⟩
section
variable {A : Array Obj} {l : Life} {m : Obj} {subs : List Obj}
theorem pK : (hp A l m subs).objs.size = A.size + 1 + subs.length := by
  show (A ++ (m :: subs).toArray).size = _
  simp; exact Eq.symm (Nat.succ_add_eq_add_succ A.size subs.length)
theorem zAo (hm : m.isFreed = false) : (hp A l m subs).get? A.size = some m := Heap.get?_some_iff.mpr ⟨by show (A ++ (m :: subs).toArray)[A.size]? = _; simp, hm⟩
theorem zAn {o : Obj} : (hp A l m subs).push o = hp A l m (subs ++ [o]) := by
  show Heap.mk ((A ++ (m :: subs).toArray).push o) l = Heap.mk _ l
  congr 1
  apply Array.toList_inj.mp
  simp
theorem zAp {o : Obj} (ho : o.isFreed = false) : (hp A l m (subs ++ [o])).get? (A.size + 1 + subs.length) = some o := Heap.get?_some_iff.mpr ⟨by
  show (A ++ (m :: (subs ++ [o])).toArray)[A.size + 1 + subs.length]? = _
  rw [Array.getElem?_append_right (by omega)]
  have : A.size + 1 + subs.length - A.size = subs.length + 1 := by omega
  rw [this]
  simp, ho⟩
theorem zFo {o : Obj} : put (hp A l m subs) A.size o = hp A l o subs := by
  show Heap.mk ((A ++ (m :: subs).toArray).modify A.size fun _ => o) l = Heap.mk _ l
  congr 1
  apply Array.ext_getElem?
  intro j
  simp only [Array.getElem?_modify]
  by_cases hj : A.size = j
  · subst hj; simp
  · rw [if_neg hj]
    by_cases h2 : j < A.size
    · rw [Array.getElem?_append_left h2, Array.getElem?_append_left h2]
    · rw [Array.getElem?_append_right (by exact Nat.le_of_not_lt h2), Array.getElem?_append_right (by exact Nat.le_of_not_lt h2)]
      have : j - A.size = (j - A.size - 1) + 1 := by omega
      rw [this]
      simp
end
noncomputable abbrev Prs := List (Sem Value × Sem Value)
noncomputable def eC (run : Prs) (main : Option Addr) : Sem (Option Addr) :=
  if run.isEmpty = true then pure main
  else match main with
    | none => do
      let d ← subDict run
      pure (some d)
    | some d => do
      let sub ← holding [Value.ref d] (subDict run)
      (holding [Value.ref d, Value.ref sub] (mergeMapping d (Value.ref sub) false)).onRaise fun x => do
          let _ ← holding [Value.ref d, x] (runValue (Code.builtin "proto.let_go" { }))
          pure ()
      pure (some d)
noncomputable def aK (ps : Prs) : List (Option (Sem Value) × Sem Value) := ps.map fun kv => (some kv.1, kv.2)
noncomputable def pR (bd : Option (Sem Value) × Sem Value → Option Addr × Prs → Sem (ForInStep (Option Addr × Prs))) : Prop :=
  ∀ k v main run, bd (some k, v) (main, run) = if ((run ++ [(k, v)]).length == 17) = true then (eC (run ++ [(k, v)]) main >>= fun m => pure (ForInStep.yield (m, []))) else pure (ForInStep.yield (main, run ++ [(k, v)]))
section
variable {bd : Option (Sem Value) × Sem Value → Option Addr × Prs → Sem (ForInStep (Option Addr × Prs))}
theorem iR (h : pR bd) : ∀ (ps : Prs) (run : Prs) (main : Option Addr) (rest : List (Option (Sem Value) × Sem Value)), run.length + ps.length < 17 → forIn (aK ps ++ rest) (main, run) bd = forIn rest (main, run ++ ps) bd
  | [], run, main, rest, hl => by simp [aK]
  | (k, v) :: ps, run, main, rest, hl => by
    rw [show aK ((k, v) :: ps) ++ rest = (some k, v) :: (aK ps ++ rest) from rfl, List.forIn_cons, h]
    have : ((run ++ [(k, v)]).length == 17) = false := by simp at hl ⊢; omega
    rw [this]
    show forIn (aK ps ++ rest) (main, run ++ [(k, v)]) bd = _
    rw [iR h ps (run ++ [(k, v)]) main rest (by simp at hl ⊢; omega), List.append_assoc]
    rfl
theorem kX (h : pR bd) (ps : Prs) (hl : ps.length = 17) (main : Option Addr) (rest : List (Option (Sem Value) × Sem Value)) :
    forIn (aK ps ++ rest) (main, ([] : Prs)) bd = (do let m ← eC ps main; forIn rest (m, []) bd) := by
  have hne : ps ≠ [] := by rintro rfl; cases hl
  obtain ⟨qs, kv, rfl⟩ : ∃ qs kv, ps = qs ++ [kv] := ⟨ps.dropLast, ps.getLast hne, (List.dropLast_concat_getLast hne).symm⟩
  obtain ⟨k, v⟩ := kv
  have e : aK (qs ++ [(k, v)]) ++ rest = aK qs ++ ((some k, v) :: rest) := by simp [aK]
  have hq : qs.length = 16 := by simpa using hl
  rw [e, iR h qs [] main _ (by simp; omega), List.forIn_cons, List.nil_append, h]
  have : ((qs ++ [(k, v)]).length == 17) = true := by simp; walk_at "o"
  rw [this]
  show ((eC (qs ++ [(k, v)]) main >>= fun m => (pure (ForInStep.yield (m, [])) : Sem _)) >>= _) = _
  rw [bind_assoc]
  rfl
end
section
variable {w : World} {s s' s'' : Shared} {p p' p'' q : Pos} {α β : Type} {n m : Nat} {A : Array Obj} {lf : Life} {es : List DictEntry} {ep : Nat} {subs : List Obj}
theorem lH : ∀ (l : List (Int × Str)) (t : Nat), ∀ e ∈ aG t l, ∃ k t, e.key = .int k t
  | [], _, e, h => by cases h
  | x :: l, t, e, h => by
    rcases mC h with rfl | h
    · exact ⟨_, _, rfl⟩
    · exact lH l _ e h
theorem lE : ∀ (l : List (Int × Str)) (t : Nat), ∀ e ∈ aX t l, ∃ k t, e.key = .int k t
  | [], _, e, h => by cases h
  | x :: l, t, e, h => by
    rcases mC h with rfl | h
    · exact ⟨_, _, rfl⟩
    · exact lE l _ e h
theorem rC {ps : Prs} {l : List (Int × Str)} {fs : List DictEntry} {c : Nat} {s2 : Shared} (hh : s.heap = hp A lf (D es ep) subs) (hA : 11 ≤ A.size) (hes : es ≠ []) (hps : ps.isEmpty = false)
    (hsub : aH w c s q (subDict ps) s2 q s.heap.objs.size) (h2 : s2 = { s with heap := s.heap.push (D fs fs.length), toks := s2.toks }) (hk : ∀ e ∈ fs, ∃ k t, e.key = .int k t) (ha : (es.map (·.hash) ++ fs.map (·.hash)).Nodup) (hz : es.length + fs.length ≤ sizeLine) :
    aH w (c + (5 + 6 * fs.length)) s q (eC ps (some A.size)) { s with heap := hp A lf (D (es ++ fs) (ep + fs.length)) (subs ++ [D fs fs.length]), toks := s2.toks } q (some A.size) := by
  unfold eC
  rw [hps, if_neg (by simp)]
  dsimp only
  refine aH.bind (n := c) (m := 5 + 6 * fs.length) (aH.holding hsub) ?_
  have e1 : s2.heap = hp A lf (D es ep) (subs ++ [D fs fs.length]) := by rw [h2]; show s.heap.push _ = _; rw [hh, zAn]
  have hsz : s.heap.objs.size = A.size + 1 + subs.length := by rw [hh, pK]
  have hm := xW (w := w) (p := q) (s := s2) (d := A.size) (es := es) (ep := ep) (a := s.heap.objs.size) (fs := fs) (fp := fs.length) (by rw [e1]; exact zAo rfl) (by rw [e1, hsz]; exact zAp rfl) (Nat.ne_of_gt (by rw [hsz]; omega)) hes
    (by rw [beq_eq_false_iff_ne]; exact Nat.ne_of_gt (show 1 < s.heap.objs.size by rw [hsz]; omega)) hA hk ha hz
  refine aH.bind (n := 5 + 6 * fs.length) (m := 0) (aH.onRaise (aH.holding hm)) ?_
  have e2 : ({ s2 with heap := put s2.heap A.size (D (es ++ fs) (ep + fs.length)) } : Shared) = { s with heap := hp A lf (D (es ++ fs) (ep + fs.length)) (subs ++ [D fs fs.length]), toks := s2.toks } := by
    rw [e1, zFo, h2]
  rw [e2]
  exact aR.refl
noncomputable def bU : Nat → List (List (Int × Str)) → List Obj
  | _, [] => []
  | t, c :: cs => D (aG t c) c.length :: bU (t + 3 * c.length) cs
inductive iW (w : World) (q : Pos) : List Prs → List (List (Int × Str)) → Prop where
  | nil : iW w q [] []
  | cons {ps : Prs} {c : List (Int × Str)} {pss : List Prs} {cs : List (List (Int × Str))} : bN w q ps c → c.length = 17 → iW w q pss cs → iW w q (ps :: pss) (c :: cs)
theorem lR {es : List DictEntry} {c r : List (Int × Str)} (h : bJ es (c ++ r)) : bJ [] c := by
  unfold bJ at h ⊢
  rw [List.map_append] at h
  have := (List.nodup_append.mp h).2.1
  simpa using (List.nodup_append.mp this).1
theorem eJ {es fs : List DictEntry} {c r : List (Int × Str)} (h : bJ es (c ++ r)) (hf : fs.map (·.hash) = c.map fun x => hashInt x.1) : (es.map (·.hash) ++ fs.map (·.hash)).Nodup ∧ bJ (es ++ fs) r := by
  unfold bJ at h ⊢
  rw [List.map_append] at h
  rw [hf, List.map_append, hf]
  rw [← List.append_assoc] at h
  exact ⟨(List.nodup_append.mp h).1, h⟩
theorem oL {bd : Option (Sem Value) × Sem Value → Option Addr × Prs → Sem (ForInStep (Option Addr × Prs))} (hb : pR bd) {rest : List (Option (Sem Value) × Sem Value)} (hA : 11 ≤ A.size) :
    ∀ {pss : List Prs} {cs : List (List (Int × Str))}, iW w q pss cs → ∀ {s : Shared} {es : List DictEntry} {ep : Nat} {subs : List Obj} {r : List (Int × Str)}, s.heap = hp A lf (D es ep) subs → es ≠ [] → bJ es (cs.flatten ++ r) → es.length + (cs.flatten ++ r).length ≤ sizeLine →
    aR w (330 * cs.length) s q (forIn ((pss.map aK).flatten ++ rest) (some A.size, ([] : Prs)) bd)
      { s with heap := hp A lf (D (es ++ aG s.toks cs.flatten) (ep + 17 * cs.length)) (subs ++ bU s.toks cs), toks := s.toks + 51 * cs.length } q (forIn rest (some A.size, ([] : Prs)) bd)
  | _, _, .nil, s, es, ep, subs, r, hh, hes, ha, hz => by
    have : ({ s with heap := hp A lf (D (es ++ aG s.toks ([] : List (List (Int × Str))).flatten) (ep + 17 * 0)) (subs ++ bU s.toks []), toks := s.toks + 51 * 0 } : Shared) = s := by
      simp only [List.flatten_nil, aG, bU, List.append_nil, Nat.mul_zero, Nat.add_zero]
      rw [← hh]
    simp only [List.length_nil, Nat.mul_zero]
    simp only [Nat.mul_zero] at this
    rw [this]
    exact aR.refl
  | ps :: pss, c :: cs, .cons hp' hc hcs, s, es, ep, subs, r, hh, hes, ha, hz => by
    rw [List.flatten_cons, List.append_assoc] at ha hz
    have hz' : es.length + 17 + (cs.flatten ++ r).length ≤ sizeLine := by rw [List.length_append] at hz; omega
    have e0 : (List.map aK (ps :: pss)).flatten ++ rest = aK ps ++ ((pss.map aK).flatten ++ rest) := by simp
    have hl : ps.length = 17 := hp'.length.trans hc
    rw [e0, kX hb ps hl]
    obtain ⟨j1, j2⟩ := eJ ha (eE c s.toks)
    have hsub := tO hp' (by omega) (lR ha) (by omega) (s := s) (by rw [hh, pK]; omega)
    have hf := rC (q := q) (w := w) (l := c) (ps := ps) (fs := aG s.toks c) hh hA hes (by cases ps with | nil => cases hl | cons => rfl) hsub (by rw [aT]) (lH c _) j1 (by rw [aT]; omega)
    rw [aT, hc] at hf
    have e1 : 330 * (c :: cs).length = 1 + (1 + 13 * 17) + (5 + 6 * 17) + 330 * cs.length := by rw [List.length_cons]; omega
    rw [e1]
    refine aH.bind (m := 330 * cs.length) hf ?_
    have ih := oL hb (rest := rest) hA hcs (s := { s with heap := hp A lf (D (es ++ aG s.toks c) (ep + 17)) (subs ++ [D (aG s.toks c) 17]), toks := s.toks + 3 * 17 }) (r := r) rfl (by simp [hes]) j2 (by rw [List.length_append, aT]; omega)
    have e2 : ({ s with heap := hp A lf (D (es ++ aG s.toks (c :: cs).flatten) (ep + 17 * (c :: cs).length)) (subs ++ bU s.toks (c :: cs)), toks := s.toks + 51 * (c :: cs).length } : Shared) =
        { s with heap := hp A lf (D (es ++ aG s.toks c ++ aG (s.toks + 3 * 17) cs.flatten) (ep + 17 + 17 * cs.length)) (subs ++ [D (aG s.toks c) 17] ++ bU (s.toks + 3 * 17) cs), toks := s.toks + 3 * 17 + 51 * cs.length } := by
      have a1 : es ++ aG s.toks (c :: cs).flatten = es ++ aG s.toks c ++ aG (s.toks + 3 * 17) cs.flatten := by rw [List.flatten_cons, eF, hc, List.append_assoc]
      have a2 : ep + 17 * (c :: cs).length = ep + 17 + 17 * cs.length := by rw [List.length_cons]; omega
      have a3 : subs ++ bU s.toks (c :: cs) = subs ++ [D (aG s.toks c) 17] ++ bU (s.toks + 3 * 17) cs := by rw [bU, hc, List.append_assoc]; rfl
      have a4 : s.toks + 51 * (c :: cs).length = s.toks + 3 * 17 + 51 * cs.length := by rw [List.length_cons]; omega
      rw [a1, a2, a3, a4]
    rw [e2]
    exact ih
end
end Top
end
section
set_option maxRecDepth 100000
namespace Top
section
variable {w : World} {s : Shared} {q : Pos} {A : Array Obj} {lf : Life}
noncomputable abbrev tZ (s : Shared) (A : Array Obj) (lf : Life) (c0 : List (Int × Str)) (cs : List (List (Int × Str))) (cl : List (Int × Str)) : Shared :=
  { s with heap := hp A lf (D (aG s.toks c0 ++ aG (s.toks + 51) cs.flatten ++ aX (s.toks + 51 + 51 * cs.length) cl) (17 + 17 * cs.length + cl.length)) (bU (s.toks + 51) cs ++ [D (aX (s.toks + 51 + 51 * cs.length) cl) cl.length]), toks := s.toks + 51 + 51 * cs.length + 2 * cl.length + cl.length }
theorem zAt {ps0 psl : Prs} {pss : List Prs} {c0 cl : List (Int × Str)} {cs : List (List (Int × Str))} (hh : s.heap = ⟨A, lf⟩) (hA : 11 ≤ A.size) (h0 : bN w q ps0 c0) (hc0 : c0.length = 17) (hcs : iW w q pss cs) (hl : bN w q psl cl) (hcl : 1 ≤ cl.length) (hcl2 : cl.length ≤ 15)
    (ha : bJ [] (c0 ++ (cs.flatten ++ cl))) (hz : (c0 ++ (cs.flatten ++ cl)).length ≤ sizeLine) :
    aH w (1 + (1 + 13 * 17) + (330 * cs.length + (1 + (3 * cl.length + 10 * cl.length) + (5 + 6 * cl.length)))) s q (dictDisplay (aK ps0 ++ ((pss.map aK).flatten ++ aK psl)))
      (tZ s A lf c0 cs cl) q (.ref A.size) := by
  have hl0 : ps0.length = 17 := h0.length.trans hc0
  have hll : psl.length = cl.length := hl.length
  have hs : s.heap.objs.size = A.size := by rw [hh]
  unfold dictDisplay
  dsimp only
  have key : ∀ (bd : Option (Sem Value) × Sem Value → Option Addr × Prs → Sem (ForInStep (Option Addr × Prs))), pR bd → aH w (1 + (1 + 13 * 17) + (330 * cs.length + (1 + (3 * cl.length + 10 * cl.length) + (5 + 6 * cl.length)))) s q
      (do let st ← forIn (aK ps0 ++ ((pss.map aK).flatten ++ aK psl)) ((none, []) : Option Addr × Prs) bd
          let m ← eC st.2 st.1
          match m with
          | some d => pure (Value.ref d)
          | none => newDict) (tZ s A lf c0 cs cl) q (.ref A.size) := by
    intro bd hb
    have hlen : 17 + (cs.flatten ++ cl).length ≤ sizeLine := by rw [List.length_append] at hz; omega
    obtain ⟨j1, j2⟩ := eJ (es := []) (fs := aG s.toks c0) ha (eE c0 s.toks)
    rw [List.nil_append] at j2
    rw [kX hb ps0 hl0, bind_assoc]
    have hsub := tO h0 (by omega) (lR ha) (by omega) (s := s) (by exact le_of_le_of_eq hA (id (Eq.symm hs)))
    rw [hc0] at hsub
    have f0 : aH w (1 + (1 + 13 * 17)) s q (eC ps0 none) { s with heap := hp A lf (D (aG s.toks c0) 17) [], toks := s.toks + 3 * 17 } q (some A.size) := by
      unfold eC
      rw [if_neg (by cases ps0 with | nil => cases hl0 | cons => simp)]
      have e : s.heap.push (D (aG s.toks c0) 17) = hp A lf (D (aG s.toks c0) 17) [] := by
        rw [hh]
        show Heap.mk (A.push _) lf = Heap.mk _ lf
        congr 1
      rw [e, hs] at hsub
      exact aH.bind (m := 0) hsub aR.refl
    refine aH.bind f0 ?_
    have hck := oL (w := w) (q := q) hb (rest := aK psl) hA hcs (s := { s with heap := hp A lf (D (aG s.toks c0) 17) [], toks := s.toks + 3 * 17 }) (es := aG s.toks c0) (ep := 17) (subs := []) (r := cl) rfl
      (by intro h; have := congrArg List.length h; rw [aT, hc0] at this; cases this) j2 (by rw [aT]; omega)
    refine aR.trans (aR.bind hck) ?_
    have hfew : forIn (aK psl) ((some A.size, []) : Option Addr × Prs) bd = pure (some A.size, psl) := by
      have := iR hb psl [] (some A.size) [] (by simp; omega)
      rw [List.append_nil, List.nil_append] at this
      rw [this]
      rfl
    rw [hfew]
    obtain ⟨k1, k2⟩ := eJ (es := aG s.toks c0) (fs := aG (s.toks + 3 * 17) cs.flatten) j2 (eE _ _)
    obtain ⟨m1, _⟩ := eJ (es := aG s.toks c0 ++ aG (s.toks + 3 * 17) cs.flatten) (c := cl) (r := []) (fs := aX (s.toks + 3 * 17 + 51 * cs.length) cl) (by rw [List.append_nil]; exact k2) (lG _ _)
    have hsS := zAr (w := w) (q := q) hl hcl2 (lR (es := aG s.toks c0 ++ aG (s.toks + 3 * 17) cs.flatten) (c := cl) (r := []) (by rw [List.append_nil]; exact k2))
      (s := { s with heap := hp A lf (D (aG s.toks c0 ++ aG (s.toks + 3 * 17) cs.flatten) (17 + 17 * cs.length)) ([] ++ bU (s.toks + 3 * 17) cs), toks := s.toks + 3 * 17 + 51 * cs.length }) (by show 11 ≤ (hp A lf _ _).objs.size; rw [pK]; omega)
    have hff := rC (w := w) (q := q) (l := cl) (ps := psl) (fs := aX (s.toks + 3 * 17 + 51 * cs.length) cl) (es := aG s.toks c0 ++ aG (s.toks + 3 * 17) cs.flatten) (ep := 17 + 17 * cs.length) (subs := [] ++ bU (s.toks + 3 * 17) cs)
      (s := { s with heap := hp A lf (D (aG s.toks c0 ++ aG (s.toks + 3 * 17) cs.flatten) (17 + 17 * cs.length)) ([] ++ bU (s.toks + 3 * 17) cs), toks := s.toks + 3 * 17 + 51 * cs.length }) rfl hA
      (by intro h; have := congrArg List.length h; rw [List.length_append, aT, hc0] at this; simp at this) (by cases psl with | nil => simp at hll; omega | cons => rfl) hsS (by rw [cU]) (lE _ _) m1 (by rw [List.length_append, aT, aT, cU]; rw [List.length_append] at hlen; omega)
    rw [cU] at hff
    simp only [List.nil_append] at hff
    change aR w (1 + (3 * cl.length + 10 * cl.length) + (5 + 6 * cl.length) + 0) _ q (eC psl (some A.size) >>= fun m => match m with
      | some d => pure (Value.ref d)
      | none => newDict) _ q _
    exact aH.bind (m := 0) hff aR.refl
  exact key _ fun k v main run => rfl
end
end Top
end
section
set_option maxRecDepth 100000
namespace Top
noncomputable def kOf (e : Option Expr) : Option (PLift (∃ k u p, e = some (.Constant (.int k) u p))) := match e with
  | some (.Constant (.int k) u p) => some ⟨k, u, p, rfl⟩
  | _ => none
noncomputable def vOf (e : Expr) : Option (PLift (∃ x u p, e = .Constant (.str x) u p)) := match e with
  | .Constant (.str x) u p => some ⟨x, u, p, rfl⟩
  | _ => none
noncomputable def zQ : List (Option Expr) → List Expr → Bool
  | [], [] => true
  | k :: ks, v :: vs => (kOf k).isSome && (vOf v).isSome && zQ ks vs
  | _, _ => false
noncomputable def fB (q : Pos) : List (Option Expr) → List Expr → Prs
  | some k :: ks, v :: vs => (eval k env, do let x ← eval v env; standAt q; pure x) :: fB q ks vs
  | _, _ => []
theorem kK {w : World} {q : Pos} : ∀ (ks : List (Option Expr)) (vs : List Expr), zQ ks vs = true → bN w q (fB q ks vs) (zBg ks vs) ∧
    (evalEachOpt ks env).zip ((evalEach vs env).map fun v => do let x ← v; standAt q; pure x) = aK (fB q ks vs)
  | [], [], _ => ⟨.nil, rfl⟩
  | [], _ :: _, h => by cases h
  | _ :: _, [], h => by cases h
  | k :: ks, v :: vs, h => by
    have h : ((kOf k).isSome && (vOf v).isSome && zQ ks vs) = true := h
    obtain ⟨h, h3⟩ := Bool.and_eq_true_iff.mp h
    obtain ⟨h1, h2⟩ := Bool.and_eq_true_iff.mp h
    refine cps fun Pz kz => ?_
    obtain ⟨⟨k', u, p, rfl⟩, _⟩ := Option.isSome_iff_exists.mp h1
    refine kz ?_; clear kz Pz
    refine cps fun Pz kz => ?_
    obtain ⟨⟨x, u', p', rfl⟩, _⟩ := Option.isSome_iff_exists.mp h2
    refine kz ?_; clear kz Pz
    obtain ⟨h1, h2⟩ := kK (w := w) (q := q) ks vs h3
    refine ⟨.cons pT.of h1, ?_⟩
    show (some (eval (.Constant (.int k') u p) env), _) :: _ = (some (eval (.Constant (.int k') u p) env), _) :: aK (fB q ks vs)
    rw [← h2]
    rfl
noncomputable def zAm : Int → List (Int × Str) → Bool
  | _, [] => true
  | a, x :: l => decide (a < hashInt x.1) && zAm (hashInt x.1) l
theorem tM : ∀ (l : List (Int × Str)) (a : Int), zAm a l = true → (l.map fun x => hashInt x.1).Nodup ∧ ∀ x ∈ l, a < hashInt x.1
  | [], _, _ => ⟨List.nodup_nil, fun x h => by cases h⟩
  | x :: l, a, h => by
    simp only [zAm, Bool.and_eq_true, decide_eq_true_eq] at h
    obtain ⟨h1, h2⟩ := tM l _ h.2
    refine ⟨List.nodup_cons.mpr ⟨fun hm => ?_, h1⟩, fun y hy => ?_⟩
    · obtain ⟨y, hy, e⟩ := mM hm
      have := h2 y hy
      dsimp only at e
      omega
    · rcases mC hy with rfl | hy
      · exact h.1
      · have := h2 y hy
        omega
noncomputable def chk {α : Type} : Nat → List α → List (List α)
  | 0, _ => []
  | m + 1, l => l.take 17 :: chk m (l.drop 17)
theorem fW {α : Type} : ∀ (m : Nat) (l : List α), (chk m l).length = m
  | 0, _ => rfl
  | m + 1, l => by simp [chk, fW m]
theorem dE {α : Type} : ∀ (m : Nat) (l : List α), (chk m l).flatten = l.take (17 * m)
  | 0, _ => by simp [chk]
  | m + 1, l => by
    rw [chk, List.flatten_cons, dE m, Nat.mul_succ, Nat.add_comm, List.take_add]
theorem kJ {w : World} {q : Pos} {ps : Prs} {l : List (Int × Str)} (h : bN w q ps l) : ∀ n, bN w q (ps.take n) (l.take n) := by
  induction h with
  | nil => intro n; simp; exact .nil
  | cons a _ ih =>
    intro n
    cases n with
    | zero => exact .nil
    | succ n => exact .cons a (ih n)
theorem dW {w : World} {q : Pos} {ps : Prs} {l : List (Int × Str)} (h : bN w q ps l) : ∀ n, bN w q (ps.drop n) (l.drop n) := by
  induction h with
  | nil => intro n; simp; exact .nil
  | cons a b ih =>
    intro n
    cases n with
    | zero => exact .cons a b
    | succ n => exact ih n
theorem oU {w : World} {q : Pos} : ∀ (m : Nat) {ps : Prs} {l : List (Int × Str)}, bN w q ps l → 17 * m ≤ l.length → iW w q (chk m ps) (chk m l)
  | 0, _, _, _, _ => .nil
  | m + 1, ps, l, h, hl => .cons (kJ h 17) (by rw [List.length_take]; omega) (oU m (dW h 17) (by rw [List.length_drop]; exact Nat.le_sub_of_add_le hl))
theorem mB (ps : Prs) (m : Nat) : aK ps = aK (ps.take 17) ++ (((chk m (ps.drop 17)).map aK).flatten ++ aK ((ps.drop 17).drop (17 * m))) := by
  have e : ((chk m (ps.drop 17)).map aK).flatten = aK ((chk m (ps.drop 17)).flatten) := by
    unfold aK
    rw [List.map_flatten]
  rw [e, dE]
  unfold aK
  rw [← List.map_append, ← List.map_append, List.take_append_drop, List.take_append_drop]
theorem qD : ∀ (m t : Nat) (l : List (Int × Str)), 17 * m ≤ l.length → bU t (chk m l) = (List.range m).map fun j => D (aG (t + 51 * j) ((l.drop (17 * j)).take 17)) 17
  | 0, _, _, _ => rfl
  | m + 1, t, l, h => by
    have e : (l.take 17).length = 17 := by rw [List.length_take]; omega
    rw [chk, bU, e, qD m _ _ (by rw [List.length_drop]; exact Nat.le_sub_of_add_le h), List.range_succ_eq_map, List.map_cons, List.map_map]
    congr 1
    refine List.map_congr_left fun j _ => ?_
    simp only [Function.comp, List.drop_drop]
    have e1 : t + 3 * 17 + 51 * j = t + 51 * Nat.succ j := by omega
    have e2 : 17 + 17 * j = 17 * Nat.succ j := by omega
    rw [e1, e2]
noncomputable def kE : List (Option Expr) := match pw.main.body[(12 : Nat)]? with | some (Stmt.Assign _ (Expr.Dict ks _ _) _) => ks | _ => []
noncomputable def vE : List Expr := match pw.main.body[(12 : Nat)]? with | some (Stmt.Assign _ (Expr.Dict _ vs _) _) => vs | _ => []
noncomputable def tE : List Expr := match pw.main.body[(12 : Nat)]? with | some (Stmt.Assign ts (Expr.Dict _ _ _) _) => ts | _ => []
noncomputable def pE : Pos := match pw.main.body[(12 : Nat)]? with | some (Stmt.Assign _ (Expr.Dict _ _ q) _) => q | _ => p0
noncomputable def aE : Pos := match pw.main.body[(12 : Nat)]? with | some (Stmt.Assign _ (Expr.Dict _ _ _) q) => q | _ => p0
theorem zCf : sts 12 1 = [Stmt.Assign tE (Expr.Dict kE vE pE) aE] := by kernel_rfl
theorem zIq : b3E = zBg kE vE := by kernel_rfl
theorem zFz : b3E.length = 650 := by kernel_rfl
theorem zBz : zQ kE vE = true := by kernel_rfl
theorem zBf : zAm (-1) b3E = true := by kernel_rfl
end Top
end
section
set_option maxRecDepth 100000
namespace Top
theorem zIz : swapsWithSole tE (.Dict kE vE pE) aE.line env = pure false := by kernel_rfl
theorem zJp : swappedStores tE (.Dict kE vE pE) env = pure none := by kernel_rfl
noncomputable def rU (v : Value) : Sem Flow := (do assignAll v ((assignEach tE env).map (·.2)); pure .next : Sem Flow) >>= fun f => match f with
  | .next => execs [] env
  | f => pure f
theorem zFp (P : Params) : hp (absHeap (T11 P) 82 lf).objs lf pB (((List.range 37).map fun j => oB (j + 1)) ++ [jD]) = absHeap (TY P) 121 lf := by kernel_rfl
theorem zIh (w : World) (os : OsState) (p : Pos) : aR w 12517 (X11 w os).abs p (execs (sts 12 1) env) (Y w os).abs pE (rU (.ref 82)) := by
  rw [zCf]
  have e0 : execs [Stmt.Assign tE (Expr.Dict kE vE pE) aE] env = (do
      standAt aE
      let v ← (do standAt pE; dictDisplay (aK (fB pE kE vE)))
      rU v : Sem Flow) := by
    show (do
      let f ← (do
        standAt aE
        if ← swapsWithSole tE (.Dict kE vE pE) aE.line env then do
          evalThenUse (.Dict kE vE pE) env fun v => assignAll v ((assignEach tE env).map (·.2))
          pure .next
        else do
          let v ← (do standAt pE; dictDisplay ((evalEachOpt kE env).zip ((evalEach vE env).map fun v => do let x ← v; standAt pE; pure x)))
          assignStores env v (← swappedStores tE (.Dict kE vE pE) env) ((assignEach tE env).map (·.2)) : Sem Flow)
      match f with
      | .next => execs [] env
      | f => pure f : Sem Flow) = _
    rw [zIz, zJp, (kK (w := w) kE vE zBz).2]
    simp only [bind_assoc, pure_bind, Bool.false_eq_true, if_false]
    rfl
  rw [e0]
  have hps := (kK (w := w) (q := pE) kE vE zBz).1
  rw [← zIq] at hps
  obtain ⟨hn, _⟩ := tM b3E (-1) zBf
  have hl := zFz
  have f1 : b3E.take 17 ++ ((chk 37 (b3E.drop 17)).flatten ++ (b3E.drop 17).drop (17 * 37)) = b3E := by rw [dE, List.take_append_drop, List.take_append_drop]
  have hd := zAt (w := w) (q := pE) (A := (absHeap (T11 w.params) 82 lf).objs) (lf := lf) (s := (X11 w os).abs) (pss := chk 37 ((fB pE kE vE).drop 17)) (cs := chk 37 (b3E.drop 17)) rfl (by rw [absHeap_size]; exact (nB rfl))
    (kJ hps 17) (by rw [List.length_take]; exact Eq.refl (min 17 b3E.length)) (oU 37 (dW hps 17) (by rw [List.length_drop]; exact (nB rfl))) (dW (dW hps 17) (17 * 37)) (by rw [List.length_drop, List.length_drop]; exact (nB rfl)) (by rw [List.length_drop, List.length_drop]; exact (nB rfl))
    (by rw [f1]; unfold bJ; simpa using hn) (by rw [f1, hl]; decide)
  rw [← mB, fW, absHeap_size] at hd
  have hlc : ((b3E.drop 17).drop (17 * 37)).length = 4 := by rw [List.length_drop, List.length_drop]; exact Eq.refl (b3E.length - 17 - 17 * 37)
  have hfin : tZ (X11 w os).abs (absHeap (T11 w.params) 82 lf).objs lf (b3E.take 17) (chk 37 (b3E.drop 17)) ((b3E.drop 17).drop (17 * 37)) = (Y w os).abs := by
    have t0 : (X11 w os).abs.toks = 345 := rfl
    have e1 : (b3E.drop 17).drop (17 * 37) = b3E.drop 646 := by rw [List.drop_drop]
    have e2 : aG 345 (b3E.take 17) ++ aG (345 + 51) (chk 37 (b3E.drop 17)).flatten = aG 345 (b3E.take 646) := by
      rw [dE]
      have := eF (b3E.take 17) ((b3E.drop 17).take (17 * 37)) 345
      rw [show (b3E.take 17).length = 17 by rw [List.length_take]; exact Eq.refl (min 17 b3E.length)] at this
      rw [← this, ← List.take_add]
    have e3 : bU (345 + 51) (chk 37 (b3E.drop 17)) = (List.range 37).map fun j => oB (j + 1) := by
      rw [qD 37 _ _ (by rw [List.length_drop]; exact (nB rfl))]
      refine List.map_congr_left fun j _ => ?_
      unfold oB ch3
      rw [List.drop_drop]
      have a1 : 345 + 51 + 51 * j = 345 + 51 * (j + 1) := by omega
      have a2 : 17 + 17 * j = 17 * (j + 1) := by omega
      rw [a1, a2]
    unfold tZ
    rw [t0, hlc, fW, e1, e2, e3]
    have e4 : D (aG 345 (b3E.take 646) ++ aX (345 + 51 + 51 * 37) (b3E.drop 646)) (17 + 17 * 37 + 4) = pB := rfl
    have e5 : D (aX (345 + 51 + 51 * 37) (b3E.drop 646)) 4 = jD := rfl
    rw [e4, e5, zFp]
    rfl
  rw [hfin, hlc] at hd
  exact aH.bind (n := 1) (m := 12516) xX (aH.bind (n := 12516) (m := 0) (aH.bind (n := 1) (m := 12515) xX hd) aR.refl)
theorem zCg : ∀ w : World, (fun os : OsState => segRunT treeTable pw w 11 (some (.ref 6)) 1 9 (Y w os) ⟨(rU (.ref 82)).wrap doneF deadEnd id id, cE, pE, B⟩) = fun os => some (.next, X12 w os, cE, ⟨83, 0, 83, 13⟩) := by
  rw [show @segRunT = _ from PySem.W.Fast.te10110043849684766642, show treeTable = _ from PySem.W.Fast.te14364793385576792824]
  refine byRow2 "special-get-raises" ?_ ?_
  · intro w
    kernel_rfl
  · intro w
    kernel_rfl
theorem zGf (w : World) (os : OsState) : segRun treeTable pw w 11 (some (.ref 6)) 1 12526 (X11 w os).abs (piecesOf (sts 12 1) env cE ⟨81, 0, 82, 30⟩ B) = some (.next, (X12 w os).abs, cE, ⟨83, 0, 83, 13⟩) :=
  seg_go (n := 12517) (N := 9) (zIh w os _ doneF deadEnd id id) (segRun_of (congrFun (zCg w) os))
end Top
end
section
set_option maxRecDepth 100000
namespace Top
noncomputable section
noncomputable def H1 (P : Params) : Heap := ⟨⟨[(boot_o_0 P), (boot_o_1 P), (boot_o_2 P), (zBm P), (boot_o_4 P), (boot_o_5 P), (boot_o_6 P), (boot_o_7 P), (boot_o_8 P), (boot_o_9 P), (boot_o_10 P), o11, wZ, o13, o14, o15, o16, o17, o18, o19, o20, o21, o22, o23, o24, o25, o26, o27, o28, o29, o30, o31, o32, o33, o34, o35, o36, o37, o38, o39, o40, o41, o42, o43, o44, o45, o46, o47, o48, o49, o50, o51, o52, o53, o54, o55, o56, o57, o58, o59, o60, o61, o62, o63, o64, o65, o66, o67, o68, o69, o70, (ob1 P), o72, o73, o74, o75, o76, o77, o78, o79, o80, o81, pB, vI, vH, vG, vF, vD, vC, vB, vA, uZ, uY, uX, uW, uV, uU, uT, uS, uR, nZ, nY, nX, nW, nV, nU, nS, nR, nQ, nP, nO, nN, nM, nL, nK, nJ, nI, nH, nG, nF, jD, zAc, zAb, zAa, zZ, zY, xA, zX, zFi, zFh, (zFe P), zFd, zFc, zFb, zFa, zEz, zEy, zEx, zEw, zEv, zEu, zEt, zEs, zW, zEr, zEq, zEp, zEo, zEn, zEm, zV, zEl, zEk, zEj, zEi, zEh, zEg, zU, zEf, zEe, zEd, zEc, zEb, zEa, zDz, zDy, zDx, zDw, zDv, zDu, zDt, zT, zDs, zDr, zDq, zDp, zDo, zDn, zDm, zDl, zDk, zDj, zDi, zDh, zDg, zDf, zDe, zDd, (zS P), zR, zDc, zDb, zDa, zCz, zHx, zHw, zHv, zHu, zHt, sB, zHs, zHr, zHq, zHp, zHo, zHn, zCy, zHm, zHl, zHk, zHj, zCx, zHi, zHh, zHg, zHf, zHe, zHd, zCw, zHc, zHb, zHa, zGz, zGy, zGx, zCv, zGw, zGv, zGu, zGt, zCu, zGs, zGr, zGq, zGp, zCt, zGo]⟩, lf⟩
theorem zCr : ∀ w : World, (fun os : OsState => topGo treeTable pw w 11 (some (.ref 6)) 12 ⟨boot_heap w.params, Array.mk [], boot_drawn, boot_toks, os⟩ (topStub pw)) = fun os => some ((XA w os).abs, ⟨denote treeTable cE, cE, p0, B⟩) := by
  intro w
  kernel_rfl
theorem yR : ∀ w : World, (fun os : OsState => segRun treeTable pw w 11 (some (.ref 6)) 1 1 (XA w os).abs (blockOf (behindTheImports pw) env cE p0 B)) = fun os => some (.next, (XB w os).abs, cE, p0) := by
  intro w
  kernel_rfl
theorem zFs : ∀ w : World, (fun os : OsState => topRun treeTable pw w 11 (some (.ref 6)) 2 (X23 w os).abs ⟨doneF .next, cE, ⟨190, 0, 217, 115⟩, B⟩) = fun os => some ⟨H1 w.params, #[], dr, 2471, os⟩ := by
  intro w
  kernel_rfl
theorem zBd : behindTheImports pw = sts 0 10 ++ (sts 10 1 ++ (sts 11 1 ++ (sts 12 1 ++ (sts 13 2 ++ (sts 15 1 ++ (sts 16 8 ++ [])))))) := by kernel_rfl
theorem zCo (w : World) (os : OsState) : topRun treeTable pw w 11 (some (.ref 6)) (12 + (1 + (267 + (999 + (30 + (12526 + (60 + (494 + (290 + 2))))))))) ⟨boot_heap w.params, Array.mk [], boot_drawn, boot_toks, os⟩ (topStub pw) = some ⟨H1 w.params, #[], dr, 2471, os⟩ := by
  refine go_top (congrFun (zCr w) os) (piece_block (congrFun (yR w) os) ?_)
  have e := zBd
  have g : topRun treeTable pw w 11 (some (.ref 6)) (267 + (999 + (30 + (12526 + (60 + (494 + (290 + 2))))))) (XB w os).abs (restOf (sts 0 10 ++ (sts 10 1 ++ (sts 11 1 ++ (sts 12 1 ++ (sts 13 2 ++ (sts 15 1 ++ (sts 16 8 ++ []))))))) env cE p0 [topFrame p0]) = some ⟨H1 w.params, #[], dr, 2471, os⟩ :=
    piece_app (segRun_of (congrFun (zJq w) os)) (piece_app (segRun_of (congrFun (zGh w) os)) (piece_app (segRun_of (congrFun (zGg w) os)) (piece_app (zGf w os) (piece_app (segRun_of (congrFun (zGe w) os))
      (piece_app (segRun_of (congrFun (zGd w) os)) (piece_app (segRun_of (congrFun (zGc w) os)) (piece_nil (congrFun (zFs w) os))))))))
  rw [← e] at g
  exact g
theorem zP : ∀ w : World, (fencedOpening treeTable pw w 30000).map (fun s => (s.heap, s.gens, s.drawn, s.toks)) = some (boot_heap w.params, Array.mk [], boot_drawn, boot_toks) :=
  boot_open (by kernel_rfl) (by decide) fun s => by kernel_rfl
theorem zG : ∀ w : World, ((boot_heap w.params).isNs mainGlobals && (Array.mk [] : Array GenState).size == 0, (boot_heap w.params).objs.size, (boot_heap w.params).nsMap mainGlobals "__annotations__") = (true, 11, some (.ref 6)) := by
  intro w
  kernel_rfl
noncomputable def vw : Program := { pw with main := { pw.main with body := sts 23 1 } }
noncomputable def lse : List Str := ["_wall", "_DIV_LIMIT", "_div2n1n", "_div3n2n", "_int2digits", "_digits2int", "_divmod_pos", "int_divmod", "b1_set", "in_table_b1", "b3_exceptions", "map_table_b3", "Whitespace", "format_witnesses", "_law_sign", "_law_ways", "_law_times", "_law_column", "_law_runs"]
end
end Top
end
section
set_option maxRecDepth 100000
namespace Top
noncomputable section
noncomputable def Xt (s : Shared) : Bool := recOk [] s
theorem zIc : ∀ w : World, (fun os : OsState => (staticsOk (importedModules pw.main.body) (boot_heap w.params) (H1 w.params) && namesBound pw (H1 w.params) && gensDone ⟨H1 w.params, #[], dr, 2471, os⟩ && laidKept (boot_heap w.params) (H1 w.params))) = fun _ => true := by
  intro w
  kernel_rfl
theorem zIb : ∀ w : World, (fun os : OsState => openSeen vw lse (importedModules pw.main.body) Xt true ⟨H1 w.params, #[], dr, 2471, os⟩) = fun _ => openGood vw lse := by
  intro w
  kernel_rfl
theorem left : LeftO pw vw lse Xt (fun s => (s.heap, s.toks)) (fun w => (H1 w.params, 2471)) 30000 :=
  LeftO.of_pieces zP zG zCo (by decide) fun w => by
    funext os
    exact looks_pair (congrFun (zIc w) os) (looks_pair (congrFun (zIb w) os) rfl)
end
end Top
end
section
section
variable {C : Cx} {d : Nat} {env : Env} {m : Vars} {n : Nat}
theorem eW.strAt {value slice : Expr} {pos : Pos} {x : Str} {i c : Nat} (hv : Ev C d env m value (.str x)) (hi : Ev C d env m slice (.int i)) (h : x.cps[i]? = some c) (hz : i < 2 ^ 20)
    (hs : ∀ o i, subscripted slice false o i = operate [o, i] (getItem o i) := by intro _ _; rfl) : eW C d env m (.Subscript value slice pos) ⟨#[c]⟩ := .mk fun A s H hA I F V Q E k => by
  rw [eval_Subscript]
  refine wpAny_bind (hv.run A s H hA I F V _ E fun o s₁ g₁ r₁ => wpAny_bind (wpAny_holding (hi.run A s₁ H hA (I.gr0 g₁) (F.gr0 g₁) (V.gr0 I F g₁) _ E fun iv s₂ g₂ r₂ => wpAny_bind (wpAny_standAt ?_))))
  have g12 := g₁.trans g₂
  have I2 := I.gr0 g12
  have r1 := r₁.gr0 (I.gr0 g₁) g₂
  have hT := (r1.type rfl).1
  refine wpAny_bind ?_
  rw [getitemInPython_of_ne hT.not_modules]
  refine wpAny_bind (wpAny_specialOf hT PySem.F.slot_str_getitem.lookup ?_)
  obtain ⟨t1, rfl⟩ := r1.strI
  obtain ⟨t2, rfl⟩ : ∃ t, iv = .int i t := by cases r₂ with | int _ t => exact ⟨t, rfl⟩
  have hlt := (Array.getElem?_eq_some_iff.mp h).1
  have fin : wpAny C.M A (subscripted slice false (.str x t1) (.int i t2)) (fun r s₃ => wpAny C.M A (letTemporaryGo value (.str x t1) r >>= fun _ => pure r) Q E s₃) E s₂ := by
    rw [hs]
    refine wpAny_operating (P.getItem_str (c := c) (by simp; omega) ?_ (wpAny_bind (wpAny_letTemporaryGo (wpAny_pure (k _ _ (g12.trans (Gr.toks' (Nat.le_succ _))) ⟨_, rfl, Nat.ne_of_gt (Nat.lt_of_lt_of_le I.ok.tk I2.tk), Nat.lt_succ_self _⟩)))))
    rw [cT (by exact Int.natCast_nonneg i) (by show (i : Int) < (x.cps.size : Int); exact Int.ofNat_lt.mpr hlt)]
    simpa using h
  first
    | exact wpAny_pure (wpAny_bind fin)
    | exact wpAny_bind (wpAny_pure (wpAny_bind fin))
    | exact wpAny_bind fin
theorem Ex.tokThen {x y : Str} {px py pt pe pos : Pos} {k k2 : Nat} {e1 e2 : Expr} {X Y : Str} {rest : List Stmt} {p : PV} (h1 : eW C d env m e1 X) (h2 : Ev C d env m e2 (.str Y)) (hx : cN env x) (hy : cN env y)
    (hs1 : ∀ rest, starEach (e1 :: rest) env = (false, eval e1 env) :: starEach rest env) (hs2 : ∀ rest, starEach (e2 :: rest) env = (false, eval e2 env) :: starEach rest env)
    (hs : swapsWithSole [Expr.Tuple [.Name x px, .Name y py] k pt] (.Tuple [e1, e2] k2 pe) pos.line env = pure false) (hw : swappedStores [Expr.Tuple [.Name x px, .Name y py] k pt] (.Tuple [e1, e2] k2 pe) env = pure none)
    (go : ∀ n, C.tk0 ≤ n → 0 < n → Ex (C.later n) d env ((y, .str Y) :: (x, oldStr (C.later n) X) :: m) rest (.ret p)) :
    Ex C d env m (.Assign [Expr.Tuple [.Name x px, .Name y py] k pt] (.Tuple [e1, e2] k2 pe) pos :: rest) (.ret p) :=
  .mk fun A s H hA I F V Q E q => by
    refine wpAny_execs_cons (wpAny_Assign_stores (wpAny_Tuple_spliced ?_) hs hw)
    rw [hs1, hs2]
    show wpAny C.M A (PySem.spliced ((false, eval e1 env) :: (false, eval e2 env) :: backTo pe (starEach [] env))) _ E s
    refine spliced_cons (h1.run A s H hA I F V _ E fun v1 s1 g1 r1 => ?_)
    refine spliced_cons (h2.run A s1 H hA (I.gr0 g1) (F.gr0 g1) (V.gr0 I F g1) _ E fun v2 s2 g2 r2 => wpAny_items_nil ?_)
    refine bY r1 fun t1 ez1 hn1 hl1 => ?_; clear r1; subst ez1
    refine ⟨by show 2 ≤ sizeLine; decide, ?_⟩
    have g12 := g1.trans g2
    have I2 := I.gr0 g12
    have F2 := F.gr0 g12
    have V2 := V.gr0 I F g12
    have hk := I2.tk
    have h0 : 0 < s2.toks := Nat.lt_of_lt_of_le I.ok.tk hk
    have I3 : Inv (C.later s2.toks) H s2 := I2.later h0 (Nat.le_refl _)
    have g3 : Gr (C.later s2.toks) [] s2 { s2 with heap := s2.heap.push { cls := .type "tuple", data := .seq #[.str X t1, v2] } } := Gr.push I3.ok (Nat.le_refl _)
    have I4 := I3.gr0 g3
    have F4 : aF (C.later s2.toks) env H _ := (F2.later (n := s2.toks)).gr0 g3
    have V4 : aA (C.later s2.toks) env H _ m := aA.gr0 (C := C.later s2.toks) I3 F2.later g3 V2
    have hr : Rep H.hid (s2.heap.push { cls := .type "tuple", data := .seq #[.str X t1, v2] }) (.ref s2.heap.objs.size) (.tup [oldStr (C.later s2.toks) X, .str Y]) := by
      refine .tup (n := 0) (I2.fresh (Nat.le_refl _)) (Heap.get?_push_size _ rfl) ?_
      refine .cons (.sem fun h' _ => ⟨t1, rfl, hn1, Nat.lt_of_lt_of_le hl1 g2.toks⟩) (.cons ?_ .nil)
      exact r2.mono fun b o _ e => Heap.get?_push_of_some _ e
    refine iC (C := C.later s2.toks) (k := k) (pt := pt) hA.handled I4 F4 V4 (xs := [x, y]) (.cons (.cons .nil)) rfl (List.forall_mem_cons.mpr ⟨hx, List.forall_mem_cons.mpr ⟨hy, List.forall_mem_nil _⟩⟩) hr _ E fun _ s5 g5 r5 => ?_
    have gC : Gr C (wr env H) s s5 := (g12.plain).trans ((g3.sooner.plain).trans (g5.sooner.wider cI))
    have I5 : Inv (C.later s2.toks) H s5 := I4.gr g5 F4.ownB r5.1
    have a1 : bM C H H s s5 := .same (bO.sooner r5.1)
    have R := (go s2.toks hk h0).run A s5 H hA I5 r5.2.1 r5.2.2
    have F5 : aF C env H s5.heap := ⟨r5.2.1.eok, r5.2.1.found, r5.2.1.loc, r5.2.1.locB, r5.2.1.ns, r5.2.1.cell, r5.2.1.inj, r5.2.1.hid⟩
    refine R _ E fun f s6 g6 z => ?_
    refine aI z fun H' a6 z => ?_
    have a6' : bM C H H' s5 s6 := ⟨a6.X, a6.fresh, bO.sooner a6.ok⟩
    exact q f s6 (a1.gr gC g6.sooner) ⟨H', a1.trans I F F5 gC a6', z⟩
end
end
section
variable {C : Cx}
noncomputable abbrev At (m : Vars) (x : Str) (p : PV) : Prop := m.lookup x = some p
structure zBj (C : Cx) : Prop where
  K : dG C
  B : BmOk C
  sysm : C.hB.get? sysModules ≠ none
  sum : C.mg (Str.ofString "sum") = none ∧ C.mb (Str.ofString "sum") = some (.builtin "sum")
  chr : C.mg (Str.ofString "chr") = none ∧ C.mb (Str.ofString "chr") = some (.builtin "chr")
  len : C.mg (Str.ofString "len") = none ∧ C.mb (Str.ofString "len") = some (.builtin "len")
  all : C.mg (Str.ofString "all") = none ∧ C.mb (Str.ofString "all") = some (.builtin "all")
  list : C.mg (Str.ofString "list") = none ∧ C.mb (Str.ofString "list") = some (.type "list")
  max : C.mg (Str.ofString "max") = none ∧ C.mb (Str.ofString "max") = some (.builtin "max")
  range : C.mg (Str.ofString "range") = none ∧ C.mb (Str.ofString "range") = some (.type "range")
  isinst : C.mg (Str.ofString "isinstance") = none ∧ C.mb (Str.ofString "isinstance") = some (.builtin "isinstance")
  bool : C.mg (Str.ofString "bool") = none ∧ C.mb (Str.ofString "bool") = some (.type "bool")
  str : C.mg (Str.ofString "str") = none ∧ C.mb (Str.ofString "str") = some (.type "str")
  ord : C.mg (Str.ofString "ord") = none ∧ C.mb (Str.ofString "ord") = some (.builtin "ord")
  abs : C.mg (Str.ofString "abs") = none ∧ C.mb (Str.ofString "abs") = some (.builtin "abs")
  tuple : C.mg (Str.ofString "tuple") = none ∧ C.mb (Str.ofString "tuple") = some (.type "tuple")
  div : rO C
  tab : yV C
  f11 : ∃ a cd, FnT C 11 "in_table_b1" a cd
  f13 : ∃ a cd, FnT C 13 "map_table_b3" a cd
  f16 : ∃ f c P, FnT C 16 "format_witnesses" f (.ref c) ∧ NestOk C c P ⟨144, 13, 144, 39⟩ qFmt
  f18 : ∃ a cd, FnT C 18 "_law_sign" a cd
  f19 : ∃ a cd, FnT C 19 "_law_ways" a cd
  f20 : ∃ a cd, FnT C 20 "_law_times" a cd
  f21 : ∃ a cd, FnT C 21 "_law_column" a cd
  f22 : ∃ a cd, FnT C 22 "_law_runs" a cd
  ws : ∃ K N mN, WsT C K N mN ∧ (∃ f cd, MethT C 1 "__init__" "Whitespace.__init__" mN f cd) ∧ (∃ f cd, MethT C 2 "longest_run_of_spaces" "Whitespace.longest_run_of_spaces" mN f cd) ∧ (∃ f cd, MethT C 3 "indent_level" "Whitespace.indent_level" mN f cd) ∧
    (∃ f cd, MethT C 5 "not_equal_witness" "Whitespace.not_equal_witness" mN f cd)
noncomputable abbrev envL (L a : Addr) (cd : Value) : Env := envC (Str.ofString "law") (fScope 23) L a cd
noncomputable abbrev lSt (k : Nat) : Stmt := fSt 23 k
section
variable {d : Nat} {m : Vars} {L a : Addr} {cd : Value} {script : List Int} {f : Nat}
theorem st0 (hs : At m "script" (.lst (pints script))) (hg : At m "sum" (.fn (.builtin "sum"))) (hf : ((script.sum).fdiv 3).fmod 3 = (f : Int)) :
    Es C d (envL L a cd) m (lSt 0) (.next (("family", .int f) :: m)) := by
  refine Es.assign (p := .int f) ?_ rfl (by walk_at "loc")
  rw [← hf]
  exact Ev.bin (Ev.bin (Ev.callB (Ev.name hg (by decide)) (.cons (Ev.name hs (by decide)) (fun _ => rfl) .nil) (Calls.sum Its.lst) rfl) Ev.int (Bin.fdiv (by decide) (PyProof.noPylong_small (by exact Nat.lt_of_sub_eq_succ rfl)))) Ev.int (Bin.fmod (by decide))
theorem st1 {rest : List Stmt} {p : PV} (hfam : At m "family" (.int f)) (hg : At m "chr" (.fn (.builtin "chr"))) (hf : f < 3)
    (go : ∀ n, C.tk0 ≤ n → 0 < n → Ex (C.later n) d (envL L a cd) (("double", .str ⟨#[(dblL.getD f 0).toNat]⟩) :: ("letter", oldStr (C.later n) ⟨#[(aQ.getD f 0).toNat]⟩) :: m) rest (.ret p)) :
    Ex C d (envL L a cd) m (lSt 1 :: rest) (.ret p) := by
  refine bZ (wQ hf) fun hs1 hs2 hs3 => ?_
  have h4 : 0 ≤ dblL.getD f 0 ∧ dblL.getD f 0 ≤ 70000 := by
    have : ∀ x ∈ dblL, 0 ≤ x ∧ x ≤ 70000 := by decide
    exact this _ (bL (by simpa [dblL] using hf))
  exact Ex.tokThen (X := ⟨#[(aQ.getD f 0).toNat]⟩) (Y := ⟨#[(dblL.getD f 0).toNat]⟩) (eW.strAt Ev.str (Ev.name hfam (by decide)) hs1 (by omega))
    (Ev.callB (Ev.name hg (by decide)) (.cons (Ev.tupAt (l := dblL) (Ev.tup (ps := [.int 223, .int 13261, .int 64256]) (by walk_at "go") ((nB rfl))) (Ev.name hfam (by decide)) (by simpa [dblL] using hf) (by decide)) (fun _ => rfl) .nil) (Calls.chr h4.1 (by omega)) rfl)
    (by walk_at "loc") (by walk_at "loc") (fun _ => rfl) (fun _ => rfl) rfl rfl go
noncomputable def oO : List Int := [4, 240, 5, 29, 16, 13, 152, 3, 14]
noncomputable def numsOf (script : List Int) : List Int := script.take 9 ++ oO.drop (script.take 9).length
theorem fK (script : List Int) : (numsOf script).length = 9 := by
  unfold numsOf
  rw [List.length_append, List.length_drop, List.length_take]
  show min 9 script.length + (9 - min 9 script.length) = 9
  omega
theorem wR {e : Expr} {p1 p2 p3 : Pos} {xs : List PV} (h : Ev C d (envL L a cd) m e (.lst xs)) (hx : xs.length ≤ 1000) : Ev C d (envL L a cd) m (.Subscript e (.Slice none (some (.Constant (.int 9) 0 p1)) none p2) p3) (.lst (xs.take 9)) := by
  have hz := aC
  refine Ev.cast (Ev.sliceLst h cG.none (cG.some Ev.int) (by omega)) ?_
  have e1 : kms_lo (none : Option Int) xs.length = 0 := rfl
  have e2 : kms_hi (some (9 : Int)) xs.length = min 9 xs.length := by
    simp [kms_hi]
  rw [e1, e2]
  have e3 : xs.take (min 9 xs.length) = xs.take 9 := by rw [List.take_eq_take_iff]; omega
  rw [List.drop_zero, Nat.sub_zero, e3]
theorem rZ (l : List Int) (n : Nat) : (pints l).take n = pints (l.take n) := (List.map_take ..).symm
theorem sA (l : List Int) (n : Nat) : (pints l).drop n = pints (l.drop n) := (List.map_drop ..).symm
theorem st2 (hs : At m "script" (.lst (pints script))) (hl : At m "len" (.fn (.builtin "len"))) (hsc : script.length ≤ 63) :
    Es C d (envL L a cd) m (lSt 2) (.next (("numbers", .lst (pints (numsOf script))) :: m)) := by
  have hz := aC
  have hpl : (pints script).length = script.length := pints_length script
  refine Es.assign ?_ rfl (by walk_at "loc")
  have h1 : ∀ {p0 p1 p2 p3 : Pos}, Ev C d (envL L a cd) m (.Subscript (.Name "script" p0) (.Slice none (some (.Constant (.int 9) 0 p1)) none p2) p3) (.lst (pints (script.take 9))) := fun {p0 p1 p2 p3} => by
    rw [← rZ]
    exact wR (Ev.name hs (by decide)) (by omega)
  have e : pints (numsOf script) = pints (script.take 9) ++ pints (oO.drop (script.take 9).length) := by rw [← dU]; rfl
  rw [e]
  have hk : (script.take 9).length ≤ 9 := by rw [List.length_take]; exact Nat.min_le_left 9 script.length
  refine Ev.bin h1 (Ev.cast (Ev.sliceLst (xs := pints oO) (lo := some ((script.take 9).length : Int)) (hi := none) (Ev.lst (ps := [.int 4, .int 240, .int 5, .int 29, .int 16, .int 13, .int 152, .int 3, .int 14]) (by walk_at "go") ((nB rfl))) (cG.some (Ev.cast (Ev.callB (Ev.name hl (by decide)) (.cons h1 (fun _ => rfl) .nil) (Calls.lenLst (by rw [pints_length]; omega)) rfl) (by rw [pints_length]))) cG.none ((nB rfl))) ?_) (Bin.addLst ?_)
  · have e2 : kms_lo (some ((script.take 9).length : Int)) (pints oO).length = (script.take 9).length := by
      have : (pints oO).length = 9 := rfl
      unfold kms_lo
      rw [this]
      simp only
      rw [if_neg (by exact Int.not_ofNat_neg (List.take 9 script).length), Int.toNat_natCast]
      exact Nat.min_eq_left hk
    have e3 : kms_hi none (pints oO).length = 9 := rfl
    rw [e2, e3, ← sA, List.take_of_length_le]
    rw [List.length_drop]
    show 9 - _ ≤ 9 - _
    exact Nat.le_refl _
  · rw [pints_length, pints_length, List.length_drop]
    show _ + (9 - _) ≤ _
    omega
noncomputable def bC (f : Nat) (script : List Int) : List Sg :=
  (numsOf script).map (sgn · f) ++ [⟨(aQ.getD f 0).toNat, false, ⟨#[(aQ.getD f 0).toNat]⟩⟩, ⟨(dblL.getD f 0).toNat, false, strRep ⟨#[(aQ.getD f 0).toNat]⟩ 2⟩]
theorem gN (f : Nat) (script : List Int) : (bC f script).length = 11 := by unfold bC; rw [List.length_append, List.length_map, fK]; rfl
noncomputable abbrev ltr (f : Nat) : Str := ⟨#[(aQ.getD f 0).toNat]⟩
noncomputable abbrev dbl (f : Nat) : Str := ⟨#[(dblL.getD f 0).toNat]⟩
theorem st3 {a18 : Addr} {cd18 : Value} (S : yW C) (F18 : FnT C 18 "_law_sign" a18 cd18) (hD : d < recursionLimit) (hn : At m "numbers" (.lst (pints (numsOf script)))) (hfam : At m "family" (.int f)) (hlet : At m "letter" (oldStr C (ltr f))) (hdbl : At m "double" (.str (dbl f))) (hf : f < 3) :
    Es C d (envL L a cd) m (lSt 3) (.next (("drawn", .lst ((bC f script).map Sg.pv)) :: m)) := by
  have hz := aC
  refine Es.assign ?_ rfl (by walk_at "loc")
  have e : (bC f script).map Sg.pv = ((numsOf script).map fun n => (sgn n f).pv) ++ [.tup [.str (ltr f), .bool false, .str (ltr f)], .tup [.str (dbl f), .bool false, .str (strRep (ltr f) 2)]] := by
    unfold bC
    rw [List.map_append, List.map_map]
    rfl
  rw [e]
  have hnl := fK script
  refine Ev.bin (Ev.cast (evListComp (cl := [("family", L + 1)]) (numsOf script) (fun n => .int n) (fun n => some (sgn n f).pv) [("family", .int f), ("_law_sign", .fn (.ref a18))] rfl (EvIt.of (Ev.name hn (by decide)) Its.lst) (.cons rfl .nil) (by show [("family" : Str)].Nodup; decide) (by decide) rfl (by decide) (by omega)
    (fun Cc => .cell hfam (by walk_at "free") (by walk_at "free") rfl (.glob (fun _ _ => .fn _) rfl (.inl F18.g) .nil)) ?c1) (by rw [aL])) ?tl (Bin.addLst ?sz)
  case c1 =>
    intro Cc n _
    refine ⟨_, Tgt.name rfl, Ifs.nil, ?_⟩
    exact Ev.callF F18.is.at (Ev.name (by walk_at "lk") (by decide)) (.cons (Ev.name (by walk_at "lk") (by decide)) (fun _ => rfl) (.cons (Ev.name (by walk_at "lk") (by decide)) (fun _ => rfl) .nil)) (qT S F18 hD hf) rfl
  case tl =>
    have hlet' : ∀ {p : Pos}, Ev C d (envL L a cd) m (.Name "letter" p) (.str (ltr f)) := Ev.ofOld (Ev.name hlet (by decide))
    refine Ev.lst (.cons (Ev.tup (.cons hlet' (fun _ => rfl) (.cons Ev.bool (fun _ => rfl) (.cons hlet' (fun _ => rfl) .nil))) ((nB rfl))) (fun _ => rfl) (.cons (Ev.tup (.cons (Ev.name hdbl (by decide)) (fun _ => rfl) (.cons Ev.bool (fun _ => rfl) (.cons ?_ (fun _ => rfl) .nil))) ((nB rfl))) (fun _ => rfl) .nil)) ((nB rfl))
    exact Ev.bin hlet' Ev.int (Bin.mulStr (n := 2) (by show 2 * 1 ≤ sizeLine; exact fit_le rfl) (by decide) (by show 1 * 2 < 2 ^ 62; decide))
  case sz =>
    rw [List.length_map, hnl]
    show 9 + 2 ≤ sizeLine
    exact fit_le rfl
noncomputable def Told (l : List Sg) : Prop := ∀ s ∈ l, b1L.contains (s.code : Int) = s.nil ∧ eR s.code = s.fold ∧ s.fold.length ≤ 10
theorem st4 {a11 a13 : Addr} {cd11 cd13 : Value} (T : yV C) (F11 : FnT C 11 "in_table_b1" a11 cd11) (F13 : FnT C 13 "map_table_b3" a13 cd13) (hD : d < recursionLimit) {sg : List Sg} (ht : Told sg) (hsl : sg.length ≤ 1000) (hdr : At m "drawn" (.lst (sg.map Sg.pv))) :
    Es C d (envL L a cd) m (lSt 4) (.next (("told", .lst (sg.map Sg.pv)) :: m)) := by
  have hz := aC
  have e : sg.map Sg.pv = sg.filterMap fun s => some s.pv := by rw [aL]
  rw [e]
  refine bS (cl := []) sg (fun s => s.pv) (fun s => some s.pv) [("in_table_b1", .fn (.ref a11)), ("map_table_b3", .fn (.ref a13))] rfl rfl (EvIt.of (Ev.name hdr (by decide)) Its.lst) .nil (by show ([] : List Str).Nodup; decide) (by decide) rfl (by decide) (by omega)
    (fun Cc => .glob (fun _ _ => .fn _) rfl (.inl F11.g) (.glob (fun _ _ => .fn _) rfl (.inl F13.g) .nil)) ?c1 (by walk_at "loc")
  intro Cc s hs
  refine bZ (ht s hs) fun h1 h2 h3 => ?_
  refine ⟨_, Tgt.tup (xs := ["sign", "nothing", "fold"]) (.cons (.cons (.cons .nil))) rfl (by walk_at "tgl"), Ifs.nil, ?_⟩
  have hin := xS T F11 hD (c := s.code)
  have hmap := vK T F13 hD (c := s.code) (by rw [h2]; omega)
  rw [h1] at hin
  rw [h2] at hmap
  refine Ev.tup (.cons (Ev.name (by walk_at "lk") (by decide)) (fun _ => rfl) (.cons ?_ (fun _ => rfl) (.cons ?_ (fun _ => rfl) .nil))) ((nB rfl))
  · exact Ev.callF F11.is.at (Ev.name (by walk_at "lk") (by decide)) (.cons (Ev.name (by walk_at "lk") (by decide)) (fun _ => rfl) .nil) hin rfl
  · exact Ev.callF F13.is.at (Ev.name (by walk_at "lk") (by decide)) (.cons (Ev.name (by walk_at "lk") (by decide)) (fun _ => rfl) .nil) hmap rfl
theorem zFw (s : Sg) : Dat 1 s.pv := .tup fun p hp => by
  simp only [List.mem_cons, List.not_mem_nil, or_false] at hp
  rcases hp with rfl | rfl | rfl
  · exact .str _
  · exact .bool _
  · exact .str _
theorem st5 {sg : List Sg} (hsl : sg.length ≤ 1000) (hd : 10 * d + 3 < cLine) (ht : At m "told" (.lst (sg.map Sg.pv))) (hdr : At m "drawn" (.lst (sg.map Sg.pv))) (hal : At m "all" (.fn (.builtin "all")))
    (gi : C.mg (Str.ofString "isinstance") = none ∧ C.mb (Str.ofString "isinstance") = some (.builtin "isinstance")) (gb : C.mg (Str.ofString "bool") = none ∧ C.mb (Str.ofString "bool") = some (.type "bool")) :
    Es C d (envL L a cd) m (lSt 5) (.next m) := by
  have hz := aC
  refine Es.ifFalse (Ts.orF (Ts.cmp (Ev.name ht (by decide)) (Ev.name hdr (by decide)) (Cmp.neDatL (k := 1) (fun p hp => ?_) (by walk_at "o")) rfl) (Ts.orF (Ts.cast (Ts.not (Ts.val (z := true) (p := .bool true) ?al Tru.bool (fun _ => rfl))) rfl) Ts.orNil)) Ex.nil
  · obtain ⟨s, _, rfl⟩ := mM hp
    exact zFw s
  case al =>
    refine Ev.callB (Ev.name hal (by decide)) (.cons (Ev.cast (evListComp (cl := []) sg (fun s => s.pv) (fun s => some (.bool true)) [("isinstance", .fn (.builtin "isinstance")), ("bool", .fn (.type "bool"))] rfl (EvIt.of (Ev.name ht (by decide)) Its.lst) .nil (by show ([] : List Str).Nodup; decide) (by decide) rfl (by decide) (by omega)
      (fun Cc => .glob (fun _ _ => .fn _) rfl (.inr gi) (.glob (fun _ _ => .fn _) rfl (.inr gb) .nil)) ?c1) (p' := .lst (List.replicate sg.length (.bool true))) ?e) (fun _ => rfl) .nil) (Calls.allT Its.lst) rfl
    case e => rw [aL, List.map_const']
    case c1 =>
      intro Cc s hs
      refine ⟨_, Tgt.tup (xs := ["sign", "nothing", "fold"]) (.cons (.cons (.cons .nil))) rfl (by walk_at "tgl"), Ifs.nil, ?_⟩
      exact Ev.callB (Ev.name (by walk_at "lk") (by decide)) (.cons (Ev.name (by walk_at "lk") (by decide)) (fun _ => rfl) (.cons (Ev.name (by walk_at "lk") (by decide)) (fun _ => rfl) .nil)) Calls.isBool rfl
end
end
section
variable {C : Cx}
section
variable {d : Nat} {m : Vars} {L a : Addr} {cd : Value} {script : List Int} {f : Nat} {sg : List Sg} {ps : List Str} {lt : Str}
noncomputable def zN (sg : List Sg) : List Str := ((sg.take 9).filter (fun s => !s.nil)).map (·.fold)
theorem st6 (hsl : sg.length ≤ 1000) (ht : At m "told" (.lst (sg.map Sg.pv))) : Es C d (envL L a cd) m (lSt 6) (.next (("pieces", .lst (pstrs (zN sg))) :: m)) := by
  have hz := aC
  have e : pstrs (zN sg) = (sg.take 9).filterMap fun s => if (!s.nil) = true then some (.str s.fold) else none := by
    rw [eD]
    unfold zN pstrs
    rw [List.map_map]
    rfl
  rw [e]
  refine bS (cl := []) (sg.take 9) (fun s => s.pv) (fun s => if (!s.nil) = true then some (.str s.fold) else none) [] rfl rfl (EvIt.of (Ev.cast (wR (Ev.name ht (by decide)) (by rw [List.length_map]; exact hsl)) (by rw [← List.map_take])) Its.lst) .nil (by show ([] : List Str).Nodup; decide) (by decide) rfl (by decide) (by rw [List.length_take]; omega)
    (fun Cc => .nil) ?c1 (by walk_at "loc")
  intro Cc s hs
  refine ⟨_, Tgt.tup (xs := ["sign", "nothing", "fold"]) (.cons (.cons (.cons .nil))) rfl (by walk_at "tgl"), ?_⟩
  have tn : ∀ {Cc : Addr} {sc : Scope} {p1 p2 : Pos} {z : Bool}, s.nil = z → Ts C d (compEnvC sc [] Cc (envL L a cd)) (([("sign" : Str), "nothing", "fold"].zip [PV.str ⟨#[s.code]⟩, .bool s.nil, .str s.fold]).reverse ++ []) (.UnaryOp .Not (.Name "nothing" p1) p2) (!z) := fun {Cc sc p1 p2 z} hz => by
    subst hz
    exact Ts.not (Ts.val (Ev.name (by walk_at "lk") (by decide)) Tru.bool (fun _ => rfl))
  cases hn : s.nil with
  | true =>
    simp only [Bool.not_true, Bool.false_eq_true, if_false]
    rw [← hn]
    exact Ifs.one (Ts.cast (tn hn) rfl)
  | false =>
    simp only [Bool.not_false, if_true]
    rw [← hn]
    exact ⟨Ifs.one (Ts.cast (tn hn) rfl), Ev.name (by walk_at "lk") (by decide)⟩
noncomputable def rowL (lt : Str) (ps : List Str) : List Str := ps.map fun p => if p.cps.toList == (strRep lt p.length).cps.toList then p else "\t"
noncomputable def zBl (lt : Str) (ps : List Str) : Str := ⟨(Txt.join "" (rowL lt ps)).cps ++ ("\t" : Str).cps⟩
theorem st7 (hl1 : lt.length = 1) (hpl : ps.length ≤ 9) (hp : ∀ p ∈ ps, p.length ≤ 10) (hj : JoinOk "" (rowL lt ps) = true) (hjl : (Txt.join "" (rowL lt ps)).length ≤ 1000) (hlet : At m "letter" (oldStr C lt)) (glen : C.mg (Str.ofString "len") = none ∧ C.mb (Str.ofString "len") = some (.builtin "len"))
    (hps : At m "pieces" (.lst (pstrs ps))) : Es C d (envL L a cd) m (lSt 7) (.next (("row", .str (zBl lt ps)) :: m)) := by
  have hz := aC
  refine Es.assign ?_ rfl (by walk_at "loc")
  refine Ev.bin (Ev.meth (p := .str "") (ps := [.lst (pstrs (rowL lt ps))]) Ev.str rfl ⟨PySem.F.plainAttrs_str, PySem.F.slot_str_join, PySem.F.type_str_join⟩ (.cons (Ev.cast (evListComp (cl := [("letter", L + 2)]) ps (fun p => .str p) (fun p => some (.str (if p.cps.toList == (strRep lt p.length).cps.toList then p else "\t")))
    [("letter", oldStr C lt), ("len", .fn (.builtin "len"))] rfl (EvIt.of (Ev.name hps (by decide)) Its.lst) (.cons rfl .nil) (by show [("letter" : Str)].Nodup; decide) (by decide) rfl (by decide) (by omega) (fun Cc => .cell hlet (by walk_at "free") (by walk_at "free") rfl (.glob (fun _ _ => .fn _) rfl (.inr glen) .nil)) ?c1) ?e) (fun _ => rfl) .nil) (Calls.join hj) rfl rfl rfl) Ev.str (Bin.addStr ?sz)
  case e =>
    rw [aL]
    unfold rowL pstrs
    rw [List.map_map]
    rfl
  case sz =>
    show _ + 1 ≤ _
    omega
  case c1 =>
    intro Cc p hpm
    have hlen := hp p hpm
    refine ⟨_, Tgt.name rfl, Ifs.nil, ?_⟩
    have lenE : ∀ {sc : Scope} (p1 p2 p3 : Pos), Ev C d (compEnvC sc [("letter", L + 2)] Cc (envL L a cd)) (([("fold", PV.str p)] : Vars) ++ ([("letter", oldStr C lt), ("len", .fn (.builtin "len"))] : Vars)) (.Call (.Name "len" p1) [.Name "fold" p2] [] p3) (.int (p.length : Nat)) := fun {sc} p1 p2 p3 =>
      Ev.callB (Ev.name (by walk_at "lk") (by decide)) (.cons (Ev.name (by walk_at "lk") (by decide)) (fun _ => rfl) .nil) (Calls.lenStr (by omega)) rfl
    have hmul : p.length * lt.length ≤ sizeLine := by rw [hl1]; omega
    cases hb : (p.cps.toList == (strRep lt p.length).cps.toList) with
    | true =>
      simp only [if_true]
      exact Ev.ifTrue (Ts.cast (Ts.cmp (Ev.name (by walk_at "lk") (by decide)) (Ev.bin (Ev.ofOld (Ev.name (by walk_at "lk") (by decide))) (lenE _ _ _) (Bin.mulStr hmul (by omega) (by rw [hl1]; omega))) Cmp.eqStr rfl) hb) (Ev.name (by walk_at "lk") (by decide))
    | false =>
      simp only [Bool.false_eq_true, if_false]
      exact Ev.ifFalse (Ts.cast (Ts.cmp (Ev.name (by walk_at "lk") (by decide)) (Ev.bin (Ev.ofOld (Ev.name (by walk_at "lk") (by decide))) (lenE _ _ _) (Bin.mulStr hmul (by omega) (by rw [hl1]; omega))) Cmp.eqStr rfl) hb) Ev.str
noncomputable def stkOf (sg : List Sg) : List (Str × Str) := bX (sg.filterMap fun s => if (!s.nil) = true then some ((⟨#[s.code]⟩ : Str), s.fold) else none)
theorem st8 (hsl : sg.length ≤ 1000) (ht : At m "told" (.lst (sg.map Sg.pv))) : Es C d (envL L a cd) m (lSt 8) (.next (("stock", sdictPV C (stkOf sg)) :: m)) := by
  have hz := aC
  refine mF (cl := []) sg (fun s => s.pv) (fun s => if (!s.nil) = true then some ((⟨#[s.code]⟩ : Str), s.fold) else none) [] rfl rfl (EvIt.of (Ev.name ht (by decide)) Its.lst) .nil (by show ([] : List Str).Nodup; decide) (by decide) rfl (by decide) (by omega) (fun Cc => .nil) ?c1 (by walk_at "loc")
  intro Cc s hs
  refine ⟨_, Tgt.tup (xs := ["sign", "nothing", "fold"]) (.cons (.cons (.cons .nil))) rfl (by walk_at "tgl"), ?_⟩
  have tn : ∀ {Cc : Addr} {sc : Scope} {p1 p2 : Pos} {z : Bool}, s.nil = z → Ts C d (compEnvC sc [] Cc (envL L a cd)) (([("sign" : Str), "nothing", "fold"].zip [PV.str ⟨#[s.code]⟩, .bool s.nil, .str s.fold]).reverse ++ []) (.UnaryOp .Not (.Name "nothing" p1) p2) (!z) := fun {Cc sc p1 p2 z} hz => by
    subst hz
    exact Ts.not (Ts.val (Ev.name (by walk_at "lk") (by decide)) Tru.bool (fun _ => rfl))
  cases hn : s.nil with
  | true =>
    simp only [Bool.not_true, Bool.false_eq_true, if_false]
    rw [← hn]
    exact Ifs.one (Ts.cast (tn hn) rfl)
  | false =>
    simp only [Bool.not_false, if_true]
    rw [← hn]
    exact ⟨Ifs.one (Ts.cast (tn hn) rfl), Ev.name (by walk_at "lk") (by decide), Ev.name (by walk_at "lk") (by decide)⟩
noncomputable def zBw (sg : List Sg) : List Str := (stkOf sg).map (·.2)
theorem gM (sg : List Sg) : (stkOf sg).length ≤ sg.length := Nat.le_trans (fJ _) (List.length_filterMap_le ..)
theorem st9 (hsl : sg.length ≤ 1000) (hsys : C.hB.get? sysModules ≠ none) (hst : At m "stock" (sdictPV C (stkOf sg))) (hl : At m "list" (.fn (.type "list"))) : Es C d (envL L a cd) m (lSt 9) (.next (("folds", .lst (pstrs (zBw sg))) :: m)) := by
  have hz := aC
  have := gM sg
  exact Es.assign (Ev.callT (Ev.name hl (by decide)) (.cons (Ev.values hsys (Ev.name hst (by decide)) rfl rfl) (fun _ => rfl) .nil) (Calls.listView (by omega)) rfl) rfl (by walk_at "loc")
noncomputable def wN (r : Nat) : Nat := [2112, 64, 1088].getD r 0
theorem zJo {r : Nat} (hr : (script.sum).fmod 3 = (r : Int)) (hr3 : r < 3) (hs : At m "script" (.lst (pints script))) (hg : At m "sum" (.fn (.builtin "sum"))) : Es C d (envL L a cd) m (lSt 10) (.next (("weight", .int (2 ^ wN r)) :: m)) := by
  refine Es.assign (Ev.bin (q := .int (wN r : Nat)) Ev.int ?ix (Bin.pow2 ?p1 ?p2)) rfl (by walk_at "loc")
  case ix =>
    have e : ((wN r : Nat) : Int) = ([2112, 64, 1088] : List Int).getD r 0 := by
      rcases (by omega : r = 0 ∨ r = 1 ∨ r = 2) with rfl | rfl | rfl <;> rfl
    rw [e]
    exact Ev.tupAt (l := [2112, 64, 1088]) (Ev.tup (ps := [.int 2112, .int 64, .int 1088]) (by walk_at "go") ((nB rfl))) (Ev.cast (Ev.bin (Ev.callB (Ev.name hg (by decide)) (.cons (Ev.name hs (by decide)) (fun _ => rfl) .nil) (Calls.sum Its.lst) rfl) Ev.int (Bin.fmod (by decide))) (by rw [hr])) hr3 (by decide)
  case p1 => rcases (by omega : r = 0 ∨ r = 1 ∨ r = 2) with rfl | rfl | rfl <;> decide
  case p2 => rcases (by omega : r = 0 ∨ r = 1 ∨ r = 2) with rfl | rfl | rfl <;> decide
theorem zJn {row : Str} (hrl : row.length ≤ 1000) (hne : (lt == (" " : Str)) = false) (hrow : At m "row" (.str row)) (hlet : At m "letter" (oldStr C lt)) : Es C d (envL L a cd) m (lSt 11) (.next (("near", .str (Txt.replace row lt " ")) :: m)) :=
  Es.assign (Ev.replace (Ev.name hrow (by decide)) (eW.old (Ev.name hlet (by decide))) hne (by show row.length + (row.length + 1) * 1 ≤ 16777216; omega) (fun _ => rfl) (fun _ => rfl) rfl rfl rfl) rfl (by walk_at "loc")
theorem zCf {near : Str} (hrl : near.length ≤ 1000) (hnear : At m "near" (.str near)) : Es C d (envL L a cd) m (lSt 12) (.next (("far", .str (Txt.replace near "\t" " \t")) :: m)) :=
  Es.assign (Ev.replace (Ev.name hnear (by decide)) eW.lit (by decide) (by show near.length + (near.length + 1) * 2 ≤ 16777216; omega) (fun _ => rfl) (fun _ => rfl) rfl rfl rfl) rfl (by walk_at "loc")
theorem zJm {far : Str} {lg : Nat} (hfl : far.length ≤ 3000) (hsp : (Txt.split far "\t").length ≤ 3001) (hcell : ∀ c ∈ Txt.split far "\t", c.length ≤ lg) (hlg : lg ∈ (Txt.split far "\t").map (·.length)) (hlg2 : lg ≤ 100000) (hfar : At m "far" (.str far)) (hmax : At m "max" (.fn (.builtin "max")))
    (glen : C.mg (Str.ofString "len") = none ∧ C.mb (Str.ofString "len") = some (.builtin "len")) : Es C d (envL L a cd) m (lSt 13) (.next (("longest", .int (lg : Nat)) :: m)) := by
  have hz := aC
  refine Es.assign ?_ rfl (by walk_at "loc")
  refine Ev.callB (Ev.name hmax (by decide)) (.cons (Ev.cast (evListComp (cl := []) (Txt.split far "\t") (fun c => .str c) (fun c => some (.int (c.length : Nat))) [("len", .fn (.builtin "len"))] rfl (EvIt.of (Ev.meth (p := .str far) (ps := [.str "\t"]) (Ev.name hfar (by decide)) rfl ⟨PySem.F.plainAttrs_str, PySem.F.slot_str_split, PySem.F.type_str_split⟩ (.cons Ev.str (fun _ => rfl) .nil) (Calls.split (by decide) (by omega)) rfl rfl rfl) Its.lst) .nil (by show ([] : List Str).Nodup; decide) (by decide) rfl (by decide) (by omega)
    (fun Cc => .glob (fun _ _ => .fn _) rfl (.inr glen) .nil) ?c1) (p' := .lst (pints ((Txt.split far "\t").map fun c => ((c.length : Nat) : Int)))) ?e) (fun _ => rfl) .nil) (Calls.max Its.lst ?mem ?mx) rfl
  case e =>
    rw [aL]
    unfold pints
    rw [List.map_map]
    rfl
  case c1 =>
    intro Cc c hc
    have := hcell c hc
    refine ⟨_, Tgt.name rfl, Ifs.nil, ?_⟩
    exact Ev.callB (Ev.name (by walk_at "lk") (by decide)) (.cons (Ev.name (by walk_at "lk") (by decide)) (fun _ => rfl) .nil) (Calls.lenStr (by omega)) rfl
  case mem =>
    obtain ⟨c, hc, e⟩ := mM hlg
    exact List.mem_map.mpr ⟨c, hc, by rw [e]⟩
  case mx =>
    intro y hy
    obtain ⟨c, hc, rfl⟩ := mM hy
    have := hcell c hc
    exact Int.ofNat_le.mpr this
end
end
section
variable {C : Cx}
section
variable {d : Nat} {m : Vars} {L a : Addr} {cd : Value} {script : List Int} {f : Nat} {sg : List Sg} {ps fl : List Str} {lt : Str} {wt : Int} {lg : Nat}
noncomputable def lastOf (l : List Int) : Int := l.getD (l.length - 1) 0
theorem zJl {a19 : Addr} {cd19 : Value} (T : uE C) (F19 : FnT C 19 "_law_ways" a19 cd19) (hD : d < recursionLimit) (hps : At m "pieces" (.lst (pstrs ps))) (hfl : At m "folds" (.lst (pstrs fl))) (hlet : At m "letter" (oldStr C lt)) (hwt : At m "weight" (.int wt)) (hg : At m "_law_ways" (.fn (.ref a19)))
    (hj : JoinOk "" ps = true) (ht : (Txt.join "" ps).length ≤ 1000) (hf : fl.length ≤ 1000) (hf1 : ∀ f ∈ fl, 1 ≤ f.length) (hf2 : ∀ f ∈ fl, f.length ≤ 1000)
    (hw : Builtin.Int.intBits wt ≤ 2 ^ 17) (hW : ∀ e, e ≤ (Txt.join "" ps).length → ∀ x ∈ waysL (Txt.join "" ps) fl lt wt e, Builtin.Int.intBits x ≤ 2 ^ 17) :
    Es C d (envL L a cd) m (lSt 14) (.next (("book", .int (lastOf (waysL (Txt.join "" ps) fl lt wt (Txt.join "" ps).length))) :: m)) := by
  have hlen := cB (Txt.join "" ps) fl lt wt (Txt.join "" ps).length
  refine Es.assign ?_ rfl (by walk_at "loc")
  refine Ev.sub1 (p := .lst (pints (waysL (Txt.join "" ps) fl lt wt (Txt.join "" ps).length))) (q := .int (-1)) ?c (Ev.neg Ev.int) (Get.lstNeg (by decide) (by rw [pints_length]; omega) (by decide) ?z) rfl ⟨_, PySem.slot_list_getitem.lookup⟩ (by intro _ _; rfl)
  case z =>
    have e : (-1 + ((pints (waysL (Txt.join "" ps) fl lt wt (Txt.join "" ps).length)).length : Int)).toNat = (waysL (Txt.join "" ps) fl lt wt (Txt.join "" ps).length).length - 1 := by rw [pints_length]; omega
    rw [e]
    have := kI (waysL (Txt.join "" ps) fl lt wt (Txt.join "" ps).length) (i := (waysL (Txt.join "" ps) fl lt wt (Txt.join "" ps).length).length - 1) (by walk_at "o")
    simpa [lastOf] using this
  case c =>
    exact Ev.callF F19.is.at (Ev.name hg (by decide)) (.cons (Ev.meth (p := .str "") (ps := [.lst (pstrs ps)]) Ev.str rfl ⟨PySem.F.plainAttrs_str, PySem.F.slot_str_join, PySem.F.type_str_join⟩ (.cons (Ev.name hps (by decide)) (fun _ => rfl) .nil) (Calls.join hj) rfl rfl rfl) (fun _ => rfl)
      (.cons (Ev.name hfl (by decide)) (fun _ => rfl) (.cons (Ev.ofOld (Ev.name hlet (by decide))) (fun _ => rfl) (.cons (Ev.name hwt (by decide)) (fun _ => rfl) .nil)))) (jF T F19 hD ht hf hf1 hf2 hw hW) rfl
theorem zJk {a19 : Addr} {cd19 : Value} (T : uE C) (F19 : FnT C 19 "_law_ways" a19 cd19) (hD : d < recursionLimit) (hl1 : lt.length = 1) (hlg : lg ≤ 1000) (hlong : At m "longest" (.int (lg : Nat))) (hfl : At m "folds" (.lst (pstrs fl))) (hlet : At m "letter" (oldStr C lt)) (hwt : At m "weight" (.int wt)) (hg : At m "_law_ways" (.fn (.ref a19)))
    (hf : fl.length ≤ 1000) (hf1 : ∀ f ∈ fl, 1 ≤ f.length) (hf2 : ∀ f ∈ fl, f.length ≤ 1000)
    (hw : Builtin.Int.intBits wt ≤ 2 ^ 17) (hW : ∀ e, e ≤ lg → ∀ x ∈ waysL (strRep lt lg) fl lt wt e, Builtin.Int.intBits x ≤ 2 ^ 17) :
    Es C d (envL L a cd) m (lSt 15) (.next (("lines", .lst (pints (0 :: waysL (strRep lt lg) fl lt wt lg))) :: m)) := by
  have hz := aC
  have e1 : (strRep lt lg).length = lg := by rw [fH, hl1, Nat.mul_one]
  have hlen := cB (strRep lt lg) fl lt wt lg
  refine Es.assign ?_ rfl (by walk_at "loc")
  have e : pints (0 :: waysL (strRep lt lg) fl lt wt lg) = [.int 0] ++ pints (waysL (strRep lt lg) fl lt wt lg) := rfl
  rw [e]
  refine Ev.bin (Ev.lst (.cons Ev.int (fun _ => rfl) .nil) ((nB rfl))) ?c (Bin.addLst (by rw [pints_length, hlen]; show 1 + _ ≤ _; omega))
  case c =>
    have h := jF T F19 hD (text := strRep lt lg) (folds := fl) (letter := lt) (weight := wt) (by exact le_of_eq_of_le e1 hlg) hf hf1 hf2 hw (by rw [e1]; exact hW)
    rw [e1] at h
    exact Ev.callF F19.is.at (Ev.name hg (by decide)) (.cons (Ev.bin (Ev.ofOld (Ev.name hlet (by decide))) (Ev.name hlong (by decide)) (Bin.mulStr (n := lg) (by rw [hl1]; omega) (by omega) (by rw [hl1]; omega))) (fun _ => rfl)
      (.cons (Ev.name hfl (by decide)) (fun _ => rfl) (.cons (Ev.ofOld (Ev.name hlet (by decide))) (fun _ => rfl) (.cons (Ev.name hwt (by decide)) (fun _ => rfl) .nil)))) h rfl
noncomputable def wholeA (bk : Int) (t : Nat) : Int := if t % 2 == 1 then bk else -bk
noncomputable def partA (ln : List Int) (t : Nat) : Int := if t % 4 < 2 then ln.getD t 0 else -(ln.getD t 0)
theorem wT {x0 : Nat} {e1 e2 : Expr} {p1 p2 : Pos} {n : Nat} {env : Env} (hg : At m "range" (.fn (.type "range"))) (h1 : Ev C d env m e1 (.int x0)) (h2 : Ev C d env m e2 (.int ((x0 + n : Nat) : Int))) (hx : x0 ≤ 1000) (hn : n ≤ 100000)
    (hs1 : ∀ rest, starEach (e1 :: rest) env = (false, eval e1 env) :: starEach rest env) (hs2 : ∀ rest, starEach (e2 :: rest) env = (false, eval e2 env) :: starEach rest env)
    (hsh : eval (.Call (.Name "range" p1) [e1, e2] [] p2) env = (do callWith p2 (← eval (.Name "range" p1) env) [] (backTo p2 (starEach [e1, e2] env)) [])) :
    EvIt C d env m (.Call (.Name "range" p1) [e1, e2] [] p2) ((List.range n).map fun j => .int ((j + x0 : Nat) : Int)) := by
  have e : nums (x0 : Nat) 1 n = (List.range n).map fun j => .int ((j + x0 : Nat) : Int) := by
    unfold nums
    refine List.map_congr_left fun j _ => ?_
    congr 1
    omega
  rw [← e]
  exact EvIt.of (Ev.callT (ps := [.int (x0 : Nat), .int ((x0 + n : Nat) : Int)]) (Ev.name hg (by decide)) (.cons h1 hs1 (.cons h2 hs2 .nil)) Calls.range2 hsh) (Its.rng (n := n) (small_range (by exact Int.natCast_nonneg x0) (by omega) (by omega) (by exact Int.natCast_nonneg (x0 + n))) (by rw [size_range]; omega))
theorem zJj {bk : Int} {ln : List Int} (hlg : lg ≤ 1000) (hln : ln.length = lg + 2) (hlong : At m "longest" (.int (lg : Nat))) (hg : At m "range" (.fn (.type "range"))) (hbk : At m "book" (.int bk)) (hlns : At m "lines" (.lst (pints ln))) :
    Es C d (envL L a cd) m (lSt 16) (.next (("signed", .lst ((List.range lg).map fun j => .tup [.int (wholeA bk (j + 2)), .int (partA ln (j + 2))])) :: m)) := by
  have hz := aC
  have e : ((List.range lg).map fun j => PV.tup [.int (wholeA bk (j + 2)), .int (partA ln (j + 2))]) = (List.range lg).filterMap fun j => some (PV.tup [.int (wholeA bk (j + 2)), .int (partA ln (j + 2))]) := by rw [aL]
  rw [e]
  refine bS (cl := [("lines", L + 5), ("book", L + 4)]) (List.range lg) (fun j => .int ((j + 2 : Nat) : Int)) (fun j => some (PV.tup [.int (wholeA bk (j + 2)), .int (partA ln (j + 2))])) [("book", .int bk), ("lines", .lst (pints ln))] rfl rfl
    (wT (x0 := 2) hg Ev.int (Ev.cast (Ev.bin (Ev.name hlong (by decide)) Ev.int Bin.add) (by congr 1; omega)) (by exact (nB rfl)) (by omega) (fun _ => rfl) (fun _ => rfl) rfl) (.cons rfl (.cons rfl .nil)) (by show [("lines" : Str), "book"].Nodup; decide) (by decide) rfl (by decide) (by simp; omega)
    (fun Cc => .cell hbk (by walk_at "free") (by walk_at "free") rfl (.cell hlns (by walk_at "free") (by walk_at "free") rfl .nil)) ?c1 (by walk_at "loc")
  intro Cc j hj
  have hj := List.mem_range.mp hj
  refine ⟨_, Tgt.name rfl, Ifs.nil, ?_⟩
  refine Ev.tup (.cons ?whl (fun _ => rfl) (.cons ?prt (fun _ => rfl) .nil)) ((nB rfl))
  case whl =>
    have tt : ∀ {z : Bool}, ((j + 2) % 2 == 1) = z → (((((j + 2 : Nat) : Int)).fmod 2) == 1) = z := fun {z} h => by
      rw [← h, Int.fmod_eq_emod_of_nonneg _ (by decide)]
      rw [Bool.eq_iff_iff, beq_iff_eq, beq_iff_eq]
      walk_at "o"
    unfold wholeA
    cases hb : ((j + 2) % 2 == 1) with
    | true =>
      rw [if_pos rfl]
      exact Ev.ifTrue (Ts.cast (Ts.cmp (Ev.bin (Ev.name (by walk_at "lk") (by decide)) Ev.int (Bin.fmod (by decide))) Ev.int Cmp.eq rfl) (tt hb)) (Ev.name (by walk_at "lk") (by decide))
    | false =>
      rw [if_neg (by decide)]
      exact Ev.ifFalse (Ts.cast (Ts.cmp (Ev.bin (Ev.name (by walk_at "lk") (by decide)) Ev.int (Bin.fmod (by decide))) Ev.int Cmp.eq rfl) (tt hb)) (Ev.neg (Ev.name (by walk_at "lk") (by decide)))
  case prt =>
    unfold partA
    by_cases hb : (j + 2) % 4 < 2
    · rw [if_pos hb]
      refine Ev.ifTrue (Ts.cast (Ts.cmp (Ev.bin (Ev.name (by walk_at "lk") (by decide)) Ev.int (Bin.fmod (by decide))) Ev.int Cmp.lt rfl) ?_) (Ev.lstAt (Ev.name (by walk_at "lk") (by decide)) (Ev.name (by walk_at "lk") (by decide)) (by omega) (by omega))
      rw [Int.fmod_eq_emod_of_nonneg _ (by decide), decide_eq_true_iff]
      exact Int.lt_of_toNat_lt hb
    · rw [if_neg hb]
      refine Ev.ifFalse (Ts.cast (Ts.cmp (Ev.bin (Ev.name (by walk_at "lk") (by decide)) Ev.int (Bin.fmod (by decide))) Ev.int Cmp.lt rfl) ?_) (Ev.neg (Ev.lstAt (Ev.name (by walk_at "lk") (by decide)) (Ev.name (by walk_at "lk") (by decide)) (by omega) (by omega)))
      rw [Int.fmod_eq_emod_of_nonneg _ (by decide), decide_eq_false_iff_not]
      omega
theorem zJi {a20 : Addr} {cd20 : Value} (F20 : FnT C 20 "_law_times" a20 cd20) {bk : Int} {ln : List Int} {row : Str} (tm : Nat → Nat) (hlg : lg ≤ 1000) (hrow : At m "row" (.str row)) (hsg : At m "signed" (.lst ((List.range lg).map fun j => .tup [.int (wholeA bk (j + 2)), .int (partA ln (j + 2))])))
    (hcall : ∀ j, j < lg → Calls C d (.ref a20) [.int (wholeA bk (j + 2)), .int (partA ln (j + 2))] (.int (tm (j + 2) : Nat))) (hc : Txt.count row "\t" = tm 1) (h0 : tm 0 = 0) :
    Es C d (envL L a cd) m (lSt 17) (.next (("times", .lst (pints ((List.range (lg + 2)).map fun t => ((tm t : Nat) : Int)))) :: m)) := by
  have hz := aC
  refine Es.assign ?_ rfl (by walk_at "loc")
  have e : pints ((List.range (lg + 2)).map fun t => ((tm t : Nat) : Int)) = [.int 0, .int (tm 1 : Nat)] ++ pints ((List.range lg).map fun j => ((tm (j + 2) : Nat) : Int)) := by
    have : (List.range (lg + 2)).map (fun t => ((tm t : Nat) : Int)) = [0, ((tm 1 : Nat) : Int)] ++ (List.range lg).map fun j => ((tm (j + 2) : Nat) : Int) := by
      rw [List.range_succ_eq_map, List.range_succ_eq_map]
      simp only [List.map_cons, List.map_map, h0]
      rfl
    rw [this, dU]
    rfl
  rw [e]
  refine Ev.bin (Ev.lst (.cons Ev.int (fun _ => rfl) (.cons ?cn (fun _ => rfl) .nil)) ((nB rfl))) (Ev.cast (evListComp (cl := []) (List.range lg) (fun j => .tup [.int (wholeA bk (j + 2)), .int (partA ln (j + 2))]) (fun j => some (.int ((tm (j + 2) : Nat) : Int))) [("_law_times", .fn (.ref a20))] rfl (EvIt.of (Ev.name hsg (by decide)) Its.lst) .nil (by show ([] : List Str).Nodup; decide) (by decide) rfl (by decide) (by simp; omega)
    (fun Cc => .glob (fun _ _ => .fn _) rfl (.inl F20.g) .nil) ?c1) ?e2) (Bin.addLst ?sz)
  case sz =>
    rw [pints_length, List.length_map, List.length_range]
    show 2 + _ ≤ _
    omega
  case cn =>
    refine Ev.cast (Ev.meth (p := .str row) (ps := [.str "\t"]) (Ev.name hrow (by decide)) rfl ⟨PySem.F.plainAttrs_str, PySem.F.slot_str_count, PySem.F.type_str_count⟩ (.cons Ev.str (fun _ => rfl) .nil) Calls.count rfl rfl rfl) ?_
    rw [hc]
  case e2 =>
    rw [aL]
    unfold pints
    rw [List.map_map]
    rfl
  case c1 =>
    intro Cc j hj
    have hj := List.mem_range.mp hj
    refine ⟨_, Tgt.tup (xs := ["whole", "part"]) (.cons (.cons .nil)) rfl (by walk_at "tgl"), Ifs.nil, ?_⟩
    exact Ev.callF F20.is.at (Ev.name (by walk_at "lk") (by decide)) (.cons (Ev.name (by walk_at "lk") (by decide)) (fun _ => rfl) (.cons (Ev.name (by walk_at "lk") (by decide)) (fun _ => rfl) .nil)) (hcall j hj) rfl
end
end
section
variable {C : Cx}
section
variable {d : Nat} {m : Vars} {L a : Addr} {cd : Value} {script : List Int} {lg : Nat}
noncomputable def cV (b : Nat) : Str := ([("" : Str), "\t", " "] : List Str).getD b ""
theorem zJh {b : Nat} (hb : script.length % 3 = b) (hsc : script.length ≤ 63) (hs : At m "script" (.lst (pints script))) (hl : At m "len" (.fn (.builtin "len"))) : Es C d (envL L a cd) m (lSt 18) (.next (("behind", .str (cV b)) :: m)) := by
  have hb3 : b < 3 := by omega
  refine Es.assign (Ev.sub1 (p := .tup [.str "", .str "\t", .str " "]) (q := .int (b : Nat)) (Ev.tup (.cons Ev.str (fun _ => rfl) (.cons Ev.str (fun _ => rfl) (.cons Ev.str (fun _ => rfl) .nil))) ((nB rfl))) (Ev.cast (Ev.bin (Ev.callB (Ev.name hl (by decide)) (.cons (Ev.name hs (by decide)) (fun _ => rfl) .nil) (Calls.lenLst (by rw [pints_length]; omega)) rfl) Ev.int (Bin.fmod (by decide))) ?ix)
    (Get.tup (by exact Int.natCast_nonneg b) (by omega) ?z) rfl ⟨_, PySem.F.slot_tuple_getitem.lookup⟩ (by intro _ _; rfl)) rfl (by walk_at "loc")
  case ix =>
    rw [pints_length, Int.fmod_eq_emod_of_nonneg _ (by decide)]
    congr 1
    exact Eq.symm ((fun {a b} => Int.neg_inj.mp) (congrArg Neg.neg (congrArg Nat.cast (id (Eq.symm hb)))))
  case z => rcases (by omega : b = 0 ∨ b = 1 ∨ b = 2) with rfl | rfl | rfl <;> rfl
theorem zJg {beh : Str} {tb bl : Nat} (htb : Txt.count beh "\t" = tb) (hbl : Txt.count beh " " = bl) (hbeh : At m "behind" (.str beh)) : Es C d (envL L a cd) m (lSt 19) (.next (("blank", .int (bl : Nat)) :: ("tab", .int (tb : Nat)) :: m)) := by
  rw [← htb, ← hbl]
  refine Es.unpack (xs := ["tab", "blank"]) (ps := [.int (Txt.count beh "\t"), .int (Txt.count beh " ")]) (Ev.tup (.cons (Ev.meth (p := .str beh) (ps := [.str "\t"]) (Ev.name hbeh (by decide)) rfl ⟨PySem.F.plainAttrs_str, PySem.F.slot_str_count, PySem.F.type_str_count⟩ (.cons Ev.str (fun _ => rfl) .nil) Calls.count rfl rfl rfl) (fun _ => rfl)
    (.cons (Ev.meth (p := .str beh) (ps := [.str " "]) (Ev.name hbeh (by decide)) rfl ⟨PySem.F.plainAttrs_str, PySem.F.slot_str_count, PySem.F.type_str_count⟩ (.cons Ev.str (fun _ => rfl) .nil) Calls.count rfl rfl rfl) (fun _ => rfl) .nil)) ((nB rfl))) rfl (by walk_at "locs") (.cons (.cons .nil)) rfl rfl
noncomputable def gW (beh : Str) (tm : Nat → Nat) (t : Nat) : Bool := (beh.cps.toList != ("" : Str).cps.toList) || ((tm t : Int) != 0)
noncomputable def szsOf (beh : Str) (tm : Nat → Nat) (lg : Nat) : List Nat := ((List.range (lg + 1)).map (· + 1)).filter (gW beh tm)
theorem mO {beh : Str} {tm : Nat → Nat} {t : Nat} (h : t ∈ szsOf beh tm lg) : 1 ≤ t ∧ t ≤ lg + 1 := by
  obtain ⟨h1, _⟩ := List.mem_filter.mp h
  obtain ⟨j, hj, rfl⟩ := mM h1
  have := List.mem_range.mp hj
  omega
theorem gL (beh : Str) (tm : Nat → Nat) : (szsOf beh tm lg).length ≤ lg + 1 := Nat.le_trans (List.length_filter_le ..) (by simp)
noncomputable def tmL (tm : Nat → Nat) (lg : Nat) : List Int := (List.range (lg + 2)).map fun t => ((tm t : Nat) : Int)
theorem wL (tm : Nat → Nat) {t : Nat} (h : t ≤ lg + 1) : (tmL tm lg).getD t 0 = (tm t : Nat) := by
  unfold tmL
  rw [List.getD_eq_getElem?_getD, List.getElem?_map, List.getElem?_range (by exact Nat.lt_succ_of_le h)]
  rfl
theorem fN (tm : Nat → Nat) : (tmL tm lg).length = lg + 2 := by simp [tmL]
theorem zJf {a21 : Addr} {cd21 : Value} (F21 : FnT C 21 "_law_column" a21 cd21) (hD : d < recursionLimit) {beh near : Str} {tm : Nat → Nat} (hlg : lg ≤ 1000) (hlong : At m "longest" (.int (lg : Nat))) (hg : At m "range" (.fn (.type "range"))) (hbeh : At m "behind" (.str beh)) (hnear : At m "near" (.str near)) (htm : At m "times" (.lst (pints (tmL tm lg)))) :
    Es C d (envL L a cd) m (lSt 20) (.next (("columns", .lst ((szsOf beh tm lg).map fun t => .tup [.int (t : Nat), .int (col t near.cps.toList)])) :: m)) := by
  have hz := aC
  have htl := fN (lg := lg) tm
  have e : ((szsOf beh tm lg).map fun t => PV.tup [.int (t : Nat), .int (col t near.cps.toList)]) = (List.range (lg + 1)).filterMap fun j => if gW beh tm (j + 1) = true then some (PV.tup [.int (j + 1 : Nat), .int (col (j + 1 : Nat) near.cps.toList)]) else none := by
    unfold szsOf
    rw [eD, List.filter_map, List.map_map]
    rfl
  rw [e]
  refine bS (cl := [("times", L + 6), ("near", L + 3), ("behind", L + 7)]) (List.range (lg + 1)) (fun j => .int ((j + 1 : Nat) : Int)) (fun j => if gW beh tm (j + 1) = true then some (PV.tup [.int (j + 1 : Nat), .int (col (j + 1 : Nat) near.cps.toList)]) else none)
    [("times", .lst (pints (tmL tm lg))), ("near", .str near), ("behind", .str beh), ("_law_column", .fn (.ref a21))] rfl rfl
    (wT (x0 := 1) hg Ev.int (Ev.cast (Ev.bin (Ev.name hlong (by decide)) Ev.int Bin.add) (by congr 1; omega)) (by exact (nB rfl)) (by omega) (fun _ => rfl) (fun _ => rfl) rfl) (.cons rfl (.cons rfl (.cons rfl .nil))) (by show [("times" : Str), "near", "behind"].Nodup; decide) (by decide) rfl (by decide) (by simp; omega)
    (fun Cc => .cell htm (by walk_at "free") (by walk_at "free") rfl (.cell hnear (by walk_at "free") (by walk_at "free") rfl (.cell hbeh (by walk_at "free") (by walk_at "free") rfl (.glob (fun _ _ => .fn _) rfl (.inl F21.g) .nil)))) ?c1 (by walk_at "loc")
  intro Cc j hj
  have hj := List.mem_range.mp hj
  have hat := wL (lg := lg) tm (t := j + 1) (by exact hj)
  refine ⟨_, Tgt.name rfl, ?_⟩
  cases hb : (beh.cps.toList != ("" : Str).cps.toList) with
  | true =>
    have hk : gW beh tm (j + 1) = true := by unfold gW; rw [hb]; rfl
    rw [hk]
    simp only [if_true]
    refine ⟨Ifs.one (Ts.orT (Ts.cast (Ts.cmp (Ev.name (by walk_at "lk") (by decide)) Ev.str Cmp.neStr rfl) hb)), ?_⟩
    exact Ev.tup (.cons (Ev.name (by walk_at "lk") (by decide)) (fun _ => rfl) (.cons (Ev.callF F21.is.at (Ev.name (by walk_at "lk") (by decide)) (.cons (Ev.name (by walk_at "lk") (by decide)) (fun _ => rfl) (.cons (Ev.name (by walk_at "lk") (by decide)) (fun _ => rfl) .nil)) (fL F21 hD (by exact Ne.symm ((fun {x y} => bi_ine.mp) rfl))) rfl) (fun _ => rfl) .nil)) ((nB rfl))
  | false =>
    have hk : gW beh tm (j + 1) = ((tm (j + 1) : Int) != 0) := by unfold gW; rw [hb, Bool.false_or]
    rw [hk]
    cases hb2 : ((tm (j + 1) : Int) != 0) with
    | true =>
      simp only [if_true]
      refine ⟨Ifs.one (Ts.orF (Ts.cast (Ts.cmp (Ev.name (by walk_at "lk") (by decide)) Ev.str Cmp.neStr rfl) hb) (Ts.orT (Ts.cast (Ts.cmp (Ev.lstAt (Ev.name (by walk_at "lk") (by decide)) (Ev.name (by walk_at "lk") (by decide)) (by omega) (by omega)) Ev.int Cmp.ne rfl) (by rw [hat]; exact hb2)))), ?_⟩
      exact Ev.tup (.cons (Ev.name (by walk_at "lk") (by decide)) (fun _ => rfl) (.cons (Ev.callF F21.is.at (Ev.name (by walk_at "lk") (by decide)) (.cons (Ev.name (by walk_at "lk") (by decide)) (fun _ => rfl) (.cons (Ev.name (by walk_at "lk") (by decide)) (fun _ => rfl) .nil)) (fL F21 hD (by exact Ne.symm ((fun {x y} => bi_ine.mp) rfl))) rfl) (fun _ => rfl) .nil)) ((nB rfl))
    | false =>
      simp only [Bool.false_eq_true, if_false]
      exact Ifs.one (Ts.orF (Ts.cast (Ts.cmp (Ev.name (by walk_at "lk") (by decide)) Ev.str Cmp.neStr rfl) hb) (Ts.orF (Ts.cast (Ts.cmp (Ev.lstAt (Ev.name (by walk_at "lk") (by decide)) (Ev.name (by walk_at "lk") (by decide)) (by omega) (by omega)) Ev.int Cmp.ne rfl) (by rw [hat]; exact hb2)) Ts.orNil))
noncomputable def hK (near : Str) (tm : Nat → Nat) (tb bl : Nat) (t : Nat) : Int × Int × Int := ((t : Nat), col t near.cps.toList + (t : Nat) * ((tm t : Nat) + (tb : Nat)) + (bl : Nat), col t near.cps.toList)
theorem zJe {beh near : Str} {tm : Nat → Nat} {tb bl : Nat} (hlg : lg ≤ 1000) (htb : tb ≤ 100) (htms : ∀ t, t ≤ lg + 1 → tm t ≤ 1000) (hcols : At m "columns" (.lst ((szsOf beh tm lg).map fun t => .tup [.int (t : Nat), .int (col t near.cps.toList)]))) (htm : At m "times" (.lst (pints (tmL tm lg)))) (htab : At m "tab" (.int (tb : Nat))) (hbl : At m "blank" (.int (bl : Nat))) :
    Es C d (envL L a cd) m (lSt 21) (.next (("due", .lst (((szsOf beh tm lg).map (hK near tm tb bl)).map trip)) :: m)) := by
  have hz := aC
  have htl := fN (lg := lg) tm
  have hsl := gL (lg := lg) beh tm
  have e : ((szsOf beh tm lg).map (hK near tm tb bl)).map trip = (szsOf beh tm lg).filterMap fun t => some (trip (hK near tm tb bl t)) := by rw [aL, List.map_map]; rfl
  rw [e]
  refine bS (cl := [("times", L + 6), ("tab", L + 8), ("blank", L + 9)]) (szsOf beh tm lg) (fun t => .tup [.int (t : Nat), .int (col t near.cps.toList)]) (fun t => some (trip (hK near tm tb bl t)))
    [("times", .lst (pints (tmL tm lg))), ("tab", .int (tb : Nat)), ("blank", .int (bl : Nat))] rfl rfl
    (EvIt.of (Ev.name hcols (by decide)) Its.lst) (.cons rfl (.cons rfl (.cons rfl .nil))) (by show [("times" : Str), "tab", "blank"].Nodup; decide) (by decide) rfl (by decide) (by omega)
    (fun Cc => .cell htm (by walk_at "free") (by walk_at "free") rfl (.cell htab (by walk_at "free") (by walk_at "free") rfl (.cell hbl (by walk_at "free") (by walk_at "free") rfl .nil))) ?c1 (by walk_at "loc")
  intro Cc t ht
  obtain ⟨h1, h2⟩ := mO ht
  have hat := wL (lg := lg) tm (t := t) h2
  have htt := htms t h2
  refine ⟨_, Tgt.tup (xs := ["size", "column"]) (.cons (.cons .nil)) rfl (by walk_at "tgl"), Ifs.nil, ?_⟩
  refine Ev.tup (.cons (Ev.name (by walk_at "lk") (by decide)) (fun _ => rfl) (.cons (Ev.bin (Ev.bin (Ev.name (by walk_at "lk") (by decide)) (Ev.bin (q := .int ((tm t : Nat) + (tb : Nat))) (Ev.name (by walk_at "lk") (by decide)) (Ev.bin (Ev.cast (Ev.lstAt (l := tmL tm lg) (i := t) (Ev.name (by walk_at "lk") (by decide)) (Ev.name (by walk_at "lk") (by decide)) (by omega) (by omega)) (by rw [hat])) (Ev.name (by walk_at "lk") (by decide)) Bin.add) (Bin.mul ?mu)) Bin.add) (Ev.name (by walk_at "lk") (by decide)) Bin.add) (fun _ => rfl) (.cons (Ev.name (by walk_at "lk") (by decide)) (fun _ => rfl) .nil))) ((nB rfl))
  case mu =>
    have e20 : (2 : Int) ^ 20 = 1048576 := by decide
    exact mulOk_of_bits (m := 20) (n := 20) (aN (by exact Int.natCast_nonneg t) (by omega)) (aN (by exact Int.zero_le_ofNat (tm t + tb)) (by omega)) (by decide)
end
end
section
variable {C : Cx}
section
variable {d : Nat} {m : Vars} {L a : Addr} {cd : Value} {script : List Int} {lg : Nat} {K N : Addr} {mN : Str → Option Value}
theorem wG {env : Env} (T : WsT C K N mN) {f : Addr} {cdf : Value} (F0 : MethT C 1 "__init__" "Whitespace.__init__" mN f cdf) (hD : d + 1 < recursionLimit) {e : Expr} {p1 pos : Pos} {x : Str} {l : List Bool} (hl : l.length ≤ 10000) (hx : LeadT x l) (hg : At m "Whitespace" (.fn (.ref K))) (he : Ev C d env m e (.str x))
    (hs : ∀ rest, starEach (e :: rest) env = (false, eval e env) :: starEach rest env)
    (hsh : eval (.Call (.Name "Whitespace" p1) [e] [] pos) env = (do callWith pos (← eval (.Name "Whitespace" p1) env) [] (backTo pos (starEach [e] env)) [])) :
    Ev C d env m (.Call (.Name "Whitespace" p1) [e] [] pos) (.sem (InstIs K (wattrs x l))) := by
  refine eM F0.is.obj fun o pm doc h1 h2 h3 => ?_
  exact Ev.make T.X (Ev.name hg (by decide)) (.cons he hs .nil) F0.n F0.is.tab h1 h2 (rR T F0 hD hl hx) rfl hsh
theorem zJd (T : WsT C K N mN) {f : Addr} {cdf : Value} (F0 : MethT C 1 "__init__" "Whitespace.__init__" mN f cdf) (hD : d + 1 < recursionLimit) {far beh lt row : Str} {l : List Bool} (hl : l.length ≤ 10000) (hx : LeadT (cat (cat (cat far beh) lt) row) l) (hz : far.length + beh.length + lt.length + row.length ≤ 100000)
    (hg : At m "Whitespace" (.fn (.ref K))) (hfar : At m "far" (.str far)) (hbeh : At m "behind" (.str beh)) (hlet : At m "letter" (oldStr C lt)) (hrow : At m "row" (.str row)) :
    Es C d (envL L a cd) m (lSt 22) (.next (("loose", .sem (InstIs K (wattrs (cat (cat (cat far beh) lt) row) l))) :: m)) := by
  have hsz := aC
  have c1 : (cat far beh).length = far.length + beh.length := Array.size_append
  have c2 : (cat (cat far beh) lt).length = (cat far beh).length + lt.length := Array.size_append
  refine Es.assign (wG T F0 hD hl hx hg ?ar (fun _ => rfl) rfl) rfl (by walk_at "loc")
  exact Ev.bin (Ev.bin (Ev.bin (Ev.name hfar (by decide)) (Ev.name hbeh (by decide)) (Bin.addStr (by omega))) (Ev.ofOld (Ev.name hlet (by decide))) (Bin.addStr (by show (cat far beh).length + _ ≤ _; omega))) (Ev.name hrow (by decide)) (Bin.addStr (by show (cat (cat far beh) lt).length + _ ≤ _; omega))
theorem zJc (T : WsT C K N mN) {f f2 f3 f5 : Addr} {cdf cd2 cd3 cd5 : Value} (F0 : MethT C 1 "__init__" "Whitespace.__init__" mN f cdf) (F2 : MethT C 2 "longest_run_of_spaces" "Whitespace.longest_run_of_spaces" mN f2 cd2) (F3 : MethT C 3 "indent_level" "Whitespace.indent_level" mN f3 cd3) (F5 : MethT C 5 "not_equal_witness" "Whitespace.not_equal_witness" mN f5 cd5)
    (hD : d + 1 < recursionLimit) {near lt row x : Str} {l k : List Bool} (hl : l.length ≤ 10000) (hk : k.length ≤ 10000) (hy : LeadT (cat (cat near lt) row) k) (hz : near.length + lt.length + row.length ≤ 100000)
    (hg : At m "Whitespace" (.fn (.ref K))) (hlo : At m "loose" (.sem (InstIs K (wattrs x l)))) (hnear : At m "near" (.str near)) (hlet : At m "letter" (oldStr C lt)) (hrow : At m "row" (.str row)) :
    Es C d (envL L a cd) m (lSt 23) (.next (("table", .lst ((witT l k (wmax l k).toNat).map trip)) :: m)) := by
  have hsz := aC
  have c1 : (cat near lt).length = near.length + lt.length := Array.size_append
  refine Es.assign (Ev.callM (y := none) (attrs := wattrs x l) T.X (Ev.name hlo (by decide)) (.cons (wG T F0 hD hk hy hg ?ar (fun _ => rfl) rfl) (fun _ => rfl) .nil) F5.is F5.n rfl (by rw [typeLookup_type, builtinLookup_eq_fast]; kernel_rfl) (lY T F5 F2 F3 hD hl hk) rfl) rfl (by walk_at "loc")
  exact Ev.bin (Ev.bin (Ev.name hnear (by decide)) (Ev.ofOld (Ev.name hlet (by decide))) (Bin.addStr (by omega))) (Ev.name hrow (by decide)) (Bin.addStr (by show (cat near lt).length + _ ≤ _; omega))
noncomputable def wordsOf (n : Nat) (l : List Int) : Str := cat (cat (cat "at tab size" (if n > 1 then "s" else "")) " ") (Txt.join ", " (shown l))
theorem zJb {ds : List (Int × Int × Int)} (hdl : ds.length ≤ 10000) (hlog : ∀ x ∈ ds, x.1.natAbs.log2 < 1920) (hok : JoinOk ", " (shown (ds.map (·.1))) = true) (hjl : (Txt.join ", " (shown (ds.map (·.1)))).length ≤ 1000000)
    (hdue : At m "due" (.lst (ds.map trip))) (hl : At m "len" (.fn (.builtin "len"))) (gstr : C.mg (Str.ofString "str") = none ∧ C.mb (Str.ofString "str") = some (.type "str")) :
    Es C d (envL L a cd) m (lSt 24) (.next (("words", .str (wordsOf ds.length (ds.map (·.1)))) :: m)) := by
  have hsz := aC
  have hml : (ds.map trip).length = ds.length := List.length_map ..
  refine Es.assign ?_ rfl (by walk_at "loc")
  have hs : ∀ (z : Str), z.length ≤ 1 → (cat "at tab size" z).length ≤ 12 := fun z hz => by
    have e : (cat "at tab size" z).length = 11 + z.length := Array.size_append
    omega
  have hsl : ((if ds.length > 1 then "s" else "" : Str)).length ≤ 1 := by split <;> decide
  have c3 : (cat (cat "at tab size" (if ds.length > 1 then "s" else "")) " ").length = (cat "at tab size" (if ds.length > 1 then "s" else "")).length + 1 := Array.size_append
  have h12 := hs _ hsl
  refine Ev.bin (Ev.bin (Ev.bin Ev.str (q := .str (if ds.length > 1 then "s" else "")) ?plural (Bin.addStr (by show 11 + _ ≤ _; omega))) Ev.str (Bin.addStr (by show (cat "at tab size" (if ds.length > 1 then "s" else "")).length + 1 ≤ _; omega))) (Ev.meth (p := .str ", ") (ps := [.lst (pstrs (shown (ds.map (·.1))))]) Ev.str rfl ⟨PySem.F.plainAttrs_str, PySem.F.slot_str_join, PySem.F.type_str_join⟩ (.cons ?lc (fun _ => rfl) .nil) (Calls.join hok) rfl rfl rfl)
    (Bin.addStr (by show (cat (cat "at tab size" (if ds.length > 1 then "s" else "")) " ").length + _ ≤ _; omega))
  case plural =>
    by_cases h : ds.length > 1
    · rw [if_pos h]
      refine Ev.ifTrue (Ts.cast (Ts.cmp (Ev.callB (Ev.name hl (by decide)) (.cons (Ev.name hdue (by decide)) (fun _ => rfl) .nil) (Calls.lenLst (by omega)) rfl) Ev.int Cmp.gt rfl) ?_) Ev.str
      rw [hml, decide_eq_true_iff]
      exact Int.lt_of_toNat_lt h
    · rw [if_neg h]
      refine Ev.ifFalse (Ts.cast (Ts.cmp (Ev.callB (Ev.name hl (by decide)) (.cons (Ev.name hdue (by decide)) (fun _ => rfl) .nil) (Calls.lenLst (by omega)) rfl) Ev.int Cmp.gt rfl) ?_) Ev.str
      rw [hml, decide_eq_false_iff_not]
      omega
  case lc =>
    refine Ev.cast (evListComp (cl := []) ds trip (fun x => some (.str (Str.ofString (toString x.1)))) [("str", .fn (.type "str"))] rfl (EvIt.of (Ev.name hdue (by decide)) Its.lst) .nil (by show ([] : List Str).Nodup; decide) (by decide) rfl (by decide) (by omega)
      (fun Cc => .glob (fun _ _ => .fn _) rfl (.inr gstr) .nil) ?c1) ?e2
    case e2 =>
      rw [aL]
      unfold pstrs shown
      rw [List.map_map, List.map_map]
      rfl
    case c1 =>
      intro Cc x hx
      refine ⟨_, Tgt.tup (xs := ["size", "more", "column"]) (.cons (.cons (.cons .nil))) rfl (by walk_at "tgl"), Ifs.nil, ?_⟩
      exact Ev.callT (Ev.name (by walk_at "lk") (by decide)) (.cons (Ev.name (by walk_at "lk") (by decide)) (fun _ => rfl) .nil) (Calls.strInt (hlog x hx)) rfl
theorem yI (x : Int × Int × Int) : Dat 1 (trip x) := .tup fun p hp => by
  simp only [List.mem_cons, List.not_mem_nil, or_false] at hp
  rcases hp with rfl | rfl | rfl <;> exact .int _
theorem vY {k : Nat} (l : List Int) : ∀ p ∈ pints l, Dat k p := fun p hp => by
  obtain ⟨i, _, rfl⟩ := mM hp
  exact .int _
theorem zJa (T : WsT C K N mN) (TF : zGa C) (TR : yY C) {f16 c16 P16 a22 : Addr} {cd22 : Value} (F16 : FnT C 16 "format_witnesses" f16 (.ref c16)) (N16 : NestOk C c16 P16 ⟨144, 13, 144, 39⟩ qFmt) (F22 : FnT C 22 "_law_runs" a22 cd22) (hD : d + 1 < recursionLimit) (hd : 10 * d + 5 < cLine)
    {ds : List (Int × Int × Int)} {x : Str} {l : List Bool} {tm : Nat → Nat} {tb bl : Nat} (rv : Nat → Int) (hdl : ds.length ≤ 10000) (hlog : ∀ x ∈ ds, x.1.natAbs.log2 < 1920) (hok : JoinOk ", " (shown (ds.map (·.1))) = true) (hjl : (Txt.join ", " (shown (ds.map (·.1)))).length ≤ 1000000)
    (hlg : lg ≤ 900) (hlg1 : 1 ≤ lg) (hr : ∀ s, 1 ≤ s → s < lg + 2 → rv s = (tmL tm lg).getD s 0 - ((mults s (lg + 2)).map rv).sum)
    (hn1 : (wrun l).1 = (tb : Int) :: (List.range lg).map fun j => rv (j + 1)) (hn2 : (wrun l).2 = (bl : Nat))
    (htab : At m "table" (.lst (ds.map trip))) (hdue : At m "due" (.lst (ds.map trip))) (hw : At m "words" (.str (wordsOf ds.length (ds.map (·.1))))) (hlo : At m "loose" (.sem (InstIs K (wattrs x l)))) (htbv : At m "tab" (.int (tb : Nat))) (hblv : At m "blank" (.int (bl : Nat))) (htm : At m "times" (.lst (pints (tmL tm lg))))
    (gf : At m "format_witnesses" (.fn (.ref f16))) (gr : At m "_law_runs" (.fn (.ref a22))) :
    Es C d (envL L a cd) m (lSt 25) (.ret (.bool true)) := by
  have hsz := aC
  have hfmt := zFr TF F16 N16 hD (ws := ds) (by omega) hlog hok hjl
  have hruns := qU TR F22 (by exact Nat.lt_of_succ_lt hD : d < recursionLimit) (fN (lg := lg) tm) (by exact Nat.le_add_left 2 lg) (by omega) rv hr
  have e2 : lg + 2 - 2 = lg := by exact Eq.refl (lg + 2 - 2)
  rw [e2] at hruns
  have hwn : PV.tup [.tup (.int (tb : Nat) :: pints ((List.range lg).map fun j => rv (j + 1))), .int (bl : Nat)] = wnorm l := by
    unfold wnorm
    rw [hn1, hn2]
    rfl
  refine Es.ret (Ev.andT (Ev.cmp (Ev.name htab (by decide)) (Ev.name hdue (by decide)) (Cmp.eqDatL (k := 1) (fun p hp => ?da) (by omega)) rfl) (Ev.andT (Ev.cast (Ev.cmp (Ev.callF F16.is.at (Ev.name gf (by decide)) (.cons (Ev.name htab (by decide)) (fun _ => rfl) .nil) hfmt rfl) (Ev.name hw (by decide)) Cmp.eqStr rfl) ?we) (Ev.and1 (Ev.cmp (p := wnorm l) (q := wnorm l) ?nrm ?rhs (Cmp.eqDatT (k := 1) ?db (by omega)) rfl))))
  case da =>
    obtain ⟨x, _, rfl⟩ := mM hp
    exact yI x
  case we =>
    congr 1
    rw [beq_iff_eq]
    unfold yA wordsOf
    rw [List.length_map]
    split
    · rfl
    · simp only [cat]
      have : ("" : Str).cps = #[] := by decide
      rw [this]
      simp
  case db =>
    intro p hp
    simp only [List.mem_cons, List.not_mem_nil, or_false] at hp
    rcases hp with rfl | rfl
    · exact .tup (vY _)
    · exact .int _
  case nrm => exact Ev.attr T.X hlo (by decide) rfl T.free.2.2.2.1 rfl (by rw [typeLookup_type, builtinLookup_eq_fast]; kernel_rfl)
  case rhs =>
    rw [← hwn]
    refine Ev.tup (.cons (Ev.bin (Ev.tup (.cons (Ev.name htbv (by decide)) (fun _ => rfl) .nil) ((nB rfl))) (Ev.callF F22.is.at (Ev.name gr (by decide)) (.cons (Ev.name htm (by decide)) (fun _ => rfl) .nil) hruns rfl) (Bin.addTup ?s1 (by simp) ?s2)) (fun _ => rfl) (.cons (Ev.name hblv (by decide)) (fun _ => rfl) .nil)) ((nB rfl))
    case s1 => rw [pints_length, List.length_map, List.length_range]; show 1 + _ ≤ _; omega
    case s2 =>
      intro h
      have := congrArg List.length h
      rw [pints_length, List.length_map, List.length_range] at this
      simp at this
      omega
end
end
section
variable {C : Cx}
noncomputable abbrev psL (f : Nat) (script : List Int) : List Str := zN (bC f script)
noncomputable abbrev flL (f : Nat) (script : List Int) : List Str := zBw (bC f script)
noncomputable abbrev gO (f : Nat) (script : List Int) : Str := zBl (ltr f) (psL f script)
noncomputable abbrev cS (f : Nat) (script : List Int) : Str := Txt.replace (gO f script) (ltr f) " "
noncomputable abbrev lD (f : Nat) (script : List Int) : Str := Txt.replace (cS f script) "\t" " \t"
noncomputable abbrev cR (f : Nat) (script : List Int) : Str := Txt.join "" (psL f script)
noncomputable abbrev wtT (r : Nat) : Int := 2 ^ wN r
noncomputable abbrev fM (f r : Nat) (script : List Int) : Int := lastOf (waysL (cR f script) (flL f script) (ltr f) (wtT r) (cR f script).length)
noncomputable abbrev cD (f r lg : Nat) (script : List Int) : List Int := 0 :: waysL (strRep (ltr f) lg) (flL f script) (ltr f) (wtT r) lg
structure zBk (script : List Int) (f b r lg : Nat) (tm : Nat → Nat) (tb bl : Nat) (lF lN : List Bool) (rv : Nat → Int) : Prop where
  hf : ((script.sum).fdiv 3).fmod 3 = (f : Int)
  f3 : f < 3
  hb : script.length % 3 = b
  hr : (script.sum).fmod 3 = (r : Int)
  r3 : r < 3
  told : Told (bC f script)
  psl : (psL f script).length ≤ 9
  psp : ∀ p ∈ psL f script, p.length ≤ 10
  jok : JoinOk "" (rowL (ltr f) (psL f script)) = true
  jln : (Txt.join "" (rowL (ltr f) (psL f script))).length ≤ 1000
  jk2 : JoinOk "" (psL f script) = true
  txl : (cR f script).length ≤ 1000
  rwl : (gO f script).length ≤ 1000
  nrl : (cS f script).length ≤ 1000
  frl : (lD f script).length ≤ 3000
  lsp : (ltr f == (" " : Str)) = false
  spl : (Txt.split (lD f script) "\t").length ≤ 3001
  cel : ∀ c ∈ Txt.split (lD f script) "\t", c.length ≤ lg
  mem : lg ∈ (Txt.split (lD f script) "\t").map (·.length)
  lg9 : lg ≤ 900
  lg1 : 1 ≤ lg
  fl1 : (flL f script).length ≤ 1000
  fl2 : ∀ x ∈ flL f script, 1 ≤ x.length
  fl3 : ∀ x ∈ flL f script, x.length ≤ 1000
  wtb : Builtin.Int.intBits (wtT r) ≤ 2 ^ 17
  hW1 : ∀ e, e ≤ (cR f script).length → ∀ x ∈ waysL (cR f script) (flL f script) (ltr f) (wtT r) e, Builtin.Int.intBits x ≤ 2 ^ 17
  hW2 : ∀ e, e ≤ lg → ∀ x ∈ waysL (strRep (ltr f) lg) (flL f script) (ltr f) (wtT r) e, Builtin.Int.intBits x ≤ 2 ^ 17
  tm0 : tm 0 = 0
  tm1 : Txt.count (gO f script) "\t" = tm 1
  tml : ∀ t, t ≤ lg + 1 → tm t ≤ 1000
  div : ∀ j, j < lg → ∃ R : Int, wholeA (fM f r script) (j + 2) = partA (cD f r lg script) (j + 2) ^ tm (j + 2) * R ∧ partA (cD f r lg script) (j + 2) ≠ 0 ∧ R.fmod (partA (cD f r lg script) (j + 2)) ≠ 0 ∧
    Builtin.Int.intBits (wholeA (fM f r script) (j + 2)) ≤ 2 ^ 17 ∧ Builtin.Int.intBits (partA (cD f r lg script) (j + 2)) ≤ 2 ^ 17
  htb : Txt.count (cV b) "\t" = tb
  hbl : Txt.count (cV b) " " = bl
  tb1 : tb ≤ 100
  lFl : lF.length ≤ 10000
  lNl : lN.length ≤ 10000
  ldF : LeadT (cat (cat (cat (lD f script) (cV b)) (ltr f)) (gO f script)) lF
  ldN : LeadT (cat (cat (cS f script) (ltr f)) (gO f script)) lN
  tab : witT lF lN (wmax lF lN).toNat = (szsOf (cV b) tm lg).map (hK (cS f script) tm tb bl)
  hrv : ∀ s, 1 ≤ s → s < lg + 2 → rv s = (tmL tm lg).getD s 0 - ((mults s (lg + 2)).map rv).sum
  nr1 : (wrun lF).1 = (tb : Int) :: (List.range lg).map fun j => rv (j + 1)
  nr2 : (wrun lF).2 = (bl : Nat)
  jk3 : JoinOk ", " (shown (((szsOf (cV b) tm lg).map (hK (cS f script) tm tb bl)).map (·.1))) = true
  jl3 : (Txt.join ", " (shown (((szsOf (cV b) tm lg).map (hK (cS f script) tm tb bl)).map (·.1)))).length ≤ 1000000
section
variable {d : Nat} {L a : Addr} {cd : Value} {script : List Int} {f b r lg : Nat} {tm : Nat → Nat} {tb bl : Nat} {lF lN : List Bool} {rv : Nat → Int}
theorem xL (T : zBj C) (hD : d + 60 < recursionLimit) (hd : 10 * d + 20 < cLine) (hsc : script.length ≤ 63) (Q : zBk script f b r lg tm tb bl lF lN rv) {K : Addr} {a16 a19 a22 : Addr} (gK : C.mg (Str.ofString "Whitespace") = some (.ref K)) (g16 : C.mg (Str.ofString "format_witnesses") = some (.ref a16)) (g19 : C.mg (Str.ofString "_law_ways") = some (.ref a19)) (g22 : C.mg (Str.ofString "_law_runs") = some (.ref a22)) :
    Ex C d (envL L a cd) [("double", .str (dbl f)), ("letter", oldStr C (ltr f)), ("family", .int f), ("script", .lst (pints script)), ("sum", .fn (.builtin "sum")), ("chr", .fn (.builtin "chr")), ("len", .fn (.builtin "len")), ("all", .fn (.builtin "all")), ("list", .fn (.type "list")), ("max", .fn (.builtin "max")), ("_law_ways", .fn (.ref a19)), ("range", .fn (.type "range")), ("Whitespace", .fn (.ref K)), ("format_witnesses", .fn (.ref a16)), ("_law_runs", .fn (.ref a22))]
      ((fBody 23).drop 2) (.ret (.bool true)) := by
  refine fG T.f11 fun a11 cd11 F11 => ?_
  refine fG T.f13 fun a13 cd13 F13 => ?_
  refine bH T.f16 fun f16 c16 P16 F16 N16 => ?_
  refine fG T.f18 fun a18 cd18 F18 => ?_
  refine fG T.f19 fun b19 cd19 F19 => ?_
  refine fG T.f20 fun a20 cd20 F20 => ?_
  refine fG T.f21 fun a21 cd21 F21 => ?_
  refine fG T.f22 fun b22 cd22 F22 => ?_
  refine cps fun Pz kz => ?_
  obtain ⟨K', N', mN', TW, ⟨fi, cdi, M1⟩, ⟨f2, cd2, M2⟩, ⟨f3, cd3, M3⟩, ⟨f5, cd5, M5⟩⟩ := T.ws
  refine kz ?_; clear kz Pz
  obtain rfl : a16 = f16 := by have := F16.g; rw [g16] at this; cases this; rfl
  obtain rfl : a19 = b19 := by have := F19.g; rw [g19] at this; cases this; rfl
  obtain rfl : a22 = b22 := by have := F22.g; rw [g22] at this; cases this; rfl
  obtain rfl : K = K' := by have := TW.g; rw [gK] at this; cases this; rfl
  have TS : yW C := ⟨T.ord, T.chr, T.list, T.range⟩
  have TY : uE C := ⟨T.range, T.len, T.sum⟩
  have TR : yY C := ⟨T.range, T.len, T.sum, T.tuple⟩
  have TF : zGa C := ⟨T.K, T.B, T.len, T.str⟩
  have hl1 : (ltr f).length = 1 := rfl
  have hsl : (bC f script).length ≤ 1000 := by rw [gN]; decide
  have hbl3 : (cV b).length ≤ 1 := by
    have h3 : b < 3 := by have := Q.hb; omega
    rcases (by omega : b = 0 ∨ b = 1 ∨ b = 2) with rfl | rfl | rfl <;> decide
  have hszl := gL (lg := lg) (cV b) tm
  have hdl : ((szsOf (cV b) tm lg).map (hK (cS f script) tm tb bl)).length ≤ 10000 := by rw [List.length_map]; have := Q.lg9; omega
  have hlog : ∀ x ∈ (szsOf (cV b) tm lg).map (hK (cS f script) tm tb bl), x.1.natAbs.log2 < 1920 := by
    intro x hx
    obtain ⟨t, ht, rfl⟩ := mM hx
    have ht2 := (mO ht).2
    have hlg := Q.lg9
    have e : (hK (cS f script) tm tb bl t).1.natAbs = t := by show ((t : Nat) : Int).natAbs = t; omega
    rw [e]
    by_cases h0 : t = 0
    · subst h0; decide
    · refine Nat.lt_of_lt_of_le ((Nat.log2_lt h0).mpr (?_ : t < 2 ^ 10)) (by decide)
      have : (2 : Nat) ^ 10 = 1024 := by decide
      omega
  refine Ex.cons (st2 (by walk_at "at") (by walk_at "at") hsc) ?_
  refine Ex.cons (st3 TS F18 (by exact Nat.lt_of_add_right_lt hD) (by walk_at "at") (by walk_at "at") (by walk_at "at") (by walk_at "at") Q.f3) ?_
  refine Ex.cons (st4 T.tab F11 F13 (by exact Nat.lt_of_add_right_lt hD) Q.told hsl (by walk_at "at")) ?_
  refine Ex.cons (st5 hsl (by omega) (by walk_at "at") (by walk_at "at") (by walk_at "at") T.isinst T.bool) ?_
  refine Ex.cons (st6 hsl (by walk_at "at")) ?_
  refine Ex.cons (st7 hl1 Q.psl Q.psp Q.jok Q.jln (by walk_at "at") T.len (by walk_at "at")) ?_
  refine Ex.cons (st8 hsl (by walk_at "at")) ?_
  refine Ex.cons (st9 hsl T.sysm (by walk_at "at") (by walk_at "at")) ?_
  refine Ex.cons (zJo Q.hr Q.r3 (by walk_at "at") (by walk_at "at")) ?_
  refine Ex.cons (zJn Q.rwl Q.lsp (by walk_at "at") (by walk_at "at")) ?_
  refine Ex.cons (zCf Q.nrl (by walk_at "at")) ?_
  refine Ex.cons (zJm (lg := lg) Q.frl Q.spl Q.cel Q.mem (by have := Q.lg9; omega) (by walk_at "at") (by walk_at "at") T.len) ?_
  refine Ex.cons (zJl TY F19 (by exact Nat.lt_of_add_right_lt hD) (by walk_at "at") (by walk_at "at") (by walk_at "at") (by walk_at "at") (by walk_at "at") Q.jk2 Q.txl Q.fl1 Q.fl2 Q.fl3 Q.wtb Q.hW1) ?_
  refine Ex.cons (zJk (lg := lg) TY F19 (by exact Nat.lt_of_add_right_lt hD) hl1 (by have := Q.lg9; omega) (by walk_at "at") (by walk_at "at") (by walk_at "at") (by walk_at "at") (by walk_at "at") Q.fl1 Q.fl2 Q.fl3 Q.wtb Q.hW2) ?_
  refine Ex.cons (zJj (lg := lg) (ln := cD f r lg script) (by have := Q.lg9; omega) (by show (waysL _ _ _ _ _).length + 1 = _; rw [cB]) (by walk_at "at") (by walk_at "at") (by walk_at "at") (by walk_at "at")) ?_
  refine Ex.cons (zJi (lg := lg) (bk := fM f r script) (ln := cD f r lg script) F20 tm (by have := Q.lg9; omega) (by walk_at "at") (by walk_at "at") ?dv Q.tm1 Q.tm0) ?_
  case dv =>
    intro j hj
    refine zIn (Q.div j hj) fun R h1 h2 h3 h4 h5 => ?_
    rw [h1] at h4 ⊢
    exact pI T.div F20 T.abs (by omega) h2 h3 h4 h5
  refine Ex.cons (zJh Q.hb hsc (by walk_at "at") (by walk_at "at")) ?_
  refine Ex.cons (zJg Q.htb Q.hbl (by walk_at "at")) ?_
  refine Ex.cons (zJf (lg := lg) (tm := tm) F21 (by exact Nat.lt_of_add_right_lt hD) (by have := Q.lg9; omega) (by walk_at "at") (by walk_at "at") (by walk_at "at") (by walk_at "at") (by walk_at "at")) ?_
  refine Ex.cons (zJe (lg := lg) (beh := cV b) (by have := Q.lg9; omega) Q.tb1 Q.tml (by walk_at "at") (by walk_at "at") (by walk_at "at") (by walk_at "at")) ?_
  have hrl := Q.rwl
  have hnl := Q.nrl
  have hfl := Q.frl
  refine Ex.cons (zJd TW M1 (by omega) Q.lFl Q.ldF (by omega) (by walk_at "at") (by walk_at "at") (by walk_at "at") (by walk_at "at") (by walk_at "at")) ?_
  refine Ex.cons (zJc TW M1 M2 M3 M5 (by omega) Q.lFl Q.lNl Q.ldN (by omega) (by walk_at "at") (by walk_at "at") (by walk_at "at") (by walk_at "at") (by walk_at "at")) ?_
  rw [Q.tab]
  refine Ex.cons (zJb hdl hlog Q.jk3 Q.jl3 (by walk_at "at") (by walk_at "at") T.str) ?_
  exact Ex.stop (zJa TW TF TR F16 N16 F22 (by omega) (by omega) rv hdl hlog Q.jk3 Q.jl3 Q.lg9 Q.lg1 Q.hrv Q.nr1 Q.nr2 (by walk_at "at") (by walk_at "at") (by walk_at "at") (by walk_at "at") (by walk_at "at") (by walk_at "at") (by walk_at "at") (by walk_at "at") (by walk_at "at"))
theorem zFm (T : ∀ n, 0 < n → zBj (C.later n)) (F : FnT C 23 "law" a cd) (hD : d + 61 < recursionLimit) (hd : 10 * d + 30 < cLine) (hsc : script.length ≤ 63) (Q : zBk script f b r lg tm tb bl lF lN rv) : Calls C d (.ref a) [.lst (pints script)] (.bool true) := by
  have T0 : zBj (C.later 1) := T 1 (by decide)
  refine bH T0.f16 fun f16 c16 P16 F16 N16 => ?_
  refine fG T0.f19 fun a19 cd19 F19 => ?_
  refine fG T0.f22 fun a22 cd22 F22 => ?_
  refine bH T0.ws fun K N mN TW _ => ?_
  refine Calls.cells F.is (by exact Nat.lt_of_add_right_lt hD) (xs := ["script"]) (glb := [("sum", .fn (.builtin "sum")), ("chr", .fn (.builtin "chr")), ("len", .fn (.builtin "len")), ("all", .fn (.builtin "all")), ("list", .fn (.type "list")), ("max", .fn (.builtin "max")), ("_law_ways", .fn (.ref a19)), ("range", .fn (.type "range")), ("Whitespace", .fn (.ref K)), ("format_witnesses", .fn (.ref f16)), ("_law_runs", .fn (.ref a22))]) ?_ ?_ (by decide) rfl (by decide) rfl rfl rfl ?_ ?_
  · intro pm doc vs hv
    obtain ⟨v1, rfl⟩ := vN hv; rfl
  · intro x hx
    simp only [List.mem_cons, List.not_mem_nil, or_false] at hx
    rcases hx with rfl
    exact .inl rfl
  · exact .cons (fun _ _ => .fn _) rfl (.inr T0.sum) (.cons (fun _ _ => .fn _) rfl (.inr T0.chr) (.cons (fun _ _ => .fn _) rfl (.inr T0.len) (.cons (fun _ _ => .fn _) rfl (.inr T0.all) (.cons (fun _ _ => .fn _) rfl (.inr T0.list) (.cons (fun _ _ => .fn _) rfl (.inr T0.max)
      (.cons (fun _ _ => .fn _) rfl (.inl F19.g) (.cons (fun _ _ => .fn _) rfl (.inr T0.range) (.cons (fun _ _ => .fn _) rfl (.inl TW.g) (.cons (fun _ _ => .fn _) rfl (.inl F16.g) (.cons (fun _ _ => .fn _) rfl (.inl F22.g) .nil))))))))))
  intro L
  refine Ex.cons (st0 (script := script) (by walk_at "at") (by walk_at "at") Q.hf) ?_
  refine st1 (by walk_at "at") (by walk_at "at") Q.f3 fun n h1 h2 => ?_
  exact xL (T n h2) (by walk_at "o") (by walk_at "o") hsc Q TW.g F16.g F19.g F22.g
end
end
section
set_option maxRecDepth 100000
namespace Top
noncomputable section
noncomputable def pS (h : Heap) (p : Addr) (l c : Int) (q : Str) : Prop := h.get? p = some (tabObj #[]) ∨ ∃ c', h.get? p = some (tabObj #[rawInt l, rawInt c, .ref c']) ∧ h.CodeRec (.ref c') q
noncomputable def TI (h : Heap) : Prop :=
  (h.get? 41 = some o41 ∧ pS h 37 (nPos 5 1).line (nPos 5 1).col q5) ∧ (h.get? 48 = some o48 ∧ pS h 44 (nPos 6 0).line (nPos 6 0).col q6) ∧ (h.get? 199 = some sB ∧ pS h 195 144 13 qFmt)
noncomputable def CX (w : World) (n : Nat) : Cx := { prog := pw, w := w, tabs := [37, 44, 195], TI := TI, hB := H1 w.params, mg := (H1 w.params).nsMap mainGlobals, mb := (H1 w.params).nsMap builtinsNs, tk0 := n }
theorem pP {h h' : Heap} {cd : Value} {q : Str} (k : ∀ b o, h.get? b = some o → aB o → h'.get? b = some o) (x : h.CodeRec cd q) : h'.CodeRec cd q := by
  refine zAy x fun c o vs t e1 e2 e3 e4 => ?_; clear x
  exact ⟨c, o, vs, t, e1, k _ _ e2 ⟨vs, q, t, e3, e4⟩, e3, e4⟩
theorem pS.keep {h h' : Heap} {p : Addr} {l c : Int} {q : Str} (x : pS h p l c q) (k : ∀ b o, h.get? b = some o → aB o → h'.get? b = some o) (kp : ∀ o, h.get? p = some o → h'.get? p = some o) : pS h' p l c q := by
  rcases x with e | ⟨c', e, r⟩
  · exact .inl (kp _ e)
  · exact .inr ⟨c', kp _ e, pP k r⟩
theorem pS.is {h : Heap} {p : Addr} {l c : Int} {q : Str} (x : pS h p l c q) : ∃ o vs, h.get? p = some o ∧ o.data = .fields vs ∧ o.cls = .none ∧ ¬ aB o := by
  rcases x with e | ⟨c', e, r⟩
  · refine ⟨_, _, e, rfl, rfl, ?_⟩
    rintro ⟨vs, q, t, h1, h2⟩
    cases h1
    cases h2
  · refine ⟨_, _, e, rfl, rfl, ?_⟩
    rintro ⟨vs, q, t, h1, h2⟩
    cases h1
    cases h2
theorem xR : aB o41 := ⟨_, _, _, rfl, rfl⟩
theorem xQ : aB o48 := ⟨_, _, _, rfl, rfl⟩
theorem vO : aB sB := ⟨_, _, _, rfl, rfl⟩
theorem zKa {h : Heap} (e : h.get? 41 = some o41) : CodeHd h 41 37 := ⟨o41, _, _, _, _, _, _, _, _, e, rfl, rfl, rfl, rfl, rfl, rfl, rfl, rfl, by decide⟩
theorem zJz {h : Heap} (e : h.get? 48 = some o48) : CodeHd h 48 44 := ⟨o48, _, _, _, _, _, _, _, _, e, rfl, rfl, rfl, rfl, rfl, rfl, rfl, rfl, by decide⟩
theorem zIg {h : Heap} (e : h.get? 199 = some sB) : CodeHd h 199 195 := ⟨sB, _, _, _, _, _, _, _, _, e, rfl, rfl, rfl, rfl, rfl, rfl, rfl, rfl, by decide⟩
theorem zHy (P : Params) : (H1 P).isNs mainGlobals = true := by kernel_rfl
theorem zJt (P : Params) : (H1 P).isNs builtinsNs = true := by kernel_rfl
theorem zJs (P : Params) : (H1 P).isNs cStatics = true := by kernel_rfl
theorem zId (P : Params) : (H1 P).nsMap cStatics "sys.recursionlimit" = none := by kernel_rfl
theorem uB (w : World) {n : Nat} (hn : 0 < n) : dG (CX w n) where
  g := Heap.Ns.of_isNs (zHy _)
  b := Heap.Ns.of_isNs (zJt _)
  nolimit := ⟨_, Heap.Ns.of_isNs (zJs _), zId _⟩
  gT := by show mainGlobals ∉ [37, 44, 195]; decide
  bT := by show builtinsNs ∉ [37, 44, 195]; decide
  sT := by show cStatics ∉ [37, 44, 195]; decide
  ti := by
    rintro h h' ⟨⟨a1, a2⟩, ⟨b1, b2⟩, c1, c2⟩ k
    have kc : ∀ b o, h.get? b = some o → aB o → h'.get? b = some o := fun b o e c => k b o e (.inr c)
    exact ⟨⟨kc _ _ a1 xR, a2.keep kc fun o e => k _ o e (.inl (by show 37 ∈ [37, 44, 195]; decide))⟩, ⟨kc _ _ b1 xQ, b2.keep kc fun o e => k _ o e (.inl (by show 44 ∈ [37, 44, 195]; decide))⟩, kc _ _ c1 vO, c2.keep kc fun o e => k _ o e (.inl (by show 195 ∈ [37, 44, 195]; decide))⟩
  tk := hn
  tabIs := by
    rintro h ⟨⟨a1, a2⟩, ⟨b1, b2⟩, c1, c2⟩ b hb
    have hb : b ∈ [37, 44, 195] := hb
    simp only [List.mem_cons, List.not_mem_nil, or_false] at hb
    rcases hb with rfl | rfl | rfl
    · exact a2.is
    · exact b2.is
    · exact c2.is
theorem zIa (w : World) (n : Nat) : NestOk (CX w n) 41 37 (nPos 5 1) q5 where
  tab := by show 37 ∈ [37, 44, 195]; decide
  at_ := fun h T => ⟨zKa T.1.1, T.1.2⟩
  grow := by
    rintro h h' c' ⟨⟨a1, a2⟩, ⟨b1, b2⟩, c1, c2⟩ e x e' r
    have k : ∀ b o, b ≠ 37 → h.get? b = some o → h'.get? b = some o := fun b o hb e => x b o hb e
    have ne : ∀ b o, h.get? b = some o → aB o → b ≠ 37 := fun b o eb hc hb => by
      subst hb
      rw [e] at eb
      cases eb
      refine bH hc fun vs q t h1 h2 => ?_; clear hc
      cases h1
      cases h2
    have kc : ∀ b o, h.get? b = some o → aB o → h'.get? b = some o := fun b o eb hc => k b o (ne b o eb hc) eb
    exact ⟨⟨k _ _ (by decide) a1, .inr ⟨c', e', r⟩⟩, ⟨k _ _ (by decide) b1, b2.keep kc fun o e => k _ o (by decide) e⟩, k _ _ (by decide) c1, c2.keep kc fun o e => k _ o (by decide) e⟩
theorem zHz (w : World) (n : Nat) : NestOk (CX w n) 48 44 (nPos 6 0) q6 where
  tab := by show 44 ∈ [37, 44, 195]; decide
  at_ := fun h T => ⟨zJz T.2.1.1, T.2.1.2⟩
  grow := by
    rintro h h' c' ⟨⟨a1, a2⟩, ⟨b1, b2⟩, c1, c2⟩ e x e' r
    have k : ∀ b o, b ≠ 44 → h.get? b = some o → h'.get? b = some o := fun b o hb e => x b o hb e
    have ne : ∀ b o, h.get? b = some o → aB o → b ≠ 44 := fun b o eb hc hb => by
      subst hb
      rw [e] at eb
      cases eb
      refine bH hc fun vs q t h1 h2 => ?_; clear hc
      cases h1
      cases h2
    have kc : ∀ b o, h.get? b = some o → aB o → h'.get? b = some o := fun b o eb hc => k b o (ne b o eb hc) eb
    exact ⟨⟨k _ _ (by decide) a1, a2.keep kc fun o e => k _ o (by decide) e⟩, ⟨k _ _ (by decide) b1, .inr ⟨c', e', r⟩⟩, k _ _ (by decide) c1, c2.keep kc fun o e => k _ o (by decide) e⟩
theorem zFj (w : World) (n : Nat) : NestOk (CX w n) 199 195 ⟨144, 13, 144, 39⟩ qFmt where
  tab := by show 195 ∈ [37, 44, 195]; decide
  at_ := fun h T => ⟨zIg T.2.2.1, T.2.2.2⟩
  grow := by
    rintro h h' c' ⟨⟨a1, a2⟩, ⟨b1, b2⟩, c1, c2⟩ e x e' r
    have k : ∀ b o, b ≠ 195 → h.get? b = some o → h'.get? b = some o := fun b o hb e => x b o hb e
    have ne : ∀ b o, h.get? b = some o → aB o → b ≠ 195 := fun b o eb hc hb => by
      subst hb
      rw [e] at eb
      cases eb
      refine bH hc fun vs q t h1 h2 => ?_; clear hc
      cases h1
      cases h2
    have kc : ∀ b o, h.get? b = some o → aB o → h'.get? b = some o := fun b o eb hc => k b o (ne b o eb hc) eb
    exact ⟨⟨k _ _ (by decide) a1, a2.keep kc fun o e => k _ o (by decide) e⟩, ⟨k _ _ (by decide) b1, b2.keep kc fun o e => k _ o (by decide) e⟩, k _ _ (by decide) c1, .inr ⟨c', e', r⟩⟩
theorem zBx (w : World) (n : Nat) : BmOk (CX w n) :=
  ⟨4, boot_o_4 w.params, by show (H1 w.params).nsMap mainGlobals "__builtins__" = _; kernel_rfl, by decide, by decide, by show 4 ∉ [37, 44, 195]; decide, by show (H1 w.params).get? 4 = _; kernel_rfl, rfl, rfl, rfl⟩
end
end Top
end
section
set_option maxRecDepth 100000
namespace Top
noncomputable section
theorem fnT_of (w : World) (n : Nat) {i : Nat} {name : String} {a c : Addr} {pm : Value} {oc : Obj} {vs : Array Value} {t : Nat} (h1 : (H1 w.params).get? a = some (oUD i name pm (.ref c))) (h2 : (H1 w.params).get? c = some oc) (h3 : oc.data = .fields vs) (h4 : vs[1]? = some (.str (Str.ofString name) t))
    (ha : a ∉ [37, 44, 195]) (hc : c ∉ [37, 44, 195]) (hg : (H1 w.params).nsMap mainGlobals (Str.ofString name) = some (.ref a)) : FnT (CX w n) i name a (.ref c) :=
  ⟨⟨⟨_, pm, .none, h1, rfl⟩, ha, fun H s I => ⟨c, oc, vs, t, rfl, I.keep c oc hc h2, h3, h4⟩⟩, hg⟩
section
variable (w : World) (n : Nat)
theorem f3 : FnT (CX w n) 3 "_div2n1n" 28 (.ref 27) := fnT_of w n (pm := S "cpy313._pylong" 194) (oc := o27) (by kernel_rfl) (by kernel_rfl) rfl rfl (by decide) (by decide) (by kernel_rfl)
theorem f4 : FnT (CX w n) 4 "_div3n2n" 35 (.ref 34) := fnT_of w n (pm := S "cpy313._pylong" 194) (oc := o34) (by kernel_rfl) (by kernel_rfl) rfl rfl (by decide) (by decide) (by kernel_rfl)
theorem f5 : FnT (CX w n) 5 "_int2digits" 42 (.ref 41) := fnT_of w n (pm := S "cpy313._pylong" 194) (oc := o41) (by kernel_rfl) (by kernel_rfl) rfl rfl (by decide) (by decide) (by kernel_rfl)
theorem f6 : FnT (CX w n) 6 "_digits2int" 49 (.ref 48) := fnT_of w n (pm := S "cpy313._pylong" 194) (oc := o48) (by kernel_rfl) (by kernel_rfl) rfl rfl (by decide) (by decide) (by kernel_rfl)
theorem f7 : FnT (CX w n) 7 "_divmod_pos" 56 (.ref 55) := fnT_of w n (pm := S "cpy313._pylong" 194) (oc := o55) (by kernel_rfl) (by kernel_rfl) rfl rfl (by decide) (by decide) (by kernel_rfl)
theorem f8 : FnT (CX w n) 8 "int_divmod" 63 (.ref 62) := fnT_of w n (pm := S "cpy313._pylong" 194) (oc := o62) (by kernel_rfl) (by kernel_rfl) rfl rfl (by decide) (by decide) (by kernel_rfl)
theorem f11 : FnT (CX w n) 11 "in_table_b1" 81 (.ref 80) := fnT_of w n (pm := S "cpy313.stringprep" 276) (oc := o80) (by kernel_rfl) (by kernel_rfl) rfl rfl (by decide) (by decide) (by kernel_rfl)
theorem f13 : FnT (CX w n) 13 "map_table_b3" 127 (.ref 126) := fnT_of w n (pm := S "cpy313.stringprep" 276) (oc := xA) (by kernel_rfl) (by kernel_rfl) rfl rfl (by decide) (by decide) (by kernel_rfl)
theorem f16 : FnT (CX w n) 16 "format_witnesses" 200 (.ref 199) := fnT_of w n (pm := S "cpy313.tabnanny" 2304) (oc := sB) (by kernel_rfl) (by kernel_rfl) rfl rfl (by decide) (by decide) (by kernel_rfl)
theorem f18 : FnT (CX w n) 18 "_law_sign" 207 (.ref 206) := fnT_of w n (pm := S "law_rl0136_01" 2416) (oc := zCy) (by kernel_rfl) (by kernel_rfl) rfl rfl (by decide) (by decide) (by kernel_rfl)
theorem f19 : FnT (CX w n) 19 "_law_ways" 212 (.ref 211) := fnT_of w n (pm := S "law_rl0136_01" 2416) (oc := zCx) (by kernel_rfl) (by kernel_rfl) rfl rfl (by decide) (by decide) (by kernel_rfl)
theorem f20 : FnT (CX w n) 20 "_law_times" 219 (.ref 218) := fnT_of w n (pm := S "law_rl0136_01" 2416) (oc := zCw) (by kernel_rfl) (by kernel_rfl) rfl rfl (by decide) (by decide) (by kernel_rfl)
theorem f21 : FnT (CX w n) 21 "_law_column" 226 (.ref 225) := fnT_of w n (pm := S "law_rl0136_01" 2416) (oc := zCv) (by kernel_rfl) (by kernel_rfl) rfl rfl (by decide) (by decide) (by kernel_rfl)
theorem f22 : FnT (CX w n) 22 "_law_runs" 231 (.ref 230) := fnT_of w n (pm := S "law_rl0136_01" 2416) (oc := zCu) (by kernel_rfl) (by kernel_rfl) rfl rfl (by decide) (by decide) (by kernel_rfl)
theorem f23 : FnT (CX w n) 23 "law" 236 (.ref 235) := fnT_of w n (pm := S "law_rl0136_01" 2416) (oc := zCt) (by kernel_rfl) (by kernel_rfl) rfl rfl (by decide) (by decide) (by kernel_rfl)
theorem methT_of {i : Nat} {name qual : String} {a c : Addr} {oc : Obj} {vs : Array Value} {t : Nat} {pm : Value} (h1 : (H1 w.params).get? a = some (oUM i name qual pm (.ref c))) (h2 : (H1 w.params).get? c = some oc) (h3 : oc.data = .fields vs) (h4 : vs[1]? = some (.str (Str.ofString qual) t))
    (ha : a ∉ [37, 44, 195]) (hc : c ∉ [37, 44, 195]) (hg : (H1 w.params).nsMap 188 (Str.ofString name) = some (.ref a)) : MethT (CX w n) i name qual ((H1 w.params).nsMap 188) a (.ref c) :=
  ⟨⟨⟨_, pm, .none, h1, rfl, rfl⟩, ha, fun H s I => ⟨c, oc, vs, t, rfl, I.keep c oc hc h2, h3, h4⟩⟩, hg⟩
theorem m1 : MethT (CX w n) 1 "__init__" "Whitespace.__init__" ((H1 w.params).nsMap 188) 144 (.ref 143) := methT_of w n (pm := S "cpy313.tabnanny" 2304) (oc := zW) (by kernel_rfl) (by kernel_rfl) rfl rfl (by decide) (by decide) (by kernel_rfl)
theorem m2 : MethT (CX w n) 2 "longest_run_of_spaces" "Whitespace.longest_run_of_spaces" ((H1 w.params).nsMap 188) 151 (.ref 150) := methT_of w n (pm := S "cpy313.tabnanny" 2304) (oc := zV) (by kernel_rfl) (by kernel_rfl) rfl rfl (by decide) (by decide) (by kernel_rfl)
theorem m3 : MethT (CX w n) 3 "indent_level" "Whitespace.indent_level" ((H1 w.params).nsMap 188) 158 (.ref 157) := methT_of w n (pm := S "cpy313.tabnanny" 2304) (oc := zU) (by kernel_rfl) (by kernel_rfl) rfl rfl (by decide) (by decide) (by kernel_rfl)
theorem m5 : MethT (CX w n) 5 "not_equal_witness" "Whitespace.not_equal_witness" ((H1 w.params).nsMap 188) 172 (.ref 171) := methT_of w n (pm := S "cpy313.tabnanny" 2304) (oc := zT) (by kernel_rfl) (by kernel_rfl) rfl rfl (by decide) (by decide) (by kernel_rfl)
end
end
end Top
end
section
set_option maxRecDepth 100000
namespace Top
noncomputable section
theorem b1_set (w : World) : (H1 w.params).SetOf (intKind pw w) 71 (fun k => b1L.contains k) 27 := by
  refine ⟨ob1 w.params, _, _, _, by kernel_rfl, ⟨rfl, rfl, rfl⟩, rfl, ?_, ?_, ?_, ?_, ?_⟩
  · intro e he
    obtain ⟨x, hx, rfl⟩ := mM (show e ∈ es1.map fun x => (x.1, Value.int x.1 x.2) from he)
    refine ⟨⟨x.1, by show (x.1 == x.1) = true; simp, ?_⟩, rfl⟩
    have : ∀ y ∈ es1, y.1 = hashInt y.1 := by decide +kernel
    exact this x hx
  · intro k
    have h1 : ∀ y ∈ es1, b1L.contains y.1 = true := by decide +kernel
    have h2 : ∀ y ∈ b1L, y ∈ es1.map (·.1) := by decide +kernel
    constructor
    · intro h
      obtain ⟨x, hx, e⟩ := mM (h2 k (List.contains_iff_mem.mp h))
      exact ⟨_, List.mem_map.mpr ⟨x, hx, rfl⟩, by show (x.1 == k) = true; rw [e]; simp⟩
    · rintro ⟨e, he, hk⟩
      obtain ⟨x, hx, rfl⟩ := mM (show e ∈ es1.map fun x => (x.1, Value.int x.1 x.2) from he)
      have : x.1 = k := by simpa [intKind, Value.isInt] using hk
      rw [← this]
      exact h1 x hx
  · show (es1.map _).length < scanBound
    rw [List.length_map]
    decide
  · kernel_rfl
  · kernel_rfl
theorem yC : ∀ (l : List (Int × Str)) (t : Nat) (k : Int), (((aG t l).find? fun e => Value.isInt k e.key).map (·.val) = none ∧ l.lookup k = none) ∨ ∃ x t', ((aG t l).find? fun e => Value.isInt k e.key).map (·.val) = some (.str x t') ∧ l.lookup k = some x
  | [], t, k => .inl ⟨rfl, rfl⟩
  | (i, x) :: l, t, k => by
    have e0 : aG t ((i, x) :: l) = ⟨hashInt i, .int i t, .str x (t + 1)⟩ :: aG (t + 3) l := rfl
    rw [e0, List.find?_cons, List.lookup_cons]
    by_cases h : i = k
    · subst h
      refine .inr ⟨x, t + 1, ?_, ?_⟩
      · show (match (i == i) with | true => _ | false => _ : Option DictEntry).map (·.val) = _
        rw [show (i == i) = true by simp]
        rfl
      · simp
    · have e1 : Value.isInt k (.int i t) = false := by
        show (i == k) = false
        simpa using h
      have e2 : (k == i) = false := by simpa using fun e => h e.symm
      simp only [e1, e2]
      exact yC l (t + 3) k
theorem yB : ∀ (l : List (Int × Str)) (t : Nat) (k : Int), (((aX t l).find? fun e => Value.isInt k e.key).map (·.val) = none ∧ l.lookup k = none) ∨ ∃ x t', ((aX t l).find? fun e => Value.isInt k e.key).map (·.val) = some (.str x t') ∧ l.lookup k = some x
  | [], t, k => .inl ⟨rfl, rfl⟩
  | (i, x) :: l, t, k => by
    have e0 : aX t ((i, x) :: l) = ⟨hashInt i, .int i t, .str x (t + 1)⟩ :: aX (t + 2) l := rfl
    rw [e0, List.find?_cons, List.lookup_cons]
    by_cases h : i = k
    · subst h
      refine .inr ⟨x, t + 1, ?_, ?_⟩
      · show (match (i == i) with | true => _ | false => _ : Option DictEntry).map (·.val) = _
        rw [show (i == i) = true by simp]
        rfl
      · simp
    · have e1 : Value.isInt k (.int i t) = false := by
        show (i == k) = false
        simpa using h
      have e2 : (k == i) = false := by simpa using fun e => h e.symm
      simp only [e1, e2]
      exact yB l (t + 2) k
theorem xO : ∀ (l : List (Int × Str)) (t : Nat), ∀ e ∈ aG t l, ∃ k, Value.isInt k e.key = true ∧ e.hash = hashInt k
  | [], _, e, h => by cases h
  | x :: l, t, e, h => by
    rcases mC h with rfl | h
    · exact ⟨x.1, by show (x.1 == x.1) = true; simp, rfl⟩
    · exact xO l _ e h
theorem xM : ∀ (l : List (Int × Str)) (t : Nat), ∀ e ∈ aX t l, ∃ k, Value.isInt k e.key = true ∧ e.hash = hashInt k
  | [], _, e, h => by cases h
  | x :: l, t, e, h => by
    rcases mC h with rfl | h
    · exact ⟨x.1, by show (x.1 == x.1) = true; simp, rfl⟩
    · exact xM l _ e h
noncomputable def es3 : List DictEntry := aG 345 (b3E.take 646) ++ aX 2283 (b3E.drop 646)
theorem zFy (w : World) : (H1 w.params).MapOf (intKind pw w) 82 (findBy Value.isInt ⟨es3⟩) := by
  refine ⟨pB, ⟨es3⟩, 650, by kernel_rfl, ⟨rfl, rfl, rfl⟩, rfl, ?_, fun k => rfl⟩
  intro e he
  have he : e ∈ es3 := by simpa using he
  rcases mA he with h | h
  · exact xO _ _ e h
  · exact xM _ _ e h
theorem zBe (k : Int) : (findBy Value.isInt ⟨es3⟩ k = none ∧ b3E.lookup k = none) ∨ ∃ x t, findBy Value.isInt ⟨es3⟩ k = some (.str x t) ∧ b3E.lookup k = some x := by
  have e0 : findBy Value.isInt ⟨es3⟩ k = (es3.find? fun e => Value.isInt k e.key).map (·.val) := by
    unfold findBy
    simp
  have e1 : b3E.lookup k = ((b3E.take 646) ++ (b3E.drop 646)).lookup k := by rw [List.take_append_drop]
  rw [e0, e1, List.lookup_append]
  unfold es3
  rw [List.find?_append]
  rcases yC (b3E.take 646) 345 k with ⟨h1, h2⟩ | ⟨x, t, h1, h2⟩
  · have h1' : (aG 345 (b3E.take 646)).find? (fun e => Value.isInt k e.key) = none := by simpa using h1
    rw [h1', h2]
    exact yB (b3E.drop 646) 2283 k
  · refine aI (Option.map_eq_some_iff.mp h1) fun e he hv => ?_
    rw [he, h2]
    exact .inr ⟨x, t, by simpa using hv, rfl⟩
section
variable (w : World) (n : Nat)
theorem zIy : yV (CX w n) where
  ord := ⟨by kernel_rfl, by kernel_rfl⟩
  b1 := ⟨71, 27, by kernel_rfl, b1_set w, by show 71 ∉ [37, 44, 195]; decide⟩
  b3 := ⟨82, _, by kernel_rfl, zFy w, by show 82 ∉ [37, 44, 195]; decide, by decide, zBe⟩
theorem zIo : dO (CX w n) 189 188 ((H1 w.params).nsMap 188) where
  at' := ⟨⟨Str.ofString "Whitespace", Str.ofString "Whitespace", [.type "object"], [], [], none, none, none, none, some (S "Whitespace" 2306), some (S "Whitespace" 2314), some (.bool true), by show (H1 w.params).get? 189 = _; kernel_rfl⟩, Heap.Ns.of_isNs (by show (H1 w.params).isNs 188 = true; kernel_rfl)⟩
  kT := by show 189 ∉ [37, 44, 195]; decide
  nT := by show 188 ∉ [37, 44, 195]; decide
  hook1 := by kernel_rfl
  hook2 := by kernel_rfl
  hook3 := by kernel_rfl
noncomputable def KF (P : Params) : Frag := [(189, zR), (188, zS P), (2, boot_o_2 P)]
theorem zBr {H : Hd} {s : Shared} (I : Inv (CX w n) H s) : (KF w.params).In s.heap := by
  intro a o e
  have k : ∀ b o, b ∉ [37, 44, 195] → (H1 w.params).get? b = some o → s.heap.get? b = some o := fun b o hb e => I.keep b o hb e
  unfold KF at e
  rw [List.lookup_cons] at e
  by_cases h1 : a == 189
  · simp only [h1] at e
    cases e
    rw [eq_of_beq h1]
    exact k _ _ (by decide) (by kernel_rfl)
  simp only [h1] at e
  rw [List.lookup_cons] at e
  by_cases h2 : a == 188
  · simp only [h2] at e
    cases e
    rw [eq_of_beq h2]
    exact k _ _ (by decide) (by kernel_rfl)
  simp only [h2] at e
  rw [List.lookup_cons] at e
  by_cases h3 : a == 2
  · simp only [h3] at e
    cases e
    rw [eq_of_beq h3]
    exact k _ _ (by decide) (by kernel_rfl)
  simp only [h3] at e
  cases e
theorem qI (P : Params) : readsIn (KF P) 189 (.type "type") = true := by kernel_rfl
theorem zKd : iE (CX w n) 189 (Str.ofString "S") (.str ⟨#[32]⟩ 2319) := fun A s H I Q E q =>
  cls_value (zBr w n I) (qI w.params) (by kernel_rfl) (by kernel_rfl) (q _ _ (Gr.toks' (Nat.le_succ _)) rfl)
theorem zKc : iE (CX w n) 189 (Str.ofString "T") (.str ⟨#[9]⟩ 2320) := fun A s H I Q E q =>
  cls_value (zBr w n I) (qI w.params) (by kernel_rfl) (by kernel_rfl) (q _ _ (Gr.toks' (Nat.le_succ _)) rfl)
end
end
end Top
end
section
set_option maxRecDepth 100000
namespace Top
noncomputable section
section
variable (w : World) (n : Nat)
theorem wsT : WsT (CX w n) 189 188 ((H1 w.params).nsMap 188) where
  X := zIo w n
  g := by kernel_rfl
  S := ⟨_, zKd w n⟩
  T := ⟨_, zKc w n⟩
  free := ⟨by kernel_rfl, by kernel_rfl, by kernel_rfl, by kernel_rfl, by kernel_rfl⟩
  len := ⟨by kernel_rfl, by kernel_rfl⟩
  tuple := ⟨by kernel_rfl, by kernel_rfl⟩
  max := ⟨by kernel_rfl, by kernel_rfl⟩
  range := ⟨by kernel_rfl, by kernel_rfl⟩
theorem zKb (hn : 0 < n) : rO (CX w n) where
  K := uB w hn
  B := zBx w n
  f3 := ⟨_, _, f4 w n⟩
  f2 := ⟨_, _, f3 w n⟩
  lim := ⟨196, by kernel_rfl⟩
  dm := ⟨by kernel_rfl, by kernel_rfl⟩
  len := ⟨by kernel_rfl, by kernel_rfl⟩
  rev := ⟨by kernel_rfl, by kernel_rfl⟩
  zde := ⟨by kernel_rfl, by kernel_rfl⟩
  f5 := ⟨_, _, _, f5 w n, zIa w n⟩
  f6 := ⟨_, _, _, f6 w n, zHz w n⟩
  f7 := ⟨_, _, f7 w n⟩
  f8 := ⟨_, _, f8 w n⟩
theorem zJx (hn : 0 < n) : zBj (CX w n) where
  K := uB w hn
  B := zBx w n
  sysm := by
    have : (H1 w.params).get? sysModules = some (boot_o_1 w.params) := by kernel_rfl
    show (H1 w.params).get? sysModules ≠ none
    rw [this]
    exact Option.some_ne_none _
  sum := ⟨by kernel_rfl, by kernel_rfl⟩
  chr := ⟨by kernel_rfl, by kernel_rfl⟩
  len := ⟨by kernel_rfl, by kernel_rfl⟩
  all := ⟨by kernel_rfl, by kernel_rfl⟩
  list := ⟨by kernel_rfl, by kernel_rfl⟩
  max := ⟨by kernel_rfl, by kernel_rfl⟩
  range := ⟨by kernel_rfl, by kernel_rfl⟩
  isinst := ⟨by kernel_rfl, by kernel_rfl⟩
  bool := ⟨by kernel_rfl, by kernel_rfl⟩
  str := ⟨by kernel_rfl, by kernel_rfl⟩
  ord := ⟨by kernel_rfl, by kernel_rfl⟩
  abs := ⟨by kernel_rfl, by kernel_rfl⟩
  tuple := ⟨by kernel_rfl, by kernel_rfl⟩
  div := zKb w n hn
  tab := zIy w n
  f11 := ⟨_, _, f11 w n⟩
  f13 := ⟨_, _, f13 w n⟩
  f16 := ⟨_, _, _, f16 w n, zFj w n⟩
  f18 := ⟨_, _, f18 w n⟩
  f19 := ⟨_, _, f19 w n⟩
  f20 := ⟨_, _, f20 w n⟩
  f21 := ⟨_, _, f21 w n⟩
  f22 := ⟨_, _, f22 w n⟩
  ws := ⟨_, _, _, wsT w n, ⟨_, _, m1 w n⟩, ⟨_, _, m2 w n⟩, ⟨_, _, m3 w n⟩, ⟨_, _, m5 w n⟩⟩
end
end
end Top
end
section
set_option maxRecDepth 100000
namespace Top
noncomputable section
noncomputable def zIf : DefRec := ⟨Str.ofString "law", fParams 23, fBody 23, fScope 23, ⟨190, 0, 217, 115⟩⟩
theorem zJy : defOf vw (Str.ofString "law") = some (zIf, []) := by kernel_rfl
theorem tL {P : Params} {h : Heap} : ∀ {vs : List Value} {xs : List WData}, WellAll P h vs xs → (∀ x ∈ xs, WShape.has [] x .int = true) → ∃ ns : List Int, (∀ X, aD X h vs (pints ns)) ∧ ns.length = xs.length
  | _, _, .nil, _ => ⟨[], fun X => .nil, rfl⟩
  | _, _, .cons (d := d) w ws, hx => by
    obtain ⟨ns, h1, h2⟩ := tL ws fun x hx' => hx x (mT hx')
    obtain ⟨i, rfl⟩ := hasW_int (hx d mH)
    cases w with
    | int i t => exact ⟨i :: ns, fun X => .cons (.int i t) (h1 X), congrArg Nat.succ h2⟩
theorem oG : ∀ {xs : List WData}, WShape.hasItems [] xs .int = true → ∀ x ∈ xs, WShape.has [] x .int = true
  | [], _, x, h => by cases h
  | y :: ys, h, x, hx => by
    have h : (WShape.has [] y .int && WShape.hasItems [] ys .int) = true := h
    obtain ⟨h1, h2⟩ := Bool.and_eq_true_iff.mp h
    rcases mC hx with rfl | hx
    · exact h1
    · exact oG h2 x hx
noncomputable abbrev RL : OpenRow := PySem.Challenge.rw_rl0136_01.row
theorem zCq {args : List WData} (h : RL.toRowW.claim.pre args = true) : ∃ xs, args = [.list xs] ∧ (∀ x ∈ xs, WShape.has [] x .int = true) ∧ xs.length ≤ 63 := by
  obtain ⟨h1, h2⟩ := pre_splitW (r := RL.toRowW) h
  have h1 : WShape.hasAll [] args [.list .int] = true := h1
  refine iT (hasAllW_cons h1) fun d r ez1 h3 h4 => ?_; subst ez1
  obtain rfl := hasAllW_nil h4
  obtain ⟨xs, rfl, h5⟩ := hasW_list h3
  refine ⟨xs, rfl, oG h5, ?_⟩
  have e : ∀ b, decide ((63 : Int) < xs.length) = b → WTm.holds [] (.and (.not (.lit (.bool b))) (.lit (.bool true))) { args := [] } = true := fun b eb => eb ▸ (by kernel_rfl : RL.pre.holds [] { args := [.list xs] } = WTm.holds [] (.and (.not (.lit (.bool (decide ((63 : Int) < xs.length))))) (.lit (.bool true))) { args := [] }) ▸ h2
  by_cases hc : (63 : Int) < xs.length
  · exact absurd (e true (decide_eq_true hc)) (by decide +kernel)
  · omega
theorem zCs {w : World} {s₁ s' : Shared} (h0 : ∀ b o, (H1 w.params).get? b = some o → s₁.heap.get? b = some o) (T1 : TI s₁.heap) (hg : s₁.gens = #[]) (g : Gr (CX w 1) [] s₁ s') : OldK s₁.heap s'.heap ∧ s'.os = s₁.os ∧ AllBare s'.gens := by
  have T' : TI s'.heap := g.tab T1
  have tabs : ∀ {p c : Addr} {l k : Int} {q : Str} {oc : Obj} {vs : Array Value}, s₁.heap.get? p = some (tabObj #[]) → pS s'.heap p l k q → s₁.heap.get? c = some oc → oc.cls = .type "code" → oc.data = .fields vs → vs[11]? = some (.ref p) → ∀ o, s₁.heap.get? p = some o → asItWas s₁.heap s'.heap p o := by
    intro p c l k q oc vs e1 t1 e2 h1 h2 h3 o eo
    rw [e1] at eo
    cases eo
    rcases t1 with e | ⟨c', e, _⟩
    · exact .inl e
    · exact .inr (.inl ⟨⟨c, oc, vs, e2, h1, h2, h3⟩, rfl, #[], #[rawInt l, rawInt k, .ref c'], rfl, e⟩)
  have a37 : s₁.heap.get? 37 = some (tabObj #[]) := h0 _ _ (by kernel_rfl)
  have a44 : s₁.heap.get? 44 = some (tabObj #[]) := h0 _ _ (by kernel_rfl)
  have a195 : s₁.heap.get? 195 = some (tabObj #[]) := h0 _ _ (by kernel_rfl)
  have old : ∀ b o, s₁.heap.get? b = some o → asItWas s₁.heap s'.heap b o := fun b o e => by
    by_cases hb : b ∈ [37, 44, 195]
    · simp only [List.mem_cons, List.not_mem_nil, or_false] at hb
      rcases hb with rfl | rfl | rfl
      · exact tabs a37 T'.1.2 T1.1.1 rfl rfl rfl o e
      · exact tabs a44 T'.2.1.2 T1.2.1.1 rfl rfl rfl o e
      · exact tabs a195 T'.2.2.2 T1.2.2.1 rfl rfl rfl o e
    · exact .inl (g.keep b o hb (by simp) e)
  refine ⟨⟨old, fun b o e => ?_⟩, g.os, ?_⟩
  · rcases old b o e with h | ⟨_, _, vs, more, _, h⟩ | ⟨_, _, ⟨o', es, n, h, _⟩, _⟩
    · exact ⟨_, h⟩
    · exact ⟨_, h⟩
    · exact ⟨_, h⟩
  · refine aI g.gens fun l e hl => ?_
    rw [e, hg]
    intro y hy
    exact hl y (by simpa using hy)
theorem zAk {P : Params} {cl : Str → Option Addr} {ord : List DictEntry → List DictEntry} {d : WData} {s : Shared} {r : Value × Shared} (hd : WShape.has [] d .int = true) (h : layW [] cl P ord d s = some r) : s.toks ≤ r.2.toks := by
  obtain ⟨i, rfl⟩ := hasW_int hd
  cases h
  exact Nat.le_succ _
theorem qS {P : Params} {cl : Str → Option Addr} {ord : List DictEntry → List DictEntry} {x : WData} {xs : List WData} {s : Shared} {r : List Value × Shared} (h : layAllW [] cl P ord (x :: xs) s = some r) : ∃ a b, layW [] cl P ord x s = some a ∧ layAllW [] cl P ord xs a.2 = some b ∧ r.2 = b.2 := by
  rw [layAllW] at h
  revert h
  cases layW [] cl P ord x s with
  | none => nofun
  | some a =>
    intro h
    cases e : layAllW [] cl P ord xs a.2 with
    | none => simp only [e] at h; cases h
    | some b => simp only [e] at h; exact ⟨a, b, rfl, e, by cases h; rfl⟩
theorem xK {P : Params} {cl : Str → Option Addr} {ord : List DictEntry → List DictEntry} {xs : List WData} : ∀ {s : Shared} {r : List Value × Shared}, (∀ x ∈ xs, WShape.has [] x .int = true) → layAllW [] cl P ord xs s = some r → s.toks ≤ r.2.toks := by
  induction xs with
  | nil => exact fun _ h => by cases h; exact Nat.le_refl _
  | cons x xs ih =>
    intro s r hx h
    refine cps fun Pz kz => ?_
    obtain ⟨a, b, e1, e2, e⟩ := qS h
    refine kz ?_; clear kz Pz
    rw [e]
    exact Nat.le_trans (zAk (hx x mH) e1) (ih (fun y hy => hx y (mT hy)) e2)
theorem zAj {P : Params} {cl : Str → Option Addr} {ord : List DictEntry → List DictEntry} {xs : List WData} {s : Shared} {r : List Value × Shared} (hx : ∀ x ∈ xs, WShape.has [] x .int = true) (h : layAllW [] cl P ord [.list xs] s = some r) : s.toks ≤ r.2.toks := by
  refine cps fun Pz kz => ?_
  obtain ⟨a, b, e1, e2, e⟩ := qS h
  refine kz ?_; clear kz Pz
  rw [e]
  cases e2
  rw [layW] at e1
  revert e1
  cases e' : layAllW [] cl P ord xs s with
  | none => nofun
  | some q => exact fun h => by cases h; exact xK (r := q) hx e'
theorem zO {xs : List WData} : RL.toRowW.claim.post [.list xs] (.bool true) [.list xs] = true := by
  kernel_rfl
theorem zBb {w : World} {s₀ s₁ : Shared} (Y : (s₀.heap, s₀.toks) = (H1 w.params, 2471)) {vals : List Value} {args : List WData} {as : List Addr} (plain : ∀ script : List Int, script.length ≤ 63 → ∃ f b r lg tm tb bl lF lN rv, zBk script f b r lg tm tb bl lF lN rv)
    (L : Laid RL.records w s₀ s₁ args vals as) (hpre : RL.toRowW.claim.pre args = true) (hwl : WellAll w.params s₁.heap vals args) :
    wpAny (model pw w) callerA (call (.ref 236) vals) (fun v s' => GoodWG RL.toRowW.claim (classAt s₀.heap) (ExcName.means s₀.heap) args s₁ (.ok (.ret v)) s') (fun e s' => GoodWG RL.toRowW.claim (classAt s₀.heap) (ExcName.means s₀.heap) args s₁ (.error e) s') s₁ := by
  refine bY (zCq hpre) fun xs ez1 hx hlen => ?_; subst ez1
  obtain ⟨Y, Yt⟩ := Prod.mk.inj Y
  have htk : 0 < s₁.toks := by
    refine aI L.laid fun ord _ hl => ?_
    have : s₀.toks ≤ s₁.toks := zAj hx hl
    omega
  have h0 : ∀ b o, (H1 w.params).get? b = some o → s₁.heap.get? b = some o := fun b o e => L.keeps b o (by rw [Y]; exact e)
  refine iT (wellAll_cons_inv hwl) fun v vs' ez1 W1 W2 => ?_; subst ez1
  cases W2
  cases W1 with
  | @list la vs _ hla hall =>
    refine aI (tL hall hx) fun ns hR hnl => ?_
    refine cps fun Pz kz => ?_
    obtain ⟨f, b, r, lg, tm, tb, bl, lF, lN, rv, Q⟩ := plain ns (by exact le_of_eq_of_le hnl hlen)
    refine kz ?_; clear kz Pz
    have hc := zFm (C := CX w 1) (d := 301) (fun n hn => zJx w n hn) (f23 w 1) (by decide) (by decide) (by exact le_of_eq_of_le hnl hlen) Q
    have T1 : TI s₁.heap := ⟨⟨h0 _ _ (by kernel_rfl), .inl (h0 _ _ (by kernel_rfl))⟩, ⟨h0 _ _ (by kernel_rfl), .inl (h0 _ _ (by kernel_rfl))⟩, h0 _ _ (by kernel_rfl), .inl (h0 _ _ (by kernel_rfl))⟩
    have Htab : ∀ b ∈ [37, 44, 195], ∃ o vs, s₁.heap.get? b = some o ∧ o.data = .fields vs ∧ o.cls = .none ∧ ¬ aB o := (uB w (n := 1) (by decide)).tabIs _ T1
    have I : Inv (CX w 1) ⟨none, [37, 44, 195]⟩ s₁ := ⟨uB w (by decide), fun b o _ e => h0 b o e, T1, ⟨fun a ha => by
        refine cA (Htab a (by simpa [Hd.hid] using ha)) fun o _ e _ => ?_
        rw [e]; rfl, fun a ha => ha, (fun a h => by cases h), fun a ha o e => by
        refine jN (Htab a (by simpa [Hd.hid] using ha)) fun o' _ e' _ _ hn => ?_
        rw [e] at e'; cases e'; exact hn⟩, htk⟩
    have hla0 : la ∉ (⟨none, [37, 44, 195]⟩ : Hd).hid := fun h => by
      refine jN (Htab la (by simpa [Hd.hid] using h)) fun o' _ e' _ hcl _ => ?_
      rw [hla] at e'; cases e'; cases hcl
    have R : aD (⟨none, [37, 44, 195]⟩ : Hd).hid s₁.heap [.ref la] [.lst (pints ns)] := .cons (.lst (n := 0) hla0 hla (hR _)) .nil
    refine hc callerA s₁ ⟨none, [37, 44, 195]⟩ [.ref la] ⟨rfl, by decide, by decide⟩ I R _ _ fun v s' g rv' => ?_
    cases rv' with
    | bool _ =>
      refine bZ (zCs h0 T1 L.gens g) fun g1 g2 g3 => ?_
      exact ⟨.inl ⟨.bool true, .bool true, [], rfl, fun _ => rfl, .bool true, zO, fun _ => ⟨List.nodup_nil, fun a h => by cases h⟩⟩, g1, g2, g3⟩
end
end Top
end
section
theorem sx {a b : Str} (h : a.cps.toList = b.cps.toList) : a = b := by
  cases a; cases b; simp only [Str.mk.injEq]; exact Array.toList_inj.mp h
noncomputable def jl (z : List Nat) : List (List Nat) → List Nat
  | [] => []
  | p :: ps => p ++ (ps.map (z ++ ·)).flatten
theorem jU (z : Str) : ∀ l : List Str, (Str.join z l).cps.toList = jl z.cps.toList (l.map (·.cps.toList))
  | [] => rfl
  | [x] => by simp [Str.join, jl]
  | x :: y :: r => by
    have ih := jU z (y :: r)
    show (x ++ z ++ Str.join z (y :: r)).cps.toList = _
    show (((x.cps ++ z.cps) ++ (Str.join z (y :: r)).cps : Array Nat)).toList = _
    rw [Array.toList_append, Array.toList_append, ih]
    simp [jl]
theorem iO (z : Str) (l : List Str) : (Txt.join z l).cps.toList = jl z.cps.toList (l.map (·.cps.toList)) := by
  rw [← jU]; exact congrArg (fun x : Str => x.cps.toList) (StrLaws.glued_eq_join z l)
theorem xP : ∀ ps : List (List Nat), jl [] ps = ps.flatten
  | [] => rfl
  | p :: ps => by simp [jl]
noncomputable def aZ (c : Nat) : List Nat → List (List Nat)
  | [] => [[]]
  | k :: r => if k = c then [] :: aZ c r else (k :: (aZ c r).headD []) :: (aZ c r).tail
theorem jA (c k : Nat) (r : List Nat) : aZ c (k :: r) = if k = c then [] :: aZ c r else (k :: (aZ c r).headD []) :: (aZ c r).tail := rfl
theorem iI (c : Nat) : ∀ l, aZ c l = (aZ c l).headD [] :: (aZ c l).tail
  | [] => rfl
  | k :: r => by unfold aZ; split <;> rfl
theorem dS (c : Nat) (r : List Nat) : ∀ p : List Nat, c ∉ p → aZ c (p ++ r) = (p ++ (aZ c r).headD []) :: (aZ c r).tail
  | [], _ => iI c r
  | k :: p, h => by
    have hk : k ≠ c := fun e => h (e ▸ mH)
    have ih := dS c r p fun e => h (mT e)
    show aZ c (k :: (p ++ r)) = _
    rw [jA, if_neg hk, ih]
    rfl
theorem mW (c : Nat) : ∀ (ps : List (List Nat)) (p : List Nat), (∀ q ∈ p :: ps, c ∉ q) → aZ c (jl [c] (p :: ps)) = p :: ps
  | [], p, h => by
    have := dS c [] p (h p mH)
    simpa [jl, aZ] using this
  | q :: ps, p, h => by
    have ih := mW c ps q fun x hx => h x (mT hx)
    have e : jl [c] (p :: q :: ps) = p ++ c :: jl [c] (q :: ps) := by simp [jl]
    have e2 : aZ c (c :: jl [c] (q :: ps)) = [] :: (q :: ps) := by
      show (if c = c then _ else _) = _
      rw [if_pos rfl, ih]
    rw [e, dS c _ p (h p mH), e2]
    simp
theorem kC (x : Str) (c : Nat) : (Txt.split x ⟨#[c]⟩).map (·.cps.toList) = aZ c x.cps.toList := by
  have h1 := StrLaws.join_split x ⟨#[c]⟩
  have h2 := StrLaws.split_free x c
  have h3 := split_pos x ⟨#[c]⟩
  generalize Txt.split x ⟨#[c]⟩ = l at *
  rw [← h1, jU]
  match l, h3 with
  | p :: ps, _ =>
    refine (mW c (ps.map (·.cps.toList)) p.cps.toList ?_).symm
    intro q hq
    rw [← List.map_cons (f := fun x : Str => x.cps.toList)] at hq
    obtain ⟨y, hy, rfl⟩ := mM hq
    exact h2 y hy
theorem qV (z : List Nat) (c : Nat) : ∀ l : List Nat, jl z (aZ c l) = l.flatMap fun k => if k = c then z else [k]
  | [] => rfl
  | k :: r => by
    have ih := qV z c r
    rw [iI] at ih
    rw [List.flatMap_cons, ← ih]
    show jl z (if k = c then _ else _) = _
    by_cases h : k = c
    · rw [if_pos h, if_pos h]
      conv => lhs; rw [iI c r]
      simp [jl]
    · rw [if_neg h, if_neg h]
      simp [jl]
theorem gP (x z : Str) (c : Nat) : (Txt.replace x ⟨#[c]⟩ z).cps.toList = x.cps.toList.flatMap fun k => if k = c then z.cps.toList else [k] := by
  rw [StrLaws.replace_one, jU, kC, qV]
theorem oS (c : Nat) : ∀ l : List Nat, PyProof.Rows.cnt c l = (l.count c : Nat)
  | [] => rfl
  | k :: r => by
    rw [cnt_cons, oS c r, List.count_cons]
    by_cases h : k = c <;> simp [h]; exact Int.add_comm 1 ↑(List.count c r)
theorem fU (x : Str) (c : Nat) : Txt.count x ⟨#[c]⟩ = (x.cps.toList.count c : Nat) := by
  rw [count_is]; exact oS c _
theorem aY (x : Str) : x.length = x.cps.toList.length := by simp [Str.length]
theorem cH (c n : Nat) : (strRep ⟨#[c]⟩ n).cps.toList = List.replicate n c := by
  unfold strRep
  induction n with
  | zero => rfl
  | succ n ih => simp [List.replicate_succ] at ih ⊢
end
section
noncomputable def aJ (cs : List Nat) (b : Nat) : List Bool := (cs.flatMap fun c => List.replicate c false ++ [true]) ++ List.replicate b false
noncomputable def grow (c : Nat) (cnt : List Int) : List Int := if cnt.length ≤ c then cnt ++ List.replicate (c - cnt.length + 1) 0 else cnt
noncomputable def cell (cnt : List Int) (c : Nat) : List Int := (grow c cnt).set c ((grow c cnt).getD c 0 + 1)
noncomputable def mx : List Nat → Nat
  | [] => 0
  | c :: cs => max (c + 1) (mx cs)
theorem fO (cnt : List Int) : ∀ (c k : Nat), (List.replicate c false).foldl dH (cnt, (k : Int)) = (cnt, ((k + c : Nat) : Int))
  | 0, k => rfl
  | c + 1, k => by
    have ih := fO cnt c (k + 1)
    rw [List.replicate_succ, List.foldl_cons]
    show (List.replicate c false).foldl dH (cnt, (k : Int) + 1) = _
    rw [show (k : Int) + 1 = ((k + 1 : Nat) : Int) by omega, ih]
    congr 2; exact Nat.succ_add_eq_add_succ k c
theorem zI (cnt : List Int) (c : Nat) : dH (cnt, (c : Int)) true = (cell cnt c, 0) := by
  have e : cQ (cnt, (c : Int)) = grow c cnt := by
    unfold cQ grow
    by_cases h : cnt.length ≤ c
    · rw [if_pos (by show (cnt.length : Int) ≤ c; exact Int.ofNat_le.mpr h), if_pos h]
      have e3 : ((c : Int) - (cnt.length : Int) + 1).toNat = c - cnt.length + 1 := by omega
      show cnt ++ List.replicate ((c : Int) - (cnt.length : Int) + 1).toNat 0 = _
      rw [e3]
    · rw [if_neg (by show ¬ (cnt.length : Int) ≤ c; omega), if_neg h]
  unfold dH cell
  rw [if_pos rfl, e]
  rfl
theorem mZ (b : Nat) : ∀ (cs : List Nat) (cnt : List Int), (aJ cs b).foldl dH (cnt, 0) = (cs.foldl cell cnt, (b : Int))
  | [], cnt => by
    have := fO cnt b 0
    simpa [aJ] using this
  | c :: cs, cnt => by
    have ih := mZ b cs (cell cnt c)
    have h1 := fO cnt c 0
    rw [Nat.zero_add] at h1
    have e : aJ (c :: cs) b = List.replicate c false ++ (true :: aJ cs b) := by simp [aJ]
    rw [e, List.foldl_append, show ((0 : Int)) = ((0 : Nat) : Int) from rfl, h1, List.foldl_cons, zI, ih]
    rfl
theorem oI (c : Nat) (cnt : List Int) (s : Nat) : (grow c cnt).getD s 0 = cnt.getD s 0 := by
  unfold grow
  split
  · rename_i h
    simp only [List.getD_eq_getElem?_getD, List.getElem?_append, List.getElem?_replicate]
    split
    · rfl
    · rename_i h2
      rw [List.getElem?_eq_none (by exact Nat.le_of_not_lt h2)]
      split <;> rfl
  · rfl
theorem qZ (c : Nat) (cnt : List Int) : (grow c cnt).length = max cnt.length (c + 1) := by
  unfold grow
  split
  · rw [List.length_append, List.length_replicate]; omega
  · omega
theorem yP (cnt : List Int) (c : Nat) : (cell cnt c).length = max cnt.length (c + 1) := by
  unfold cell; rw [List.length_set, qZ]
theorem wB (cnt : List Int) (c s : Nat) : (cell cnt c).getD s 0 = cnt.getD s 0 + if c = s then 1 else 0 := by
  have hl := qZ c cnt
  unfold cell
  rw [List.getD_eq_getElem?_getD, List.getElem?_set]
  by_cases h : c = s
  · subst h
    rw [if_pos rfl, if_pos (by omega), if_pos rfl, oI]
    rfl
  · rw [if_neg h, if_neg h, ← List.getD_eq_getElem?_getD, oI]; exact Eq.symm (Int.add_zero (cnt.getD s 0))
theorem oV : ∀ (cs : List Nat) (cnt : List Int), (cs.foldl cell cnt).length = max cnt.length (mx cs)
  | [], cnt => by simp [mx]
  | c :: cs, cnt => by
    rw [List.foldl_cons, oV cs, yP]
    exact Nat.max_assoc ..
theorem lL (s : Nat) : ∀ (cs : List Nat) (cnt : List Int), (cs.foldl cell cnt).getD s 0 = cnt.getD s 0 + (cs.count s : Nat)
  | [], cnt => by simp
  | c :: cs, cnt => by
    rw [List.foldl_cons, lL s cs, wB, List.count_cons]
    by_cases h : c = s <;> simp [h]; omega
theorem dI (cs : List Nat) (b : Nat) : wrun (aJ cs b) = (cs.foldl cell [], (b : Int)) := mZ b cs []
theorem gF (cs : List Nat) (b : Nat) : (wrun (aJ cs b)).1.length = mx cs := by rw [dI]; simp [oV]
theorem mI (cs : List Nat) (b s : Nat) : (wrun (aJ cs b)).1.getD s 0 = (cs.count s : Nat) := by rw [dI, lL]; simp
theorem rQ (b : Nat) : ∀ cs : List Nat, wtabs (aJ cs b) = (cs.length : Nat) := by
  intro cs
  unfold wtabs aJ
  congr 1
  rw [List.count_append, List.count_replicate]
  simp only [Bool.false_beq, Bool.not_true, Bool.false_eq_true, if_false, Nat.add_zero]
  induction cs with
  | nil => rfl
  | cons c cs ih => rw [List.flatMap_cons, List.count_append, ih]; simp [List.count_replicate]; exact Nat.add_comm 1 cs.length
theorem qB (t k : Nat) : ∀ cs : List Nat, (cs.map fun c => if t ≤ c ∧ c < t + (k + 1) then c / t else 0).sum = (cs.map fun c => if t ≤ c ∧ c < t + k then c / t else 0).sum + (t + k) / t * cs.count (t + k)
  | [] => rfl
  | c :: cs => by
    simp only [List.map_cons, List.sum_cons, List.count_cons]
    rw [qB t k cs]
    by_cases h : c = t + k
    · subst h
      rw [if_pos (by omega), if_neg (by omega)]
      simp [Nat.mul_add]; omega
    · have e : (if t ≤ c ∧ c < t + (k + 1) then c / t else 0) = if t ≤ c ∧ c < t + k then c / t else 0 := by split <;> split <;> first | rfl | omega
      rw [e]
      have : ((c == t + k) = false) := by simpa using h
      rw [this]; simp; exact Eq.symm (Nat.add_assoc (if t ≤ c ∧ c < t + k then c / t else 0) (List.map (fun c => if t ≤ c ∧ c < t + k then c / t else 0) cs).sum ((t + k) / t * List.count (t + k) cs))
theorem qW {c : List Int} {cs : List Nat} (h : ∀ s, c.getD s 0 = (cs.count s : Nat)) (t : Nat) : ∀ k, ilAt c t k = ((cs.map fun c => if t ≤ c ∧ c < t + k then c / t else 0).sum : Nat)
  | 0 => by
    have : (cs.map fun c => if t ≤ c ∧ c < t + 0 then c / t else 0) = cs.map fun _ => 0 := List.map_congr_left fun c _ => if_neg (by omega)
    rw [this]
    have e : ∀ l : List Nat, (l.map fun _ => 0).sum = 0 := fun l => by induction l with
      | nil => rfl
      | cons a l ih => simpa using ih
    rw [e]; rfl
  | k + 1 => by
    show ilAt c t k + ((t + k : Nat) : Int).fdiv t * c.getD (t + k) 0 = _
    rw [qW h t k, qB, h, ← Int.ofNat_fdiv]
    push_cast; rfl
theorem xE : ∀ {cs : List Nat} {c : Nat}, c ∈ cs → c < mx cs
  | x :: cs, c, h => by
    simp only [mx]
    rcases mC h with rfl | h
    · omega
    · have := xE h; omega
noncomputable def S (t : Nat) : List Nat → Nat
  | [] => 0
  | c :: cs => (c / t + 1) + S t cs
theorem zCa (t : Nat) : ∀ cs : List Nat, S t cs = (cs.map fun c => c / t).sum + cs.length
  | [] => rfl
  | c :: cs => by simp only [S, List.map_cons, List.sum_cons, List.length_cons]; rw [zCa t cs]; omega
theorem gH (cs : List Nat) (b t : Nat) (ht : 1 ≤ t) : aP (aJ cs b) t = ((t * S t cs + b : Nat) : Int) := by
  unfold aP
  rw [gF, qW (fun s => mI cs b s), rQ]
  have e : (cs.map fun c => if t ≤ c ∧ c < t + (mx cs - t) then c / t else 0) = cs.map fun c => c / t := List.map_congr_left fun c hc => by
    have := xE hc
    split
    · rfl
    · rename_i h
      exact (Nat.div_eq_of_lt (by omega)).symm
  rw [e, zCa, dI]
  push_cast
  exact Int.add_comm _ _
theorem fV (t : Int) : ∀ (c : Nat) (x : Int), (List.replicate c 32).foldl (hZ t) x = x + (c : Nat)
  | 0, x => by simp
  | c + 1, x => by
    rw [List.replicate_succ, List.foldl_cons, fV t c]
    show x + 1 + _ = _
    omega
theorem oR (t b : Nat) (ht : 1 ≤ t) : ∀ (cs : List Nat) (m : Nat), (aW (aJ cs b)).foldl (hZ t) ((t * m : Nat) : Int) = ((t * (m + S t cs) + b : Nat) : Int)
  | [], m => by
    have e : aW (aJ [] b) = List.replicate b 32 := by simp [aW, aJ]
    rw [e, fV]; simp [S]
  | c :: cs, m => by
    have e : aW (aJ (c :: cs) b) = List.replicate c 32 ++ (9 :: aW (aJ cs b)) := by simp [aW, aJ]
    have e2 : hZ t (((t * m : Nat) : Int) + (c : Nat)) 9 = ((t * (m + (c / t + 1)) : Nat) : Int) := by
      unfold hZ
      rw [if_neg (by decide), ← Int.natCast_add, ← Int.ofNat_fmod]
      have h1 : (t * m + c) % t = c % t := by rw [Nat.add_comm, Nat.add_mul_mod_self_left]
      have h2 := Nat.div_add_mod c t
      rw [h1, show t * (m + (c / t + 1)) = t * m + t * (c / t) + t by rw [Nat.mul_add, Nat.mul_add, Nat.mul_one, Nat.add_assoc]]
      generalize t * (c / t) = q at *
      generalize t * m = q2 at *
      omega
    rw [e, List.foldl_append, fV, List.foldl_cons, e2, oR t b ht cs]
    simp only [S]; congr 2; rw [Nat.add_assoc]
theorem yL (cs : List Nat) (b t : Nat) (ht : 1 ≤ t) : col t (aW (aJ cs b)) = ((t * S t cs + b : Nat) : Int) := by
  have := oR t b ht cs 0
  simpa [col] using this
theorem jY (cs : List Nat) (b : Nat) (h : 1 ≤ mx cs) : dC (aJ cs b) = ((max b (mx cs - 1) : Nat) : Int) := by
  unfold dC
  rw [gF, dI]
  simp only
  split <;> omega
theorem sR (l m : List Bool) : ∀ k, witT l m k = (((List.range k).map (· + 1)).filter fun t => aP l t != aP m t).map fun t => (((t : Nat) : Int), aP l t, aP m t)
  | 0 => rfl
  | k + 1 => by
    rw [List.range_succ, List.map_append, List.filter_append, List.map_append, ← sR l m k]
    show (if aP l (k + 1) != aP m (k + 1) then _ else _) = _
    by_cases h : (aP l (k + 1) != aP m (k + 1)) = true
    · rw [if_pos h]
      simp [h]
    · rw [if_neg h]
      simp [h]
end
section
theorem yE (x y : Str) : Txt.endswith x y = true ↔ y.cps.toList <:+ x.cps.toList := by
  unfold Txt.endswith
  rw [StrLaws.subAt_eq, Bool.and_eq_true, decide_eq_true_eq, beq_iff_eq, aY, aY, Nat.zero_add]
  constructor
  · rintro ⟨h1, h2⟩
    rw [← h2]
    rw [List.take_of_length_le (by rw [List.length_drop]; walk_at "o")]
    exact List.drop_suffix _ _
  · rintro ⟨p, hp⟩
    rw [← hp, List.length_append]
    refine ⟨by exact Nat.le_add_left y.cps.toList.length p.length, ?_⟩
    rw [show p.length + y.cps.toList.length - y.cps.toList.length = p.length by exact Eq.symm (Nat.eq_sub_of_add_eq rfl), List.drop_left, List.take_length]
section
variable (text : Str) (folds : List Str) (letter : Str) (wt : Int)
noncomputable def wv (e : Nat) : Int := (waysL text folds letter wt e).getD e 0
theorem cW : ∀ e, (waysL text folds letter wt e).length = e + 1
  | 0 => rfl
  | e + 1 => by show (_ ++ [_]).length = _; rw [List.length_append, cW e]; rfl
theorem dJ : ∀ e i, i ≤ e → (waysL text folds letter wt e).getD i 0 = wv text folds letter wt i
  | 0, i, h => by obtain rfl : i = 0 := by exact Nat.eq_zero_of_le_zero h
                  rfl
  | e + 1, i, h => by
    by_cases hi : i = e + 1
    · subst hi; rfl
    · rw [← dJ e i (by omega)]
      have hl := cW text folds letter wt e
      show (_ ++ [_]).getD i 0 = _
      rw [List.getD_eq_getElem?_getD, List.getD_eq_getElem?_getD, List.getElem?_append_left (by omega)]
noncomputable def phi (l : Nat) (v : Nat → Int) (wt : Int) (e : Nat) (g : List Nat) : Int := v (e - g.length) * (if g = [l] then wt else 1)
theorem sQ : wv text folds letter wt 0 = 1 := rfl
theorem zD (e : Nat) : wv text folds letter wt (e + 1) = pY text folds letter wt (waysL text folds letter wt e) (e + 1) := by
  have hl := cW text folds letter wt e
  show (_ ++ [_]).getD (e + 1) 0 = _
  rw [List.getD_eq_getElem?_getD, List.getElem?_append_right (by exact Nat.le_of_eq hl), hl, Nat.sub_self]
  rfl
end
theorem qC (v : List Nat → Int) (p : List Nat) (a b : Nat) : ∀ F : List (List Nat), (∀ g ∈ F, g.length = 1 ∨ g.length = 2) →
    ((F.filter fun g => decide (g <:+ p ++ [a, b])).map v).sum = (F.count [b] : Nat) * v [b] + (F.count [a, b] : Nat) * v [a, b]
  | [], _ => by simp
  | g :: F, h => by
    have ih := qC v p a b F fun x hx => h x (mT hx)
    have hg := h g mH
    rw [List.count_cons, List.count_cons]
    have key : g <:+ p ++ [a, b] ↔ g = [b] ∨ g = [a, b] := by
      constructor
      · rintro ⟨q, hq⟩
        match g, hg with
        | [x], _ =>
          left
          have := congrArg List.getLast? hq
          simp at this
          rw [this]
        | [x, y], _ =>
          right
          have e1 : q.length = p.length := by have := congrArg List.length hq; simp at this; walk_at "o"
          exact (List.append_inj hq e1).2
        | [], h => rcases h with h | h <;> cases h
        | _ :: _ :: _ :: _, h => simp at h
      · rintro (rfl | rfl)
        · exact ⟨p ++ [a], by simp⟩
        · exact ⟨p, rfl⟩
    by_cases h1 : g = [b]
    · subst h1
      rw [List.filter_cons_of_pos (by simpa using key.mpr (.inl rfl)), List.map_cons, List.sum_cons, ih]
      simp only [BEq.rfl, if_true]
      have : (([b] : List Nat) == [a, b]) = false := by simp
      rw [this]
      push_cast
      simp [Int.add_mul]; omega
    · by_cases h2 : g = [a, b]
      · subst h2
        rw [List.filter_cons_of_pos (by simpa using key.mpr (.inr rfl)), List.map_cons, List.sum_cons, ih]
        have : (([a, b] : List Nat) == [b]) = false := by simp
        rw [this]
        simp only [BEq.rfl, if_true]
        push_cast
        simp [Int.add_mul]; omega
      · rw [List.filter_cons_of_neg (by simpa using fun hh => (key.mp hh).elim h1 h2), ih]
        have e1 : (g == [b]) = false := by simpa using h1
        have e2 : (g == [a, b]) = false := by simpa using h2
        rw [e1, e2]; simp
theorem mP (v : List Nat → Int) (b : Nat) : ∀ F : List (List Nat), (∀ g ∈ F, g.length = 1 ∨ g.length = 2) →
    ((F.filter fun g => decide (g <:+ [b])).map v).sum = (F.count [b] : Nat) * v [b]
  | [], _ => by simp
  | g :: F, h => by
    have ih := mP v b F fun x hx => h x (mT hx)
    have hg := h g mH
    rw [List.count_cons]
    have key : g <:+ [b] ↔ g = [b] := by
      constructor
      · intro hq
        have hl := hq.length_le
        match g, hg with
        | [x], _ =>
          obtain ⟨q, hq⟩ := hq
          have := congrArg List.getLast? hq
          simp at this
          rw [this]
        | [x, y], _ => simp at hl
        | [], h => rcases h with h | h <;> cases h
        | _ :: _ :: _ :: _, h => simp at h
      · rintro rfl; exact List.suffix_refl _
    by_cases h1 : g = [b]
    · subst h1
      rw [List.filter_cons_of_pos (by simpa using key.mpr rfl), List.map_cons, List.sum_cons, ih]
      simp only [BEq.rfl, if_true]
      push_cast
      simp [Int.add_mul]; exact Int.add_comm (v [b]) (↑(List.count [b] F) * v [b])
    · rw [List.filter_cons_of_neg (by simpa using fun hh => h1 (key.mp hh)), ih]
      have e1 : (g == [b]) = false := by simpa using h1
      rw [e1]; simp
end
section
inductive U where
  | L | C (c : Nat) | G
noncomputable def U.cs (l x : Nat) : U → List Nat
  | .L => [l]
  | .C c => [c]
  | .G => [l, x]
noncomputable def U.cl : U → Bool
  | .L => false
  | _ => true
noncomputable def codes (l x : Nat) (us : List U) : List Nat := us.flatMap (U.cs l x)
structure HF (l x A : Nat) (F : List (List Nat)) : Prop where
  lx : x ≠ l
  len : ∀ g ∈ F, g.length = 1 ∨ g.length = 2
  one : F.count [l] = A
  two : F.count [l, l] = 1
  nx : F.count [x] = 0
  oth : ∀ a b, F.count [a, b] ≠ 0 → a = l ∧ (b = l ∨ b = x)
noncomputable def okU (l x : Nat) (F : List (List Nat)) : U → Prop
  | .L => True
  | .C c => c ≠ l ∧ c ≠ x ∧ F.count [c] = 1
  | .G => F.count [l, x] = 1
section
variable {text : Str} {folds : List Str} {l x A : Nat} {wt : Int}
theorem wF (hl : ∀ g ∈ folds.map (·.cps.toList), g.length = 1 ∨ g.length = 2) (e : Nat) :
    wv text folds ⟨#[l]⟩ wt (e + 1) = (((folds.map (·.cps.toList)).filter fun g => decide (g <:+ text.cps.toList.take (e + 1))).map (phi l (wv text folds ⟨#[l]⟩ wt) wt (e + 1))).sum := by
  rw [zD]
  unfold pY
  rw [List.filter_map, List.map_map]
  have e1 : folds.filter (Txt.endswith (tk text (e + 1))) = folds.filter ((fun g => decide (g <:+ text.cps.toList.take (e + 1))) ∘ fun x => x.cps.toList) := by
    refine List.filter_congr fun f hf => ?_
    rw [Bool.eq_iff_iff, yE]
    simp [tk]
  rw [e1]
  congr 1
  refine List.map_congr_left fun f hf => ?_
  have hfm := hl f.cps.toList (List.mem_map.mpr ⟨f, (List.mem_filter.mp hf).1, rfl⟩)
  unfold wterm
  show _ = phi l _ wt (e + 1) f.cps.toList
  unfold phi
  rw [dJ _ _ _ _ _ _ (by rw [aY]; walk_at "o"), aY]
  congr 1
  by_cases h : f.cps.toList = [l]
  · rw [if_pos h, if_pos]
    rw [h]; simp
  · rw [if_neg h, if_neg]
    simpa using h
variable {P : Nat}
noncomputable def zKf (l : Nat) (P : Nat) (v : Nat → Int) (pre : List Nat) (D k : Nat) : Prop :=
  v pre.length = ((D * lu P (k + 1) : Nat) : Int) ∧ ((k = 0 ∧ (pre = [] ∨ ∃ p b, pre = p ++ [b] ∧ b ≠ l)) ∨ (1 ≤ k ∧ v (pre.length - 1) = ((D * lu P k : Nat) : Int) ∧ ∃ p, pre = p ++ [l]))
theorem jZ (hF : HF l x A (folds.map (·.cps.toList))) (hP : (P : Int) = (A : Nat) * wt) {pre q : List Nat} {b : Nat} (ht : text.cps.toList = pre ++ b :: q) :
    wv text folds ⟨#[l]⟩ wt (pre.length + 1) = (((folds.map (·.cps.toList)).count [b] : Nat) : Int) * (wv text folds ⟨#[l]⟩ wt pre.length * (if b = l then wt else 1)) +
      (match pre.getLast? with | some a => (((folds.map (·.cps.toList)).count [a, b] : Nat) : Int) * wv text folds ⟨#[l]⟩ wt (pre.length - 1) | none => 0) := by
  rw [wF hF.len]
  have e1 : text.cps.toList.take (pre.length + 1) = pre ++ [b] := by
    rw [ht, show pre ++ b :: q = (pre ++ [b]) ++ q by simp, List.take_left' (by simp)]
  rw [e1]
  rcases List.eq_nil_or_concat pre with rfl | ⟨p, a, rfl⟩
  · rw [show ([] : List Nat) ++ [b] = [b] from rfl, mP _ _ _ hF.len]
    simp [phi]
  · rw [show p.concat a ++ [b] = p ++ [a, b] by simp, qC _ _ _ _ _ hF.len]
    rw [List.concat_eq_append, List.getLast?_concat]
    simp [phi]
noncomputable def qH (P : Nat) : List U → Nat → Nat → Nat
  | [], D, k => D * lu P (k + 1)
  | .L :: r, D, k => qH P r D (k + 1)
  | _ :: r, D, k => qH P r (D * lu P (k + 1)) 0
theorem gI (hF : HF l x A (folds.map (·.cps.toList))) (hP : (P : Int) = (A : Nat) * wt) : ∀ (us : List U) (pre : List Nat) (D k : Nat) (q : List Nat), (∀ u ∈ us, okU l x (folds.map (·.cps.toList)) u) → text.cps.toList = pre ++ (codes l x us ++ q) →
    zKf l P (wv text folds ⟨#[l]⟩ wt) pre D k → wv text folds ⟨#[l]⟩ wt (pre ++ codes l x us).length = ((qH P us D k : Nat) : Int)
  | [], pre, D, k, q, hu, ht, hi => by
    have : pre ++ codes l x [] = pre := by simp [codes]
    rw [this]; exact hi.1
  | u :: us, pre, D, k, q, hu, ht, hi => by
    have hu' := hu u mH
    have hus : ∀ y ∈ us, okU l x (folds.map (·.cps.toList)) y := fun y hy => hu y (mT hy)
    have ecs : codes l x (u :: us) = u.cs l x ++ codes l x us := by simp [codes]
    obtain ⟨h1, h2⟩ := hi
    cases u with
    | L =>
      have ih := gI hF hP us (pre ++ [l]) D (k + 1) q hus (by rw [ht, ecs]; simp [U.cs])
      rw [ecs, show pre ++ (U.cs l x .L ++ codes l x us) = (pre ++ [l]) ++ codes l x us by simp [U.cs]]
      refine ih ⟨?_, .inr ⟨by exact Nat.le_add_left 1 k, ?_, pre, rfl⟩⟩
      · rw [List.length_append]
        show wv text folds ⟨#[l]⟩ wt (pre.length + 1) = _
        rw [jZ hF hP (pre := pre) (b := l) (q := codes l x us ++ q) (by rw [ht, ecs]; simp [U.cs]), hF.one, if_pos rfl, h1]
        rcases h2 with ⟨rfl, rfl | ⟨p, b, rfl, hb⟩⟩ | ⟨hk, hv, p, rfl⟩
        · simp [lu, hP]
          rw [Int.mul_left_comm]
        · rw [List.getLast?_concat]
          have : (folds.map (·.cps.toList)).count [b, l] = 0 := by
            apply Classical.byContradiction
            intro hc
            exact hb (hF.oth b l hc).1
          simp only [this]
          simp [lu, hP]
          rw [Int.mul_left_comm]
        · rw [List.getLast?_concat]
          simp only [hF.two]
          rw [hv]
          show _ = ((D * (P * lu P (k + 1) + lu P k) : Nat) : Int)
          push_cast
          rw [hP, Int.mul_add]
          generalize (lu P (k + 1) : Int) = z
          generalize (lu P k : Int) = z'
          grind
      · rw [List.length_append]
        show wv text folds ⟨#[l]⟩ wt (pre.length + 1 - 1) = _
        rw [Nat.add_sub_cancel]; exact h1
    | C c =>
      refine bZ hu' fun c1 c2 c3 => ?_; clear hu'
      have ih := gI hF hP us (pre ++ [c]) (D * lu P (k + 1)) 0 q hus (by rw [ht, ecs]; simp [U.cs])
      rw [ecs, show pre ++ (U.cs l x (.C c) ++ codes l x us) = (pre ++ [c]) ++ codes l x us by simp [U.cs]]
      refine ih ⟨?_, .inl ⟨rfl, .inr ⟨pre, c, rfl, c1⟩⟩⟩
      rw [List.length_append]
      show wv text folds ⟨#[l]⟩ wt (pre.length + 1) = _
      rw [jZ hF hP (pre := pre) (b := c) (q := codes l x us ++ q) (by rw [ht, ecs]; simp [U.cs]), c3, if_neg c1, h1]
      have hz : ∀ a, (folds.map (·.cps.toList)).count [a, c] = 0 := fun a => by
        apply Classical.byContradiction
        intro hc
        rcases (hF.oth a c hc).2 with h | h
        · exact c1 h
        · exact c2 h
      cases pre.getLast? with
      | none => simp [lu]
      | some a => simp [hz, lu]
    | G =>
      have g1 : (folds.map (·.cps.toList)).count [l, x] = 1 := hu'
      have ih := gI hF hP us (pre ++ [l, x]) (D * lu P (k + 1)) 0 q hus (by rw [ht, ecs]; simp [U.cs])
      rw [ecs, show pre ++ (U.cs l x .G ++ codes l x us) = (pre ++ [l, x]) ++ codes l x us by simp [U.cs]]
      refine ih ⟨?_, .inl ⟨rfl, .inr ⟨pre ++ [l], x, by simp, hF.lx⟩⟩⟩
      have e : (pre ++ [l, x]).length = (pre ++ [l]).length + 1 := by simp
      rw [e, jZ hF hP (pre := pre ++ [l]) (b := x) (q := codes l x us ++ q) (by rw [ht, ecs]; simp [U.cs]), hF.nx, List.getLast?_concat]
      simp only [g1]
      rw [show (pre ++ [l]).length - 1 = pre.length by simp, h1]
      simp [lu]
noncomputable def eG : Nat → List Bool → List Nat
  | k, [] => [k + 1]
  | k, true :: r => (k + 1) :: eG 0 r
  | k, false :: r => eG (k + 1) r
theorem eZ (P : Nat) : ∀ (us : List U) (D k : Nat), qH P us D k = D * dK P (eG k (us.map U.cl))
  | [], D, k => by simp [qH, eG, dK]
  | .L :: r, D, k => by
    show qH P r D (k + 1) = _
    rw [eZ P r]; rfl
  | .C c :: r, D, k => by
    show qH P r (D * lu P (k + 1)) 0 = _
    rw [eZ P r, Nat.mul_assoc]; rfl
  | .G :: r, D, k => by
    show qH P r (D * lu P (k + 1)) 0 = _
    rw [eZ P r, Nat.mul_assoc]; rfl
theorem pZ (hF : HF l x A (folds.map (·.cps.toList))) (hP : (P : Int) = (A : Nat) * wt) (us : List U) (q : List Nat) (hu : ∀ u ∈ us, okU l x (folds.map (·.cps.toList)) u) (ht : text.cps.toList = codes l x us ++ q) :
    wv text folds ⟨#[l]⟩ wt (codes l x us).length = ((dK P (eG 0 (us.map U.cl)) : Nat) : Int) := by
  have := gI hF hP us [] 1 0 q hu (by rw [ht]; rfl) ⟨by simp [sQ, lu], .inl ⟨rfl, .inl rfl⟩⟩
  rw [eZ, Nat.one_mul] at this
  simpa using this
theorem gJ (hF : HF l x A (folds.map (·.cps.toList))) (hP : (P : Int) = (A : Nat) * wt) {n : Nat} (ht : text.cps.toList = List.replicate n l) (j : Nat) (hj : j ≤ n) :
    wv text folds ⟨#[l]⟩ wt j = ((lu P (j + 1) : Nat) : Int) := by
  have hc : ∀ j, codes l x (List.replicate j .L) = List.replicate j l := fun j => by
    induction j with
    | zero => rfl
    | succ j ih => rw [List.replicate_succ, List.replicate_succ, ← ih]; simp [codes, U.cs]
  have := pZ hF hP (List.replicate j .L) (List.replicate (n - j) l) (fun u hu => by rw [List.eq_of_mem_replicate hu]; trivial) (by rw [hc, ht, List.replicate_append_replicate]; congr 1; exact Eq.symm (Nat.add_sub_of_le hj))
  rw [hc, List.length_replicate] at this
  rw [this]
  have e : ∀ j k, eG k ((List.replicate j U.L).map U.cl) = [j + k + 1] := fun j => by
    induction j with
    | zero => intro k; show [k + 1] = _; rw [Nat.zero_add]
    | succ j ih => intro k; show eG (k + 1) ((List.replicate j U.L).map U.cl) = _; rw [ih]; congr 1; exact Nat.add_right_comm j (k + 1) 1
  rw [e]
  simp [dK]
end
end
section
noncomputable def lN (f : Nat) : Nat := (aQ.getD f 0).toNat
noncomputable def xN (f : Nat) : Nat := [116, 97, 105].getD f 0
noncomputable def one (c : Nat) : Str := ⟨#[c]⟩
noncomputable def rN (f : Nat) : List Sg :=
  ([(aQ.getD f 0).toNat, (aQ.getD f 0 - 32).toNat, (dR.getD f 0).toNat] ++ eK.map fun a => (119711 + 52 * a + aQ.getD f 0).toNat).map (fun c => (⟨c, false, one (lN f)⟩ : Sg)) ++
  (⟨(dblL.getD f 0).toNat, false, ⟨#[lN f, lN f]⟩⟩ :: ⟨(ligL.getD f 0).toNat, false, zIe.getD f ""⟩ :: (b1L.map (fun c => (⟨c.toNat, true, one c.toNat⟩ : Sg)) ++ clL.map fun c => (⟨c.toNat, false, one c.toNat⟩ : Sg)))
theorem iQ {l : List Int} {i : Nat} (h : i < l.length) : l.getD i 0 ∈ l := by
  rw [List.getD_eq_getElem?_getD, List.getElem?_eq_getElem h]
  exact List.getElem_mem h
theorem gZ (n m : Int) (h : 0 < m) : (n.fmod m).toNat < m.toNat := by
  have h1 := Int.fmod_nonneg_of_pos n h
  have h2 := Int.fmod_lt_of_pos n h
  exact (Int.toNat_lt_toNat h).mpr h2
theorem zH (n : Int) {f : Nat} (hf : f < 3) : sgn n f ∈ rN f := by
  have h9 := gZ n 9 (by decide)
  have h10 := gZ (n.fdiv 9) 10 (by decide)
  have h27 := gZ (n.fdiv 9) 27 (by decide)
  have h17 := gZ (n.fdiv 9) 17 (by decide)
  unfold sgn
  by_cases h : (n.fmod 9).toNat < 6
  · rw [if_pos h]
    have hst : ∀ k, strRep ⟨#[(aQ.getD f 0).toNat]⟩ k = ⟨(List.replicate k (lN f)).toArray⟩ := fun k => sx (by rw [cH]; rfl)
    rw [hst]
    generalize hk : (n.fmod 9).toNat = k at *
    have hm := iQ (l := eK) (i := ((n.fdiv 9).fmod 10).toNat) (by simpa [eK] using h10)
    match k, h with
    | 0, _ => exact mL (List.mem_map.mpr ⟨_, mL mH, rfl⟩)
    | 1, _ => exact mL (List.mem_map.mpr ⟨_, mL (mT mH), rfl⟩)
    | 2, _ => exact mL (List.mem_map.mpr ⟨_, mR (List.mem_map.mpr ⟨_, hm, rfl⟩), rfl⟩)
    | 3, _ => exact mL (List.mem_map.mpr ⟨_, mL (mT (mT mH)), rfl⟩)
    | 4, _ => exact mR mH
    | 5, _ => exact mR mH
  · rw [if_neg h]
    by_cases h6 : (n.fmod 9).toNat = 6
    · rw [if_pos h6]
      exact mR (mT (mT (mL (List.mem_map.mpr ⟨_, iQ (l := b1L) (by simpa [b1L] using h27), rfl⟩))))
    · rw [if_neg h6]
      by_cases h16 : ((n.fdiv 9).fmod 17).toNat = 16
      · rw [if_pos h16]
        exact mR (mT mH)
      · rw [if_neg h16]
        exact mR (mT (mT (mR (List.mem_map.mpr ⟨_, iQ (l := clL) (by simp [clL]; simp at h17; walk_at "o"), rfl⟩))))
theorem eY {f : Nat} (hf : f < 3) (script : List Int) : ∀ s ∈ bC f script, s ∈ rN f := by
  intro s hs
  rcases mA hs with h | h
  · obtain ⟨n, _, rfl⟩ := mM h
    exact zH n hf
  · have hst : strRep ⟨#[(aQ.getD f 0).toNat]⟩ 2 = ⟨#[lN f, lN f]⟩ := sx (by rw [cH]; rfl)
    rw [hst] at h
    rcases mC h with rfl | h
    · exact mL (List.mem_map.mpr ⟨_, mL mH, rfl⟩)
    · rcases mC h with rfl | h
      · exact mR mH
      · cases h
noncomputable def shp (l x : Nat) : List Nat → Bool
  | [c] => c != x
  | [a, b] => a == l && (b == l || b == x)
  | _ => false
noncomputable def sX (f : Nat) (s : Sg) : Bool := (b1L.contains (s.code : Int) == s.nil) && ((eR s.code).cps.toList == s.fold.cps.toList) && (s.nil || shp (lN f) (xN f) s.fold.cps.toList)
noncomputable def zIx (f : Nat) (l : List Sg) : Bool := l.all fun s => s.nil || s.fold.cps.toList == [lN f] || l.all fun s' => s'.nil || s.fold.cps.toList != s'.fold.cps.toList || s.code == s'.code
theorem wM : ∀ f, f < 3 → (rN f).all (sX f) = true := by decide +kernel
theorem zF : ∀ f, f < 3 → zIx f (rN f) = true := by decide +kernel
end
section
structure yU (g : Str → Str) (kvs : List (Str × Str)) : Prop where
  nd : (kvs.map (·.1)).Nodup
  val : ∀ p ∈ kvs, p.2 = g p.1
theorem uN {g : Str → Str} {kvs : List (Str × Str)} (h : yU g kvs) {p : Str × Str} (hp : p.2 = g p.1) : yU g (fP kvs p) ∧ ∀ q, q ∈ fP kvs p ↔ q ∈ kvs ∨ q = p := by
  unfold fP
  by_cases ha : (kvs.any fun kv => decide (kv.1 = p.1)) = true
  · rw [if_pos ha]
    refine aI (List.any_eq_true.mp ha) fun kv hm hk => ?_
    have hk := of_decide_eq_true hk
    have e : (kvs.map fun kv => if kv.1 = p.1 then (kv.1, p.2) else kv) = kvs := by
      have : (kvs.map fun kv => if kv.1 = p.1 then (kv.1, p.2) else kv) = kvs.map id := List.map_congr_left fun q hq => by
        by_cases hc : q.1 = p.1
        · rw [if_pos hc, hp, ← hc, ← h.val q hq]; rfl
        · rw [if_neg hc]; rfl
      rw [this, List.map_id]
    rw [e]
    have hkp : kv = p := Prod.ext hk (by rw [h.val kv hm, hp, hk])
    exact ⟨h, fun q => ⟨.inl, fun hq => hq.elim id fun e => by rw [e, ← hkp]; exact hm⟩⟩
  · rw [if_neg ha]
    have hno : ∀ kv ∈ kvs, kv.1 ≠ p.1 := fun kv hm hk => ha (List.any_eq_true.mpr ⟨kv, hm, decide_eq_true hk⟩)
    refine ⟨⟨?_, ?_⟩, fun q => by simp⟩
    · rw [List.map_append, List.nodup_append]
      refine ⟨h.nd, by simp, ?_⟩
      intro a ha' b hb
      obtain ⟨kv, hm, rfl⟩ := mM ha'
      simp at hb
      rw [hb]; exact hno kv hm
    · intro q hq
      rcases mA hq with hq | hq
      · exact h.val q hq
      · rw [mS hq]; exact hp
theorem jC {g : Str → Str} : ∀ (ps kvs : List (Str × Str)), yU g kvs → (∀ p ∈ ps, p.2 = g p.1) → yU g (ps.foldl fP kvs) ∧ ∀ q, q ∈ ps.foldl fP kvs ↔ q ∈ kvs ∨ q ∈ ps
  | [], kvs, h, _ => ⟨h, fun q => by simp⟩
  | p :: ps, kvs, h, hp => by
    obtain ⟨h1, h2⟩ := uN h (hp p mH)
    obtain ⟨h3, h4⟩ := jC ps (fP kvs p) h1 fun q hq => hp q (mT hq)
    exact ⟨h3, fun q => by rw [List.foldl_cons, h4, h2, List.mem_cons, or_assoc]⟩
theorem oP (w : List Nat) : ∀ (kvs : List (Str × Str)) (p : Str × Str), (kvs.map (·.1)).Nodup → p ∈ kvs → p.2.cps.toList = w → (∀ q ∈ kvs, q.2.cps.toList = w → q.1 = p.1) →
    ((kvs.map (·.2)).map (·.cps.toList)).count w = 1
  | q :: kvs, p, hn, hp, hw, hu => by
    rw [List.map_cons, List.nodup_cons] at hn
    rw [List.map_cons, List.map_cons, List.count_cons]
    rcases mC hp with rfl | hp
    · have : ((kvs.map (·.2)).map (·.cps.toList)).count w = 0 := by
        rw [List.count_eq_zero]
        intro hm
        obtain ⟨v, hv, rfl⟩ := mM hm
        obtain ⟨r, hr, rfl⟩ := mM hv
        exact hn.1 (List.mem_map.mpr ⟨r, hr, hu r (mT hr) rfl⟩)
      rw [this, hw]; simp
    · have ih := oP w kvs p hn.2 hp hw fun r hr => hu r (mT hr)
      rw [ih]
      have : (q.2.cps.toList == w) = false := by
        apply Bool.eq_false_iff.mpr
        intro hc
        have hq := hu q mH (by simpa using hc)
        exact hn.1 (List.mem_map.mpr ⟨p, hp, hq.symm⟩)
      rw [this]; rfl
section
variable {f : Nat} (hf : f < 3) (script : List Int)
include hf
theorem qG : ∀ s ∈ bC f script, sX f s = true := fun s hs => List.all_eq_true.mp (wM f hf) s (eY hf script s hs)
theorem sW : Told (bC f script) := by
  intro s hs
  have h := qG hf script s hs
  unfold sX at h
  simp only [Bool.and_eq_true, beq_iff_eq] at h
  obtain ⟨⟨h1, h2⟩, h3⟩ := h
  refine ⟨h1, sx h2, ?_⟩
  rw [aY, ← h2]
  have hm := eY hf script s hs
  have : ∀ f, f < 3 → (rN f).all (fun s => decide ((eR s.code).cps.toList.length ≤ 10)) = true := by decide +kernel
  exact of_decide_eq_true (List.all_eq_true.mp (this f hf) s hm)
theorem kF {s : Sg} (hs : s ∈ bC f script) (hn : s.nil = false) : shp (lN f) (xN f) s.fold.cps.toList = true := by
  have h := qG hf script s hs
  unfold sX at h
  simp only [Bool.and_eq_true, Bool.or_eq_true] at h
  rcases h.2 with h | h
  · rw [hn] at h; cases h
  · exact h
theorem yM {s s' : Sg} (hs : s ∈ bC f script) (hs' : s' ∈ bC f script) (hn : s.nil = false) (hn' : s'.nil = false) (hl : s.fold.cps.toList ≠ [lN f]) (he : s.fold.cps.toList = s'.fold.cps.toList) : s.code = s'.code := by
  have h := List.all_eq_true.mp (zF f hf) s (eY hf script s hs)
  simp only [Bool.or_eq_true, beq_iff_eq, bne_iff_ne] at h
  rcases h with (h | h) | h
  · rw [hn] at h; cases h
  · exact absurd h hl
  · have h2 := List.all_eq_true.mp h s' (eY hf script s' hs')
    simp only [Bool.or_eq_true, beq_iff_eq, bne_iff_ne] at h2
    rcases h2 with (h2 | h2) | h2
    · rw [hn'] at h2; cases h2
    · exact absurd he h2
    · exact h2
theorem qE : yU (fun k => eR (k.cps.getD 0 0)) (stkOf (bC f script)) ∧ ∀ q, q ∈ stkOf (bC f script) ↔ ∃ s ∈ bC f script, s.nil = false ∧ q = (one s.code, s.fold) := by
  obtain ⟨h1, h2⟩ := jC (g := fun k => eR (k.cps.getD 0 0)) ((bC f script).filterMap fun s => if (!s.nil) = true then some ((⟨#[s.code]⟩ : Str), s.fold) else none) [] ⟨List.nodup_nil, fun p hp => by cases hp⟩ (by
    intro p hp
    refine aI (List.mem_filterMap.mp hp) fun s hs he => ?_
    split at he
    · cases he
      exact ((sW hf script) s hs).2.1.symm
    · cases he)
  refine ⟨h1, fun q => ?_⟩
  rw [show stkOf (bC f script) = List.foldl fP [] ((bC f script).filterMap fun s => if (!s.nil) = true then some ((⟨#[s.code]⟩ : Str), s.fold) else none) from rfl, h2, List.mem_filterMap]
  constructor
  · rintro (h | ⟨s, hs, he⟩)
    · cases h
    · split at he
      · rename_i hn
        cases he
        exact ⟨s, hs, by simpa using hn, rfl⟩
      · cases he
  · rintro ⟨s, hs, hn, rfl⟩
    exact .inr ⟨s, hs, by rw [hn]; rfl⟩
theorem gY (g : List Nat) : g ∈ (flL f script).map (·.cps.toList) ↔ ∃ s ∈ bC f script, s.nil = false ∧ g = s.fold.cps.toList := by
  obtain ⟨h1, h2⟩ := qE hf script
  constructor
  · intro h
    obtain ⟨v, hv, rfl⟩ := mM h
    obtain ⟨p, hp, rfl⟩ := mM hv
    refine bY ((h2 p).mp hp) fun s hs hn ez1 => ?_; subst ez1
    exact ⟨s, hs, hn, rfl⟩
  · rintro ⟨s, hs, hn, rfl⟩
    exact List.mem_map.mpr ⟨s.fold, List.mem_map.mpr ⟨(one s.code, s.fold), (h2 _).mpr ⟨s, hs, hn, rfl⟩, rfl⟩, rfl⟩
theorem rG {s : Sg} (hs : s ∈ bC f script) (hn : s.nil = false) (hl : s.fold.cps.toList ≠ [lN f]) : ((flL f script).map (·.cps.toList)).count s.fold.cps.toList = 1 := by
  obtain ⟨h1, h2⟩ := qE hf script
  refine oP _ (stkOf (bC f script)) (one s.code, s.fold) h1.nd ((h2 _).mpr ⟨s, hs, hn, rfl⟩) rfl ?_
  intro q hq he
  refine bY ((h2 q).mp hq) fun s' hs' hn' ez1 => ?_; subst ez1
  rw [yM hf script hs hs' hn hn' hl he.symm]
end
theorem oA : ∀ f, f < 3 → xN f ≠ lN f ∧ lN f ≠ 9 ∧ lN f ≠ 32 ∧ lN f ≠ 0 := by decide
theorem oZ {l x : Nat} {g : List Nat} (h : shp l x g = true) : g.length = 1 ∨ g.length = 2 := by
  match g, h with
  | [c], _ => exact .inl rfl
  | [a, b], _ => exact .inr rfl
theorem qY {f : Nat} (hf : f < 3) (script : List Int) : HF (lN f) (xN f) (((flL f script).map (·.cps.toList)).count [lN f]) ((flL f script).map (·.cps.toList)) := by
  have hlx := (oA f hf).1
  refine ⟨hlx, ?_, rfl, ?_, ?_, ?_⟩
  · intro g hg
    refine bY ((gY hf script g).mp hg) fun s hs hn ez1 => ?_; subst ez1
    exact oZ (kF hf script hs hn)
  · have hm : (⟨(dblL.getD f 0).toNat, false, strRep ⟨#[(aQ.getD f 0).toNat]⟩ 2⟩ : Sg) ∈ bC f script := mR (mT mH)
    have e : (strRep ⟨#[(aQ.getD f 0).toNat]⟩ 2).cps.toList = [lN f, lN f] := by rw [cH]; rfl
    have := rG hf script hm rfl (by rw [e]; simp)
    rwa [e] at this
  · rw [List.count_eq_zero]
    intro hm
    refine bY ((gY hf script _).mp hm) fun s hs hn he => ?_
    have := kF hf script hs hn
    rw [← he] at this
    simp [shp] at this
  · intro a b hc
    have hm := List.count_pos_iff.mp (Nat.pos_of_ne_zero hc)
    refine bY ((gY hf script _).mp hm) fun s hs hn he => ?_
    have := kF hf script hs hn
    rw [← he] at this
    simpa [shp] using this
theorem zIv {f : Nat} (hf : f < 3) (script : List Int) : 1 ≤ ((flL f script).map (·.cps.toList)).count [lN f] := by
  refine List.count_pos_iff.mpr ((gY hf script _).mpr ⟨⟨(aQ.getD f 0).toNat, false, ⟨#[(aQ.getD f 0).toNat]⟩⟩, mR mH, rfl, rfl⟩)
noncomputable def uOf (l : Nat) : List Nat → List U
  | [c] => if c = l then [.L] else [.C c]
  | [a, b] => if b = l then [.L, .L] else [.G]
  | _ => []
theorem zCd (l c : Nat) : uOf l [c] = if c = l then [.L] else [.C c] := rfl
theorem zCc (l a b : Nat) : uOf l [a, b] = if b = l then [.L, .L] else [.G] := rfl
theorem uI {l x : Nat} {g : List Nat} (h : shp l x g = true) : codes l x (uOf l g) = g := by
  match g, h with
  | [c], _ =>
    rw [zCd]
    by_cases hc : c = l
    · simp [hc, codes, U.cs]
    · simp [hc, codes, U.cs]
  | [a, b], h =>
    simp [shp] at h
    obtain ⟨rfl, h⟩ := h
    rw [zCc]
    by_cases hc : b = a
    · simp [hc, codes, U.cs]
    · have := h.resolve_left hc
      subst this
      rw [if_neg hc]; simp [codes, U.cs]
noncomputable def dQ (f : Nat) (script : List Int) : List U := (psL f script).flatMap fun p => uOf (lN f) p.cps.toList
theorem wW {f : Nat} {script : List Int} {p : Str} (h : p ∈ psL f script) : ∃ s ∈ bC f script, s.nil = false ∧ s.fold = p := by
  obtain ⟨s, hs, rfl⟩ := mM h
  obtain ⟨h1, h2⟩ := List.mem_filter.mp hs
  exact ⟨s, List.mem_of_mem_take h1, by simpa using h2, rfl⟩
theorem wI {f : Nat} (hf : f < 3) (script : List Int) : ∀ u ∈ dQ f script, okU (lN f) (xN f) ((flL f script).map (·.cps.toList)) u := by
  intro u hu
  refine aI (List.mem_flatMap.mp hu) fun p hp hu => ?_
  refine bY (wW hp) fun s hs hn ez1 => ?_; subst ez1
  have h := kF hf script hs hn
  have h1 := rG hf script hs hn
  generalize s.fold.cps.toList = g at *
  match g, h with
  | [c], h =>
    rw [zCd] at hu
    by_cases hc : c = lN f
    · rw [if_pos hc] at hu
      rw [mS hu]; trivial
    · rw [if_neg hc] at hu
      rw [mS hu]
      exact ⟨hc, by simpa [shp] using h, h1 (by simpa using hc)⟩
  | [a, b], h =>
    simp [shp] at h
    rw [zCc] at hu
    by_cases hc : b = lN f
    · rw [if_pos hc] at hu
      have : u = .L := by simpa using hu
      rw [this]; trivial
    · rw [if_neg hc] at hu
      rw [mS hu]
      have hb := h.2.resolve_left hc
      show _ = 1
      rw [← hb, ← h.1]
      exact h1 (by simp)
end
section
noncomputable def cP : Nat → List Bool → List Nat
  | k, [] => [k]
  | k, true :: r => k :: cP 0 r
  | k, false :: r => cP (k + 1) r
theorem lM : ∀ (r : List Bool) (k : Nat), eG k r = (cP k r).map (· + 1)
  | [], k => rfl
  | true :: r, k => congrArg (_ :: ·) (lM r 0)
  | false :: r, k => lM r (k + 1)
theorem bF (c b : Nat) (cs : List Nat) : aJ (c :: cs) b = List.replicate c false ++ (true :: aJ cs b) := by simp [aJ]
theorem fY : ∀ (r : List Bool) (k : Nat), aJ (cP k r) 0 = List.replicate k false ++ (r ++ [true])
  | [], k => by simp [cP, aJ]
  | true :: r, k => by
    show aJ (k :: cP 0 r) 0 = _
    rw [bF, fY r 0]; rfl
  | false :: r, k => by
    show aJ (cP (k + 1) r) 0 = _
    rw [fY r (k + 1), show k + 1 = k + 1 from rfl, ← List.replicate_append_replicate (n := k) (m := 1)]
    simp
theorem eH : ∀ (r : List Bool) (k : Nat), (cP k r).length = r.count true + 1
  | [], k => rfl
  | true :: r, k => by show (k :: cP 0 r).length = _; rw [List.length_cons, eH r 0]; simp
  | false :: r, k => by show (cP (k + 1) r).length = _; rw [eH r (k + 1)]; simp
theorem iV : ∀ (r : List Bool) (k : Nat), ∀ c ∈ cP k r, c ≤ k + r.length
  | [], k, c, h => by rw [mS h]; exact Nat.le_add_right ..
  | true :: r, k, c, h => by
    rcases mC h with rfl | h
    · exact Nat.le_add_right ..
    · have := iV r 0 c h
      rw [List.length_cons]; omega
  | false :: r, k, c, h => by
    have := iV r (k + 1) c h
    rw [List.length_cons]; omega
section
variable {f : Nat} (hf : f < 3) (script : List Int)
noncomputable def lQ (f : Nat) (script : List Int) : List Bool := (dQ f script).map U.cl
noncomputable def cs0 (f : Nat) (script : List Int) : List Nat := cP 0 (lQ f script)
noncomputable def ns0 (f : Nat) (script : List Int) : List Nat := (cs0 f script).map (· + 1)
theorem jQ : aJ (cs0 f script) 0 = lQ f script ++ [true] := fY _ 0
theorem pA : (psL f script).length ≤ 9 := by
  show (List.map _ (List.filter _ (List.take 9 _))).length ≤ 9
  rw [List.length_map]
  refine Nat.le_trans (List.length_filter_le ..) ?_
  rw [List.length_take]; exact Nat.min_le_left 9 (bC f script).length
theorem uH (l : Nat) (g : List Nat) : (uOf l g).length ≤ 2 ∧ ((uOf l g).map U.cl).count true ≤ 1 := by
  unfold uOf
  split
  · split <;> exact ⟨by simp, by simp [U.cl]⟩
  · split <;> exact ⟨by simp, by simp [U.cl]⟩
  · exact ⟨by decide, by decide⟩
theorem fS (l : Nat) : ∀ ps : List Str, (ps.flatMap fun p => uOf l p.cps.toList).length ≤ 2 * ps.length ∧ ((ps.flatMap fun p => uOf l p.cps.toList).map U.cl).count true ≤ ps.length
  | [] => ⟨Nat.le_refl _, Nat.le_refl _⟩
  | p :: ps => by
    obtain ⟨h1, h2⟩ := fS l ps
    obtain ⟨h3, h4⟩ := uH l p.cps.toList
    rw [List.flatMap_cons, List.length_append, List.map_append, List.count_append, List.length_cons]
    omega
theorem iB : (lQ f script).length ≤ 18 := by
  have h1 := (fS (lN f) (psL f script)).1
  have h2 := pA (f := f) script
  unfold lQ; rw [List.length_map]
  exact Nat.le_trans h1 (by omega)
theorem wC : (lQ f script).count true ≤ 9 := Nat.le_trans (fS (lN f) (psL f script)).2 (pA script)
theorem iA : (cs0 f script).length ≤ 10 := by unfold cs0; rw [eH]; have := wC (f := f) script; exact Nat.succ_le_succ this
theorem jV : 1 ≤ (cs0 f script).length := by unfold cs0; rw [eH]; exact Nat.le_add_left 1 (List.count true (lQ f script))
theorem zFx : ∀ c ∈ cs0 f script, c ≤ 18 := fun c hc => by
  have := iV _ 0 c hc
  have := iB (f := f) script
  omega
include hf
theorem fA {p : Str} (h : p ∈ psL f script) : shp (lN f) (xN f) p.cps.toList = true := by
  refine bY (wW h) fun s hs hn ez1 => ?_; subst ez1
  exact kF hf script hs hn
theorem mK : (cR f script).cps.toList = codes (lN f) (xN f) (dQ f script) := by
  show (Txt.join "" (psL f script)).cps.toList = _
  rw [iO, show (("" : Str).cps.toList) = [] from rfl, xP]
  unfold dQ
  have h : ∀ p ∈ psL f script, shp (lN f) (xN f) p.cps.toList = true := fun p hp => fA hf script hp
  generalize psL f script = ps at *
  induction ps with
  | nil => rfl
  | cons p ps ih =>
    rw [List.flatMap_cons, List.map_cons, List.flatten_cons, ih fun q hq => h q (mT hq)]
    have := uI (h p mH)
    show _ = codes _ _ (_ ++ _)
    unfold codes at this ⊢
    rw [List.flatMap_append, this]
theorem xG {g : List Nat} (h : shp (lN f) (xN f) g = true) : (if g == List.replicate g.length (lN f) then g else [9]) = ((uOf (lN f) g).map U.cl).map fun t => if t then 9 else lN f := by
  have hlx := (oA f hf).1
  match g, h with
  | [c], _ =>
    rw [zCd]
    by_cases hc : c = lN f
    · simp [hc, U.cl]
    · have : (([c] : List Nat) == List.replicate 1 (lN f)) = false := by simpa using hc
      rw [if_neg hc, show ([c] : List Nat).length = 1 from rfl, this]
      rfl
  | [a, b], h =>
    simp [shp] at h
    rw [zCc]
    by_cases hc : b = lN f
    · rw [h.1, hc]; simp [U.cl]
    · have : (([a, b] : List Nat) == List.replicate 2 (lN f)) = false := by simp [List.replicate_succ, hc]
      rw [if_neg hc, show ([a, b] : List Nat).length = 2 from rfl, this]
      rfl
theorem kG : (gO f script).cps.toList = (aJ (cs0 f script) 0).map fun t => if t then 9 else lN f := by
  rw [jQ]
  show ((Txt.join "" (rowL (ltr f) (psL f script))).cps ++ ("\t" : Str).cps).toList = _
  rw [Array.toList_append, iO, show (("" : Str).cps.toList) = [] from rfl, xP, List.map_append]
  congr 1
  unfold lQ dQ
  have h : ∀ p ∈ psL f script, shp (lN f) (xN f) p.cps.toList = true := fun p hp => fA hf script hp
  generalize psL f script = ps at *
  induction ps with
  | nil => rfl
  | cons p ps ih =>
    have ih := ih fun q hq => h q (mT hq)
    have hl := xG hf (h p mH)
    rw [List.flatMap_cons, List.map_append, List.map_append]
    show (if p.cps.toList == (strRep (ltr f) p.length).cps.toList then p else "\t" : Str).cps.toList ++ ((rowL (ltr f) ps).map (·.cps.toList)).flatten = _
    rw [← hl, ← ih]
    congr 1
    have e1 : (strRep (ltr f) p.length).cps.toList = List.replicate p.cps.toList.length (lN f) := by rw [cH, aY]; rfl
    rw [e1]
    by_cases hc : (p.cps.toList == List.replicate p.cps.toList.length (lN f)) = true
    · rw [if_pos hc, if_pos hc]
    · rw [if_neg hc, if_neg hc]; rfl
theorem fC : (cS f script).cps.toList = aW (aJ (cs0 f script) 0) := by
  have hl := oA f hf
  show (Txt.replace (gO f script) ⟨#[lN f]⟩ " ").cps.toList = _
  rw [gP, kG hf script, List.flatMap_map]
  unfold aW
  induction aJ (cs0 f script) 0 with
  | nil => rfl
  | cons t r ih =>
    rw [List.flatMap_cons, List.map_cons, ih]
    cases t
    · simp; rfl
    · simp [Ne.symm hl.2.1]
theorem lB : (lD f script).cps.toList = aW (aJ (ns0 f script) 0) := by
  show (Txt.replace (cS f script) ⟨#[9]⟩ " \t").cps.toList = _
  rw [gP, fC hf script]
  unfold ns0
  induction cs0 f script with
  | nil => rfl
  | cons c cs ih =>
    rw [List.map_cons, bF, bF]
    unfold aW at ih ⊢
    rw [List.map_append, List.flatMap_append, List.map_cons, List.flatMap_cons, ih]
    have e : ∀ n, ((List.replicate n false).map fun t => if t then 9 else 32).flatMap (fun k => if k = 9 then (" \t" : Str).cps.toList else [k]) = List.replicate n 32 := fun n => by
      induction n with
      | zero => rfl
      | succ n ih => rw [List.replicate_succ, List.map_cons, List.flatMap_cons, ih]; rfl
    rw [e, List.replicate_succ', List.map_append, List.map_append]
    simp
    rfl
omit hf
theorem oM : ∀ ns : List Nat, aZ 9 (aW (aJ ns 0)) = ns.map (fun n => List.replicate n 32) ++ [[]]
  | [] => rfl
  | n :: ns => by
    have e : aW (aJ (n :: ns) 0) = List.replicate n 32 ++ (9 :: aW (aJ ns 0)) := by rw [bF]; simp [aW]
    rw [e, dS 9 _ _ (by intro h; have := List.eq_of_mem_replicate h; cases this), jA, if_pos rfl, oM ns]
    simp
theorem lO (l : List Bool) : (aW l).length = l.length := List.length_map ..
theorem eI (b : Nat) : ∀ cs : List Nat, (aJ cs b).length = cs.sum + cs.length + b
  | [] => by simp [aJ]
  | c :: cs => by rw [bF, List.length_append, List.length_replicate, List.length_cons, eI b cs, List.sum_cons, List.length_cons]; omega
end
end
section
theorem vX (c t : Nat) (ht : 1 ≤ t) : (c + 1) / t = c / t + if (c + 1) % t = 0 then 1 else 0 := by
  have h1 := Nat.div_add_mod c t
  have h2 := Nat.div_add_mod (c + 1) t
  have h3 := Nat.mod_lt c ht
  have h4 := Nat.mod_lt (c + 1) ht
  split
  · rename_i h
    rw [h] at h2
    refine Nat.eq_of_mul_eq_mul_left ht ?_
    rw [Nat.mul_add, Nat.mul_one]
    have h5 : t ∣ c % t + 1 := by
      have : t ∣ t * (c / t) + (c % t + 1) := by rw [← Nat.add_assoc, h1]; exact ⟨_, h2.symm⟩
      exact (Nat.dvd_add_right (Nat.dvd_mul_right ..)).mp this
    have := Nat.le_of_dvd (by exact Nat.zero_lt_succ (c % t)) h5
    omega
  · rename_i h
    have h5 : ¬ (c % t + 1 = t) := fun e => h (by
      rw [← h1, Nat.add_assoc, e, show t * (c / t) + t = t * (c / t + 1) by rw [Nat.mul_add, Nat.mul_one]]
      exact Nat.mul_mod_right ..)
    show (c + 1) / t = c / t
    exact Nat.div_eq_of_lt_le (by rw [Nat.mul_comm]; omega) (by rw [Nat.mul_comm, Nat.mul_add]; omega)
theorem yX (t : Nat) (ht : 1 ≤ t) : ∀ cs : List Nat, S t (cs.map (· + 1)) = S t cs + fF t (cs.map (· + 1))
  | [] => rfl
  | c :: cs => by
    simp only [List.map_cons, S, fF]
    rw [yX t ht cs, vX c t ht]
    omega
theorem zCb (t : Nat) : ∀ a b : List Nat, S t (a ++ b) = S t a + S t b
  | [], b => by simp [S]
  | c :: a, b => by simp only [List.cons_append, S]; rw [zCb t a b]; exact Eq.symm (Nat.add_assoc (c / t + 1) (S t a) (S t b))
theorem zBi (t k : Nat) : S t (List.replicate k 0) = k := by
  induction k with
  | zero => rfl
  | succ k ih => rw [List.replicate_succ]; simp only [S]; rw [ih, Nat.zero_div]; exact Nat.add_comm (0 + 1) k
theorem tN (t : Nat) : ∀ ns : List Nat, fF t ns ≤ ns.length
  | [] => Nat.le_refl _
  | n :: ns => by have := tN t ns; simp only [fF, List.length_cons]; split <;> omega
theorem oH : ∀ ns : List Nat, (∀ n ∈ ns, 1 ≤ n) → fF 0 ns = 0
  | [], _ => rfl
  | n :: ns, h => by
    have h1 := h n mH
    simp only [fF]
    rw [oH ns fun m hm => h m (mT hm), if_neg (by rw [Nat.mod_zero]; exact Nat.ne_zero_of_lt h1)]
theorem qX : ∀ ns : List Nat, fF 1 ns = ns.length
  | [] => rfl
  | n :: ns => by simp only [fF]; rw [qX ns, if_pos (Nat.mod_one n), List.length_cons, Nat.add_comm]
theorem tF : ∀ cs : List Nat, 1 ≤ cs.length → mx (cs.map (· + 1)) = mx cs + 1
  | [c], _ => by simp [mx]
  | c :: d :: cs, _ => by
    have := tF (d :: cs) (by simp)
    rw [List.map_cons]
    show max (c + 1 + 1) (mx _) = max (c + 1) (mx _) + 1
    rw [this]; exact Nat.add_max_add_right (c + 1) (mx (d :: cs)) 1
theorem xC : ∀ a b : List Nat, mx (a ++ b) = max (mx a) (mx b)
  | [], b => by simp [mx]
  | c :: a, b => by simp only [List.cons_append, mx]; rw [xC a b, Nat.max_assoc]
theorem pC : ∀ cs : List Nat, 1 ≤ cs.length → mx cs ∈ cs.map (· + 1)
  | [c], _ => by simp [mx]
  | c :: d :: cs, _ => by
    have := pC (d :: cs) (by simp)
    show max (c + 1) (mx (d :: cs)) ∈ (c + 1) :: _
    rcases Nat.le_total (c + 1) (mx (d :: cs)) with h | h
    · rw [Nat.max_eq_right h]; exact mT this
    · rw [Nat.max_eq_left h]; exact mH
theorem zBq {B : Nat} : ∀ cs : List Nat, (∀ c ∈ cs, c < B) → mx cs ≤ B
  | [], _ => Nat.zero_le _
  | c :: cs, h => by
    have := zBq cs fun x hx => h x (mT hx)
    have := h c mH
    simp only [mx]; omega
theorem lK (s n : Nat) (hs : 1 ≤ s) : ∀ k, ((List.range k).map fun j => 2 * s + j * s).count n = if n % s = 0 ∧ 2 ≤ n / s ∧ n / s < 2 + k then 1 else 0
  | 0 => by rw [if_neg (by omega)]; rfl
  | k + 1 => by
    rw [List.range_succ, List.map_append, List.count_append, lK s n hs k]
    have e : (List.map (fun j => 2 * s + j * s) [k]).count n = if n = (2 + k) * s then 1 else 0 := by
      rw [List.map_singleton, List.count_singleton, Nat.add_mul]
      by_cases h : n = 2 * s + k * s
      · rw [if_pos h, h]; simp
      · rw [if_neg h]; simp [Ne.symm h]
    rw [e]
    have key : n = (2 + k) * s ↔ n % s = 0 ∧ n / s = 2 + k := by
      constructor
      · rintro rfl
        exact ⟨Nat.mul_mod_left .., Nat.mul_div_cancel _ hs⟩
      · rintro ⟨h1, h2⟩
        have := Nat.div_add_mod n s
        rw [h1, h2, Nat.add_zero, Nat.mul_comm] at this
        exact this.symm
    by_cases h : n % s = 0
    · by_cases h2 : n / s = 2 + k
      · rw [if_pos (key.mpr ⟨h, h2⟩), if_neg (by omega), if_pos (by omega)]
      · rw [if_neg fun e => h2 (key.mp e).2]
        by_cases h3 : 2 ≤ n / s ∧ n / s < 2 + k
        · rw [if_pos ⟨h, h3⟩, if_pos ⟨h, h3.1, by omega⟩]
        · rw [if_neg fun e => h3 e.2, if_neg (by omega)]
    · rw [if_neg fun e => h (key.mp e).1, if_neg fun e => h e.1, if_neg fun e => h e.1]
theorem zAq (s n N : Nat) (hs : 1 ≤ s) (hn : 1 ≤ n) (hN : n < N) : (if n % s = 0 then 1 else 0) = (if n = s then 1 else 0) + (mults s N).count n := by
  unfold mults
  rw [lK s n hs]
  have h1 := Nat.div_add_mod n s
  by_cases h : n % s = 0
  · rw [if_pos h]
    rw [h, Nat.add_zero] at h1
    generalize n / s = q at *
    by_cases hq : q = 1
    · rw [if_pos (by rw [← h1, hq, Nat.mul_one]), if_neg (by omega)]
    · have hq0 : q ≠ 0 := fun e => by rw [e, Nat.mul_zero] at h1; omega
      rw [if_neg fun e => hq (Nat.eq_of_mul_eq_mul_left hs (by rw [h1, e, Nat.mul_one])), if_pos]
      refine ⟨h, by omega, ?_⟩
      unfold kN
      have h2 : 2 * s ≤ n := by
        rw [← h1, Nat.mul_comm]
        exact Nat.mul_le_mul_left _ (by omega)
      rw [if_pos (by exact Nat.lt_of_le_of_lt h2 hN)]
      have h3 : q - 2 ≤ (N - 2 * s - 1) / s := by
        rw [Nat.le_div_iff_mul_le hs, Nat.sub_mul, Nat.mul_comm, h1]
        omega
      omega
  · rw [if_neg h, if_neg fun e => h (by rw [e]; exact Nat.mod_self s), if_neg fun e => h e.1]
theorem uK (l : List Nat) (n : Nat) (ns : List Nat) : (l.map fun m => (((n :: ns).count m : Nat) : Int)).sum = (l.count n : Nat) + (l.map fun m => ((ns.count m : Nat) : Int)).sum := by
  induction l with
  | nil => rfl
  | cons m l ih =>
    rw [List.map_cons, List.map_cons, List.sum_cons, List.sum_cons, ih, List.count_cons, List.count_cons]
    by_cases h : m = n
    · subst h; simp; omega
    · have : (n == m) = false := by simpa using Ne.symm h
      have h2 : (m == n) = false := by simpa using h
      rw [this, h2]; simp; exact Int.add_left_comm (↑(List.count m ns)) (↑(List.count n l)) (List.map (fun m => ↑(List.count m ns)) l).sum
theorem kW (s N : Nat) (hs : 1 ≤ s) : ∀ ns : List Nat, (∀ n ∈ ns, 1 ≤ n ∧ n < N) → (fF s ns : Int) = (ns.count s : Nat) + ((mults s N).map fun m => ((ns.count m : Nat) : Int)).sum
  | [], _ => by
    have : ∀ l : List Nat, (l.map fun m => ((([] : List Nat).count m : Nat) : Int)).sum = 0 := fun l => by
      induction l with
      | nil => rfl
      | cons a l ih => simpa using ih
    rw [this]; rfl
  | n :: ns, h => by
    obtain ⟨h1, h2⟩ := h n mH
    have ih := kW s N hs ns fun m hm => h m (mT hm)
    have h3 := zAq s n N hs h1 h2
    rw [uK, List.count_cons]
    simp only [fF]
    rw [h3]
    by_cases e : n = s
    · have e2 : (n == s) = true := by simpa using e
      rw [if_pos e, e2, if_pos rfl]; omega
    · have e2 : (n == s) = false := by simpa using e
      rw [if_neg e, e2, if_neg Bool.false_ne_true]; omega
end
section
theorem wO {B : Nat} : ∀ l : List Int, (∀ x ∈ l, 0 ≤ x ∧ x ≤ (B : Int)) → 0 ≤ l.sum ∧ l.sum ≤ ((l.length * B : Nat) : Int)
  | [], _ => by simp
  | x :: l, h => by
    obtain ⟨h1, h2⟩ := wO l fun y hy => h y (mT hy)
    obtain ⟨h3, h4⟩ := h x mH
    rw [List.sum_cons, List.length_cons, Nat.add_mul, Nat.one_mul]
    generalize l.length * B = z at *
    omega
theorem gU {x : Int} {k : Nat} (h : x.natAbs < 2 ^ k) : Builtin.Int.intBits x ≤ k := by
  unfold Builtin.Int.intBits
  by_cases hx : x = 0
  · subst hx; exact Nat.zero_le _
  · have : (x == 0) = false := by simpa using hx
    rw [this, if_neg Bool.false_ne_true]
    exact (Nat.log2_lt (by exact Int.natAbs_ne_zero.mpr hx)).mpr h
section
variable {text : Str} {folds : List Str} {l : Nat} {wn : Nat}
theorem pX (hl : ∀ g ∈ folds.map (·.cps.toList), g.length = 1 ∨ g.length = 2) (hn : folds.length ≤ 11) : ∀ n e, e ≤ n → 0 ≤ wv text folds ⟨#[l]⟩ (2 ^ wn) e ∧ wv text folds ⟨#[l]⟩ (2 ^ wn) e ≤ (((11 * 2 ^ wn) ^ e : Nat) : Int)
  | _, 0, _ => by rw [sQ]; exact ⟨by decide, by simp⟩
  | 0, e + 1, h => by omega
  | n + 1, e + 1, h => by
    have ih := pX hl hn n
    have hp : 1 ≤ 2 ^ wn := Nat.one_le_two_pow
    rw [wF hl]
    have h1 := wO (B := 2 ^ wn * (11 * 2 ^ wn) ^ e) (((folds.map (·.cps.toList)).filter fun g => decide (g <:+ text.cps.toList.take (e + 1))).map (phi l (wv text folds ⟨#[l]⟩ (2 ^ wn)) (2 ^ wn) (e + 1))) ?_
    · refine ⟨h1.1, Int.le_trans h1.2 (Int.ofNat_le.mpr ?_)⟩
      rw [List.length_map, Nat.pow_succ, Nat.mul_comm ((11 * 2 ^ wn) ^ e), Nat.mul_assoc 11]
      refine Nat.mul_le_mul_right _ (Nat.le_trans (List.length_filter_le ..) ?_)
      rw [List.length_map]; exact hn
    · intro x hx
      obtain ⟨g, hg, rfl⟩ := mM hx
      have hgl := hl g (List.mem_filter.mp hg).1
      obtain ⟨a1, a2⟩ := ih (e + 1 - g.length) (by walk_at "o")
      have a3 : (11 * 2 ^ wn) ^ (e + 1 - g.length) ≤ (11 * 2 ^ wn) ^ e := Nat.pow_le_pow_right (by exact Nat.succ_mul_pos 10 hp) (by walk_at "o")
      have a4 : wv text folds ⟨#[l]⟩ (2 ^ wn) (e + 1 - g.length) ≤ (((11 * 2 ^ wn) ^ e : Nat) : Int) := Int.le_trans a2 (Int.ofNat_le.mpr a3)
      unfold phi
      obtain ⟨y, hy⟩ := Int.eq_ofNat_of_zero_le a1
      rw [hy] at a4 ⊢
      have a5 : y ≤ (11 * 2 ^ wn) ^ e := Int.ofNat_le.mp a4
      split
      · have e1 : ((y : Nat) : Int) * 2 ^ wn = ((y * 2 ^ wn : Nat) : Int) := by push_cast; rfl
        rw [e1]
        refine ⟨Int.natCast_nonneg _, Int.ofNat_le.mpr ?_⟩
        rw [Nat.mul_comm]; exact Nat.mul_le_mul_left _ a5
      · rw [Int.mul_one]
        refine ⟨Int.natCast_nonneg _, Int.ofNat_le.mpr (Nat.le_trans a5 ?_)⟩
        exact Nat.le_mul_of_pos_left _ hp
theorem uO {e : Nat} (he : e ≤ 19) (hw : wn ≤ 2112) : (11 * 2 ^ wn) ^ e < 2 ^ (2 ^ 17) := by
  have h1 : 11 * 2 ^ wn ≤ 2 ^ 2116 := by
    rw [show (2116 : Nat) = 4 + 2112 from rfl, Nat.pow_add]
    exact Nat.mul_le_mul (by decide) (Nat.pow_le_pow_right (by decide) hw)
  have h2 : (11 * 2 ^ wn) ^ e ≤ (2 ^ 2116) ^ e := Nat.pow_le_pow_left h1 e
  rw [← Nat.pow_mul] at h2
  exact Nat.lt_of_le_of_lt h2 (Nat.pow_lt_pow_right (by decide) (by
    have : 2116 * e ≤ 2116 * 19 := Nat.mul_le_mul_left _ he
    exact Nat.lt_of_le_of_lt this (by decide)))
theorem oY (hl : ∀ g ∈ folds.map (·.cps.toList), g.length = 1 ∨ g.length = 2) (hn : folds.length ≤ 11) (hw : wn ≤ 2112) {e : Nat} (he : e ≤ 19) : (wv text folds ⟨#[l]⟩ (2 ^ wn) e).natAbs < 2 ^ (2 ^ 17) := by
  obtain ⟨h1, h2⟩ := pX (text := text) (l := l) (wn := wn) hl hn e e (Nat.le_refl _)
  refine Nat.lt_of_le_of_lt ?_ (uO he hw)
  generalize (11 * 2 ^ wn) ^ e = z at *
  omega
theorem mJ (hl : ∀ g ∈ folds.map (·.cps.toList), g.length = 1 ∨ g.length = 2) (hn : folds.length ≤ 11) (hw : wn ≤ 2112) {e : Nat} (he : e ≤ 19) : ∀ x ∈ waysL text folds ⟨#[l]⟩ (2 ^ wn) e, Builtin.Int.intBits x ≤ 2 ^ 17 := by
  intro x hx
  obtain ⟨i, hi, rfl⟩ := List.mem_iff_getElem.mp hx
  have hi' := hi
  rw [cW] at hi'
  have e1 : (waysL text folds ⟨#[l]⟩ (2 ^ wn) e)[i] = wv text folds ⟨#[l]⟩ (2 ^ wn) i := by
    rw [← dJ _ _ _ _ e i (by exact Nat.le_of_lt_succ hi'), List.getD_eq_getElem?_getD, List.getElem?_eq_getElem hi]; rfl
  rw [e1]
  exact gU (oY hl hn hw (by omega))
end
theorem qQ (u : Int) : ∀ h : Nat, (-u) ^ h = u ^ h ∨ (-u) ^ h = -(u ^ h)
  | 0 => .inl (by rw [Int.pow_zero, Int.pow_zero])
  | h + 1 => by
    rw [Int.pow_succ, Int.pow_succ]
    rcases qQ u h with e | e <;> rw [e]
    · right; exact Int.mul_neg ..
    · left; exact Int.neg_mul_neg ..
theorem wX {U B R h : Nat} (hB : B = U ^ h * R) (hU : 1 ≤ U) (hR : ¬ U ∣ R) {w p : Int} (hw : w = B ∨ w = -(B : Int)) (hp : p = U ∨ p = -(U : Int)) : ∃ R' : Int, w = p ^ h * R' ∧ p ≠ 0 ∧ R'.fmod p ≠ 0 := by
  have hpa : p.natAbs = U := by exact Int.natAbs_eq_iff.mpr hp
  have hq : p ^ h = ((U ^ h : Nat) : Int) ∨ p ^ h = -((U ^ h : Nat) : Int) := by
    rcases hp with rfl | rfl
    · left; push_cast; rfl
    · push_cast; exact qQ _ h
  have hfm : ∀ R' : Int, R'.natAbs = R → R'.fmod p ≠ 0 := fun R' e hz => by
    have := Int.natAbs_dvd_natAbs.mpr (Int.dvd_of_fmod_eq_zero hz)
    rw [hpa, e] at this
    exact hR this
  have hBi : (B : Int) = ((U ^ h : Nat) : Int) * (R : Int) := by rw [hB]; push_cast; rfl
  have hp0 : p ≠ 0 := by omega
  rcases hw with rfl | rfl <;> rcases hq with e | e
  · exact ⟨R, by rw [e, hBi], hp0, hfm _ (by omega)⟩
  · exact ⟨-R, by rw [e, hBi, Int.neg_mul_neg], hp0, hfm _ (by omega)⟩
  · exact ⟨-R, by rw [e, hBi, Int.mul_neg], hp0, hfm _ (by omega)⟩
  · exact ⟨R, by rw [e, hBi, Int.neg_mul], hp0, hfm _ (by omega)⟩
end
section
theorem zFn {z : List Nat} {B : Nat} : ∀ ps : List (List Nat), (∀ p ∈ ps, p.length ≤ B) → (jl z ps).length ≤ ps.length * (z.length + B)
  | [], _ => Nat.zero_le _
  | p :: ps, h => by
    have h1 := h p mH
    have h2 : ∀ qs : List (List Nat), (∀ q ∈ qs, q.length ≤ B) → ((qs.map (z ++ ·)).flatten).length ≤ qs.length * (z.length + B) := fun qs => by
      induction qs with
      | nil => intro _; exact Nat.zero_le _
      | cons q qs ih =>
        intro hq
        have := ih fun x hx => hq x (mT hx)
        have := hq q mH
        rw [List.map_cons, List.flatten_cons, List.length_append, List.length_append, List.length_cons, Nat.add_mul]
        omega
    have h3 := h2 ps fun q hq => h q (mT hq)
    show (p ++ _).length ≤ _
    rw [List.length_append, List.length_cons, Nat.add_mul]
    omega
theorem kS {z : Str} {B : Nat} {ps : List Str} (h : ∀ p ∈ ps, p.length ≤ B) : (Txt.join z ps).length ≤ ps.length * (z.length + B) := by
  have := zFn (z := z.cps.toList) (B := B) (ps.map (·.cps.toList)) fun p hp => by
    obtain ⟨q, hq, rfl⟩ := mM hp
    have := h q hq
    rwa [aY] at this
  rw [aY, iO, aY z]
  rwa [List.length_map] at this
theorem pJ {z : Str} {B : Nat} {ps : List Str} (h : ∀ p ∈ ps, p.length ≤ B) (hs : ps.length * B + ps.length * z.length ≤ 16777216) : JoinOk z ps = true := by
  unfold JoinOk
  rw [StrLaws.joinFits h hs]; rfl
theorem uM : ∀ t, t < 21 → (Str.ofString (toString ((t : Nat) : Int))).length ≤ 2 := by decide +kernel
theorem fZ (b : Nat) : ∀ xs ys : List Nat, aJ (xs ++ ys) b = aJ xs 0 ++ aJ ys b
  | [], ys => by simp [aJ]
  | x :: xs, ys => by rw [List.cons_append, bF, bF, fZ b xs ys, List.append_assoc]; rfl
noncomputable def tbN (b : Nat) : Nat := if b = 1 then 1 else 0
noncomputable def blN (b : Nat) : Nat := if b = 2 then 1 else 0
theorem yT : ∀ b, b < 3 → (cV b).cps.toList = aW (aJ (List.replicate (tbN b) 0) (blN b)) := by decide
noncomputable def csF (f b : Nat) (script : List Int) : List Nat := ns0 f script ++ List.replicate (tbN b) 0
noncomputable def lgN (f : Nat) (script : List Int) : Nat := mx (cs0 f script)
noncomputable def lFb (f b : Nat) (script : List Int) : List Bool := aJ (csF f b script) (blN b)
noncomputable def lNb (f : Nat) (script : List Int) : List Bool := aJ (cs0 f script) 0
noncomputable def tmN (f : Nat) (script : List Int) (t : Nat) : Nat := fF t (ns0 f script)
section
variable {f b : Nat} (hf : f < 3) (hb : b < 3) (script : List Int)
theorem iM : (ns0 f script).length = (cs0 f script).length := by unfold ns0; exact List.length_map ..
theorem cM : ∀ n ∈ ns0 f script, 1 ≤ n ∧ n ≤ 19 := by
  intro n hn
  obtain ⟨c, hc, rfl⟩ := mM hn
  have := zFx script c hc
  omega
theorem xF : 1 ≤ lgN f script := by
  have h := pC (cs0 f script) (jV script)
  exact (cM script _ h).1
theorem tK : lgN f script ≤ 19 := by
  have h := pC (cs0 f script) (jV script)
  exact (cM script _ h).2
theorem zBp : ∀ n ∈ ns0 f script, n ≤ lgN f script := by
  intro n hn
  obtain ⟨c, hc, rfl⟩ := mM hn
  exact xE hc
theorem zGb : tbN b ≤ 1 := by unfold tbN; split <;> decide
theorem zBy : blN b ≤ 1 := by unfold blN; split <;> decide
theorem zIs (t : Nat) (ht : 1 ≤ t) : S t (csF f b script) = S t (cs0 f script) + tmN f script t + tbN b := by
  unfold csF tmN ns0
  rw [zCb, yX t ht, zBi]
theorem pD : mx (csF f b script) = lgN f script + 1 := by
  unfold csF ns0 lgN
  rw [xC, tF _ (jV script)]
  have : mx (List.replicate (tbN b) 0) ≤ 1 := zBq _ fun c hc => by rw [List.eq_of_mem_replicate hc]; decide
  omega
theorem zBt (t : Nat) (ht : 1 ≤ t) : aP (lFb f b script) t = ((t * S t (cs0 f script) + (t * (tmN f script t + tbN b) + blN b) : Nat) : Int) := by
  unfold lFb
  rw [gH _ _ _ ht, zIs script t ht, Nat.add_assoc (S t _), Nat.mul_add, Nat.add_assoc]
theorem zBs (t : Nat) (ht : 1 ≤ t) : aP (lNb f script) t = ((t * S t (cs0 f script) : Nat) : Int) := by
  unfold lNb
  rw [gH _ _ _ ht, Nat.add_zero]
theorem zE : (wmax (lFb f b script) (lNb f script)).toNat = lgN f script + 1 := by
  have h1 := xF (f := f) script
  have h2 := zBy (b := b)
  have e1 : dC (lFb f b script) = ((lgN f script : Nat) : Int) := by
    unfold lFb
    rw [jY _ _ (by rw [pD]; exact Nat.le_add_left 1 (lgN f script)), pD]
    congr 1; omega
  have e2 : dC (lNb f script) = ((lgN f script - 1 : Nat) : Int) := by
    unfold lNb
    rw [jY _ _ h1]
    rw [Nat.max_eq_right (Nat.zero_le _)]; rfl
  unfold wmax
  rw [e1, e2, if_neg (by omega)]
  omega
include hb
theorem zAl (t : Nat) (ht : 1 ≤ t) : (aP (lFb f b script) t != aP (lNb f script) t) = gW (cV b) (tmN f script) t := by
  rw [zBt script t ht, zBs script t ht, Bool.eq_iff_iff, bne_iff_ne]
  unfold gW
  rw [Bool.or_eq_true, bne_iff_ne, bne_iff_ne]
  have e : (cV b).cps.toList ≠ ("" : Str).cps.toList ↔ 1 ≤ tbN b + blN b := by
    have : ∀ b, b < 3 → ((cV b).cps.toList ≠ ("" : Str).cps.toList ↔ 1 ≤ tbN b + blN b) := by decide
    exact this b hb
  rw [e]
  have h2 : t * (tmN f script t + tbN b) = 0 ↔ tmN f script t + tbN b = 0 := by
    rw [Nat.mul_eq_zero]; omega
  generalize t * (tmN f script t + tbN b) = z at *
  omega
include hf
theorem zCe : witT (lFb f b script) (lNb f script) (wmax (lFb f b script) (lNb f script)).toNat = (szsOf (cV b) (tmN f script) (lgN f script)).map (hK (cS f script) (tmN f script) (tbN b) (blN b)) := by
  rw [sR, zE]
  unfold szsOf
  have h1 : ∀ t ∈ (List.range (lgN f script + 1)).map (· + 1), 1 ≤ t := fun t h => by
    obtain ⟨j, _, rfl⟩ := mM h
    exact Nat.succ_le_succ (Nat.zero_le _)
  rw [List.filter_congr fun t ht => zAl hb script t (h1 t ht)]
  refine List.map_congr_left fun t ht => ?_
  have ht1 := h1 t (List.mem_filter.mp ht).1
  unfold hK
  rw [zBt script t ht1, zBs script t ht1, fC hf script, yL _ _ _ ht1, Nat.add_zero]
  push_cast
  rw [Int.add_assoc]
theorem zFl : LeadT (cat (cat (cat (lD f script) (cV b)) (ltr f)) (gO f script)) (lFb f b script) := by
  have hl := oA f hf
  refine ⟨lN f, (gO f script).cps.toList, ?_, hl.2.2.1, hl.2.1⟩
  unfold cat lFb csF
  rw [Array.toList_append, Array.toList_append, Array.toList_append, lB hf script, yT b hb, fZ]
  unfold aW
  rw [List.map_append, List.append_assoc, List.append_assoc, List.append_assoc]
  rfl
omit hb
theorem zFk : LeadT (cat (cat (cS f script) (ltr f)) (gO f script)) (lNb f script) := by
  have hl := oA f hf
  refine ⟨lN f, (gO f script).cps.toList, ?_, hl.2.2.1, hl.2.1⟩
  unfold cat lNb
  rw [Array.toList_append, Array.toList_append, fC hf script, List.append_assoc]
  rfl
omit hf
noncomputable def rvN (f : Nat) (script : List Int) (s : Nat) : Int := ((ns0 f script).count s : Nat)
theorem zGi : ∀ s, 1 ≤ s → s < lgN f script + 2 → rvN f script s = (tmL (tmN f script) (lgN f script)).getD s 0 - ((mults s (lgN f script + 2)).map (rvN f script)).sum := by
  intro s h1 h2
  have h3 := kW s (lgN f script + 2) h1 (ns0 f script) fun n hn => ⟨(cM script n hn).1, by have := zBp script n hn; omega⟩
  have e : (tmL (tmN f script) (lgN f script)).getD s 0 = ((tmN f script s : Nat) : Int) := by
    unfold tmL
    rw [List.getD_eq_getElem?_getD, List.getElem?_map, List.getElem?_range h2]; rfl
  rw [e]
  unfold tmN rvN at *
  rw [h3]
  omega
theorem sH {a c : List Int} (h : a.length = c.length) (hg : ∀ i, i < a.length → a.getD i 0 = c.getD i 0) : a = c := by
  refine List.ext_getElem h fun i h1 h2 => ?_
  have := hg i h1
  rw [List.getD_eq_getElem?_getD, List.getD_eq_getElem?_getD, List.getElem?_eq_getElem h1, List.getElem?_eq_getElem h2] at this
  exact this
theorem zK : (wrun (lFb f b script)).1 = (tbN b : Int) :: (List.range (lgN f script)).map fun j => rvN f script (j + 1) := by
  unfold lFb
  refine sH ?_ fun i hi => ?_
  · rw [gF, pD, List.length_cons, List.length_map, List.length_range]
  · rw [gF, pD] at hi
    rw [mI]
    unfold csF
    rw [List.count_append, List.count_replicate]
    cases i with
    | zero =>
      have : (ns0 f script).count 0 = 0 := List.count_eq_zero.mpr fun hm => by have := (cM script 0 hm).1; exact Nat.not_succ_le_zero 0 this
      rw [this]
      simp
    | succ i =>
      rw [List.getD_cons_succ, List.getD_eq_getElem?_getD, List.getElem?_map, List.getElem?_range (by omega)]
      simp [rvN]
theorem zJ : (wrun (lFb f b script)).2 = ((blN b : Nat) : Int) := by unfold lFb; rw [dI]
end
end
section
section
variable {f r : Nat} (hf : f < 3) (hr : r < 3) (script : List Int)
theorem wH : ∀ r, r < 3 → 64 ≤ wN r ∧ wN r ≤ 2112 := by decide
theorem kY : (flL f script).length ≤ 11 := by
  have h := gM (bC f script)
  rw [gN] at h
  show (List.map _ _).length ≤ 11
  rw [List.length_map]; exact h
include hf
theorem qA : (cR f script).length ≤ 18 := by
  have h := kS (z := "") (B := 2) (ps := psL f script) fun p hp => by
    rw [aY]
    rcases oZ (fA hf script hp) with h | h <;> omega
  have := pA (f := f) script
  have e : ("" : Str).length = 0 := rfl
  rw [e] at h
  refine Nat.le_trans h ?_
  exact Nat.mul_le_of_le_div (0 + 2) (psL f script).length 18 this
theorem zL : (gO f script).length ≤ 19 := by
  rw [aY, kG hf script, List.length_map, jQ, List.length_append]
  have := iB (f := f) script
  simp; walk_at "o"
theorem xB : (cS f script).length ≤ 19 := by
  rw [aY, fC hf script, lO, jQ, List.length_append]
  have := iB (f := f) script
  simp; walk_at "o"
theorem kB : ∀ ns : List Nat, (∀ n ∈ ns, 1 ≤ n ∧ n ≤ 19) → ns.sum ≤ 19 * ns.length
  | [], _ => Nat.le_refl _
  | n :: ns, h => by
    have := (h n mH).2
    have := kB ns fun m hm => h m (mT hm)
    rw [List.sum_cons, List.length_cons]; omega
theorem zAx : (lD f script).length ≤ 300 := by
  rw [aY, lB hf script, lO, eI]
  have := kB hf _ (cM (f := f) script)
  have h2 := iM (f := f) script
  have := iA (f := f) script
  omega
theorem vW : (Txt.split (lD f script) "\t").map (·.cps.toList) = (ns0 f script).map (fun n => List.replicate n 32) ++ [[]] := by
  have h := kC (lD f script) 9
  rw [lB hf script, oM] at h
  exact h
theorem lC : (Txt.split (lD f script) "\t").map (·.length) = ns0 f script ++ [0] := by
  have h := congrArg (List.map List.length) (vW hf script)
  rw [List.map_map, List.map_append, List.map_map] at h
  have e1 : (List.length ∘ fun x : Str => x.cps.toList) = (·.length) := funext fun x => (aY x).symm
  have e2 : (List.length ∘ fun n => List.replicate n 32) = id := funext fun n => List.length_replicate ..
  rw [e1, e2, List.map_id] at h
  exact h
theorem wS : Txt.count (gO f script) "\t" = ((tmN f script 1 : Nat) : Int) := by
  have h := fU (gO f script) 9
  have hl := oA f hf
  unfold tmN
  rw [qX, iM]
  refine Eq.trans h ?_
  rw [kG hf script]
  congr 1
  induction cs0 f script with
  | nil => rfl
  | cons c cs ih =>
    rw [bF, List.map_append, List.map_cons, List.count_append, List.map_replicate, List.count_replicate, List.count_cons, ih, List.length_cons]
    have : ((lN f == 9) = false) := by simpa using hl.2.1
    simp [this]
theorem zKe (hr : r < 3) : ∃ P : Nat, 2 ^ 64 ≤ P ∧ (P : Int) = ((((flL f script).map (·.cps.toList)).count [lN f] : Nat) : Int) * 2 ^ wN r := by
  have h1 := zIv hf script
  have h2 := (wH r hr).1
  refine ⟨((flL f script).map (·.cps.toList)).count [lN f] * 2 ^ wN r, ?_, by push_cast; rfl⟩
  exact Nat.le_trans (Nat.pow_le_pow_right (by decide) h2) (Nat.le_mul_of_pos_left _ h1)
theorem zBc {P : Nat} (hP : (P : Int) = ((((flL f script).map (·.cps.toList)).count [lN f] : Nat) : Int) * 2 ^ wN r) : fM f r script = ((dK P (ns0 f script) : Nat) : Int) := by
  have h := pZ (text := cR f script) (qY hf script) hP (dQ f script) [] (wI hf script) (by rw [List.append_nil]; exact mK hf script)
  have e : ns0 f script = eG 0 ((dQ f script).map U.cl) := (lM _ 0).symm
  rw [e, ← h]
  show lastOf (waysL (cR f script) (flL f script) (ltr f) (wtT r) (cR f script).length) = _
  unfold lastOf
  rw [cW, Nat.add_sub_cancel, dJ _ _ _ _ _ _ (Nat.le_refl _), ← mK hf script, ← aY]
  rfl
theorem zAh {P : Nat} (hP : (P : Int) = ((((flL f script).map (·.cps.toList)).count [lN f] : Nat) : Int) * 2 ^ wN r) (j : Nat) (hj : j < lgN f script) : (cD f r (lgN f script) script).getD (j + 2) 0 = ((lu P (j + 2) : Nat) : Int) := by
  have h := gJ (text := strRep (ltr f) (lgN f script)) (qY hf script) hP (n := lgN f script) (cH _ _) (j + 1) (by exact hj)
  show (waysL (strRep (ltr f) (lgN f script)) (flL f script) (ltr f) (wtT r) (lgN f script)).getD (j + 1) 0 = _
  rw [dJ _ _ _ _ _ _ (by exact hj)]
  exact h
theorem zFv (hr : r < 3) : ∀ j, j < lgN f script → ∃ R : Int, wholeA (fM f r script) (j + 2) = partA (cD f r (lgN f script) script) (j + 2) ^ tmN f script (j + 2) * R ∧ partA (cD f r (lgN f script) script) (j + 2) ≠ 0 ∧ R.fmod (partA (cD f r (lgN f script) script) (j + 2)) ≠ 0 ∧
    Builtin.Int.intBits (wholeA (fM f r script) (j + 2)) ≤ 2 ^ 17 ∧ Builtin.Int.intBits (partA (cD f r (lgN f script) script) (j + 2)) ≤ 2 ^ 17 := by
  intro j hj
  refine aI (zKe hf script hr) fun P hP64 hP => ?_
  have hlg := tK (f := f) script
  have hw := (wH r hr).2
  have hbk := zBc hf script hP
  have hln := zAh hf script hP j hj
  have hlen := (qY hf script).len
  have hP1 : 1 ≤ P := Nat.le_trans (by decide) hP64
  obtain ⟨R, r1, r2, r3⟩ := sE hP64 (t := j + 2) (by exact Nat.le_add_left 2 j) (by omega) (ns0 f script) (fun n hn => by have := cM script n hn; omega) (by rw [iM]; exact iA script)
  have w1 : wholeA (fM f r script) (j + 2) = ((dK P (ns0 f script) : Nat) : Int) ∨ wholeA (fM f r script) (j + 2) = -((dK P (ns0 f script) : Nat) : Int) := by
    unfold wholeA
    rw [hbk]
    split
    · exact .inl rfl
    · exact .inr rfl
  have w2 : partA (cD f r (lgN f script) script) (j + 2) = ((lu P (j + 2) : Nat) : Int) ∨ partA (cD f r (lgN f script) script) (j + 2) = -((lu P (j + 2) : Nat) : Int) := by
    unfold partA
    rw [hln]
    split
    · exact .inl rfl
    · exact .inr rfl
  obtain ⟨R', a1, a2, a3⟩ := wX r1 (eQ hP1 (j + 2) (by exact Nat.le_add_left 1 (j + 1))) r2 w1 w2
  refine ⟨R', a1, a2, a3, gU ?_, gU ?_⟩
  · have h := oY (text := cR f script) (l := lN f) (wn := wN r) hlen (kY script) hw (e := (cR f script).length) (by have := qA hf script; exact Nat.le_succ_of_le this)
    have e : wv (cR f script) (flL f script) ⟨#[lN f]⟩ (2 ^ wN r) (cR f script).length = fM f r script := by
      show _ = lastOf (waysL (cR f script) (flL f script) (ltr f) (wtT r) (cR f script).length)
      unfold lastOf
      rw [cW, Nat.add_sub_cancel, dJ _ _ _ _ _ _ (Nat.le_refl _)]
      rfl
    rw [e, hbk] at h
    have e2 : (wholeA (fM f r script) (j + 2)).natAbs = ((dK P (ns0 f script) : Nat) : Int).natAbs := by
      rcases w1 with e | e <;> rw [e]
      exact Int.natAbs_neg _
    rw [e2]; exact h
  · have h := oY (text := strRep (ltr f) (lgN f script)) (l := lN f) (wn := wN r) hlen (kY script) hw (e := j + 1) (by exact Nat.le_trans hj hlg)
    have e := gJ (text := strRep (ltr f) (lgN f script)) (qY hf script) hP (n := lgN f script) (cH _ _) (j + 1) (by exact hj)
    rw [e] at h
    have e2 : (partA (cD f r (lgN f script) script) (j + 2)).natAbs = ((lu P (j + 2) : Nat) : Int).natAbs := by
      rcases w2 with e | e <;> rw [e]
      exact Int.natAbs_neg _
    rw [e2]; exact h
theorem jB {b : Nat} : ∀ x ∈ shown (((szsOf (cV b) (tmN f script) (lgN f script)).map (hK (cS f script) (tmN f script) (tbN b) (blN b))).map (·.1)), x.length ≤ 2 := by
  intro x hx
  obtain ⟨i, hi, rfl⟩ := mM hx
  obtain ⟨p, hp, rfl⟩ := mM hi
  obtain ⟨t, ht, rfl⟩ := mM hp
  obtain ⟨j, hj, rfl⟩ := mM (List.mem_filter.mp ht).1
  have := tK (f := f) script
  exact uM (j + 1) (by have := List.mem_range.mp hj; omega)
omit hf
theorem mX {b : Nat} : (shown (((szsOf (cV b) (tmN f script) (lgN f script)).map (hK (cS f script) (tmN f script) (tbN b) (blN b))).map (·.1))).length ≤ 20 := by
  unfold shown
  rw [List.length_map, List.length_map, List.length_map]
  unfold szsOf
  refine Nat.le_trans (List.length_filter_le ..) ?_
  rw [List.length_map, List.length_range]
  have := tK (f := f) script
  exact Nat.succ_le_succ this
end
theorem zBv (x : Int) : ((x.fmod 3).toNat : Int) = x.fmod 3 ∧ (x.fmod 3).toNat < 3 := by
  have h1 := Int.fmod_nonneg_of_pos x (b := 3) (by decide)
  have h2 := Int.fmod_lt_of_pos x (b := 3) (by decide)
  omega
theorem rL : ∀ b, b < 3 → (cV b).cps.toList.count 9 = tbN b ∧ (cV b).cps.toList.count 32 = blN b := by decide
theorem plain (script : List Int) (h : script.length ≤ 63) : ∃ f b r lg tm tb bl lF lN rv, zBk script f b r lg tm tb bl lF lN rv := by
  obtain ⟨f1, hf⟩ := zBv (script.sum.fdiv 3)
  obtain ⟨r1, hr⟩ := zBv script.sum
  generalize ((script.sum.fdiv 3).fmod 3).toNat = f at *
  generalize (script.sum.fmod 3).toNat = r at *
  have hb : script.length % 3 < 3 := Nat.mod_lt _ (by decide)
  generalize hbe : script.length % 3 = b at *
  have hlen := (qY hf script).len
  have hw := (wH r hr).2
  have hlg := tK (f := f) script
  have htl := qA hf script
  have hpl := pA (f := f) script
  have htb := zGb (b := b)
  have hfl : ∀ x ∈ flL f script, x.length = 1 ∨ x.length = 2 := fun x hx => by rw [aY]; exact hlen _ (List.mem_map.mpr ⟨x, hx, rfl⟩)
  have hpp : ∀ p ∈ psL f script, p.length ≤ 2 := fun p hp => by
    rw [aY]
    rcases oZ (fA hf script hp) with h | h <;> omega
  have hrl : ∀ p ∈ rowL (ltr f) (psL f script), p.length ≤ 2 := fun p hp => by
    obtain ⟨q, hq, rfl⟩ := mM hp
    split
    · exact hpp q hq
    · exact (nB rfl)
  have hrn : (rowL (ltr f) (psL f script)).length ≤ 9 := by unfold rowL; rw [List.length_map]; exact hpl
  have e0 : ("" : Str).length = 0 := rfl
  have hm : ∀ t, tmN f script t ≤ 10 := fun t => Nat.le_trans (tN t _) (by rw [iM]; exact iA script)
  have hnF : (lFb f b script).length ≤ 10000 := by
    unfold lFb csF
    rw [fZ, List.length_append, eI, eI]
    have h1 := kB hf _ (cM (f := f) script)
    have h2 := iM (f := f) script
    have h3 := iA (f := f) script
    have h4 := zBy (b := b)
    have hz : ∀ k : Nat, (List.replicate k 0).sum = 0 := fun k => by
      induction k with
      | zero => rfl
      | succ k ih => rw [List.replicate_succ, List.sum_cons, ih]
    rw [List.length_replicate, hz]
    omega
  refine ⟨f, b, r, lgN f script, tmN f script, tbN b, blN b, lFb f b script, lNb f script, rvN f script, ?_⟩
  exact {
    hf := f1.symm, f3 := hf, hb := hbe, hr := r1.symm, r3 := hr
    told := sW hf script
    psl := hpl
    psp := fun p hp => Nat.le_trans (hpp p hp) (by decide)
    jok := pJ (B := 2) hrl (by rw [e0]; omega)
    jln := Nat.le_trans (kS (B := 2) hrl) (by rw [e0]; omega)
    jk2 := pJ (B := 2) hpp (by rw [e0]; omega)
    txl := Nat.le_trans htl (by decide)
    rwl := Nat.le_trans (zL hf script) (by decide)
    nrl := Nat.le_trans (xB hf script) (by decide)
    frl := Nat.le_trans (zAx hf script) (by decide)
    lsp := by
      have : ∀ f, f < 3 → (ltr f == (" " : Str)) = false := by decide
      exact this f hf
    spl := by
      have h := congrArg List.length (lC hf script)
      rw [List.length_map, List.length_append, iM] at h
      have := iA (f := f) script
      rw [h]; simp; omega
    cel := fun c hc => by
      have h : c.length ∈ ns0 f script ++ [0] := by rw [← lC hf script]; exact List.mem_map.mpr ⟨c, hc, rfl⟩
      rcases mA h with h | h
      · exact zBp script _ h
      · rw [mS h]; exact Nat.zero_le _
    mem := by
      rw [lC hf script]
      exact mL (pC _ (jV script))
    lg9 := Nat.le_trans hlg (by decide)
    lg1 := xF script
    fl1 := Nat.le_trans (kY script) (by decide)
    fl2 := fun x hx => by rcases hfl x hx with h | h <;> omega
    fl3 := fun x hx => by rcases hfl x hx with h | h <;> omega
    wtb := by
      refine gU ?_
      show ((2 : Int) ^ wN r).natAbs < _
      rw [Int.natAbs_pow]
      exact Nat.pow_lt_pow_right (by decide) (Nat.lt_of_le_of_lt hw (by decide))
    hW1 := fun e he => mJ (l := lN f) hlen (kY script) hw (by omega)
    hW2 := fun e he => mJ (l := lN f) hlen (kY script) hw (by omega)
    tm0 := oH _ fun n hn => (cM script n hn).1
    tm1 := wS hf script
    tml := fun t _ => Nat.le_trans (hm t) (by decide)
    div := zFv hf script hr
    htb := (fU (cV b) 9).trans (by rw [(rL b hb).1])
    hbl := (fU (cV b) 32).trans (by rw [(rL b hb).2])
    tb1 := Nat.le_trans htb (by decide)
    lFl := hnF
    lNl := by
      unfold lNb
      rw [jQ, List.length_append]
      have := iB (f := f) script
      simp; omega
    ldF := zFl hf hb script
    ldN := zFk hf script
    tab := zCe hf hb script
    hrv := zGi script
    nr1 := zK script
    nr2 := zJ script
    jk3 := pJ (B := 2) (jB hf script) (by
      have := mX (f := f) (b := b) script
      have e : (", " : Str).length = 2 := rfl
      rw [e]; omega)
    jl3 := Nat.le_trans (kS (B := 2) (jB hf script)) (by
      have := mX (f := f) (b := b) script
      have e : (", " : Str).length = 2 := rfl
      rw [e]; omega) }
end
end Mine
open PySem PySem.W PyProof.Rows
set_option Elab.async false
section
set_option maxRecDepth 100000
set_option maxHeartbeats 8000000
namespace Mine
noncomputable abbrev sL := PySem.Challenge.rw_rl0136_01
theorem zCn : sreFenced sL.prog.main = true := by rw [PySem.W.Fast.te11788848310118352699]; kernel_rfl
theorem zCm : ((moduleNames sL.prog.main.body).isEmpty || lookedIntoSs (moduleNames sL.prog.main.body) sL.prog.main.body) = true := by kernel_rfl
theorem zCl : namesResolve sL.prog = true := by rw [PySem.W.Fast.te8377067652309620493]; kernel_rfl
theorem zCk : sL.prog.boundNames.all (fun n => !worldNames.contains n) = true := by rw [PySem.W.Fast.te18344453789297297638]; kernel_rfl
theorem zCj : noRoadLSs { strict := !(importedModules sL.prog.main.body).all cThrough.contains, foot := none, bare := (["vars", "dir", "locals"] : List Str).filter (readsOut sL.prog sL.prog.main.body) } sL.prog.main.body = true := by rw [PySem.W.Fast.te8326940854005059898]; kernel_rfl
theorem zCi : (namesMeet sL.prog sL.prog.main.body fun _ n => attrL n) = true := by rw [PySem.W.Fast.te17119622794617984870]; kernel_rfl
theorem zCh : looksOpen sL.prog = true := look_both (look_both (look_both (look_both (look_both zCn zCm) zCl) zCk) zCj) zCi
end Mine
end
set_option maxRecDepth 100000 in
set_option maxHeartbeats 8000000 in
theorem Mine.said0 : OpenLaw.wellSaid Mine.sL = true := by
  unfold OpenLaw.wellSaid
  iterate 18 (refine look_both ?_ (by kernel_rfl))
  unfold OpenRow.wellSaid
  iterate 2 (refine look_both ?_ (by kernel_rfl))
  unfold OpenRow.partSaid
  iterate 13 (refine look_both ?_ (by kernel_rfl))
  exact Mine.zCh
set_option maxRecDepth 100000 in
set_option maxHeartbeats 8000000 in
theorem PySem.Challenge.cw_rl0136_01_holds : PySem.Challenge.rw_rl0136_01.Holds := by
  w_on
  refine holds_law Mine.said0 fun said => ?_
  refine holds_openX (q := Mine.Top.vw) (loose := Mine.Top.lse) (Xt := Mine.Top.Xt) (XP := fun _ _ => True) (Yf := fun s => (s.heap, s.toks)) (Ya := fun w => (Mine.Top.H1 w.params, 2471)) (d := Mine.Top.zIf) (kwd := []) (N := 30000) Mine.Top.left (fun _ _ => trivial) (fun _ _ _ _ _ => trivial)
    Mine.Top.zJy (by kernel_rfl) (by kernel_rfl) (fun s e => recFacts_of e) (by rfl) said (by decide +kernel) ⟨rfl, rfl, rfl, rfl, rfl, by decide +kernel⟩ ?hw ?hc
  case hw => w_witness2
  case hc =>
    intro w s₀ s₁ mg mb G Y fa o pm cd doc dV kV ho hd hcd hD hmg hg args vals as L hpre hlay hrd hwl hlo
    have hfa : fa = 236 := by
      have e1 : s₀.heap = Mine.Top.H1 w.params := (Prod.mk.inj Y).1
      have e2 := G.T.g
      have e3 : s₁.heap.Ns mainGlobals ((Mine.Top.H1 w.params).nsMap mainGlobals) := (Heap.Ns.of_isNs (Mine.Top.zHy w.params)).keeps fun b o e => L.keeps b o (by rw [e1]; exact e)
      have e4 := Mine.iL e2 e3
      rw [e4] at hmg
      have e5 := (Mine.Top.f23 w 1).g
      have e6 : some (Value.ref fa) = some (Value.ref 236) := hmg.symm.trans e5
      cases e6
      rfl
    subst hfa
    exact Mine.Top.zBb Y Mine.plain L hpre hwl
