import PyProof.Rows.All
import Wide.All
import OpenK.AllK
import Wide.FinOn
import Lean
import PySem.Challenge.RW_ai0020_01
open PySem PySem.W PyProof.Rows PySem.Calls
set_option Elab.async false
set_option maxRecDepth 100000
set_option maxHeartbeats 8000000
namespace Mine
theorem law_said : OpenLaw.wellSaid PySem.Challenge.rw_ai0020_01 = true := by decide +kernel
set_option synthInstance.maxSize 1 in
open_top hd for PySem.Challenge.rw_ai0020_01.row
end Mine

namespace Mine
/-- xor-linear map by its columns -/
noncomputable def lin : List Nat → Nat → Nat
  | [], _ => 0
  | c :: r, n => (n % 2 * c) ^^^ lin r (n / 2)

theorem xeq {a b : Nat} (h : a ^^^ b = 0) : a = b := by
  have : a = (a ^^^ b) ^^^ b := by rw [Nat.xor_assoc, Nat.xor_self, Nat.xor_zero]
  rw [this, h, Nat.zero_xor]
theorem xmod2 (a b : Nat) : (a ^^^ b) % 2 = (a % 2 + b % 2) % 2 := by
  have h := @Nat.xor_mod_two_eq_one a b
  (first | lia | omega)
theorem xdiv2 (a b : Nat) : (a ^^^ b) / 2 = (a / 2) ^^^ (b / 2) := Nat.xor_div_two
theorem mulxor (a b c : Nat) : ((a ^^^ b) % 2) * c = (a % 2 * c) ^^^ (b % 2 * c) := by
  rw [xmod2]
  rcases Nat.mod_two_eq_zero_or_one a with ha | ha <;> rcases Nat.mod_two_eq_zero_or_one b with hb | hb <;> simp [ha, hb]
theorem lin_xor (cs : List Nat) : ∀ a b, lin cs (a ^^^ b) = lin cs a ^^^ lin cs b := by
  induction cs with
  | nil => intro a b; simp [lin]
  | cons c r ih =>
    intro a b
    simp only [lin, mulxor, xdiv2, ih]
    ac_rfl
theorem lin_zero (cs : List Nat) : lin cs 0 = 0 := by
  induction cs with
  | nil => rfl
  | cons c r ih => simp [lin, ih]
theorem lin_map {f : Nat → Nat} (hf : ∀ a b, f (a ^^^ b) = f a ^^^ f b) (h0 : f 0 = 0) (cs : List Nat) : ∀ n, lin (cs.map f) n = f (lin cs n) := by
  induction cs with
  | nil => intro n; simp [lin, h0]
  | cons c r ih =>
    intro n
    simp only [List.map_cons, lin, ih, hf]
    rcases Nat.mod_two_eq_zero_or_one n with h | h <;> simp [h, h0]
theorem lin_comp (A B : List Nat) (n : Nat) : lin (B.map (lin A)) n = lin A (lin B n) := lin_map (lin_xor A) (lin_zero A) B n

theorem xlt {a b m : Nat} (ha : a < 2 ^ m) (hb : b < 2 ^ m) : a ^^^ b < 2 ^ m := Nat.xor_lt_two_pow ha hb
theorem lin_lt {m : Nat} : ∀ (cs : List Nat), (∀ c ∈ cs, c < 2 ^ m) → ∀ n, lin cs n < 2 ^ m := by
  intro cs
  induction cs with
  | nil => intro _ n; exact Nat.two_pow_pos m
  | cons c r ih =>
    intro h n
    refine xlt ?_ (ih (fun c hc => h c (List.mem_cons_of_mem _ hc)) _)
    have := h c List.mem_cons_self
    rcases Nat.mod_two_eq_zero_or_one n with h | h <;> simp [h]
    · exact Nat.two_pow_pos m
    · exact this

/-- iterates -/
noncomputable def iter (f : Nat → Nat) : Nat → Nat → Nat
  | 0, v => v
  | k + 1, v => f (iter f k v)
theorem iter_add (f : Nat → Nat) (a b v : Nat) : iter f (a + b) v = iter f a (iter f b v) := by
  induction a with
  | zero => simp [iter]
  | succ a ih => rw [Nat.succ_add, iter, iter, ih]
theorem iter_mul (f : Nat → Nat) (a b v : Nat) : iter f (a * b) v = iter (iter f a) b v := by
  induction b with
  | zero => rfl
  | succ b ih => rw [Nat.mul_succ, Nat.add_comm, iter_add, ih, iter]
section
variable {f : Nat → Nat} (hf : ∀ a b, f (a ^^^ b) = f a ^^^ f b) (h0 : f 0 = 0)
include hf in
theorem iter_xor (k a b : Nat) : iter f k (a ^^^ b) = iter f k a ^^^ iter f k b := by
  induction k with
  | zero => rfl
  | succ k ih => rw [iter, iter, iter, ih, hf]
include h0 in
theorem iter_zero' (k : Nat) : iter f k 0 = 0 := by
  induction k with
  | zero => rfl
  | succ k ih => rw [iter, ih, h0]
end
theorem iter_lt {f : Nat → Nat} {B : Nat} (h : ∀ v, f v < B) {v : Nat} (hv : v < B) (k : Nat) : iter f k v < B := by
  cases k with
  | zero => exact hv
  | succ k => exact h _

/-- the cofactor trick: three sums over four places, two of them struck out -/
theorem xsplit {a b c d : Nat} (h : a ^^^ b ^^^ c ^^^ d = 0) : a ^^^ b = c ^^^ d := by
  have : (a ^^^ b) ^^^ (c ^^^ d) = 0 := by rw [← h]; ac_rfl
  exact xeq this
theorem strike {M : Nat → Nat} (hM : ∀ a b, M (a ^^^ b) = M a ^^^ M b) (h0 : M 0 = 0) {a1 a2 a3 a4 u1 u2 u3 u4 : Nat}
    (e1 : u1 ^^^ u2 ^^^ u3 ^^^ u4 = 0)
    (e2 : iter M a1 u1 ^^^ iter M a2 u2 ^^^ iter M a3 u3 ^^^ iter M a4 u4 = 0)
    (e3 : iter M (a1 + a1) u1 ^^^ iter M (a2 + a2) u2 ^^^ iter M (a3 + a3) u3 ^^^ iter M (a4 + a4) u4 = 0) :
    (iter M (a1 + a1) u1 ^^^ iter M (a1 + a3) u1) ^^^ (iter M (a1 + a4) u1 ^^^ iter M (a3 + a4) u1) =
    (iter M (a2 + a2) u2 ^^^ iter M (a2 + a3) u2) ^^^ (iter M (a2 + a4) u2 ^^^ iter M (a3 + a4) u2) := by
  have ap : ∀ k {x y z t : Nat}, x ^^^ y ^^^ z ^^^ t = 0 → iter M k x ^^^ iter M k y = iter M k z ^^^ iter M k t := fun k x y z t h => by
    apply xsplit
    rw [← iter_xor hM, ← iter_xor hM, ← iter_xor hM, h, iter_zero' h0]
  have f1 := ap (a3 + a4) e1
  have f2 := ap a3 e2
  have f3 := ap a4 e2
  have f4 := xsplit e3
  simp only [← iter_add] at f2 f3
  apply xeq
  have : (iter M (a1 + a1) u1 ^^^ iter M (a1 + a3) u1) ^^^ (iter M (a1 + a4) u1 ^^^ iter M (a3 + a4) u1) ^^^
    ((iter M (a2 + a2) u2 ^^^ iter M (a2 + a3) u2) ^^^ (iter M (a2 + a4) u2 ^^^ iter M (a3 + a4) u2)) =
    (iter M (a1 + a1) u1 ^^^ iter M (a2 + a2) u2) ^^^ (iter M (a3 + a1) u1 ^^^ iter M (a3 + a2) u2) ^^^ (iter M (a4 + a1) u1 ^^^ iter M (a4 + a2) u2) ^^^ (iter M (a3 + a4) u1 ^^^ iter M (a3 + a4) u2) := by
    rw [Nat.add_comm a3 a1, Nat.add_comm a3 a2, Nat.add_comm a4 a1, Nat.add_comm a4 a2]
    ac_rfl
  rw [this, f1, f2, f3, f4, Nat.add_comm a4 a3]
  generalize iter M (a3 + a3) u3 = x
  generalize iter M (a4 + a4) u4 = y
  generalize iter M (a3 + a4) u4 = z
  generalize iter M (a3 + a4) u3 = t
  have : x ^^^ y ^^^ (x ^^^ z) ^^^ (t ^^^ y) ^^^ (t ^^^ z) = (x ^^^ x) ^^^ (y ^^^ y) ^^^ (z ^^^ z) ^^^ (t ^^^ t) := by ac_rfl
  rw [this]; simp

/-- what a field of order 2^m, an element M of it and the subfield below 32 must show -/
structure Fld (M : Nat → Nat) (m q N : Nat) (z : Nat → Nat) : Prop where
  add : ∀ a b, M (a ^^^ b) = M a ^^^ M b
  zero : M 0 = 0
  lt : ∀ v, M v < 2 ^ m
  five : 5 ≤ m
  inj : ∀ v, v < 2 ^ m → M v = 0 → v = 0
  cls : ∀ p p' a b, 0 < a → a < 32 → 0 < b → b < 32 → iter M p a = iter M p' b → p % q = p' % q
  zech : ∀ d, 0 < d → d ≤ N → ∀ v, v < 2 ^ m → v ^^^ iter M d v = iter M (z d) v

namespace Fld
variable {M : Nat → Nat} {m q N : Nat} {z : Nat → Nat} (F : Fld M m q N z)
include F
theorem itlt {v : Nat} (hv : v < 2 ^ m) (k : Nat) : iter M k v < 2 ^ m := iter_lt F.lt hv k
theorem small {e : Nat} (h : e < 32) : e < 2 ^ m := Nat.lt_of_lt_of_le h (by
  have : (2:Nat) ^ 5 ≤ 2 ^ m := Nat.pow_le_pow_right (by decide) F.five
  simpa using this)
theorem itinj {v : Nat} (hv : v < 2 ^ m) : ∀ k, iter M k v = 0 → v = 0
  | 0, h => h
  | k + 1, h => itinj hv k (F.inj _ (F.itlt hv k) h)
/-- D(a,b) is a power of M -/
theorem dpow {a b v : Nat} (hab : a < b) (hN : b - a ≤ N) (hv : v < 2 ^ m) : iter M a v ^^^ iter M b v = iter M (a + z (b - a)) v := by
  have h := F.zech (b - a) (by (first | lia | omega)) hN (iter M a v) (F.itlt hv a)
  have hb : b = (b - a) + a := by (first | lia | omega)
  rw [hb, iter_add, ← hb, h, ← iter_add, Nat.add_comm]
theorem dpow' {a b v : Nat} (hab : a < b) (hN : b - a ≤ N) (hv : v < 2 ^ m) : iter M b v ^^^ iter M a v = iter M (a + z (b - a)) v := by
  rw [Nat.xor_comm]; exact F.dpow hab hN hv
/-- the exponent of D(a,b) -/
noncomputable def dz (z : Nat → Nat) (a b : Nat) : Nat := if a < b then a + z (b - a) else b + z (a - b)
omit F in
noncomputable def near (N a b : Nat) : Prop := a ≠ b ∧ a - b ≤ N ∧ b - a ≤ N
theorem dany {a b v : Nat} (h : near N a b) (hv : v < 2 ^ m) : iter M a v ^^^ iter M b v = iter M (dz z a b) v := by
  unfold dz
  split
  · rename_i hab; exact F.dpow hab h.2.2 hv
  · rename_i hab
    have : b < a := by have := h.1; (first | lia | omega)
    rw [Nat.xor_comm]; exact F.dpow this h.2.1 hv
theorem pair {c a1 a2 a3 a4 e1 e2 e3 e4 : Nat} (h1 : e1 < 32) (h2 : e2 < 32)
    (n13 : near N a1 a3) (n14 : near N a1 a4) (n23 : near N a2 a3) (n24 : near N a2 a4)
    (s0 : iter M (c * a1) e1 ^^^ iter M (c * a2) e2 ^^^ iter M (c * a3) e3 ^^^ iter M (c * a4) e4 = 0)
    (s1 : iter M ((c + 1) * a1) e1 ^^^ iter M ((c + 1) * a2) e2 ^^^ iter M ((c + 1) * a3) e3 ^^^ iter M ((c + 1) * a4) e4 = 0)
    (s2 : iter M ((c + 2) * a1) e1 ^^^ iter M ((c + 2) * a2) e2 ^^^ iter M ((c + 2) * a3) e3 ^^^ iter M ((c + 2) * a4) e4 = 0) :
    iter M (dz z a1 a3 + dz z a1 a4 + c * a1) e1 = iter M (dz z a2 a3 + dz z a2 a4 + c * a2) e2 := by
  have r1 : ∀ a e, iter M ((c + 1) * a) e = iter M a (iter M (c * a) e) := fun a e => by rw [← iter_add]; congr 1; rw [Nat.add_mul]; (first | lia | omega)
  have r2 : ∀ a e, iter M ((c + 2) * a) e = iter M (a + a) (iter M (c * a) e) := fun a e => by rw [← iter_add]; congr 1; rw [Nat.add_mul]; (first | lia | omega)
  simp only [r1] at s1
  simp only [r2] at s2
  have key := strike F.add F.zero s0 s1 s2
  have side : ∀ {a b d e : Nat}, e < 32 → near N a b → near N a d → (iter M (a + a) (iter M (c * a) e) ^^^ iter M (a + b) (iter M (c * a) e)) ^^^ (iter M (a + d) (iter M (c * a) e) ^^^ iter M (b + d) (iter M (c * a) e)) =
      iter M (dz z a b + dz z a d + c * a) e := by
    intro a b d e he nb nd
    have hv : iter M (c * a) e < 2 ^ m := F.itlt (F.small he) _
    have q1 : iter M (a + a) (iter M (c * a) e) ^^^ iter M (a + b) (iter M (c * a) e) = iter M a (iter M (dz z a b) (iter M (c * a) e)) := by
      rw [iter_add _ a a, iter_add _ a b, ← iter_xor F.add, F.dany nb hv]
    have q2 : iter M (a + d) (iter M (c * a) e) ^^^ iter M (b + d) (iter M (c * a) e) = iter M d (iter M (dz z a b) (iter M (c * a) e)) := by
      rw [Nat.add_comm a d, Nat.add_comm b d, iter_add _ d a, iter_add _ d b, ← iter_xor F.add, F.dany nb hv]
    rw [q1, q2, F.dany nd (F.itlt hv _), Nat.add_comm (dz z a b), iter_add _ _ (c * a), iter_add]
  rw [side h1 n13 n14, side h2 n23 n24] at key
  exact key
end Fld

theorem modc_le {q K A B : Nat} (hAB : B ≤ A) (h : (K + A) % q = (K + B) % q) : A % q = B % q := by
  have h1 : ((K + A) - (K + B)) % q = 0 := Nat.sub_mod_eq_zero_of_mod_eq h
  have h2 : (K + A) - (K + B) = A - B := by (first | lia | omega)
  rw [h2] at h1
  obtain ⟨t, ht⟩ := Nat.dvd_of_mod_eq_zero h1
  have : A = B + q * t := by (first | lia | omega)
  rw [this, Nat.add_mul_mod_self_left]
theorem modc {q K A B : Nat} (h : (K + A) % q = (K + B) % q) : A % q = B % q := by
  rcases Nat.le_total B A with h' | h'
  · exact modc_le h' h
  · exact (modc_le h' h.symm).symm

noncomputable def allB (n : Nat) (p : Nat → Bool) : Bool := Nat.rec true (fun k ih => p k && ih) n
theorem allB_spec {p : Nat → Bool} : ∀ {n : Nat}, allB n p = true → ∀ k, k < n → p k = true
  | 0, _, k, hk => absurd hk (Nat.not_lt_zero k)
  | n + 1, h, k, hk => by
    have h' : (p n && allB n p) = true := h
    rw [Bool.and_eq_true] at h'
    rcases Nat.lt_succ_iff_lt_or_eq.mp hk with h1 | h1
    · exact allB_spec h'.2 k h1
    · rw [h1]; exact h'.1

/-- the three congruences never hold together -/
noncomputable def clash (q c : Nat) (z : Nat → Nat) (x y w : Nat) : Bool :=
  Nat.beq ((z y + z w) % q) ((2 * x + c * x + z (y - x) + z (w - x)) % q) &&
  (Nat.beq ((z x + z w) % q) ((x + y + c * y + z (y - x) + z (w - y)) % q) &&
   Nat.beq ((z x + z y) % q) ((x + y + c * w + z (w - x) + z (w - y)) % q))
noncomputable def hh (q : Nat) (z : Nat → Nat) (x y : Nat) : Nat := Nat.mod (Nat.add (z y) (Nat.sub q (Nat.mod (z (Nat.sub y x)) q))) q
noncomputable def Wm (q L : Nat) (z : Nat → Nat) (x : Nat) (n : Nat) : Nat := Nat.rec 0 (fun y ih => Nat.lor ih (Nat.shiftLeft 1 (Nat.add (Nat.mul L (hh q z x y)) y))) n
theorem Wm_bit {q L : Nat} {z : Nat → Nat} {x : Nat} : ∀ {n y : Nat}, y < n → (Wm q L z x n).testBit (L * hh q z x y + y) = true
  | 0, y, h => absurd h (Nat.not_lt_zero _)
  | n + 1, y, h => by
    show (Nat.lor (Wm q L z x n) (Nat.shiftLeft 1 (Nat.add (Nat.mul L (hh q z x n)) n))).testBit _ = true
    show ((Wm q L z x n) ||| (1 <<< (L * hh q z x n + n))).testBit _ = true
    rw [Nat.testBit_or]
    rcases Nat.lt_succ_iff_lt_or_eq.mp h with h1 | h1
    · rw [Wm_bit h1, Bool.true_or]
    · subst h1
      simp [Nat.testBit_shiftLeft]
noncomputable def msk (q c N : Nat) (z : Nat → Nat) (x y : Nat) : Nat :=
  Nat.shiftRight (Nat.mod (Nat.land
    (Nat.shiftRight (Wm q (N + 1) z x (N + 1)) (Nat.mul (N + 1) (Nat.mod (Nat.add (Nat.mul (c + 2) x) (Nat.sub q (hh q z x y))) q)))
    (Nat.shiftRight (Wm q (N + 1) z y (N + 1)) (Nat.mul (N + 1) (Nat.mod (Nat.add (Nat.add (Nat.add x y) (Nat.add (Nat.mul c y) (z (Nat.sub y x)))) (Nat.sub q (Nat.mod (z x) q))) q))))
    (2 ^ (N + 1))) (Nat.add y 1)
noncomputable def chk2 (q c N : Nat) (z : Nat → Nat) : Bool :=
  allB (N + 1) fun x => Nat.beq x 0 || allB (N + 1) fun y => Nat.ble y x || (Nat.beq (msk q c N z x y) 0 || allB (N + 1) fun w => Nat.ble w y || !(clash q c z x y w))

theorem mod_of_add {q a b r : Nat} (h : (a + b) % q = r % q) (hq : 0 < q) : b % q = (r + (q - a % q)) % q := by
  have ha := Nat.mod_lt a hq
  have e1 : (a + b + (q - a % q)) % q = b % q := by
    have hd := Nat.div_add_mod a q
    have : a + b + (q - a % q) = b + q * (a / q + 1) := by rw [Nat.mul_succ]; (first | lia | omega)
    rw [this, Nat.add_mul_mod_self_left]
  rw [← e1, Nat.add_mod, h, ← Nat.add_mod]
theorem hh_of {q x y : Nat} {z : Nat → Nat} (hq : 0 < q) : (hh q z x y + z (y - x)) % q = z y % q := by
  show ((z y + (q - z (y - x) % q)) % q + z (y - x)) % q = _
  rw [Nat.mod_add_mod]
  have ha := Nat.mod_lt (z (y - x)) hq
  have hd := Nat.div_add_mod (z (y - x)) q
  have : z y + (q - z (y - x) % q) + z (y - x) = z y + q * (z (y - x) / q + 1) := by rw [Nat.mul_succ]; (first | lia | omega)
  rw [this, Nat.add_mul_mod_self_left]
theorem hh_lt {q x y : Nat} {z : Nat → Nat} (hq : 0 < q) : hh q z x y < q := Nat.mod_lt _ hq

theorem chk2_spec {q c N : Nat} {z : Nat → Nat} (hq : 0 < q) (h : chk2 q c N z = true) {x y w : Nat} (h0 : 0 < x) (h1 : x < y) (h2 : y < w) (h3 : w ≤ N) : clash q c z x y w = false := by
  cases hcl : clash q c z x y w with
  | false => rfl
  | true =>
    exfalso
    have a1 := allB_spec h x (by (first | lia | omega))
    have b1 : Nat.beq x 0 = false := by cases e : Nat.beq x 0 with
      | false => rfl
      | true => have := Nat.eq_of_beq_eq_true e; (first | lia | omega)
    rw [b1, Bool.false_or] at a1
    have a2 := allB_spec a1 y (by (first | lia | omega))
    have b2 : Nat.ble y x = false := by cases e : Nat.ble y x with
      | false => rfl
      | true => have := Nat.le_of_ble_eq_true e; (first | lia | omega)
    rw [b2, Bool.false_or, Bool.or_eq_true] at a2
    rcases a2 with a2 | a2
    · have a3 : msk q c N z x y = 0 := Nat.eq_of_beq_eq_true a2
      unfold clash at hcl
      simp only [Bool.and_eq_true, Nat.beq_eq] at hcl
      obtain ⟨c1, c2, c3⟩ := hcl
      have hxw := hh_of (z := z) (x := x) (y := w) hq
      have hxy := hh_of (z := z) (x := x) (y := y) hq
      have hyw := hh_of (z := z) (x := y) (y := w) hq
      -- first congruence: the residue of w
      have r1 : hh q z x w = ((c + 2) * x + (q - hh q z x y)) % q := by
        have e : (hh q z x y + hh q z x w) % q = ((c + 2) * x) % q := by
          apply modc (K := z (y - x) + z (w - x))
          have e1 : (z (y - x) + z (w - x) + (hh q z x y + hh q z x w)) % q = (z y + z w) % q := by
            rw [show z (y - x) + z (w - x) + (hh q z x y + hh q z x w) = (hh q z x y + z (y - x)) + (hh q z x w + z (w - x)) by (first | lia | omega), Nat.add_mod, hxy, hxw, ← Nat.add_mod]
          rw [e1, c1]
          congr 1
          rw [Nat.add_mul]; (first | lia | omega)
        have := mod_of_add e hq
        rw [Nat.mod_eq_of_lt (hh_lt hq), Nat.mod_eq_of_lt (hh_lt hq)] at this
        exact this
      have r2 : hh q z y w = (x + y + (c * y + z (y - x)) + (q - z x % q)) % q := by
        have e : (z x + hh q z y w) % q = (x + y + (c * y + z (y - x))) % q := by
          apply modc (K := z (w - y))
          have e1 : (z (w - y) + (z x + hh q z y w)) % q = (z x + z w) % q := by
            rw [show z (w - y) + (z x + hh q z y w) = z x + (hh q z y w + z (w - y)) by (first | lia | omega), Nat.add_mod, hyw, ← Nat.add_mod]
          rw [e1, c2]
          congr 1
          (first | lia | omega)
        have := mod_of_add e hq
        rw [Nat.mod_eq_of_lt (hh_lt hq)] at this
        exact this
      have t1 := Wm_bit (q := q) (L := N + 1) (z := z) (x := x) (n := N + 1) (y := w) (by (first | lia | omega))
      have t2 := Wm_bit (q := q) (L := N + 1) (z := z) (x := y) (n := N + 1) (y := w) (by (first | lia | omega))
      have tb : (msk q c N z x y).testBit (w - (y + 1)) = true := by
        show ((((Wm q (N + 1) z x (N + 1) >>> ((N + 1) * (((c + 2) * x + (q - hh q z x y)) % q))) &&& (Wm q (N + 1) z y (N + 1) >>> ((N + 1) * ((x + y + (c * y + z (y - x)) + (q - z x % q)) % q)))) % 2 ^ (N + 1)) >>> (y + 1)).testBit (w - (y + 1)) = true
        rw [Nat.testBit_shiftRight, Nat.testBit_mod_two_pow, Nat.testBit_and, Nat.testBit_shiftRight, Nat.testBit_shiftRight, ← r1, ← r2]
        have e : y + 1 + (w - (y + 1)) = w := by (first | lia | omega)
        rw [e, t1, t2]
        simp; (first | lia | omega)
      rw [a3, Nat.zero_testBit] at tb
      cases tb
    · have a3 := allB_spec a2 w (by (first | lia | omega))
      have b3 : Nat.ble w y = false := by cases e : Nat.ble w y with
        | false => rfl
        | true => have := Nat.le_of_ble_eq_true e; (first | lia | omega)
      rw [b3, Bool.false_or, hcl] at a3
      cases a3

namespace Fld
variable {M : Nat → Nat} {m q N : Nat} {z : Nat → Nat} (F : Fld M m q N z)
include F
theorem four {c a1 a2 a3 a4 e1 e2 e3 e4 : Nat} (hq : 0 < q) (hc : chk2 q c N z = true) (h1 : e1 < 32) (h2 : e2 < 32) (h3 : e3 < 32) (h4 : e4 < 32)
    (l1 : a1 < a2) (l2 : a2 < a3) (l3 : a3 < a4) (hN : a4 - a1 ≤ N)
    (s0 : iter M (c * a1) e1 ^^^ iter M (c * a2) e2 ^^^ iter M (c * a3) e3 ^^^ iter M (c * a4) e4 = 0)
    (s1 : iter M ((c + 1) * a1) e1 ^^^ iter M ((c + 1) * a2) e2 ^^^ iter M ((c + 1) * a3) e3 ^^^ iter M ((c + 1) * a4) e4 = 0)
    (s2 : iter M ((c + 2) * a1) e1 ^^^ iter M ((c + 2) * a2) e2 ^^^ iter M ((c + 2) * a3) e3 ^^^ iter M ((c + 2) * a4) e4 = 0) :
    e1 = 0 ∧ e2 = 0 ∧ e3 = 0 ∧ e4 = 0 := by
  have sw1 : ∀ {p q r s : Nat}, p ^^^ q ^^^ r ^^^ s = 0 → p ^^^ r ^^^ q ^^^ s = 0 := fun {p q r s} h => by rw [← h]; ac_rfl
  have sw2 : ∀ {p q r s : Nat}, p ^^^ q ^^^ r ^^^ s = 0 → p ^^^ s ^^^ q ^^^ r = 0 := fun {p q r s} h => by rw [← h]; ac_rfl
  have nr : ∀ {a b : Nat}, a < b → a1 ≤ a → b ≤ a4 → near N a b ∧ near N b a := fun {a b} hab ha hb => ⟨⟨by (first | lia | omega), by (first | lia | omega), by (first | lia | omega)⟩, ⟨by (first | lia | omega), by (first | lia | omega), by (first | lia | omega)⟩⟩
  have p2 := F.pair h1 h2 (nr (by (first | lia | omega)) (by (first | lia | omega)) (by (first | lia | omega))).1 (nr (by (first | lia | omega)) (by (first | lia | omega)) (by (first | lia | omega))).1 (nr (by (first | lia | omega)) (by (first | lia | omega)) (by (first | lia | omega))).1 (nr (by (first | lia | omega)) (by (first | lia | omega)) (by (first | lia | omega))).1 s0 s1 s2
  have p3 := F.pair h1 h3 (nr (by (first | lia | omega)) (by (first | lia | omega)) (by (first | lia | omega))).1 (nr (by (first | lia | omega)) (by (first | lia | omega)) (by (first | lia | omega))).1 (nr l2 (by (first | lia | omega)) (by (first | lia | omega))).2 (nr (by (first | lia | omega)) (by (first | lia | omega)) (by (first | lia | omega))).1 (sw1 s0) (sw1 s1) (sw1 s2)
  have p4 := F.pair h1 h4 (nr (by (first | lia | omega)) (by (first | lia | omega)) (by (first | lia | omega))).1 (nr (by (first | lia | omega)) (by (first | lia | omega)) (by (first | lia | omega))).1 (nr (Nat.lt_trans l2 l3) (by (first | lia | omega)) (by (first | lia | omega))).2 (nr l3 (by (first | lia | omega)) (by (first | lia | omega))).2 (sw2 s0) (sw2 s1) (sw2 s2)
  by_cases z1 : e1 = 0
  · subst z1
    rw [iter_zero' F.zero] at p2 p3 p4
    exact ⟨rfl, F.itinj (F.small h2) _ p2.symm, F.itinj (F.small h3) _ p3.symm, F.itinj (F.small h4) _ p4.symm⟩
  · exfalso
    have nz : ∀ {p p' e : Nat}, e < 32 → iter M p e1 = iter M p' e → 0 < e := fun {p p' e} _ h => by
      rcases Nat.eq_zero_or_pos e with he | he
      · rw [he, iter_zero' F.zero] at h
        exact absurd (F.itinj (F.small h1) _ h) z1
      · exact he
    have c2 := F.cls _ _ _ _ (by (first | lia | omega)) h1 (nz h2 p2) h2 p2
    have c3 := F.cls _ _ _ _ (by (first | lia | omega)) h1 (nz h3 p3) h3 p3
    have c4 := F.cls _ _ _ _ (by (first | lia | omega)) h1 (nz h4 p4) h4 p4
    have key := chk2_spec hq hc (x := a2 - a1) (y := a3 - a1) (w := a4 - a1) (by (first | lia | omega)) (by (first | lia | omega)) (by (first | lia | omega)) hN
    have g : clash q c z (a2 - a1) (a3 - a1) (a4 - a1) = true := by
      have mulc : ∀ {a : Nat}, a1 ≤ a → c * a = c * a1 + c * (a - a1) := fun {a} h => by rw [← Nat.mul_add]; congr 1; (first | lia | omega)
      unfold clash
      simp only [Bool.and_eq_true, Nat.beq_eq]
      have d1 : a3 - a1 - (a2 - a1) = a3 - a2 := by (first | lia | omega)
      have d2 : a4 - a1 - (a2 - a1) = a4 - a2 := by (first | lia | omega)
      have d3 : a4 - a1 - (a3 - a1) = a4 - a3 := by (first | lia | omega)
      rw [d1, d2, d3]
      unfold dz at c2 c3 c4
      rw [if_pos (by (first | lia | omega)), if_pos (by (first | lia | omega)), if_pos (by (first | lia | omega)), if_pos (by (first | lia | omega)), mulc (a := a2) (by (first | lia | omega))] at c2
      rw [if_pos (by (first | lia | omega)), if_pos (by (first | lia | omega)), if_neg (by (first | lia | omega)), if_pos (by (first | lia | omega)), mulc (a := a3) (by (first | lia | omega))] at c3
      rw [if_pos (by (first | lia | omega)), if_pos (by (first | lia | omega)), if_neg (by (first | lia | omega)), if_neg (by (first | lia | omega)), mulc (a := a4) (by (first | lia | omega))] at c4
      refine ⟨modc (K := 2 * a1 + c * a1) ?_, modc (K := 2 * a1 + c * a1) ?_, modc (K := 2 * a1 + c * a1) ?_⟩
      · refine Eq.trans (congrArg (· % q) ?_) (c2.trans (congrArg (· % q) ?_)) <;> (first | lia | omega)
      · refine Eq.trans (congrArg (· % q) ?_) (c3.trans (congrArg (· % q) ?_)) <;> (first | lia | omega)
      · refine Eq.trans (congrArg (· % q) ?_) (c4.trans (congrArg (· % q) ?_)) <;> (first | lia | omega)
    rw [key] at g
    cases g
end Fld
end Mine

namespace Mine
noncomputable def mmul (A B : List Nat) : List Nat := B.map (lin A)
theorem lin_mmul (A B : List Nat) (n : Nat) : lin (mmul A B) n = lin A (lin B n) := lin_comp A B n
noncomputable def idc : Nat → List Nat
  | 0 => []
  | m + 1 => 1 :: (idc m).map (2 * ·)
theorem xor_two (a k : Nat) (ha : a < 2) : a ^^^ (2 * k) = 2 * k + a := by
  have h1 : (a ^^^ (2 * k)) % 2 = a := by rw [xmod2]; (first | lia | omega)
  have h2 : (a ^^^ (2 * k)) / 2 = k := by
    rw [xdiv2, show a / 2 = 0 by (first | lia | omega), show 2 * k / 2 = k by (first | lia | omega), Nat.zero_xor]
  (first | lia | omega)
theorem lin_two (cs : List Nat) : ∀ n, lin (cs.map (2 * ·)) n = 2 * lin cs n := by
  intro n
  refine lin_map (f := (2 * ·)) (fun a b => ?_) rfl cs n
  have := Nat.shiftLeft_xor_distrib (a := a) (b := b) (i := 1)
  simp only [Nat.shiftLeft_eq, Nat.pow_one] at this
  show 2 * (a ^^^ b) = (2 * a) ^^^ (2 * b)
  rw [Nat.mul_comm 2, this, Nat.mul_comm 2, Nat.mul_comm 2]
theorem lin_idc : ∀ m n, n < 2 ^ m → lin (idc m) n = n
  | 0, n, h => by
    have : n = 0 := by simpa using h
    subst this; rfl
  | m + 1, n, h => by
    rw [idc, lin, lin_two, lin_idc m (n / 2) (by rw [Nat.pow_succ] at h; (first | lia | omega)), Nat.mul_one, xor_two _ _ (Nat.mod_lt _ (by decide))]
    (first | lia | omega)

/-- matrix C is M^a on the space -/
noncomputable def IsPow (M : Nat → Nat) (m a : Nat) (C : List Nat) : Prop := ∀ v, v < 2 ^ m → lin C v = iter M a v
theorem IsPow.one {m : Nat} {C : List Nat} : IsPow (lin C) m 1 C := fun _ _ => rfl
theorem IsPow.mul {M : Nat → Nat} {m a b : Nat} {A B : List Nat} (hM : ∀ v, M v < 2 ^ m) (ha : IsPow M m a A) (hb : IsPow M m b B) : IsPow M m (a + b) (mmul A B) := fun v hv => by
  rw [lin_mmul, hb v hv, ha _ (iter_lt hM hv b), iter_add]
theorem IsPow.mul' {M : Nat → Nat} {m a b : Nat} {A B C : List Nat} (hM : ∀ v, M v < 2 ^ m) (ha : IsPow M m a A) (hb : IsPow M m b B) (e : mmul A B = C) : IsPow M m (a + b) C := e ▸ IsPow.mul hM ha hb
theorem IsPow.sq {M : Nat → Nat} {m : Nat} (a : Nat) {A C : List Nat} (hM : ∀ v, M v < 2 ^ m) (ha : IsPow M m a A) (e : mmul A A = C) : IsPow M m (a + a) C := IsPow.mul' hM ha ha e

/-- the powers M^(2^i), applied by the bits of n -/
noncomputable def app : List (List Nat) → Nat → Nat → Nat
  | [], _, v => v
  | C :: r, n, v => app r (n / 2) (bif Nat.beq (n % 2) 1 then lin C v else v)
noncomputable def IsPows (M : Nat → Nat) (m : Nat) : Nat → List (List Nat) → Prop
  | _, [] => True
  | a, C :: r => IsPow M m a C ∧ IsPows M m (a + a) r
theorem app_pow {M : Nat → Nat} {m : Nat} (hM : ∀ v, M v < 2 ^ m) : ∀ (Cs : List (List Nat)) (a n v : Nat), IsPows M m a Cs → v < 2 ^ m → n < 2 ^ Cs.length → app Cs n v = iter M (a * n) v
  | [], a, n, v, _, _, hn => by
    have : n = 0 := by simpa using hn
    subst this; rfl
  | C :: r, a, n, v, h, hv, hn => by
    have hn' : n / 2 < 2 ^ r.length := by rw [List.length_cons, Nat.pow_succ] at hn; (first | lia | omega)
    unfold app
    have e : n = n % 2 + 2 * (n / 2) := by (first | lia | omega)
    rcases Nat.mod_two_eq_zero_or_one n with h0 | h0
    · rw [h0]
      show app r (n / 2) v = _
      rw [app_pow hM r (a + a) (n / 2) v h.2 hv hn']
      congr 1
      have : a * n = a * (2 * (n / 2)) := by congr 1; (first | lia | omega)
      rw [this, ← Nat.mul_assoc]; congr 1; (first | lia | omega)
    · rw [h0]
      show app r (n / 2) (lin C v) = _
      rw [h.1 v hv, app_pow hM r (a + a) (n / 2) _ h.2 (iter_lt hM hv a) hn', ← iter_add]
      congr 1
      have : a * n = a * (1 + 2 * (n / 2)) := by congr 1; (first | lia | omega)
      rw [this, Nat.mul_add, Nat.mul_one, ← Nat.mul_assoc, Nat.add_comm]; congr 2; (first | lia | omega)

noncomputable def chain (C : List Nat) : Nat → List Nat → Bool
  | _, [] => true
  | v, x :: r => Nat.beq (lin C v) x && (Nat.ble 32 x && chain C x r)
theorem chain_spec {C : List Nat} : ∀ (xs : List Nat) (v : Nat), chain C v xs = true → ∀ r, 0 < r → r ≤ xs.length → 32 ≤ iter (lin C) r v
  | [], v, _, r, h0, hr => absurd h0 (by simp at hr; (first | lia | omega))
  | x :: xs, v, h, r, h0, hr => by
    simp only [chain, Bool.and_eq_true, Nat.beq_eq] at h
    obtain ⟨h1, h2, h3⟩ := h
    rcases Nat.eq_or_lt_of_le h0 with h4 | h4
    · have : r = 1 := h4.symm
      subst this
      show 32 ≤ lin C v
      rw [h1]; exact Nat.le_of_ble_eq_true h2
    · have := chain_spec xs x h3 (r - 1) (by (first | lia | omega)) (by simp at hr; (first | lia | omega))
      rw [← h1] at this
      have e : r = (r - 1) + 1 := by (first | lia | omega)
      rw [e, iter_add]
      exact this

/-- a field's data and its checks -/
structure FldData where
  m : Nat
  q : Nat
  N : Nat
  C : List Nat
  inv : List Nat
  pows : List (List Nat)
  S : List Nat
  seq : List Nat
  lgE : List Nat
  B : List Nat
  Bi : List Nat
  zs : List Nat

noncomputable def FldData.zf (D : FldData) (d : Nat) : Nat := D.zs.getD d 0
noncomputable def zchk (Cs : List (List Nat)) : Nat → List Nat → List Nat → Bool
  | _, [], _ => true
  | _, _ :: _, [] => false
  | i, z :: zs, x :: xs => Nat.beq (Nat.xor 1 x) (app Cs z 1) && (Nat.blt z (2 ^ Cs.length) && zchk Cs (i + 1) zs xs)

section
variable {M : Nat → Nat} {m q : Nat}

theorem cls_of {C S : List Nat} (hlt : ∀ v, lin C v < 2 ^ m) (h5 : 5 ≤ m) (hinj : ∀ v, v < 2 ^ m → lin C v = 0 → v = 0) (hS : IsPow (lin C) m q S) (hper : ∀ v, v < 2 ^ m → iter (lin C) (q * 31) v = v)
    (hSE : ∀ e, e < 32 → lin S e < 32) (hq : 0 < q) (hE : ∀ e, 0 < e → e < 32 → ∃ k, iter (lin C) (q * k) 1 = e) (hr : ∀ r, 0 < r → r < q → 32 ≤ iter (lin C) r 1) :
    ∀ p p' a b, 0 < a → a < 32 → 0 < b → b < 32 → iter (lin C) p a = iter (lin C) p' b → p % q = p' % q := by
  have add := lin_xor C
  have zero := lin_zero C
  have one : 1 < 2 ^ m := Nat.lt_of_lt_of_le (by decide : 1 < 2 ^ 5) (Nat.pow_le_pow_right (by decide) h5)
  have inj : ∀ k v, v < 2 ^ m → iter (lin C) k v = 0 → v = 0 := fun k => by
    induction k with
    | zero => intro v _ h; exact h
    | succ k ih => intro v hv h; exact ih v hv (hinj _ (iter_lt hlt hv k) h)
  have inj2 : ∀ k v u, v < 2 ^ m → u < 2 ^ m → iter (lin C) k v = iter (lin C) k u → v = u := fun k v u hv hu h => by
    apply xeq
    apply inj k _ (xlt hv hu)
    rw [iter_xor add, h, Nat.xor_self]
  have SE : ∀ k e, e < 32 → iter (lin C) (q * k) e < 32 := fun k => by
    induction k with
    | zero => intro e he; exact he
    | succ k ih =>
      intro e he
      have : iter (lin C) (q * (k + 1)) e = lin S (iter (lin C) (q * k) e) := by
        rw [Nat.mul_succ, Nat.add_comm, iter_add, hS _ (Nat.lt_of_lt_of_le (ih e he) (by
          have : (2:Nat) ^ 5 ≤ 2 ^ m := Nat.pow_le_pow_right (by decide) h5
          simpa using this))]
      rw [this]; exact hSE _ (ih e he)
  have key : ∀ P P', P ≤ P' → iter (lin C) P 1 = iter (lin C) P' 1 → P % q = P' % q := fun P P' hP h => by
    have e : P' = P + (P' - P) := by (first | lia | omega)
    rw [e, iter_add] at h
    have h1 := inj2 P 1 _ one (iter_lt hlt one _) h
    have hd := Nat.div_add_mod (P' - P) q
    have hl := Nat.mod_lt (P' - P) hq
    generalize (P' - P) / q = u at hd
    generalize hrr : (P' - P) % q = r at hd hl
    rw [← hd, iter_add] at h1
    have h2 : iter (lin C) (q * (30 * u)) 1 = iter (lin C) r 1 := by
      conv => lhs; rw [h1]
      rw [← iter_add, show q * (30 * u) + q * u = q * 31 * u by rw [← Nat.mul_add, Nat.mul_assoc]; congr 1; (first | lia | omega), iter_mul]
      have : ∀ k v, v < 2 ^ m → iter (iter (lin C) (q * 31)) k v = v := fun k => by
        induction k with
        | zero => intro v _; rfl
        | succ k ih => intro v hv; rw [iter, ih v hv, hper v hv]
      exact this _ _ (iter_lt hlt one _)
    have h3 : iter (lin C) r 1 < 32 := by rw [← h2]; exact SE _ 1 (by decide)
    have hr0 : r = 0 := by
      rcases Nat.eq_zero_or_pos r with h4 | h4
      · exact h4
      · have := hr r h4 hl; (first | lia | omega)
    rw [hr0, Nat.add_zero] at hd
    rw [e, ← hd, Nat.add_mul_mod_self_left]
  intro p p' a b ha ha' hb hb' h
  obtain ⟨k1, e1⟩ := hE a ha ha'
  obtain ⟨k2, e2⟩ := hE b hb hb'
  rw [← e1, ← e2, ← iter_add, ← iter_add] at h
  have : (p + q * k1) % q = (p' + q * k2) % q := by
    rcases Nat.le_total (p + q * k1) (p' + q * k2) with h' | h'
    · exact key _ _ h' h
    · exact (key _ _ h' h.symm).symm
  rwa [Nat.add_mul_mod_self_left, Nat.add_mul_mod_self_left] at this

/-- two linear maps that agree on a basis agree -/
theorem lin_ext {f g : Nat → Nat} (hf : ∀ a b, f (a ^^^ b) = f a ^^^ f b) (hg : ∀ a b, g (a ^^^ b) = g a ^^^ g b) (f0 : f 0 = 0) (g0 : g 0 = 0) {m : Nat} {B Bi : List Nat} (hb : mmul B Bi = idc m)
    (h : B.map f = B.map g) : ∀ v, v < 2 ^ m → f v = g v := fun v hv => by
  have e : v = lin B (lin Bi v) := by rw [← lin_mmul, hb, lin_idc m v hv]
  rw [e, ← lin_map hf f0, ← lin_map hg g0, h]
end

/-- the syndrome of a word, and its sparse form -/
noncomputable def syn (g : Nat → Nat) (es : List Nat) : Nat := es.foldl (fun s e => g s ^^^ e) 0
noncomputable def horner (g : Nat → Nat) : List Nat → Nat
  | [] => 0
  | e :: r => e ^^^ g (horner g r)
theorem syn_rev (g : Nat → Nat) (es : List Nat) : syn g es = horner g es.reverse := by
  have key : ∀ (l : List Nat), (l.reverse).foldl (fun s e => g s ^^^ e) 0 = horner g l := by
    intro l
    induction l with
    | nil => rfl
    | cons e r ih => rw [List.reverse_cons, List.foldl_append, ih]; simp only [List.foldl_cons, List.foldl_nil, horner]; exact Nat.xor_comm _ _
  have := key es.reverse
  rw [List.reverse_reverse] at this
  exact this
noncomputable def nzs : Nat → List Nat → List (Nat × Nat)
  | _, [] => []
  | k, e :: r => if e = 0 then nzs (k + 1) r else (k, e) :: nzs (k + 1) r
noncomputable def xsum (g : Nat → Nat) : List (Nat × Nat) → Nat
  | [] => 0
  | p :: r => iter g p.1 p.2 ^^^ xsum g r
theorem horner_nzs {g : Nat → Nat} (hg : ∀ a b, g (a ^^^ b) = g a ^^^ g b) (g0 : g 0 = 0) : ∀ (l : List Nat) (k : Nat), iter g k (horner g l) = xsum g (nzs k l)
  | [], k => by simp [horner, nzs, xsum, iter_zero' g0]
  | e :: r, k => by
    have ih := horner_nzs hg g0 r (k + 1)
    rw [horner, iter_xor hg]
    have : iter g k (g (horner g r)) = iter g (k + 1) (horner g r) := by rw [iter_add]; rfl
    rw [this, ih, nzs]
    split
    · rename_i h; rw [h, iter_zero' g0, Nat.zero_xor]
    · rfl
theorem nzs_length (l : List Nat) : ∀ k, (nzs k l).length = (l.filter (· ≠ 0)).length := by
  induction l with
  | nil => intro k; rfl
  | cons e r ih =>
    intro k
    rw [nzs]
    by_cases h : e = 0
    · simp [h, ih]
    · simp [h, ih]
theorem nzs_mem (l : List Nat) : ∀ k p, p ∈ nzs k l → k ≤ p.1 ∧ p.1 < k + l.length ∧ p.2 ∈ l ∧ p.2 ≠ 0 := by
  induction l with
  | nil => intro k p h; cases h
  | cons e r ih =>
    intro k p h
    rw [nzs] at h
    by_cases he : e = 0
    · rw [if_pos he] at h
      have := ih (k + 1) p h
      simp only [List.length_cons, List.mem_cons]
      exact ⟨by (first | lia | omega), by (first | lia | omega), .inr this.2.2.1, this.2.2.2⟩
    · rw [if_neg he] at h
      simp only [List.length_cons, List.mem_cons] at h ⊢
      rcases h with rfl | h
      · exact ⟨by simp, by simp, .inl rfl, he⟩
      · have := ih (k + 1) p h
        exact ⟨by (first | lia | omega), by (first | lia | omega), .inr this.2.2.1, this.2.2.2⟩
theorem nzs_sorted (l : List Nat) : ∀ k, (nzs k l).Pairwise (fun a b => a.1 < b.1) := by
  induction l with
  | nil => intro k; exact .nil
  | cons e r ih =>
    intro k
    rw [nzs]
    by_cases he : e = 0
    · rw [if_pos he]; exact ih (k + 1)
    · rw [if_neg he]
      refine .cons (fun p hp => ?_) (ih (k + 1))
      have := (nzs_mem r (k + 1) p hp).1
      show k < p.1
      (first | lia | omega)

theorem dist5 {M : Nat → Nat} {m q N : Nat} {z : Nat → Nat} (F : Fld M m q N z) {c : Nat} (hq : 0 < q) (hc : chk2 q c N z = true) {es : List Nat} (hes : ∀ e ∈ es, e < 32) (hlen : es.length + 2 ≤ N)
    (s0 : syn (iter M c) es = 0) (s1 : syn (iter M (c + 1)) es = 0) (s2 : syn (iter M (c + 2)) es = 0) (hw : (es.filter (· ≠ 0)).length < 5) : ∀ e ∈ es, e = 0 := by
  have conv : ∀ k, syn (iter M k) es = 0 → xsum (iter M k) (nzs 0 es.reverse) = 0 := fun k h => by
    rw [← horner_nzs (fun a b => iter_xor F.add k a b) (iter_zero' F.zero k), ← syn_rev, h, iter_zero' (iter_zero' F.zero k)]
  have t0 := conv _ s0
  have t1 := conv _ s1
  have t2 := conv _ s2
  have hl : (nzs 0 es.reverse).length < 5 := by
    rw [nzs_length, List.filter_reverse, List.length_reverse]; exact hw
  have hm : ∀ p ∈ nzs 0 es.reverse, p.1 < es.length ∧ p.2 < 32 ∧ p.2 ≠ 0 := fun p hp => by
    have := nzs_mem _ _ _ hp
    rw [List.length_reverse] at this
    exact ⟨by (first | lia | omega), hes _ (List.mem_reverse.mp this.2.2.1), this.2.2.2⟩
  have hs := nzs_sorted es.reverse 0
  have nil : nzs 0 es.reverse = [] := by
    generalize nzs 0 es.reverse = L at t0 t1 t2 hl hm hs
    match L, t0, t1, t2, hl, hm, hs with
    | [], _, _, _, _, _, _ => rfl
    | [p1], t0, t1, t2, _, hm, hs =>
      exfalso
      have m1 := hm p1 (by simp)
      simp only [xsum, ← iter_mul, Nat.xor_zero] at t0 t1 t2
      have pad : ∀ k, iter M (k * p1.1) p1.2 = 0 → iter M (k * p1.1) p1.2 ^^^ iter M (k * (es.length)) 0 ^^^ iter M (k * (es.length + 1)) 0 ^^^ iter M (k * (es.length + 2)) 0 = 0 := fun k h => by
        simp only [iter_zero' F.zero, h, Nat.xor_zero]
      exact m1.2.2 (F.four hq hc m1.2.1 (by decide) (by decide) (by decide) m1.1 (by (first | lia | omega)) (by (first | lia | omega)) (by (first | lia | omega)) (pad _ t0) (pad _ t1) (pad _ t2)).1
    | [p1, p2], t0, t1, t2, _, hm, hs =>
      exfalso
      have m1 := hm p1 (by simp)
      have m2 := hm p2 (by simp)
      simp only [List.pairwise_cons, List.mem_cons, List.not_mem_nil, or_false, forall_eq] at hs
      simp only [xsum, ← iter_mul, Nat.xor_zero] at t0 t1 t2
      have pad : ∀ k, iter M (k * p1.1) p1.2 ^^^ iter M (k * p2.1) p2.2 = 0 → iter M (k * p1.1) p1.2 ^^^ iter M (k * p2.1) p2.2 ^^^ iter M (k * (es.length)) 0 ^^^ iter M (k * (es.length + 1)) 0 = 0 := fun k h => by
        simp only [iter_zero' F.zero, h, Nat.xor_zero]
      exact m1.2.2 (F.four hq hc m1.2.1 m2.2.1 (by decide) (by decide) hs.1 m2.1 (by (first | lia | omega)) (by (first | lia | omega)) (pad _ t0) (pad _ t1) (pad _ t2)).1
    | [p1, p2, p3], t0, t1, t2, _, hm, hs =>
      exfalso
      have m1 := hm p1 (by simp)
      have m2 := hm p2 (by simp)
      have m3 := hm p3 (by simp)
      simp only [List.pairwise_cons, List.mem_cons, List.not_mem_nil, or_false, forall_eq, forall_eq_or_imp] at hs
      simp only [xsum, ← iter_mul, Nat.xor_zero] at t0 t1 t2
      have pad : ∀ k, iter M (k * p1.1) p1.2 ^^^ (iter M (k * p2.1) p2.2 ^^^ iter M (k * p3.1) p3.2) = 0 → iter M (k * p1.1) p1.2 ^^^ iter M (k * p2.1) p2.2 ^^^ iter M (k * p3.1) p3.2 ^^^ iter M (k * (es.length)) 0 = 0 := fun k h => by
        rw [iter_zero' F.zero, Nat.xor_zero, Nat.xor_assoc, h]
      exact m1.2.2 (F.four hq hc m1.2.1 m2.2.1 m3.2.1 (by decide) hs.1.1 hs.2.1 m3.1 (by (first | lia | omega)) (pad _ t0) (pad _ t1) (pad _ t2)).1
    | [p1, p2, p3, p4], t0, t1, t2, _, hm, hs =>
      exfalso
      have m1 := hm p1 (by simp)
      have m2 := hm p2 (by simp)
      have m3 := hm p3 (by simp)
      have m4 := hm p4 (by simp)
      simp only [List.pairwise_cons, List.mem_cons, List.not_mem_nil, or_false, forall_eq, forall_eq_or_imp] at hs
      simp only [xsum, ← iter_mul, Nat.xor_zero, ← Nat.xor_assoc] at t0 t1 t2
      exact m1.2.2 (F.four hq hc m1.2.1 m2.2.1 m3.2.1 m4.2.1 hs.1.1 hs.2.1.1 hs.2.2.1 (by (first | lia | omega)) t0 t1 t2).1
    | _ :: _ :: _ :: _ :: _ :: _, _, _, _, hl, _, _ => exact absurd hl (by simp)
  intro e he
  have hnl : (es.filter (· ≠ 0)).length = 0 := by
    have h1 := nzs_length es.reverse 0
    rw [nil, List.filter_reverse, List.length_reverse] at h1
    exact h1.symm
  by_cases h0 : e = 0
  · exact h0
  · have : e ∈ es.filter (· ≠ 0) := List.mem_filter.mpr ⟨he, by simpa using h0⟩
    rw [List.length_eq_zero_iff.mp hnl] at this
    cases this
/-- the syndrome under a linear map that turns T into g -/
theorem syn_map {T g φ : Nat → Nat} (hφ : ∀ a b, φ (a ^^^ b) = φ a ^^^ φ b) (h0 : φ 0 = 0) {B : Nat} (hT : ∀ v, v < B → φ (T v) = g (φ v)) (hB : ∀ v e, v < B → e < 32 → T v ^^^ e < B) (hB0 : 0 < B) (he : ∀ e, e < 32 → φ e = e) (es : List Nat) (hes : ∀ e ∈ es, e < 32) : φ (syn T es) = syn g es := by
  have key : ∀ (l : List Nat) (v : Nat), (∀ e ∈ l, e < 32) → v < B → φ (l.foldl (fun s e => T s ^^^ e) v) = l.foldl (fun s e => g s ^^^ e) (φ v) := by
    intro l
    induction l with
    | nil => intro v _ _; rfl
    | cons e r ih =>
      intro v hl hv
      have h1 := hl e List.mem_cons_self
      rw [List.foldl_cons, List.foldl_cons, ih _ (fun x hx => hl x (List.mem_cons_of_mem _ hx)) (hB v e hv h1), hφ, hT v hv, he e h1]
  have := key es 0 hes hB0
  rw [h0] at this
  exact this
end Mine

namespace Mine
noncomputable def stepc (C : List Nat) : Nat → List Nat → Bool
  | _, [] => true
  | v, x :: r => Nat.beq (lin C v) x && stepc C x r
theorem stepc_spec {C : List Nat} : ∀ (xs : List Nat) (v : Nat), stepc C v xs = true → ∀ r, r < xs.length → xs[r]? = some (iter (lin C) (r + 1) v)
  | [], _, _, r, hr => absurd hr (by simp)
  | x :: xs, v, h, r, hr => by
    simp only [stepc, Bool.and_eq_true, Nat.beq_eq] at h
    obtain ⟨h1, h2⟩ := h
    cases r with
    | zero => simp only [List.getElem?_cons_zero]; rw [← h1]; rfl
    | succ r =>
      have := stepc_spec xs x h2 r (by simpa using hr)
      rw [List.getElem?_cons_succ, this, ← h1, iter_add _ (r + 1) 1]
      rfl
/-- z's, the vectors M^d 1, the powers -/
noncomputable def zck (Cs : List (List Nat)) (B : Nat) : List Nat → List Nat → Bool
  | z :: zs, x :: xs => Nat.beq (Nat.xor 1 x) (app Cs z 1) && (Nat.ble (z + 1) B && zck Cs B zs xs)
  | [], [] => true
  | _, _ => false
theorem zck_spec {Cs : List (List Nat)} {B : Nat} : ∀ (zs xs : List Nat), zck Cs B zs xs = true → zs.length = xs.length ∧ ∀ (d z x : Nat), zs[d]? = some z → xs[d]? = some x → 1 ^^^ x = app Cs z 1 ∧ z < B
  | [], [], _ => ⟨rfl, fun d z x h => by simp at h⟩
  | z :: zs, x :: xs, h => by
    simp only [zck, Bool.and_eq_true, Nat.beq_eq] at h
    obtain ⟨h1, h2, h3⟩ := h
    have ih := zck_spec zs xs h3
    refine ⟨by simp [ih.1], fun d z' x' e1 e2 => ?_⟩
    cases d with
    | zero =>
      simp only [List.getElem?_cons_zero, Option.some.injEq] at e1 e2
      subst e1; subst e2
      exact ⟨h1, Nat.le_of_ble_eq_true h2⟩
    | succ d => exact ih.2 d z' x' (by simpa using e1) (by simpa using e2)
  | [], _ :: _, h => by cases h
  | _ :: _, [], h => by cases h

theorem lin_append (A B : List Nat) : ∀ n, lin (A ++ B) n = lin A n ^^^ lin B (n / 2 ^ A.length) := by
  induction A with
  | nil => intro n; simp [lin]
  | cons a r ih =>
    intro n
    rw [List.cons_append, lin, lin, ih, Nat.xor_assoc, Nat.div_div_eq_div_mul, List.length_cons, Nat.pow_succ, Nat.mul_comm 2]
theorem lin_mod : ∀ (cs : List Nat) (n : Nat), lin cs n = lin cs (n % 2 ^ cs.length)
  | [], n => rfl
  | c :: r, n => by
    rw [lin, lin, lin_mod r (n / 2), lin_mod r (n % 2 ^ (c :: r).length / 2)]
    have h1 : n % 2 ^ (c :: r).length % 2 = n % 2 := by
      rw [List.length_cons, Nat.pow_succ]
      exact Nat.mod_mod_of_dvd n (Nat.dvd_mul_left 2 _)
    have h2 : n % 2 ^ (c :: r).length / 2 = n / 2 % 2 ^ r.length := by
      rw [List.length_cons, Nat.pow_succ, Nat.mul_comm, Nat.mod_mul_right_div_self]
    rw [h1, h2, Nat.mod_mod]

theorem fld_of {m q N : Nat} {C inv S seq orb B Bi zs xs : List Nat} {pows : List (List Nat)}
    (hC : ∀ c ∈ C, c < 2 ^ m) (h5 : 5 ≤ m)
    (hpows : IsPows (lin C) m 1 pows) (hpl : pows.length = m) (hlast : IsPow (lin C) m (2 ^ m) C) (hinv : mmul inv C = idc m)
    (hS : IsPow (lin C) m q S) (hq31 : q * 31 = 2 ^ m - 1) (hq : 0 < q)
    (hseq : chain C 1 seq = true) (hsl : seq.length + 1 = q)
    (horb : stepc S 1 orb = true) (hmem : ∀ e, 0 < e → e < 32 → e ∈ 1 :: orb)
    (hSE : ∀ e, e < 32 → lin S e < 32)
    (hB : stepc C 1 B = true) (hBl : B.length + 1 = m) (hBi : mmul (1 :: B) Bi = idc m)
    (hxs : stepc C 1 xs = true) (hzs : zck pows (2 ^ m) zs xs = true) (hN : xs.length = N) : Fld (lin C) m q N (fun d => zs.getD (d - 1) 0) := by
  have hlt : ∀ v, lin C v < 2 ^ m := lin_lt C hC
  have one : 1 < 2 ^ m := Nat.lt_of_lt_of_le (by decide : 1 < 2 ^ 5) (Nat.pow_le_pow_right (by decide) h5)
  have inj : ∀ v, v < 2 ^ m → lin C v = 0 → v = 0 := fun v hv h => by
    have := lin_mmul inv C v
    rw [hinv, lin_idc m v hv, h, lin_zero] at this
    exact this
  have per : ∀ v, v < 2 ^ m → iter (lin C) (q * 31) v = v := fun v hv => by
    have h1 := hlast v hv
    have e : 2 ^ m = 1 + q * 31 := by (first | lia | omega)
    rw [e, iter_add] at h1
    have h2 : lin C (v ^^^ iter (lin C) (q * 31) v) = 0 := by
      rw [lin_xor, h1]
      show iter (lin C) 1 _ ^^^ iter (lin C) 1 _ = 0
      rw [Nat.xor_self]
    exact (xeq (inj _ (xlt hv (iter_lt hlt hv _)) h2)).symm
  have hE : ∀ e, 0 < e → e < 32 → ∃ k, iter (lin C) (q * k) 1 = e := fun e h0 h1 => by
    have SC : ∀ k, iter (lin S) k 1 = iter (lin C) (q * k) 1 := fun k => by
      induction k with
      | zero => rfl
      | succ k ih => rw [iter, ih, hS _ (iter_lt hlt one _), Nat.mul_succ, Nat.add_comm (q * k), iter_add]
    rcases List.mem_cons.mp (hmem e h0 h1) with h | h
    · exact ⟨0, h.symm⟩
    · obtain ⟨i, hi, rfl⟩ := List.getElem_of_mem h
      have := stepc_spec orb 1 horb i hi
      rw [List.getElem?_eq_getElem hi] at this
      exact ⟨i + 1, by rw [← SC]; exact (Option.some.inj this).symm⟩
  have hr : ∀ r, 0 < r → r < q → 32 ≤ iter (lin C) r 1 := fun r h0 h1 => chain_spec seq 1 hseq r h0 (by (first | lia | omega))
  refine ⟨lin_xor C, lin_zero C, hlt, h5, inj, cls_of hlt h5 inj hS per hSE hq hE hr, fun d h0 hd v hv => ?_⟩
  have hz := zck_spec zs xs hzs
  have hi : d - 1 < xs.length := by (first | lia | omega)
  have hi' : d - 1 < zs.length := by (first | lia | omega)
  have e1 := stepc_spec xs 1 hxs (d - 1) hi
  have e2 : d - 1 + 1 = d := by (first | lia | omega)
  rw [e2] at e1
  have e3 : zs[d - 1]? = some (zs.getD (d - 1) 0) := by simp [hi']
  generalize zs.getD (d - 1) 0 = zz at e3
  obtain ⟨k1, k2⟩ := hz.2 _ _ _ e3 e1
  rw [app_pow hlt pows 1 zz 1 hpows one (by rw [hpl]; exact k2), Nat.one_mul] at k1
  refine lin_ext (f := fun v => v ^^^ iter (lin C) d v) (g := iter (lin C) zz) (fun a b => ?_) (iter_xor (lin_xor C) zz) ?_ (iter_zero' (lin_zero C) zz) hBi ?_ v hv
  · simp only [iter_xor (lin_xor C)]; ac_rfl
  · simp [iter_zero' (lin_zero C)]
  · refine List.map_congr_left fun b hb => ?_
    have : ∃ i, b = iter (lin C) i 1 := by
      rcases List.mem_cons.mp hb with h | h
      · exact ⟨0, h⟩
      · obtain ⟨i, hi, rfl⟩ := List.getElem_of_mem h
        have := stepc_spec B 1 hB i hi
        rw [List.getElem?_eq_getElem hi] at this
        exact ⟨i + 1, Option.some.inj this⟩
    obtain ⟨i, rfl⟩ := this
    show iter (lin C) i 1 ^^^ iter (lin C) d (iter (lin C) i 1) = iter (lin C) zz (iter (lin C) i 1)
    rw [← iter_add, Nat.add_comm d i, iter_add, ← iter_xor (lin_xor C), k1, ← iter_add, Nat.add_comm, iter_add]
theorem Fld.congr {M : Nat → Nat} {m q N : Nat} {z z' : Nat → Nat} (h : ∀ d, 0 < d → d ≤ N → z d = z' d) (F : Fld M m q N z') : Fld M m q N z :=
  ⟨F.add, F.zero, F.lt, F.five, F.inj, F.cls, fun d h0 h1 v hv => by rw [h d h0 h1]; exact F.zech d h0 h1 v hv⟩
theorem code_dist {C Tc F0 F1 F2 R0 R1 R2 : List Nat} {m q N c b : Nat} {z : Nat → Nat} (fld : Fld (lin C) m q N z) (hq : 0 < q) (hchk : chk2 q c N z = true)
    (hb : 5 ≤ b) (hT : ∀ x ∈ Tc, x < 2 ^ b) (f0 : mmul F0 Tc = mmul R0 F0) (f1 : mmul F1 Tc = mmul R1 F1) (f2 : mmul F2 Tc = mmul R2 F2)
    (r0 : IsPow (lin C) m c R0) (r1 : IsPow (lin C) m (c + 1) R1) (r2 : IsPow (lin C) m (c + 2) R2)
    (m0 : ∀ x ∈ F0, x < 2 ^ m) (m1 : ∀ x ∈ F1, x < 2 ^ m) (m2 : ∀ x ∈ F2, x < 2 ^ m)
    (e0 : ∀ e, e < 32 → lin F0 e = e) (e1 : ∀ e, e < 32 → lin F1 e = e) (e2 : ∀ e, e < 32 → lin F2 e = e)
    {es : List Nat} (hes : ∀ e ∈ es, e < 32) (hlen : es.length + 2 ≤ N) (h : syn (lin Tc) es = 0) (hw : (es.filter (· ≠ 0)).length < 5) : ∀ e ∈ es, e = 0 := by
  have b32 : (32 : Nat) ≤ 2 ^ b := Nat.le_trans (by decide : 32 ≤ 2 ^ 5) (Nat.pow_le_pow_right (by decide) hb)
  have go : ∀ {F R : List Nat} {k : Nat}, mmul F Tc = mmul R F → IsPow (lin C) m k R → (∀ x ∈ F, x < 2 ^ m) → (∀ e, e < 32 → lin F e = e) → syn (iter (lin C) k) es = 0 := fun {F R k} f r mm e => by
    have := syn_map (T := lin Tc) (g := iter (lin C) k) (φ := lin F) (lin_xor F) (lin_zero F) (B := 2 ^ b) (fun v _ => by rw [← lin_mmul, f, lin_mmul, r _ (lin_lt F mm v)])
      (fun v x _ hx => xlt (lin_lt Tc hT v) (Nat.lt_of_lt_of_le hx b32)) (Nat.two_pow_pos b) e es hes
    rw [← this, h, lin_zero]
  exact dist5 fld hq hchk hes hlen (go f0 r0 m0 e0) (go f1 r1 m1 e1) (go f2 r2 m2 e2) hw
end Mine

namespace Mine
namespace Bc
noncomputable def C : List Nat := [614, 492, 984, 697, 123, 1, 2, 4, 8, 16]
noncomputable def P0 : List Nat := [614, 492, 984, 697, 123, 1, 2, 4, 8, 16]
noncomputable def P1 : List Nat := [551, 366, 732, 177, 331, 614, 492, 984, 697, 123]
noncomputable def P2 : List Nat := [904, 560, 361, 722, 173, 67, 134, 268, 536, 313]
noncomputable def P3 : List Nat := [255, 471, 903, 558, 380, 318, 597, 419, 838, 940]
noncomputable def P4 : List Nat := [821, 867, 998, 748, 248, 890, 1021, 755, 239, 478]
noncomputable def P5 : List Nat := [608, 480, 960, 672, 96, 193, 386, 772, 808, 880]
noncomputable def P6 : List Nat := [563, 367, 734, 181, 323, 230, 460, 920, 569, 379]
noncomputable def P7 : List Nat := [898, 548, 360, 720, 169, 259, 518, 300, 600, 441]
noncomputable def P8 : List Nat := [233, 466, 909, 570, 381, 1022, 757, 227, 454, 908]
noncomputable def P9 : List Nat := [827, 895, 1015, 743, 238, 698, 125, 211, 399, 798]
noncomputable def pows : List (List Nat) := [P0, P1, P2, P3, P4, P5, P6, P7, P8, P9]
noncomputable def inv : List Nat := [32, 64, 128, 256, 512, 311, 583, 430, 860, 945]
noncomputable def S : List Nat := [19, 15, 30, 21, 3, 608, 480, 960, 672, 96]
noncomputable def seq : List Nat := [614, 551, 67, 904, 677, 427, 318, 255, 663, 61, 893, 871, 73, 221, 890, 821, 476, 276, 939, 302, 132, 988, 260, 976, 101, 445, 881, 518, 548, 969, 193, 608]
noncomputable def orb : List Nat := [19, 31, 20, 29, 27, 10, 26, 25, 5, 13, 24, 22, 18, 12, 11, 9, 6, 17, 16, 3, 28, 8, 21, 14, 4, 30, 7, 2, 15, 23]
noncomputable def B : List Nat := [614, 551, 67, 904, 677, 427, 318, 255, 663]
noncomputable def Bi : List Nat := [1, 14, 84, 856, 191, 657, 7, 42, 428, 718]
noncomputable def xs : List Nat := [614, 551, 67, 904, 677, 427, 318, 255, 663, 61, 893, 871, 73, 221, 890, 821, 476, 276, 939, 302, 132, 988, 260, 976, 101, 445, 881, 518, 548, 969, 193, 608, 19, 1009, 514, 508, 277, 461, 777, 199, 84, 929, 635, 347, 322, 486, 571, 345, 174, 136, 701, 873, 196, 990, 232, 702, 227, 909, 795, 336, 113, 542, 230, 563, 992, 31, 656, 111, 744, 686, 152, 710, 546, 509, 883]
noncomputable def zs : List Nat := [220, 440, 120, 880, 609, 240, 797, 737, 530, 195, 133, 480, 620, 571, 384, 451, 679, 37, 1005, 390, 577, 266, 179, 960, 336, 217, 658, 119, 441, 768, 560, 902, 429, 335, 961, 74, 18, 987, 250, 780, 88, 131, 173, 532, 691, 358, 982, 897, 685, 672, 160, 434, 663, 293, 256, 238, 202, 882, 273, 513, 506, 97, 87, 781, 490, 858, 874, 670, 236, 899, 295, 148, 444, 36, 680]
noncomputable def gen : List Nat := [996825010, 642813549, 513874426, 1027748829, 705979059]
noncomputable def Tc : List Nat := [32, 64, 128, 256, 512, 1024, 2048, 4096, 8192, 16384, 32768, 65536, 131072, 262144, 524288, 1048576, 2097152, 4194304, 8388608, 16777216, 33554432, 67108864, 134217728, 268435456, 536870912, 996825010, 642813549, 513874426, 1027748829, 705979059]
theorem hlt : ∀ v, lin C v < 2 ^ 10 := lin_lt C (by decide)
theorem p0 : IsPow (lin C) 10 1 P0 := fun _ _ => rfl
theorem p1 : IsPow (lin C) 10 2 P1 := IsPow.mul' (a := 1) (b := 1) hlt p0 p0 (by decide +kernel)
theorem p2 : IsPow (lin C) 10 4 P2 := IsPow.mul' (a := 2) (b := 2) hlt p1 p1 (by decide +kernel)
theorem p3 : IsPow (lin C) 10 8 P3 := IsPow.mul' (a := 4) (b := 4) hlt p2 p2 (by decide +kernel)
theorem p4 : IsPow (lin C) 10 16 P4 := IsPow.mul' (a := 8) (b := 8) hlt p3 p3 (by decide +kernel)
theorem p5 : IsPow (lin C) 10 32 P5 := IsPow.mul' (a := 16) (b := 16) hlt p4 p4 (by decide +kernel)
theorem p6 : IsPow (lin C) 10 64 P6 := IsPow.mul' (a := 32) (b := 32) hlt p5 p5 (by decide +kernel)
theorem p7 : IsPow (lin C) 10 128 P7 := IsPow.mul' (a := 64) (b := 64) hlt p6 p6 (by decide +kernel)
theorem p8 : IsPow (lin C) 10 256 P8 := IsPow.mul' (a := 128) (b := 128) hlt p7 p7 (by decide +kernel)
theorem p9 : IsPow (lin C) 10 512 P9 := IsPow.mul' (a := 256) (b := 256) hlt p8 p8 (by decide +kernel)
theorem plast : IsPow (lin C) 10 (2 ^ 10) C := IsPow.mul' (a := 512) (b := 512) hlt p9 p9 (by decide +kernel)
theorem tS : IsPow (lin C) 10 33 S := IsPow.mul' (a := 32) (b := 1) hlt p5 p0 (by decide +kernel)
noncomputable def R0 : List Nat := [976, 681, 114, 205, 410, 260, 520, 304, 585, 434]
theorem tR0 : IsPow (lin C) 10 24 R0 := IsPow.mul' (a := 16) (b := 8) hlt p4 p3 (by decide +kernel)
noncomputable def R1_3 : List Nat := [976, 681, 114, 205, 410, 260, 520, 304, 585, 434]
theorem tR1_3 : IsPow (lin C) 10 24 R1_3 := IsPow.mul' (a := 16) (b := 8) hlt p4 p3 (by decide +kernel)
noncomputable def R1 : List Nat := [101, 202, 404, 769, 802, 976, 681, 114, 205, 410]
theorem tR1 : IsPow (lin C) 10 25 R1 := IsPow.mul' (a := 24) (b := 1) hlt tR1_3 p0 (by decide +kernel)
noncomputable def R2_3 : List Nat := [976, 681, 114, 205, 410, 260, 520, 304, 585, 434]
theorem tR2_3 : IsPow (lin C) 10 24 R2_3 := IsPow.mul' (a := 16) (b := 8) hlt p4 p3 (by decide +kernel)
noncomputable def R2 : List Nat := [445, 851, 943, 638, 501, 101, 202, 404, 769, 802]
theorem tR2 : IsPow (lin C) 10 26 R2 := IsPow.mul' (a := 24) (b := 2) hlt tR2_3 p1 (by decide +kernel)
noncomputable def F0 : List Nat := [1, 2, 4, 8, 16, 976, 681, 114, 205, 410, 345, 667, 63, 87, 135, 710, 172, 344, 665, 59, 81, 139, 278, 517, 298, 66, 132, 264, 528, 297]
noncomputable def F1 : List Nat := [1, 2, 4, 8, 16, 101, 202, 404, 769, 802, 136, 272, 521, 306, 589, 883, 1007, 766, 245, 451, 931, 614, 492, 984, 697, 602, 445, 851, 943, 638]
noncomputable def F2 : List Nat := [1, 2, 4, 8, 16, 445, 851, 943, 638, 501, 873, 1010, 749, 250, 477, 847, 958, 629, 483, 966, 982, 677, 106, 212, 385, 116, 193, 386, 772, 808]
theorem f0 : mmul F0 Tc = mmul R0 F0 := by decide +kernel
theorem f1 : mmul F1 Tc = mmul R1 F1 := by decide +kernel
theorem f2 : mmul F2 Tc = mmul R2 F2 := by decide +kernel
theorem hpows : IsPows (lin C) 10 1 pows := ⟨p0, p1, p2, p3, p4, p5, p6, p7, p8, p9, trivial⟩
theorem hseq : chain C 1 seq = true := by decide +kernel
theorem hzs : zck pows (2 ^ 10) zs xs = true := by decide +kernel
noncomputable def pk : Nat := 0xaa0246f09449f833b29edab5a7ab0d15c617ea0144772328ee40125a5db2282a0ab781f5966ace142b4831630c3ebdb0484af054f6b7868c3006e477a48d9543c02cd0a90586fb425a9dc36023b9b1e0214c384ae1c74f0987701e1b837000
noncomputable def z (d : Nat) : Nat := Nat.mod (Nat.shiftRight pk (Nat.mul 10 d)) 1024
theorem zz : ∀ d, 0 < d → d ≤ 75 → z d = zs.getD (d - 1) 0 := fun d h0 h1 => by have : ∀ d, d < 76 → 0 < d → z d = zs.getD (d - 1) 0 := (by decide +kernel); exact this d (by (first | lia | omega)) h0
theorem fld : Fld (lin C) 10 33 75 z := Fld.congr zz (fld_of (seq := seq) (orb := orb) (B := B) (Bi := Bi) (inv := inv) (S := S) (by decide) (by decide) hpows rfl plast (by decide +kernel) tS (by decide) (by decide) hseq (by decide +kernel) (by decide +kernel) (fun e h0 h1 => by have : ∀ e, e < 32 → 0 < e → e ∈ 1 :: orb := (by decide +kernel); exact this e h1 h0) (by decide +kernel) (by decide +kernel) (by decide +kernel) (by decide +kernel) (by decide +kernel) hzs (by decide +kernel))
theorem hchk : chk2 33 24 75 z = true := by decide +kernel
theorem dist {es : List Nat} (hes : ∀ e ∈ es, e < 32) (hlen : es.length + 2 ≤ 75) (h : syn (lin Tc) es = 0) (hw : (es.filter (· ≠ 0)).length < 5) : ∀ e ∈ es, e = 0 :=
  code_dist (b := 30) fld (by decide) hchk (by decide) (by decide) f0 f1 f2 tR0 tR1 tR2 (by decide) (by decide) (by decide) (by decide +kernel) (by decide +kernel) (by decide +kernel) hes hlen h hw
end Bc
namespace Dc
noncomputable def C : List Nat := [25547, 26294, 27749, 31946, 23956, 31359, 22007, 4039, 6830, 12412, 19494, 15436, 30872, 21785, 3611]
noncomputable def P0 : List Nat := [25547, 26294, 27749, 31946, 23956, 31359, 22007, 4039, 6830, 12412, 19494, 15436, 30872, 21785, 3611]
noncomputable def P1 : List Nat := [21079, 1447, 2894, 5052, 8817, 18532, 13512, 27024, 30473, 20274, 3805, 6323, 12623, 25246, 25653]
noncomputable def P2 : List Nat := [20559, 1182, 2325, 4611, 8486, 2916, 5096, 8944, 16617, 9682, 27856, 32137, 24338, 7981, 15226]
noncomputable def P3 : List Nat := [14407, 28814, 17692, 11793, 22827, 2347, 4694, 8613, 17226, 10164, 9520, 19017, 13746, 27469, 30650]
noncomputable def P4 : List Nat := [2869, 4963, 9190, 17132, 9464, 26352, 27881, 32210, 24461, 7738, 23863, 7751, 14766, 29532, 18353]
noncomputable def P5 : List Nat := [13611, 27222, 30117, 20298, 16308, 9427, 18831, 14110, 27445, 30563, 7002, 13245, 25203, 26095, 28638]
noncomputable def P6 : List Nat := [17175, 10023, 19310, 14332, 27377, 24813, 26074, 28573, 32307, 23919, 7871, 14455, 28871, 17806, 12060]
noncomputable def P7 : List Nat := [18927, 14302, 27317, 29795, 19654, 16317, 31347, 21999, 4062, 6837, 30275, 19878, 16204, 31672, 22137]
noncomputable def P8 : List Nat := [25799, 28046, 32540, 24369, 8043, 7127, 12967, 24686, 25820, 28049, 31289, 21883, 3807, 6327, 12615]
noncomputable def P9 : List Nat := [30549, 20387, 15974, 31212, 22488, 26910, 30229, 19747, 15942, 31148, 8335, 16670, 9749, 18723, 13894]
noncomputable def P10 : List Nat := [22251, 3318, 6597, 13194, 25140, 24524, 7864, 14457, 28891, 17823, 31612, 22513, 3819, 6390, 12741]
noncomputable def P11 : List Nat := [4439, 8839, 16430, 9308, 18577, 10857, 20978, 1997, 2746, 4221, 19554, 15556, 31112, 22288, 3881]
noncomputable def P12 : List Nat := [6575, 13150, 25525, 26211, 28134, 13625, 27227, 30143, 20311, 16295, 9875, 18479, 13406, 26773, 29955]
noncomputable def P13 : List Nat := [23687, 7438, 14876, 28977, 17995, 4636, 8497, 16971, 9654, 19269, 17161, 10034, 19309, 14330, 27389]
noncomputable def P14 : List Nat := [31861, 23747, 7558, 15116, 29496, 3406, 6812, 12337, 24651, 25750, 10680, 21337, 1979, 2687, 4599]
noncomputable def pows : List (List Nat) := [P0, P1, P2, P3, P4, P5, P6, P7, P8, P9, P10, P11, P12, P13, P14]
noncomputable def inv : List Nat := [6744, 12729, 25435, 26559, 28279, 19417, 14011, 26751, 29911, 19847, 31101, 22227, 3247, 6494, 12949]
noncomputable def S : List Nat := [3, 6, 12, 24, 25, 96, 192, 384, 768, 800, 3072, 6144, 12288, 24576, 25600]
noncomputable def seq : List Nat := [25547, 21079, 10116, 20559, 13990, 11952, 15651, 14407, 11554, 8980, 20026, 29594, 16743, 21029, 13102, 2869, 16091, 4996, 12776, 27562, 8792, 4556, 10409, 1004, 6706, 13813, 2428, 17489, 10645, 11782, 8156, 13611, 30913, 9773, 8280, 8624, 26523, 5650, 16352, 22390, 26808, 13224, 3617, 22946, 17263, 7827, 28576, 29698, 2314, 15518, 31137, 4875, 11261, 19768, 16382, 31995, 22428, 21131, 12431, 14228, 30019, 9624, 11528, 17175, 4165, 8897, 23710, 8867, 5536, 23464, 26991, 18362, 23231, 18253, 20092, 11454, 31558, 27168, 11597, 6478, 32148, 30568, 5676, 28178, 8246, 30753, 1634, 13668, 14564, 24039, 21776, 32159, 3807, 21088, 26999, 26340, 27506, 22838, 32089, 24124, 465, 32449, 23159, 25015, 152, 11929, 22621, 12744, 4565, 27196, 24694, 9165, 22175, 19800, 4214, 87, 24955, 18951, 27443, 28426, 7110, 16101, 17014, 18088, 31539, 6034, 10889, 18927, 7524, 20913, 10186, 29601, 7995, 31868, 12611, 26533, 18400, 18592, 18415, 23922, 2285, 28519, 18218, 2284, 3244, 5501, 12136, 23779, 9179, 472, 25024, 7068, 11514, 17108, 21926, 24416, 947, 1923, 27726, 2182, 14680, 32714, 14702, 21234, 23954, 10402, 31323, 24190, 12944, 20398, 22274, 30401, 26171, 30980, 26909, 21264, 453, 20272, 29512, 8309, 10411, 25946, 8085, 32733, 3554, 11325, 29180, 21568, 28498, 28527, 15328, 6992, 26213, 1918, 25329, 30062, 11395, 12233, 19088, 20600, 30805, 6171, 24823, 20417, 27992, 17775, 25289, 11855, 21802, 16392, 29393, 30601, 21928, 10617, 7910, 4626, 29638, 22955, 23662, 24440, 8941, 13902, 29237, 15267, 19418, 1373, 11663, 9672, 9579, 21934, 9130, 4111, 27978, 32333, 17695, 4309, 28818, 6015, 31138, 5750, 31757, 8340, 27439, 8753, 8517, 5614, 30790, 16626, 5494, 22239, 6319, 9406, 18186, 29331, 17608, 25799, 9228, 2448, 29873, 9307, 26859, 16054, 20328, 2017, 9584, 29069, 17815, 25560, 2750, 20997, 18769, 17233, 20321, 6368, 25755, 15552, 2011, 6375, 3459, 24702, 24327, 17699, 10129, 629, 19918, 18678, 17759, 17698, 17498, 20514, 27210, 6329, 29689, 27538, 31097, 26725, 18280, 15277, 15811, 6152, 14366, 14912, 29766, 12440, 792, 2956, 2550, 20970, 22046, 8532, 11185, 2144, 5060, 25631, 24418, 25861, 548, 9830, 3096, 20788, 10147, 17192, 8828, 2006, 27523, 18214, 6211, 5214, 19140, 13438, 26018, 7812, 23340, 2765, 9572, 16508, 27816, 8730, 8845, 6598, 3737, 3396, 21334, 24289, 29969, 19277, 15894, 15056, 9749, 31609, 22553, 2138, 11859, 6161, 31371, 23002, 19897, 21490, 18236, 24491, 8244, 7831, 965, 32588, 15482, 13707, 3449, 2009, 32337, 2084, 10838, 23449, 11599, 32760, 30771, 15680, 4786, 1662, 30815, 615, 30444, 28448, 31685, 24730, 4909, 23377, 2997, 12572, 31252, 7771, 18778, 15078, 2861, 8069, 8777, 12179, 22671, 20698, 27483, 15432, 29910, 25291, 18681, 20621, 2592, 30287, 8165, 3521, 21311, 28264, 18518, 12519, 25814, 6739, 31158, 10119, 21810, 24918, 17180, 27122, 26253, 23547, 25713, 1779, 1276, 8530, 8546, 1673, 27804, 27028, 17366, 10686, 11726, 5108, 17396, 13687, 24589, 10342, 19470, 2152, 28430, 30627, 13739, 30470, 20413, 4075, 832, 32549, 3315, 2252, 30419, 23833, 24274, 22407, 30376, 22194, 17475, 4791, 2512, 8518, 4243, 12214, 11614, 16807, 2069, 28278, 25563, 4035, 1525, 9469, 6016, 4523, 28217, 9214, 29705, 28861, 30930, 32452, 21977, 14510, 4716, 30659, 6691, 2986, 31066, 5991, 22780, 10171, 25206, 5041, 6573, 22694, 13732, 25300, 191, 15870, 19591, 6318, 18293, 5469, 21783, 5255, 21089, 2748, 13491, 19702, 2425, 19455, 28812, 15602, 18054, 30549, 17059, 20130, 23811, 6458, 25581, 8955, 24841, 24237, 12361, 26487, 9970, 12846, 4507, 18898, 18923, 28929, 23295, 4794, 31412, 27619, 26798, 25839, 8889, 21064, 28610, 15676, 28673, 16465, 26035, 8411, 11018, 23035, 21517, 18881, 4354, 1152, 17377, 26445, 7013, 20000, 13426, 29965, 1654, 1173, 4571, 7205, 32035, 13916, 18711, 7285, 30016, 8421, 31480, 11963, 17556, 31755, 10823, 26054, 23913, 11470, 2394, 13565, 28440, 8420, 6451, 31980, 25360, 11332, 7393, 19318, 24650, 5257, 9336, 6121, 8482, 21374, 22612, 11977, 20542, 10097, 8762, 22770, 20898, 32547, 1568, 1573, 2443, 20626, 16998, 6972, 22850, 25376, 2991, 30452, 20094, 18952, 32481, 8200, 10707, 28962, 9725, 3374, 26274, 13398, 25367, 17756, 16479, 5034, 15758, 16027, 18035, 1312, 11511, 12720, 7939, 10077, 18666, 2148, 32673, 28497, 27154, 27664, 30460, 12980, 22964, 5160, 12811, 25674, 22703, 10917, 9023, 19954, 32690, 14264, 8083, 29966, 779, 21349, 31863, 18676, 9193, 16517, 3698, 21692, 550, 16592, 2495, 6940, 9021, 11076, 31253, 32144, 6925, 7522, 23394, 10531, 3321, 4784, 24776, 32248, 18511, 29298, 1868, 9132, 6876, 25507, 277, 18580, 3169, 15401, 14485, 19504, 22938, 6222, 26426, 97, 19523, 12027, 4451, 18627, 27930, 30254, 21414, 9018, 16988, 9899, 9548, 18121, 14192, 14697, 15338, 300, 28798, 10143, 29804, 20635, 23911, 23255, 5135, 8556, 28816, 29129, 31749, 23646, 30867, 18680, 13126, 22647, 20939, 20394, 15207, 32143, 21323, 28689, 7621, 18370, 21609, 2604, 26336, 1815, 21112, 18473, 22313, 29961, 27155, 4059, 9387, 5424, 2555, 8846, 7355, 22889, 24808, 1927, 43, 968, 3112, 30431, 19894, 17952, 2110, 28094, 28659, 31004, 18499, 25309, 8126, 31765, 458, 23266, 15434, 4704, 26476, 721, 21523, 25164, 11814, 26019, 32079, 2427, 11593, 29995, 30426, 16920, 7993, 6858, 13540, 11661, 17278, 8396, 8070, 10036, 30819, 13603, 1035, 13713, 19089, 13235, 10754, 16287, 12472, 31079, 17384, 30796, 23182, 877, 30270, 3634, 331, 14062, 1933, 6743, 5587, 11465, 24642, 26691, 14276, 32032, 13089, 7911, 29145, 8593, 32303, 3105, 27102, 3165, 2925, 19058, 5761, 26830, 19303, 24085, 25775, 30542, 26240, 10399, 11988, 32462, 20389, 11957, 12941, 24926, 16342, 31310, 3140, 18936, 10728, 12158, 2980, 3907, 2610, 19821, 14387, 13147, 30343, 14623, 17189, 20760, 19827, 5054, 3199, 6052, 1969, 11539, 26420, 30328, 20758, 15210, 3819, 6638, 2092, 22172, 18469, 18310, 28155, 13738, 5325, 7658, 10351, 21263, 18819, 8771, 13807, 20116, 28731, 32198, 6589, 1330, 6101, 5734, 8601, 741, 8093, 791, 7774, 18164, 25599, 6617, 18143, 24631, 5617, 12288, 11649, 21457, 14398, 16447, 15394, 16674, 2172, 24319, 24220, 29801, 24373, 1150, 18467, 19797, 25362, 19186, 6470, 350, 25812, 31973, 31761, 28079, 20908, 2362, 7029, 5044, 5635, 447, 10064, 15246, 17089, 1948, 9224, 26101, 32767, 4395, 25086, 19054, 23482, 21069, 24684, 25637, 25333, 6411, 10189, 6841, 17285, 9376, 27783, 19895, 9707, 23145, 19002, 16316, 20410, 26355, 24574, 10233, 20791, 8926, 5336, 20432, 21255, 13641, 12799, 24358, 23703, 15778, 21579, 5861, 11043, 15493, 23938, 30006, 22570, 10956, 5046, 28853, 1048, 28024, 16144, 10925, 24565, 24142, 5499, 9659, 21002, 23683, 3155, 32116, 22311, 784, 30534, 6730, 15139, 17437, 27853, 572, 1848, 15829, 20303, 5254, 12714, 22763, 4919, 7353, 16351, 25935, 19887, 1205, 27556, 21569, 3225, 15672, 7268, 19231, 20675, 10702, 24530, 19753, 417, 3293, 1194, 9186, 14642, 19006, 21465, 17652, 21379, 22251, 21281, 17893, 30578, 20932, 23160, 29797, 20378, 7308, 6042, 22083, 23123, 30637, 17330, 27219, 23084, 4195, 21101, 6675, 11329, 4943, 4719, 29374, 19923, 26118, 11659, 18861, 11813, 24798, 10943, 25815, 31128, 11233]
noncomputable def orb : List Nat := [3, 5, 15, 17, 26, 7, 9, 27, 4, 12, 20, 21, 22, 19, 28, 13, 23, 16, 25, 2, 6, 10, 30, 11, 29, 14, 18, 31, 8, 24]
noncomputable def B : List Nat := [25547, 21079, 10116, 20559, 13990, 11952, 15651, 14407, 11554, 8980, 20026, 29594, 16743, 21029]
noncomputable def Bi : List Nat := [1, 27330, 3362, 19194, 29904, 14404, 26194, 29251, 20527, 15934, 667, 4561, 641, 5091, 18904]
noncomputable def xs : List Nat := [25547, 21079, 10116, 20559, 13990, 11952, 15651, 14407, 11554, 8980, 20026, 29594, 16743, 21029, 13102, 2869, 16091, 4996, 12776, 27562, 8792, 4556, 10409, 1004, 6706, 13813, 2428, 17489, 10645, 11782, 8156, 13611, 30913, 9773, 8280, 8624, 26523, 5650, 16352, 22390]
noncomputable def zs : List Nat := [1517, 3034, 32626, 6068, 3568, 32485, 23467, 12136, 26632, 7136, 25287, 32203, 28592, 14167, 7233, 24272, 21984, 20497, 19265, 14272, 10666, 17807, 23682, 31639, 1364, 24417, 26275, 28334, 30047, 14466, 3934, 15777, 4959, 11201, 5681, 8227, 13629, 5763, 10600, 28544]
noncomputable def gen : List Nat := [1056006543753, 730107360018, 118834127661, 236335490938, 430795026429]
noncomputable def Tc : List Nat := [32, 64, 128, 256, 512, 1024, 2048, 4096, 8192, 16384, 32768, 65536, 131072, 262144, 524288, 1048576, 2097152, 4194304, 8388608, 16777216, 33554432, 67108864, 134217728, 268435456, 536870912, 1073741824, 2147483648, 4294967296, 8589934592, 17179869184, 34359738368, 68719476736, 137438953472, 274877906944, 549755813888, 1056006543753, 730107360018, 118834127661, 236335490938, 430795026429]
theorem hlt : ∀ v, lin C v < 2 ^ 15 := lin_lt C (by decide)
theorem p0 : IsPow (lin C) 15 1 P0 := fun _ _ => rfl
theorem p1 : IsPow (lin C) 15 2 P1 := IsPow.mul' (a := 1) (b := 1) hlt p0 p0 (by decide +kernel)
theorem p2 : IsPow (lin C) 15 4 P2 := IsPow.mul' (a := 2) (b := 2) hlt p1 p1 (by decide +kernel)
theorem p3 : IsPow (lin C) 15 8 P3 := IsPow.mul' (a := 4) (b := 4) hlt p2 p2 (by decide +kernel)
theorem p4 : IsPow (lin C) 15 16 P4 := IsPow.mul' (a := 8) (b := 8) hlt p3 p3 (by decide +kernel)
theorem p5 : IsPow (lin C) 15 32 P5 := IsPow.mul' (a := 16) (b := 16) hlt p4 p4 (by decide +kernel)
theorem p6 : IsPow (lin C) 15 64 P6 := IsPow.mul' (a := 32) (b := 32) hlt p5 p5 (by decide +kernel)
theorem p7 : IsPow (lin C) 15 128 P7 := IsPow.mul' (a := 64) (b := 64) hlt p6 p6 (by decide +kernel)
theorem p8 : IsPow (lin C) 15 256 P8 := IsPow.mul' (a := 128) (b := 128) hlt p7 p7 (by decide +kernel)
theorem p9 : IsPow (lin C) 15 512 P9 := IsPow.mul' (a := 256) (b := 256) hlt p8 p8 (by decide +kernel)
theorem p10 : IsPow (lin C) 15 1024 P10 := IsPow.mul' (a := 512) (b := 512) hlt p9 p9 (by decide +kernel)
theorem p11 : IsPow (lin C) 15 2048 P11 := IsPow.mul' (a := 1024) (b := 1024) hlt p10 p10 (by decide +kernel)
theorem p12 : IsPow (lin C) 15 4096 P12 := IsPow.mul' (a := 2048) (b := 2048) hlt p11 p11 (by decide +kernel)
theorem p13 : IsPow (lin C) 15 8192 P13 := IsPow.mul' (a := 4096) (b := 4096) hlt p12 p12 (by decide +kernel)
theorem p14 : IsPow (lin C) 15 16384 P14 := IsPow.mul' (a := 8192) (b := 8192) hlt p13 p13 (by decide +kernel)
theorem plast : IsPow (lin C) 15 (2 ^ 15) C := IsPow.mul' (a := 16384) (b := 16384) hlt p14 p14 (by decide +kernel)
noncomputable def S_5 : List Nat := [11233, 21218, 1252, 2504, 5008, 32098, 24260, 7336, 14672, 29321, 12206, 23164, 5617, 11211, 21174]
theorem tS_5 : IsPow (lin C) 15 1056 S_5 := IsPow.mul' (a := 1024) (b := 32) hlt p10 p5 (by decide +kernel)
theorem tS : IsPow (lin C) 15 1057 S := IsPow.mul' (a := 1056) (b := 1) hlt tS_5 p0 (by decide +kernel)
noncomputable def R0 : List Nat := [11233, 21218, 1252, 2504, 5008, 32098, 24260, 7336, 14672, 29321, 12206, 23164, 5617, 11211, 21174]
theorem tR0 : IsPow (lin C) 15 1056 R0 := IsPow.mul' (a := 1024) (b := 32) hlt p10 p5 (by decide +kernel)
noncomputable def R1_5 : List Nat := [11233, 21218, 1252, 2504, 5008, 32098, 24260, 7336, 14672, 29321, 12206, 23164, 5617, 11211, 21174]
theorem tR1_5 : IsPow (lin C) 15 1056 R1_5 := IsPow.mul' (a := 1024) (b := 32) hlt p10 p5 (by decide +kernel)
noncomputable def R1 : List Nat := [3, 6, 12, 24, 25, 96, 192, 384, 768, 800, 3072, 6144, 12288, 24576, 25600]
theorem tR1 : IsPow (lin C) 15 1057 R1 := IsPow.mul' (a := 1056) (b := 1) hlt tR1_5 p0 (by decide +kernel)
noncomputable def R2_5 : List Nat := [11233, 21218, 1252, 2504, 5008, 32098, 24260, 7336, 14672, 29321, 12206, 23164, 5617, 11211, 21174]
theorem tR2_5 : IsPow (lin C) 15 1056 R2_5 := IsPow.mul' (a := 1024) (b := 32) hlt p10 p5 (by decide +kernel)
noncomputable def R2 : List Nat := [1405, 2771, 4271, 8542, 17045, 12168, 23088, 5481, 10962, 20653, 28778, 17620, 11649, 23298, 5924]
theorem tR2 : IsPow (lin C) 15 1058 R2 := IsPow.mul' (a := 1056) (b := 2) hlt tR2_5 p1 (by decide +kernel)
noncomputable def F0 : List Nat := [1, 2, 4, 8, 16, 11233, 21218, 1252, 2504, 5008, 11905, 22562, 5188, 10376, 20752, 7129, 12987, 24703, 25815, 28039, 30593, 20002, 15716, 31432, 21680, 16306, 31341, 22010, 4061, 6835, 8329, 16658, 9741, 18746, 13917, 5450, 10900, 20513, 1090, 2180]
noncomputable def F1 : List Nat := [1, 2, 4, 8, 16, 3, 6, 12, 24, 25, 5, 10, 20, 1, 2, 15, 30, 21, 3, 6, 17, 11, 22, 5, 10, 26, 29, 19, 15, 30, 7, 14, 28, 17, 11, 9, 18, 13, 26, 29]
noncomputable def F2 : List Nat := [1, 2, 4, 8, 16, 1405, 2771, 4271, 8542, 17045, 22809, 5659, 10559, 21079, 1447, 12821, 24867, 26182, 28076, 32600, 29033, 18130, 11437, 22874, 5789, 6894, 12540, 25041, 26507, 28214, 25099, 25910, 28229, 32170, 24404, 12923, 25087, 26583, 28327, 31854]
theorem f0 : mmul F0 Tc = mmul R0 F0 := by decide +kernel
theorem f1 : mmul F1 Tc = mmul R1 F1 := by decide +kernel
theorem f2 : mmul F2 Tc = mmul R2 F2 := by decide +kernel
theorem hpows : IsPows (lin C) 15 1 pows := ⟨p0, p1, p2, p3, p4, p5, p6, p7, p8, p9, p10, p11, p12, p13, p14, trivial⟩
theorem hseq : chain C 1 seq = true := by decide +kernel
theorem hzs : zck pows (2 ^ 15) zs xs = true := by decide +kernel
noncomputable def pk : Nat := 0x6f8052d05a0da9ea0232c62af049afbda11ebce20baafeeaecd477d842aa7b97b905163d4d537c096834046af05ed03882dd5f7d87dcbc58e6f834042f68b757fb946f817b4fee42f682f68000
noncomputable def z (d : Nat) : Nat := Nat.mod (Nat.shiftRight pk (Nat.mul 15 d)) 32768
theorem zz : ∀ d, 0 < d → d ≤ 40 → z d = zs.getD (d - 1) 0 := fun d h0 h1 => by have : ∀ d, d < 41 → 0 < d → z d = zs.getD (d - 1) 0 := (by decide +kernel); exact this d (by (first | lia | omega)) h0
theorem fld : Fld (lin C) 15 1057 40 z := Fld.congr zz (fld_of (seq := seq) (orb := orb) (B := B) (Bi := Bi) (inv := inv) (S := S) (by decide) (by decide) hpows rfl plast (by decide +kernel) tS (by decide) (by decide) hseq (by decide +kernel) (by decide +kernel) (fun e h0 h1 => by have : ∀ e, e < 32 → 0 < e → e ∈ 1 :: orb := (by decide +kernel); exact this e h1 h0) (by decide +kernel) (by decide +kernel) (by decide +kernel) (by decide +kernel) (by decide +kernel) hzs (by decide +kernel))
theorem hchk : chk2 1057 1056 40 z = true := by decide +kernel
theorem dist {es : List Nat} (hes : ∀ e ∈ es, e < 32) (hlen : es.length + 2 ≤ 40) (h : syn (lin Tc) es = 0) (hw : (es.filter (· ≠ 0)).length < 5) : ∀ e ∈ es, e = 0 :=
  code_dist (b := 40) fld (by decide) hchk (by decide) (by decide) f0 f1 f2 tR0 tR1 tR2 (by decide) (by decide) (by decide) (by decide +kernel) (by decide +kernel) (by decide +kernel) hes hlen h hw
end Dc
end Mine

namespace Mine
noncomputable abbrev KK (w : World) : Frag := Mine.hd.heap_1 w.params
noncomputable abbrev PG : Program := PySem.Challenge.rw_ai0020_01.row.prog

/-- what the walk leans on in a heap -/
structure Cx (w : World) (p : Program) (loose : List Str) (mg mb : Str → Option Value) (h : Heap) : Prop where
  K : (Mine.hd.heap_1 w.params).In h
  T : TopRead p loose mg mb h
noncomputable abbrev Ext (h h' : Heap) : Prop := ∀ b o, h.get? b = some o → h'.get? b = some o
theorem Cx.keeps {w : World} {p : Program} {loose : List Str} {mg mb : Str → Option Value} {h h' : Heap} (C : Cx w p loose mg mb h) (k : Ext h h') : Cx w p loose mg mb h' := ⟨C.K.keeps k, C.T.keeps k⟩
theorem Cx.fr {w : World} {p : Program} {loose : List Str} {mg mb m : Str → Option Value} {h h' : Heap} {L : Addr} (C : Cx w p loose mg mb h) (F : Fr h L h' m) : Cx w p loose mg mb h' := C.keeps F.keep

section
variable {w : World} {A : Around} {E : Value → Shared → Prop} {s : Shared} {p : Program} {loose : List Str} {mg mb : Str → Option Value} {Q : Value → Shared → Prop}
/-- a def is entered; its body must not raise -/
theorem enter {name qual : Str} {params : Arguments} {body : List Stmt} {scope : Scope} {dV kV doc pm cdv ct oc : Value} {an od : Option Addr} {osl : Array (Option Value)} {f : Addr} {args : List Value} {binds : List (Str × Value)}
    (C : Cx w p loose mg mb s.heap) (hroom : A.depth < recursionLimit)
    (ho : (KK w).lookup f = some ⟨oc, od, .func (fnOf name qual params body scope dV kV doc pm an cdv ct), osl⟩) (hcd : codeIn (KK w) cdv qual = true)
    (hbind : BindsTo s (fnOf name qual params body scope dV kV doc pm an cdv ct) ⟨args, []⟩ binds) (hloc : ∀ y ∈ binds, scope.names.lookup y.1 = some .local)
    (h : ∀ h₁ L, Fr s.heap L h₁ (fun y => binds.reverse.lookup y) → News s.heap L h₁ [] → (Mine.hd.heap_1 w.params).In s.heap → TopRead p loose mg mb s.heap →
      wpAny (model PySem.Challenge.rw_ai0020_01.row.prog w) (A.deeper (envOf qual scope L f cdv)) (execs body (envOf qual scope L f cdv))
        (fun fl s' => Q (match fl with | .ret v => v | _ => .none) s') (fun _ _ => False) { s with heap := h₁, toks := s.toks + binds.length })
    (hco : scope.isCoroutine = false) (hgen : scope.isGenerator = false) (hk : scope.kind = .function) (hcell : ∀ x ∈ scope.names, x.2 ≠ .cell) :
    wpAny (model PG w) A (call (.ref f) args) Q E s := by
  refine wpAny_call ?_
  refine codeAny_call_def (fd := fnOf name qual params body scope dV kV doc pm an cdv ct) (body := body) (binds := binds) hroom (C.K _ _ ho) rfl C.T.nolimit (codeRec_of C.K hcd) rfl hbind hcell hloc (fun h₁ hns hk₁ => ?_) hco hgen hk
  exact wpAny_mono (h h₁ s.heap.objs.size ⟨hns, hk₁, Nat.le_refl _⟩ News.nil C.K C.T) (fun _ _ x => x) (fun _ _ x => x.elim)
end
end Mine

namespace Mine
noncomputable abbrev NatsAre (vs : List Value) (ns : List Nat) : Prop := IntsAre vs (ns.map fun n : Nat => (n : Int))
section
variable {prog : Program} {w : World} {A : Around} {E : Value → Shared → Prop} {s : Shared} {Q : Value → Shared → Prop} {a b : Int} {t u : Tok} {m k : Nat}
theorem bA (m k : Nat) : Builtin.bitAnd (m : Int) (k : Int) = ((m &&& k : Nat) : Int) := by rw [bitAnd_pp (by (first | lia | omega)) (by (first | lia | omega))]; simp
theorem nat_xor_add (m : Nat) : ∀ n : Nat, (m ^^^ n) + 2 * (m &&& n) = m + n := by
  induction m using Nat.strongRecOn with
  | ind m ih =>
    intro n
    by_cases h0 : m = 0
    · subst h0; simp
    · have ih' := ih (m / 2) (by (first | lia | omega)) (n / 2)
      rw [← Nat.xor_div_two, ← Nat.and_div_two] at ih'
      have o1 := @Nat.xor_mod_two_eq_one m n
      have a1 := @Nat.and_mod_two_eq_one m n
      (first | lia | omega)
theorem bX (m k : Nat) : Builtin.bitXor (m : Int) (k : Int) = ((m ^^^ k : Nat) : Int) := by
  rw [bitXor_and, bA]
  have := nat_xor_add m k
  (first | lia | omega)
theorem bO (m k : Nat) : Builtin.bitOr (m : Int) (k : Int) = ((m ||| k : Nat) : Int) := by
  rw [bitOr_and, bA]
  have := nat_or_add_and m k
  (first | lia | omega)
theorem and_nat (ha : a = (m : Int)) (hb : b = (k : Int)) (h : Q (.int ((m &&& k : Nat) : Int) s.toks) { s with toks := s.toks + 1 }) : wpAny (model prog w) A (binaryOp .BitAnd (.int a t) (.int b u)) Q E s := by
  subst ha hb; refine and_int ?_; rw [bA]; exact h
theorem xor_nat (ha : a = (m : Int)) (hb : b = (k : Int)) (h : Q (.int ((m ^^^ k : Nat) : Int) s.toks) { s with toks := s.toks + 1 }) : wpAny (model prog w) A (binaryOp .BitXor (.int a t) (.int b u)) Q E s := by
  subst ha hb; refine xor_int ?_; rw [bX]; exact h
theorem ixor_nat (ha : a = (m : Int)) (hb : b = (k : Int)) (h : Q (.int ((m ^^^ k : Nat) : Int) s.toks) { s with toks := s.toks + 1 }) : wpAny (model prog w) A (inplaceOp .BitXor (.int a t) (.int b u)) Q E s := by
  subst ha hb; refine ixor_int ?_; rw [bX]; exact h
theorem or_nat (ha : a = (m : Int)) (hb : b = (k : Int)) (h : Q (.int ((m ||| k : Nat) : Int) s.toks) { s with toks := s.toks + 1 }) : wpAny (model prog w) A (binaryOp .BitOr (.int a t) (.int b u)) Q E s := by
  subst ha hb; refine or_int ?_; rw [bO]; exact h
theorem shr_nat (ha : a = (m : Int)) (hb : b = (k : Int)) (h : Q (.int ((m >>> k : Nat) : Int) s.toks) { s with toks := s.toks + 1 }) : wpAny (model prog w) A (binaryOp .RShift (.int a t) (.int b u)) Q E s := by
  subst ha hb; refine rshift_int (by (first | lia | omega)) ?_
  have : (m : Int).fdiv (2 ^ (k : Int).toNat) = ((m >>> k : Nat) : Int) := by
    rw [Nat.shiftRight_eq_div_pow, Int.fdiv_eq_ediv_of_nonneg _ (by exact Int.le_of_lt (Int.pow_pos (by decide)))]
    simp
  rw [this]; exact h
theorem shr_intP (ha : a = (m : Int)) (hb : 0 ≤ b) (h : Q (.int ((m >>> b.toNat : Nat) : Int) s.toks) { s with toks := s.toks + 1 }) : wpAny (model prog w) A (binaryOp .RShift (.int a t) (.int b u)) Q E s := by
  obtain ⟨k, rfl⟩ : ∃ k : Nat, b = (k : Int) := ⟨b.toNat, by (first | lia | omega)⟩
  exact shr_nat ha rfl (by simpa using h)
theorem shl_nat (ha : a = (m : Int)) (hb : b = (k : Int)) (hm : m < 2 ^ 64) (hk : k ≤ 1000000) (h : Q (.int ((m <<< k : Nat) : Int) s.toks) { s with toks := s.toks + 1 }) : wpAny (model prog w) A (binaryOp .LShift (.int a t) (.int b u)) Q E s := by
  subst ha hb; refine lshift_int_small (by (first | lia | omega)) (by (first | lia | omega)) (by simpa using hm) ?_
  have : (m : Int) * 2 ^ (k : Int).toNat = ((m <<< k : Nat) : Int) := by rw [Nat.shiftLeft_eq]; simp
  rw [this]; exact h
end
theorem cast_inj {a b : List Nat} (h : a.map (fun n : Nat => (n : Int)) = b.map (fun n : Nat => (n : Int))) : a = b :=
  (List.map_inj_right fun x y e => by (first | lia | omega)).mp h
theorem and1_of {x : Nat} (h : ((x &&& 1 : Nat) : Int) ≠ 0) : x &&& 1 = 1 := by
  have h1 := Nat.and_one_is_mod x
  rcases Nat.mod_two_eq_zero_or_one x with h2 | h2
  · rw [h1, h2] at h; exact absurd rfl h
  · rw [h1, h2]
theorem and1_not {x : Nat} (h : ¬ ((x &&& 1 : Nat) : Int) ≠ 0) : ¬ x &&& 1 = 1 := fun e => h (by rw [e]; decide)
end Mine

namespace Mine
/-- two lists side by side -/
inductive All2 {α β : Type} (R : α → β → Prop) : List α → List β → Prop
  | nil : All2 R [] []
  | cons {a b l k} : R a b → All2 R l k → All2 R (a :: l) (b :: k)
theorem All2.length {α β : Type} {R : α → β → Prop} {l : List α} {k : List β} (h : All2 R l k) : l.length = k.length := by
  induction h with
  | nil => rfl
  | cons _ _ ih => simp [ih]
theorem All2.ints {ns : List Int} {vs : List Value} (h : All2 (fun n v => ∃ t, v = .int n t) ns vs) : IntsAre vs ns := by
  induction h with
  | nil => exact .nil
  | cons hr _ ih => obtain ⟨t, rfl⟩ := hr; exact .cons _ _ ih
theorem All2.strs {ns : List Str} {vs : List Value} (h : All2 (fun n v => ∃ t, v = .str n t) ns vs) : StrsAre vs ns := by
  induction h with
  | nil => exact .nil
  | cons hr _ ih => obtain ⟨t, rfl⟩ := hr; exact .cons _ _ ih
theorem All2.nats {ns : List Nat} {vs : List Value} (h : All2 (fun (n : Nat) v => ∃ t, v = .int (n : Int) t) ns vs) : NatsAre vs ns := by
  induction h with
  | nil => exact .nil
  | cons hr _ ih => obtain ⟨t, rfl⟩ := hr; exact .cons _ _ ih
theorem All2.map {α β γ : Type} {R : γ → β → Prop} {f : α → γ} {l : List α} {k : List β} (h : All2 (fun a b => R (f a) b) l k) : All2 R (l.map f) k := by
  induction h with
  | nil => exact .nil
  | cons hr _ ih => exact .cons hr ih
theorem All2.imp {α β : Type} {R R' : α → β → Prop} {l : List α} {k : List β} (h : All2 R l k) (hi : ∀ a ∈ l, ∀ b, R a b → R' a b) : All2 R' l k := by
  induction h with
  | nil => exact .nil
  | cons hr _ ih => exact .cons (hi _ (.head _) _ hr) (ih fun a ha => hi a (.tail _ ha))
/-- what the library pairs, brought to the items -/
theorem all2_of {α : Type} {items : List α} {Is : α → Value → Prop} {R : α → Value → Prop} {F : Value → Value → Prop} {vs ys : List Value} (hlen : vs.length = items.length)
    (hP : ∀ (j : Nat) v, vs[j]? = some v → ∃ a, items[j]? = some a ∧ Is a v) (hF : ∀ a ∈ items, ∀ v y, Is a v → F v y → R a y) (h : Paired F vs ys) : All2 R items ys := by
  induction h generalizing items with
  | nil =>
    cases items with
    | nil => exact .nil
    | cons _ _ => cases hlen
  | cons hr _ ih =>
    cases items with
    | nil => cases hlen
    | cons a r =>
      refine .cons ?_ (ih (by simpa using hlen) (fun j v hv => ?_) fun a' ha' => hF a' (.tail _ ha'))
      · obtain ⟨a', e, hi⟩ := hP 0 _ rfl
        cases e
        exact hF a (.head _) _ _ hi hr
      · exact hP (j + 1) v hv

section
variable {prog : Program} {w : World} {A : Around} {E : Value → Shared → Prop} {s : Shared} {env : Env}
/-- what the library asks of the iterator of a comprehension -/
noncomputable abbrev LcAt (prog : Program) (w : World) (A : Around) (env : Env) (x : Str) (scope : Scope) (cl : List (Str × Addr)) (ifs : List Expr) (elt : Expr) (p : Value → Bool) (F : Value → Value → Prop) (Q : Value → Shared → Prop) (it : Value) (s₂ : Shared) : Prop :=
  ∃ I fp wr n P St, it = .ref I ∧ Walks prog w A I fp wr n P St ∧ n ≤ sizeLine ∧ St 0 s₂.heap ∧ (∀ b ∈ fp, b < s₂.heap.objs.size) ∧
      QuietOnC prog w A env scope cl x ifs elt wr P p F s₂ ∧
      (∀ D h' tk ys (vs : List Value), s₂.heap.get? D = none → h'.IsList D ys → h'.PlainList D ys → vs.length = n → (∀ j v, vs[j]? = some v → P j v) → Paired F (vs.filter p) ys.toList →
        (∀ b o, b ∉ wr → s₂.heap.get? b = some o → h'.get? b = some o) → Q (.ref D) { s₂ with heap := h', toks := tk })

theorem lc_core {α : Type} {items : List α} {x : Str} {scope : Scope} {cl : List (Str × Addr)} {elt : Expr} {Q : Value → Shared → Prop} {o : Obj} {P : Nat → Value → Prop} {St : Nat → Heap → Prop} {fp : List Addr}
    (Is : α → Value → Prop) (R : α → Value → Prop) (hu : ∀ a a' v, Is a v → Is a' v → a = a')
    (W : Walks prog w A s.heap.objs.size fp [s.heap.objs.size] items.length P St) (hsz : items.length ≤ sizeLine) (hst : St 0 (s.heap.push o)) (hfp : ∀ b ∈ fp, b < (s.heap.push o).objs.size)
    (hP : ∀ i v, P i v → ∃ a, items[i]? = some a ∧ Is a v)
    (turn : ∀ C a v (s₃ : Shared) m₃ E', a ∈ items → Is a v → Fr s.heap C s₃.heap m₃ → News s.heap C s₃.heap [] → m₃ x = some v →
      wpAny (model prog w) A (eval elt (compEnvC scope cl C env)) (fun y s₄ => R a y ∧ Keeps s₃ s₄) E' s₃)
    (fin : ∀ D h' tk (ys : List Value) n, s.heap.get? D = none → h'.get? D = some (listOf ys.toArray n) → All2 R items ys → Ext s.heap h' → Q (.ref D) { s with heap := h', toks := tk }) :
    LcAt prog w A env x scope cl [] elt (fun _ => true) (fun v y => ∀ a, Is a v → R a y) Q (.ref s.heap.objs.size) { s with heap := s.heap.push o } := by
  have keep₂ : ∀ b o', s.heap.get? b = some o' → (s.heap.push o).get? b = some o' := fun b o' e => Heap.get?_push_of_some _ e
  have ne : ∀ b o', s.heap.get? b = some o' → b ∉ [s.heap.objs.size] := fun b o' e hm => Nat.lt_irrefl _ (List.mem_singleton.mp hm ▸ Heap.lt_size e)
  refine ⟨_, _, _, _, _, _, rfl, W, hsz, hst, hfp, ⟨?_, ?_⟩, ?_⟩
  · intro C i v s₃ m₃ E' _ _ _ _ _ _
    exact wpAny_tests_nil ⟨rfl, s₃.heap, s₃.toks, rfl, fun _ _ e => e⟩
  · intro C i v s₃ m₃ E' hC hv _ hn hm hk _
    obtain ⟨a, ha, hi⟩ := hP i v hv
    have hC' : s.heap.objs.size ≤ C := Nat.le_trans (by show s.heap.objs.size ≤ (s.heap.push o).objs.size; rw [Heap.size_push]; exact Nat.le_succ _) hC
    refine wpAny_mono (turn C a v s₃ m₃ E' (List.mem_of_getElem? ha) hi ⟨hn, fun b o' e => hk b o' (ne b o' e) (keep₂ b o' e), hC'⟩ News.nil hm) (fun y s₄ hy => ⟨fun a' hi' => hu a a' v hi hi' ▸ hy.1, hy.2⟩) fun _ _ e => e
  · intro D h' tk ys vs hD _ hpl hlen hvs hF hk
    obtain ⟨n, hD'⟩ := hpl
    have hD0 : s.heap.get? D = none := by
      cases e : s.heap.get? D with
      | none => rfl
      | some o' => have := keep₂ D o' e; rw [hD] at this; cases this
    have hft : vs.filter (fun _ => true) = vs := List.filter_eq_self.mpr fun _ _ => rfl
    rw [hft] at hF
    have h2 := all2_of (items := items) (Is := Is) (R := R) hlen (fun j v hv => hP j v (hvs j v hv)) (fun a _ v y hi hf => hf a hi) hF
    exact fin D h' tk ys.toList n hD0 (by simpa using hD') h2 fun b o' e => hk b o' (ne b o' e) (keep₂ b o' e)
theorem ListComp_at {elt iter : Expr} {x : Str} {px : Pos} {scope : Scope} {cl : List (Str × Addr)} {ifs : List Expr} {pos : Pos} {Q : Value → Shared → Prop} (p : Value → Bool) (F : Value → Value → Prop)
    (hclos : closureFor scope env = pure cl) (hcell : ∀ y ∈ scope.names, y.2 ≠ .cell) (hkind : scope.kind = .function)
    (hnames : ∀ y ∈ scope.names, y.2 = .local → scope.names.lookup y.1 = some .local) (hx : scope.names.lookup x = some .local)
    (h : wpAny (model prog w) A (eval iter env) (fun xv s₁ => wpAny (model prog w) A (pyIter xv) (LcAt prog w A env x scope cl ifs elt p F Q) E s₁) E s)
    (hs : ∀ x, foldedSetIterable iter env x = pure x) :
    wpAny (model prog w) A (eval (.ListComp elt [⟨.Name x px, iter, ifs, 0⟩] scope pos) env) Q E s :=
  wpAny_ListComp_free p F hclos hcell hkind hnames hx h hs

noncomputable abbrev FS (R : Nat → Value → Prop) (v y : Value) : Prop := ∀ a : Nat, (∃ u, v = .str ⟨#[a]⟩ u) → R a y
noncomputable abbrev FI (R : Int → Value → Prop) (v y : Value) : Prop := ∀ a : Int, (∃ u, v = .int a u) → R a y
theorem lc_str {x : Str} {scope : Scope} {cl : List (Str × Addr)} {elt : Expr} {Q : Value → Shared → Prop} {xt : Str} {t : Tok} (R : Nat → Value → Prop) (hh : A.handled = none) (hsz : xt.cps.size ≤ sizeLine)
    (turn : ∀ C c u (s₃ : Shared) m₃ E', c ∈ xt.cps.toList → Fr s.heap C s₃.heap m₃ → News s.heap C s₃.heap [] → m₃ x = some (.str ⟨#[c]⟩ u) →
      wpAny (model prog w) A (eval elt (compEnvC scope cl C env)) (fun y s₄ => R c y ∧ Keeps s₃ s₄) E' s₃)
    (fin : ∀ D h' tk (ys : List Value) n, s.heap.get? D = none → h'.get? D = some (listOf ys.toArray n) → All2 R xt.cps.toList ys → Ext s.heap h' → Q (.ref D) { s with heap := h', toks := tk }) :
    wpAny (model prog w) A (pyIter (.str xt t)) (LcAt prog w A env x scope cl [] elt (fun _ => true) (FS R) Q) E s := by
  refine wpAny_pyIter_str fun o St hW hst => ?_
  have W := hW A hh
  have e : xt.cps.size = xt.cps.toList.length := by simp
  rw [e] at W hsz
  refine lc_core (fun a v => ∃ u, v = .str ⟨#[a]⟩ u) R (fun a a' v h1 h2 => ?_) W hsz hst (fun b hb => ?_) (fun i v hv => ?_) (fun C a v s₃ m₃ E' ha hi F N hm => ?_) fin
  · obtain ⟨u, rfl⟩ := h1
    obtain ⟨u', e'⟩ := h2
    cases e'; rfl
  · rw [List.mem_singleton.mp hb, Heap.size_push]; exact Nat.lt_succ_self _
  · obtain ⟨c, u, hc, rfl⟩ := hv
    exact ⟨c, by rw [Array.getElem?_toList]; exact hc, u, rfl⟩
  · obtain ⟨u, rfl⟩ := hi
    exact turn C a u s₃ m₃ E' ha F N hm
end
section
variable {M : Model} {A : Around} {E : Value → Shared → Prop} {s : Shared} {env : Env} {g : Heap} {C : Addr} {m mg mb : Str → Option Value} {p : Program} {loose : List Str} {x : Str} {pos : Pos} {v : Value} {Q : Value → Shared → Prop}
/-- names inside a comprehension -/
theorem cn_local {scope : Scope} {cl : List (Str × Addr)} (F : Fr g C s.heap m) (hv : m x = some v) (h : Q v s) (hk : (compEnvC scope cl C env).scope.kind = .function) (hl : (compEnvC scope cl C env).kindOf x = some .local) (hd : (x == ("__debug__" : Str)) = false) :
    wpAny M A (eval (.Name x pos) (compEnvC scope cl C env)) Q E s := wpAny_Name (wpAny_loadName_local (env := compEnvC scope cl C env) hk hl F.ns hv h) hd
theorem cn_builtin {scope : Scope} {cl : List (Str × Addr)} {K : Frag} (F : Fr g C s.heap m) (X : K.In g) (T : TopRead p loose mg mb g) (e : nsIn K mainGlobals x = some none) (hv : bootBuiltins x = some v) (hn : x ≠ "__name__") (h : Q v s)
    (hg : env.globals = mainGlobals) (hb : env.builtins = builtinsNs) (hk : (compEnvC scope cl C env).scope.kind = .function) (hx : (compEnvC scope cl C env).kindOf x = some .globalImplicit) (hd : (x == ("__debug__" : Str)) = false) :
    wpAny M A (eval (.Name x pos) (compEnvC scope cl C env)) Q E s :=
  Name_function_global hk hx (loadGlobal_builtin (env := compEnvC scope cl C env) (mg := mg) (mb := mb) (by show s.heap.Ns env.globals mg; rw [hg]; exact T.g.keeps F.keep) (mg_none_of X T.g e) (by show s.heap.Ns env.builtins mb; rw [hb]; exact T.b.keeps F.keep) ((T.builtins x hn).trans hv) h) hd
theorem cn_global {scope : Scope} {cl : List (Str × Addr)} {K : Frag} (F : Fr g C s.heap m) (X : K.In g) (T : TopRead p loose mg mb g) (e : nsIn K mainGlobals x = some (some v)) (h : Q v s)
    (hg : env.globals = mainGlobals) (hk : (compEnvC scope cl C env).scope.kind = .function) (hx : (compEnvC scope cl C env).kindOf x = some .globalImplicit) (hd : (x == ("__debug__" : Str)) = false) :
    wpAny M A (eval (.Name x pos) (compEnvC scope cl C env)) Q E s := nameG_K F X T e h hg hk hx hd
theorem keeps_of {s₃ : Shared} {h' : Heap} {tk : Nat} (F : Fr s₃.heap C h' m) : Keeps s₃ { s₃ with heap := h', toks := tk } := ⟨h', tk, rfl, F.keep⟩
theorem keeps_self {s₃ : Shared} {tk : Nat} : Keeps s₃ { s₃ with toks := tk } := ⟨s₃.heap, tk, rfl, fun _ _ e => e⟩
end
theorem led_fr {g h h' : Heap} {L : Addr} {m : Str → Option Value} (F : Fr g L h m) (hk : Ext h h') : Fr g L h' m := F.keeps hk
theorem led_add {g h h' : Heap} {L D : Addr} {m : Str → Option Value} {o : Obj} {news : List (Addr × Obj)} (F : Fr g L h m) (N : News g L h news) (hk : Ext h h') (hD0 : h.get? D = none) (hD : h'.get? D = some o) : News g L h' ((D, o) :: news) := fun p hp => by
  rcases List.mem_cons.mp hp with rfl | hp
  · refine ⟨hD, fun e => ?_, ?_⟩
    · obtain ⟨oL, _, _, e1, _⟩ := F.ns
      have e' : D = L := e
      rw [← e', hD0] at e1; cases e1
    · cases e : g.get? D with
      | none => rfl
      | some o' => have := F.keep D o' e; rw [hD0] at this; cases this
  · exact ⟨hk _ _ (N p hp).1, (N p hp).2⟩
theorem led_keep {g h h' : Heap} {L : Addr} {news : List (Addr × Obj)} (N : News g L h news) (hk : Ext h h') : News g L h' news := fun p hp => ⟨hk _ _ (N p hp).1, (N p hp).2⟩
theorem All2.natsOf {α : Type} {f : α → Nat} {l : List α} {vs : List Value} (h : All2 (fun a v => ∃ t : Tok, v = Value.int ((f a : Nat) : Int) t) l vs) : NatsAre vs (l.map f) :=
  All2.nats (All2.map (R := fun (n : Nat) (v : Value) => ∃ t : Tok, v = Value.int (n : Int) t) h)
theorem All2.intsOf {α : Type} {f : α → Int} {l : List α} {vs : List Value} (h : All2 (fun a v => ∃ t : Tok, v = Value.int (f a) t) l vs) : IntsAre vs (l.map f) :=
  All2.ints (All2.map (R := fun (n : Int) (v : Value) => ∃ t : Tok, v = Value.int n t) h)
theorem All2.strsOf {α : Type} {f : α → Str} {l : List α} {vs : List Value} (h : All2 (fun a v => ∃ t : Tok, v = Value.str (f a) t) l vs) : StrsAre vs (l.map f) :=
  All2.strs (All2.map (R := fun (n : Str) (v : Value) => ∃ t : Tok, v = Value.str n t) h)
section
variable {w : World} {A : Around} {E : Value → Shared → Prop} {s : Shared} {p : Program} {loose : List Str} {mg mb : Str → Option Value} {Q : Value → Shared → Prop}
/-- a def with captured names is entered; its body must not raise -/
theorem enterC {name qual : Str} {params : Arguments} {body : List Stmt} {scope : Scope} {dV kV doc pm cdv ct oc : Value} {an od : Option Addr} {osl : Array (Option Value)} {f : Addr} {args : List Value} {binds : List (Str × Value)}
    (C : Cx w p loose mg mb s.heap) (hroom : A.depth < recursionLimit)
    (ho : (KK w).lookup f = some ⟨oc, od, .func (fnOf name qual params body scope dV kV doc pm an cdv ct), osl⟩) (hcd : codeIn (KK w) cdv qual = true)
    (hbind : BindsTo s (fnOf name qual params body scope dV kV doc pm an cdv ct) ⟨args, []⟩ binds)
    (hkind : (binds.all fun y => scope.names.lookup y.1 == some .local || scope.names.lookup y.1 == some .cell) = true)
    (hnd : ((cellsFrom 0 scope.names []).map (·.1)).Nodup)
    (h : ∀ h₁ L tk cells, Fr s.heap L h₁ (bindL (envOfC qual scope L f cdv).kindOf binds fun _ => none) → News s.heap L h₁ cells → CellsAre (bindC (envOfC qual scope L f cdv).kindOf binds fun _ => none) (cellsFrom (L + 1) scope.names []) cells →
      (Mine.hd.heap_1 w.params).In s.heap → TopRead p loose mg mb s.heap →
      wpAny (model PySem.Challenge.rw_ai0020_01.row.prog w) (A.deeper (envOfC qual scope L f cdv)) (execs body (envOfC qual scope L f cdv))
        (fun fl s' => Q (match fl with | .ret v => v | _ => .none) s') (fun _ _ => False) { s with heap := h₁, toks := tk })
    (hco : scope.isCoroutine = false) (hgen : scope.isGenerator = false) (hk : scope.kind = .function) :
    wpAny (model PG w) A (call (.ref f) args) Q E s := by
  refine wpAny_call ?_
  refine codeAny_call_function hroom (C.K _ _ ho) rfl hco hgen rfl (codeRec_of C.K hcd) (hbind _ _ _ _ ?_)
  refine wpAny_newFunctionEnv_cells hk (kindsX hkind _) fun env' he s' x => ?_
  subst he
  refine ⟨C.T.nolimit.keeps x.toInCall.keep, codeAny_func ?_⟩
  obtain ⟨h₁, tk, rfl, _⟩ := x.done
  have hk₁ := x.toInCall.keep
  obtain ⟨cells, NC, Y⟩ := Cl.news (h₀ := s.heap) (Nat.le_refl _) fun n c hm => ⟨x.cell n c (lookup_of_mem_nodup (cellsFrom_names scope.names 0 (s.heap.objs.size + 1) [] [] rfl ▸ hnd) hm), x.above n c hm⟩
  exact wpAny_mono (h h₁ s.heap.objs.size tk cells ⟨x.toInCall.ns, hk₁, Nat.le_refl _⟩ NC Y C.K C.T) (fun _ _ x => x) (fun _ _ x => x.elim)
end
noncomputable abbrev FN (R : Nat → Value → Prop) (v y : Value) : Prop := ∀ a : Nat, (∃ u, v = .int (a : Int) u) → R a y
theorem All2.at {α β : Type} {R : α → β → Prop} {l : List α} {k : List β} (h : All2 R l k) : ∀ (i : Nat) b, k[i]? = some b → ∃ a, l[i]? = some a ∧ R a b := by
  induction h with
  | nil => intro i b e; simp at e
  | cons hr _ ih =>
    intro i b e
    cases i with
    | zero => simp at e; subst e; exact ⟨_, rfl, hr⟩
    | succ i => simpa using ih i b (by simpa using e)
section
variable {prog : Program} {w : World} {A : Around} {E : Value → Shared → Prop} {s : Shared} {env : Env}
theorem lc_range {x : Str} {scope : Scope} {cl : List (Str × Addr)} {elt : Expr} {Q : Value → Shared → Prop} {r : Addr} {n : Nat} {t u v : Tok} (R : Nat → Value → Prop) (hh : A.handled = none) (hr : IsRange s.heap r 0 (n : Int) 1 t u v) (hn : n ≤ 1000)
    (turn : ∀ C (k : Nat) u (s₃ : Shared) m₃ E', k < n → Fr s.heap C s₃.heap m₃ → News s.heap C s₃.heap [] → m₃ x = some (.int (k : Int) u) →
      wpAny (model prog w) A (eval elt (compEnvC scope cl C env)) (fun y s₄ => R k y ∧ Keeps s₃ s₄) E' s₃)
    (fin : ∀ D h' tk (ys : List Value) m, s.heap.get? D = none → h'.get? D = some (listOf ys.toArray m) → All2 R (List.range n) ys → Ext s.heap h' → Q (.ref D) { s with heap := h', toks := tk }) :
    wpAny (model prog w) A (pyIter (.ref r)) (LcAt prog w A env x scope cl [] elt (fun _ => true) (FN R) Q) E s := by
  refine wpAny_pyIter_range hr (small_one (by decide) (by decide) (by (first | lia | omega)) (by (first | lia | omega))) ?_
  have hsz : Builtin.Range.rangeSize 0 (n : Int) 1 = (n : Int) := by rw [rangeSize_nat]; (first | lia | omega)
  have W : Walks prog w A s.heap.objs.size [s.heap.objs.size] [s.heap.objs.size] n (fun i v => i < n ∧ ∃ t, v = .int (0 + i * 1) t)
      (fun i h => IsRangeIter h s.heap.objs.size (0 + (i : Nat) * 1) ((n : Int) - (i : Nat)) 1) := (Walks.range hh _ 0 1 n).bound
  have e : n = (List.range n).length := by simp
  refine lc_core (items := List.range n) (P := fun i v => i < n ∧ ∃ t, v = .int (0 + i * 1) t) (fun (a : Nat) v => ∃ u, v = .int (a : Int) u) R (fun a a' v h1 h2 => ?_) (by rw [← e]; exact W) (by rw [← e, sizeLine_eq]; (first | lia | omega)) (by show IsRangeIter _ _ _ _ _; rw [hsz]; simpa using Heap.get?_push_size _ rfl) (fun b hb => ?_) (fun i v hv => ?_) (fun C a v s₃ m₃ E' ha hi F N hm => ?_) fin
  · obtain ⟨u, rfl⟩ := h1
    obtain ⟨u', e'⟩ := h2
    injection e' with e1 _
    (first | lia | omega)
  · rw [List.mem_singleton.mp hb, Heap.size_push]; exact Nat.lt_succ_self _
  · obtain ⟨hi, t', rfl⟩ := hv
    exact ⟨i, by simp [hi], t', by congr 1; (first | lia | omega)⟩
  · obtain ⟨u, rfl⟩ := hi
    exact turn C a u s₃ m₃ E' (List.mem_range.mp ha) F N hm
theorem lc_list {α : Type} {items : List α} {x : Str} {scope : Scope} {cl : List (Str × Addr)} {elt : Expr} {Q : Value → Shared → Prop} {l : Addr} {its : List Value} (Is R : α → Value → Prop) (hu : ∀ a a' v, Is a v → Is a' v → a = a') (hh : A.handled = none)
    (hl : s.heap.IsList l its.toArray) (hI : All2 Is items its) (hn : items.length ≤ sizeLine)
    (turn : ∀ C a v (s₃ : Shared) m₃ E', a ∈ items → Is a v → Fr s.heap C s₃.heap m₃ → News s.heap C s₃.heap [] → m₃ x = some v →
      wpAny (model prog w) A (eval elt (compEnvC scope cl C env)) (fun y s₄ => R a y ∧ Keeps s₃ s₄) E' s₃)
    (fin : ∀ D h' tk (ys : List Value) m, s.heap.get? D = none → h'.get? D = some (listOf ys.toArray m) → All2 R items ys → Ext s.heap h' → Q (.ref D) { s with heap := h', toks := tk }) :
    wpAny (model prog w) A (pyIter (.ref l)) (LcAt prog w A env x scope cl [] elt (fun _ => true) (fun v y => ∀ a, Is a v → R a y) Q) E s := by
  refine wpAny_pyIter_list hl ?_
  have hlt : l < s.heap.objs.size := by obtain ⟨_, e, _⟩ := hl; exact Heap.lt_size e
  have W := Walks.list (prog := prog) (w := w) hh s.heap.objs.size l (Nat.ne_of_lt hlt) its.toArray
  have e : its.toArray.size = items.length := by rw [List.size_toArray]; exact hI.length.symm
  rw [e] at W
  refine lc_core (items := items) (P := fun i v => its.toArray[i]? = some v) Is R hu W hn ⟨⟨_, Heap.get?_push_size _ rfl, rfl, rfl⟩, hl.push _⟩ (fun b hb => ?_) (fun i v hv => hI.at i v (by simpa using hv)) turn fin
  rw [Heap.size_push]
  rcases List.mem_cons.mp hb with rfl | hb
  · exact Nat.lt_succ_self _
  · rw [List.mem_singleton.mp hb]; exact Nat.lt_succ_of_lt hlt
end
section
variable {M : Model} {A : Around} {E : Value → Shared → Prop} {s : Shared} {env : Env} {g : Heap} {C L c : Addr} {m : Str → Option Value} {x : Str} {pos : Pos} {v : Value} {Q : Value → Shared → Prop} {o oc : Obj} {news rest : List (Addr × Obj)}
theorem cn_cell {scope : Scope} {cl : List (Str × Addr)} (F : Fr g C s.heap m) (hc : cl.lookup x = some c) (ho : g.get? c = some o) (hd : o.data = .cell (some v)) (h : Q v s)
    (hk : (compEnvC scope cl C env).scope.kind = .function) (hx : (compEnvC scope cl C env).kindOf x = some .cell) (hb : (x == ("__debug__" : Str)) = false) :
    wpAny M A (eval (.Name x pos) (compEnvC scope cl C env)) Q E s := wpAny_Name (wpAny_loadName_cell hk hx hc ⟨o, F.keep _ _ ho, hd⟩ h) hb
/-- a store into a captured name; what of the ledger is kept is said -/
theorem st_cell {Q : Unit → Shared → Prop} {v₀ : Option Value} (hk : env.scope.kind = .function) (hl : env.kindOf x = some .cell) (hc : env.cells.lookup x = some c) (F : Fr g L s.heap m) (N : News g L s.heap news) (hm : (c, oc) ∈ news) (hd : oc.data = .cell v₀)
    (hr : ∀ p ∈ rest, p ∈ news ∧ p.1 ≠ c)
    (h : ∀ h' oc', oc'.data = .cell (some v) → Fr g L h' m → News g L h' ((c, oc') :: rest) → Q () { s with heap := h' }) : wpAny M A (storeName env x v) Q E s := by
  have hN := N _ hm
  refine wpAny_storeName_cell (v₀ := v₀) hk hl hc ⟨oc, hN.1, hd⟩ fun h' hi hs => ?_
  obtain ⟨oc', e, hd'⟩ := hi
  refine h h' oc' hd' ⟨?_, fun b o' e' => ?_, F.above⟩ fun p hp => ?_
  · exact F.ns.sameBut hs (Ne.symm hN.2.1)
  · have hne : b ≠ c := fun q => by rw [q, hN.2.2] at e'; cases e'
    exact (hs.2 b hne).trans (F.keep b o' e')
  · rcases List.mem_cons.mp hp with rfl | hp
    · exact ⟨e, hN.2.1, hN.2.2⟩
    · have q := hr p hp
      exact ⟨(hs.2 p.1 q.2).trans (N p q.1).1, (N p q.1).2⟩
end
end Mine

namespace Mine
noncomputable def one1 (f : Nat → Nat) (d : Nat) : Str := ⟨#[f d]⟩
theorem sum_ones (f : Nat → Nat) : ∀ ns : List Nat, ((ns.map (one1 f)).map (·.length)).sum = ns.length
  | [] => rfl
  | n :: ns => by simp only [List.map_cons, List.sum_cons, List.length_cons, sum_ones f ns]; show 1 + ns.length = _; (first | lia | omega)
theorem join_ones (f : Nat → Nat) (ns : List Nat) : Txt.join ⟨#[]⟩ (ns.map (one1 f)) = ⟨(ns.map f).toArray⟩ := by
  show Builtin.Str.glued _ _ = _
  rw [StrLaws.glued_eq_join]
  cases ns with
  | nil => rfl
  | cons n ns =>
    rw [List.map_cons, ← StrLaws.glued_cons]
    have h : ∀ (ns : List Nat) (a : Array Nat), (ns.map (one1 f)).foldl (fun acc p => acc ++ (#[] : Array Nat) ++ p.cps) a = a ++ (ns.map f).toArray := by
      intro ns
      induction ns with
      | nil => intro a; simp
      | cons m ns ih => intro a; rw [List.map_cons, List.foldl_cons, ih]; simp [one1]
    have := h ns #[f n]
    show (⟨_⟩ : Str) = _
    congr 1
    refine Eq.trans this ?_
    simp
section
variable {prog : Program} {w : World} {A : Around} {E : Value → Shared → Prop} {s : Shared} {Q : Value → Shared → Prop}
/-- ''.join over a list of one-sign texts -/
theorem join_chars {t : Tok} {D : Addr} {vs : List Value} {f : Nat → Nat} {ns : List Nat} (hl : s.heap.IsList D vs.toArray) (hi : StrsAre vs (ns.map (one1 f))) (hn : ns.length ≤ 1000000)
    (h : ∀ t' k, Q (.str ⟨(ns.map f).toArray⟩ t') { s with toks := k }) : wpAny (model prog w) A (call (.builtin "str.join") [.str ⟨#[]⟩ t, .ref D]) Q E s :=
  join_list hl (by simpa using hi) (by rw [sum_ones, List.length_map]; show ns.length + ns.length * 0 ≤ _; (first | lia | omega)) fun t' k => by rw [join_ones]; exact h t' k
theorem char_at {x : Str} {u tx : Tok} (i : Nat) (hi : i < x.cps.size) (hs : x.cps.size ≤ 1000) 
    (h : Q (.str ⟨#[x.cps.getD i 0]⟩ s.toks) { s with toks := s.toks + 1 }) : wpAny (model prog w) A (getItem (.str x tx) (.int (i : Int) u)) Q E s := by
  refine getItem_str (by simp; (first | lia | omega)) (c := x.cps.getD i 0) ?_ h
  have e : seqIndex? (i : Int) x.length = some i := by
    show seqIndex? (i : Int) x.cps.size = some i
    unfold seqIndex?
    simp
    (first | lia | omega)
  rw [e]
  simp [Array.getD, hi]
end
theorem All2.ofNats {ns : List Nat} {vs : List Value} (h : NatsAre vs ns) : All2 (fun (a : Nat) v => ∃ u, v = .int (a : Int) u) ns vs := by
  induction ns generalizing vs with
  | nil => cases h; exact .nil
  | cons n ns ih => cases h with | cons _ t h => exact .cons ⟨_, rfl⟩ (ih h)
theorem item_one (x : Str) (i : Nat) (hi : i < x.cps.size) : Txt.item x (i : Int) = one1 (fun d => x.cps.getD d 0) i := by
  unfold Txt.item one1
  congr 2
  have e : Txt.charAt x (i : Int) = some (x.cps.getD i 0) := by
    show (seqIndex? (i : Int) x.cps.size).bind (x.cps[·]?) = _
    have e2 : seqIndex? (i : Int) x.cps.size = some i := by unfold seqIndex?; simp; (first | lia | omega)
    rw [e2]; simp [Array.getD, hi]
  rw [e]; rfl
/-- how a while turn ends -/
noncomputable def WEnd {σ : Type} (h₀ : Heap) (L : Addr) (s : Shared) (Led : σ → List (Addr × Obj)) (ps : σ → List (Str × Value)) (P : Nat → σ → Prop) (m₀ : Str → Option Value) (n : Nat) (f : Flow) (s₃ : Shared) : Prop :=
  f = .next ∧ ∃ h' tk m₂ c n', s₃ = { s with heap := h', toks := tk } ∧ Fr h₀ L h' m₂ ∧ News h₀ L h' (Led c) ∧ n' < n ∧ P n' c ∧ (∀ p ∈ ps c, m₂ p.1 = some p.2) ∧ (∀ z, (∀ p ∈ ps c, z ≠ p.1) → m₂ z = m₀ z)
theorem WEnd.intro {σ : Type} {h₀ : Heap} {L : Addr} {s : Shared} {Led : σ → List (Addr × Obj)} {ps : σ → List (Str × Value)} {P : Nat → σ → Prop} {m₀ m₂ : Str → Option Value} {n tk : Nat} {h' : Heap} (c : σ) (n' : Nat)
    (F : Fr h₀ L h' m₂) (N : News h₀ L h' (Led c)) (hn : n' < n) (hp : P n' c) (hk : ∀ p ∈ ps c, m₂ p.1 = some p.2) (hs : ∀ z, (∀ p ∈ ps c, z ≠ p.1) → m₂ z = m₀ z) : WEnd h₀ L s Led ps P m₀ n .next { s with heap := h', toks := tk } :=
  ⟨rfl, h', tk, m₂, c, n', rfl, F, N, hn, hp, hk, hs⟩
section
variable {prog : Program} {w : World} {A : Around} {E : Value → Shared → Prop} {Q : Flow → Shared → Prop} {s : Shared} {env : Env} {h₀ : Heap} {L : Addr}
theorem While_k {σ : Type} {test : Expr} {body : List Stmt} {pos : Pos} {m₀ : Str → Option Value} (Led : σ → List (Addr × Obj)) (ps : σ → List (Str × Value)) (P : Nat → σ → Prop) (n₀ : Nat) (c₀ : σ)
    (F : Fr h₀ L s.heap m₀) (N : News h₀ L s.heap (Led c₀)) (hk : ∀ p ∈ ps c₀, m₀ p.1 = some p.2) (hp : P n₀ c₀)
    (turn : ∀ n c h tk, P n c → Fr h₀ L h (kstB m₀ (ps c)) → News h₀ L h (Led c) →
      wpAny (model prog w) A (isTrue test env (eval test env)) (fun b s₂ =>
        if b = true then wpAny (model prog w) A (execs body env) (WEnd h₀ L s Led ps P m₀ n) E s₂ else Q .next s₂) E { s with heap := h, toks := tk })
    (hE : PassesOwn (model prog w) A env E) :
    wpAny (model prog w) A (exec (.While test body [] pos) env) Q E s := by
  refine While_inv (fun n m nx => ∃ c : σ, nx = Led c ∧ P n c ∧ (∀ p ∈ ps c, m p.1 = some p.2) ∧ (∀ z, (∀ p ∈ ps c, z ≠ p.1) → m z = m₀ z)) F N ⟨c₀, rfl, hp, hk, fun _ _ => rfl⟩ ?_ hE
  rintro n m nx h tk F₁ N₁ ⟨c, rfl, hp', h1, h2⟩
  have em : kstB m₀ (ps c) = m := by
    funext z
    exact kstB_eq h1 fun hn => (h2 z hn).symm
  refine wpAny_mono (turn n c h tk hp' (em ▸ F₁) N₁) (fun b s₂ hb => ?_) fun _ _ x => x
  cases b with
  | false => exact hb
  | true =>
    simp only [if_true] at hb ⊢
    refine wpAny_mono hb (fun f s₃ h₃ => ?_) fun _ _ x => x
    obtain ⟨rfl, h', tk', m₂, c', n', e, F₂, N₂, hn, hp₂, hk₂, hs₂⟩ := h₃
    exact ⟨rfl, h', tk', m₂, _, n', e, F₂, N₂, hn, c', rfl, hp₂, hk₂, hs₂⟩
end
theorem News.at1 {g h : Heap} {L D : Addr} {o : Obj} {r : List (Addr × Obj)} (_ : News g L h ((D, o) :: r)) : ∃ D', D' = D := ⟨_, rfl⟩
section
variable {prog : Program} {w : World} {A : Around} {E : Value → Shared → Prop} {s : Shared} {h₀ : Heap} {L D : Addr} {m : Str → Option Value}
/-- append to the one list of the ledger's head -/
theorem app_own {ys : List Value} {n : Nat} {x : Value} {rest : List (Addr × Obj)} {Q : Value → Shared → Prop}
    (F : Fr h₀ L s.heap m) (N : News h₀ L s.heap ((D, listOf ys.toArray n) :: rest)) (hap : ∀ p ∈ rest, p.1 ≠ D)
    (hsz : ys.length ≤ 1000) (h : ∀ h', Fr h₀ L h' m → News h₀ L h' ((D, listOf (ys ++ [x]).toArray (n + 1)) :: rest) → Q .none { s with heap := h' }) :
    wpAny (model prog w) A (call (.builtin "list.append") [.ref D, x]) Q E s := by
  refine append_head (hsz := by rw [List.size_toArray, sizeLine_eq]; (first | lia | omega)) F N hap fun h' F' N' => h h' F' ?_
  have e : ys.toArray.push x = (ys ++ [x]).toArray := by simp
  rw [← e]; exact N'
end
section
variable {x y : Int} {P Q : Prop}
theorem ieq_t (h : x = y) (hp : P) : if (x == y) = true then P else Q := by rw [if_pos (by simp [h])]; exact hp
theorem ieq_f (h : x ≠ y) (hq : Q) : if (x == y) = true then P else Q := by rw [if_neg (by simp [h])]; exact hq
theorem ine_t (h : x ≠ y) (hp : P) : if (x != y) = true then P else Q := by rw [if_pos (by simp [h])]; exact hp
theorem ine_f (h : x = y) (hq : Q) : if (x != y) = true then P else Q := by rw [if_neg (by simp [h])]; exact hq
end
end Mine

namespace Mine
noncomputable abbrev tabO (ps : Array Value) : Obj := { cls := .none, data := .fields ps }
noncomputable abbrev hid (h : Heap) : Heap := h.hide 59
noncomputable def CodeG (h : Heap) : Prop := ∃ o vs file tf flags tg inF text tt, h.get? 61 = some o ∧ o.cls = .type "code" ∧ o.data = .fields vs ∧ vs[11]? = some (.ref 59) ∧ vs.getD 18 .none = .str file tf ∧
    vs.getD 7 .none = .int flags tg ∧ vs.getD 9 .none = .bool inF ∧ vs.getD 10 .none = .int text tt
theorem CodeG.keeps {h h' : Heap} (x : CodeG h) (k : Ext h h') : CodeG h' :=
  let ⟨o, vs, file, tf, flags, tg, inF, text, tt, e, r⟩ := x; ⟨o, vs, file, tf, flags, tg, inF, text, tt, k _ _ e, r⟩
theorem CodeG.isCode {h : Heap} {ps : Array Value} (x : CodeG h) (t : h.get? 59 = some (tabO ps)) (r : TriplesOk ps.toList) : h.IsCode 61 59 ps := by
  obtain ⟨o, vs, file, tf, flags, tg, inF, text, tt, e, hc, hd, h11, r1, r2, r3, r4⟩ := x
  exact ⟨o, vs, file, tf, flags, tg, inF, text, tt, _, e, hd, by rw [Array.getD_eq_getD_getElem?, h11]; rfl, r1, r2, r3, r4, t, rfl, r, by decide⟩
theorem CodeG.tableAt {h : Heap} {ps : Array Value} (x : CodeG h) (t : h.get? 59 = some (tabO ps)) : h.TableAt 61 59 ps := by
  obtain ⟨o, vs, file, tf, flags, tg, inF, text, tt, e, hc, hd, h11, -⟩ := x
  exact ⟨⟨o, vs, e, hc, hd, h11⟩, t⟩
theorem hid_get {h : Heap} {b : Addr} {o : Obj} (e : h.get? b = some o) (hb : b ≠ 59) : (hid h).get? b = some o := (Heap.hide_ne h hb).trans e
theorem hid_of {h : Heap} {b : Addr} {o : Obj} (e : (hid h).get? b = some o) : h.get? b = some o := Heap.of_hide e
theorem hid_ne {h : Heap} {b : Addr} {o : Obj} (e : (hid h).get? b = some o) : b ≠ 59 := fun q => by rw [q, Heap.hide_self] at e; cases e
theorem hid_keep {h h' : Heap} (k : ∀ b o, b ≠ 59 → h.get? b = some o → h'.get? b = some o) : Ext (hid h) (hid h') := fun b o e => hid_get (k b o (hid_ne e) (hid_of e)) (hid_ne e)

/-- what the walk leans on where the table of code objects grows -/
structure Cz (w : World) (p : Program) (loose : List Str) (mg mb : Str → Option Value) (ps : Array Value) (h : Heap) : Prop where
  C : Cx w p loose mg mb (hid h)
  M : ∃ bm ob, BMod (hid h) mainGlobals mg bm ob
  code : CodeG (hid h)
  tab : h.get? 59 = some (tabO ps)
  trip : TriplesOk ps.toList
section
variable {w : World} {p : Program} {loose : List Str} {mg mb m : Str → Option Value} {ps ps' : Array Value} {h h' : Heap} {L : Addr} {news : List (Addr × Obj)}
theorem Cz.cx (Z : Cz w p loose mg mb ps h) : Cx w p loose mg mb h := Z.C.keeps fun _ _ e => hid_of e
theorem Cz.step (Z : Cz w p loose mg mb ps h) (k : Ext (hid h) h') (t : h'.get? 59 = some (tabO ps')) (r : TriplesOk ps'.toList) : Cz w p loose mg mb ps' h' :=
  have k2 : Ext (hid h) (hid h') := fun b o e => hid_get (k b o e) (hid_ne e)
  ⟨Z.C.keeps k2, let ⟨bm, ob, M⟩ := Z.M; ⟨bm, ob, M.keeps k2⟩, Z.code.keeps k2, t, r⟩
theorem Cz.at (Z : Cz w p loose mg mb ps h) (F : Fr (hid h) L h' m) (N : News (hid h) L h' news) (hm : (59, tabO ps') ∈ news) (r : TriplesOk ps'.toList) : Cz w p loose mg mb ps' h' := Z.step F.keep (N _ hm).1 r
theorem fr_hid (F : Fr h L h' m) : Fr (hid h) L h' m := ⟨F.ns, fun b o e => F.keep b o (hid_of e), Nat.le_trans (Nat.le_of_eq (Heap.hide_size _ _)) F.above⟩
theorem news_hid (F : Fr h L h' m) (N : News h L h' news) (t : h.get? 59 = some (tabO ps)) : News (hid h) L h' (news ++ [(59, tabO ps)]) := fun q hq => by
  rcases List.mem_append.mp hq with hq | hq
  · refine ⟨(N q hq).1, (N q hq).2.1, ?_⟩
    cases e : (hid h).get? q.1 with
    | none => rfl
    | some o => have := hid_of e; rw [(N q hq).2.2] at this; cases this
  · rw [List.mem_singleton.mp hq]
    exact ⟨F.keep _ _ t, Nat.ne_of_lt (Nat.lt_of_lt_of_le (Heap.lt_size t) F.above), Heap.hide_self _ _⟩
/-- after a call that grows the table -/
theorem led_frZ {g : Heap} (F : Fr g L h m) (hg : g.get? 59 = none) (hL : L ≠ 59) (k : ∀ b o, b ≠ 59 → h.get? b = some o → h'.get? b = some o) : Fr g L h' m :=
  ⟨F.ns.extBut k hL, fun b o e => k b o (fun q => by rw [q, hg] at e; cases e) (F.keep b o e), F.above⟩
theorem led_newsZ {g : Heap} (N : News g L h ((59, tabO ps) :: news)) (hne : ∀ p ∈ news, p.1 ≠ 59) (k : ∀ b o, b ≠ 59 → h.get? b = some o → h'.get? b = some o) (t : h'.get? 59 = some (tabO ps')) : News g L h' ((59, tabO ps') :: news) := fun q hq => by
  rcases List.mem_cons.mp hq with rfl | hq
  · exact ⟨t, (N (59, tabO ps) (.head _)).2⟩
  · exact ⟨k _ _ (hne q hq) (N q (.tail _ hq)).1, (N q (.tail _ hq)).2⟩
end
section
variable {w : World} {A : Around} {E : Value → Shared → Prop} {s : Shared} {p : Program} {loose : List Str} {mg mb : Str → Option Value} {Q : Value → Shared → Prop} {ps : Array Value}
/-- a def is entered, the table among what is new -/
theorem enterZ {name qual : Str} {params : Arguments} {body : List Stmt} {scope : Scope} {dV kV doc pm cdv ct oc : Value} {an od : Option Addr} {osl : Array (Option Value)} {f : Addr} {args : List Value} {binds : List (Str × Value)}
    (Z : Cz w p loose mg mb ps s.heap) (hroom : A.depth < recursionLimit)
    (ho : (KK w).lookup f = some ⟨oc, od, .func (fnOf name qual params body scope dV kV doc pm an cdv ct), osl⟩) (hcd : codeIn (KK w) cdv qual = true)
    (hbind : BindsTo s (fnOf name qual params body scope dV kV doc pm an cdv ct) ⟨args, []⟩ binds) (hloc : ∀ y ∈ binds, scope.names.lookup y.1 = some .local)
    (h : ∀ h₁ L, Fr (hid s.heap) L h₁ (fun y => binds.reverse.lookup y) → News (hid s.heap) L h₁ [(59, tabO ps)] → (Mine.hd.heap_1 w.params).In (hid s.heap) → TopRead p loose mg mb (hid s.heap) → L ≠ 59 →
      wpAny (model PySem.Challenge.rw_ai0020_01.row.prog w) (A.deeper (envOf qual scope L f cdv)) (execs body (envOf qual scope L f cdv))
        (fun fl s' => Q (match fl with | .ret v => v | _ => .none) s') (fun _ _ => False) { s with heap := h₁, toks := s.toks + binds.length })
    (hco : scope.isCoroutine = false) (hgen : scope.isGenerator = false) (hk : scope.kind = .function) (hcell : ∀ x ∈ scope.names, x.2 ≠ .cell) :
    wpAny (model PG w) A (call (.ref f) args) Q E s :=
  enter Z.cx hroom ho hcd hbind hloc (fun h₁ L F N _ _ => h h₁ L (fr_hid F) (news_hid F N Z.tab) Z.C.K Z.C.T (fun e => (news_hid F N Z.tab _ (.head _)).2.1 e.symm)) hco hgen hk hcell
end
section
variable {w : World} {A : Around} {E : Value → Shared → Prop} {s : Shared} {prog : Program} {p : Program} {loose : List Str} {mg mb m : Str → Option Value} {ps : Array Value} {g : Heap} {L : Addr} {env : Env}
/-- what a generator over a text is, right after it is made -/
structure GenX (prog : Program) (w : World) (A : Around) (g : Heap) (L : Addr) (m : Str → Option Value) (ps : Array Value) (y : Str) (d : Nat → Bool) (os : OsState) (a : Addr) (s : Shared) : Prop where
  F : Fr g L s.heap m
  G : AllBare s.gens
  N : News g L s.heap [(59, tabO ps)]
  trip : TriplesOk ps.toList
  os : s.os = os
  gen : ∃ K, Gen prog w A K a y.cps.size (fun j v => ∃ c, y.cps[j]? = some c ∧ v = .bool (d c)) s ∧ L ≤ K ∧ 59 ≤ K
noncomputable def GtAt (prog : Program) (w : World) (A : Around) (g : Heap) (L : Addr) (scope : Scope) (cl : List (Str × Addr)) (x : Str) (elt : Expr) (env : Env) (Q : Value → Shared → Prop) (xv : Value) (s₁ : Shared) : Prop :=
  ∃ y t m ps, ∃ d : Nat → Bool, xv = .str y t ∧ Fr g L s₁.heap m ∧ News g L s₁.heap [(59, tabO ps)] ∧ TriplesOk ps.toList ∧ AllBare s₁.gens ∧
      (∀ C c u (s₃ : Shared) m₃ A' E' code, c ∈ y.cps.toList → A'.handled = none → Fr g C s₃.heap m₃ → m₃ x = some (.str ⟨#[c]⟩ u) →
        wpAny (model prog w) A' (eval elt (genEnv scope cl C code builtinsNs env)) (fun r s₄ => r = .bool (d c) ∧ Keeps s₃ s₄) E' s₃) ∧
      (∀ a s₅ more, GenX prog w A g L m (ps ++ more) y d s₁.os a s₅ → Q (.ref a) s₅)
theorem GtAt.intro {scope : Scope} {cl : List (Str × Addr)} {x : Str} {elt : Expr} {Q : Value → Shared → Prop} {y : Str} {t : Tok} (d : Nat → Bool)
    (F : Fr g L s.heap m) (N : News g L s.heap [(59, tabO ps)]) (r : TriplesOk ps.toList) (G : AllBare s.gens)
    (turn : ∀ C c u (s₃ : Shared) m₃ A' E' code, c ∈ y.cps.toList → A'.handled = none → Fr g C s₃.heap m₃ → m₃ x = some (.str ⟨#[c]⟩ u) →
        wpAny (model prog w) A' (eval elt (genEnv scope cl C code builtinsNs env)) (fun r s₄ => r = .bool (d c) ∧ Keeps s₃ s₄) E' s₃)
    (fin : ∀ a s₅ more, GenX prog w A g L m (ps ++ more) y d s.os a s₅ → Q (.ref a) s₅) : GtAt prog w A g L scope cl x elt env Q (.str y t) s :=
  ⟨y, t, m, ps, d, rfl, F, N, r, G, turn, fin⟩
theorem GenExp_text {elt iter : Expr} {x : Str} {px : Pos} {scope : Scope} {cl : List (Str × Addr)} {pos : Pos} {Q : Value → Shared → Prop} {bm : Addr} {ob : Obj}
    (M : BMod g mainGlobals mg bm ob) (Cd : CodeG g) (T : TopRead p loose mg mb g) (hgl : env.globals = mainGlobals) (hcode : env.code = .ref 61)
    (hh : A.handled = none) (hco : scope.isCoroutine = false) (hclos : closureFor scope env = pure cl) (hcell : ∀ y ∈ scope.names, y.2 ≠ .cell) (h0 : scope.names.lookup (".0" : Str) = some NameKind.local)
    (hx : scope.names.lookup x = some .local) (hkind : scope.kind = .function) (hroom : A.depth < recursionLimit)
    (h : wpAny (model prog w) A (eval iter env) (GtAt prog w A g L scope cl x elt env Q) E s)
    (hs : ∀ x, genFold iter env x = pure x) :
    wpAny (model prog w) A (eval (.GeneratorExp elt [⟨.Name x px, iter, [], 0⟩] scope pos) env) Q E s := by
  refine wpAny_GeneratorExp_walksQD hh hco hclos hcell h0 hx hkind hroom (wpAny_mono h (fun xv s₁ h₁' => ?_) fun _ _ e => e) hs
  obtain ⟨y, t, m, ps, d, rfl, F₁, N₁, trip, G₁, turn, fin⟩ := h₁'
  have hN59 := N₁ _ (.head _)
  have h59lt : 59 < s₁.heap.objs.size := Heap.lt_size hN59.1
  refine wpAny_pyIter_str fun o St W hst => ?_
  have keep₂ : ∀ b o', s₁.heap.get? b = some o' → (s₁.heap.push o).get? b = some o' := fun b o' e => Heap.get?_push_of_some _ e
  have hlim : (s₁.heap.push o).NoLimit := (T.nolimit.keeps F₁.keep).push _
  refine ⟨hlim, ?_⟩
  have Cd₂ : CodeG (s₁.heap.push o) := (Cd.keeps F₁.keep).keeps keep₂
  have tab₂ : (s₁.heap.push o).get? 59 = some (tabO ps) := keep₂ _ _ hN59.1
  have key : ∀ code h₃ tk₃ more, Heap.ExtBut 59 (s₁.heap.push o) h₃ → h₃.get? 59 = some (tabO (ps ++ more)) → TriplesOk (ps ++ more).toList → (s₁.heap.push o).objs.size ≤ h₃.objs.size →
      wpAny (model prog w) A (builtinsFor env.globals env.builtins) (fun bi s₄ =>
        ∃ I fp wr n₀ P St₀ pz F, (Value.ref s₁.heap.objs.size) = .ref I ∧ (∀ A' : Around, A'.handled = none → Walks prog w A' I fp wr n₀ P St₀) ∧ St₀ 0 s₄.heap ∧ (∀ b ∈ fp, b < s₄.heap.objs.size) ∧ s₄.heap.NoLimit ∧ cStatics ∉ wr ∧
          (∀ href : Heap, (∀ b o, s₄.heap.get? b = some o → href.get? b = some o) →
            QuietGenD prog w (genEnv scope cl s₄.heap.objs.size code bi env) x [] elt (List.range s₄.heap.objs.size) wr P pz F href (A.depth + 1) (A.units + 8)) ∧
          (∀ a h₅ tk gs, gs.bare = true → s₄.heap.objs.size < a → h₅.objs.size = a + 1 → (∀ b o, s₄.heap.get? b = some o → h₅.get? b = some o) →
            WalksS prog w A.in4 a (a :: s₄.heap.objs.size :: List.range s₄.heap.objs.size) (s₄.heap.objs.size :: wr) (GenOnlyQ s₄.gens.size) (passing pz n₀ 0).length
              (fun j y => ∃ i, (passing pz n₀ 0)[j]? = some i ∧ F i y) (GenAt prog w A.in4 a s₄.gens.size s₄.heap.objs.size (List.range s₄.heap.objs.size) wr pz n₀ F) →
            GenAt prog w A.in4 a s₄.gens.size s₄.heap.objs.size (List.range s₄.heap.objs.size) wr pz n₀ F 0 { s₄ with gens := s₄.gens.push gs, toks := tk, heap := h₅ } →
            Q (.ref a) { s₄ with gens := s₄.gens.push gs, toks := tk, heap := h₅ })) E { s₁ with heap := h₃, toks := tk₃ } := by
    intro code h₃ tk₃ more hx₃ tab₃ trip₃ hsz
    have hne59 : ∀ b o', g.get? b = some o' → b ≠ 59 := fun b o' e q => by rw [q, hN59.2.2] at e; cases e
    have hL59 : L ≠ 59 := fun e => hN59.2.1 e.symm
    have k₃ : ∀ b o', b ≠ 59 → s₁.heap.get? b = some o' → h₃.get? b = some o' := fun b o' hb e => hx₃ b o' hb (keep₂ b o' e)
    have kg : ∀ b o', g.get? b = some o' → h₃.get? b = some o' := fun b o' e => k₃ b o' (hne59 b o' e) (F₁.keep b o' e)
    have F₃ : Fr g L h₃ m := ⟨F₁.ns.extBut k₃ hL59, kg, F₁.above⟩
    have M₃ : BMod h₃ mainGlobals mg bm ob := M.keeps kg
    have hl₃ : h₃.NoLimit := T.nolimit.keeps kg
    have hszo : s₁.heap.objs.size < h₃.objs.size := Nat.lt_of_lt_of_le (by rw [Heap.size_push]; exact Nat.lt_succ_self _) hsz
    refine wpAny_builtinsFor (by rw [hgl]; exact M₃.ns) M₃.name M₃.ne M₃.obj M₃.cls M₃.dict M₃.data ?_
    refine ⟨s₁.heap.objs.size, [s₁.heap.objs.size], [s₁.heap.objs.size], y.cps.size, SignAt y, St, (fun _ => true), (fun j v => ∃ c, y.cps[j]? = some c ∧ v = .bool (d c)), rfl, W,
      (W A hh).frame _ _ _ hst (fun b hb o' e => hx₃ b o' (fun q => by rw [List.mem_singleton.mp hb] at q; exact Nat.ne_of_gt h59lt q) e), (fun b hb => by rw [List.mem_singleton.mp hb]; exact hszo), hl₃, ?_, ?_, ?_⟩
    · intro hm
      have e : cStatics = s₁.heap.objs.size := List.mem_singleton.mp hm
      have := (T.nolimit.keeps F₁.keep)
      obtain ⟨_, hns, _⟩ := this
      exact Nat.ne_of_lt hns.lt e
    · intro href hhref
      have hLC : L < h₃.objs.size := F₃.ns.lt
      have inB : ∀ (t : Shared) m₂, t.heap.Ns h₃.objs.size m₂ → (∀ b ∈ List.range h₃.objs.size, b ∉ [s₁.heap.objs.size] → ∀ o, href.get? b = some o → t.heap.get? b = some o) → Fr g h₃.objs.size t.heap m₂ := fun t m₂ hn hkp =>
        ⟨hn, fun b o' e => hkp b (List.mem_range.mpr (Heap.lt_size (kg b o' e))) (fun hm => by
          have e2 : b = s₁.heap.objs.size := List.mem_singleton.mp hm
          exact Nat.ne_of_lt (Heap.lt_size (F₁.keep b o' e)) e2) o' (hhref b o' (kg b o' e)), Nat.le_trans F₃.above (Nat.le_of_lt hLC)⟩
      refine ⟨fun A' E' i v t m₂ hA hD hU hP hn hm hkp => ?_, fun A' E' i v t m₂ hA hD hU hP hp hn hm hkp => ?_⟩
      · exact wpAny_tests_nil ⟨rfl, t.heap, t.toks, rfl, fun _ _ e => e⟩
      · obtain ⟨c, u, hc, rfl⟩ := hP
        have hmem : c ∈ y.cps.toList := by
          have : y.cps.toList[i]? = some c := by rw [Array.getElem?_toList]; exact hc
          exact List.mem_of_getElem? this
        exact wpAny_mono (turn h₃.objs.size c u t m₂ A' E' code hmem hA (inB t m₂ hn hkp) hm) (fun r s₄ q => ⟨⟨c, hc, q.1⟩, q.2⟩) fun _ _ e => e
    · intro a h₅ tk gs hgb hag hsz₅ hk₅ W' hat
      have hpass : passing (fun _ => true) y.cps.size 0 = List.range y.cps.size := by unfold passing; rw [List.drop_zero, List.filter_eq_self.mpr fun _ _ => rfl]
      have hlen : (passing (fun _ => true) y.cps.size 0).length = y.cps.size := by rw [hpass, List.length_range]
      refine fin a _ more ⟨F₃.keeps hk₅, G₁.push hgb, ?_, trip₃, rfl, s₁.heap.objs.size - 1, ?_, ?_, Nat.le_sub_one_of_lt h59lt⟩
      · intro q hq
        rw [List.mem_singleton.mp hq]
        exact ⟨hk₅ _ _ tab₃, hN59.2⟩
      · refine Gen.imp (F := fun j v => ∃ i, (passing (fun _ => true) y.cps.size 0)[j]? = some i ∧ ∃ c, y.cps[i]? = some c ∧ v = .bool (d c)) ?_ ?_
        · refine ⟨_, _, _, _, by rw [hlen] at W'; exact W', hat, (fun i s' st => st.1.typeIs), List.mem_cons_self, ?_, ?_⟩
          · intro b hb
            show b < h₅.objs.size
            rw [hsz₅]
            rcases List.mem_cons.mp hb with rfl | hb
            · exact Nat.lt_succ_self _
            · rcases List.mem_cons.mp hb with rfl | hb
              · exact Nat.lt_succ_of_lt hag
              · exact Nat.lt_succ_of_lt (Nat.lt_trans (List.mem_range.mp hb) hag)
          · intro b hb
            rcases List.mem_cons.mp hb with rfl | hb
            · exact Nat.lt_of_le_of_lt (Nat.sub_le _ _) hszo
            · rw [List.mem_singleton.mp hb]; exact Nat.sub_lt (Nat.lt_of_le_of_lt (Nat.zero_le _) h59lt) Nat.one_pos
        · rintro j v ⟨i, hi, hv⟩
          rw [hpass] at hi
          have hij : i = j := by
            by_cases hj : j < y.cps.size
            · simp [hj] at hi; (first | lia | omega)
            · simp [hj] at hi
          subst hij
          exact hv
      · exact Nat.le_sub_one_of_lt F₁.ns.lt
  obtain ⟨oo, vs, file, tf, flags, tg, inF, text, tt, op, ho, hd, h11, h2, h7, h9, h10, hop, hpd, htr, hne⟩ := Cd₂.isCode tab₂ trip
  cases hnf : codeAmong pos ps.toList with
  | some cv =>
    unfold genexprCode codeAt
    rw [hcode, if_neg (show ¬ ((Value.ref 61 == Value.none) = true) from Bool.false_ne_true)]
    refine wpAny_bind (wpAny_fieldsOf ho hd ?_)
    rw [h11]
    refine wpAny_bind (wpAny_fieldsOf hop hpd ?_)
    rw [hnf]
    exact wpAny_pure (key _ _ _ #[] (Heap.ExtBut.refl _ _) (by rw [Array.append_empty]; exact tab₂) (by rw [Array.append_empty]; exact trip) (Nat.le_refl _))
  | none =>
    exact wpAny_genexprCodeX hcode (Cd₂.isCode tab₂ trip) (Cd₂.tableAt tab₂) hnf fun c' h₃ tk₃ hx₃ hge hlt hcode₃ _ htab₃ _ =>
      key _ _ _ _ hx₃ htab₃.2 (by obtain ⟨_, _, _, _, _, _, _, _, _, _, _, _, _, _, _, _, _, e1, e2, r, _⟩ := hcode₃; rw [htab₃.2] at e1; cases e1; cases e2; exact r) (Nat.le_trans hge (Nat.le_of_lt hlt))
/-- any over such a generator -/
theorem any_text {y : Str} {d : Nat → Bool} {os : OsState} {a : Addr} {Q : Value → Shared → Prop} (X : GenX prog w A g L m ps y d os a s)
    (h : ∀ s', Fr g L s'.heap m → News g L s'.heap [(59, tabO ps)] → AllBare s'.gens → s'.os = os → Q (.bool (y.cps.toList.any d)) s') : wpAny (model prog w) A (call (.builtin "any") [.ref a]) Q E s := by
  obtain ⟨F, G, N, trip, ho, K, gen, hLK, h59⟩ := X
  refine any_rowsK F G gen hLK (fun j => match y.cps.toList[j]? with | some c => d c | none => false) (fun j v s Q E hv hQ => ?_) fun s' F' G' hos hk => ?_
  · obtain ⟨c, hc, rfl⟩ := hv
    have e : (match y.cps.toList[j]? with | some c => d c | none => false) = d c := by rw [Array.getElem?_toList, hc]
    refine wpAny_truthy_bool ?_
    rw [← e]; exact hQ
  · have e : ((List.range y.cps.size).any fun j => match y.cps.toList[j]? with | some c => d c | none => false) = y.cps.toList.any d := by
      have := any_rangeD y.cps.toList d
      rw [Array.length_toList] at this
      refine Eq.trans (congrArg (List.any _) (funext fun j => ?_)) this
      cases y.cps.toList[j]? <;> rfl
    rw [e]
    refine h s' F' (fun q hq => ?_) G' (hos.trans ho)
    rw [List.mem_singleton.mp hq]
    exact ⟨hk _ _ h59 (N _ (.head _)).1, (N _ (.head _)).2⟩
theorem all_text {y : Str} {d : Nat → Bool} {os : OsState} {a : Addr} {Q : Value → Shared → Prop} (X : GenX prog w A g L m ps y d os a s)
    (h : ∀ s', Fr g L s'.heap m → News g L s'.heap [(59, tabO ps)] → AllBare s'.gens → s'.os = os → Q (.bool (y.cps.toList.all d)) s') : wpAny (model prog w) A (call (.builtin "all") [.ref a]) Q E s := by
  obtain ⟨F, G, N, trip, ho, K, gen, hLK, h59⟩ := X
  refine all_rowsK F G gen hLK (fun j => match y.cps.toList[j]? with | some c => d c | none => true) (fun j v s Q E hv hQ => ?_) fun s' F' G' hos hk => ?_
  · obtain ⟨c, hc, rfl⟩ := hv
    have e : (match y.cps.toList[j]? with | some c => d c | none => true) = d c := by rw [Array.getElem?_toList, hc]
    refine wpAny_truthy_bool ?_
    rw [← e]; exact hQ
  · have e : ((List.range y.cps.size).all fun j => match y.cps.toList[j]? with | some c => d c | none => true) = y.cps.toList.all d := by
      have := all_rangeD y.cps.toList d
      rw [Array.length_toList] at this
      refine Eq.trans (congrArg (List.all _) (funext fun j => ?_)) this
      cases y.cps.toList[j]? <;> rfl
    rw [e]
    refine h s' F' (fun q hq => ?_) G' (hos.trans ho)
    rw [List.mem_singleton.mp hq]
    exact ⟨hk _ _ h59 (N _ (.head _)).1, (N _ (.head _)).2⟩
end
section
variable {M : Model} {A : Around} {E : Value → Shared → Prop} {s : Shared} {env : Env} {g : Heap} {C : Addr} {code : Value} {m mg mb : Str → Option Value} {p : Program} {loose : List Str} {x : Str} {pos : Pos} {v : Value} {Q : Value → Shared → Prop}
/-- names inside a generator expression -/
theorem gn_local {scope : Scope} {cl : List (Str × Addr)} (F : Fr g C s.heap m) (hv : m x = some v) (h : Q v s) (hk : (genEnv scope cl C code builtinsNs env).scope.kind = .function) (hl : (genEnv scope cl C code builtinsNs env).kindOf x = some .local) (hd : (x == ("__debug__" : Str)) = false) :
    wpAny M A (eval (.Name x pos) (genEnv scope cl C code builtinsNs env)) Q E s := wpAny_Name (wpAny_loadName_local (env := genEnv scope cl C code builtinsNs env) hk hl F.ns hv h) hd
theorem gn_builtin {scope : Scope} {cl : List (Str × Addr)} {K : Frag} (F : Fr g C s.heap m) (X : K.In g) (T : TopRead p loose mg mb g) (e : nsIn K mainGlobals x = some none) (hv : bootBuiltins x = some v) (hn : x ≠ "__name__") (h : Q v s)
    (hg : env.globals = mainGlobals) (hk : (genEnv scope cl C code builtinsNs env).scope.kind = .function) (hx : (genEnv scope cl C code builtinsNs env).kindOf x = some .globalImplicit) (hd : (x == ("__debug__" : Str)) = false) :
    wpAny M A (eval (.Name x pos) (genEnv scope cl C code builtinsNs env)) Q E s :=
  Name_function_global hk hx (loadGlobal_builtin (env := genEnv scope cl C code builtinsNs env) (mg := mg) (mb := mb) (by show s.heap.Ns env.globals mg; rw [hg]; exact T.g.keeps F.keep) (mg_none_of X T.g e) (T.b.keeps F.keep) ((T.builtins x hn).trans hv) h) hd
theorem gn_global {scope : Scope} {cl : List (Str × Addr)} {K : Frag} (F : Fr g C s.heap m) (X : K.In g) (T : TopRead p loose mg mb g) (e : nsIn K mainGlobals x = some (some v)) (h : Q v s)
    (hg : env.globals = mainGlobals) (hk : (genEnv scope cl C code builtinsNs env).scope.kind = .function) (hx : (genEnv scope cl C code builtinsNs env).kindOf x = some .globalImplicit) (hd : (x == ("__debug__" : Str)) = false) :
    wpAny M A (eval (.Name x pos) (genEnv scope cl C code builtinsNs env)) Q E s := nameG_K F X T e h hg hk hx hd
end
theorem hid_none {h h' : Heap} {D : Addr} {o : Obj} {ps : Array Value} (e : (hid h).get? D = none) (a : h'.get? D = some o) (b : h'.get? 59 = some (tabO ps)) (hc : o.cls ≠ .none) : h.get? D = none := by
  cases q : h.get? D with
  | none => rfl
  | some o' =>
    have hD : D ≠ 59 := fun q => by rw [q, b] at a; cases a; exact hc rfl
    rw [hid_get q hD] at e; cases e
end Mine

namespace Mine
theorem all2_filter {α β : Type} {R : α → β → Prop} {pa : α → Bool} {pb : β → Bool} (hp : ∀ a b, R a b → pb b = pa a) {l : List α} {k : List β} (h : All2 R l k) : All2 R (l.filter pa) (k.filter pb) := by
  induction h with
  | nil => exact .nil
  | @cons a b l k hr _ ih =>
    have := hp a b hr
    cases ha : pa a with
    | true => rw [ha] at this; rw [List.filter_cons_of_pos ha, List.filter_cons_of_pos this]; exact .cons hr ih
    | false => rw [ha] at this; rw [List.filter_cons_of_neg (by simp [ha]), List.filter_cons_of_neg (by simp [this])]; exact ih
theorem all2_mk {α β : Type} {R : α → β → Prop} {l : List α} {k : List β} (hlen : k.length = l.length) (hP : ∀ (j : Nat) v, k[j]? = some v → ∃ a, l[j]? = some a ∧ R a v) : All2 R l k := by
  induction k generalizing l with
  | nil => cases l with
    | nil => exact .nil
    | cons _ _ => cases hlen
  | cons v k ih => cases l with
    | nil => cases hlen
    | cons a r =>
      obtain ⟨a', e, hr⟩ := hP 0 v rfl
      cases e
      exact .cons hr (ih (by simpa using hlen) fun j v hv => hP (j + 1) v hv)
theorem all2_pair {α : Type} {Is R : α → Value → Prop} {F : Value → Value → Prop} (hF : ∀ a v y, Is a v → F v y → R a y) {l : List α} {vs ys : List Value} (h : All2 Is l vs) (hp : Paired F vs ys) : All2 R l ys := by
  induction hp generalizing l with
  | nil => cases h; exact .nil
  | cons hr _ ih => cases h with
    | cons hi h => exact .cons (hF _ _ _ hi hr) (ih h)
section
variable {prog : Program} {w : World} {A : Around} {E : Value → Shared → Prop} {s : Shared} {env : Env}
/-- the iterator of a comprehension, with what its turns give -/
noncomputable def CoreAt {α : Type} (prog : Program) (w : World) (A : Around) (env : Env) (x : Str) (scope : Scope) (cl : List (Str × Addr)) (ifs : List Expr) (elt : Expr) (p : Value → Bool) (F : Value → Value → Prop) (h₀ : Heap) (items : List α) (R : α → Value → Prop) (it : Value) (s₂ : Shared) : Prop :=
  ∃ I fp wr n P St, it = .ref I ∧ Walks prog w A I fp wr n P St ∧ n ≤ sizeLine ∧ St 0 s₂.heap ∧ (∀ b ∈ fp, b < s₂.heap.objs.size) ∧
      QuietOnC prog w A env scope cl x ifs elt wr P p F s₂ ∧ (∀ b ∈ wr, h₀.get? b = none) ∧
      (∀ (ys vs : List Value), vs.length = n → (∀ j v, vs[j]? = some v → P j v) → Paired F (vs.filter p) ys → All2 R items ys)
theorem core_at {α : Type} {items : List α} {x : Str} {scope : Scope} {cl : List (Str × Addr)} {ifs : List Expr} {elt : Expr} {o : Obj} {P : Nat → Value → Prop} {St : Nat → Heap → Prop} {fp : List Addr}
    (Is : α → Value → Prop) (R : α → Value → Prop) (hu : ∀ a a' v, Is a v → Is a' v → a = a') (p : Value → Bool) (pz : α → Bool) (hp : ∀ a v, Is a v → p v = pz a)
    (W : Walks prog w A s.heap.objs.size fp [s.heap.objs.size] items.length P St) (hsz : items.length ≤ sizeLine) (hst : St 0 (s.heap.push o)) (hfp : ∀ b ∈ fp, b < (s.heap.push o).objs.size)
    (hP : ∀ i v, P i v → ∃ a, items[i]? = some a ∧ Is a v)
    (tests : ∀ C a v (s₃ : Shared) m₃ E', a ∈ items → Is a v → Fr s.heap C s₃.heap m₃ → News s.heap C s₃.heap [] → m₃ x = some v →
      wpAny (model prog w) A (forIn ifs true fun c r => if r = true then do let ok ← isTrue c (compEnvC scope cl C env) (eval c (compEnvC scope cl C env)); pure (ForInStep.yield ok) else pure (ForInStep.yield r))
      (fun ok s₄ => ok = pz a ∧ Keeps s₃ s₄) E' s₃)
    (turn : ∀ C a v (s₃ : Shared) m₃ E', a ∈ items → pz a = true → Is a v → Fr s.heap C s₃.heap m₃ → News s.heap C s₃.heap [] → m₃ x = some v →
      wpAny (model prog w) A (eval elt (compEnvC scope cl C env)) (fun y s₄ => R a y ∧ Keeps s₃ s₄) E' s₃) :
    CoreAt prog w A env x scope cl ifs elt p (fun v y => ∀ a, Is a v → R a y) s.heap (items.filter pz) R (.ref s.heap.objs.size) { s with heap := s.heap.push o } := by
  have keep₂ : ∀ b o', s.heap.get? b = some o' → (s.heap.push o).get? b = some o' := fun b o' e => Heap.get?_push_of_some _ e
  have ne : ∀ b o', s.heap.get? b = some o' → b ∉ [s.heap.objs.size] := fun b o' e hm => Nat.lt_irrefl _ (List.mem_singleton.mp hm ▸ Heap.lt_size e)
  have hC' : ∀ C, (s.heap.push o).objs.size ≤ C → s.heap.objs.size ≤ C := fun C hC => Nat.le_trans (by show s.heap.objs.size ≤ (s.heap.push o).objs.size; rw [Heap.size_push]; exact Nat.le_succ _) hC
  refine ⟨_, _, _, _, _, _, rfl, W, hsz, hst, hfp, ⟨?_, ?_⟩, ?_, ?_⟩
  · intro C i v s₃ m₃ E' hC hv hn hm hk _
    obtain ⟨a, ha, hi⟩ := hP i v hv
    refine wpAny_mono (tests C a v s₃ m₃ E' (List.mem_of_getElem? ha) hi ⟨hn, fun b o' e => hk b o' (ne b o' e) (keep₂ b o' e), hC' C hC⟩ News.nil hm) (fun y s₄ hy => ⟨hy.1.trans (hp a v hi).symm, hy.2⟩) fun _ _ e => e
  · intro C i v s₃ m₃ E' hC hv hpv hn hm hk _
    obtain ⟨a, ha, hi⟩ := hP i v hv
    refine wpAny_mono (turn C a v s₃ m₃ E' (List.mem_of_getElem? ha) ((hp a v hi).symm.trans hpv) hi ⟨hn, fun b o' e => hk b o' (ne b o' e) (keep₂ b o' e), hC' C hC⟩ News.nil hm) (fun y s₄ hy => ⟨fun a' hi' => hu a a' v hi hi' ▸ hy.1, hy.2⟩) fun _ _ e => e
  · intro b hb
    rw [List.mem_singleton.mp hb]
    cases e : s.heap.get? s.heap.objs.size with
    | none => rfl
    | some o' => exact absurd (Heap.lt_size e) (Nat.lt_irrefl _)
  · intro ys vs hlen hvs hpair
    exact all2_pair (fun a v y hi hf => hf a hi) (all2_filter (fun a v hi => hp a v hi) (all2_mk hlen fun j v hv => hP j v (hvs j v hv))) hpair
theorem core_at1 {α : Type} {items : List α} {x : Str} {scope : Scope} {cl : List (Str × Addr)} {elt : Expr} {o : Obj} {P : Nat → Value → Prop} {St : Nat → Heap → Prop} {fp : List Addr}
    (Is : α → Value → Prop) (R : α → Value → Prop) (hu : ∀ a a' v, Is a v → Is a' v → a = a')
    (W : Walks prog w A s.heap.objs.size fp [s.heap.objs.size] items.length P St) (hsz : items.length ≤ sizeLine) (hst : St 0 (s.heap.push o)) (hfp : ∀ b ∈ fp, b < (s.heap.push o).objs.size)
    (hP : ∀ i v, P i v → ∃ a, items[i]? = some a ∧ Is a v)
    (turn : ∀ C a v (s₃ : Shared) m₃ E', a ∈ items → Is a v → Fr s.heap C s₃.heap m₃ → News s.heap C s₃.heap [] → m₃ x = some v →
      wpAny (model prog w) A (eval elt (compEnvC scope cl C env)) (fun y s₄ => R a y ∧ Keeps s₃ s₄) E' s₃) :
    CoreAt prog w A env x scope cl [] elt (fun _ => true) (fun v y => ∀ a, Is a v → R a y) s.heap items R (.ref s.heap.objs.size) { s with heap := s.heap.push o } := by
  have X := core_at (ifs := []) (env := env) (cl := cl) (elt := elt) (x := x) (scope := scope) (o := o) Is R hu (fun _ => true) (fun _ => true) (fun _ _ _ => rfl) W hsz hst hfp hP
    (fun C a v s₃ m₃ E' _ _ _ _ _ => wpAny_tests_nil ⟨rfl, s₃.heap, s₃.toks, rfl, fun _ _ e => e⟩)
    (fun C a v s₃ m₃ E' ha _ hi F N hm => turn C a v s₃ m₃ E' ha hi F N hm)
  rw [List.filter_eq_self.mpr fun _ _ => rfl] at X
  exact X
/-- what the library asks of the iterator, comprehension stored in a name -/
noncomputable abbrev AcAt (prog : Program) (w : World) (A : Around) (env : Env) (y x : Str) (scope : Scope) (cl : List (Str × Addr)) (ifs : List Expr) (elt : Expr) (p : Value → Bool) (F : Value → Value → Prop) (Q : Flow → Shared → Prop) (it : Value) (s₂ : Shared) : Prop :=
  ∃ I fp wr n P St m, it = .ref I ∧ Walks prog w A I fp wr n P St ∧ n ≤ sizeLine ∧ St 0 s₂.heap ∧ (∀ b ∈ fp, b < s₂.heap.objs.size) ∧
      env.locals ∉ wr ∧ s₂.heap.Ns env.locals m ∧ QuietOnC prog w A env scope cl x ifs elt wr P p F s₂ ∧
      (∀ D h' tk ys (vs : List Value), s₂.heap.get? D = none → h'.IsList D ys → h'.PlainList D ys → vs.length = n → (∀ j v, vs[j]? = some v → P j v) → Paired F (vs.filter p) ys.toList →
        h'.Ns env.locals (fun z => if z = y then some (.ref D) else m z) → (∀ b o, b ≠ env.locals → b ∉ wr → s₂.heap.get? b = some o → h'.get? b = some o) → Q .next { s₂ with heap := h', toks := tk })
theorem core_lc {α : Type} {items : List α} {R : α → Value → Prop} {x : Str} {scope : Scope} {cl : List (Str × Addr)} {ifs : List Expr} {elt : Expr} {p : Value → Bool} {F : Value → Value → Prop} {Q : Value → Shared → Prop} {it : Value} {o : Obj}
    (X : CoreAt prog w A env x scope cl ifs elt p F s.heap items R it { s with heap := s.heap.push o })
    (fin : ∀ D h' tk (ys : List Value) n, s.heap.get? D = none → h'.get? D = some (listOf ys.toArray n) → All2 R items ys → Ext s.heap h' → Q (.ref D) { s with heap := h', toks := tk }) :
    LcAt prog w A env x scope cl ifs elt p F Q it { s with heap := s.heap.push o } := by
  obtain ⟨I, fp, wr, n, P, St, e, W, hsz, hst, hfp, hq, hwr, hall⟩ := X
  refine ⟨I, fp, wr, n, P, St, e, W, hsz, hst, hfp, hq, ?_⟩
  intro D h' tk ys vs hD _ hpl hlen hvs hF hk
  obtain ⟨n', hD'⟩ := hpl
  have keep₂ : ∀ b o', s.heap.get? b = some o' → (s.heap.push o).get? b = some o' := fun b o' e => Heap.get?_push_of_some _ e
  have hD0 : s.heap.get? D = none := by
    cases e : s.heap.get? D with
    | none => rfl
    | some o' => have := keep₂ D o' e; rw [hD] at this; cases this
  exact fin D h' tk ys.toList n' hD0 (by simpa using hD') (hall _ _ hlen hvs hF) fun b o' e => hk b o' (fun hm => by rw [hwr b hm] at e; cases e) (keep₂ b o' e)
theorem core_ac {α : Type} {items : List α} {R : α → Value → Prop} {x y : Str} {scope : Scope} {cl : List (Str × Addr)} {ifs : List Expr} {elt : Expr} {p : Value → Bool} {F : Value → Value → Prop} {Q : Flow → Shared → Prop} {it : Value} {o : Obj} {g : Heap} {m : Str → Option Value} {news : List (Addr × Obj)}
    (Fg : Fr g env.locals s.heap m) (N : News g env.locals s.heap news)
    (X : CoreAt prog w A env x scope cl ifs elt p F s.heap items R it { s with heap := s.heap.push o })
    (fin : ∀ D h' tk (ys : List Value) n, s.heap.get? D = none → All2 R items ys → Fr g env.locals h' (fun z => if z = y then some (.ref D) else m z) → News g env.locals h' ((D, listOf ys.toArray n) :: news) → (∀ b o, b ≠ env.locals → s.heap.get? b = some o → h'.get? b = some o) → Q .next { s with heap := h', toks := tk }) :
    AcAt prog w A env y x scope cl ifs elt p F Q it { s with heap := s.heap.push o } := by
  obtain ⟨I, fp, wr, n, P, St, e, W, hsz, hst, hfp, hq, hwr, hall⟩ := X
  have keep₂ : ∀ b o', s.heap.get? b = some o' → (s.heap.push o).get? b = some o' := fun b o' e => Heap.get?_push_of_some _ e
  have hL0 : ∃ oL, s.heap.get? env.locals = some oL := by obtain ⟨oL, _, _, e1, _⟩ := Fg.ns; exact ⟨oL, e1⟩
  obtain ⟨oL, hL0⟩ := hL0
  refine ⟨I, fp, wr, n, P, St, m, e, W, hsz, hst, hfp, (fun hm => by rw [hwr _ hm] at hL0; cases hL0), Fg.ns.keeps keep₂, hq, ?_⟩
  intro D h' tk ys vs hD _ hpl hlen hvs hF hns hk
  obtain ⟨n', hD'⟩ := hpl
  have hD0 : s.heap.get? D = none := by
    cases e : s.heap.get? D with
    | none => rfl
    | some o' => have := keep₂ D o' e; rw [hD] at this; cases this
  have k : ∀ b o', b ≠ env.locals → s.heap.get? b = some o' → h'.get? b = some o' := fun b o' hb e => hk b o' hb (fun hm => by rw [hwr b hm] at e; cases e) (keep₂ b o' e)
  have hgL : ∀ b o', g.get? b = some o' → b ≠ env.locals := fun b o' e q => Nat.lt_irrefl _ (Nat.lt_of_lt_of_le (q ▸ Heap.lt_size e) Fg.above)
  refine fin D h' tk ys.toList n' hD0 (hall _ _ hlen hvs hF) ⟨hns, fun b o' e => k b o' (hgL b o' e) (Fg.keep b o' e), Fg.above⟩ (fun q hq => ?_) k
  rcases List.mem_cons.mp hq with rfl | hq
  · refine ⟨by simpa using hD', fun e => ?_, ?_⟩
    · have e' : D = env.locals := e
      rw [e', hL0] at hD0; cases hD0
    · cases e : g.get? D with
      | none => rfl
      | some o' => have := Fg.keep D o' e; rw [hD0] at this; cases this
  · exact ⟨k _ _ (N q hq).2.1 (N q hq).1, (N q hq).2⟩
theorem Assign_at {elt iter : Expr} {x y : Str} {px py : Pos} {scope : Scope} {cl : List (Str × Addr)} {ifs : List Expr} {pos spos : Pos} {Q : Flow → Shared → Prop} (p : Value → Bool) (F : Value → Value → Prop)
    (hsw : swapsWith (.ListComp elt [⟨.Name x px, iter, ifs, 0⟩] scope pos) (some (.Name y py)) spos.line env = pure true)
    (hclos : closureFor scope env = pure cl) (hcell : ∀ y ∈ scope.names, y.2 ≠ .cell) (hkind : scope.kind = .function)
    (hnames : ∀ y ∈ scope.names, y.2 = .local → scope.names.lookup y.1 = some .local) (hx : scope.names.lookup x = some .local)
    (hy : env.kindOf y = some .local) (hp : (env.scope.kind == .class || (env.scope.kind == .module && env.locals != env.globals)) = false)
    (h : wpAny (model prog w) A (eval iter env) (fun xv s₁ => wpAny (model prog w) A (pyIter xv) (AcAt prog w A env y x scope cl ifs elt p F Q) E s₁) E s)
    (hs : ∀ x, foldedSetIterable iter env x = pure x) :
    wpAny (model prog w) A (exec (.Assign [.Name y py] (.ListComp elt [⟨.Name x px, iter, ifs, 0⟩] scope pos) spos) env) Q E s :=
  wpAny_Assign_ListComp_free p F hsw hclos hcell hkind hnames hx hy hp h hs
theorem pi_str {x : Str} {scope : Scope} {cl : List (Str × Addr)} {elt : Expr} {Q : Value → Shared → Prop} {xt : Str} {t : Tok} (R : Nat → Value → Prop) (hh : A.handled = none) (hsz : xt.cps.size ≤ sizeLine)
    (turn : ∀ C c u (s₃ : Shared) m₃ E', c ∈ xt.cps.toList → Fr s.heap C s₃.heap m₃ → News s.heap C s₃.heap [] → m₃ x = some (.str ⟨#[c]⟩ u) →
      wpAny (model prog w) A (eval elt (compEnvC scope cl C env)) (fun y s₄ => R c y ∧ Keeps s₃ s₄) E' s₃)
    (fin : ∀ it o, CoreAt prog w A env x scope cl [] elt (fun _ => true) (FS R) s.heap xt.cps.toList R it { s with heap := s.heap.push o } → Q it { s with heap := s.heap.push o }) :
    wpAny (model prog w) A (pyIter (.str xt t)) Q E s := by
  refine wpAny_pyIter_str fun o St hW hst => ?_
  have W := hW A hh
  have e : xt.cps.size = xt.cps.toList.length := by simp
  rw [e] at W hsz
  exact fin _ _ (core_at1 (fun a v => ∃ u, v = .str ⟨#[a]⟩ u) R (fun a a' v h1 h2 => by obtain ⟨u, rfl⟩ := h1; obtain ⟨u', e'⟩ := h2; cases e'; rfl)
    W hsz hst (fun b hb => by rw [List.mem_singleton.mp hb, Heap.size_push]; exact Nat.lt_succ_self _)
    (fun i v hv => by obtain ⟨c, u, hc, rfl⟩ := hv; exact ⟨c, by rw [Array.getElem?_toList]; exact hc, u, rfl⟩)
    (fun C a v s₃ m₃ E' ha hi F N hm => by obtain ⟨u, rfl⟩ := hi; exact turn C a u s₃ m₃ E' ha F N hm))
theorem pi_list {α : Type} {items : List α} {x : Str} {scope : Scope} {cl : List (Str × Addr)} {elt : Expr} {Q : Value → Shared → Prop} {l : Addr} {its : List Value} (Is R : α → Value → Prop) (hu : ∀ a a' v, Is a v → Is a' v → a = a') (hh : A.handled = none)
    (hl : s.heap.IsList l its.toArray) (hI : All2 Is items its) (hn : items.length ≤ sizeLine)
    (turn : ∀ C a v (s₃ : Shared) m₃ E', a ∈ items → Is a v → Fr s.heap C s₃.heap m₃ → News s.heap C s₃.heap [] → m₃ x = some v →
      wpAny (model prog w) A (eval elt (compEnvC scope cl C env)) (fun y s₄ => R a y ∧ Keeps s₃ s₄) E' s₃)
    (fin : ∀ it o, CoreAt prog w A env x scope cl [] elt (fun _ => true) (fun v y => ∀ a, Is a v → R a y) s.heap items R it { s with heap := s.heap.push o } → Q it { s with heap := s.heap.push o }) :
    wpAny (model prog w) A (pyIter (.ref l)) Q E s := by
  refine wpAny_pyIter_list hl ?_
  have hlt : l < s.heap.objs.size := by obtain ⟨_, e, _⟩ := hl; exact Heap.lt_size e
  have W := Walks.list (prog := prog) (w := w) hh s.heap.objs.size l (Nat.ne_of_lt hlt) its.toArray
  have e : its.toArray.size = items.length := by rw [List.size_toArray]; exact hI.length.symm
  rw [e] at W
  exact fin _ _ (core_at1 (items := items) (P := fun i v => its.toArray[i]? = some v) Is R hu W hn ⟨⟨_, Heap.get?_push_size _ rfl, rfl, rfl⟩, hl.push _⟩
    (fun b hb => by
      rw [Heap.size_push]
      rcases List.mem_cons.mp hb with rfl | hb
      · exact Nat.lt_succ_self _
      · rw [List.mem_singleton.mp hb]; exact Nat.lt_succ_of_lt hlt)
    (fun i v hv => hI.at i v (by simpa using hv)) turn)
noncomputable def pInt (pz : Nat → Bool) (v : Value) : Bool := match v with | .int i _ => pz i.toNat | _ => false
theorem pi_range {x : Str} {scope : Scope} {cl : List (Str × Addr)} {ifs : List Expr} {elt : Expr} {Q : Value → Shared → Prop} {r : Addr} {n : Nat} {t u v : Tok} (R : Nat → Value → Prop) (pz : Nat → Bool) (hh : A.handled = none) (hr : IsRange s.heap r 0 (n : Int) 1 t u v) (hn : n ≤ 1000)
    (tests : ∀ C (k : Nat) u (s₃ : Shared) m₃ E', k < n → Fr s.heap C s₃.heap m₃ → News s.heap C s₃.heap [] → m₃ x = some (.int (k : Int) u) →
      wpAny (model prog w) A (forIn ifs true fun c r => if r = true then do let ok ← isTrue c (compEnvC scope cl C env) (eval c (compEnvC scope cl C env)); pure (ForInStep.yield ok) else pure (ForInStep.yield r))
      (fun ok s₄ => ok = pz k ∧ Keeps s₃ s₄) E' s₃)
    (turn : ∀ C (k : Nat) u (s₃ : Shared) m₃ E', k < n → Fr s.heap C s₃.heap m₃ → News s.heap C s₃.heap [] → m₃ x = some (.int (k : Int) u) →
      wpAny (model prog w) A (eval elt (compEnvC scope cl C env)) (fun y s₄ => R k y ∧ Keeps s₃ s₄) E' s₃)
    (fin : ∀ it o, CoreAt prog w A env x scope cl ifs elt (pInt pz) (FN R) s.heap ((List.range n).filter pz) R it { s with heap := s.heap.push o } → Q it { s with heap := s.heap.push o }) :
    wpAny (model prog w) A (pyIter (.ref r)) Q E s := by
  refine wpAny_pyIter_range hr (small_one (by decide) (by decide) (by (first | lia | omega)) (by (first | lia | omega))) ?_
  have hsz : Builtin.Range.rangeSize 0 (n : Int) 1 = (n : Int) := by rw [rangeSize_nat]; (first | lia | omega)
  have W : Walks prog w A s.heap.objs.size [s.heap.objs.size] [s.heap.objs.size] n (fun i v => i < n ∧ ∃ t, v = .int (0 + i * 1) t)
      (fun i h => IsRangeIter h s.heap.objs.size (0 + (i : Nat) * 1) ((n : Int) - (i : Nat)) 1) := (Walks.range hh _ 0 1 n).bound
  have e : n = (List.range n).length := by simp
  refine fin _ _ (core_at (s := s) (items := List.range n) (P := fun i v => i < n ∧ ∃ t, v = .int (0 + i * 1) t) (fun (a : Nat) v => ∃ u, v = .int (a : Int) u) R (fun a a' v h1 h2 => ?_) _ pz (fun a v hi => ?_) (by rw [← e]; exact W) (by rw [← e, sizeLine_eq]; (first | lia | omega)) (by show IsRangeIter _ _ _ _ _; rw [hsz]; simpa using Heap.get?_push_size _ rfl) (fun b hb => ?_) (fun i v hv => ?_) (fun C a v s₃ m₃ E' ha hi F N hm => ?_) (fun C a v s₃ m₃ E' ha _ hi F N hm => ?_))
  · obtain ⟨u, rfl⟩ := h1
    obtain ⟨u', e'⟩ := h2
    injection e' with e1 _
    (first | lia | omega)
  · obtain ⟨u, rfl⟩ := hi
    rfl
  · rw [List.mem_singleton.mp hb, Heap.size_push]; exact Nat.lt_succ_self _
  · obtain ⟨hi, t', rfl⟩ := hv
    exact ⟨i, by simp [hi], t', by congr 1; (first | lia | omega)⟩
  · obtain ⟨u, rfl⟩ := hi
    exact tests C a u s₃ m₃ E' (List.mem_range.mp ha) F N hm
  · obtain ⟨u, rfl⟩ := hi
    exact turn C a u s₃ m₃ E' (List.mem_range.mp ha) F N hm
theorem pi_range0 {x : Str} {scope : Scope} {cl : List (Str × Addr)} {elt : Expr} {Q : Value → Shared → Prop} {r : Addr} {n : Nat} {t u v : Tok} (R : Nat → Value → Prop) (hh : A.handled = none) (hr : IsRange s.heap r 0 (n : Int) 1 t u v) (hn : n ≤ 1000)
    (turn : ∀ C (k : Nat) u (s₃ : Shared) m₃ E', k < n → Fr s.heap C s₃.heap m₃ → News s.heap C s₃.heap [] → m₃ x = some (.int (k : Int) u) →
      wpAny (model prog w) A (eval elt (compEnvC scope cl C env)) (fun y s₄ => R k y ∧ Keeps s₃ s₄) E' s₃)
    (fin : ∀ it o, CoreAt prog w A env x scope cl [] elt (fun _ => true) (FN R) s.heap (List.range n) R it { s with heap := s.heap.push o } → Q it { s with heap := s.heap.push o }) :
    wpAny (model prog w) A (pyIter (.ref r)) Q E s := by
  refine wpAny_pyIter_range hr (small_one (by decide) (by decide) (by (first | lia | omega)) (by (first | lia | omega))) ?_
  have hsz : Builtin.Range.rangeSize 0 (n : Int) 1 = (n : Int) := by rw [rangeSize_nat]; (first | lia | omega)
  have W : Walks prog w A s.heap.objs.size [s.heap.objs.size] [s.heap.objs.size] n (fun i v => i < n ∧ ∃ t, v = .int (0 + i * 1) t)
      (fun i h => IsRangeIter h s.heap.objs.size (0 + (i : Nat) * 1) ((n : Int) - (i : Nat)) 1) := (Walks.range hh _ 0 1 n).bound
  have e : n = (List.range n).length := by simp
  refine fin _ _ (core_at1 (s := s) (items := List.range n) (P := fun i v => i < n ∧ ∃ t, v = .int (0 + i * 1) t) (fun (a : Nat) v => ∃ u, v = .int (a : Int) u) R (fun a a' v h1 h2 => ?_) (by rw [← e]; exact W) (by rw [← e, sizeLine_eq]; (first | lia | omega)) (by show IsRangeIter _ _ _ _ _; rw [hsz]; simpa using Heap.get?_push_size _ rfl) (fun b hb => ?_) (fun i v hv => ?_) (fun C a v s₃ m₃ E' ha hi F N hm => ?_))
  · obtain ⟨u, rfl⟩ := h1
    obtain ⟨u', e'⟩ := h2
    injection e' with e1 _
    (first | lia | omega)
  · rw [List.mem_singleton.mp hb, Heap.size_push]; exact Nat.lt_succ_self _
  · obtain ⟨hi, t', rfl⟩ := hv
    exact ⟨i, by simp [hi], t', by congr 1; (first | lia | omega)⟩
  · obtain ⟨u, rfl⟩ := hi
    exact turn C a u s₃ m₃ E' (List.mem_range.mp ha) F N hm
end
theorem all2_unmap {α β γ : Type} {R : γ → β → Prop} {R' : α → β → Prop} {f : α → γ} {l : List α} {k : List β} (h : All2 R (l.map f) k) (hi : ∀ a ∈ l, ∀ b, R (f a) b → R' a b) : All2 R' l k := by
  induction l generalizing k with
  | nil => cases h; exact .nil
  | cons a l ih => cases h with
    | cons hr h => exact .cons (hi a (.head _) _ hr) (ih h fun a ha => hi a (.tail _ ha))
theorem led_new {g h h' : Heap} {L D : Addr} {m : Str → Option Value} {o : Obj} {news : List (Addr × Obj)} (F : Fr g L h m) (hD0 : h.get? D = none) (hD : h'.get? D = some o) (N : News g L h' news) : News g L h' ((D, o) :: news) := fun p hp => by
  rcases List.mem_cons.mp hp with rfl | hp
  · refine ⟨hD, fun e => ?_, ?_⟩
    · obtain ⟨oL, _, _, e1, _⟩ := F.ns
      have e' : D = L := e
      rw [← e', hD0] at e1; cases e1
    · cases e : g.get? D with
      | none => rfl
      | some o' => have := F.keep D o' e; rw [hD0] at this; cases this
  · exact N p hp
end Mine

namespace Mine
/-- how a turn ends when the ledger's addresses may move -/
noncomputable def MEnd {σ : Type} (h₀ : Heap) (L : Addr) (own : List (Addr × Obj)) (Led : σ → List (Addr × Obj)) (ps : σ → List (Str × Value)) (x : Str) (stored : List Str) (m₀ : Str → Option Value) (P : σ → Prop) (s₁ : Shared) (f : Flow) (s₂ : Shared) : Prop :=
  (f = .next ∨ f = .cont) ∧ ∃ h' tk m' c, s₂ = { s₁ with heap := h', toks := tk } ∧ Fr h₀ L h' m' ∧ News h₀ L h' (Led c ++ own) ∧ P c ∧ (∀ p ∈ ps c, m' p.1 = some p.2) ∧ (∀ z, z ≠ x → (∀ p ∈ ps c, z ≠ p.1) → stored.contains z = false → m' z = m₀ z)
theorem MEnd.intro {σ : Type} {h₀ : Heap} {L : Addr} {own : List (Addr × Obj)} {Led : σ → List (Addr × Obj)} {ps : σ → List (Str × Value)} {x : Str} {stored : List Str} {m₀ m' : Str → Option Value} {P : σ → Prop} {s₁ : Shared} {h' : Heap} {tk : Nat} {news : List (Addr × Obj)} (c : σ)
    (F : Fr h₀ L h' m') (N : News h₀ L h' news) (hn : ∀ p ∈ Led c, p ∈ news) (ho : ∀ p ∈ own, p ∈ news) (hp : P c) (hk : ∀ p ∈ ps c, m' p.1 = some p.2) (hr : ∀ z, z ≠ x → (∀ p ∈ ps c, z ≠ p.1) → stored.contains z = false → m' z = m₀ z) :
    MEnd h₀ L own Led ps x stored m₀ P s₁ .next { s₁ with heap := h', toks := tk } :=
  ⟨.inl rfl, h', tk, m', c, rfl, F, fun p hp => N p ((List.mem_append.mp hp).elim (hn p) (ho p)), hp, hk, hr⟩
section
variable {prog : Program} {w : World} {A : Around} {E : Value → Shared → Prop} {s : Shared} {env : Env} {h₀ : Heap} {x : Str} {body : List Stmt} {Q : Flow → Shared → Prop}
theorem kmv_range {σ : Type} {r : Addr} {b₀ st : Int} {t₀ u₀ v₀ : Tok} {n : Nat} {m₀ : Str → Option Value} (Led : σ → List (Addr × Obj)) (ps : σ → List (Str × Value)) (stored : List Str) (P : Nat → σ → Prop) (c₀ : σ)
    (hh : A.handled = none) (hr : IsRange s.heap r 0 b₀ st t₀ u₀ v₀) (hsmall : Builtin.Range.small 0 b₀ st = true) (hn : Builtin.Range.rangeSize 0 b₀ st = (n : Int)) (F : Fr h₀ env.locals s.heap m₀) (N : News h₀ env.locals s.heap (Led c₀))
    (hlist : ∀ c, ∀ p ∈ Led c, p.2.cls = .type "list") (hk : ∀ p ∈ ps c₀, m₀ p.1 = some p.2) (hp : P 0 c₀)
    (turn : ∀ (c : σ) (i : Nat) t (u : Str → Option Value) h tk own, i < n → P i c →
      Fr h₀ env.locals h (fun y => if y = x then some (.int ((i : Int) * st) t) else kstB (fun z => if stored.contains z then u z else m₀ z) (ps c) y) → News h₀ env.locals h (Led c ++ own) →
      wpAny (model prog w) A (execs body env) (MEnd h₀ env.locals own Led ps x stored m₀ (P (i + 1)) { s with heap := h, toks := tk }) E { s with heap := h, toks := tk })
    (done : ∀ (c : σ) (u : Str → Option Value) h tk, P n c → Fr h₀ env.locals h (fun y => if y = x then u y else kstB (fun z => if stored.contains z then u z else m₀ z) (ps c) y) → News h₀ env.locals h (Led c) → Q .next { s with heap := h, toks := tk }) :
    wpAny (model prog w) A (pyIter (.ref r)) (fun it s₂ => LoopAtV prog w A h₀ env x body Q E it s₂) E s := by
  refine wpAny_pyIter_range hr hsmall ?_
  have W : Walks prog w A s.heap.objs.size [s.heap.objs.size] [s.heap.objs.size] n (fun i v => i < n ∧ ∃ t, v = .int (0 + i * st) t)
      (fun i h => IsRangeIter h s.heap.objs.size (0 + (i : Nat) * st) ((n : Int) - (i : Nat)) st) := (Walks.range hh _ 0 st n).bound
  refine ⟨_, _, _, n, _, _, m₀, Led c₀, fun i m nx => ∃ c, nx = Led c ∧ P i c ∧ (∀ p ∈ ps c, m p.1 = some p.2) ∧ (∀ z, z ≠ x → (∀ p ∈ ps c, z ≠ p.1) → stored.contains z = false → m z = m₀ z), rfl, W, ?_, ?_, ?_, (by show IsRangeIter _ _ _ _ _; rw [hn]; simpa using Heap.get?_push_size _ rfl), F.push _, (fun p hp => ⟨Heap.get?_push_of_some _ (N p hp).1, (N p hp).2⟩), ⟨c₀, rfl, hp, hk, fun _ _ _ _ => rfl⟩, ?_, ?_⟩
  · intro hm
    exact absurd F.ns.lt ((List.mem_singleton.mp hm) ▸ Nat.lt_irrefl _)
  · intro b hb
    rw [List.mem_singleton.mp hb]
    exact next_is_new F
  · intro p hp hI
    exact absurd (Heap.lt_size (N p hp).1) ((List.mem_singleton.mp hI) ▸ Nat.lt_irrefl _)
  · rintro i v m₁ news₁ s₁ own ⟨hh', tk', rfl⟩ _ ⟨hi, t, rfl⟩ ⟨c, rfl, hP, h1, h2⟩ _ _ _ hfp hst F₁ N₁
    have e1 : (0 : Int) + (i : Int) * st = (i : Int) * st := Int.zero_add _
    rw [e1] at F₁
    refine wpAny_mono (turn c i t m₁ hh' tk' own hi hP (kst_fr h1 h2 F₁) fun p hp => N₁ p (List.mem_append.mpr (List.mem_append.mp hp).symm)) (fun f s₂ hf => ?_) fun _ _ e => e
    obtain ⟨hf, h', tk, m', c', e, F', N', hP', hk', hr'⟩ := hf
    have hI : ∃ oI, hh'.get? s.heap.objs.size = some oI ∧ oI.cls ≠ .type "list" := by
      have q : IsRangeIter hh' s.heap.objs.size _ _ _ := hst
      refine ⟨_, q, ?_⟩
      show (Value.type "range_iterator") ≠ .type "list"
      decide
    obtain ⟨oI, hoI, hcI⟩ := hI
    have hmem := hfp s.heap.objs.size (.head _) (next_is_new F) oI hoI
    have off : ∀ p ∈ Led c', p.1 ∉ [s.heap.objs.size] := by
      intro p hp hm
      have e1 := (N' p (List.mem_append_left _ hp)).1
      have e2 := (N' _ (List.mem_append_right _ hmem)).1
      rw [List.mem_singleton.mp hm, e2] at e1
      cases e1
      exact hcI (hlist c' p hp)
    have U : LoopStepU h₀ env.locals [s.heap.objs.size] own (fun m nx => ∃ c, nx = Led c ∧ P (i + 1) c ∧ (∀ p ∈ ps c, m p.1 = some p.2) ∧ (∀ z, z ≠ x → (∀ p ∈ ps c, z ≠ p.1) → stored.contains z = false → m z = m₀ z)) { s with heap := hh', toks := tk' } .next s₂ :=
      ⟨rfl, h', tk, m', Led c', e, F', fun p hp => N' p (List.mem_append.mpr (List.mem_append.mp hp).symm), off, c', rfl, hP', hk', hr'⟩
    rcases hf with rfl | rfl
    · exact U
    · exact U
  · rintro h' tk m' news' F' N' _ ⟨c, rfl, hP, h1, h2⟩
    exact done c m' h' tk hP (kst_frOut h1 h2 F') N'
end
end Mine

namespace Mine
section
variable {prog : Program} {w : World} {A : Around} {E : Value → Shared → Prop} {s : Shared} {env : Env} {h₀ : Heap} {x : Str} {body : List Stmt} {Q : Flow → Shared → Prop}
/-- a loop over a list of anything, the state at place i -/
theorem kix_list {σ α : Type} {l : Addr} {vs : List Value} {items : List α} (Is : α → Value → Prop) {m₀ : Str → Option Value} (Led : σ → List (Addr × Obj)) (ps : σ → List (Str × Value)) (Facts : σ → Prop) (stored : List Str) (P : Nat → σ → Prop) (c₀ : σ)
    (hh : A.handled = none) (hl : h₀.IsList l vs.toArray) (hi : All2 Is items vs) (F : Fr h₀ env.locals s.heap m₀) (N : News h₀ env.locals s.heap (Led c₀)) (hf : Facts c₀) (hk : ∀ p ∈ ps c₀, m₀ p.1 = some p.2) (hp : P 0 c₀)
    (turn : ∀ (c : σ) (i : Nat) a v (u : Str → Option Value) h tk own, items[i]? = some a → Is a v → OwnOff own ((Led c₀).map (·.1)) → Facts c → P i c →
      Fr h₀ env.locals h (fun y => if y = x then some v else kstB (fun z => if stored.contains z then u z else m₀ z) (ps c) y) → News h₀ env.locals h (Led c ++ own) →
      wpAny (model prog w) A (execs body env) (InvPostN h₀ env.locals (KstS Led ps Facts x stored m₀ (fun pre c => P pre.length c) (List.replicate (i + 1) 0)) own ((Led c₀).map (·.1)) { s with heap := h, toks := tk } Q) E { s with heap := h, toks := tk })
    (done : ∀ (c : σ) (u : Str → Option Value) h tk, Facts c → P items.length c → Fr h₀ env.locals h (fun y => if y = x then u y else kstB (fun z => if stored.contains z then u z else m₀ z) (ps c) y) → News h₀ env.locals h (Led c) → Q .next { s with heap := h, toks := tk }) :
    wpAny (model prog w) A (pyIter (.ref l)) (fun it s₂ => LoopAtV prog w A h₀ env x body Q E it s₂) E s := by
  have hls : s.heap.IsList l vs.toArray := hl.at fun o e => F.keep l o e
  obtain ⟨ol, hol, _⟩ := id hl
  have hlt : l < h₀.objs.size := Heap.lt_size hol
  have hne : l ≠ s.heap.objs.size := Nat.ne_of_lt (Nat.lt_trans (Nat.lt_of_lt_of_le hlt F.above) F.ns.lt)
  refine wpAny_pyIter_list hls ?_
  have W := Walks.list (prog := prog) (w := w) hh s.heap.objs.size l hne vs.toArray
  have hlen : vs.toArray.size = items.length := by rw [List.size_toArray]; exact hi.length.symm
  rw [hlen] at W
  refine loop_invN (fun i m nx => KstS Led ps Facts x stored m₀ (fun pre c => P pre.length c) (List.replicate i 0) m nx) W ?_ ?_ ?_ ?_ ⟨⟨_, Heap.get?_push_size _ rfl, rfl, rfl⟩, hls.at fun o e => Heap.get?_push_of_some _ e⟩ (F.push _) (fun p hp => ⟨Heap.get?_push_of_some _ (N p hp).1, (N p hp).2⟩) ⟨c₀, rfl, hf, hk, fun _ _ _ _ => rfl, hp⟩ ?_ ?_
  · intro hm
    rcases List.mem_cons.mp hm with e | hm
    · exact absurd F.ns.lt (e ▸ Nat.lt_irrefl _)
    · exact absurd (Nat.lt_of_lt_of_le hlt F.above) ((List.mem_singleton.mp hm) ▸ Nat.lt_irrefl _)
  · intro b hb
    rw [List.mem_singleton.mp hb]
    exact next_is_new F
  · intro p hp hI
    exact absurd (Heap.lt_size (N p hp).1) ((List.mem_singleton.mp hI) ▸ Nat.lt_irrefl _)
  · intro p hp hI
    rcases List.mem_cons.mp hI with e | hm
    · exact absurd (Heap.lt_size (N p hp).1) (e ▸ Nat.lt_irrefl _)
    · have e := List.mem_singleton.mp hm
      have q := (N p hp).2.2
      rw [e, hol] at q; cases q
  · rintro i v m₁ nx h tk own hin hP _ hoff ⟨c, rfl, hf', h1, h2, hp'⟩ F₁ N₁
    obtain ⟨a, ha, hia⟩ := hi.at i v (by simpa using hP)
    exact turn c i a v m₁ h tk own ha hia hoff hf' (by simpa using hp') (kst_fr h1 h2 F₁) N₁
  · rintro m₁ nx h tk ⟨c, rfl, hf', h1, h2, hp'⟩ F₁ N₁
    exact done c m₁ h tk hf' (by simpa using hp') (kst_frOut h1 h2 F₁) N₁
end
end Mine

namespace Mine
/-- one turn of convertbits: (acc, bits, out) -/
noncomputable def drain (tb acc b : Nat) (out : List Nat) : List Nat := out ++ (List.range (b / tb)).map fun i => (acc >>> (b - tb * (i + 1))) &&& (2 ^ tb - 1)
noncomputable def cbacc (fb tb a v : Nat) : Nat := ((a <<< fb) ||| v) &&& (2 ^ (fb + tb - 1) - 1)
noncomputable def cbst (fb tb : Nat) (S : Nat × Nat × List Nat) (v : Nat) : Nat × Nat × List Nat :=
  (cbacc fb tb S.1 v, (S.2.1 + fb) % tb, drain tb (cbacc fb tb S.1 v) (S.2.1 + fb) S.2.2)
noncomputable def cbrun (fb tb : Nat) (ns : List Nat) : Nat × Nat × List Nat := ns.foldl (cbst fb tb) (0, 0, [])
theorem drain_step {tb acc b : Nat} {out : List Nat} (ht : 0 < tb) (h : tb ≤ b) : drain tb acc b out = drain tb acc (b - tb) (out ++ [(acc >>> (b - tb)) &&& (2 ^ tb - 1)]) := by
  have e : b / tb = (b - tb) / tb + 1 := by rw [Nat.div_eq_sub_div ht h]
  unfold drain
  rw [e, List.range_succ_eq_map, List.map_cons, List.map_map, List.append_assoc]
  congr 1
  rw [List.singleton_append]
  congr 1
  · congr 2; (first | lia | omega)
  refine List.map_congr_left fun i _ => ?_
  show acc >>> (b - tb * (i + 1 + 1)) &&& _ = _
  congr 2
  rw [Nat.mul_add tb (i + 1) 1, Nat.mul_one, Nat.sub_sub, Nat.add_comm]
theorem drain_end {tb acc b : Nat} {out : List Nat} (h : b < tb) : drain tb acc b out = out := by
  unfold drain
  rw [Nat.div_eq_of_lt h]; simp
theorem cbrun_snoc (fb tb : Nat) (ns : List Nat) (v : Nat) : cbrun fb tb (ns ++ [v]) = cbst fb tb (cbrun fb tb ns) v := by
  unfold cbrun; rw [List.foldl_append]; rfl
theorem cbrun_bits (fb tb : Nat) (ns : List Nat) : (cbrun fb tb ns).2.1 = (ns.length * fb) % tb := by
  suffices h : ∀ (ns : List Nat) S, (ns.foldl (cbst fb tb) S).2.1 % tb = (S.2.1 + ns.length * fb) % tb ∧ (ns ≠ [] → (ns.foldl (cbst fb tb) S).2.1 = (S.2.1 + ns.length * fb) % tb) by
    have := h ns (0, 0, [])
    cases ns with
    | nil => simp [cbrun]
    | cons a r => rw [cbrun, this.2 (by simp)]; simp
  intro ns
  induction ns with
  | nil => intro S; simp
  | cons a r ih =>
    intro S
    have e : (cbst fb tb S a).2.1 = (S.2.1 + fb) % tb := rfl
    have q : ((S.2.1 + fb) % tb + r.length * fb) % tb = (S.2.1 + (a :: r).length * fb) % tb := by
      rw [Nat.mod_add_mod, List.length_cons, Nat.add_mul, Nat.one_mul]; congr 1; (first | lia | omega)
    refine ⟨?_, fun _ => ?_⟩
    · rw [List.foldl_cons, (ih _).1, e, q]
    · rw [List.foldl_cons]
      cases r with
      | nil => show (cbst fb tb S a).2.1 = _; rw [e]; simp
      | cons a' r' => rw [(ih _).2 (by simp), e, q]
theorem cbrun_acc_lt (fb tb : Nat) (ns : List Nat) : (cbrun fb tb ns).1 < 2 ^ (fb + tb - 1) := by
  rcases List.eq_nil_or_concat ns with rfl | ⟨l, v, rfl⟩
  · show 0 < _; exact Nat.two_pow_pos _
  · rw [List.concat_eq_append, cbrun_snoc]
    show cbacc fb tb _ v < _
    unfold cbacc
    have h0 : 0 < 2 ^ (fb + tb - 1) := Nat.two_pow_pos _
    exact Nat.lt_of_le_of_lt Nat.and_le_right (by (first | lia | omega))
theorem cbrun_out_len (fb tb : Nat) (ns : List Nat) : (cbrun fb tb ns).2.2.length * tb + (cbrun fb tb ns).2.1 = ns.length * fb := by
  suffices h : ∀ (ns : List Nat) S, (ns.foldl (cbst fb tb) S).2.2.length * tb + (ns.foldl (cbst fb tb) S).2.1 = S.2.2.length * tb + S.2.1 + ns.length * fb by
    have := h ns (0, 0, []); simpa [cbrun] using this
  intro ns
  induction ns with
  | nil => intro S; simp
  | cons a r ih =>
    intro S
    rw [List.foldl_cons, ih]
    show (drain tb _ (S.2.1 + fb) S.2.2).length * tb + (S.2.1 + fb) % tb + _ = _
    unfold drain
    rw [List.length_append, List.length_map, List.length_range, Nat.add_mul, List.length_cons, Nat.add_mul]
    have := Nat.div_add_mod (S.2.1 + fb) tb
    rw [Nat.mul_comm] at this
    (first | lia | omega)
/-- 8 to 5, padded -/
noncomputable def to5 (ns : List Nat) : List Nat :=
  (cbrun 8 5 ns).2.2 ++ if (cbrun 8 5 ns).2.1 ≠ 0 then [((cbrun 8 5 ns).1 <<< (5 - (cbrun 8 5 ns).2.1)) &&& 31] else []
theorem to5_len (ns : List Nat) : (to5 ns).length = (ns.length * 8 + 4) / 5 := by
  have h := cbrun_out_len 8 5 ns
  have h2 : (cbrun 8 5 ns).2.1 < 5 := by rw [cbrun_bits]; exact Nat.mod_lt _ (by decide)
  unfold to5
  rw [List.length_append]
  split <;> simp <;> (first | lia | omega)
theorem drain_lt {tb acc b : Nat} {out : List Nat} (h : ∀ d ∈ out, d < 2 ^ tb) : ∀ d ∈ drain tb acc b out, d < 2 ^ tb := by
  intro d hd
  rcases List.mem_append.mp hd with hd | hd
  · exact h d hd
  · obtain ⟨i, -, rfl⟩ := List.mem_map.mp hd
    have := Nat.two_pow_pos tb
    exact Nat.lt_of_le_of_lt Nat.and_le_right (by (first | lia | omega))
theorem cbrun_lt (fb tb : Nat) (ns : List Nat) : ∀ d ∈ (cbrun fb tb ns).2.2, d < 2 ^ tb := by
  suffices h : ∀ (ns : List Nat) S, (∀ d ∈ S.2.2, d < 2 ^ tb) → ∀ d ∈ (ns.foldl (cbst fb tb) S).2.2, d < 2 ^ tb from h ns _ (by simp)
  intro ns
  induction ns with
  | nil => intro S h; exact h
  | cons a r ih => intro S h; rw [List.foldl_cons]; exact ih _ (drain_lt h)
theorem to5_lt (ns : List Nat) : ∀ d ∈ to5 ns, d < 32 := by
  intro d hd
  rcases List.mem_append.mp hd with hd | hd
  · exact cbrun_lt 8 5 ns d hd
  · split at hd
    · simp at hd; subst hd; exact Nat.lt_of_le_of_lt Nat.and_le_right (by decide)
    · simp at hd
/-- what the return trip sees at its end -/
theorem and_low5 (a v : Nat) (hv : v < 32) : cbacc 5 8 a v % 32 = v := by
  unfold cbacc
  rw [Nat.and_two_pow_sub_one_eq_mod]
  rw [Nat.mod_mod_of_dvd _ (by decide : (32 : Nat) ∣ 2 ^ (5 + 8 - 1))]
  have : ((a <<< 5) ||| v) = a <<< 5 + v := by rw [Nat.shiftLeft_add_eq_or_of_lt (by simpa using hv)]
  rw [this, Nat.shiftLeft_eq]
  (first | lia | omega)
theorem back (ns : List Nat) : let R := cbrun 5 8 (to5 ns); R.2.1 < 5 ∧ (R.1 <<< (8 - R.2.1)) &&& 255 = 0 ∧ R.2.2.length = ns.length := by
  intro R
  have hl := cbrun_out_len 5 8 (to5 ns)
  have hb : R.2.1 = ((to5 ns).length * 5) % 8 := cbrun_bits 5 8 (to5 ns)
  have h5 := cbrun_out_len 8 5 ns
  have hb5 : (cbrun 8 5 ns).2.1 = (ns.length * 8) % 5 := cbrun_bits 8 5 ns
  have ht := to5_len ns
  have hR : R.2.1 = (to5 ns).length * 5 - ns.length * 8 := by rw [hb, ht]; (first | lia | omega)
  refine ⟨by (first | lia | omega), ?_, ?_⟩
  · by_cases h0 : R.2.1 = 0
    · rw [h0, Nat.and_two_pow_sub_one_eq_mod (n := 8), Nat.shiftLeft_eq]
      exact Nat.mul_mod_left _ _
    · have hne : (cbrun 8 5 ns).2.1 ≠ 0 := by (first | lia | omega)
      have e : to5 ns = (cbrun 8 5 ns).2.2 ++ [((cbrun 8 5 ns).1 <<< (5 - (cbrun 8 5 ns).2.1)) &&& 31] := by unfold to5; rw [if_pos hne]
      have e2 : R.1 = cbacc 5 8 (cbrun 5 8 (cbrun 8 5 ns).2.2).1 (((cbrun 8 5 ns).1 <<< (5 - (cbrun 8 5 ns).2.1)) &&& 31) := by
        show (cbrun 5 8 (to5 ns)).1 = _
        rw [e, cbrun_snoc]; rfl
      have hr5 : R.2.1 = 5 - (cbrun 8 5 ns).2.1 := by (first | lia | omega)
      have h3 : R.1 % 32 = ((cbrun 8 5 ns).1 <<< (5 - (cbrun 8 5 ns).2.1)) &&& 31 := by rw [e2]; exact and_low5 _ _ (Nat.lt_of_le_of_lt Nat.and_le_right (by decide))
      rw [← hr5] at h3
      have hlt : R.2.1 < 5 := by (first | lia | omega)
      generalize R.1 = a at *
      generalize R.2.1 = b at *
      generalize (cbrun 8 5 ns).1 = c at *
      rw [Nat.and_two_pow_sub_one_eq_mod (n := 5), Nat.shiftLeft_eq] at h3
      rw [Nat.and_two_pow_sub_one_eq_mod (n := 8), Nat.shiftLeft_eq]
      have : b = 1 ∨ b = 2 ∨ b = 3 ∨ b = 4 := by (first | lia | omega)
      rcases this with rfl | rfl | rfl | rfl <;> simp only [Nat.reducePow, Nat.reduceSub] at * <;> (first | lia | omega)
  · have : R.2.2.length * 8 + R.2.1 = (to5 ns).length * 5 := hl
    (first | lia | omega)
end Mine

local macro_rules | `(tactic| walk_at "binaryOp BitAnd int int") => `(tactic| (with_unfolding_all refine Mine.and_nat (Eq.refl _) (Eq.refl _) ?_))
local macro_rules | `(tactic| walk_at "binaryOp BitXor int int") => `(tactic| (with_unfolding_all refine Mine.xor_nat (Eq.refl _) (Eq.refl _) ?_))
local macro_rules | `(tactic| walk_at "binaryOp BitOr int int") => `(tactic| (with_unfolding_all refine Mine.or_nat (Eq.refl _) (Eq.refl _) ?_))
local macro_rules | `(tactic| walk_at "inplaceOp BitXor int int") => `(tactic| (with_unfolding_all refine Mine.ixor_nat (Eq.refl _) (Eq.refl _) ?_))
local macro_rules | `(tactic| walk_at "binaryOp RShift int int") => `(tactic| first | (with_unfolding_all refine Mine.shr_nat (Eq.refl _) (Eq.refl _) ?_) | (with_unfolding_all refine Mine.shr_intP (Eq.refl _) (by omega) ?_))
local macro_rules | `(tactic| walk_at "binaryOp LShift int int") => `(tactic| (with_unfolding_all refine Mine.shl_nat (Eq.refl _) (Eq.refl _) (by first | omega | exact Nat.lt_of_le_of_lt Nat.and_le_right (by decide)) (by first | decide | omega) ?_))
local macro_rules | `(tactic| walk_at "eval Name") => `(tactic| (
  (with_reducible show wpAny _ _ (eval (Expr.Name _ _) (compEnvC _ _ _ _)) _ _ _);
  (rename Fr _ _ _ _ => cF);
  (first
    | (refine Mine.cn_local cF (by first | assumption | with_unfolding_all rfl) ?_ (by with_unfolding_all rfl) (by with_unfolding_all rfl) (by decide))
    | (refine Mine.cn_cell cF (by with_unfolding_all rfl) (by assumption) (by assumption) ?_ (by with_unfolding_all rfl) (by with_unfolding_all rfl) (by decide))
    | (refine Mine.cn_global cF (by assumption) (by assumption) (by k_is) ?_ (by with_unfolding_all rfl) (by with_unfolding_all rfl) (by with_unfolding_all rfl) (by decide))
    | (refine Mine.cn_builtin cF (by assumption) (by assumption) (by k_is) (by boot_fast) (by decide) ?_ (by with_unfolding_all rfl) (by with_unfolding_all rfl) (by with_unfolding_all rfl) (by with_unfolding_all rfl) (by decide)))))
local macro_rules | `(tactic| walk_at "eval Name") => `(tactic| (
  (with_reducible show wpAny _ _ (eval (Expr.Name _ _) (genEnv _ _ _ _ _ _)) _ _ _);
  (rename Fr _ _ _ _ => cF);
  (first
    | (refine Mine.gn_local cF (by first | assumption | with_unfolding_all rfl) ?_ (by with_unfolding_all rfl) (by with_unfolding_all rfl) (by decide))
    | (refine Mine.gn_global cF (by assumption) (by assumption) (by k_is) ?_ (by with_unfolding_all rfl) (by with_unfolding_all rfl) (by with_unfolding_all rfl) (by decide))
    | (refine Mine.gn_builtin cF (by assumption) (by assumption) (by k_is) (by boot_fast) (by decide) ?_ (by with_unfolding_all rfl) (by with_unfolding_all rfl) (by with_unfolding_all rfl) (by decide)))))
local macro_rules | `(tactic| walk_at "call builtin:str.lower") => `(tactic| ((refine KXs.lower_K (by assumption) (by omega) ?_); intro _ _))
local macro_rules | `(tactic| walk_at "assign Tuple") => `(tactic| ((rename Fr _ _ _ _ => uF); (rename News _ _ _ _ => uN); (refine unpackN_ uF uN ⟨_, (uN _ (by k_mem)).1, rfl, _, rfl⟩ (by assumption) (by rfl) (by rfl) ?_); clear uF uN; intro _ _ _; (try dsimp only)))
local macro_rules | `(tactic| size_fits) => `(tactic| ((simp only [sizeLine_eq, List.length_map, List.length_append, List.length_cons, List.length_nil, Array.length_toList, List.length_range, List.length_replicate]); omega))
namespace Mine
theorem fillfrag_all : PySem.Challenge.rw_ai0020_01 = PySem.Challenge.rw_ai0020_01 ∧ Mine.hd.heap_1 = Mine.hd.heap_1 := by k_fill; exact ⟨rfl, rfl⟩
end Mine
namespace Mine
theorem cb8_call {w : World} {A : Around} {E : Value → Shared → Prop} {s : Shared} {p : Program} {loose : List Str} {mg mb : Str → Option Value} {Q : Value → Shared → Prop}
    (C : Cx w p loose mg mb s.heap) (hh : A.handled = none) (hd : A.depth < recursionLimit) {l : Addr} {vs : List Value} {ns : List Nat} {t1 t2 : Tok} (hl : s.heap.IsList l vs.toArray) (hi : NatsAre vs ns) (hn : ns.length ≤ 200) (hb : ∀ n ∈ ns, n < 256)
    (hret : ∀ h' tk D vs n, Ext s.heap h' → s.heap.get? D = none → h'.get? D = some (listOf vs.toArray n) → NatsAre vs (to5 ns) → Q (.ref D) { s with heap := h', toks := tk }) :
   wpAny (model PySem.Challenge.rw_ai0020_01.row.prog w) A (call (.ref 70) [.ref l, .int 8 t1, .int 5 t2]) Q E s := by
  refine enter (binds := [(Str.ofString "data", .ref l), (Str.ofString "frombits", .int 8 t1), (Str.ofString "tobits", .int 5 t2), (Str.ofString "pad", .bool true)]) C hd rfl rfl ?_ (locs rfl) ?_ rfl rfl rfl (by decide)
  · exact binds_K (T := 63) C.K rfl rfl rfl rfl rfl
  intro h₁ L F N X T
  (try dsimp only)
  (repeat' ((( (fail_if_success (with_reducible show wpAny _ _ (exec (Stmt.For _ _ _ _ _) _) _ _ _)); (fail_if_success (with_reducible show wpAny _ _ (exec (Stmt.While _ _ _ _) _) _ _ _)); (fail_if_success (with_reducible show wpAny _ _ (pyIter _) _ _ _)); (fail_if_success (with_reducible show wpAny _ _ (eval (Expr.ListComp _ _ _ _) _) _ _ _)); (fail_if_success (with_reducible show wpAny _ _ (eval (Expr.GeneratorExp _ _ _ _) _) _ _ _)); (fail_if_success (with_reducible show wpAny _ _ (exec (Stmt.Assign _ (Expr.ListComp _ _ _ _) _) _) _ _ _)); (fail_if_success (with_reducible show wpAny _ _ (PySem.call (Value.ref _) _ _) _ _ _)); (fail_if_success (with_reducible show wpAny _ _ (PySem.call (Value.builtin "list.append") _) _ _ _)); (fail_if_success (with_reducible show wpAny _ _ (PySem.call (Value.builtin "any") _) _ _ _)); (fail_if_success (with_reducible show wpAny _ _ (PySem.call (Value.type "zip") _) _ _ _)); (fail_if_success (with_reducible show wpAny _ _ (PySem.call (Value.builtin "all") _) _ _ _)); (fail_if_success (with_reducible show InvEndN _ _ _ _ _ _ _)))); first | (dsimp only; walk1) | walk1))
  (rename Fr _ _ _ _ => F)
  (rename News _ _ _ _ => N)
  obtain ⟨D, e⟩ := News.at1 N
  subst e
  refine For_invVF F (by rfl) (by rfl) ?_
  (repeat' ((( (fail_if_success (with_reducible show wpAny _ _ (exec (Stmt.For _ _ _ _ _) _) _ _ _)); (fail_if_success (with_reducible show wpAny _ _ (exec (Stmt.While _ _ _ _) _) _ _ _)); (fail_if_success (with_reducible show wpAny _ _ (pyIter _) _ _ _)); (fail_if_success (with_reducible show wpAny _ _ (eval (Expr.ListComp _ _ _ _) _) _ _ _)); (fail_if_success (with_reducible show wpAny _ _ (eval (Expr.GeneratorExp _ _ _ _) _) _ _ _)); (fail_if_success (with_reducible show wpAny _ _ (exec (Stmt.Assign _ (Expr.ListComp _ _ _ _) _) _) _ _ _)); (fail_if_success (with_reducible show wpAny _ _ (PySem.call (Value.ref _) _ _) _ _ _)); (fail_if_success (with_reducible show wpAny _ _ (PySem.call (Value.builtin "list.append") _) _ _ _)); (fail_if_success (with_reducible show wpAny _ _ (PySem.call (Value.builtin "any") _) _ _ _)); (fail_if_success (with_reducible show wpAny _ _ (PySem.call (Value.type "zip") _) _ _ _)); (fail_if_success (with_reducible show wpAny _ _ (PySem.call (Value.builtin "all") _) _ _ _)); (fail_if_success (with_reducible show InvEndN _ _ _ _ _ _ _)))); first | (dsimp only; walk1) | walk1))
  refine kst_list (σ := Int × Tok × Int × Tok × List Value × Nat) (fun c => [(D, listOf c.2.2.2.2.1.toArray c.2.2.2.2.2)]) (fun c => [(Str.ofString "acc", .int c.1 c.2.1), (Str.ofString "bits", .int c.2.2.1 c.2.2.2.1)]) (fun _ => True) []
    (fun pre c => ∃ pn : List Nat, pre = pn.map (fun n : Nat => (n : Int)) ∧ c.1 = (((cbrun 8 5 pn).1 : Nat) : Int) ∧ c.2.2.1 = (((cbrun 8 5 pn).2.1 : Nat) : Int) ∧ NatsAre c.2.2.2.2.1 (cbrun 8 5 pn).2.2) (0, _, 0, _, [], 0) hh (by exact hl) hi F N trivial (List.forall_mem_cons.mpr ⟨rfl, List.forall_mem_cons.mpr ⟨rfl, List.forall_mem_nil _⟩⟩) ⟨[], rfl, rfl, rfl, .nil⟩ ?_ ?_
  · clear F N
    rintro ⟨c, tc, b, tb, os, cap⟩ pre post n t u h tk own hsp hmem hoff - ⟨pn, hpre, hc, hbt, hos⟩ F N
    obtain ⟨v, hv, rfl⟩ := List.mem_map.mp hmem
    have hv256 := hb v hv
    dsimp only at hc hbt hos F N
    have hb5 := cbrun_bits 8 5 pn
    have hal := cbrun_acc_lt 8 5 pn
    generalize hS : cbrun 8 5 pn = S at *
    obtain ⟨a0, b0, o0⟩ := S
    dsimp only at hc hbt hos hb5 hal
    subst hc hbt
    have hv0 : v >>> 8 = 0 := by rw [Nat.shiftRight_eq_div_pow]; (first | lia | omega)
    have hb05 : b0 < 5 := by (first | lia | omega)
    clear hret
    (repeat' ((( (fail_if_success (with_reducible show wpAny _ _ (exec (Stmt.For _ _ _ _ _) _) _ _ _)); (fail_if_success (with_reducible show wpAny _ _ (exec (Stmt.While _ _ _ _) _) _ _ _)); (fail_if_success (with_reducible show wpAny _ _ (pyIter _) _ _ _)); (fail_if_success (with_reducible show wpAny _ _ (eval (Expr.ListComp _ _ _ _) _) _ _ _)); (fail_if_success (with_reducible show wpAny _ _ (eval (Expr.GeneratorExp _ _ _ _) _) _ _ _)); (fail_if_success (with_reducible show wpAny _ _ (exec (Stmt.Assign _ (Expr.ListComp _ _ _ _) _) _) _ _ _)); (fail_if_success (with_reducible show wpAny _ _ (PySem.call (Value.ref _) _ _) _ _ _)); (fail_if_success (with_reducible show wpAny _ _ (PySem.call (Value.builtin "list.append") _) _ _ _)); (fail_if_success (with_reducible show wpAny _ _ (PySem.call (Value.builtin "any") _) _ _ _)); (fail_if_success (with_reducible show wpAny _ _ (PySem.call (Value.type "zip") _) _ _ _)); (fail_if_success (with_reducible show wpAny _ _ (PySem.call (Value.builtin "all") _) _ _ _)); (fail_if_success (with_reducible show InvEndN _ _ _ _ _ _ _)))); first | (dsimp only; walk1) | walk1))
    · exfalso
      (rename (_ ≠ (0 : Int)) => hz)
      exact hz (by rw [hv0]; rfl)
    (rename Fr _ _ _ _ => F)
    (rename News _ _ _ _ => N)
    have hpl : pn.length ≤ 200 := by
      have h1 := congrArg List.length hsp
      rw [hpre, List.length_append, List.length_map, List.length_map] at h1
      (first | lia | omega)
    have hol0 := cbrun_out_len 8 5 pn
    rw [hS] at hol0
    dsimp only at hol0
    have hown : ∀ p ∈ own, p.1 ≠ D := hoff.ne (.head _)
    refine While_k (σ := Int × Tok × List Value × Nat) (fun c => (D, listOf c.2.2.1.toArray c.2.2.2) :: own) (fun c => [(Str.ofString "bits", .int c.1 c.2.1)])
      (fun n c => ∃ (b : Nat) (o : List Nat), c.1 = (b : Int) ∧ n = b ∧ NatsAre c.2.2.1 o ∧ b % 5 = (b0 + 8) % 5 ∧ drain 5 (cbacc 8 5 a0 v) b o = drain 5 (cbacc 8 5 a0 v) (b0 + 8) o0 ∧ b ≤ 12 ∧ o.length * 5 + b ≤ 1612) (b0 + 8) (_, _, os, cap) F N
      (List.forall_mem_cons.mpr ⟨rfl, List.forall_mem_nil _⟩) ⟨b0 + 8, o0, by simp, rfl, hos, rfl, rfl, by (first | lia | omega), by (first | lia | omega)⟩ ?_ (by passes_own)
    clear F N
    rintro n ⟨c, tc, os2, cap2⟩ h3 tk3 ⟨b, o, hc, rfl, hos2, hm5, hdr, hb12, ho5⟩ F N
    dsimp only at hc hos2 F N
    subst hc
    have hol := hos2.length
    rw [List.length_map] at hol
    (repeat' ((( (fail_if_success (with_reducible show wpAny _ _ (exec (Stmt.For _ _ _ _ _) _) _ _ _)); (fail_if_success (with_reducible show wpAny _ _ (exec (Stmt.While _ _ _ _) _) _ _ _)); (fail_if_success (with_reducible show wpAny _ _ (pyIter _) _ _ _)); (fail_if_success (with_reducible show wpAny _ _ (eval (Expr.ListComp _ _ _ _) _) _ _ _)); (fail_if_success (with_reducible show wpAny _ _ (eval (Expr.GeneratorExp _ _ _ _) _) _ _ _)); (fail_if_success (with_reducible show wpAny _ _ (exec (Stmt.Assign _ (Expr.ListComp _ _ _ _) _) _) _ _ _)); (fail_if_success (with_reducible show wpAny _ _ (PySem.call (Value.ref _) _ _) _ _ _)); (fail_if_success (with_reducible show wpAny _ _ (PySem.call (Value.builtin "list.append") _) _ _ _)); (fail_if_success (with_reducible show wpAny _ _ (PySem.call (Value.builtin "any") _) _ _ _)); (fail_if_success (with_reducible show wpAny _ _ (PySem.call (Value.type "zip") _) _ _ _)); (fail_if_success (with_reducible show wpAny _ _ (PySem.call (Value.builtin "all") _) _ _ _)); (fail_if_success (with_reducible show InvEndN _ _ _ _ _ _ _)))); first | (dsimp only; walk1) | walk1))
    · (rename Fr _ _ _ _ => F)
      (rename News _ _ _ _ => N)
      refine app_own F N hown (by (first | lia | omega)) ?_
      clear F N
      intro h4 F N
      (repeat' ((( (fail_if_success (with_reducible show wpAny _ _ (exec (Stmt.For _ _ _ _ _) _) _ _ _)); (fail_if_success (with_reducible show wpAny _ _ (exec (Stmt.While _ _ _ _) _) _ _ _)); (fail_if_success (with_reducible show wpAny _ _ (pyIter _) _ _ _)); (fail_if_success (with_reducible show wpAny _ _ (eval (Expr.ListComp _ _ _ _) _) _ _ _)); (fail_if_success (with_reducible show wpAny _ _ (eval (Expr.GeneratorExp _ _ _ _) _) _ _ _)); (fail_if_success (with_reducible show wpAny _ _ (exec (Stmt.Assign _ (Expr.ListComp _ _ _ _) _) _) _ _ _)); (fail_if_success (with_reducible show wpAny _ _ (PySem.call (Value.ref _) _ _) _ _ _)); (fail_if_success (with_reducible show wpAny _ _ (PySem.call (Value.builtin "list.append") _) _ _ _)); (fail_if_success (with_reducible show wpAny _ _ (PySem.call (Value.builtin "any") _) _ _ _)); (fail_if_success (with_reducible show wpAny _ _ (PySem.call (Value.type "zip") _) _ _ _)); (fail_if_success (with_reducible show wpAny _ _ (PySem.call (Value.builtin "all") _) _ _ _)); (fail_if_success (with_reducible show InvEndN _ _ _ _ _ _ _)))); first | (dsimp only; walk1) | walk1))
      (rename ((5 : Int) ≤ _) => hb5')
      have hb5n : 5 ≤ n := by (first | lia | omega)
      refine WEnd.intro (_, _, _, _) (n - 5) F N (by (first | lia | omega)) ⟨n - 5, o ++ [((cbacc 8 5 a0 v) >>> (n - 5)) &&& 31], by dsimp only; (first | lia | omega), rfl, ?_, by (first | lia | omega), ?_, by (first | lia | omega), by rw [List.length_append]; simp; (first | lia | omega)⟩ (List.forall_mem_cons.mpr ⟨rfl, List.forall_mem_nil _⟩) ?_
      · have e : ((n : Int) - 5).toNat = n - 5 := by (first | lia | omega)
        show IntsAre _ _
        rw [List.map_append]
        refine IntsAre.append hos2 ?_
        rw [e]
        exact .cons _ _ .nil
      · rw [← hdr, drain_step (by decide) hb5n]
      · intro z hz
        have h1 := hz _ (.head _)
        dsimp only at h1
        simp only [kstB, h1, if_false]
    · (rename Fr _ _ _ _ => F)
      (rename News _ _ _ _ => N)
      have hn5 : n < 5 := by (first | lia | omega)
      have hst : cbrun 8 5 (pn ++ [v]) = (cbacc 8 5 a0 v, n, o) := by
        rw [cbrun_snoc, hS]
        show (_, (b0 + 8) % 5, drain 5 (cbacc 8 5 a0 v) (b0 + 8) o0) = _
        rw [← hdr, drain_end hn5, ← hm5, Nat.mod_eq_of_lt hn5]
      refine kst_end (_, _, _, _, os2, cap2) F N (List.forall_mem_cons.mpr ⟨.head _, List.forall_mem_nil _⟩) (fun p hp => .tail _ hp) rfl trivial (List.forall_mem_cons.mpr ⟨rfl, List.forall_mem_cons.mpr ⟨rfl, List.forall_mem_nil _⟩⟩) (by (( (intro z h1 h2 h3); (simp only [List.forall_mem_cons, List.not_mem_nil, false_implies, implies_true, and_true, ne_eq] at h1 h2); (have h4 := h3); (simp only [List.contains_cons, List.contains_nil, Bool.or_false, Bool.or_eq_false_iff, beq_eq_false_iff_ne, ne_eq] at h4); (first | rfl | (simp only [kstB, h1, h2, h3, h4, if_false, ite_false, Bool.false_eq_true, not_false_eq_true]; done) | (simp [kstB, h1, h2, h3, h4]; done))))) ⟨pn ++ [v], by rw [hpre, List.map_append]; rfl, ?_, ?_, ?_⟩
      · rw [hst]; rfl
      · rw [hst]
      · rw [hst]; exact hos2
  · clear F N
    rintro ⟨c, tc, b, tb, os, cap⟩ u h tk - ⟨pn, hpre, hc, hbt, hos⟩ F N
    have hpn := cast_inj hpre
    subst hpn
    dsimp only at hc hbt hos F N
    have hb5 := cbrun_bits 8 5 ns
    have hal := cbrun_acc_lt 8 5 ns
    have hol0 := cbrun_out_len 8 5 ns
    have hret5 : to5 ns = (cbrun 8 5 ns).2.2 ++ if (cbrun 8 5 ns).2.1 ≠ 0 then [((cbrun 8 5 ns).1 <<< (5 - (cbrun 8 5 ns).2.1)) &&& 31] else [] := rfl
    generalize hS : cbrun 8 5 ns = S at *
    obtain ⟨a0, b0, o0⟩ := S
    dsimp only at hc hbt hos hb5 hal hol0 hret5
    subst hc hbt
    have hb05 : b0 < 5 := by (first | lia | omega)
    have hol := hos.length
    rw [List.length_map] at hol
    (repeat' ((( (fail_if_success (with_reducible show wpAny _ _ (exec (Stmt.For _ _ _ _ _) _) _ _ _)); (fail_if_success (with_reducible show wpAny _ _ (exec (Stmt.While _ _ _ _) _) _ _ _)); (fail_if_success (with_reducible show wpAny _ _ (pyIter _) _ _ _)); (fail_if_success (with_reducible show wpAny _ _ (eval (Expr.ListComp _ _ _ _) _) _ _ _)); (fail_if_success (with_reducible show wpAny _ _ (eval (Expr.GeneratorExp _ _ _ _) _) _ _ _)); (fail_if_success (with_reducible show wpAny _ _ (exec (Stmt.Assign _ (Expr.ListComp _ _ _ _) _) _) _ _ _)); (fail_if_success (with_reducible show wpAny _ _ (PySem.call (Value.ref _) _ _) _ _ _)); (fail_if_success (with_reducible show wpAny _ _ (PySem.call (Value.builtin "list.append") _) _ _ _)); (fail_if_success (with_reducible show wpAny _ _ (PySem.call (Value.builtin "any") _) _ _ _)); (fail_if_success (with_reducible show wpAny _ _ (PySem.call (Value.type "zip") _) _ _ _)); (fail_if_success (with_reducible show wpAny _ _ (PySem.call (Value.builtin "all") _) _ _ _)); (fail_if_success (with_reducible show InvEndN _ _ _ _ _ _ _)))); first | (dsimp only; walk1) | walk1))
    · (rename Fr _ _ _ _ => F)
      (rename News _ _ _ _ => N)
      (rename (_ ≠ (0 : Int)) => hz)
      have hz' : b0 ≠ 0 := by (first | lia | omega)
      refine app_own F N (List.forall_mem_nil _) (by (first | lia | omega)) ?_
      clear F N
      intro h4 F N
      (repeat' ((( (fail_if_success (with_reducible show wpAny _ _ (exec (Stmt.For _ _ _ _ _) _) _ _ _)); (fail_if_success (with_reducible show wpAny _ _ (exec (Stmt.While _ _ _ _) _) _ _ _)); (fail_if_success (with_reducible show wpAny _ _ (pyIter _) _ _ _)); (fail_if_success (with_reducible show wpAny _ _ (eval (Expr.ListComp _ _ _ _) _) _ _ _)); (fail_if_success (with_reducible show wpAny _ _ (eval (Expr.GeneratorExp _ _ _ _) _) _ _ _)); (fail_if_success (with_reducible show wpAny _ _ (exec (Stmt.Assign _ (Expr.ListComp _ _ _ _) _) _) _ _ _)); (fail_if_success (with_reducible show wpAny _ _ (PySem.call (Value.ref _) _ _) _ _ _)); (fail_if_success (with_reducible show wpAny _ _ (PySem.call (Value.builtin "list.append") _) _ _ _)); (fail_if_success (with_reducible show wpAny _ _ (PySem.call (Value.builtin "any") _) _ _ _)); (fail_if_success (with_reducible show wpAny _ _ (PySem.call (Value.type "zip") _) _ _ _)); (fail_if_success (with_reducible show wpAny _ _ (PySem.call (Value.builtin "all") _) _ _ _)); (fail_if_success (with_reducible show InvEndN _ _ _ _ _ _ _)))); first | (dsimp only; walk1) | walk1))
      have hN := N _ (.head _)
      refine hret _ _ _ _ _ F.keep hN.2.2 hN.1 ?_
      rw [hret5, if_pos hz']
      show IntsAre _ _
      rw [List.map_append]
      refine IntsAre.append hos ?_
      have e : (5 - (b0 : Int)).toNat = 5 - b0 := by (first | lia | omega)
      rw [e, Nat.shiftLeft_eq]
      exact .cons _ _ .nil
    · (rename Fr _ _ _ _ => F)
      (rename News _ _ _ _ => N)
      (rename (_ = (0 : Int)) => hz)
      have hz' : ¬ b0 ≠ 0 := by (first | lia | omega)
      have hN := N _ (.head _)
      refine hret _ _ _ _ _ F.keep hN.2.2 hN.1 ?_
      rw [hret5, if_neg hz', List.append_nil]
      exact hos
end Mine

namespace Mine
theorem cb5_call {w : World} {A : Around} {E : Value → Shared → Prop} {s : Shared} {p : Program} {loose : List Str} {mg mb : Str → Option Value} {Q : Value → Shared → Prop}
    (C : Cx w p loose mg mb s.heap) (hh : A.handled = none) (hd : A.depth < recursionLimit) {l : Addr} {vs : List Value} {ns : List Nat} {t1 t2 : Tok} (hl : s.heap.IsList l vs.toArray) (hi : NatsAre vs ns) (hn : ns.length ≤ 200) (hb : ∀ n ∈ ns, n < 32)
    (hb5 : (cbrun 5 8 ns).2.1 < 5) (hz : ((cbrun 5 8 ns).1 <<< (8 - (cbrun 5 8 ns).2.1)) &&& 255 = 0)
    (hret : ∀ h' tk D vs n, Ext s.heap h' → s.heap.get? D = none → h'.get? D = some (listOf vs.toArray n) → NatsAre vs (cbrun 5 8 ns).2.2 → Q (.ref D) { s with heap := h', toks := tk }) :
   wpAny (model PySem.Challenge.rw_ai0020_01.row.prog w) A (call (.ref 70) [.ref l, .int 5 t1, .int 8 t2, .bool false]) Q E s := by
  refine enter (binds := [(Str.ofString "data", .ref l), (Str.ofString "frombits", .int 5 t1), (Str.ofString "tobits", .int 8 t2), (Str.ofString "pad", .bool false)]) C hd rfl rfl ?_ (locs rfl) ?_ rfl rfl rfl (by decide)
  · exact binds_K (T := 63) C.K rfl rfl rfl rfl rfl
  intro h₁ L F N X T
  (try dsimp only)
  (repeat' ((( (fail_if_success (with_reducible show wpAny _ _ (exec (Stmt.For _ _ _ _ _) _) _ _ _)); (fail_if_success (with_reducible show wpAny _ _ (exec (Stmt.While _ _ _ _) _) _ _ _)); (fail_if_success (with_reducible show wpAny _ _ (pyIter _) _ _ _)); (fail_if_success (with_reducible show wpAny _ _ (eval (Expr.ListComp _ _ _ _) _) _ _ _)); (fail_if_success (with_reducible show wpAny _ _ (eval (Expr.GeneratorExp _ _ _ _) _) _ _ _)); (fail_if_success (with_reducible show wpAny _ _ (exec (Stmt.Assign _ (Expr.ListComp _ _ _ _) _) _) _ _ _)); (fail_if_success (with_reducible show wpAny _ _ (PySem.call (Value.ref _) _ _) _ _ _)); (fail_if_success (with_reducible show wpAny _ _ (PySem.call (Value.builtin "list.append") _) _ _ _)); (fail_if_success (with_reducible show wpAny _ _ (PySem.call (Value.builtin "any") _) _ _ _)); (fail_if_success (with_reducible show wpAny _ _ (PySem.call (Value.type "zip") _) _ _ _)); (fail_if_success (with_reducible show wpAny _ _ (PySem.call (Value.builtin "all") _) _ _ _)); (fail_if_success (with_reducible show InvEndN _ _ _ _ _ _ _)))); first | (dsimp only; walk1) | walk1))
  (rename Fr _ _ _ _ => F)
  (rename News _ _ _ _ => N)
  obtain ⟨D, e⟩ := News.at1 N
  subst e
  refine For_invVF F (by rfl) (by rfl) ?_
  (repeat' ((( (fail_if_success (with_reducible show wpAny _ _ (exec (Stmt.For _ _ _ _ _) _) _ _ _)); (fail_if_success (with_reducible show wpAny _ _ (exec (Stmt.While _ _ _ _) _) _ _ _)); (fail_if_success (with_reducible show wpAny _ _ (pyIter _) _ _ _)); (fail_if_success (with_reducible show wpAny _ _ (eval (Expr.ListComp _ _ _ _) _) _ _ _)); (fail_if_success (with_reducible show wpAny _ _ (eval (Expr.GeneratorExp _ _ _ _) _) _ _ _)); (fail_if_success (with_reducible show wpAny _ _ (exec (Stmt.Assign _ (Expr.ListComp _ _ _ _) _) _) _ _ _)); (fail_if_success (with_reducible show wpAny _ _ (PySem.call (Value.ref _) _ _) _ _ _)); (fail_if_success (with_reducible show wpAny _ _ (PySem.call (Value.builtin "list.append") _) _ _ _)); (fail_if_success (with_reducible show wpAny _ _ (PySem.call (Value.builtin "any") _) _ _ _)); (fail_if_success (with_reducible show wpAny _ _ (PySem.call (Value.type "zip") _) _ _ _)); (fail_if_success (with_reducible show wpAny _ _ (PySem.call (Value.builtin "all") _) _ _ _)); (fail_if_success (with_reducible show InvEndN _ _ _ _ _ _ _)))); first | (dsimp only; walk1) | walk1))
  refine kst_list (σ := Int × Tok × Int × Tok × List Value × Nat) (fun c => [(D, listOf c.2.2.2.2.1.toArray c.2.2.2.2.2)]) (fun c => [(Str.ofString "acc", .int c.1 c.2.1), (Str.ofString "bits", .int c.2.2.1 c.2.2.2.1)]) (fun _ => True) []
    (fun pre c => ∃ pn : List Nat, pre = pn.map (fun n : Nat => (n : Int)) ∧ c.1 = (((cbrun 5 8 pn).1 : Nat) : Int) ∧ c.2.2.1 = (((cbrun 5 8 pn).2.1 : Nat) : Int) ∧ NatsAre c.2.2.2.2.1 (cbrun 5 8 pn).2.2) (0, _, 0, _, [], 0) hh (by exact hl) hi F N trivial (List.forall_mem_cons.mpr ⟨rfl, List.forall_mem_cons.mpr ⟨rfl, List.forall_mem_nil _⟩⟩) ⟨[], rfl, rfl, rfl, .nil⟩ ?_ ?_
  · clear F N
    rintro ⟨c, tc, b, tb, os, cap⟩ pre post n t u h tk own hsp hmem hoff - ⟨pn, hpre, hc, hbt, hos⟩ F N
    obtain ⟨v, hv, rfl⟩ := List.mem_map.mp hmem
    have hv32 := hb v hv
    dsimp only at hc hbt hos F N
    have hb8 := cbrun_bits 5 8 pn
    have hal := cbrun_acc_lt 5 8 pn
    generalize hS : cbrun 5 8 pn = S at *
    obtain ⟨a0, b0, o0⟩ := S
    dsimp only at hc hbt hos hb8 hal
    subst hc hbt
    have hv0 : v >>> 5 = 0 := by rw [Nat.shiftRight_eq_div_pow]; (first | lia | omega)
    have hb05 : b0 < 8 := by (first | lia | omega)
    clear hret
    (repeat' ((( (fail_if_success (with_reducible show wpAny _ _ (exec (Stmt.For _ _ _ _ _) _) _ _ _)); (fail_if_success (with_reducible show wpAny _ _ (exec (Stmt.While _ _ _ _) _) _ _ _)); (fail_if_success (with_reducible show wpAny _ _ (pyIter _) _ _ _)); (fail_if_success (with_reducible show wpAny _ _ (eval (Expr.ListComp _ _ _ _) _) _ _ _)); (fail_if_success (with_reducible show wpAny _ _ (eval (Expr.GeneratorExp _ _ _ _) _) _ _ _)); (fail_if_success (with_reducible show wpAny _ _ (exec (Stmt.Assign _ (Expr.ListComp _ _ _ _) _) _) _ _ _)); (fail_if_success (with_reducible show wpAny _ _ (PySem.call (Value.ref _) _ _) _ _ _)); (fail_if_success (with_reducible show wpAny _ _ (PySem.call (Value.builtin "list.append") _) _ _ _)); (fail_if_success (with_reducible show wpAny _ _ (PySem.call (Value.builtin "any") _) _ _ _)); (fail_if_success (with_reducible show wpAny _ _ (PySem.call (Value.type "zip") _) _ _ _)); (fail_if_success (with_reducible show wpAny _ _ (PySem.call (Value.builtin "all") _) _ _ _)); (fail_if_success (with_reducible show InvEndN _ _ _ _ _ _ _)))); first | (dsimp only; walk1) | walk1))
    · exfalso
      (rename (_ ≠ (0 : Int)) => hz)
      exact hz (by rw [hv0]; rfl)
    (rename Fr _ _ _ _ => F)
    (rename News _ _ _ _ => N)
    have hpl : pn.length ≤ 200 := by
      have h1 := congrArg List.length hsp
      rw [hpre, List.length_append, List.length_map, List.length_map] at h1
      (first | lia | omega)
    have hol0 := cbrun_out_len 5 8 pn
    rw [hS] at hol0
    dsimp only at hol0
    have hown : ∀ p ∈ own, p.1 ≠ D := hoff.ne (.head _)
    refine While_k (σ := Int × Tok × List Value × Nat) (fun c => (D, listOf c.2.2.1.toArray c.2.2.2) :: own) (fun c => [(Str.ofString "bits", .int c.1 c.2.1)])
      (fun n c => ∃ (b : Nat) (o : List Nat), c.1 = (b : Int) ∧ n = b ∧ NatsAre c.2.2.1 o ∧ b % 8 = (b0 + 5) % 8 ∧ drain 8 (cbacc 5 8 a0 v) b o = drain 8 (cbacc 5 8 a0 v) (b0 + 5) o0 ∧ b ≤ 12 ∧ o.length * 8 + b ≤ 1612) (b0 + 5) (_, _, os, cap) F N
      (List.forall_mem_cons.mpr ⟨rfl, List.forall_mem_nil _⟩) ⟨b0 + 5, o0, by simp, rfl, hos, rfl, rfl, by (first | lia | omega), by (first | lia | omega)⟩ ?_ (by passes_own)
    clear F N
    rintro n ⟨c, tc, os2, cap2⟩ h3 tk3 ⟨b, o, hc, rfl, hos2, hm5, hdr, hb12, ho5⟩ F N
    dsimp only at hc hos2 F N
    subst hc
    have hol := hos2.length
    rw [List.length_map] at hol
    (repeat' ((( (fail_if_success (with_reducible show wpAny _ _ (exec (Stmt.For _ _ _ _ _) _) _ _ _)); (fail_if_success (with_reducible show wpAny _ _ (exec (Stmt.While _ _ _ _) _) _ _ _)); (fail_if_success (with_reducible show wpAny _ _ (pyIter _) _ _ _)); (fail_if_success (with_reducible show wpAny _ _ (eval (Expr.ListComp _ _ _ _) _) _ _ _)); (fail_if_success (with_reducible show wpAny _ _ (eval (Expr.GeneratorExp _ _ _ _) _) _ _ _)); (fail_if_success (with_reducible show wpAny _ _ (exec (Stmt.Assign _ (Expr.ListComp _ _ _ _) _) _) _ _ _)); (fail_if_success (with_reducible show wpAny _ _ (PySem.call (Value.ref _) _ _) _ _ _)); (fail_if_success (with_reducible show wpAny _ _ (PySem.call (Value.builtin "list.append") _) _ _ _)); (fail_if_success (with_reducible show wpAny _ _ (PySem.call (Value.builtin "any") _) _ _ _)); (fail_if_success (with_reducible show wpAny _ _ (PySem.call (Value.type "zip") _) _ _ _)); (fail_if_success (with_reducible show wpAny _ _ (PySem.call (Value.builtin "all") _) _ _ _)); (fail_if_success (with_reducible show InvEndN _ _ _ _ _ _ _)))); first | (dsimp only; walk1) | walk1))
    · (rename Fr _ _ _ _ => F)
      (rename News _ _ _ _ => N)
      refine app_own F N hown (by (first | lia | omega)) ?_
      clear F N
      intro h4 F N
      (repeat' ((( (fail_if_success (with_reducible show wpAny _ _ (exec (Stmt.For _ _ _ _ _) _) _ _ _)); (fail_if_success (with_reducible show wpAny _ _ (exec (Stmt.While _ _ _ _) _) _ _ _)); (fail_if_success (with_reducible show wpAny _ _ (pyIter _) _ _ _)); (fail_if_success (with_reducible show wpAny _ _ (eval (Expr.ListComp _ _ _ _) _) _ _ _)); (fail_if_success (with_reducible show wpAny _ _ (eval (Expr.GeneratorExp _ _ _ _) _) _ _ _)); (fail_if_success (with_reducible show wpAny _ _ (exec (Stmt.Assign _ (Expr.ListComp _ _ _ _) _) _) _ _ _)); (fail_if_success (with_reducible show wpAny _ _ (PySem.call (Value.ref _) _ _) _ _ _)); (fail_if_success (with_reducible show wpAny _ _ (PySem.call (Value.builtin "list.append") _) _ _ _)); (fail_if_success (with_reducible show wpAny _ _ (PySem.call (Value.builtin "any") _) _ _ _)); (fail_if_success (with_reducible show wpAny _ _ (PySem.call (Value.type "zip") _) _ _ _)); (fail_if_success (with_reducible show wpAny _ _ (PySem.call (Value.builtin "all") _) _ _ _)); (fail_if_success (with_reducible show InvEndN _ _ _ _ _ _ _)))); first | (dsimp only; walk1) | walk1))
      (rename ((8 : Int) ≤ _) => hb5')
      have hb5n : 8 ≤ n := by (first | lia | omega)
      refine WEnd.intro (_, _, _, _) (n - 8) F N (by (first | lia | omega)) ⟨n - 8, o ++ [((cbacc 5 8 a0 v) >>> (n - 8)) &&& 255], by dsimp only; (first | lia | omega), rfl, ?_, by (first | lia | omega), ?_, by (first | lia | omega), by rw [List.length_append]; simp; (first | lia | omega)⟩ (List.forall_mem_cons.mpr ⟨rfl, List.forall_mem_nil _⟩) ?_
      · have e : ((n : Int) - 8).toNat = n - 8 := by (first | lia | omega)
        show IntsAre _ _
        rw [List.map_append]
        refine IntsAre.append hos2 ?_
        rw [e]
        exact .cons _ _ .nil
      · rw [← hdr, drain_step (by decide) hb5n]
      · intro z hz
        have h1 := hz _ (.head _)
        dsimp only at h1
        simp only [kstB, h1, if_false]
    · (rename Fr _ _ _ _ => F)
      (rename News _ _ _ _ => N)
      have hn5 : n < 8 := by (first | lia | omega)
      have hst : cbrun 5 8 (pn ++ [v]) = (cbacc 5 8 a0 v, n, o) := by
        rw [cbrun_snoc, hS]
        show (_, (b0 + 5) % 8, drain 8 (cbacc 5 8 a0 v) (b0 + 5) o0) = _
        rw [← hdr, drain_end hn5, ← hm5, Nat.mod_eq_of_lt hn5]
      refine kst_end (_, _, _, _, os2, cap2) F N (List.forall_mem_cons.mpr ⟨.head _, List.forall_mem_nil _⟩) (fun p hp => .tail _ hp) rfl trivial (List.forall_mem_cons.mpr ⟨rfl, List.forall_mem_cons.mpr ⟨rfl, List.forall_mem_nil _⟩⟩) (by (( (intro z h1 h2 h3); (simp only [List.forall_mem_cons, List.not_mem_nil, false_implies, implies_true, and_true, ne_eq] at h1 h2); (have h4 := h3); (simp only [List.contains_cons, List.contains_nil, Bool.or_false, Bool.or_eq_false_iff, beq_eq_false_iff_ne, ne_eq] at h4); (first | rfl | (simp only [kstB, h1, h2, h3, h4, if_false, ite_false, Bool.false_eq_true, not_false_eq_true]; done) | (simp [kstB, h1, h2, h3, h4]; done))))) ⟨pn ++ [v], by rw [hpre, List.map_append]; rfl, ?_, ?_, ?_⟩
      · rw [hst]; rfl
      · rw [hst]
      · rw [hst]; exact hos2
  · clear F N
    rintro ⟨c, tc, b, tb, os, cap⟩ u h tk - ⟨pn, hpre, hc, hbt, hos⟩ F N
    have hpn := cast_inj hpre
    subst hpn
    dsimp only at hc hbt hos F N
    have hal := cbrun_acc_lt 5 8 ns
    generalize hS : cbrun 5 8 ns = S at *
    obtain ⟨a0, b0, o0⟩ := S
    dsimp only at hc hbt hos hb5 hz hret hal
    subst hc hbt
    have e : (8 - (b0 : Int)).toNat = 8 - b0 := by (first | lia | omega)
    (repeat' ((( (fail_if_success (with_reducible show wpAny _ _ (exec (Stmt.For _ _ _ _ _) _) _ _ _)); (fail_if_success (with_reducible show wpAny _ _ (exec (Stmt.While _ _ _ _) _) _ _ _)); (fail_if_success (with_reducible show wpAny _ _ (pyIter _) _ _ _)); (fail_if_success (with_reducible show wpAny _ _ (eval (Expr.ListComp _ _ _ _) _) _ _ _)); (fail_if_success (with_reducible show wpAny _ _ (eval (Expr.GeneratorExp _ _ _ _) _) _ _ _)); (fail_if_success (with_reducible show wpAny _ _ (exec (Stmt.Assign _ (Expr.ListComp _ _ _ _) _) _) _ _ _)); (fail_if_success (with_reducible show wpAny _ _ (PySem.call (Value.ref _) _ _) _ _ _)); (fail_if_success (with_reducible show wpAny _ _ (PySem.call (Value.builtin "list.append") _) _ _ _)); (fail_if_success (with_reducible show wpAny _ _ (PySem.call (Value.builtin "any") _) _ _ _)); (fail_if_success (with_reducible show wpAny _ _ (PySem.call (Value.type "zip") _) _ _ _)); (fail_if_success (with_reducible show wpAny _ _ (PySem.call (Value.builtin "all") _) _ _ _)); (fail_if_success (with_reducible show InvEndN _ _ _ _ _ _ _)))); first | (dsimp only; walk1) | walk1))
    · exfalso
      (rename (_ ≠ (0 : Int)) => hn0)
      rw [e, ← Nat.shiftLeft_eq] at hn0
      exact hn0 (congrArg _ hz)
    · (rename Fr _ _ _ _ => F)
      (rename News _ _ _ _ => N)
      have hN := N _ (.head _)
      exact hret _ _ _ _ _ F.keep hN.2.2 hN.1 hos
end Mine

namespace Mine
noncomputable def gsel (gens : List Nat) (top : Nat) : Nat → Nat
  | 0 => 0
  | k + 1 => gsel gens top k ^^^ (if top >>> k &&& 1 = 1 then gens.getD k 0 else 0)
noncomputable def st32 (c v : Nat) : Nat := (((c &&& 33554431) <<< 5) ^^^ v) ^^^ gsel Bc.gen (c >>> 25) 5
noncomputable def pm32 (vs : List Nat) : Nat := vs.foldl st32 1

theorem gen_at : ∀ k, k < 5 → ([996825010, 642813549, 513874426, 1027748829, 705979059] : List Int).getD k 0 = ((Bc.gen.getD k 0 : Nat) : Int) := by decide
theorem polymod_call {w : World} {A : Around} {E : Value → Shared → Prop} {s : Shared} {p : Program} {loose : List Str} {mg mb : Str → Option Value} {Q : Value → Shared → Prop}
    (C : Cx w p loose mg mb s.heap) (hh : A.handled = none) (hd : A.depth < recursionLimit) {l : Addr} {vs : List Value} {ns : List Nat} (hl : s.heap.IsList l vs.toArray) (hi : NatsAre vs ns)
    (hret : ∀ h' tk t, Ext s.heap h' → Q (.int (pm32 ns : Nat) t) { s with heap := h', toks := tk }) :
   wpAny (model PySem.Challenge.rw_ai0020_01.row.prog w) A (call (.ref 35) [.ref l]) Q E s := by
  refine enter (binds := [(Str.ofString "values", .ref l)]) C hd rfl rfl (BindsTo.of_eq rfl) (locs rfl) ?_ rfl rfl rfl (by decide)
  intro h₁ L F N X T
  (try dsimp only)
  (repeat' ((( (fail_if_success (with_reducible show wpAny _ _ (exec (Stmt.For _ _ _ _ _) _) _ _ _)); (fail_if_success (with_reducible show wpAny _ _ (exec (Stmt.While _ _ _ _) _) _ _ _)); (fail_if_success (with_reducible show wpAny _ _ (pyIter _) _ _ _)); (fail_if_success (with_reducible show wpAny _ _ (eval (Expr.ListComp _ _ _ _) _) _ _ _)); (fail_if_success (with_reducible show wpAny _ _ (eval (Expr.GeneratorExp _ _ _ _) _) _ _ _)); (fail_if_success (with_reducible show wpAny _ _ (exec (Stmt.Assign _ (Expr.ListComp _ _ _ _) _) _) _ _ _)); (fail_if_success (with_reducible show wpAny _ _ (PySem.call (Value.ref _) _ _) _ _ _)); (fail_if_success (with_reducible show wpAny _ _ (PySem.call (Value.builtin "list.append") _) _ _ _)); (fail_if_success (with_reducible show wpAny _ _ (PySem.call (Value.builtin "any") _) _ _ _)); (fail_if_success (with_reducible show wpAny _ _ (PySem.call (Value.type "zip") _) _ _ _)); (fail_if_success (with_reducible show wpAny _ _ (PySem.call (Value.builtin "all") _) _ _ _)); (fail_if_success (with_reducible show InvEndN _ _ _ _ _ _ _)))); first | (dsimp only; walk1) | walk1))
  (rename Fr _ _ _ _ => F)
  (rename News _ _ _ _ => N)
  refine For_invVF F (by rfl) (by rfl) ?_
  (repeat' ((( (fail_if_success (with_reducible show wpAny _ _ (exec (Stmt.For _ _ _ _ _) _) _ _ _)); (fail_if_success (with_reducible show wpAny _ _ (exec (Stmt.While _ _ _ _) _) _ _ _)); (fail_if_success (with_reducible show wpAny _ _ (pyIter _) _ _ _)); (fail_if_success (with_reducible show wpAny _ _ (eval (Expr.ListComp _ _ _ _) _) _ _ _)); (fail_if_success (with_reducible show wpAny _ _ (eval (Expr.GeneratorExp _ _ _ _) _) _ _ _)); (fail_if_success (with_reducible show wpAny _ _ (exec (Stmt.Assign _ (Expr.ListComp _ _ _ _) _) _) _ _ _)); (fail_if_success (with_reducible show wpAny _ _ (PySem.call (Value.ref _) _ _) _ _ _)); (fail_if_success (with_reducible show wpAny _ _ (PySem.call (Value.builtin "list.append") _) _ _ _)); (fail_if_success (with_reducible show wpAny _ _ (PySem.call (Value.builtin "any") _) _ _ _)); (fail_if_success (with_reducible show wpAny _ _ (PySem.call (Value.type "zip") _) _ _ _)); (fail_if_success (with_reducible show wpAny _ _ (PySem.call (Value.builtin "all") _) _ _ _)); (fail_if_success (with_reducible show InvEndN _ _ _ _ _ _ _)))); first | (dsimp only; walk1) | walk1))
  refine kst_list (σ := Int × Tok) (fun _ => _) (fun c => [(Str.ofString "chk", .int c.1 c.2)]) (fun _ => True) [Str.ofString "top", Str.ofString "i"]
    (fun pre c => ∃ pn : List Nat, pre = pn.map (fun n : Nat => (n : Int)) ∧ c.1 = ((pn.foldl st32 1 : Nat) : Int)) (1, _) hh hl hi F N trivial (List.forall_mem_cons.mpr ⟨rfl, List.forall_mem_nil _⟩) ⟨[], rfl, rfl⟩ ?_ ?_
  · clear F N
    rintro ⟨c, tc⟩ pre post n t u h tk own hsp hmem hoff - ⟨pn, hpre, hc⟩ F N
    obtain ⟨v, -, rfl⟩ := List.mem_map.mp hmem
    dsimp only at hc F N
    generalize hcn : List.foldl st32 1 pn = cn at hc
    subst hc
    (repeat' ((( (fail_if_success (with_reducible show wpAny _ _ (exec (Stmt.For _ _ _ _ _) _) _ _ _)); (fail_if_success (with_reducible show wpAny _ _ (exec (Stmt.While _ _ _ _) _) _ _ _)); (fail_if_success (with_reducible show wpAny _ _ (pyIter _) _ _ _)); (fail_if_success (with_reducible show wpAny _ _ (eval (Expr.ListComp _ _ _ _) _) _ _ _)); (fail_if_success (with_reducible show wpAny _ _ (eval (Expr.GeneratorExp _ _ _ _) _) _ _ _)); (fail_if_success (with_reducible show wpAny _ _ (exec (Stmt.Assign _ (Expr.ListComp _ _ _ _) _) _) _ _ _)); (fail_if_success (with_reducible show wpAny _ _ (PySem.call (Value.ref _) _ _) _ _ _)); (fail_if_success (with_reducible show wpAny _ _ (PySem.call (Value.builtin "list.append") _) _ _ _)); (fail_if_success (with_reducible show wpAny _ _ (PySem.call (Value.builtin "any") _) _ _ _)); (fail_if_success (with_reducible show wpAny _ _ (PySem.call (Value.type "zip") _) _ _ _)); (fail_if_success (with_reducible show wpAny _ _ (PySem.call (Value.builtin "all") _) _ _ _)); (fail_if_success (with_reducible show InvEndN _ _ _ _ _ _ _)))); first | (dsimp only; walk1) | walk1))
    (rename Fr _ _ _ _ => F)
    (rename News _ _ _ _ => N)
    refine For_invVF F (by rfl) (by rfl) ?_
    (repeat' ((( (fail_if_success (with_reducible show wpAny _ _ (exec (Stmt.For _ _ _ _ _) _) _ _ _)); (fail_if_success (with_reducible show wpAny _ _ (exec (Stmt.While _ _ _ _) _) _ _ _)); (fail_if_success (with_reducible show wpAny _ _ (pyIter _) _ _ _)); (fail_if_success (with_reducible show wpAny _ _ (eval (Expr.ListComp _ _ _ _) _) _ _ _)); (fail_if_success (with_reducible show wpAny _ _ (eval (Expr.GeneratorExp _ _ _ _) _) _ _ _)); (fail_if_success (with_reducible show wpAny _ _ (exec (Stmt.Assign _ (Expr.ListComp _ _ _ _) _) _) _ _ _)); (fail_if_success (with_reducible show wpAny _ _ (PySem.call (Value.ref _) _ _) _ _ _)); (fail_if_success (with_reducible show wpAny _ _ (PySem.call (Value.builtin "list.append") _) _ _ _)); (fail_if_success (with_reducible show wpAny _ _ (PySem.call (Value.builtin "any") _) _ _ _)); (fail_if_success (with_reducible show wpAny _ _ (PySem.call (Value.type "zip") _) _ _ _)); (fail_if_success (with_reducible show wpAny _ _ (PySem.call (Value.builtin "all") _) _ _ _)); (fail_if_success (with_reducible show InvEndN _ _ _ _ _ _ _)))); first | (dsimp only; walk1) | walk1))
    (rename IsRange _ _ _ _ _ _ _ _ => rg)
    clear F N
    (rename Fr _ _ _ _ => F)
    (rename News _ _ _ _ => N)
    refine kst_range (n := 5) (σ := Int × Tok) (fun _ => _) (fun c => [(Str.ofString "chk", .int c.1 c.2)]) (fun _ => True) []
      (fun pre c' => c'.1 = (((((cn &&& 33554431) <<< 5) ^^^ v) ^^^ gsel Bc.gen (cn >>> 25) pre.length : Nat) : Int)) (_, _) hh rg (by decide) (by rfl) F N trivial (List.forall_mem_cons.mpr ⟨rfl, List.forall_mem_nil _⟩) (by simp [gsel]) ?_ ?_
    · clear F N rg
      rintro ⟨c2, tc2⟩ pre2 k t2 u2 h2 tk2 own2 hk hlt hoff2 - hc2 F N
      have hk0 : k = ((pre2.length : Nat) : Int) := by (first | lia | omega)
      subst hk0
      dsimp only at hc2 F N
      subst hc2
      generalize hkk : pre2.length = kk at *
      (repeat' ((( (fail_if_success (with_reducible show wpAny _ _ (exec (Stmt.For _ _ _ _ _) _) _ _ _)); (fail_if_success (with_reducible show wpAny _ _ (exec (Stmt.While _ _ _ _) _) _ _ _)); (fail_if_success (with_reducible show wpAny _ _ (pyIter _) _ _ _)); (fail_if_success (with_reducible show wpAny _ _ (eval (Expr.ListComp _ _ _ _) _) _ _ _)); (fail_if_success (with_reducible show wpAny _ _ (eval (Expr.GeneratorExp _ _ _ _) _) _ _ _)); (fail_if_success (with_reducible show wpAny _ _ (exec (Stmt.Assign _ (Expr.ListComp _ _ _ _) _) _) _ _ _)); (fail_if_success (with_reducible show wpAny _ _ (PySem.call (Value.ref _) _ _) _ _ _)); (fail_if_success (with_reducible show wpAny _ _ (PySem.call (Value.builtin "list.append") _) _ _ _)); (fail_if_success (with_reducible show wpAny _ _ (PySem.call (Value.builtin "any") _) _ _ _)); (fail_if_success (with_reducible show wpAny _ _ (PySem.call (Value.type "zip") _) _ _ _)); (fail_if_success (with_reducible show wpAny _ _ (PySem.call (Value.builtin "all") _) _ _ _)); (fail_if_success (with_reducible show InvEndN _ _ _ _ _ _ _)))); first | (dsimp only; walk1) | walk1))
      · (((rename Fr _ _ _ _ => fE); (rename News _ _ _ _ => nE); (refine kst_end (_, _) fE nE (by first | kst_in | kst_inAny) (by first | (intro p hp; kst_mem) | kst_anyIn) (by rfl) trivial (by (try dsimp only); kst_all) (by (( (intro z h1 h2 h3); (simp only [List.forall_mem_cons, List.not_mem_nil, false_implies, implies_true, and_true, ne_eq] at h1 h2); (have h4 := h3); (simp only [List.contains_cons, List.contains_nil, Bool.or_false, Bool.or_eq_false_iff, beq_eq_false_iff_ne, ne_eq] at h4); (first | rfl | (simp only [kstB, h1, h2, h3, h4, if_false, ite_false, Bool.false_eq_true, not_false_eq_true]; done) | (simp [kstB, h1, h2, h3, h4]; done))))) ?_); clear fE nE; (try dsimp only)))
        (rename (_ ≠ (0 : Int)) => hz)
        have hz' := and1_of hz
        have e : ((kk : Int)).toNat = kk := by (first | lia | omega)
        rw [e, gen_at kk hlt, bX, List.length_append, hkk]
        show _ = (((_ ^^^ (gsel Bc.gen (cn >>> 25) kk ^^^ _) : Nat)) : Int)
        rw [if_pos hz', Nat.xor_assoc]
      · (((rename Fr _ _ _ _ => fE); (rename News _ _ _ _ => nE); (refine kst_end (_, _) fE nE (by first | kst_in | kst_inAny) (by first | (intro p hp; kst_mem) | kst_anyIn) (by rfl) trivial (by (try dsimp only); kst_all) (by (( (intro z h1 h2 h3); (simp only [List.forall_mem_cons, List.not_mem_nil, false_implies, implies_true, and_true, ne_eq] at h1 h2); (have h4 := h3); (simp only [List.contains_cons, List.contains_nil, Bool.or_false, Bool.or_eq_false_iff, beq_eq_false_iff_ne, ne_eq] at h4); (first | rfl | (simp only [kstB, h1, h2, h3, h4, if_false, ite_false, Bool.false_eq_true, not_false_eq_true]; done) | (simp [kstB, h1, h2, h3, h4]; done))))) ?_); clear fE nE; (try dsimp only)))
        (rename (_ = (0 : Int)) => hz)
        have hz' := and1_not (fun e => e hz)
        rw [List.length_append, hkk]
        show _ = (((_ ^^^ (gsel Bc.gen (cn >>> 25) kk ^^^ _) : Nat)) : Int)
        rw [if_neg hz', Nat.xor_assoc]
    · rintro ⟨c2, tc2⟩ u2 h2 tk2 - hc2 F2 N2
      dsimp only at hc2
      (repeat' ((( (fail_if_success (with_reducible show wpAny _ _ (exec (Stmt.For _ _ _ _ _) _) _ _ _)); (fail_if_success (with_reducible show wpAny _ _ (exec (Stmt.While _ _ _ _) _) _ _ _)); (fail_if_success (with_reducible show wpAny _ _ (pyIter _) _ _ _)); (fail_if_success (with_reducible show wpAny _ _ (eval (Expr.ListComp _ _ _ _) _) _ _ _)); (fail_if_success (with_reducible show wpAny _ _ (eval (Expr.GeneratorExp _ _ _ _) _) _ _ _)); (fail_if_success (with_reducible show wpAny _ _ (exec (Stmt.Assign _ (Expr.ListComp _ _ _ _) _) _) _ _ _)); (fail_if_success (with_reducible show wpAny _ _ (PySem.call (Value.ref _) _ _) _ _ _)); (fail_if_success (with_reducible show wpAny _ _ (PySem.call (Value.builtin "list.append") _) _ _ _)); (fail_if_success (with_reducible show wpAny _ _ (PySem.call (Value.builtin "any") _) _ _ _)); (fail_if_success (with_reducible show wpAny _ _ (PySem.call (Value.type "zip") _) _ _ _)); (fail_if_success (with_reducible show wpAny _ _ (PySem.call (Value.builtin "all") _) _ _ _)); (fail_if_success (with_reducible show InvEndN _ _ _ _ _ _ _)))); first | (dsimp only; walk1) | walk1))
      (((rename Fr _ _ _ _ => fE); (rename News _ _ _ _ => nE); (refine kst_end (_, _) fE nE (by first | kst_in | kst_inAny) (by first | (intro p hp; kst_mem) | kst_anyIn) (by rfl) trivial (by (try dsimp only); kst_all) (by (( (intro z h1 h2 h3); (simp only [List.forall_mem_cons, List.not_mem_nil, false_implies, implies_true, and_true, ne_eq] at h1 h2); (have h4 := h3); (simp only [List.contains_cons, List.contains_nil, Bool.or_false, Bool.or_eq_false_iff, beq_eq_false_iff_ne, ne_eq] at h4); (first | rfl | (simp only [kstB, h1, h2, h3, h4, if_false, ite_false, Bool.false_eq_true, not_false_eq_true]; done) | (simp [kstB, h1, h2, h3, h4]; done))))) ?_); clear fE nE; (try dsimp only)))
      refine ⟨pn ++ [v], by rw [hpre, List.map_append]; rfl, ?_⟩
      rw [hc2, List.foldl_append, hcn]
      have : (rangeKs 0 5).length = 5 := rfl
      rw [this]; rfl
  · clear F N
    rintro ⟨c, tc⟩ u h tk - ⟨pn, hpre, hc⟩ F N
    dsimp only at hc
    subst hc
    dsimp only
    (repeat' ((( (fail_if_success (with_reducible show wpAny _ _ (exec (Stmt.For _ _ _ _ _) _) _ _ _)); (fail_if_success (with_reducible show wpAny _ _ (exec (Stmt.While _ _ _ _) _) _ _ _)); (fail_if_success (with_reducible show wpAny _ _ (pyIter _) _ _ _)); (fail_if_success (with_reducible show wpAny _ _ (eval (Expr.ListComp _ _ _ _) _) _ _ _)); (fail_if_success (with_reducible show wpAny _ _ (eval (Expr.GeneratorExp _ _ _ _) _) _ _ _)); (fail_if_success (with_reducible show wpAny _ _ (exec (Stmt.Assign _ (Expr.ListComp _ _ _ _) _) _) _ _ _)); (fail_if_success (with_reducible show wpAny _ _ (PySem.call (Value.ref _) _ _) _ _ _)); (fail_if_success (with_reducible show wpAny _ _ (PySem.call (Value.builtin "list.append") _) _ _ _)); (fail_if_success (with_reducible show wpAny _ _ (PySem.call (Value.builtin "any") _) _ _ _)); (fail_if_success (with_reducible show wpAny _ _ (PySem.call (Value.type "zip") _) _ _ _)); (fail_if_success (with_reducible show wpAny _ _ (PySem.call (Value.builtin "all") _) _ _ _)); (fail_if_success (with_reducible show InvEndN _ _ _ _ _ _ _)))); first | (dsimp only; walk1) | walk1))
    dsimp only
    rw [← cast_inj hpre]
    exact hret _ _ _ F.keep
end Mine

namespace Mine
noncomputable def num (ns : List Int) (p : Nat) : Int := (if ns.length = 0 then 0 else ns.getD (p % ns.length) 0) + 7 * (p : Int)
theorem num_call {w : World} {A : Around} {E : Value → Shared → Prop} {s : Shared} {p : Program} {loose : List Str} {mg mb : Str → Option Value} {Q : Value → Shared → Prop}
    (C : Cx w p loose mg mb s.heap) (hh : A.handled = none) (hd : A.depth < recursionLimit) {l : Addr} {vs : List Value} {ns : List Int} {k : Nat} {tk : Tok} (hl : s.heap.IsList l vs.toArray) (hi : IntsAre vs ns) (hn : ns.length ≤ 100) (hk : k < 1000)
    (hret : ∀ h' tk t, Ext s.heap h' → Q (.int (num ns k) t) { s with heap := h', toks := tk }) :
   wpAny (model PySem.Challenge.rw_ai0020_01.row.prog w) A (call (.ref 128) [.ref l, .int (k : Int) tk]) Q E s := by
  refine enter (binds := [(Str.ofString "script", .ref l), (Str.ofString "place", .int (k : Int) tk)]) C hd rfl rfl (BindsTo.of_eq rfl) (locs rfl) ?_ rfl rfl rfl (by decide)
  intro h₁ L F N X T
  (try dsimp only)
  (repeat' ((( (fail_if_success (with_reducible show wpAny _ _ (exec (Stmt.For _ _ _ _ _) _) _ _ _)); (fail_if_success (with_reducible show wpAny _ _ (exec (Stmt.While _ _ _ _) _) _ _ _)); (fail_if_success (with_reducible show wpAny _ _ (pyIter _) _ _ _)); (fail_if_success (with_reducible show wpAny _ _ (eval (Expr.ListComp _ _ _ _) _) _ _ _)); (fail_if_success (with_reducible show wpAny _ _ (eval (Expr.GeneratorExp _ _ _ _) _) _ _ _)); (fail_if_success (with_reducible show wpAny _ _ (exec (Stmt.Assign _ (Expr.ListComp _ _ _ _) _) _) _ _ _)); (fail_if_success (with_reducible show wpAny _ _ (PySem.call (Value.ref _) _ _) _ _ _)); (fail_if_success (with_reducible show wpAny _ _ (PySem.call (Value.builtin "list.append") _) _ _ _)); (fail_if_success (with_reducible show wpAny _ _ (PySem.call (Value.builtin "any") _) _ _ _)); (fail_if_success (with_reducible show wpAny _ _ (PySem.call (Value.type "zip") _) _ _ _)); (fail_if_success (with_reducible show wpAny _ _ (PySem.call (Value.builtin "all") _) _ _ _)); (fail_if_success (with_reducible show InvEndN _ _ _ _ _ _ _)))); first | (dsimp only; walk1) | walk1))
  · dsimp only
    (rename Fr _ _ _ _ => F)
    have e : ns.getD ((k : Int).fmod ns.length).toNat 0 + 7 * (k : Int) = num ns k := by
      unfold num
      rw [if_neg (by (first | lia | omega)), Int.fmod_eq_emod_of_nonneg _ (by (first | lia | omega)), ← Int.natCast_emod, Int.toNat_natCast]
    rw [e]
    exact hret _ _ _ F.keep
  · dsimp only
    (rename Fr _ _ _ _ => F)
    have e : 0 + 7 * (k : Int) = num ns k := by
      unfold num
      rw [if_pos (by (first | lia | omega))]
    rw [e]
    exact hret _ _ _ F.keep
end Mine

namespace Mine
noncomputable def hrpx (x : Str) : List Nat := x.cps.toList.map (· >>> 5) ++ [0] ++ x.cps.toList.map (· &&& 31)
theorem hrpx_len (x : Str) : (hrpx x).length = 2 * x.cps.size + 1 := by unfold hrpx; simp; (first | lia | omega)
theorem hrp_call {w : World} {A : Around} {E : Value → Shared → Prop} {s : Shared} {p : Program} {loose : List Str} {mg mb : Str → Option Value} {Q : Value → Shared → Prop}
    (C : Cx w p loose mg mb s.heap) (hh : A.handled = none) (hd : A.depth < recursionLimit) {x : Str} {tk : Tok} (hsz : x.cps.size ≤ 100)
    (hret : ∀ h' tk D vs n, Ext s.heap h' → s.heap.get? D = none → h'.get? D = some (listOf vs.toArray n) → NatsAre vs (hrpx x) → Q (.ref D) { s with heap := h', toks := tk }) :
   wpAny (model PySem.Challenge.rw_ai0020_01.row.prog w) A (call (.ref 40) [.str x tk]) Q E s := by
  refine enter (binds := [(Str.ofString "hrp", .str x tk)]) C hd rfl rfl (BindsTo.of_eq rfl) (locs rfl) ?_ rfl rfl rfl (by decide)
  intro h₁ L F N X T
  (try dsimp only)
  (repeat' ((( (fail_if_success (with_reducible show wpAny _ _ (exec (Stmt.For _ _ _ _ _) _) _ _ _)); (fail_if_success (with_reducible show wpAny _ _ (exec (Stmt.While _ _ _ _) _) _ _ _)); (fail_if_success (with_reducible show wpAny _ _ (pyIter _) _ _ _)); (fail_if_success (with_reducible show wpAny _ _ (eval (Expr.ListComp _ _ _ _) _) _ _ _)); (fail_if_success (with_reducible show wpAny _ _ (eval (Expr.GeneratorExp _ _ _ _) _) _ _ _)); (fail_if_success (with_reducible show wpAny _ _ (exec (Stmt.Assign _ (Expr.ListComp _ _ _ _) _) _) _ _ _)); (fail_if_success (with_reducible show wpAny _ _ (PySem.call (Value.ref _) _ _) _ _ _)); (fail_if_success (with_reducible show wpAny _ _ (PySem.call (Value.builtin "list.append") _) _ _ _)); (fail_if_success (with_reducible show wpAny _ _ (PySem.call (Value.builtin "any") _) _ _ _)); (fail_if_success (with_reducible show wpAny _ _ (PySem.call (Value.type "zip") _) _ _ _)); (fail_if_success (with_reducible show wpAny _ _ (PySem.call (Value.builtin "all") _) _ _ _)); (fail_if_success (with_reducible show InvEndN _ _ _ _ _ _ _)))); first | (dsimp only; walk1) | walk1))
  refine ListComp_at (fun _ => true) (FS (fun c y => ∃ t, y = .int ((c >>> 5 : Nat) : Int) t)) (by with_unfolding_all rfl) (by decide) (by rfl) (by decide) (by rfl) ?_ (fun _ => rfl)
  (repeat' ((( (fail_if_success (with_reducible show wpAny _ _ (exec (Stmt.For _ _ _ _ _) _) _ _ _)); (fail_if_success (with_reducible show wpAny _ _ (exec (Stmt.While _ _ _ _) _) _ _ _)); (fail_if_success (with_reducible show wpAny _ _ (pyIter _) _ _ _)); (fail_if_success (with_reducible show wpAny _ _ (eval (Expr.ListComp _ _ _ _) _) _ _ _)); (fail_if_success (with_reducible show wpAny _ _ (eval (Expr.GeneratorExp _ _ _ _) _) _ _ _)); (fail_if_success (with_reducible show wpAny _ _ (exec (Stmt.Assign _ (Expr.ListComp _ _ _ _) _) _) _ _ _)); (fail_if_success (with_reducible show wpAny _ _ (PySem.call (Value.ref _) _ _) _ _ _)); (fail_if_success (with_reducible show wpAny _ _ (PySem.call (Value.builtin "list.append") _) _ _ _)); (fail_if_success (with_reducible show wpAny _ _ (PySem.call (Value.builtin "any") _) _ _ _)); (fail_if_success (with_reducible show wpAny _ _ (PySem.call (Value.type "zip") _) _ _ _)); (fail_if_success (with_reducible show wpAny _ _ (PySem.call (Value.builtin "all") _) _ _ _)); (fail_if_success (with_reducible show InvEndN _ _ _ _ _ _ _)))); first | (dsimp only; walk1) | walk1))
  (((rename Fr _ _ _ _ => uF); (have uX1 := Frag.In.keeps (by assumption) uF.keep); (have uT1 := TopRead.keeps (by assumption) uF.keep)))
  refine lc_str (fun c y => ∃ t, y = .int ((c >>> 5 : Nat) : Int) t) hh (by rw [sizeLine_eq]; (first | lia | omega)) ?_ ?_
  · intro C c u s₃ m₃ E' hc F N hm
    clear hret
    (repeat' ((( (fail_if_success (with_reducible show wpAny _ _ (exec (Stmt.For _ _ _ _ _) _) _ _ _)); (fail_if_success (with_reducible show wpAny _ _ (exec (Stmt.While _ _ _ _) _) _ _ _)); (fail_if_success (with_reducible show wpAny _ _ (pyIter _) _ _ _)); (fail_if_success (with_reducible show wpAny _ _ (eval (Expr.ListComp _ _ _ _) _) _ _ _)); (fail_if_success (with_reducible show wpAny _ _ (eval (Expr.GeneratorExp _ _ _ _) _) _ _ _)); (fail_if_success (with_reducible show wpAny _ _ (exec (Stmt.Assign _ (Expr.ListComp _ _ _ _) _) _) _ _ _)); (fail_if_success (with_reducible show wpAny _ _ (PySem.call (Value.ref _) _ _) _ _ _)); (fail_if_success (with_reducible show wpAny _ _ (PySem.call (Value.builtin "list.append") _) _ _ _)); (fail_if_success (with_reducible show wpAny _ _ (PySem.call (Value.builtin "any") _) _ _ _)); (fail_if_success (with_reducible show wpAny _ _ (PySem.call (Value.type "zip") _) _ _ _)); (fail_if_success (with_reducible show wpAny _ _ (PySem.call (Value.builtin "all") _) _ _ _)); (fail_if_success (with_reducible show InvEndN _ _ _ _ _ _ _)))); first | (dsimp only; walk1) | walk1))
    exact ⟨_, _, rfl, fun _ _ e => e⟩
  · intro D h' tk ys n hD0 hD hA hk
    (rename Fr _ _ _ _ => F)
    have F1 := led_fr F hk
    have N1 := led_add F N hk hD0 hD
    have hA' : NatsAre ys (x.cps.toList.map (· >>> 5)) := All2.natsOf hA
    (repeat' ((( (fail_if_success (with_reducible show wpAny _ _ (exec (Stmt.For _ _ _ _ _) _) _ _ _)); (fail_if_success (with_reducible show wpAny _ _ (exec (Stmt.While _ _ _ _) _) _ _ _)); (fail_if_success (with_reducible show wpAny _ _ (pyIter _) _ _ _)); (fail_if_success (with_reducible show wpAny _ _ (eval (Expr.ListComp _ _ _ _) _) _ _ _)); (fail_if_success (with_reducible show wpAny _ _ (eval (Expr.GeneratorExp _ _ _ _) _) _ _ _)); (fail_if_success (with_reducible show wpAny _ _ (exec (Stmt.Assign _ (Expr.ListComp _ _ _ _) _) _) _ _ _)); (fail_if_success (with_reducible show wpAny _ _ (PySem.call (Value.ref _) _ _) _ _ _)); (fail_if_success (with_reducible show wpAny _ _ (PySem.call (Value.builtin "list.append") _) _ _ _)); (fail_if_success (with_reducible show wpAny _ _ (PySem.call (Value.builtin "any") _) _ _ _)); (fail_if_success (with_reducible show wpAny _ _ (PySem.call (Value.type "zip") _) _ _ _)); (fail_if_success (with_reducible show wpAny _ _ (PySem.call (Value.builtin "all") _) _ _ _)); (fail_if_success (with_reducible show InvEndN _ _ _ _ _ _ _)))); first | (dsimp only; walk1) | walk1))
    refine ListComp_at (fun _ => true) (FS (fun c y => ∃ t, y = .int ((c &&& 31 : Nat) : Int) t)) (by with_unfolding_all rfl) (by decide) (by rfl) (by decide) (by rfl) ?_ (fun _ => rfl)
    (repeat' ((( (fail_if_success (with_reducible show wpAny _ _ (exec (Stmt.For _ _ _ _ _) _) _ _ _)); (fail_if_success (with_reducible show wpAny _ _ (exec (Stmt.While _ _ _ _) _) _ _ _)); (fail_if_success (with_reducible show wpAny _ _ (pyIter _) _ _ _)); (fail_if_success (with_reducible show wpAny _ _ (eval (Expr.ListComp _ _ _ _) _) _ _ _)); (fail_if_success (with_reducible show wpAny _ _ (eval (Expr.GeneratorExp _ _ _ _) _) _ _ _)); (fail_if_success (with_reducible show wpAny _ _ (exec (Stmt.Assign _ (Expr.ListComp _ _ _ _) _) _) _ _ _)); (fail_if_success (with_reducible show wpAny _ _ (PySem.call (Value.ref _) _ _) _ _ _)); (fail_if_success (with_reducible show wpAny _ _ (PySem.call (Value.builtin "list.append") _) _ _ _)); (fail_if_success (with_reducible show wpAny _ _ (PySem.call (Value.builtin "any") _) _ _ _)); (fail_if_success (with_reducible show wpAny _ _ (PySem.call (Value.type "zip") _) _ _ _)); (fail_if_success (with_reducible show wpAny _ _ (PySem.call (Value.builtin "all") _) _ _ _)); (fail_if_success (with_reducible show InvEndN _ _ _ _ _ _ _)))); first | (dsimp only; walk1) | walk1))
    (((rename Fr _ _ _ _ => uF); (have uX1 := Frag.In.keeps (by assumption) uF.keep); (have uT1 := TopRead.keeps (by assumption) uF.keep)))
    refine lc_str (fun c y => ∃ t, y = .int ((c &&& 31 : Nat) : Int) t) hh (by rw [sizeLine_eq]; (first | lia | omega)) ?_ ?_
    · intro C c u s₃ m₃ E' hc F N hm
      clear hret
      (repeat' ((( (fail_if_success (with_reducible show wpAny _ _ (exec (Stmt.For _ _ _ _ _) _) _ _ _)); (fail_if_success (with_reducible show wpAny _ _ (exec (Stmt.While _ _ _ _) _) _ _ _)); (fail_if_success (with_reducible show wpAny _ _ (pyIter _) _ _ _)); (fail_if_success (with_reducible show wpAny _ _ (eval (Expr.ListComp _ _ _ _) _) _ _ _)); (fail_if_success (with_reducible show wpAny _ _ (eval (Expr.GeneratorExp _ _ _ _) _) _ _ _)); (fail_if_success (with_reducible show wpAny _ _ (exec (Stmt.Assign _ (Expr.ListComp _ _ _ _) _) _) _ _ _)); (fail_if_success (with_reducible show wpAny _ _ (PySem.call (Value.ref _) _ _) _ _ _)); (fail_if_success (with_reducible show wpAny _ _ (PySem.call (Value.builtin "list.append") _) _ _ _)); (fail_if_success (with_reducible show wpAny _ _ (PySem.call (Value.builtin "any") _) _ _ _)); (fail_if_success (with_reducible show wpAny _ _ (PySem.call (Value.type "zip") _) _ _ _)); (fail_if_success (with_reducible show wpAny _ _ (PySem.call (Value.builtin "all") _) _ _ _)); (fail_if_success (with_reducible show InvEndN _ _ _ _ _ _ _)))); first | (dsimp only; walk1) | walk1))
      exact ⟨_, _, rfl, fun _ _ e => e⟩
    · intro D' h'' tk' ys' n' hD0' hD' hA2 hk'
      (rename Fr _ _ _ _ => F)
      (rename News _ _ _ _ => N)
      have F2 := led_fr F hk'
      have N2 := led_add F N hk' hD0' hD'
      have hA2' : NatsAre ys' (x.cps.toList.map (· &&& 31)) := All2.natsOf hA2
      (repeat' ((( (fail_if_success (with_reducible show wpAny _ _ (exec (Stmt.For _ _ _ _ _) _) _ _ _)); (fail_if_success (with_reducible show wpAny _ _ (exec (Stmt.While _ _ _ _) _) _ _ _)); (fail_if_success (with_reducible show wpAny _ _ (pyIter _) _ _ _)); (fail_if_success (with_reducible show wpAny _ _ (eval (Expr.ListComp _ _ _ _) _) _ _ _)); (fail_if_success (with_reducible show wpAny _ _ (eval (Expr.GeneratorExp _ _ _ _) _) _ _ _)); (fail_if_success (with_reducible show wpAny _ _ (exec (Stmt.Assign _ (Expr.ListComp _ _ _ _) _) _) _ _ _)); (fail_if_success (with_reducible show wpAny _ _ (PySem.call (Value.ref _) _ _) _ _ _)); (fail_if_success (with_reducible show wpAny _ _ (PySem.call (Value.builtin "list.append") _) _ _ _)); (fail_if_success (with_reducible show wpAny _ _ (PySem.call (Value.builtin "any") _) _ _ _)); (fail_if_success (with_reducible show wpAny _ _ (PySem.call (Value.type "zip") _) _ _ _)); (fail_if_success (with_reducible show wpAny _ _ (PySem.call (Value.builtin "all") _) _ _ _)); (fail_if_success (with_reducible show InvEndN _ _ _ _ _ _ _)))); first | (dsimp only; walk1) | walk1))
      dsimp only
      (rename Fr _ _ _ _ => F)
      (rename News _ _ _ _ => N)
      (rename IntsAre _ _ => hI)
      refine hret _ _ _ _ _ F.keep (N _ (.head _)).2.2 (N _ (.head _)).1 ?_
      show IntsAre _ _
      unfold hrpx
      rw [List.map_append, List.map_append]
      exact hI
end Mine

namespace Mine
noncomputable def cks (enc : Nat) (hrp : Str) (data : List Nat) : List Nat :=
  let pm := pm32 (hrpx hrp ++ data ++ [0, 0, 0, 0, 0, 0]) ^^^ (if enc = 2 then 734539939 else 1)
  (List.range 6).map fun i => (pm >>> (5 * (5 - i))) &&& 31
theorem create_call {w : World} {A : Around} {E : Value → Shared → Prop} {s : Shared} {p : Program} {loose : List Str} {mg mb : Str → Option Value} {Q : Value → Shared → Prop}
    (C : Cx w p loose mg mb s.heap) (hh : A.handled = none) (hd : A.depth + 10 < recursionLimit) {x : Str} {tk t1 : Tok} {e : Nat} {l : Addr} {vs : List Value} {ns : List Nat} (hsz : x.cps.size ≤ 100) (hl : s.heap.IsList l vs.toArray) (hi : NatsAre vs ns) (hn : ns.length ≤ 200)
    (hret : ∀ h' tk D vs n, Ext s.heap h' → s.heap.get? D = none → h'.get? D = some (listOf vs.toArray n) → NatsAre vs (cks e x ns) → Q (.ref D) { s with heap := h', toks := tk }) :
   wpAny (model PySem.Challenge.rw_ai0020_01.row.prog w) A (call (.ref 52) [.int (e : Int) t1, .str x tk, .ref l]) Q E s := by
  refine enterC (binds := [(Str.ofString "encoding", .int (e : Int) t1), (Str.ofString "hrp", .str x tk), (Str.ofString "data", .ref l)]) C (by (first | lia | omega)) rfl rfl (BindsTo.of_eq rfl) rfl (by decide) ?_ rfl rfl rfl
  intro h₁ L tk cells F N Y X T
  obtain ⟨oc, rfl, hoc⟩ := CellsAre.one Y
  clear Y
  (try dsimp only)
  (repeat' ((( (fail_if_success (with_reducible show wpAny _ _ (exec (Stmt.For _ _ _ _ _) _) _ _ _)); (fail_if_success (with_reducible show wpAny _ _ (exec (Stmt.While _ _ _ _) _) _ _ _)); (fail_if_success (with_reducible show wpAny _ _ (pyIter _) _ _ _)); (fail_if_success (with_reducible show wpAny _ _ (eval (Expr.ListComp _ _ _ _) _) _ _ _)); (fail_if_success (with_reducible show wpAny _ _ (eval (Expr.GeneratorExp _ _ _ _) _) _ _ _)); (fail_if_success (with_reducible show wpAny _ _ (exec (Stmt.Assign _ (Expr.ListComp _ _ _ _) _) _) _ _ _)); (fail_if_success (with_reducible show wpAny _ _ (PySem.call (Value.ref _) _ _) _ _ _)); (fail_if_success (with_reducible show wpAny _ _ (PySem.call (Value.builtin "list.append") _) _ _ _)); (fail_if_success (with_reducible show wpAny _ _ (PySem.call (Value.builtin "any") _) _ _ _)); (fail_if_success (with_reducible show wpAny _ _ (PySem.call (Value.type "zip") _) _ _ _)); (fail_if_success (with_reducible show wpAny _ _ (PySem.call (Value.builtin "all") _) _ _ _)); (fail_if_success (with_reducible show InvEndN _ _ _ _ _ _ _)))); first | (dsimp only; walk1) | walk1))
  (rename Fr _ _ _ _ => F)
  (rename News _ _ _ _ => N)
  refine hrp_call (by exact C.fr F) (by exact hh) (by show A.depth + 1 < recursionLimit; (first | lia | omega)) hsz ?_
  intro h2 tk2 D vs2 n2 hk hD0 hD hI2
  have F1 := led_fr F hk
  have N1 := led_add F N hk hD0 hD
  clear F N
  have hxl := hrpx_len x
  dsimp only
  (repeat' ((( (fail_if_success (with_reducible show wpAny _ _ (exec (Stmt.For _ _ _ _ _) _) _ _ _)); (fail_if_success (with_reducible show wpAny _ _ (exec (Stmt.While _ _ _ _) _) _ _ _)); (fail_if_success (with_reducible show wpAny _ _ (pyIter _) _ _ _)); (fail_if_success (with_reducible show wpAny _ _ (eval (Expr.ListComp _ _ _ _) _) _ _ _)); (fail_if_success (with_reducible show wpAny _ _ (eval (Expr.GeneratorExp _ _ _ _) _) _ _ _)); (fail_if_success (with_reducible show wpAny _ _ (exec (Stmt.Assign _ (Expr.ListComp _ _ _ _) _) _) _ _ _)); (fail_if_success (with_reducible show wpAny _ _ (PySem.call (Value.ref _) _ _) _ _ _)); (fail_if_success (with_reducible show wpAny _ _ (PySem.call (Value.builtin "list.append") _) _ _ _)); (fail_if_success (with_reducible show wpAny _ _ (PySem.call (Value.builtin "any") _) _ _ _)); (fail_if_success (with_reducible show wpAny _ _ (PySem.call (Value.type "zip") _) _ _ _)); (fail_if_success (with_reducible show wpAny _ _ (PySem.call (Value.builtin "all") _) _ _ _)); (fail_if_success (with_reducible show InvEndN _ _ _ _ _ _ _)))); first | (dsimp only; walk1) | walk1))
  all_goals (
    (first | (have he : (if e = 2 then 734539939 else 1) = 734539939 := if_pos (by (first | lia | omega))) | (have he : (if e = 2 then 734539939 else 1) = 1 := if_neg (by (first | lia | omega))))
    (rename Fr _ _ _ _ => F)
    (rename News _ _ _ _ => N)
    (rename IntsAre _ _ => hI)
    refine polymod_call (ns := hrpx x ++ ns ++ [0, 0, 0, 0, 0, 0]) (by exact C.fr F) (by exact hh) (by show A.depth + 1 < recursionLimit; (first | lia | omega)) (by exact ⟨_, (N _ (by k_mem)).1, rfl, _, rfl⟩) (by show IntsAre _ _; rw [List.map_append, List.map_append]; exact hI) ?_
    intro h3 tk3 t3 hk3
    have F1 := led_fr F hk3
    have N1 := led_keep N hk3
    clear F N
    dsimp only
    (repeat' ((( (fail_if_success (with_reducible show wpAny _ _ (exec (Stmt.For _ _ _ _ _) _) _ _ _)); (fail_if_success (with_reducible show wpAny _ _ (exec (Stmt.While _ _ _ _) _) _ _ _)); (fail_if_success (with_reducible show wpAny _ _ (pyIter _) _ _ _)); (fail_if_success (with_reducible show wpAny _ _ (eval (Expr.ListComp _ _ _ _) _) _ _ _)); (fail_if_success (with_reducible show wpAny _ _ (eval (Expr.GeneratorExp _ _ _ _) _) _ _ _)); (fail_if_success (with_reducible show wpAny _ _ (exec (Stmt.Assign _ (Expr.ListComp _ _ _ _) _) _) _ _ _)); (fail_if_success (with_reducible show wpAny _ _ (PySem.call (Value.ref _) _ _) _ _ _)); (fail_if_success (with_reducible show wpAny _ _ (PySem.call (Value.builtin "list.append") _) _ _ _)); (fail_if_success (with_reducible show wpAny _ _ (PySem.call (Value.builtin "any") _) _ _ _)); (fail_if_success (with_reducible show wpAny _ _ (PySem.call (Value.type "zip") _) _ _ _)); (fail_if_success (with_reducible show wpAny _ _ (PySem.call (Value.builtin "all") _) _ _ _)); (fail_if_success (with_reducible show InvEndN _ _ _ _ _ _ _)))); first | (dsimp only; walk1) | walk1))
    (rename Fr _ _ _ _ => F)
    (rename News _ _ _ _ => N)
    refine st_cell (rest := []) (by rfl) (by rfl) (by rfl) F N (by k_mem) hoc (by simp) ?_
    clear F N
    intro h4 oc4 hoc4 F N
    (repeat' ((( (fail_if_success (with_reducible show wpAny _ _ (exec (Stmt.For _ _ _ _ _) _) _ _ _)); (fail_if_success (with_reducible show wpAny _ _ (exec (Stmt.While _ _ _ _) _) _ _ _)); (fail_if_success (with_reducible show wpAny _ _ (pyIter _) _ _ _)); (fail_if_success (with_reducible show wpAny _ _ (eval (Expr.ListComp _ _ _ _) _) _ _ _)); (fail_if_success (with_reducible show wpAny _ _ (eval (Expr.GeneratorExp _ _ _ _) _) _ _ _)); (fail_if_success (with_reducible show wpAny _ _ (exec (Stmt.Assign _ (Expr.ListComp _ _ _ _) _) _) _ _ _)); (fail_if_success (with_reducible show wpAny _ _ (PySem.call (Value.ref _) _ _) _ _ _)); (fail_if_success (with_reducible show wpAny _ _ (PySem.call (Value.builtin "list.append") _) _ _ _)); (fail_if_success (with_reducible show wpAny _ _ (PySem.call (Value.builtin "any") _) _ _ _)); (fail_if_success (with_reducible show wpAny _ _ (PySem.call (Value.type "zip") _) _ _ _)); (fail_if_success (with_reducible show wpAny _ _ (PySem.call (Value.builtin "all") _) _ _ _)); (fail_if_success (with_reducible show InvEndN _ _ _ _ _ _ _)))); first | (dsimp only; walk1) | walk1))
    refine ListComp_at (fun _ => true) (FN (fun k y => ∃ t, y = .int (((pm32 (hrpx x ++ ns ++ [0, 0, 0, 0, 0, 0]) ^^^ (if e = 2 then 734539939 else 1)) >>> (5 * (5 - k)) &&& 31 : Nat) : Int) t)) (by with_unfolding_all rfl) (by decide) (by rfl) (by decide) (by rfl) ?_ (fun _ => rfl)
    (repeat' ((( (fail_if_success (with_reducible show wpAny _ _ (exec (Stmt.For _ _ _ _ _) _) _ _ _)); (fail_if_success (with_reducible show wpAny _ _ (exec (Stmt.While _ _ _ _) _) _ _ _)); (fail_if_success (with_reducible show wpAny _ _ (pyIter _) _ _ _)); (fail_if_success (with_reducible show wpAny _ _ (eval (Expr.ListComp _ _ _ _) _) _ _ _)); (fail_if_success (with_reducible show wpAny _ _ (eval (Expr.GeneratorExp _ _ _ _) _) _ _ _)); (fail_if_success (with_reducible show wpAny _ _ (exec (Stmt.Assign _ (Expr.ListComp _ _ _ _) _) _) _ _ _)); (fail_if_success (with_reducible show wpAny _ _ (PySem.call (Value.ref _) _ _) _ _ _)); (fail_if_success (with_reducible show wpAny _ _ (PySem.call (Value.builtin "list.append") _) _ _ _)); (fail_if_success (with_reducible show wpAny _ _ (PySem.call (Value.builtin "any") _) _ _ _)); (fail_if_success (with_reducible show wpAny _ _ (PySem.call (Value.type "zip") _) _ _ _)); (fail_if_success (with_reducible show wpAny _ _ (PySem.call (Value.builtin "all") _) _ _ _)); (fail_if_success (with_reducible show InvEndN _ _ _ _ _ _ _)))); first | (dsimp only; walk1) | walk1))
    (rename IsRange _ _ _ _ _ _ _ _ => rg)
    (((rename Fr _ _ _ _ => uF); (have uX1 := Frag.In.keeps (by assumption) uF.keep); (have uT1 := TopRead.keeps (by assumption) uF.keep)))
    (rename Fr _ _ _ _ => F)
    (rename News _ _ _ _ => N)
    have hc4 := (N _ (.head _)).1
    refine lc_range (n := 6) (fun k y => ∃ t, y = .int (((pm32 (hrpx x ++ ns ++ [0, 0, 0, 0, 0, 0]) ^^^ (if e = 2 then 734539939 else 1)) >>> (5 * (5 - k)) &&& 31 : Nat) : Int) t) hh rg (by decide) ?_ ?_
    · intro C k u s₃ m₃ E' hk6 F N hm
      clear hret
      (repeat' ((( (fail_if_success (with_reducible show wpAny _ _ (exec (Stmt.For _ _ _ _ _) _) _ _ _)); (fail_if_success (with_reducible show wpAny _ _ (exec (Stmt.While _ _ _ _) _) _ _ _)); (fail_if_success (with_reducible show wpAny _ _ (pyIter _) _ _ _)); (fail_if_success (with_reducible show wpAny _ _ (eval (Expr.ListComp _ _ _ _) _) _ _ _)); (fail_if_success (with_reducible show wpAny _ _ (eval (Expr.GeneratorExp _ _ _ _) _) _ _ _)); (fail_if_success (with_reducible show wpAny _ _ (exec (Stmt.Assign _ (Expr.ListComp _ _ _ _) _) _) _ _ _)); (fail_if_success (with_reducible show wpAny _ _ (PySem.call (Value.ref _) _ _) _ _ _)); (fail_if_success (with_reducible show wpAny _ _ (PySem.call (Value.builtin "list.append") _) _ _ _)); (fail_if_success (with_reducible show wpAny _ _ (PySem.call (Value.builtin "any") _) _ _ _)); (fail_if_success (with_reducible show wpAny _ _ (PySem.call (Value.type "zip") _) _ _ _)); (fail_if_success (with_reducible show wpAny _ _ (PySem.call (Value.builtin "all") _) _ _ _)); (fail_if_success (with_reducible show InvEndN _ _ _ _ _ _ _)))); first | (dsimp only; walk1) | walk1))
      · have e5 : (5 * (5 - (k : Int))).toNat = 5 * (5 - k) := by (first | lia | omega)
        rw [e5, he]
      · exact ⟨_, _, rfl, fun _ _ e => e⟩
    · intro D' h'' tk' ys' n' hD0' hD' hA hk'
      (repeat' ((( (fail_if_success (with_reducible show wpAny _ _ (exec (Stmt.For _ _ _ _ _) _) _ _ _)); (fail_if_success (with_reducible show wpAny _ _ (exec (Stmt.While _ _ _ _) _) _ _ _)); (fail_if_success (with_reducible show wpAny _ _ (pyIter _) _ _ _)); (fail_if_success (with_reducible show wpAny _ _ (eval (Expr.ListComp _ _ _ _) _) _ _ _)); (fail_if_success (with_reducible show wpAny _ _ (eval (Expr.GeneratorExp _ _ _ _) _) _ _ _)); (fail_if_success (with_reducible show wpAny _ _ (exec (Stmt.Assign _ (Expr.ListComp _ _ _ _) _) _) _ _ _)); (fail_if_success (with_reducible show wpAny _ _ (PySem.call (Value.ref _) _ _) _ _ _)); (fail_if_success (with_reducible show wpAny _ _ (PySem.call (Value.builtin "list.append") _) _ _ _)); (fail_if_success (with_reducible show wpAny _ _ (PySem.call (Value.builtin "any") _) _ _ _)); (fail_if_success (with_reducible show wpAny _ _ (PySem.call (Value.type "zip") _) _ _ _)); (fail_if_success (with_reducible show wpAny _ _ (PySem.call (Value.builtin "all") _) _ _ _)); (fail_if_success (with_reducible show InvEndN _ _ _ _ _ _ _)))); first | (dsimp only; walk1) | walk1))
      (rename Fr _ _ _ _ => F)
      (rename News _ _ _ _ => N)
      have F1 := led_fr F hk'
      have N1 := led_add F N hk' hD0' hD'
      exact hret _ _ _ _ _ F1.keep (N1 _ (.head _)).2.2 hD' (All2.natsOf hA))
end Mine

namespace Mine
noncomputable def cst (e : Nat) : Nat := if e = 2 then 734539939 else 1
theorem verify_call {w : World} {A : Around} {E : Value → Shared → Prop} {s : Shared} {p : Program} {loose : List Str} {mg mb : Str → Option Value} {Q : Value → Shared → Prop}
    (C : Cx w p loose mg mb s.heap) (hh : A.handled = none) (hd : A.depth + 10 < recursionLimit) {x : Str} {tk : Tok} {e : Nat} {l : Addr} {vs : List Value} {ns : List Nat} (hsz : x.cps.size ≤ 100) (hl : s.heap.IsList l vs.toArray) (hi : NatsAre vs ns) (hn : ns.length ≤ 200)
    (he : e = 1 ∨ e = 2) (hv : pm32 (hrpx x ++ ns) = cst e)
    (hret : ∀ h' tk t, Ext s.heap h' → Q (.int (e : Int) t) { s with heap := h', toks := tk }) :
   wpAny (model PySem.Challenge.rw_ai0020_01.row.prog w) A (call (.ref 47) [.str x tk, .ref l]) Q E s := by
  refine enter (binds := [(Str.ofString "hrp", .str x tk), (Str.ofString "data", .ref l)]) C (by (first | lia | omega)) rfl rfl (BindsTo.of_eq rfl) (locs rfl) ?_ rfl rfl rfl (by decide)
  intro h₁ L F N X T
  (try dsimp only)
  (repeat' ((( (fail_if_success (with_reducible show wpAny _ _ (exec (Stmt.For _ _ _ _ _) _) _ _ _)); (fail_if_success (with_reducible show wpAny _ _ (exec (Stmt.While _ _ _ _) _) _ _ _)); (fail_if_success (with_reducible show wpAny _ _ (pyIter _) _ _ _)); (fail_if_success (with_reducible show wpAny _ _ (eval (Expr.ListComp _ _ _ _) _) _ _ _)); (fail_if_success (with_reducible show wpAny _ _ (eval (Expr.GeneratorExp _ _ _ _) _) _ _ _)); (fail_if_success (with_reducible show wpAny _ _ (exec (Stmt.Assign _ (Expr.ListComp _ _ _ _) _) _) _ _ _)); (fail_if_success (with_reducible show wpAny _ _ (PySem.call (Value.ref _) _ _) _ _ _)); (fail_if_success (with_reducible show wpAny _ _ (PySem.call (Value.builtin "list.append") _) _ _ _)); (fail_if_success (with_reducible show wpAny _ _ (PySem.call (Value.builtin "any") _) _ _ _)); (fail_if_success (with_reducible show wpAny _ _ (PySem.call (Value.type "zip") _) _ _ _)); (fail_if_success (with_reducible show wpAny _ _ (PySem.call (Value.builtin "all") _) _ _ _)); (fail_if_success (with_reducible show InvEndN _ _ _ _ _ _ _)))); first | (dsimp only; walk1) | walk1))
  (rename Fr _ _ _ _ => F)
  (rename News _ _ _ _ => N)
  refine hrp_call (by exact C.fr F) (by exact hh) (by show A.depth + 1 < recursionLimit; (first | lia | omega)) hsz ?_
  intro h2 tk2 D vs2 n2 hk hD0 hD hI2
  have F1 := led_fr F hk
  have N1 := led_add F N hk hD0 hD
  clear F N
  have hxl := hrpx_len x
  dsimp only
  (repeat' ((( (fail_if_success (with_reducible show wpAny _ _ (exec (Stmt.For _ _ _ _ _) _) _ _ _)); (fail_if_success (with_reducible show wpAny _ _ (exec (Stmt.While _ _ _ _) _) _ _ _)); (fail_if_success (with_reducible show wpAny _ _ (pyIter _) _ _ _)); (fail_if_success (with_reducible show wpAny _ _ (eval (Expr.ListComp _ _ _ _) _) _ _ _)); (fail_if_success (with_reducible show wpAny _ _ (eval (Expr.GeneratorExp _ _ _ _) _) _ _ _)); (fail_if_success (with_reducible show wpAny _ _ (exec (Stmt.Assign _ (Expr.ListComp _ _ _ _) _) _) _ _ _)); (fail_if_success (with_reducible show wpAny _ _ (PySem.call (Value.ref _) _ _) _ _ _)); (fail_if_success (with_reducible show wpAny _ _ (PySem.call (Value.builtin "list.append") _) _ _ _)); (fail_if_success (with_reducible show wpAny _ _ (PySem.call (Value.builtin "any") _) _ _ _)); (fail_if_success (with_reducible show wpAny _ _ (PySem.call (Value.type "zip") _) _ _ _)); (fail_if_success (with_reducible show wpAny _ _ (PySem.call (Value.builtin "all") _) _ _ _)); (fail_if_success (with_reducible show InvEndN _ _ _ _ _ _ _)))); first | (dsimp only; walk1) | walk1))
  (rename Fr _ _ _ _ => F)
  (rename News _ _ _ _ => N)
  (rename IntsAre _ _ => hI)
  refine polymod_call (ns := hrpx x ++ ns) (by exact C.fr F) (by exact hh) (by show A.depth + 1 < recursionLimit; (first | lia | omega)) (by exact ⟨_, (N _ (by k_mem)).1, rfl, _, rfl⟩) (by show IntsAre _ _; rw [List.map_append]; exact hI) ?_
  intro h3 tk3 t3 hk3
  have F1 := led_fr F hk3
  have N1 := led_keep N hk3
  clear F N
  dsimp only
  rw [hv]
  rcases he with rfl | rfl
  all_goals (
    (simp only [cst, if_true, if_false, Nat.reduceEqDiff])
    (repeat' ((( (fail_if_success (with_reducible show wpAny _ _ (exec (Stmt.For _ _ _ _ _) _) _ _ _)); (fail_if_success (with_reducible show wpAny _ _ (exec (Stmt.While _ _ _ _) _) _ _ _)); (fail_if_success (with_reducible show wpAny _ _ (pyIter _) _ _ _)); (fail_if_success (with_reducible show wpAny _ _ (eval (Expr.ListComp _ _ _ _) _) _ _ _)); (fail_if_success (with_reducible show wpAny _ _ (eval (Expr.GeneratorExp _ _ _ _) _) _ _ _)); (fail_if_success (with_reducible show wpAny _ _ (exec (Stmt.Assign _ (Expr.ListComp _ _ _ _) _) _) _ _ _)); (fail_if_success (with_reducible show wpAny _ _ (PySem.call (Value.ref _) _ _) _ _ _)); (fail_if_success (with_reducible show wpAny _ _ (PySem.call (Value.builtin "list.append") _) _ _ _)); (fail_if_success (with_reducible show wpAny _ _ (PySem.call (Value.builtin "any") _) _ _ _)); (fail_if_success (with_reducible show wpAny _ _ (PySem.call (Value.type "zip") _) _ _ _)); (fail_if_success (with_reducible show wpAny _ _ (PySem.call (Value.builtin "all") _) _ _ _)); (fail_if_success (with_reducible show InvEndN _ _ _ _ _ _ _)))); first | (dsimp only; walk1) | walk1))
    dsimp only
    (rename Fr _ _ _ _ => F)
    exact hret _ _ _ F.keep)
end Mine

namespace Mine
noncomputable def chr32 (d : Nat) : Nat := (Str.ofString "qpzry9x8gf2tvdw0s3jn54khce6mua7l").cps.getD d 0
noncomputable def benc (e : Nat) (x : Str) (ns : List Nat) : Str := ⟨x.cps ++ #[49] ++ ((ns ++ cks e x ns).map chr32).toArray⟩
theorem benc_call {w : World} {A : Around} {E : Value → Shared → Prop} {s : Shared} {p : Program} {loose : List Str} {mg mb : Str → Option Value} {Q : Value → Shared → Prop}
    (C : Cx w p loose mg mb s.heap) (hh : A.handled = none) (hd : A.depth + 20 < recursionLimit) {x : Str} {tk t1 : Tok} {e : Nat} {l : Addr} {vs : List Value} {ns : List Nat} (hsz : x.cps.size ≤ 100) (hl : s.heap.IsList l vs.toArray) (hi : NatsAre vs ns) (hn : ns.length ≤ 200) (hb : ∀ n ∈ ns, n < 32)
    (hret : ∀ h' tk t, Ext s.heap h' → Q (.str (benc e x ns) t) { s with heap := h', toks := tk }) :
   wpAny (model PySem.Challenge.rw_ai0020_01.row.prog w) A (call (.ref 57) [.int (e : Int) t1, .str x tk, .ref l]) Q E s := by
  refine enter (binds := [(Str.ofString "encoding", .int (e : Int) t1), (Str.ofString "hrp", .str x tk), (Str.ofString "data", .ref l)]) C (by (first | lia | omega)) rfl rfl (BindsTo.of_eq rfl) (locs rfl) ?_ rfl rfl rfl (by decide)
  intro h₁ L F N X T
  (try dsimp only)
  (repeat' ((( (fail_if_success (with_reducible show wpAny _ _ (exec (Stmt.For _ _ _ _ _) _) _ _ _)); (fail_if_success (with_reducible show wpAny _ _ (exec (Stmt.While _ _ _ _) _) _ _ _)); (fail_if_success (with_reducible show wpAny _ _ (pyIter _) _ _ _)); (fail_if_success (with_reducible show wpAny _ _ (eval (Expr.ListComp _ _ _ _) _) _ _ _)); (fail_if_success (with_reducible show wpAny _ _ (eval (Expr.GeneratorExp _ _ _ _) _) _ _ _)); (fail_if_success (with_reducible show wpAny _ _ (exec (Stmt.Assign _ (Expr.ListComp _ _ _ _) _) _) _ _ _)); (fail_if_success (with_reducible show wpAny _ _ (PySem.call (Value.ref _) _ _) _ _ _)); (fail_if_success (with_reducible show wpAny _ _ (PySem.call (Value.builtin "list.append") _) _ _ _)); (fail_if_success (with_reducible show wpAny _ _ (PySem.call (Value.builtin "any") _) _ _ _)); (fail_if_success (with_reducible show wpAny _ _ (PySem.call (Value.type "zip") _) _ _ _)); (fail_if_success (with_reducible show wpAny _ _ (PySem.call (Value.builtin "all") _) _ _ _)); (fail_if_success (with_reducible show InvEndN _ _ _ _ _ _ _)))); first | (dsimp only; walk1) | walk1))
  (rename Fr _ _ _ _ => F)
  (rename News _ _ _ _ => N)
  refine create_call (by exact C.fr F) (by exact hh) (by show A.depth + 1 + 10 < recursionLimit; (first | lia | omega)) hsz (by exact hl.at fun o e => F.keep _ o e) hi hn ?_
  intro h2 tk2 D vs2 n2 hk hD0 hD hI2
  have F1 := led_fr F hk
  have N1 := led_add F N hk hD0 hD
  clear F N
  have hcl : (cks e x ns).length = 6 := by simp [cks]
  dsimp only
  (repeat' ((( (fail_if_success (with_reducible show wpAny _ _ (exec (Stmt.For _ _ _ _ _) _) _ _ _)); (fail_if_success (with_reducible show wpAny _ _ (exec (Stmt.While _ _ _ _) _) _ _ _)); (fail_if_success (with_reducible show wpAny _ _ (pyIter _) _ _ _)); (fail_if_success (with_reducible show wpAny _ _ (eval (Expr.ListComp _ _ _ _) _) _ _ _)); (fail_if_success (with_reducible show wpAny _ _ (eval (Expr.GeneratorExp _ _ _ _) _) _ _ _)); (fail_if_success (with_reducible show wpAny _ _ (exec (Stmt.Assign _ (Expr.ListComp _ _ _ _) _) _) _ _ _)); (fail_if_success (with_reducible show wpAny _ _ (PySem.call (Value.ref _) _ _) _ _ _)); (fail_if_success (with_reducible show wpAny _ _ (PySem.call (Value.builtin "list.append") _) _ _ _)); (fail_if_success (with_reducible show wpAny _ _ (PySem.call (Value.builtin "any") _) _ _ _)); (fail_if_success (with_reducible show wpAny _ _ (PySem.call (Value.type "zip") _) _ _ _)); (fail_if_success (with_reducible show wpAny _ _ (PySem.call (Value.builtin "all") _) _ _ _)); (fail_if_success (with_reducible show InvEndN _ _ _ _ _ _ _)))); first | (dsimp only; walk1) | walk1))
  refine PyProof.Rows.add_str (fun t' tk' => ?_) (by show x.cps.size + 1 ≤ _; rw [sizeLine_eq]; (first | lia | omega))
  dsimp only
  (repeat' ((( (fail_if_success (with_reducible show wpAny _ _ (exec (Stmt.For _ _ _ _ _) _) _ _ _)); (fail_if_success (with_reducible show wpAny _ _ (exec (Stmt.While _ _ _ _) _) _ _ _)); (fail_if_success (with_reducible show wpAny _ _ (pyIter _) _ _ _)); (fail_if_success (with_reducible show wpAny _ _ (eval (Expr.ListComp _ _ _ _) _) _ _ _)); (fail_if_success (with_reducible show wpAny _ _ (eval (Expr.GeneratorExp _ _ _ _) _) _ _ _)); (fail_if_success (with_reducible show wpAny _ _ (exec (Stmt.Assign _ (Expr.ListComp _ _ _ _) _) _) _ _ _)); (fail_if_success (with_reducible show wpAny _ _ (PySem.call (Value.ref _) _ _) _ _ _)); (fail_if_success (with_reducible show wpAny _ _ (PySem.call (Value.builtin "list.append") _) _ _ _)); (fail_if_success (with_reducible show wpAny _ _ (PySem.call (Value.builtin "any") _) _ _ _)); (fail_if_success (with_reducible show wpAny _ _ (PySem.call (Value.type "zip") _) _ _ _)); (fail_if_success (with_reducible show wpAny _ _ (PySem.call (Value.builtin "all") _) _ _ _)); (fail_if_success (with_reducible show InvEndN _ _ _ _ _ _ _)))); first | (dsimp only; walk1) | walk1))
  (rename IntsAre _ _ => hI)
  have hcb : ∀ d ∈ ns ++ cks e x ns, d < 32 := by
    intro d hd; rcases List.mem_append.mp hd with h | h
    · exact hb d h
    · simp only [cks, List.mem_map] at h; obtain ⟨_, _, rfl⟩ := h; exact Nat.lt_of_le_of_lt Nat.and_le_right (by decide)
  refine ListComp_at (fun _ => true) (fun v y => ∀ a : Nat, (∃ u, v = .int (a : Int) u) → (∃ t, y = .str (one1 chr32 a) t)) (by with_unfolding_all rfl) (by decide) (by rfl) (by decide) (by rfl) ?_ (fun _ => rfl)
  (repeat' ((( (fail_if_success (with_reducible show wpAny _ _ (exec (Stmt.For _ _ _ _ _) _) _ _ _)); (fail_if_success (with_reducible show wpAny _ _ (exec (Stmt.While _ _ _ _) _) _ _ _)); (fail_if_success (with_reducible show wpAny _ _ (pyIter _) _ _ _)); (fail_if_success (with_reducible show wpAny _ _ (eval (Expr.ListComp _ _ _ _) _) _ _ _)); (fail_if_success (with_reducible show wpAny _ _ (eval (Expr.GeneratorExp _ _ _ _) _) _ _ _)); (fail_if_success (with_reducible show wpAny _ _ (exec (Stmt.Assign _ (Expr.ListComp _ _ _ _) _) _) _ _ _)); (fail_if_success (with_reducible show wpAny _ _ (PySem.call (Value.ref _) _ _) _ _ _)); (fail_if_success (with_reducible show wpAny _ _ (PySem.call (Value.builtin "list.append") _) _ _ _)); (fail_if_success (with_reducible show wpAny _ _ (PySem.call (Value.builtin "any") _) _ _ _)); (fail_if_success (with_reducible show wpAny _ _ (PySem.call (Value.type "zip") _) _ _ _)); (fail_if_success (with_reducible show wpAny _ _ (PySem.call (Value.builtin "all") _) _ _ _)); (fail_if_success (with_reducible show InvEndN _ _ _ _ _ _ _)))); first | (dsimp only; walk1) | walk1))
  (((rename Fr _ _ _ _ => uF); (have uX1 := Frag.In.keeps (by assumption) uF.keep); (have uT1 := TopRead.keeps (by assumption) uF.keep)))
  (rename Fr _ _ _ _ => F)
  (rename News _ _ _ _ => N)
  refine lc_list (α := Nat) (items := ns ++ cks e x ns) (fun a v => ∃ u, v = .int (a : Int) u) (fun a y => ∃ t, y = .str (one1 chr32 a) t) (fun a a' v h1 h2 => by obtain ⟨_, rfl⟩ := h1; obtain ⟨_, h⟩ := h2; injection h with h _; (first | lia | omega)) hh (by exact ⟨_, (N _ (by k_mem)).1, rfl, _, rfl⟩) (All2.ofNats (by show IntsAre _ _; rw [List.map_append]; exact hI)) (by rw [List.length_append, hcl, sizeLine_eq]; (first | lia | omega)) ?_ ?_
  · intro C d v s₃ m₃ E' hd hv F N hm
    obtain ⟨u, rfl⟩ := hv
    have hd32 := hcb d hd
    clear hret
    (repeat' ((( (fail_if_success (with_reducible show wpAny _ _ (exec (Stmt.For _ _ _ _ _) _) _ _ _)); (fail_if_success (with_reducible show wpAny _ _ (exec (Stmt.While _ _ _ _) _) _ _ _)); (fail_if_success (with_reducible show wpAny _ _ (pyIter _) _ _ _)); (fail_if_success (with_reducible show wpAny _ _ (eval (Expr.ListComp _ _ _ _) _) _ _ _)); (fail_if_success (with_reducible show wpAny _ _ (eval (Expr.GeneratorExp _ _ _ _) _) _ _ _)); (fail_if_success (with_reducible show wpAny _ _ (exec (Stmt.Assign _ (Expr.ListComp _ _ _ _) _) _) _ _ _)); (fail_if_success (with_reducible show wpAny _ _ (PySem.call (Value.ref _) _ _) _ _ _)); (fail_if_success (with_reducible show wpAny _ _ (PySem.call (Value.builtin "list.append") _) _ _ _)); (fail_if_success (with_reducible show wpAny _ _ (PySem.call (Value.builtin "any") _) _ _ _)); (fail_if_success (with_reducible show wpAny _ _ (PySem.call (Value.type "zip") _) _ _ _)); (fail_if_success (with_reducible show wpAny _ _ (PySem.call (Value.builtin "all") _) _ _ _)); (fail_if_success (with_reducible show InvEndN _ _ _ _ _ _ _)))); first | (dsimp only; walk1) | walk1))
    · exact congrArg (fun q => Value.str q _) (item_one (Str.ofString "qpzry9x8gf2tvdw0s3jn54khce6mua7l") d hd32)
    · exact ⟨_, _, rfl, fun _ _ e => e⟩
  · intro D' h'' tk' ys' n' hD0' hD' hA hk'
    (repeat' ((( (fail_if_success (with_reducible show wpAny _ _ (exec (Stmt.For _ _ _ _ _) _) _ _ _)); (fail_if_success (with_reducible show wpAny _ _ (exec (Stmt.While _ _ _ _) _) _ _ _)); (fail_if_success (with_reducible show wpAny _ _ (pyIter _) _ _ _)); (fail_if_success (with_reducible show wpAny _ _ (eval (Expr.ListComp _ _ _ _) _) _ _ _)); (fail_if_success (with_reducible show wpAny _ _ (eval (Expr.GeneratorExp _ _ _ _) _) _ _ _)); (fail_if_success (with_reducible show wpAny _ _ (exec (Stmt.Assign _ (Expr.ListComp _ _ _ _) _) _) _ _ _)); (fail_if_success (with_reducible show wpAny _ _ (PySem.call (Value.ref _) _ _) _ _ _)); (fail_if_success (with_reducible show wpAny _ _ (PySem.call (Value.builtin "list.append") _) _ _ _)); (fail_if_success (with_reducible show wpAny _ _ (PySem.call (Value.builtin "any") _) _ _ _)); (fail_if_success (with_reducible show wpAny _ _ (PySem.call (Value.type "zip") _) _ _ _)); (fail_if_success (with_reducible show wpAny _ _ (PySem.call (Value.builtin "all") _) _ _ _)); (fail_if_success (with_reducible show InvEndN _ _ _ _ _ _ _)))); first | (dsimp only; walk1) | walk1))
    (rename Fr _ _ _ _ => F)
    (rename News _ _ _ _ => N)
    have F1 := led_fr F hk'
    have N1 := led_add F N hk' hD0' hD'
    clear F N
    refine join_chars (f := chr32) (ns := ns ++ cks e x ns) (by exact ⟨_, hD', rfl, _, rfl⟩) (All2.strsOf hA) (by rw [List.length_append, hcl]; (first | lia | omega)) ?_
    intro t4 k4
    dsimp only
    refine PyProof.Rows.add_str (fun t' tk' => ?_) (by show (x.cps ++ #[49]).size + (((ns ++ cks e x ns).map chr32).toArray).size ≤ _; simp [sizeLine_eq, hcl]; (first | lia | omega))
    dsimp only
    (repeat' ((( (fail_if_success (with_reducible show wpAny _ _ (exec (Stmt.For _ _ _ _ _) _) _ _ _)); (fail_if_success (with_reducible show wpAny _ _ (exec (Stmt.While _ _ _ _) _) _ _ _)); (fail_if_success (with_reducible show wpAny _ _ (pyIter _) _ _ _)); (fail_if_success (with_reducible show wpAny _ _ (eval (Expr.ListComp _ _ _ _) _) _ _ _)); (fail_if_success (with_reducible show wpAny _ _ (eval (Expr.GeneratorExp _ _ _ _) _) _ _ _)); (fail_if_success (with_reducible show wpAny _ _ (exec (Stmt.Assign _ (Expr.ListComp _ _ _ _) _) _) _ _ _)); (fail_if_success (with_reducible show wpAny _ _ (PySem.call (Value.ref _) _ _) _ _ _)); (fail_if_success (with_reducible show wpAny _ _ (PySem.call (Value.builtin "list.append") _) _ _ _)); (fail_if_success (with_reducible show wpAny _ _ (PySem.call (Value.builtin "any") _) _ _ _)); (fail_if_success (with_reducible show wpAny _ _ (PySem.call (Value.type "zip") _) _ _ _)); (fail_if_success (with_reducible show wpAny _ _ (PySem.call (Value.builtin "all") _) _ _ _)); (fail_if_success (with_reducible show InvEndN _ _ _ _ _ _ _)))); first | (dsimp only; walk1) | walk1))
    exact hret _ _ _ F1.keep
end Mine

namespace Mine
noncomputable def cfind (c : Nat) : Int := Txt.find (Str.ofString "qpzry9x8gf2tvdw0s3jn54khce6mua7l") ⟨#[c]⟩
noncomputable def cin (c : Nat) : Bool := !(Builtin.Str.occurrences (Str.ofString "qpzry9x8gf2tvdw0s3jn54khce6mua7l") { cps := #[c] } 0 (Str.ofString "qpzry9x8gf2tvdw0s3jn54khce6mua7l").length 1).isEmpty
theorem cin_chr : ∀ d, d < 32 → cin (chr32 d) = true := by decide +kernel
theorem cfind_chr : ∀ d, d < 32 → cfind (chr32 d) = (d : Int) := by decide +kernel
theorem nats_take {ws : List Value} {ds : List Nat} {k : Nat} (h : IntsAre ws (List.take ((ds.map fun n : Nat => (n : Int)).length - k) (ds.map fun n : Nat => (n : Int)))) : NatsAre ws (ds.take (ds.length - k)) := by
  show IntsAre _ _
  rw [List.map_take]
  rw [List.length_map] at h
  exact h
theorem bdec_call {w : World} {A : Around} {E : Value → Shared → Prop} {s : Shared} {p : Program} {loose : List Str} {mg mb : Str → Option Value} {ps : Array Value} {Q : Value → Shared → Prop}
    (Z : Cz w p loose mg mb ps s.heap) (hb : AllBare s.gens) (hh : A.handled = none) (hd : A.depth + 20 < recursionLimit) {y : Str} {tk : Tok} 
    (hy : KXs.Still y) (hys : y.cps.size ≤ 90) {px : Nat} (hrf : Txt.rfind y (Str.ofString "1") = (px : Int)) (hp1 : 1 ≤ px) (hp7 : px + 7 ≤ y.length)
    {ds : List Nat} {x : Str} {e : Nat} (hxs : x.cps.size ≤ 100) (he : e = 1 ∨ e = 2) (hpm : pm32 (hrpx x ++ ds) = cst e) (hd32 : ∀ d ∈ ds, d < 32) (hs1 : Txt.slice y (some (Txt.rfind y (Str.ofString "1") + 1)) none = ⟨(ds.map chr32).toArray⟩) (hs2 : Txt.slice y none (some (Txt.rfind y (Str.ofString "1"))) = x)
    (hret : ∀ s' T D vs n t u more, (∀ b o, b ≠ 59 → s.heap.get? b = some o → s'.heap.get? b = some o) → s'.heap.get? 59 = some (tabO (ps ++ more)) → TriplesOk (ps ++ more).toList → AllBare s'.gens → s'.os = s.os →
      s.heap.get? T = none → s.heap.get? D = none → s'.heap.get? T = some { cls := .type "tuple", data := .seq #[.int (e : Int) t, .str x u, .ref D] } → s'.heap.get? D = some (listOf vs.toArray n) → NatsAre vs (ds.take (ds.length - 6)) → Q (.ref T) s') :
   wpAny (model PySem.Challenge.rw_ai0020_01.row.prog w) A (call (.ref 62) [.str y tk]) Q E s := by
  refine enterZ (binds := [(Str.ofString "bech", .str y tk)]) Z (by (first | lia | omega)) rfl rfl (BindsTo.of_eq rfl) (locs rfl) ?_ rfl rfl rfl (by decide)
  intro h₁ L F N X T hL
  obtain ⟨bm, ob, M⟩ := Z.M
  have Cd := Z.code
  (try dsimp only)
  (repeat' ((( (fail_if_success (with_reducible show wpAny _ _ (exec (Stmt.For _ _ _ _ _) _) _ _ _)); (fail_if_success (with_reducible show wpAny _ _ (exec (Stmt.While _ _ _ _) _) _ _ _)); (fail_if_success (with_reducible show wpAny _ _ (pyIter _) _ _ _)); (fail_if_success (with_reducible show wpAny _ _ (eval (Expr.ListComp _ _ _ _) _) _ _ _)); (fail_if_success (with_reducible show wpAny _ _ (eval (Expr.GeneratorExp _ _ _ _) _) _ _ _)); (fail_if_success (with_reducible show wpAny _ _ (exec (Stmt.Assign _ (Expr.ListComp _ _ _ _) _) _) _ _ _)); (fail_if_success (with_reducible show wpAny _ _ (PySem.call (Value.ref _) _ _) _ _ _)); (fail_if_success (with_reducible show wpAny _ _ (PySem.call (Value.builtin "list.append") _) _ _ _)); (fail_if_success (with_reducible show wpAny _ _ (PySem.call (Value.builtin "any") _) _ _ _)); (fail_if_success (with_reducible show wpAny _ _ (PySem.call (Value.type "zip") _) _ _ _)); (fail_if_success (with_reducible show wpAny _ _ (PySem.call (Value.builtin "all") _) _ _ _)); (fail_if_success (with_reducible show InvEndN _ _ _ _ _ _ _)))); first | (dsimp only; walk1) | walk1))
  (rename Fr _ _ _ _ => F)
  (rename News _ _ _ _ => N)
  refine GenExp_text (L := L) M Cd T rfl rfl hh rfl (by with_unfolding_all rfl) (by decide) (by rfl) (by rfl) rfl (by show A.depth + 1 < recursionLimit; (first | lia | omega)) ?_ (fun _ => rfl)
  (repeat' ((( (fail_if_success (with_reducible show wpAny _ _ (exec (Stmt.For _ _ _ _ _) _) _ _ _)); (fail_if_success (with_reducible show wpAny _ _ (exec (Stmt.While _ _ _ _) _) _ _ _)); (fail_if_success (with_reducible show wpAny _ _ (pyIter _) _ _ _)); (fail_if_success (with_reducible show wpAny _ _ (eval (Expr.ListComp _ _ _ _) _) _ _ _)); (fail_if_success (with_reducible show wpAny _ _ (eval (Expr.GeneratorExp _ _ _ _) _) _ _ _)); (fail_if_success (with_reducible show wpAny _ _ (exec (Stmt.Assign _ (Expr.ListComp _ _ _ _) _) _) _ _ _)); (fail_if_success (with_reducible show wpAny _ _ (PySem.call (Value.ref _) _ _) _ _ _)); (fail_if_success (with_reducible show wpAny _ _ (PySem.call (Value.builtin "list.append") _) _ _ _)); (fail_if_success (with_reducible show wpAny _ _ (PySem.call (Value.builtin "any") _) _ _ _)); (fail_if_success (with_reducible show wpAny _ _ (PySem.call (Value.type "zip") _) _ _ _)); (fail_if_success (with_reducible show wpAny _ _ (PySem.call (Value.builtin "all") _) _ _ _)); (fail_if_success (with_reducible show InvEndN _ _ _ _ _ _ _)))); first | (dsimp only; walk1) | walk1))
  refine GtAt.intro (fun c => decide (c < 33) || decide (126 < c)) F N Z.trip hb ?_ ?_
  · intro C c u s₃ m₃ A' E' code hc hA F hm
    clear hret
    (repeat' ((( (fail_if_success (with_reducible show wpAny _ _ (exec (Stmt.For _ _ _ _ _) _) _ _ _)); (fail_if_success (with_reducible show wpAny _ _ (exec (Stmt.While _ _ _ _) _) _ _ _)); (fail_if_success (with_reducible show wpAny _ _ (pyIter _) _ _ _)); (fail_if_success (with_reducible show wpAny _ _ (eval (Expr.ListComp _ _ _ _) _) _ _ _)); (fail_if_success (with_reducible show wpAny _ _ (eval (Expr.GeneratorExp _ _ _ _) _) _ _ _)); (fail_if_success (with_reducible show wpAny _ _ (exec (Stmt.Assign _ (Expr.ListComp _ _ _ _) _) _) _ _ _)); (fail_if_success (with_reducible show wpAny _ _ (PySem.call (Value.ref _) _ _) _ _ _)); (fail_if_success (with_reducible show wpAny _ _ (PySem.call (Value.builtin "list.append") _) _ _ _)); (fail_if_success (with_reducible show wpAny _ _ (PySem.call (Value.builtin "any") _) _ _ _)); (fail_if_success (with_reducible show wpAny _ _ (PySem.call (Value.type "zip") _) _ _ _)); (fail_if_success (with_reducible show wpAny _ _ (PySem.call (Value.builtin "all") _) _ _ _)); (fail_if_success (with_reducible show InvEndN _ _ _ _ _ _ _)))); first | (dsimp only; walk1) | walk1))
    all_goals first
      | exact ⟨_, _, rfl, fun _ _ e => e⟩
      | (refine congrArg Value.bool ?_
         by_cases h33 : c < 33 <;> by_cases h126 : 126 < c <;> simp [h33, h126] <;> (first | lia | omega))
  · clear F N
    intro a s₅ more GX
    (repeat' ((( (fail_if_success (with_reducible show wpAny _ _ (exec (Stmt.For _ _ _ _ _) _) _ _ _)); (fail_if_success (with_reducible show wpAny _ _ (exec (Stmt.While _ _ _ _) _) _ _ _)); (fail_if_success (with_reducible show wpAny _ _ (pyIter _) _ _ _)); (fail_if_success (with_reducible show wpAny _ _ (eval (Expr.ListComp _ _ _ _) _) _ _ _)); (fail_if_success (with_reducible show wpAny _ _ (eval (Expr.GeneratorExp _ _ _ _) _) _ _ _)); (fail_if_success (with_reducible show wpAny _ _ (exec (Stmt.Assign _ (Expr.ListComp _ _ _ _) _) _) _ _ _)); (fail_if_success (with_reducible show wpAny _ _ (PySem.call (Value.ref _) _ _) _ _ _)); (fail_if_success (with_reducible show wpAny _ _ (PySem.call (Value.builtin "list.append") _) _ _ _)); (fail_if_success (with_reducible show wpAny _ _ (PySem.call (Value.builtin "any") _) _ _ _)); (fail_if_success (with_reducible show wpAny _ _ (PySem.call (Value.type "zip") _) _ _ _)); (fail_if_success (with_reducible show wpAny _ _ (PySem.call (Value.builtin "all") _) _ _ _)); (fail_if_success (with_reducible show InvEndN _ _ _ _ _ _ _)))); first | (dsimp only; walk1) | walk1))
    have trip := GX.trip
    refine any_text GX fun s₆ F N G hos6 => ?_
    have hany : (y.cps.toList.any fun c => decide (c < 33) || decide (126 < c)) = false := by
      rw [List.any_eq_false]; intro c hc; have := hy c hc; simp; (first | lia | omega)
    have hyl : y.length ≤ 90 := hys
    have hyy : (y != y) = false := bne_self_eq_false' y
    rw [hany]
    (repeat' ((( (fail_if_success (with_reducible show wpAny _ _ (exec (Stmt.For _ _ _ _ _) _) _ _ _)); (fail_if_success (with_reducible show wpAny _ _ (exec (Stmt.While _ _ _ _) _) _ _ _)); (fail_if_success (with_reducible show wpAny _ _ (pyIter _) _ _ _)); (fail_if_success (with_reducible show wpAny _ _ (eval (Expr.ListComp _ _ _ _) _) _ _ _)); (fail_if_success (with_reducible show wpAny _ _ (eval (Expr.GeneratorExp _ _ _ _) _) _ _ _)); (fail_if_success (with_reducible show wpAny _ _ (exec (Stmt.Assign _ (Expr.ListComp _ _ _ _) _) _) _ _ _)); (fail_if_success (with_reducible show wpAny _ _ (PySem.call (Value.ref _) _ _) _ _ _)); (fail_if_success (with_reducible show wpAny _ _ (PySem.call (Value.builtin "list.append") _) _ _ _)); (fail_if_success (with_reducible show wpAny _ _ (PySem.call (Value.builtin "any") _) _ _ _)); (fail_if_success (with_reducible show wpAny _ _ (PySem.call (Value.type "zip") _) _ _ _)); (fail_if_success (with_reducible show wpAny _ _ (PySem.call (Value.builtin "all") _) _ _ _)); (fail_if_success (with_reducible show InvEndN _ _ _ _ _ _ _)))); first | (dsimp only; walk1) | walk1))
    (rename Fr _ _ _ _ => F)
    (rename News _ _ _ _ => N)
    refine GenExp_text (L := L) M Cd T rfl rfl hh rfl (by with_unfolding_all rfl) (by decide) (by rfl) (by rfl) rfl (by show A.depth + 1 < recursionLimit; (first | lia | omega)) ?_ (fun _ => rfl)
    (repeat' ((( (fail_if_success (with_reducible show wpAny _ _ (exec (Stmt.For _ _ _ _ _) _) _ _ _)); (fail_if_success (with_reducible show wpAny _ _ (exec (Stmt.While _ _ _ _) _) _ _ _)); (fail_if_success (with_reducible show wpAny _ _ (pyIter _) _ _ _)); (fail_if_success (with_reducible show wpAny _ _ (eval (Expr.ListComp _ _ _ _) _) _ _ _)); (fail_if_success (with_reducible show wpAny _ _ (eval (Expr.GeneratorExp _ _ _ _) _) _ _ _)); (fail_if_success (with_reducible show wpAny _ _ (exec (Stmt.Assign _ (Expr.ListComp _ _ _ _) _) _) _ _ _)); (fail_if_success (with_reducible show wpAny _ _ (PySem.call (Value.ref _) _ _) _ _ _)); (fail_if_success (with_reducible show wpAny _ _ (PySem.call (Value.builtin "list.append") _) _ _ _)); (fail_if_success (with_reducible show wpAny _ _ (PySem.call (Value.builtin "any") _) _ _ _)); (fail_if_success (with_reducible show wpAny _ _ (PySem.call (Value.type "zip") _) _ _ _)); (fail_if_success (with_reducible show wpAny _ _ (PySem.call (Value.builtin "all") _) _ _ _)); (fail_if_success (with_reducible show InvEndN _ _ _ _ _ _ _)))); first | (dsimp only; walk1) | walk1))
    (rename Fr _ _ _ _ => F)
    (rename News _ _ _ _ => N)
    rw [hs1]
    refine GtAt.intro cin F N trip G ?_ ?_
    · intro C c u s₃ m₃ A' E' code hc hA F hm
      clear hret
      (repeat' ((( (fail_if_success (with_reducible show wpAny _ _ (exec (Stmt.For _ _ _ _ _) _) _ _ _)); (fail_if_success (with_reducible show wpAny _ _ (exec (Stmt.While _ _ _ _) _) _ _ _)); (fail_if_success (with_reducible show wpAny _ _ (pyIter _) _ _ _)); (fail_if_success (with_reducible show wpAny _ _ (eval (Expr.ListComp _ _ _ _) _) _ _ _)); (fail_if_success (with_reducible show wpAny _ _ (eval (Expr.GeneratorExp _ _ _ _) _) _ _ _)); (fail_if_success (with_reducible show wpAny _ _ (exec (Stmt.Assign _ (Expr.ListComp _ _ _ _) _) _) _ _ _)); (fail_if_success (with_reducible show wpAny _ _ (PySem.call (Value.ref _) _ _) _ _ _)); (fail_if_success (with_reducible show wpAny _ _ (PySem.call (Value.builtin "list.append") _) _ _ _)); (fail_if_success (with_reducible show wpAny _ _ (PySem.call (Value.builtin "any") _) _ _ _)); (fail_if_success (with_reducible show wpAny _ _ (PySem.call (Value.type "zip") _) _ _ _)); (fail_if_success (with_reducible show wpAny _ _ (PySem.call (Value.builtin "all") _) _ _ _)); (fail_if_success (with_reducible show InvEndN _ _ _ _ _ _ _)))); first | (dsimp only; walk1) | walk1))
      exact ⟨_, _, rfl, fun _ _ e => e⟩
    · clear F N
      intro a s₇ more2 GX
      (repeat' ((( (fail_if_success (with_reducible show wpAny _ _ (exec (Stmt.For _ _ _ _ _) _) _ _ _)); (fail_if_success (with_reducible show wpAny _ _ (exec (Stmt.While _ _ _ _) _) _ _ _)); (fail_if_success (with_reducible show wpAny _ _ (pyIter _) _ _ _)); (fail_if_success (with_reducible show wpAny _ _ (eval (Expr.ListComp _ _ _ _) _) _ _ _)); (fail_if_success (with_reducible show wpAny _ _ (eval (Expr.GeneratorExp _ _ _ _) _) _ _ _)); (fail_if_success (with_reducible show wpAny _ _ (exec (Stmt.Assign _ (Expr.ListComp _ _ _ _) _) _) _ _ _)); (fail_if_success (with_reducible show wpAny _ _ (PySem.call (Value.ref _) _ _) _ _ _)); (fail_if_success (with_reducible show wpAny _ _ (PySem.call (Value.builtin "list.append") _) _ _ _)); (fail_if_success (with_reducible show wpAny _ _ (PySem.call (Value.builtin "any") _) _ _ _)); (fail_if_success (with_reducible show wpAny _ _ (PySem.call (Value.type "zip") _) _ _ _)); (fail_if_success (with_reducible show wpAny _ _ (PySem.call (Value.builtin "all") _) _ _ _)); (fail_if_success (with_reducible show InvEndN _ _ _ _ _ _ _)))); first | (dsimp only; walk1) | walk1))
      have trip := GX.trip
      refine all_text GX fun s₈ F N G hos => ?_
      have hall : ((ds.map chr32).all cin) = true := by
        rw [List.all_eq_true]; intro c hc
        obtain ⟨d, hd, rfl⟩ := List.mem_map.mp hc
        exact cin_chr d (hd32 d hd)
      have hall' : ((⟨(ds.map chr32).toArray⟩ : Str).cps.toList.all cin) = true := by simpa using hall
      rw [hall']
      have hdl : ds.length ≤ 90 := by
        have h1 : (Txt.slice y (some (Txt.rfind y (Str.ofString "1") + 1)) none).length ≤ y.length := by assumption
        rw [hs1] at h1
        have h2 : (⟨(ds.map chr32).toArray⟩ : Str).length = ds.length := by show ((ds.map chr32).toArray).size = _; simp
        (first | lia | omega)
      (repeat' ((( (fail_if_success (with_reducible show wpAny _ _ (exec (Stmt.For _ _ _ _ _) _) _ _ _)); (fail_if_success (with_reducible show wpAny _ _ (exec (Stmt.While _ _ _ _) _) _ _ _)); (fail_if_success (with_reducible show wpAny _ _ (pyIter _) _ _ _)); (fail_if_success (with_reducible show wpAny _ _ (eval (Expr.ListComp _ _ _ _) _) _ _ _)); (fail_if_success (with_reducible show wpAny _ _ (eval (Expr.GeneratorExp _ _ _ _) _) _ _ _)); (fail_if_success (with_reducible show wpAny _ _ (exec (Stmt.Assign _ (Expr.ListComp _ _ _ _) _) _) _ _ _)); (fail_if_success (with_reducible show wpAny _ _ (PySem.call (Value.ref _) _ _) _ _ _)); (fail_if_success (with_reducible show wpAny _ _ (PySem.call (Value.builtin "list.append") _) _ _ _)); (fail_if_success (with_reducible show wpAny _ _ (PySem.call (Value.builtin "any") _) _ _ _)); (fail_if_success (with_reducible show wpAny _ _ (PySem.call (Value.type "zip") _) _ _ _)); (fail_if_success (with_reducible show wpAny _ _ (PySem.call (Value.builtin "all") _) _ _ _)); (fail_if_success (with_reducible show InvEndN _ _ _ _ _ _ _)))); first | (dsimp only; walk1) | walk1))
      refine Assign_at (fun _ => true) (FS (fun k y => ∃ t, y = .int (cfind k) t)) (by with_unfolding_all rfl) (by with_unfolding_all rfl) (by decide) (by rfl) (by decide) (by rfl) (by rfl) (by rfl) ?_ (fun _ => rfl)
      (repeat' ((( (fail_if_success (with_reducible show wpAny _ _ (exec (Stmt.For _ _ _ _ _) _) _ _ _)); (fail_if_success (with_reducible show wpAny _ _ (exec (Stmt.While _ _ _ _) _) _ _ _)); (fail_if_success (with_reducible show wpAny _ _ (pyIter _) _ _ _)); (fail_if_success (with_reducible show wpAny _ _ (eval (Expr.ListComp _ _ _ _) _) _ _ _)); (fail_if_success (with_reducible show wpAny _ _ (eval (Expr.GeneratorExp _ _ _ _) _) _ _ _)); (fail_if_success (with_reducible show wpAny _ _ (exec (Stmt.Assign _ (Expr.ListComp _ _ _ _) _) _) _ _ _)); (fail_if_success (with_reducible show wpAny _ _ (PySem.call (Value.ref _) _ _) _ _ _)); (fail_if_success (with_reducible show wpAny _ _ (PySem.call (Value.builtin "list.append") _) _ _ _)); (fail_if_success (with_reducible show wpAny _ _ (PySem.call (Value.builtin "any") _) _ _ _)); (fail_if_success (with_reducible show wpAny _ _ (PySem.call (Value.type "zip") _) _ _ _)); (fail_if_success (with_reducible show wpAny _ _ (PySem.call (Value.builtin "all") _) _ _ _)); (fail_if_success (with_reducible show InvEndN _ _ _ _ _ _ _)))); first | (dsimp only; walk1) | walk1))
      (((rename Fr _ _ _ _ => uF); (have uX1 := Frag.In.keeps (by assumption) uF.keep); (have uT1 := TopRead.keeps (by assumption) uF.keep)))
      (rename Fr _ _ _ _ => F)
      (rename News _ _ _ _ => N)
      rw [hs1]
      simp only [hs2] at F
      refine pi_str (fun k y => ∃ t, y = .int (cfind k) t) hh (by show ((ds.map chr32).toArray).size ≤ _; rw [sizeLine_eq]; simp; (first | lia | omega)) ?_ (fun it o X => core_ac F N X ?_)
      · intro C k u s₃ m₃ E' hk F N hm
        clear hret
        (repeat' ((( (fail_if_success (with_reducible show wpAny _ _ (exec (Stmt.For _ _ _ _ _) _) _ _ _)); (fail_if_success (with_reducible show wpAny _ _ (exec (Stmt.While _ _ _ _) _) _ _ _)); (fail_if_success (with_reducible show wpAny _ _ (pyIter _) _ _ _)); (fail_if_success (with_reducible show wpAny _ _ (eval (Expr.ListComp _ _ _ _) _) _ _ _)); (fail_if_success (with_reducible show wpAny _ _ (eval (Expr.GeneratorExp _ _ _ _) _) _ _ _)); (fail_if_success (with_reducible show wpAny _ _ (exec (Stmt.Assign _ (Expr.ListComp _ _ _ _) _) _) _ _ _)); (fail_if_success (with_reducible show wpAny _ _ (PySem.call (Value.ref _) _ _) _ _ _)); (fail_if_success (with_reducible show wpAny _ _ (PySem.call (Value.builtin "list.append") _) _ _ _)); (fail_if_success (with_reducible show wpAny _ _ (PySem.call (Value.builtin "any") _) _ _ _)); (fail_if_success (with_reducible show wpAny _ _ (PySem.call (Value.type "zip") _) _ _ _)); (fail_if_success (with_reducible show wpAny _ _ (PySem.call (Value.builtin "all") _) _ _ _)); (fail_if_success (with_reducible show InvEndN _ _ _ _ _ _ _)))); first | (dsimp only; walk1) | walk1))
        exact ⟨_, _, rfl, fun _ _ e => e⟩
      · clear F N
        intro D' h'' tk' ys' n' hD0' hA F N hk'
        have hI : NatsAre ys' ds := by
          refine All2.nats ?_
          have h3 : (⟨(ds.map chr32).toArray⟩ : Str).cps.toList = ds.map chr32 := by simp
          rw [h3] at hA
          exact all2_unmap hA fun d hd v hv => by rw [cfind_chr d (hd32 d hd)] at hv; exact hv
        clear hA
        (repeat' ((( (fail_if_success (with_reducible show wpAny _ _ (exec (Stmt.For _ _ _ _ _) _) _ _ _)); (fail_if_success (with_reducible show wpAny _ _ (exec (Stmt.While _ _ _ _) _) _ _ _)); (fail_if_success (with_reducible show wpAny _ _ (pyIter _) _ _ _)); (fail_if_success (with_reducible show wpAny _ _ (eval (Expr.ListComp _ _ _ _) _) _ _ _)); (fail_if_success (with_reducible show wpAny _ _ (eval (Expr.GeneratorExp _ _ _ _) _) _ _ _)); (fail_if_success (with_reducible show wpAny _ _ (exec (Stmt.Assign _ (Expr.ListComp _ _ _ _) _) _) _ _ _)); (fail_if_success (with_reducible show wpAny _ _ (PySem.call (Value.ref _) _ _) _ _ _)); (fail_if_success (with_reducible show wpAny _ _ (PySem.call (Value.builtin "list.append") _) _ _ _)); (fail_if_success (with_reducible show wpAny _ _ (PySem.call (Value.builtin "any") _) _ _ _)); (fail_if_success (with_reducible show wpAny _ _ (PySem.call (Value.type "zip") _) _ _ _)); (fail_if_success (with_reducible show wpAny _ _ (PySem.call (Value.builtin "all") _) _ _ _)); (fail_if_success (with_reducible show InvEndN _ _ _ _ _ _ _)))); first | (dsimp only; walk1) | walk1))
        (rename Fr _ _ _ _ => F)
        (rename News _ _ _ _ => N)
        refine verify_call (e := e) (by exact (Z.C.keeps F.keep)) (by exact hh) (by show A.depth + 1 + 10 < recursionLimit; (first | lia | omega)) hxs (by exact ⟨_, (N _ (by k_mem)).1, rfl, _, rfl⟩) hI (by (first | lia | omega)) he hpm ?_
        intro h3 tk3 t3 hk3
        have F1 := led_fr F hk3
        have N1 := led_keep N hk3
        clear F N
        dsimp only
        (repeat' ((( (fail_if_success (with_reducible show wpAny _ _ (exec (Stmt.For _ _ _ _ _) _) _ _ _)); (fail_if_success (with_reducible show wpAny _ _ (exec (Stmt.While _ _ _ _) _) _ _ _)); (fail_if_success (with_reducible show wpAny _ _ (pyIter _) _ _ _)); (fail_if_success (with_reducible show wpAny _ _ (eval (Expr.ListComp _ _ _ _) _) _ _ _)); (fail_if_success (with_reducible show wpAny _ _ (eval (Expr.GeneratorExp _ _ _ _) _) _ _ _)); (fail_if_success (with_reducible show wpAny _ _ (exec (Stmt.Assign _ (Expr.ListComp _ _ _ _) _) _) _ _ _)); (fail_if_success (with_reducible show wpAny _ _ (PySem.call (Value.ref _) _ _) _ _ _)); (fail_if_success (with_reducible show wpAny _ _ (PySem.call (Value.builtin "list.append") _) _ _ _)); (fail_if_success (with_reducible show wpAny _ _ (PySem.call (Value.builtin "any") _) _ _ _)); (fail_if_success (with_reducible show wpAny _ _ (PySem.call (Value.type "zip") _) _ _ _)); (fail_if_success (with_reducible show wpAny _ _ (PySem.call (Value.builtin "all") _) _ _ _)); (fail_if_success (with_reducible show InvEndN _ _ _ _ _ _ _)))); first | (dsimp only; walk1) | walk1))
        (rename Fr _ _ _ _ => F)
        (rename News _ _ _ _ => N)
        (rename IntsAre _ (List.take _ _) => hI2)
        have hI3 := nats_take hI2
        have n1 := N _ (.head _)
        have n2 := N _ (.tail _ (.head _))
        have n3 := N _ (.tail _ (.tail _ (.tail _ (.head _))))
        refine hret _ _ _ _ _ _ _ (more ++ more2) (fun b o hb e => F.keep b o (hid_get e hb)) (by rw [← Array.append_assoc]; exact n3.1) (by rw [← Array.append_assoc]; exact trip) (by exact G) (by exact hos.trans hos6) (hid_none n1.2.2 n1.1 n3.1 (fun e => by cases e)) (hid_none n2.2.2 n2.1 n3.1 (fun e => by cases e)) n1.1 n2.1 hI3
end Mine

namespace Mine
local macro_rules | `(tactic| walk_at "ite") => `(tactic| (k_openite; first | (with_reducible refine ieq_t (by omega) ?_) | (with_reducible refine ieq_f (by omega) ?_) | (with_reducible refine ine_t (by omega) ?_) | (with_reducible refine ine_f (by omega) ?_)))
theorem decode_call {w : World} {A : Around} {E : Value → Shared → Prop} {s : Shared} {p : Program} {loose : List Str} {mg mb : Str → Option Value} {ps : Array Value} {Q : Value → Shared → Prop}
    (Z : Cz w p loose mg mb ps s.heap) (hb : AllBare s.gens) (hh : A.handled = none) (hd : A.depth + 30 < recursionLimit) {y : Str} {tk tk2 : Tok} 
    (hy : KXs.Still y) (hys : y.cps.size ≤ 90) {px : Nat} (hrf : Txt.rfind y (Str.ofString "1") = (px : Int)) (hp1 : 1 ≤ px) (hp7 : px + 7 ≤ y.length)
    {ds : List Nat} {x : Str} {e : Nat} (hxs : x.cps.size ≤ 100) (he : e = 1 ∨ e = 2) (hpm : pm32 (hrpx x ++ ds) = cst e) (hd32 : ∀ d ∈ ds, d < 32) (hs1 : Txt.slice y (some (Txt.rfind y (Str.ofString "1") + 1)) none = ⟨(ds.map chr32).toArray⟩) (hs2 : Txt.slice y none (some (Txt.rfind y (Str.ofString "1"))) = x)
    {ver : Nat} {wp : List Nat} (hds : ds.take (ds.length - 6) = ver :: to5 wp) (hv16 : ver ≤ 16) (hw2 : 2 ≤ wp.length) (hw40 : wp.length ≤ 40) (hv0 : ver = 0 → wp.length = 20 ∨ wp.length = 32) (hev : ver = 0 ↔ e = 1)
    (hret : ∀ s' T D t more, (∀ b o, b ≠ 59 → s.heap.get? b = some o → s'.heap.get? b = some o) → s'.heap.get? 59 = some (tabO (ps ++ more)) → TriplesOk (ps ++ more).toList → AllBare s'.gens → s'.os = s.os →
      s.heap.get? T = none → s'.heap.get? T = some { cls := .type "tuple", data := .seq #[.int (ver : Int) t, .ref D] } → s.heap.get? D = none → (∃ vs n, s'.heap.get? D = some (listOf vs n)) → Q (.ref T) s') :
   wpAny (model PySem.Challenge.rw_ai0020_01.row.prog w) A (call (.ref 77) [.str x tk, .str y tk2]) Q E s := by
  refine enterZ (binds := [(Str.ofString "hrp", .str x tk), (Str.ofString "addr", .str y tk2)]) Z (by (first | lia | omega)) rfl rfl (BindsTo.of_eq rfl) (locs rfl) ?_ rfl rfl rfl (by decide)
  intro h₁ L F N X T hL
  (try dsimp only)
  (repeat' ((( (fail_if_success (with_reducible show wpAny _ _ (exec (Stmt.For _ _ _ _ _) _) _ _ _)); (fail_if_success (with_reducible show wpAny _ _ (exec (Stmt.While _ _ _ _) _) _ _ _)); (fail_if_success (with_reducible show wpAny _ _ (pyIter _) _ _ _)); (fail_if_success (with_reducible show wpAny _ _ (eval (Expr.ListComp _ _ _ _) _) _ _ _)); (fail_if_success (with_reducible show wpAny _ _ (eval (Expr.GeneratorExp _ _ _ _) _) _ _ _)); (fail_if_success (with_reducible show wpAny _ _ (exec (Stmt.Assign _ (Expr.ListComp _ _ _ _) _) _) _ _ _)); (fail_if_success (with_reducible show wpAny _ _ (PySem.call (Value.ref _) _ _) _ _ _)); (fail_if_success (with_reducible show wpAny _ _ (PySem.call (Value.builtin "list.append") _) _ _ _)); (fail_if_success (with_reducible show wpAny _ _ (PySem.call (Value.builtin "any") _) _ _ _)); (fail_if_success (with_reducible show wpAny _ _ (PySem.call (Value.type "zip") _) _ _ _)); (fail_if_success (with_reducible show wpAny _ _ (PySem.call (Value.builtin "all") _) _ _ _)); (fail_if_success (with_reducible show InvEndN _ _ _ _ _ _ _)))); first | (dsimp only; walk1) | walk1))
  (rename Fr _ _ _ _ => F)
  (rename News _ _ _ _ => N)
  refine bdec_call (by exact Z.at F N (.head _) Z.trip) (by exact hb) (by exact hh) (by show A.depth + 1 + 20 < recursionLimit; (first | lia | omega)) hy hys hrf hp1 hp7 hxs he hpm hd32 hs1 hs2 ?_
  intro s2 T2 D vs n t u more k2 tab2 trip2 G2 os2 hT0 hD0 hT hDl hI
  rw [hds] at hI
  have g59 := (N _ (.head _)).2.2
  have F1 := led_frZ F g59 hL k2
  have N1 := led_newsZ N (List.forall_mem_nil _) k2 tab2
  have N2 := led_new F hT0 hT (led_new F hD0 hDl N1)
  clear N1 F N
  have hxx : (x != x) = false := bne_self_eq_false' x
  have h5l := to5_len wp
  (repeat' ((( (fail_if_success (with_reducible show wpAny _ _ (exec (Stmt.For _ _ _ _ _) _) _ _ _)); (fail_if_success (with_reducible show wpAny _ _ (exec (Stmt.While _ _ _ _) _) _ _ _)); (fail_if_success (with_reducible show wpAny _ _ (pyIter _) _ _ _)); (fail_if_success (with_reducible show wpAny _ _ (eval (Expr.ListComp _ _ _ _) _) _ _ _)); (fail_if_success (with_reducible show wpAny _ _ (eval (Expr.GeneratorExp _ _ _ _) _) _ _ _)); (fail_if_success (with_reducible show wpAny _ _ (exec (Stmt.Assign _ (Expr.ListComp _ _ _ _) _) _) _ _ _)); (fail_if_success (with_reducible show wpAny _ _ (PySem.call (Value.ref _) _ _) _ _ _)); (fail_if_success (with_reducible show wpAny _ _ (PySem.call (Value.builtin "list.append") _) _ _ _)); (fail_if_success (with_reducible show wpAny _ _ (PySem.call (Value.builtin "any") _) _ _ _)); (fail_if_success (with_reducible show wpAny _ _ (PySem.call (Value.type "zip") _) _ _ _)); (fail_if_success (with_reducible show wpAny _ _ (PySem.call (Value.builtin "all") _) _ _ _)); (fail_if_success (with_reducible show InvEndN _ _ _ _ _ _ _)))); first | (dsimp only; walk1) | walk1))
  (rename Fr _ _ _ _ => F)
  (rename News _ _ _ _ => N)
  (rename IntsAre _ (List.drop _ _) => hI2)
  have hbk := back wp
  dsimp only at hbk
  refine cb5_call (ns := to5 wp) (by exact Z.C.keeps F.keep) (by exact hh) (by show A.depth + 1 < recursionLimit; (first | lia | omega)) (by exact ⟨_, (N _ (by k_mem)).1, rfl, _, rfl⟩) (by exact hI2) (by (first | lia | omega)) (to5_lt wp) hbk.1 hbk.2.1 ?_
  intro h3 tk3 D3 vs3 n3' hk3 hD30 hD3 hI3
  have F1 := led_fr F hk3
  have N1 := led_add F N hk3 hD30 hD3
  clear F N
  have hl3 := hI3.length
  rw [List.length_map, hbk.2.2] at hl3
  have hg0 : (List.map (fun n : Nat => (n : Int)) (ver :: to5 wp)).getD (Int.toNat 0) 0 = (ver : Int) := rfl
  have hgl : (List.map (fun n : Nat => (n : Int)) (cbrun 5 8 (to5 wp)).2.2).length = wp.length := by rw [List.length_map]; exact hbk.2.2
  have hall : (ver = 0 ∧ e = 1 ∧ (wp.length = 20 ∨ wp.length = 32)) ∨ (ver ≠ 0 ∧ e = 2) := by (first | lia | omega)
  dsimp only
  (repeat' ((( (fail_if_success (with_reducible show wpAny _ _ (exec (Stmt.For _ _ _ _ _) _) _ _ _)); (fail_if_success (with_reducible show wpAny _ _ (exec (Stmt.While _ _ _ _) _) _ _ _)); (fail_if_success (with_reducible show wpAny _ _ (pyIter _) _ _ _)); (fail_if_success (with_reducible show wpAny _ _ (eval (Expr.ListComp _ _ _ _) _) _ _ _)); (fail_if_success (with_reducible show wpAny _ _ (eval (Expr.GeneratorExp _ _ _ _) _) _ _ _)); (fail_if_success (with_reducible show wpAny _ _ (exec (Stmt.Assign _ (Expr.ListComp _ _ _ _) _) _) _ _ _)); (fail_if_success (with_reducible show wpAny _ _ (PySem.call (Value.ref _) _ _) _ _ _)); (fail_if_success (with_reducible show wpAny _ _ (PySem.call (Value.builtin "list.append") _) _ _ _)); (fail_if_success (with_reducible show wpAny _ _ (PySem.call (Value.builtin "any") _) _ _ _)); (fail_if_success (with_reducible show wpAny _ _ (PySem.call (Value.type "zip") _) _ _ _)); (fail_if_success (with_reducible show wpAny _ _ (PySem.call (Value.builtin "all") _) _ _ _)); (fail_if_success (with_reducible show InvEndN _ _ _ _ _ _ _)))); first | (dsimp only; walk1) | walk1))
  all_goals (
    (rename Fr _ _ _ _ => F)
    (rename News _ _ _ _ => N)
    (have n1 := N _ (.head _))
    (have n3 := N (59, tabO (ps ++ more)) (by k_mem))
    (have n2 := N (D3, listOf vs3.toArray n3') (by k_mem))
    (refine hret _ _ _ _ more (fun b o hb e => F.keep b o (hid_get e hb)) n3.1 trip2 (by exact G2) (by exact os2) (hid_none n1.2.2 n1.1 n3.1 (fun e => by cases e)) n1.1 (hid_none n2.2.2 n2.1 n3.1 (fun e => by cases e)) ⟨_, _, n2.1⟩))
end Mine

namespace Mine
noncomputable abbrev btxt (x : Str) (cs : List Nat) : Str := ⟨x.cps ++ #[49] ++ cs.toArray⟩
theorem btxt_size (x : Str) (cs : List Nat) : (btxt x cs).cps.size = x.cps.size + 1 + cs.length := by simp; (first | lia | omega)
theorem ext_one (a : Array Nat) (k : Nat) (hk : k < a.size) : a.extract k (k + 1) = #[a[k]] := by
  apply Array.ext
  · simp; (first | lia | omega)
  · intro i h1 h2
    simp at h2
    subst h2
    simp
theorem btxt_rfind (x : Str) (cs : List Nat) (h : ∀ c ∈ cs, c ≠ 49) : Txt.rfind (btxt x cs) (Str.ofString "1") = (x.cps.size : Int) := by
  have hat : ∀ k, StrLaws.At (btxt x cs) (Str.ofString "1") (btxt x cs).length k ↔ k + 1 ≤ (btxt x cs).cps.size ∧ (btxt x cs).cps[k]? = some 49 := by
    intro k
    show (k + 1 ≤ (btxt x cs).cps.size ∧ Builtin.Str.subAt _ _ k = true) ↔ _
    refine and_congr_right fun hk => ?_
    show ((btxt x cs).cps.extract k (k + 1) == #[49]) = true ↔ _
    have e := ext_one (btxt x cs).cps k (by (first | lia | omega))
    rw [e, Array.getElem?_eq_getElem (by (first | lia | omega) : k < (btxt x cs).cps.size)]
    generalize (btxt x cs).cps[k]'(by (first | lia | omega)) = z
    simp
  have hx : (btxt x cs).cps[x.cps.size]? = some 49 := by simp [btxt]
  have hgt : ∀ k, x.cps.size < k → ¬ (btxt x cs).cps[k]? = some 49 := by
    intro k hk e
    have : (btxt x cs).cps[k]? = cs[k - x.cps.size - 1]? := by
      show (x.cps ++ #[49] ++ cs.toArray)[k]? = _
      rw [Array.getElem?_append_right (by simp; (first | lia | omega))]
      simp
      congr 1
    rw [this] at e
    exact h 49 (List.mem_of_getElem? e) rfl
  rcases rfind_whole (btxt x cs) (Str.ofString "1") with ⟨_, hn⟩ | ⟨i, he, hi, hn⟩
  · exact absurd ((hat x.cps.size).mpr ⟨by rw [btxt_size]; (first | lia | omega), hx⟩) (hn _)
  · have h1 := (hat i).mp hi
    have h2 : ¬ x.cps.size < i := fun q => hgt i q h1.2
    have h3 : ¬ i < x.cps.size := fun q => hn _ q ((hat x.cps.size).mpr ⟨by rw [btxt_size]; (first | lia | omega), hx⟩)
    rw [he]
    (first | lia | omega)
theorem btxt_to (x : Str) (cs : List Nat) : Txt.slice (btxt x cs) none (some (x.cps.size : Int)) = x := by
  have h := eq_of_beq (slice_closes_toL (x := btxt x cs) (j := (x.cps.size : Int)) (by (first | lia | omega)) (by show ((x.cps.size : Nat) : Int) ≤ ((btxt x cs).cps.size : Nat); rw [btxt_size]; (first | lia | omega)))
  rw [h]
  obtain ⟨a⟩ := x
  congr 1
  simp [btxt]
theorem btxt_from (x : Str) (cs : List Nat) : Txt.slice (btxt x cs) (some ((x.cps.size : Int) + 1)) none = ⟨cs.toArray⟩ := by
  have hl : ((btxt x cs).length : Int) = x.cps.size + 1 + cs.length := by show (((btxt x cs).cps.size : Nat) : Int) = _; rw [btxt_size]; (first | lia | omega)
  have h := eq_of_beq (slice_closes_fromL (x := btxt x cs) (i := (x.cps.size : Int) + 1) (b := (btxt x cs).length) (by (first | lia | omega)) (by rw [hl]; (first | lia | omega)) rfl)
  rw [h]
  congr 1
  have e1 : ((x.cps.size : Int) + 1).toNat = x.cps.size + 1 := by (first | lia | omega)
  have e2 : (((btxt x cs).length : Int) - ((x.cps.size : Int) + 1)).toNat = cs.length := by (first | lia | omega)
  rw [e1, e2]
  have e3 : (btxt x cs).cps.toList = (x.cps.toList ++ [49]) ++ cs := by simp [btxt]
  rw [e3, List.drop_left' (by simp)]
  simp
theorem btxt_still {x : Str} {cs : List Nat} (hx : KXs.Still x) (h : ∀ c ∈ cs, 33 ≤ c ∧ c < 127 ∧ (c < 65 ∨ 90 < c)) : KXs.Still (btxt x cs) := by
  intro c hc
  have : c ∈ x.cps.toList ∨ c = 49 ∨ c ∈ cs := by simpa [btxt, or_assoc] using hc
  rcases this with h1 | rfl | h1
  · exact hx c h1
  · decide
  · exact h c h1
end Mine

namespace Mine
theorem bit_xor (a b : Nat) (h : a < 2) : a ^^^ (2 * b) = a + 2 * b := by
  have h1 := nat_xor_add a (2 * b)
  have h2 : a &&& (2 * b) = 0 := by
    have : a = 0 ∨ a = 1 := by (first | lia | omega)
    rcases this with rfl | rfl
    · simp
    · rw [Nat.and_comm, Nat.and_one_is_mod]; (first | lia | omega)
  (first | lia | omega)
theorem lin_sh (k : Nat) : ∀ c n, lin ((List.range k).map fun i => 2 ^ (c + i)) n = (n % 2 ^ k) <<< c := by
  induction k with
  | zero => intro c n; simp [lin, Nat.mod_one]
  | succ k ih =>
    intro c n
    have e : ((List.range k).map Nat.succ).map (fun i => 2 ^ (c + i)) = (List.range k).map fun i => 2 ^ (c + 1 + i) := by
      rw [List.map_map]; refine List.map_congr_left fun i _ => ?_
      show 2 ^ (c + (i + 1)) = _; congr 1; (first | lia | omega)
    rw [List.range_succ_eq_map, List.map_cons, e, lin, ih]
    have e2 : n % 2 ^ (k + 1) = n % 2 + 2 * (n / 2 % 2 ^ k) := by rw [Nat.pow_succ, Nat.mul_comm, Nat.mod_mul]
    rw [e2, ← bit_xor _ _ (Nat.mod_lt _ (by decide)), Nat.shiftLeft_xor_distrib]
    congr 1
    · rw [Nat.add_zero, Nat.shiftLeft_eq]
theorem sel_mul (m k g : Nat) : (if m >>> k &&& 1 = 1 then g else 0) = m / 2 ^ k % 2 * g := by
  rw [Nat.shiftRight_eq_div_pow, Nat.and_one_is_mod]
  have : m / 2 ^ k % 2 = 0 ∨ m / 2 ^ k % 2 = 1 := by (first | lia | omega)
  rcases this with h | h <;> simp [h]
theorem gsel_lin (g0 g1 g2 g3 g4 m : Nat) : gsel [g0, g1, g2, g3, g4] m 5 = lin [g0, g1, g2, g3, g4] m := by
  simp only [gsel, lin, sel_mul, List.getD_cons_zero, List.getD_cons_succ]
  simp only [Nat.pow_zero, Nat.div_one, Nat.zero_xor, Nat.xor_zero, Nat.div_div_eq_div_mul, Nat.xor_assoc]
theorem step_lin (K g0 g1 g2 g3 g4 c v : Nat) : (((c &&& (2 ^ K - 1)) <<< 5) ^^^ v) ^^^ gsel [g0, g1, g2, g3, g4] (c >>> K) 5 = lin ((List.range K).map (fun i => 2 ^ (5 + i)) ++ [g0, g1, g2, g3, g4]) c ^^^ v := by
  rw [gsel_lin, lin_append, lin_sh, Nat.and_two_pow_sub_one_eq_mod, Nat.shiftRight_eq_div_pow]
  simp only [List.length_map, List.length_range]
  rw [Nat.xor_assoc, Nat.xor_comm v, ← Nat.xor_assoc]
theorem Tc_bc : Bc.Tc = (List.range 25).map (fun i => 2 ^ (5 + i)) ++ Bc.gen := by decide
theorem Tc_dc : Dc.Tc = (List.range 35).map (fun i => 2 ^ (5 + i)) ++ Dc.gen := by decide
theorem st32_lin (c v : Nat) : st32 c v = lin Bc.Tc c ^^^ v := by
  rw [Tc_bc]
  exact step_lin 25 996825010 642813549 513874426 1027748829 705979059 c v
/-- the state after a word -/
noncomputable abbrev run (T : Nat → Nat) (c : Nat) (l : List Nat) : Nat := l.foldl (fun s e => T s ^^^ e) c
theorem pm32_run (l : List Nat) : pm32 l = run (lin Bc.Tc) 1 l := by
  unfold pm32 run
  congr 1
  funext c v
  exact st32_lin c v
theorem run_xor {T : Nat → Nat} (hT : ∀ a b, T (a ^^^ b) = T a ^^^ T b) : ∀ (l k : List Nat) (a b : Nat), l.length = k.length → run T (a ^^^ b) (List.zipWith (· ^^^ ·) l k) = run T a l ^^^ run T b k := by
  intro l
  induction l with
  | nil => intro k a b h; cases k with
    | nil => rfl
    | cons _ _ => cases h
  | cons x l ih => intro k a b h; cases k with
    | nil => cases h
    | cons y k =>
      show run T (T (a ^^^ b) ^^^ (x ^^^ y)) (List.zipWith _ l k) = run T (T a ^^^ x) l ^^^ run T (T b ^^^ y) k
      rw [← ih k _ _ (by simpa using h), hT]
      congr 1
      rw [Nat.xor_assoc, Nat.xor_assoc, ← Nat.xor_assoc (T b), ← Nat.xor_assoc x, Nat.xor_comm (T b) x]
theorem run_zero {T : Nat → Nat} (h0 : T 0 = 0) (n : Nat) (l : List Nat) (hl : l = List.replicate n 0) : run T 0 l = 0 := by
  subst hl
  induction n with
  | zero => rfl
  | succ n ih => show run T (T 0 ^^^ 0) _ = 0; rw [h0]; exact ih
theorem run_append (T : Nat → Nat) (c : Nat) (l k : List Nat) : run T c (l ++ k) = run T (run T c l) k := List.foldl_append
theorem run_lt {T : Nat → Nat} {m : Nat} (hT : ∀ v, T v < 2 ^ m) : ∀ (l : List Nat) (c : Nat), c < 2 ^ m → (∀ e ∈ l, e < 2 ^ m) → run T c l < 2 ^ m := by
  intro l
  induction l with
  | nil => intro c h _; exact h
  | cons x l ih => intro c h hl; exact ih _ (xlt (hT c) (hl x (.head _))) fun e he => hl e (.tail _ he)
/-- a state that is small is shifted -/
theorem lin_small (K : Nat) (gens : List Nat) (v : Nat) (hv : v < 2 ^ K) : lin ((List.range K).map (fun i => 2 ^ (5 + i)) ++ gens) v = v <<< 5 := by
  rw [lin_append, lin_sh]
  simp only [List.length_map, List.length_range]
  rw [Nat.div_eq_of_lt hv, lin_zero, Nat.xor_zero, Nat.mod_eq_of_lt hv]
/-- writing a number out in signs of five bits -/
theorem run_out (K : Nat) (gens : List Nat) (p : Nat) : ∀ (n : Nat), 5 * n ≤ K + 5 → run (lin ((List.range K).map (fun i => 2 ^ (5 + i)) ++ gens)) 0 ((List.range n).map fun i => (p >>> (5 * (n - 1 - i))) &&& 31) = p % 2 ^ (5 * n) := by
  have key : ∀ (d n : Nat), 5 * n ≤ K + 5 → run (lin ((List.range K).map (fun i => 2 ^ (5 + i)) ++ gens)) 0 ((List.range n).map fun i => (p >>> (5 * (n + d - 1 - i))) &&& 31) = (p >>> (5 * d)) % 2 ^ (5 * n) := by
    intro d n
    induction n generalizing d with
    | zero => intro _; simp [Nat.mod_one]
    | succ n ih =>
      intro h
      have e : (List.range (n + 1)).map (fun i => (p >>> (5 * (n + 1 + d - 1 - i))) &&& 31) = (List.range n).map (fun i => (p >>> (5 * (n + (d + 1) - 1 - i))) &&& 31) ++ [(p >>> (5 * d)) &&& 31] := by
        rw [List.range_succ, List.map_append]
        congr 1
        · refine List.map_congr_left fun i _ => ?_
          have e9 : n + 1 + d - 1 - i = n + (d + 1) - 1 - i := by (first | lia | omega)
          show p >>> (5 * (n + 1 + d - 1 - i)) &&& 31 = _
          rw [e9]
        · show [p >>> (5 * (n + 1 + d - 1 - n)) &&& 31] = _
          have e9 : n + 1 + d - 1 - n = d := by (first | lia | omega)
          rw [e9]
      rw [e, run_append, ih (d + 1) (by (first | lia | omega))]
      show lin _ _ ^^^ _ = _
      rw [lin_small K gens _ (Nat.lt_of_lt_of_le (Nat.mod_lt _ (Nat.two_pow_pos _)) (Nat.pow_le_pow_right (by decide) (by (first | lia | omega))))]
      have e2 : p >>> (5 * (d + 1)) = (p >>> (5 * d)) >>> 5 := by rw [← Nat.shiftRight_add]; congr 1
      rw [e2]
      generalize p >>> (5 * d) = q
      refine Nat.eq_of_testBit_eq fun i => ?_
      rw [Nat.testBit_xor, Nat.testBit_shiftLeft, Nat.testBit_mod_two_pow, Nat.testBit_mod_two_pow, Nat.testBit_shiftRight, show (31 : Nat) = 2 ^ 5 - 1 from rfl, Nat.and_two_pow_sub_one_eq_mod, Nat.testBit_mod_two_pow]
      by_cases hi : 5 ≤ i
      · have h1 : ¬ i < 5 := by (first | lia | omega)
        have h2 : 5 + (i - 5) = i := by (first | lia | omega)
        have h3 : (i - 5 < 5 * n) = (i < 5 * (n + 1)) := by apply propext; constructor <;> intro _ <;> (first | lia | omega)
        simp [hi, h1, h2, h3]
      · have h1 : i < 5 := by (first | lia | omega)
        have h3 : i < 5 * (n + 1) := by (first | lia | omega)
        simp [hi, h1, h3]
  intro n hn
  have := key 0 n hn
  simpa using this
theorem hrpx_lt {x : Str} (hx : ∀ c ∈ x.cps.toList, c < 128) : ∀ v ∈ hrpx x, v < 32 := by
  intro v hv
  simp only [hrpx, List.mem_append, List.mem_map, List.mem_singleton] at hv
  rcases hv with (⟨c, hc, rfl⟩ | rfl) | ⟨c, hc, rfl⟩
  · have := hx c hc; rw [Nat.shiftRight_eq_div_pow]; (first | lia | omega)
  · decide
  · exact Nat.lt_of_le_of_lt Nat.and_le_right (by decide)
theorem pm_cks {x : Str} {e : Nat} {ns : List Nat} (hx : ∀ c ∈ x.cps.toList, c < 128) (hn : ∀ n ∈ ns, n < 32) (_he : e = 1 ∨ e = 2) : pm32 (hrpx x ++ (ns ++ cks e x ns)) = cst e := by
  have h32 : ∀ v ∈ hrpx x ++ ns, v < 2 ^ 30 := by
    intro v hv
    rcases List.mem_append.mp hv with h | h
    · have := hrpx_lt hx v h; (first | lia | omega)
    · have := hn v h; (first | lia | omega)
  have hlt : ∀ v, lin Bc.Tc v < 2 ^ 30 := lin_lt Bc.Tc (by decide)
  have hcst : cst e < 2 ^ 30 := by unfold cst; split <;> decide
  generalize hS : run (lin Bc.Tc) 1 (hrpx x ++ ns) = S
  have hZ : pm32 (hrpx x ++ ns ++ [0, 0, 0, 0, 0, 0]) = run (lin Bc.Tc) S [0, 0, 0, 0, 0, 0] := by rw [pm32_run, run_append, hS]
  generalize hz : run (lin Bc.Tc) S [0, 0, 0, 0, 0, 0] = Z at hZ
  have hSl : S < 2 ^ 30 := by rw [← hS]; exact run_lt hlt _ _ (by decide) h32
  have hZl : Z < 2 ^ 30 := by rw [← hz]; exact run_lt hlt _ _ hSl (by intro e he; simp at he; subst he; decide)
  have hpl : Z ^^^ cst e < 2 ^ 30 := xlt hZl hcst
  have hck : cks e x ns = (List.range 6).map fun i => ((Z ^^^ cst e) >>> (5 * (6 - 1 - i))) &&& 31 := by
    unfold cks
    rw [hZ]
    rfl
  have hout := run_out 25 Bc.gen (Z ^^^ cst e) 6 (by decide)
  rw [← Tc_bc, ← hck, Nat.mod_eq_of_lt hpl] at hout
  have hl : ([0, 0, 0, 0, 0, 0] : List Nat).length = (cks e x ns).length := by simp [cks]
  have hx2 := run_xor (lin_xor Bc.Tc) [0, 0, 0, 0, 0, 0] (cks e x ns) S 0 hl
  have hzip : ∀ (k : List Nat) (n : Nat), n = k.length → List.zipWith (· ^^^ ·) (List.replicate n 0) k = k := by
    intro k
    induction k with
    | nil => intro n h; subst h; rfl
    | cons a k ih => intro n h; subst h; show (0 ^^^ a) :: _ = _; rw [Nat.zero_xor]; exact congrArg _ (ih _ rfl)
  rw [show ([0, 0, 0, 0, 0, 0] : List Nat) = List.replicate 6 0 from rfl, hzip _ 6 (by simp [cks]), Nat.xor_zero, hout, show List.replicate 6 0 = ([0, 0, 0, 0, 0, 0] : List Nat) from rfl, hz] at hx2
  rw [pm32_run, ← List.append_assoc, run_append, hS, hx2, ← Nat.xor_assoc, Nat.xor_self, Nat.zero_xor]
end Mine

namespace Mine
theorem chr32_ok : ∀ d, d < 32 → 33 ≤ chr32 d ∧ chr32 d < 127 ∧ (chr32 d < 65 ∨ 90 < chr32 d) ∧ chr32 d ≠ 49 := by decide +kernel
theorem cks_len (e : Nat) (x : Str) (ns : List Nat) : (cks e x ns).length = 6 := by simp [cks]
theorem cks_lt {e : Nat} {x : Str} {ns : List Nat} : ∀ n ∈ cks e x ns, n < 32 := by
  intro d h
  simp only [cks, List.mem_map] at h
  obtain ⟨_, _, rfl⟩ := h
  exact Nat.lt_of_le_of_lt Nat.and_le_right (by decide)
structure BFacts (e : Nat) (x : Str) (ns : List Nat) (y : Str) : Prop where
  still : KXs.Still y
  size : y.cps.size = x.cps.size + 1 + (ns.length + 6)
  rf : Txt.rfind y (Str.ofString "1") = (x.cps.size : Int)
  from' : Txt.slice y (some (Txt.rfind y (Str.ofString "1") + 1)) none = ⟨((ns ++ cks e x ns).map chr32).toArray⟩
  to' : Txt.slice y none (some (Txt.rfind y (Str.ofString "1"))) = x
  pm : pm32 (hrpx x ++ (ns ++ cks e x ns)) = cst e
  lt : ∀ d ∈ ns ++ cks e x ns, d < 32
  tk : (ns ++ cks e x ns).take ((ns ++ cks e x ns).length - 6) = ns
theorem bfacts {e : Nat} {x : Str} {ns : List Nat} (hx : KXs.Still x) (hn : ∀ n ∈ ns, n < 32) (he : e = 1 ∨ e = 2) : BFacts e x ns (benc e x ns) := by
  have hlt : ∀ d ∈ ns ++ cks e x ns, d < 32 := fun d hd => (List.mem_append.mp hd).elim (hn d) (cks_lt d)
  have hc : ∀ c ∈ (ns ++ cks e x ns).map chr32, ∃ d, d < 32 ∧ c = chr32 d := fun c hc => by
    obtain ⟨d, hd, rfl⟩ := List.mem_map.mp hc
    exact ⟨d, hlt d hd, rfl⟩
  have hrf : Txt.rfind (benc e x ns) (Str.ofString "1") = (x.cps.size : Int) := btxt_rfind x _ fun c h => by
    obtain ⟨d, hd, rfl⟩ := hc c h; exact (chr32_ok d hd).2.2.2
  refine ⟨btxt_still hx fun c h => ?_, ?_, hrf, ?_, ?_, pm_cks (fun c h => by have := hx c h; (first | lia | omega)) hn he, hlt, ?_⟩
  · obtain ⟨d, hd, rfl⟩ := hc c h; have := chr32_ok d hd; exact ⟨this.1, this.2.1, this.2.2.1⟩
  · have := btxt_size x ((ns ++ cks e x ns).map chr32)
    rw [List.length_map, List.length_append, cks_len] at this
    exact this
  · rw [hrf]; exact btxt_from x _
  · rw [hrf]; exact btxt_to x _
  · rw [List.length_append, cks_len, Nat.add_sub_cancel]; exact List.take_left' rfl
theorem eq_pair {prog : Program} {w : World} {A : Around} {E : Value → Shared → Prop} {s : Shared} {l b D : Addr} {i : Int} {t : Tok} {its : Array Value} {Q : Value → Shared → Prop}
    (hl : s.heap.IsTuple l #[.int i t, .ref D]) (hb : s.heap.IsTuple b #[.none, .none]) (hD : s.heap.IsList D its) (hu : A.units + 1 < cLine) (h : Q (.bool false) s) :
    wpAny (model prog w) A (compareOp .Eq (.ref l) (.ref b)) Q E s := by
  refine SeqAt.eq_tupleAt (e := fun _ => false) hl hb (by (first | lia | omega)) (fun j h1 h2 => ?_) h
  have : j = 0 ∨ j = 1 := by simp at h1; (first | lia | omega)
  rcases this with rfl | rfl
  · exact SeqAt.EqAt.int_none _ _
  · exact SeqAt.EqAt.list_none hD hu
local macro_rules | `(tactic| walk_at "compareOp Eq ref ref") => `(tactic| ((rename News _ _ _ _ => qN); (have q1 := qN _ (.head _)); (have q2 := qN _ (.tail _ (.head _))); (have q3 := qN _ (.tail _ (.tail _ (.head _)))); (refine Mine.eq_pair ⟨_, q2.1, rfl, _, rfl⟩ ⟨_, q1.1, rfl, _, rfl⟩ ⟨_, q3.1, rfl, _, rfl⟩ (by rw [units_deeper]; omega) ?_); clear q1 q2 q3))
theorem encode_call {w : World} {A : Around} {E : Value → Shared → Prop} {s : Shared} {p : Program} {loose : List Str} {mg mb : Str → Option Value} {ps : Array Value} {Q : Value → Shared → Prop}
    (Z : Cz w p loose mg mb ps s.heap) (hb : AllBare s.gens) (hh : A.handled = none) (hd : A.depth + 40 < recursionLimit) (hu : A.units + 100 < cLine) {x : Str} {tk t1 : Tok} {l : Addr} {vs : List Value}
    (hx : KXs.Still x) (hx1 : 1 ≤ x.cps.size) (hx4 : x.cps.size ≤ 4) {ver : Nat} {wp : List Nat} (hl : s.heap.IsList l vs.toArray) (hi : NatsAre vs wp) (hbt : ∀ n ∈ wp, n < 256)
    (hv16 : ver ≤ 16) (hw2 : 2 ≤ wp.length) (hw40 : wp.length ≤ 40) (hv0 : ver = 0 → wp.length = 20 ∨ wp.length = 32)
    (hret : ∀ s' t more, (∀ b o, b ≠ 59 → s.heap.get? b = some o → s'.heap.get? b = some o) → s'.heap.get? 59 = some (tabO (ps ++ more)) → TriplesOk (ps ++ more).toList → AllBare s'.gens → s'.os = s.os →
      Q (.str (benc (if ver = 0 then 1 else 2) x (ver :: to5 wp)) t) s') :
   wpAny (model PySem.Challenge.rw_ai0020_01.row.prog w) A (call (.ref 84) [.str x tk, .int (ver : Int) t1, .ref l]) Q E s := by
  have hl59 : l ≠ 59 := fun q => by obtain ⟨o, e, hc, _⟩ := hl; rw [q, Z.tab] at e; cases e; cases hc
  have hlh : (hid s.heap).IsList l vs.toArray := by obtain ⟨o, e, r⟩ := hl; exact ⟨o, hid_get e hl59, r⟩
  refine enterZ (binds := [(Str.ofString "hrp", .str x tk), (Str.ofString "witver", .int (ver : Int) t1), (Str.ofString "witprog", .ref l)]) Z (by (first | lia | omega)) rfl rfl (BindsTo.of_eq rfl) (locs rfl) ?_ rfl rfl rfl (by decide)
  intro h₁ L F N X T hL
  have h5l := to5_len wp
  have hwn := hi.length
  rw [List.length_map] at hwn
  have hv5 : ∀ n ∈ ver :: to5 wp, n < 32 := by
    intro n hn
    rcases List.mem_cons.mp hn with rfl | hn
    · (first | lia | omega)
    · exact to5_lt wp n hn
  (try dsimp only)
  (repeat' ((( (fail_if_success (with_reducible show wpAny _ _ (exec (Stmt.For _ _ _ _ _) _) _ _ _)); (fail_if_success (with_reducible show wpAny _ _ (exec (Stmt.While _ _ _ _) _) _ _ _)); (fail_if_success (with_reducible show wpAny _ _ (pyIter _) _ _ _)); (fail_if_success (with_reducible show wpAny _ _ (eval (Expr.ListComp _ _ _ _) _) _ _ _)); (fail_if_success (with_reducible show wpAny _ _ (eval (Expr.GeneratorExp _ _ _ _) _) _ _ _)); (fail_if_success (with_reducible show wpAny _ _ (exec (Stmt.Assign _ (Expr.ListComp _ _ _ _) _) _) _ _ _)); (fail_if_success (with_reducible show wpAny _ _ (PySem.call (Value.ref _) _ _) _ _ _)); (fail_if_success (with_reducible show wpAny _ _ (PySem.call (Value.builtin "list.append") _) _ _ _)); (fail_if_success (with_reducible show wpAny _ _ (PySem.call (Value.builtin "any") _) _ _ _)); (fail_if_success (with_reducible show wpAny _ _ (PySem.call (Value.type "zip") _) _ _ _)); (fail_if_success (with_reducible show wpAny _ _ (PySem.call (Value.builtin "all") _) _ _ _)); (fail_if_success (with_reducible show InvEndN _ _ _ _ _ _ _)))); first | (dsimp only; walk1) | walk1))
  all_goals (
    (first | (have he : (if ver = 0 then 1 else 2) = 1 := if_pos (by (first | lia | omega))) | (have he : (if ver = 0 then 1 else 2) = 2 := if_neg (by (first | lia | omega))))
    (rename Fr _ _ _ _ => F)
    (rename News _ _ _ _ => N)
    refine cb8_call (by exact Z.C.keeps F.keep) (by exact hh) (by show A.depth + 1 < recursionLimit; (first | lia | omega)) (by exact hlh.at fun o e => F.keep _ o e) hi (by (first | lia | omega)) hbt ?_
    intro h2 tk2 D2 vs2 n2 hk2 hD20 hD2 hI2
    have F1 := led_fr F hk2
    have N1 := led_add F N hk2 hD20 hD2
    clear F N
    have hl2 := hI2.length
    rw [List.length_map] at hl2
    dsimp only
    (repeat' ((( (fail_if_success (with_reducible show wpAny _ _ (exec (Stmt.For _ _ _ _ _) _) _ _ _)); (fail_if_success (with_reducible show wpAny _ _ (exec (Stmt.While _ _ _ _) _) _ _ _)); (fail_if_success (with_reducible show wpAny _ _ (pyIter _) _ _ _)); (fail_if_success (with_reducible show wpAny _ _ (eval (Expr.ListComp _ _ _ _) _) _ _ _)); (fail_if_success (with_reducible show wpAny _ _ (eval (Expr.GeneratorExp _ _ _ _) _) _ _ _)); (fail_if_success (with_reducible show wpAny _ _ (exec (Stmt.Assign _ (Expr.ListComp _ _ _ _) _) _) _ _ _)); (fail_if_success (with_reducible show wpAny _ _ (PySem.call (Value.ref _) _ _) _ _ _)); (fail_if_success (with_reducible show wpAny _ _ (PySem.call (Value.builtin "list.append") _) _ _ _)); (fail_if_success (with_reducible show wpAny _ _ (PySem.call (Value.builtin "any") _) _ _ _)); (fail_if_success (with_reducible show wpAny _ _ (PySem.call (Value.type "zip") _) _ _ _)); (fail_if_success (with_reducible show wpAny _ _ (PySem.call (Value.builtin "all") _) _ _ _)); (fail_if_success (with_reducible show InvEndN _ _ _ _ _ _ _)))); first | (dsimp only; walk1) | walk1))
    (rename Fr _ _ _ _ => F)
    (rename News _ _ _ _ => N)
    (rename IntsAre _ _ => hI)
    (first
      | (refine benc_call (e := 1) (ns := ver :: to5 wp) (by exact Z.C.keeps F.keep) (by exact hh) (by show A.depth + 1 + 20 < recursionLimit; (first | lia | omega)) (by (first | lia | omega)) (by exact ⟨_, (N _ (by k_mem)).1, rfl, _, rfl⟩) (by exact hI) (by simp only [List.length_cons]; (first | lia | omega)) hv5 ?_)
      | (refine benc_call (e := 2) (ns := ver :: to5 wp) (by exact Z.C.keeps F.keep) (by exact hh) (by show A.depth + 1 + 20 < recursionLimit; (first | lia | omega)) (by (first | lia | omega)) (by exact ⟨_, (N _ (by k_mem)).1, rfl, _, rfl⟩) (by exact hI) (by simp only [List.length_cons]; (first | lia | omega)) hv5 ?_))
    intro h3 tk3 t3 hk3
    have F1 := led_fr F hk3
    have N1 := led_keep N hk3
    clear F N
    dsimp only
    (repeat' ((( (fail_if_success (with_reducible show wpAny _ _ (exec (Stmt.For _ _ _ _ _) _) _ _ _)); (fail_if_success (with_reducible show wpAny _ _ (exec (Stmt.While _ _ _ _) _) _ _ _)); (fail_if_success (with_reducible show wpAny _ _ (pyIter _) _ _ _)); (fail_if_success (with_reducible show wpAny _ _ (eval (Expr.ListComp _ _ _ _) _) _ _ _)); (fail_if_success (with_reducible show wpAny _ _ (eval (Expr.GeneratorExp _ _ _ _) _) _ _ _)); (fail_if_success (with_reducible show wpAny _ _ (exec (Stmt.Assign _ (Expr.ListComp _ _ _ _) _) _) _ _ _)); (fail_if_success (with_reducible show wpAny _ _ (PySem.call (Value.ref _) _ _) _ _ _)); (fail_if_success (with_reducible show wpAny _ _ (PySem.call (Value.builtin "list.append") _) _ _ _)); (fail_if_success (with_reducible show wpAny _ _ (PySem.call (Value.builtin "any") _) _ _ _)); (fail_if_success (with_reducible show wpAny _ _ (PySem.call (Value.type "zip") _) _ _ _)); (fail_if_success (with_reducible show wpAny _ _ (PySem.call (Value.builtin "all") _) _ _ _)); (fail_if_success (with_reducible show InvEndN _ _ _ _ _ _ _)))); first | (dsimp only; walk1) | walk1))
    (rename Fr _ _ _ _ => F)
    (rename News _ _ _ _ => N)
    (first
      | (have hbf := bfacts (e := 1) hx hv5 (.inl rfl); generalize hy : benc 1 x (ver :: to5 wp) = y at *; (with_reducible show wpAny _ _ (PySem.call _ [_, Value.str y _]) _ _ _))
      | (have hbf := bfacts (e := 2) hx hv5 (.inr rfl); generalize hy : benc 2 x (ver :: to5 wp) = y at *))
    have hsz := hbf.size
    simp only [List.length_cons] at hsz
    refine decode_call (wp := wp) (by exact Z.at F N (by k_mem) Z.trip) (by exact hb) (by exact hh) (by show A.depth + 1 + 30 < recursionLimit; (first | lia | omega)) hbf.still (by (first | lia | omega)) hbf.rf hx1 (by show _ ≤ y.cps.size; (first | lia | omega)) (by (first | lia | omega)) (by decide) hbf.pm hbf.lt hbf.from' hbf.to' hbf.tk hv16 hw2 hw40 hv0 (by (first | lia | omega)) ?_
    intro s4 T4 D4 t4 more k4 tab4 trip4 G4 os4 hT0 hT4 hD40 hD4
    obtain ⟨its4, n4, hD4⟩ := hD4
    have n59 := N (59, tabO ps) (by k_mem)
    have N1 : News (hid s.heap) L s4.heap [(59, tabO (ps ++ more))] := fun q hq => by rw [List.mem_singleton.mp hq]; exact ⟨tab4, n59.2⟩
    have F1 := led_frZ F n59.2.2 hL k4
    have N2 := led_new F hT0 hT4 (led_new F hD40 hD4 N1)
    clear N1 F N
    (repeat' ((( (fail_if_success (with_reducible show wpAny _ _ (exec (Stmt.For _ _ _ _ _) _) _ _ _)); (fail_if_success (with_reducible show wpAny _ _ (exec (Stmt.While _ _ _ _) _) _ _ _)); (fail_if_success (with_reducible show wpAny _ _ (pyIter _) _ _ _)); (fail_if_success (with_reducible show wpAny _ _ (eval (Expr.ListComp _ _ _ _) _) _ _ _)); (fail_if_success (with_reducible show wpAny _ _ (eval (Expr.GeneratorExp _ _ _ _) _) _ _ _)); (fail_if_success (with_reducible show wpAny _ _ (exec (Stmt.Assign _ (Expr.ListComp _ _ _ _) _) _) _ _ _)); (fail_if_success (with_reducible show wpAny _ _ (PySem.call (Value.ref _) _ _) _ _ _)); (fail_if_success (with_reducible show wpAny _ _ (PySem.call (Value.builtin "list.append") _) _ _ _)); (fail_if_success (with_reducible show wpAny _ _ (PySem.call (Value.builtin "any") _) _ _ _)); (fail_if_success (with_reducible show wpAny _ _ (PySem.call (Value.type "zip") _) _ _ _)); (fail_if_success (with_reducible show wpAny _ _ (PySem.call (Value.builtin "all") _) _ _ _)); (fail_if_success (with_reducible show InvEndN _ _ _ _ _ _ _)))); first | (dsimp only; walk1) | walk1))
    (rename Fr _ _ _ _ => F)
    (rename News _ _ _ _ => N)
    rw [he, hy] at hret
    exact hret _ _ more (fun b o hb e => F.keep b o (hid_get e hb)) (N _ (.tail _ (.tail _ (.tail _ (.head _))))).1 trip4 G4 os4)
end Mine

namespace Mine
noncomputable def dst (c v : Nat) : Nat := (((c &&& 34359738367) <<< 5) ^^^ v) ^^^ gsel Dc.gen (c >>> 35) 5
theorem dst_lin (c v : Nat) : dst c v = lin Dc.Tc c ^^^ v := by
  rw [Tc_dc]
  exact step_lin 35 1056006543753 730107360018 118834127661 236335490938 430795026429 c v
theorem and_pow (x k : Nat) : (x &&& 2 ^ k ≠ 0) ↔ x >>> k &&& 1 = 1 := by
  rw [Nat.shiftRight_eq_div_pow, Nat.and_one_is_mod]
  have h : x.testBit k = decide (x / 2 ^ k % 2 = 1) := Nat.testBit_eq_decide_div_mod_eq
  constructor
  · intro hn
    rcases Nat.mod_two_eq_zero_or_one (x / 2 ^ k) with h0 | h1
    · exfalso
      apply hn
      refine Nat.eq_of_testBit_eq fun i => ?_
      rw [Nat.testBit_and, Nat.testBit_two_pow, Nat.zero_testBit]
      by_cases hi : k = i
      · subst hi; rw [h, h0]; simp
      · simp [hi]
    · exact h1
  · intro h1 he
    have h2 := congrArg (fun z => Nat.testBit z k) he
    simp only [Nat.testBit_and, Nat.testBit_two_pow_self, Bool.and_true, Nat.zero_testBit] at h2
    rw [h, h1] at h2
    simp at h2
/-- how an `if` that turns the one name ends -/
noncomputable def JEnd (g : Heap) (L : Addr) (m : Str → Option Value) (x : Str) (n : Nat) (s : Shared) (fl : Flow) (s' : Shared) : Prop :=
  fl = .next ∧ ∃ h' tk t, s' = { s with heap := h', toks := tk } ∧ Fr g L h' (fun y => if y = x then some (.int (n : Int) t) else m y) ∧ News g L h' []
theorem JEnd.keep {g h' : Heap} {L : Addr} {m m' : Str → Option Value} {x : Str} {n k : Nat} {s : Shared} {tk : Nat} {t : Tok} (F : Fr g L h' m') (hk : n = k) (hm : m' x = some (.int (k : Int) t)) (ho : ∀ y, y ≠ x → m' y = m y) : JEnd g L m x n s .next { s with heap := h', toks := tk } := by
  refine ⟨rfl, h', tk, t, rfl, ?_, News.nil⟩
  have e : (fun y => if y = x then some (.int (n : Int) t) else m y) = m' := by
    funext y
    by_cases hy : y = x
    · rw [if_pos hy, hy, hm, hk]
    · rw [if_neg hy, ho y hy]
  rw [e]; exact F
theorem if_join {M : Model} {A : Around} {E : Value → Shared → Prop} {s : Shared} {env : Env} {st : Stmt} {g : Heap} {L : Addr} {m : Str → Option Value} {Q : Flow → Shared → Prop} (_ : Fr g L s.heap m) (x : Str) (n : Nat)
    (h1 : wpAny M A (exec st env) (JEnd g L m x n s) E s)
    (h2 : ∀ h' tk t, Fr g L h' (fun y => if y = x then some (.int (n : Int) t) else m y) → News g L h' [] → Q .next { s with heap := h', toks := tk }) : wpAny M A (exec st env) Q E s :=
  wpAny_mono h1 (fun _ _ ⟨e, h', tk, t, e', F, N⟩ => by subst e e'; exact h2 h' tk t F N) fun _ _ e => e
theorem dpm_call {w : World} {A : Around} {E : Value → Shared → Prop} {s : Shared} {p : Program} {loose : List Str} {mg mb : Str → Option Value} {Q : Value → Shared → Prop}
    (C : Cx w p loose mg mb s.heap) (hd : A.depth < recursionLimit) {c v : Nat} {t1 t2 : Tok}
    (hret : ∀ h' tk t, Ext s.heap h' → Q (.int (dst c v : Nat) t) { s with heap := h', toks := tk }) :
   wpAny (model PySem.Challenge.rw_ai0020_01.row.prog w) A (call (.ref 116) [.int (c : Int) t1, .int (v : Int) t2]) Q E s := by
  refine enter (binds := [(Str.ofString "c", .int (c : Int) t1), (Str.ofString "val", .int (v : Int) t2)]) C hd rfl rfl (BindsTo.of_eq rfl) (locs rfl) ?_ rfl rfl rfl (by decide)
  intro h₁ L F N X T
  (try dsimp only)
  (repeat' ((((fail_if_success (with_reducible show wpAny _ _ (exec (Stmt.If _ _ _ _) _) _ _ _)); (fail_if_success (with_reducible show JEnd _ _ _ _ _ _ _ _)); ((( (fail_if_success (with_reducible show wpAny _ _ (exec (Stmt.For _ _ _ _ _) _) _ _ _)); (fail_if_success (with_reducible show wpAny _ _ (exec (Stmt.While _ _ _ _) _) _ _ _)); (fail_if_success (with_reducible show wpAny _ _ (pyIter _) _ _ _)); (fail_if_success (with_reducible show wpAny _ _ (eval (Expr.ListComp _ _ _ _) _) _ _ _)); (fail_if_success (with_reducible show wpAny _ _ (eval (Expr.GeneratorExp _ _ _ _) _) _ _ _)); (fail_if_success (with_reducible show wpAny _ _ (exec (Stmt.Assign _ (Expr.ListComp _ _ _ _) _) _) _ _ _)); (fail_if_success (with_reducible show wpAny _ _ (PySem.call (Value.ref _) _ _) _ _ _)); (fail_if_success (with_reducible show wpAny _ _ (PySem.call (Value.builtin "list.append") _) _ _ _)); (fail_if_success (with_reducible show wpAny _ _ (PySem.call (Value.builtin "any") _) _ _ _)); (fail_if_success (with_reducible show wpAny _ _ (PySem.call (Value.type "zip") _) _ _ _)); (fail_if_success (with_reducible show wpAny _ _ (PySem.call (Value.builtin "all") _) _ _ _)); (fail_if_success (with_reducible show InvEndN _ _ _ _ _ _ _))))))); first | (dsimp only; walk1) | walk1))
  (rename Fr _ _ _ _ => F)
  obtain ⟨X0, hX0⟩ : ∃ X, X = (((c &&& 34359738367) <<< 5) ^^^ v) ^^^ (if (c >>> 35) >>> 0 &&& 1 = 1 then 1056006543753 else 0) := ⟨_, rfl⟩
  refine if_join F (Str.ofString "c") X0 ?_ ?_
  · walk1
    (repeat' ((((fail_if_success (with_reducible show wpAny _ _ (exec (Stmt.If _ _ _ _) _) _ _ _)); (fail_if_success (with_reducible show JEnd _ _ _ _ _ _ _ _)); ((( (fail_if_success (with_reducible show wpAny _ _ (exec (Stmt.For _ _ _ _ _) _) _ _ _)); (fail_if_success (with_reducible show wpAny _ _ (exec (Stmt.While _ _ _ _) _) _ _ _)); (fail_if_success (with_reducible show wpAny _ _ (pyIter _) _ _ _)); (fail_if_success (with_reducible show wpAny _ _ (eval (Expr.ListComp _ _ _ _) _) _ _ _)); (fail_if_success (with_reducible show wpAny _ _ (eval (Expr.GeneratorExp _ _ _ _) _) _ _ _)); (fail_if_success (with_reducible show wpAny _ _ (exec (Stmt.Assign _ (Expr.ListComp _ _ _ _) _) _) _ _ _)); (fail_if_success (with_reducible show wpAny _ _ (PySem.call (Value.ref _) _ _) _ _ _)); (fail_if_success (with_reducible show wpAny _ _ (PySem.call (Value.builtin "list.append") _) _ _ _)); (fail_if_success (with_reducible show wpAny _ _ (PySem.call (Value.builtin "any") _) _ _ _)); (fail_if_success (with_reducible show wpAny _ _ (PySem.call (Value.type "zip") _) _ _ _)); (fail_if_success (with_reducible show wpAny _ _ (PySem.call (Value.builtin "all") _) _ _ _)); (fail_if_success (with_reducible show InvEndN _ _ _ _ _ _ _))))))); first | (dsimp only; walk1) | walk1))
    · (rename Fr _ _ _ _ => F)
      (rename (_ ≠ (0 : Int)) => hz)
      have hz' : (c >>> 35) >>> 0 &&& 1 = 1 := (and_pow _ 0).mp fun e => hz (congrArg _ e)
      exact JEnd.keep F (by rw [hX0, if_pos hz']) rfl (by intro y hy; simp only [if_neg hy])
    · (rename Fr _ _ _ _ => F)
      (rename (_ = (0 : Int)) => hz)
      have hz' : ¬ (c >>> 35) >>> 0 &&& 1 = 1 := fun e => (and_pow _ 0).mpr e (Int.ofNat.inj hz)
      exact JEnd.keep F (by rw [hX0, if_neg hz', Nat.xor_zero]) rfl (fun y _ => rfl)
  clear F
  intro h0 tk0 t0 F N
  dsimp only
  (repeat' ((((fail_if_success (with_reducible show wpAny _ _ (exec (Stmt.If _ _ _ _) _) _ _ _)); (fail_if_success (with_reducible show JEnd _ _ _ _ _ _ _ _)); ((( (fail_if_success (with_reducible show wpAny _ _ (exec (Stmt.For _ _ _ _ _) _) _ _ _)); (fail_if_success (with_reducible show wpAny _ _ (exec (Stmt.While _ _ _ _) _) _ _ _)); (fail_if_success (with_reducible show wpAny _ _ (pyIter _) _ _ _)); (fail_if_success (with_reducible show wpAny _ _ (eval (Expr.ListComp _ _ _ _) _) _ _ _)); (fail_if_success (with_reducible show wpAny _ _ (eval (Expr.GeneratorExp _ _ _ _) _) _ _ _)); (fail_if_success (with_reducible show wpAny _ _ (exec (Stmt.Assign _ (Expr.ListComp _ _ _ _) _) _) _ _ _)); (fail_if_success (with_reducible show wpAny _ _ (PySem.call (Value.ref _) _ _) _ _ _)); (fail_if_success (with_reducible show wpAny _ _ (PySem.call (Value.builtin "list.append") _) _ _ _)); (fail_if_success (with_reducible show wpAny _ _ (PySem.call (Value.builtin "any") _) _ _ _)); (fail_if_success (with_reducible show wpAny _ _ (PySem.call (Value.type "zip") _) _ _ _)); (fail_if_success (with_reducible show wpAny _ _ (PySem.call (Value.builtin "all") _) _ _ _)); (fail_if_success (with_reducible show InvEndN _ _ _ _ _ _ _))))))); first | (dsimp only; walk1) | walk1))
  obtain ⟨X1, hX1⟩ : ∃ X, X = X0 ^^^ (if (c >>> 35) >>> 1 &&& 1 = 1 then 730107360018 else 0) := ⟨_, rfl⟩
  refine if_join F (Str.ofString "c") X1 ?_ ?_
  · walk1
    (repeat' ((((fail_if_success (with_reducible show wpAny _ _ (exec (Stmt.If _ _ _ _) _) _ _ _)); (fail_if_success (with_reducible show JEnd _ _ _ _ _ _ _ _)); ((( (fail_if_success (with_reducible show wpAny _ _ (exec (Stmt.For _ _ _ _ _) _) _ _ _)); (fail_if_success (with_reducible show wpAny _ _ (exec (Stmt.While _ _ _ _) _) _ _ _)); (fail_if_success (with_reducible show wpAny _ _ (pyIter _) _ _ _)); (fail_if_success (with_reducible show wpAny _ _ (eval (Expr.ListComp _ _ _ _) _) _ _ _)); (fail_if_success (with_reducible show wpAny _ _ (eval (Expr.GeneratorExp _ _ _ _) _) _ _ _)); (fail_if_success (with_reducible show wpAny _ _ (exec (Stmt.Assign _ (Expr.ListComp _ _ _ _) _) _) _ _ _)); (fail_if_success (with_reducible show wpAny _ _ (PySem.call (Value.ref _) _ _) _ _ _)); (fail_if_success (with_reducible show wpAny _ _ (PySem.call (Value.builtin "list.append") _) _ _ _)); (fail_if_success (with_reducible show wpAny _ _ (PySem.call (Value.builtin "any") _) _ _ _)); (fail_if_success (with_reducible show wpAny _ _ (PySem.call (Value.type "zip") _) _ _ _)); (fail_if_success (with_reducible show wpAny _ _ (PySem.call (Value.builtin "all") _) _ _ _)); (fail_if_success (with_reducible show InvEndN _ _ _ _ _ _ _))))))); first | (dsimp only; walk1) | walk1))
    · (rename Fr _ _ _ _ => F)
      (rename (_ ≠ (0 : Int)) => hz)
      have hz' : (c >>> 35) >>> 1 &&& 1 = 1 := (and_pow _ 1).mp fun e => hz (congrArg _ e)
      exact JEnd.keep F (by rw [hX1, if_pos hz']) rfl (by intro y hy; simp only [if_neg hy])
    · (rename Fr _ _ _ _ => F)
      (rename (_ = (0 : Int)) => hz)
      have hz' : ¬ (c >>> 35) >>> 1 &&& 1 = 1 := fun e => (and_pow _ 1).mpr e (Int.ofNat.inj hz)
      exact JEnd.keep F (by rw [hX1, if_neg hz', Nat.xor_zero]) rfl (fun y _ => rfl)
  clear F
  intro h1 tk1 t1 F N
  dsimp only
  (repeat' ((((fail_if_success (with_reducible show wpAny _ _ (exec (Stmt.If _ _ _ _) _) _ _ _)); (fail_if_success (with_reducible show JEnd _ _ _ _ _ _ _ _)); ((( (fail_if_success (with_reducible show wpAny _ _ (exec (Stmt.For _ _ _ _ _) _) _ _ _)); (fail_if_success (with_reducible show wpAny _ _ (exec (Stmt.While _ _ _ _) _) _ _ _)); (fail_if_success (with_reducible show wpAny _ _ (pyIter _) _ _ _)); (fail_if_success (with_reducible show wpAny _ _ (eval (Expr.ListComp _ _ _ _) _) _ _ _)); (fail_if_success (with_reducible show wpAny _ _ (eval (Expr.GeneratorExp _ _ _ _) _) _ _ _)); (fail_if_success (with_reducible show wpAny _ _ (exec (Stmt.Assign _ (Expr.ListComp _ _ _ _) _) _) _ _ _)); (fail_if_success (with_reducible show wpAny _ _ (PySem.call (Value.ref _) _ _) _ _ _)); (fail_if_success (with_reducible show wpAny _ _ (PySem.call (Value.builtin "list.append") _) _ _ _)); (fail_if_success (with_reducible show wpAny _ _ (PySem.call (Value.builtin "any") _) _ _ _)); (fail_if_success (with_reducible show wpAny _ _ (PySem.call (Value.type "zip") _) _ _ _)); (fail_if_success (with_reducible show wpAny _ _ (PySem.call (Value.builtin "all") _) _ _ _)); (fail_if_success (with_reducible show InvEndN _ _ _ _ _ _ _))))))); first | (dsimp only; walk1) | walk1))
  obtain ⟨X2, hX2⟩ : ∃ X, X = X1 ^^^ (if (c >>> 35) >>> 2 &&& 1 = 1 then 118834127661 else 0) := ⟨_, rfl⟩
  refine if_join F (Str.ofString "c") X2 ?_ ?_
  · walk1
    (repeat' ((((fail_if_success (with_reducible show wpAny _ _ (exec (Stmt.If _ _ _ _) _) _ _ _)); (fail_if_success (with_reducible show JEnd _ _ _ _ _ _ _ _)); ((( (fail_if_success (with_reducible show wpAny _ _ (exec (Stmt.For _ _ _ _ _) _) _ _ _)); (fail_if_success (with_reducible show wpAny _ _ (exec (Stmt.While _ _ _ _) _) _ _ _)); (fail_if_success (with_reducible show wpAny _ _ (pyIter _) _ _ _)); (fail_if_success (with_reducible show wpAny _ _ (eval (Expr.ListComp _ _ _ _) _) _ _ _)); (fail_if_success (with_reducible show wpAny _ _ (eval (Expr.GeneratorExp _ _ _ _) _) _ _ _)); (fail_if_success (with_reducible show wpAny _ _ (exec (Stmt.Assign _ (Expr.ListComp _ _ _ _) _) _) _ _ _)); (fail_if_success (with_reducible show wpAny _ _ (PySem.call (Value.ref _) _ _) _ _ _)); (fail_if_success (with_reducible show wpAny _ _ (PySem.call (Value.builtin "list.append") _) _ _ _)); (fail_if_success (with_reducible show wpAny _ _ (PySem.call (Value.builtin "any") _) _ _ _)); (fail_if_success (with_reducible show wpAny _ _ (PySem.call (Value.type "zip") _) _ _ _)); (fail_if_success (with_reducible show wpAny _ _ (PySem.call (Value.builtin "all") _) _ _ _)); (fail_if_success (with_reducible show InvEndN _ _ _ _ _ _ _))))))); first | (dsimp only; walk1) | walk1))
    · (rename Fr _ _ _ _ => F)
      (rename (_ ≠ (0 : Int)) => hz)
      have hz' : (c >>> 35) >>> 2 &&& 1 = 1 := (and_pow _ 2).mp fun e => hz (congrArg _ e)
      exact JEnd.keep F (by rw [hX2, if_pos hz']) rfl (by intro y hy; simp only [if_neg hy])
    · (rename Fr _ _ _ _ => F)
      (rename (_ = (0 : Int)) => hz)
      have hz' : ¬ (c >>> 35) >>> 2 &&& 1 = 1 := fun e => (and_pow _ 2).mpr e (Int.ofNat.inj hz)
      exact JEnd.keep F (by rw [hX2, if_neg hz', Nat.xor_zero]) rfl (fun y _ => rfl)
  clear F
  intro h2 tk2 t2 F N
  dsimp only
  (repeat' ((((fail_if_success (with_reducible show wpAny _ _ (exec (Stmt.If _ _ _ _) _) _ _ _)); (fail_if_success (with_reducible show JEnd _ _ _ _ _ _ _ _)); ((( (fail_if_success (with_reducible show wpAny _ _ (exec (Stmt.For _ _ _ _ _) _) _ _ _)); (fail_if_success (with_reducible show wpAny _ _ (exec (Stmt.While _ _ _ _) _) _ _ _)); (fail_if_success (with_reducible show wpAny _ _ (pyIter _) _ _ _)); (fail_if_success (with_reducible show wpAny _ _ (eval (Expr.ListComp _ _ _ _) _) _ _ _)); (fail_if_success (with_reducible show wpAny _ _ (eval (Expr.GeneratorExp _ _ _ _) _) _ _ _)); (fail_if_success (with_reducible show wpAny _ _ (exec (Stmt.Assign _ (Expr.ListComp _ _ _ _) _) _) _ _ _)); (fail_if_success (with_reducible show wpAny _ _ (PySem.call (Value.ref _) _ _) _ _ _)); (fail_if_success (with_reducible show wpAny _ _ (PySem.call (Value.builtin "list.append") _) _ _ _)); (fail_if_success (with_reducible show wpAny _ _ (PySem.call (Value.builtin "any") _) _ _ _)); (fail_if_success (with_reducible show wpAny _ _ (PySem.call (Value.type "zip") _) _ _ _)); (fail_if_success (with_reducible show wpAny _ _ (PySem.call (Value.builtin "all") _) _ _ _)); (fail_if_success (with_reducible show InvEndN _ _ _ _ _ _ _))))))); first | (dsimp only; walk1) | walk1))
  obtain ⟨X3, hX3⟩ : ∃ X, X = X2 ^^^ (if (c >>> 35) >>> 3 &&& 1 = 1 then 236335490938 else 0) := ⟨_, rfl⟩
  refine if_join F (Str.ofString "c") X3 ?_ ?_
  · walk1
    (repeat' ((((fail_if_success (with_reducible show wpAny _ _ (exec (Stmt.If _ _ _ _) _) _ _ _)); (fail_if_success (with_reducible show JEnd _ _ _ _ _ _ _ _)); ((( (fail_if_success (with_reducible show wpAny _ _ (exec (Stmt.For _ _ _ _ _) _) _ _ _)); (fail_if_success (with_reducible show wpAny _ _ (exec (Stmt.While _ _ _ _) _) _ _ _)); (fail_if_success (with_reducible show wpAny _ _ (pyIter _) _ _ _)); (fail_if_success (with_reducible show wpAny _ _ (eval (Expr.ListComp _ _ _ _) _) _ _ _)); (fail_if_success (with_reducible show wpAny _ _ (eval (Expr.GeneratorExp _ _ _ _) _) _ _ _)); (fail_if_success (with_reducible show wpAny _ _ (exec (Stmt.Assign _ (Expr.ListComp _ _ _ _) _) _) _ _ _)); (fail_if_success (with_reducible show wpAny _ _ (PySem.call (Value.ref _) _ _) _ _ _)); (fail_if_success (with_reducible show wpAny _ _ (PySem.call (Value.builtin "list.append") _) _ _ _)); (fail_if_success (with_reducible show wpAny _ _ (PySem.call (Value.builtin "any") _) _ _ _)); (fail_if_success (with_reducible show wpAny _ _ (PySem.call (Value.type "zip") _) _ _ _)); (fail_if_success (with_reducible show wpAny _ _ (PySem.call (Value.builtin "all") _) _ _ _)); (fail_if_success (with_reducible show InvEndN _ _ _ _ _ _ _))))))); first | (dsimp only; walk1) | walk1))
    · (rename Fr _ _ _ _ => F)
      (rename (_ ≠ (0 : Int)) => hz)
      have hz' : (c >>> 35) >>> 3 &&& 1 = 1 := (and_pow _ 3).mp fun e => hz (congrArg _ e)
      exact JEnd.keep F (by rw [hX3, if_pos hz']) rfl (by intro y hy; simp only [if_neg hy])
    · (rename Fr _ _ _ _ => F)
      (rename (_ = (0 : Int)) => hz)
      have hz' : ¬ (c >>> 35) >>> 3 &&& 1 = 1 := fun e => (and_pow _ 3).mpr e (Int.ofNat.inj hz)
      exact JEnd.keep F (by rw [hX3, if_neg hz', Nat.xor_zero]) rfl (fun y _ => rfl)
  clear F
  intro h3 tk3 t3 F N
  dsimp only
  (repeat' ((((fail_if_success (with_reducible show wpAny _ _ (exec (Stmt.If _ _ _ _) _) _ _ _)); (fail_if_success (with_reducible show JEnd _ _ _ _ _ _ _ _)); ((( (fail_if_success (with_reducible show wpAny _ _ (exec (Stmt.For _ _ _ _ _) _) _ _ _)); (fail_if_success (with_reducible show wpAny _ _ (exec (Stmt.While _ _ _ _) _) _ _ _)); (fail_if_success (with_reducible show wpAny _ _ (pyIter _) _ _ _)); (fail_if_success (with_reducible show wpAny _ _ (eval (Expr.ListComp _ _ _ _) _) _ _ _)); (fail_if_success (with_reducible show wpAny _ _ (eval (Expr.GeneratorExp _ _ _ _) _) _ _ _)); (fail_if_success (with_reducible show wpAny _ _ (exec (Stmt.Assign _ (Expr.ListComp _ _ _ _) _) _) _ _ _)); (fail_if_success (with_reducible show wpAny _ _ (PySem.call (Value.ref _) _ _) _ _ _)); (fail_if_success (with_reducible show wpAny _ _ (PySem.call (Value.builtin "list.append") _) _ _ _)); (fail_if_success (with_reducible show wpAny _ _ (PySem.call (Value.builtin "any") _) _ _ _)); (fail_if_success (with_reducible show wpAny _ _ (PySem.call (Value.type "zip") _) _ _ _)); (fail_if_success (with_reducible show wpAny _ _ (PySem.call (Value.builtin "all") _) _ _ _)); (fail_if_success (with_reducible show InvEndN _ _ _ _ _ _ _))))))); first | (dsimp only; walk1) | walk1))
  obtain ⟨X4, hX4⟩ : ∃ X, X = X3 ^^^ (if (c >>> 35) >>> 4 &&& 1 = 1 then 430795026429 else 0) := ⟨_, rfl⟩
  refine if_join F (Str.ofString "c") X4 ?_ ?_
  · walk1
    (repeat' ((((fail_if_success (with_reducible show wpAny _ _ (exec (Stmt.If _ _ _ _) _) _ _ _)); (fail_if_success (with_reducible show JEnd _ _ _ _ _ _ _ _)); ((( (fail_if_success (with_reducible show wpAny _ _ (exec (Stmt.For _ _ _ _ _) _) _ _ _)); (fail_if_success (with_reducible show wpAny _ _ (exec (Stmt.While _ _ _ _) _) _ _ _)); (fail_if_success (with_reducible show wpAny _ _ (pyIter _) _ _ _)); (fail_if_success (with_reducible show wpAny _ _ (eval (Expr.ListComp _ _ _ _) _) _ _ _)); (fail_if_success (with_reducible show wpAny _ _ (eval (Expr.GeneratorExp _ _ _ _) _) _ _ _)); (fail_if_success (with_reducible show wpAny _ _ (exec (Stmt.Assign _ (Expr.ListComp _ _ _ _) _) _) _ _ _)); (fail_if_success (with_reducible show wpAny _ _ (PySem.call (Value.ref _) _ _) _ _ _)); (fail_if_success (with_reducible show wpAny _ _ (PySem.call (Value.builtin "list.append") _) _ _ _)); (fail_if_success (with_reducible show wpAny _ _ (PySem.call (Value.builtin "any") _) _ _ _)); (fail_if_success (with_reducible show wpAny _ _ (PySem.call (Value.type "zip") _) _ _ _)); (fail_if_success (with_reducible show wpAny _ _ (PySem.call (Value.builtin "all") _) _ _ _)); (fail_if_success (with_reducible show InvEndN _ _ _ _ _ _ _))))))); first | (dsimp only; walk1) | walk1))
    · (rename Fr _ _ _ _ => F)
      (rename (_ ≠ (0 : Int)) => hz)
      have hz' : (c >>> 35) >>> 4 &&& 1 = 1 := (and_pow _ 4).mp fun e => hz (congrArg _ e)
      exact JEnd.keep F (by rw [hX4, if_pos hz']) rfl (by intro y hy; simp only [if_neg hy])
    · (rename Fr _ _ _ _ => F)
      (rename (_ = (0 : Int)) => hz)
      have hz' : ¬ (c >>> 35) >>> 4 &&& 1 = 1 := fun e => (and_pow _ 4).mpr e (Int.ofNat.inj hz)
      exact JEnd.keep F (by rw [hX4, if_neg hz', Nat.xor_zero]) rfl (fun y _ => rfl)
  clear F
  intro h4 tk4 t4 F N
  dsimp only
  (repeat' ((((fail_if_success (with_reducible show wpAny _ _ (exec (Stmt.If _ _ _ _) _) _ _ _)); (fail_if_success (with_reducible show JEnd _ _ _ _ _ _ _ _)); ((( (fail_if_success (with_reducible show wpAny _ _ (exec (Stmt.For _ _ _ _ _) _) _ _ _)); (fail_if_success (with_reducible show wpAny _ _ (exec (Stmt.While _ _ _ _) _) _ _ _)); (fail_if_success (with_reducible show wpAny _ _ (pyIter _) _ _ _)); (fail_if_success (with_reducible show wpAny _ _ (eval (Expr.ListComp _ _ _ _) _) _ _ _)); (fail_if_success (with_reducible show wpAny _ _ (eval (Expr.GeneratorExp _ _ _ _) _) _ _ _)); (fail_if_success (with_reducible show wpAny _ _ (exec (Stmt.Assign _ (Expr.ListComp _ _ _ _) _) _) _ _ _)); (fail_if_success (with_reducible show wpAny _ _ (PySem.call (Value.ref _) _ _) _ _ _)); (fail_if_success (with_reducible show wpAny _ _ (PySem.call (Value.builtin "list.append") _) _ _ _)); (fail_if_success (with_reducible show wpAny _ _ (PySem.call (Value.builtin "any") _) _ _ _)); (fail_if_success (with_reducible show wpAny _ _ (PySem.call (Value.type "zip") _) _ _ _)); (fail_if_success (with_reducible show wpAny _ _ (PySem.call (Value.builtin "all") _) _ _ _)); (fail_if_success (with_reducible show InvEndN _ _ _ _ _ _ _))))))); first | (dsimp only; walk1) | walk1))
  have e : X4 = dst c v := by
    rw [hX4, hX3, hX2, hX1, hX0]
    show _ = (((c &&& 34359738367) <<< 5) ^^^ v) ^^^ (((((0 ^^^ _) ^^^ _) ^^^ _) ^^^ _) ^^^ _)
    simp only [Nat.zero_xor, Nat.xor_assoc]
    rfl
  rw [e]
  exact hret _ _ _ F.keep
end Mine

namespace Mine
noncomputable def wch (p : Nat) : Nat := (Str.ofString "0123456789()[],'/*abcdefgh@:$%{}IJKLMNOPQRSTUVWXYZ&+-.;<=>?!^_|~ijklmnopqrstuvwxyzABCDEFGH`#\"\\ ").cps.getD p 0
noncomputable def wfind (c : Nat) : Int := Txt.find (Str.ofString "0123456789()[],'/*abcdefgh@:$%{}IJKLMNOPQRSTUVWXYZ&+-.;<=>?!^_|~ijklmnopqrstuvwxyzABCDEFGH`#\"\\ ") ⟨#[c]⟩
theorem wfind_wch : ∀ p, p < 95 → wfind (wch p) = (p : Int) := by decide +kernel
noncomputable def dstep (S : Nat × Nat × Nat) (p : Nat) : Nat × Nat × Nat :=
  if S.2.2 + 1 = 3 then (dst (dst S.1 (p &&& 31)) (S.2.1 * 3 + p >>> 5), 0, 0) else (dst S.1 (p &&& 31), S.2.1 * 3 + p >>> 5, S.2.2 + 1)
noncomputable def drun (ps : List Nat) : Nat × Nat × Nat := ps.foldl dstep (1, 0, 0)
noncomputable def dfin (ps : List Nat) : Nat := if (drun ps).2.2 > 0 then dst (drun ps).1 (drun ps).2.1 else (drun ps).1
noncomputable def dsum (ps : List Nat) : Nat := ([0, 0, 0, 0, 0, 0, 0, 0].foldl dst (dfin ps)) ^^^ 1
noncomputable def dtext (ps : List Nat) : Str := ⟨((List.range 8).map fun j => chr32 ((dsum ps >>> (5 * (7 - j))) &&& 31)).toArray⟩
noncomputable def wtext (ps : List Nat) : Str := ⟨(ps.map wch).toArray⟩
theorem drun_snoc (ps : List Nat) (p : Nat) : drun (ps ++ [p]) = dstep (drun ps) p := by unfold drun; rw [List.foldl_append]; rfl
theorem wch_inj {l k : List Nat} (hl : ∀ p ∈ l, p < 95) (hk : ∀ p ∈ k, p < 95) (h : l.map wch = k.map wch) : l = k := by
  have e : ∀ l : List Nat, (∀ p ∈ l, p < 95) → (l.map wch).map wfind = l.map fun n : Nat => (n : Int) := by
    intro l hl
    rw [List.map_map]
    exact List.map_congr_left fun p hp => wfind_wch p (hl p hp)
  have := congrArg (List.map wfind) h
  rw [e l hl, e k hk] at this
  exact cast_inj this
end Mine

namespace Mine
theorem dpm_callI {w : World} {A : Around} {E : Value → Shared → Prop} {s : Shared} {p : Program} {loose : List Str} {mg mb : Str → Option Value} {Q : Value → Shared → Prop}
    (C : Cx w p loose mg mb s.heap) (hd : A.depth < recursionLimit) {a b : Int} {t1 t2 : Tok} (c v : Nat) (ha : a = (c : Int)) (hb : b = (v : Int))
    (hret : ∀ h' tk t, Ext s.heap h' → Q (.int (dst c v : Nat) t) { s with heap := h', toks := tk }) :
   wpAny (model PySem.Challenge.rw_ai0020_01.row.prog w) A (call (.ref 116) [.int a t1, .int b t2]) Q E s := by
  subst ha hb
  exact dpm_call C hd hret
theorem find_p {prog : Program} {w : World} {A : Around} {E : Value → Shared → Prop} {s : Shared} {x z : Str} {t u : Tok} {i : Int} {Q : Value → Shared → Prop} (e : Txt.find x z = i) (h : Q (.int i s.toks) { s with toks := s.toks + 1 }) :
    wpAny (model prog w) A (call (.builtin "str.find") [.str x t, .str z u]) Q E s := SC.find (by rw [e]; exact h)
local macro_rules | `(tactic| walk_at "call builtin:str.find") => `(tactic| (refine Mine.find_p (by assumption) ?_))
local macro_rules | `(tactic| walk_at "ite") => `(tactic| (k_openite; first | (with_reducible refine ieq_t (by omega) ?_) | (with_reducible refine ieq_f (by omega) ?_) | (with_reducible refine ine_t (by omega) ?_) | (with_reducible refine ine_f (by omega) ?_)))
/-- how an `if` that turns the one cell ends -/
noncomputable def CEnd (g : Heap) (L : Addr) (m : Str → Option Value) (cc : Addr) (rest : List (Addr × Obj)) (n : Nat) (s : Shared) (fl : Flow) (s' : Shared) : Prop :=
  fl = .next ∧ ∃ h' tk o t, s' = { s with heap := h', toks := tk } ∧ o.data = Data.cell (some (.int (n : Int) t)) ∧ Fr g L h' m ∧ News g L h' ((cc, o) :: rest)
theorem CEnd.intro {g h' : Heap} {L cc : Addr} {m : Str → Option Value} {rest : List (Addr × Obj)} {n k : Nat} {s : Shared} {tk : Nat} {o : Obj} {t : Tok} (hk : n = k) (ho : o.data = Data.cell (some (.int (k : Int) t))) (F : Fr g L h' m) (N : News g L h' ((cc, o) :: rest)) :
    CEnd g L m cc rest n s .next { s with heap := h', toks := tk } := ⟨rfl, h', tk, o, t, rfl, hk ▸ ho, F, N⟩
theorem if_cell {M : Model} {A : Around} {E : Value → Shared → Prop} {s : Shared} {env : Env} {st : Stmt} {g : Heap} {L cc : Addr} {m : Str → Option Value} {o : Obj} {rest : List (Addr × Obj)} {Q : Flow → Shared → Prop} (_ : Fr g L s.heap m) (_ : News g L s.heap ((cc, o) :: rest)) (n : Nat)
    (h1 : wpAny M A (exec st env) (CEnd g L m cc rest n s) E s)
    (h2 : ∀ h' tk o t, o.data = Data.cell (some (.int (n : Int) t)) → Fr g L h' m → News g L h' ((cc, o) :: rest) → Q .next { s with heap := h', toks := tk }) : wpAny M A (exec st env) Q E s :=
  wpAny_mono h1 (fun _ _ ⟨e, h', tk, o, t, e', ho, F, N⟩ => by subst e e'; exact h2 h' tk o t ho F N) fun _ _ e => e
theorem chk_call {w : World} {A : Around} {E : Value → Shared → Prop} {s : Shared} {p : Program} {loose : List Str} {mg mb : Str → Option Value} {Q : Value → Shared → Prop}
    (C : Cx w p loose mg mb s.heap) (hh : A.handled = none) (hd : A.depth + 10 < recursionLimit) {tk : Tok} {ps : List Nat} (hps : ∀ p ∈ ps, p < 95) (hpl : ps.length ≤ 100)
    (hret : ∀ h' tk t, Ext s.heap h' → Q (.str (dtext ps) t) { s with heap := h', toks := tk }) :
   wpAny (model PySem.Challenge.rw_ai0020_01.row.prog w) A (call (.ref 121) [.str (wtext ps) tk]) Q E s := by
  refine enterC (binds := [(Str.ofString "desc", .str (wtext ps) tk)]) C (by (first | lia | omega)) rfl rfl (BindsTo.of_eq rfl) rfl (by decide) ?_ rfl rfl rfl
  intro h₁ L tk cells F N Y X T
  obtain ⟨o1, o2, rfl, ho1, ho2⟩ := CellsAre.two Y
  clear Y
  (try dsimp only)
  (repeat' ((( (fail_if_success (with_reducible show wpAny _ _ (exec (Stmt.For _ _ _ _ _) _) _ _ _)); (fail_if_success (with_reducible show wpAny _ _ (exec (Stmt.While _ _ _ _) _) _ _ _)); (fail_if_success (with_reducible show wpAny _ _ (pyIter _) _ _ _)); (fail_if_success (with_reducible show wpAny _ _ (eval (Expr.ListComp _ _ _ _) _) _ _ _)); (fail_if_success (with_reducible show wpAny _ _ (eval (Expr.GeneratorExp _ _ _ _) _) _ _ _)); (fail_if_success (with_reducible show wpAny _ _ (exec (Stmt.Assign _ (Expr.ListComp _ _ _ _) _) _) _ _ _)); (fail_if_success (with_reducible show wpAny _ _ (PySem.call (Value.ref _) _ _) _ _ _)); (fail_if_success (with_reducible show wpAny _ _ (PySem.call (Value.builtin "list.append") _) _ _ _)); (fail_if_success (with_reducible show wpAny _ _ (PySem.call (Value.builtin "any") _) _ _ _)); (fail_if_success (with_reducible show wpAny _ _ (PySem.call (Value.type "zip") _) _ _ _)); (fail_if_success (with_reducible show wpAny _ _ (PySem.call (Value.builtin "all") _) _ _ _)); (fail_if_success (with_reducible show InvEndN _ _ _ _ _ _ _)))); first | (dsimp only; walk1) | walk1))
  (rename Fr _ _ _ _ => F)
  (rename News _ _ _ _ => N)
  clear ho1 ho2
  (rename (Obj.data _ = Data.cell _) => hoc)
  refine For_invVF F (by rfl) (by rfl) ?_
  (repeat' ((( (fail_if_success (with_reducible show wpAny _ _ (exec (Stmt.For _ _ _ _ _) _) _ _ _)); (fail_if_success (with_reducible show wpAny _ _ (exec (Stmt.While _ _ _ _) _) _ _ _)); (fail_if_success (with_reducible show wpAny _ _ (pyIter _) _ _ _)); (fail_if_success (with_reducible show wpAny _ _ (eval (Expr.ListComp _ _ _ _) _) _ _ _)); (fail_if_success (with_reducible show wpAny _ _ (eval (Expr.GeneratorExp _ _ _ _) _) _ _ _)); (fail_if_success (with_reducible show wpAny _ _ (exec (Stmt.Assign _ (Expr.ListComp _ _ _ _) _) _) _ _ _)); (fail_if_success (with_reducible show wpAny _ _ (PySem.call (Value.ref _) _ _) _ _ _)); (fail_if_success (with_reducible show wpAny _ _ (PySem.call (Value.builtin "list.append") _) _ _ _)); (fail_if_success (with_reducible show wpAny _ _ (PySem.call (Value.builtin "any") _) _ _ _)); (fail_if_success (with_reducible show wpAny _ _ (PySem.call (Value.type "zip") _) _ _ _)); (fail_if_success (with_reducible show wpAny _ _ (PySem.call (Value.builtin "all") _) _ _ _)); (fail_if_success (with_reducible show InvEndN _ _ _ _ _ _ _)))); first | (dsimp only; walk1) | walk1))
  refine KStt.kst_text (σ := Obj × Int × Tok × Int × Tok × Int × Tok) (fun c => [(L + 1 + 1, c.1), (L + 1, _)]) (fun c => [(Str.ofString "cls", .int c.2.2.2.1 c.2.2.2.2.1), (Str.ofString "clscount", .int c.2.2.2.2.2.1 c.2.2.2.2.2.2)])
    (fun c => c.1.data = .cell (some (.int c.2.1 c.2.2.1))) [Str.ofString "pos"]
    (fun pre c => ∃ pn : List Nat, pre = (pn.map wch).map (fun n : Nat => (n : Int)) ∧ (∀ p ∈ pn, p < 95) ∧ c.2.1 = (((drun pn).1 : Nat) : Int) ∧ c.2.2.2.1 = (((drun pn).2.1 : Nat) : Int) ∧ c.2.2.2.2.2.1 = (((drun pn).2.2 : Nat) : Int) ∧ (drun pn).2.2 < 3)
    (_, 1, _, 0, _, 0, _) hh F N hoc (List.forall_mem_cons.mpr ⟨rfl, List.forall_mem_cons.mpr ⟨rfl, List.forall_mem_nil _⟩⟩) ⟨[], rfl, List.forall_mem_nil _, rfl, rfl, rfl, by decide⟩ ?_ ?_
  · clear F N hoc
    rintro ⟨oc, c, tc, cl, tcl, cn, tcn⟩ pre post n t u h tk own hsp hoff hoc ⟨pn, hpre, hpn, hc, hcl, hcn, hcn3⟩ F N
    dsimp only at hoc hc hcl hcn F N
    have hmem : ((n : Nat) : Int) ∈ KStt.codes (wtext ps) := by rw [hsp]; exact List.mem_append_right _ (.head _)
    obtain ⟨p, hp95, rfl⟩ : ∃ p, p < 95 ∧ n = wch p := by
      have h1 := hmem
      simp only [KStt.codes, wtext, List.mem_map] at h1
      obtain ⟨c', hc', e⟩ := h1
      obtain ⟨p, hp, rfl⟩ := hc'
      exact ⟨p, hps p hp, by (first | lia | omega)⟩
    have hfind : Txt.find (Str.ofString "0123456789()[],'/*abcdefgh@:$%{}IJKLMNOPQRSTUVWXYZ&+-.;<=>?!^_|~ijklmnopqrstuvwxyzABCDEFGH`#\"\\ ") ⟨#[wch p]⟩ = (p : Int) := wfind_wch p hp95
    generalize hS : drun pn = S at *
    obtain ⟨c0, l0, k0⟩ := S
    dsimp only at hc hcl hcn hcn3
    subst hc hcl hcn
    clear hret
    (repeat' ((( (fail_if_success (with_reducible show wpAny _ _ (exec (Stmt.For _ _ _ _ _) _) _ _ _)); (fail_if_success (with_reducible show wpAny _ _ (exec (Stmt.While _ _ _ _) _) _ _ _)); (fail_if_success (with_reducible show wpAny _ _ (pyIter _) _ _ _)); (fail_if_success (with_reducible show wpAny _ _ (eval (Expr.ListComp _ _ _ _) _) _ _ _)); (fail_if_success (with_reducible show wpAny _ _ (eval (Expr.GeneratorExp _ _ _ _) _) _ _ _)); (fail_if_success (with_reducible show wpAny _ _ (exec (Stmt.Assign _ (Expr.ListComp _ _ _ _) _) _) _ _ _)); (fail_if_success (with_reducible show wpAny _ _ (PySem.call (Value.ref _) _ _) _ _ _)); (fail_if_success (with_reducible show wpAny _ _ (PySem.call (Value.builtin "list.append") _) _ _ _)); (fail_if_success (with_reducible show wpAny _ _ (PySem.call (Value.builtin "any") _) _ _ _)); (fail_if_success (with_reducible show wpAny _ _ (PySem.call (Value.type "zip") _) _ _ _)); (fail_if_success (with_reducible show wpAny _ _ (PySem.call (Value.builtin "all") _) _ _ _)); (fail_if_success (with_reducible show InvEndN _ _ _ _ _ _ _)))); first | (dsimp only; walk1) | walk1))
    (rename Fr _ _ _ _ => F)
    (rename News _ _ _ _ => N)
    refine dpm_callI (c := c0) (v := p &&& 31) (by exact C.fr F) (by show A.depth + 1 < recursionLimit; (first | lia | omega)) rfl rfl ?_
    intro h2 tk2 t2 hk2
    have F1 := led_fr F hk2
    have N1 := led_keep N hk2
    clear F N
    dsimp only
    have hpn' : ∀ q ∈ pn ++ [p], q < 95 := by
      intro q hq
      rcases List.mem_append.mp hq with hq | hq
      · exact hpn q hq
      · rw [List.mem_singleton.mp hq]; exact hp95
    have hst : drun (pn ++ [p]) = dstep (c0, l0, k0) p := by rw [drun_snoc, hS]
    rcases Nat.lt_or_ge (k0 + 1) 3 with hk3 | hk3
    · have hst2 : drun (pn ++ [p]) = (dst c0 (p &&& 31), l0 * 3 + p >>> 5, k0 + 1) := by rw [hst]; unfold dstep; rw [if_neg (by show ¬ k0 + 1 = 3; (first | lia | omega))]
      (repeat' ((( (fail_if_success (with_reducible show wpAny _ _ (exec (Stmt.For _ _ _ _ _) _) _ _ _)); (fail_if_success (with_reducible show wpAny _ _ (exec (Stmt.While _ _ _ _) _) _ _ _)); (fail_if_success (with_reducible show wpAny _ _ (pyIter _) _ _ _)); (fail_if_success (with_reducible show wpAny _ _ (eval (Expr.ListComp _ _ _ _) _) _ _ _)); (fail_if_success (with_reducible show wpAny _ _ (eval (Expr.GeneratorExp _ _ _ _) _) _ _ _)); (fail_if_success (with_reducible show wpAny _ _ (exec (Stmt.Assign _ (Expr.ListComp _ _ _ _) _) _) _ _ _)); (fail_if_success (with_reducible show wpAny _ _ (PySem.call (Value.ref _) _ _) _ _ _)); (fail_if_success (with_reducible show wpAny _ _ (PySem.call (Value.builtin "list.append") _) _ _ _)); (fail_if_success (with_reducible show wpAny _ _ (PySem.call (Value.builtin "any") _) _ _ _)); (fail_if_success (with_reducible show wpAny _ _ (PySem.call (Value.type "zip") _) _ _ _)); (fail_if_success (with_reducible show wpAny _ _ (PySem.call (Value.builtin "all") _) _ _ _)); (fail_if_success (with_reducible show InvEndN _ _ _ _ _ _ _)))); first | (dsimp only; walk1) | walk1))
      (rename Fr _ _ _ _ => F)
      (rename News _ _ _ _ => N)
      (rename (Obj.data _ = Data.cell (some (Value.int _ _))) => hd')
      refine kst_end (_, _, _, _, _, _, _) F N (by first | kst_in | kst_inAny) (by first | (intro p hp; kst_mem) | kst_anyIn) (by rfl) hd' (List.forall_mem_cons.mpr ⟨rfl, List.forall_mem_cons.mpr ⟨rfl, List.forall_mem_nil _⟩⟩) (by (( (intro z h1 h2 h3); (simp only [List.forall_mem_cons, List.not_mem_nil, false_implies, implies_true, and_true, ne_eq] at h1 h2); (have h4 := h3); (simp only [List.contains_cons, List.contains_nil, Bool.or_false, Bool.or_eq_false_iff, beq_eq_false_iff_ne, ne_eq] at h4); (first | rfl | (simp only [kstB, h1, h2, h3, h4, if_false, ite_false, Bool.false_eq_true, not_false_eq_true]; done) | (simp [kstB, h1, h2, h3, h4]; done))))) ⟨pn ++ [p], by rw [hpre]; simp, hpn', ?_, ?_, ?_, ?_⟩
      · rw [hst2]
      · rw [hst2]; rfl
      · rw [hst2]; rfl
      · rw [hst2]; first | exact hk3 | exact (by decide : (0 : Nat) < 3)
    · have hst2 : drun (pn ++ [p]) = (dst (dst c0 (p &&& 31)) (l0 * 3 + p >>> 5), 0, 0) := by rw [hst]; unfold dstep; rw [if_pos (by show k0 + 1 = 3; (first | lia | omega))]
      (repeat' ((( (fail_if_success (with_reducible show wpAny _ _ (exec (Stmt.For _ _ _ _ _) _) _ _ _)); (fail_if_success (with_reducible show wpAny _ _ (exec (Stmt.While _ _ _ _) _) _ _ _)); (fail_if_success (with_reducible show wpAny _ _ (pyIter _) _ _ _)); (fail_if_success (with_reducible show wpAny _ _ (eval (Expr.ListComp _ _ _ _) _) _ _ _)); (fail_if_success (with_reducible show wpAny _ _ (eval (Expr.GeneratorExp _ _ _ _) _) _ _ _)); (fail_if_success (with_reducible show wpAny _ _ (exec (Stmt.Assign _ (Expr.ListComp _ _ _ _) _) _) _ _ _)); (fail_if_success (with_reducible show wpAny _ _ (PySem.call (Value.ref _) _ _) _ _ _)); (fail_if_success (with_reducible show wpAny _ _ (PySem.call (Value.builtin "list.append") _) _ _ _)); (fail_if_success (with_reducible show wpAny _ _ (PySem.call (Value.builtin "any") _) _ _ _)); (fail_if_success (with_reducible show wpAny _ _ (PySem.call (Value.type "zip") _) _ _ _)); (fail_if_success (with_reducible show wpAny _ _ (PySem.call (Value.builtin "all") _) _ _ _)); (fail_if_success (with_reducible show InvEndN _ _ _ _ _ _ _)))); first | (dsimp only; walk1) | walk1))
      (rename Fr _ _ _ _ => F)
      (rename News _ _ _ _ => N)
      refine dpm_callI (c := dst c0 (p &&& 31)) (v := l0 * 3 + p >>> 5) (by exact C.fr F) (by show A.depth + 1 < recursionLimit; (first | lia | omega)) rfl (by (first | lia | omega)) ?_
      intro h3 tk3 t3 hk3'
      have F1 := led_fr F hk3'
      have N1 := led_keep N hk3'
      clear F N
      dsimp only
      (repeat' ((( (fail_if_success (with_reducible show wpAny _ _ (exec (Stmt.For _ _ _ _ _) _) _ _ _)); (fail_if_success (with_reducible show wpAny _ _ (exec (Stmt.While _ _ _ _) _) _ _ _)); (fail_if_success (with_reducible show wpAny _ _ (pyIter _) _ _ _)); (fail_if_success (with_reducible show wpAny _ _ (eval (Expr.ListComp _ _ _ _) _) _ _ _)); (fail_if_success (with_reducible show wpAny _ _ (eval (Expr.GeneratorExp _ _ _ _) _) _ _ _)); (fail_if_success (with_reducible show wpAny _ _ (exec (Stmt.Assign _ (Expr.ListComp _ _ _ _) _) _) _ _ _)); (fail_if_success (with_reducible show wpAny _ _ (PySem.call (Value.ref _) _ _) _ _ _)); (fail_if_success (with_reducible show wpAny _ _ (PySem.call (Value.builtin "list.append") _) _ _ _)); (fail_if_success (with_reducible show wpAny _ _ (PySem.call (Value.builtin "any") _) _ _ _)); (fail_if_success (with_reducible show wpAny _ _ (PySem.call (Value.type "zip") _) _ _ _)); (fail_if_success (with_reducible show wpAny _ _ (PySem.call (Value.builtin "all") _) _ _ _)); (fail_if_success (with_reducible show InvEndN _ _ _ _ _ _ _)))); first | (dsimp only; walk1) | walk1))
      (rename Fr _ _ _ _ => F)
      (rename News _ _ _ _ => N)
      (rename (Obj.data _ = Data.cell (some (Value.int _ _))) => hd')
      refine kst_end (_, _, _, _, _, _, _) F N (by first | kst_in | kst_inAny) (by first | (intro p hp; kst_mem) | kst_anyIn) (by rfl) hd' (List.forall_mem_cons.mpr ⟨rfl, List.forall_mem_cons.mpr ⟨rfl, List.forall_mem_nil _⟩⟩) (by (( (intro z h1 h2 h3); (simp only [List.forall_mem_cons, List.not_mem_nil, false_implies, implies_true, and_true, ne_eq] at h1 h2); (have h4 := h3); (simp only [List.contains_cons, List.contains_nil, Bool.or_false, Bool.or_eq_false_iff, beq_eq_false_iff_ne, ne_eq] at h4); (first | rfl | (simp only [kstB, h1, h2, h3, h4, if_false, ite_false, Bool.false_eq_true, not_false_eq_true]; done) | (simp [kstB, h1, h2, h3, h4]; done))))) ⟨pn ++ [p], by rw [hpre]; simp, hpn', ?_, ?_, ?_, ?_⟩
      · rw [hst2]
      · rw [hst2]; rfl
      · rw [hst2]; rfl
      · rw [hst2]; first | exact hk3 | exact (by decide : (0 : Nat) < 3)
  · clear F N hoc
    rintro ⟨oc, c, tc, cl, tcl, cn, tcn⟩ u h tk hoc ⟨pn, hpre, hpn, hc, hcl, hcn, hcn3⟩ F N
    have hpp : pn = ps := by
      have h1 : KStt.codes (wtext ps) = (ps.map wch).map (fun n : Nat => (n : Int)) := by simp [KStt.codes, wtext]
      rw [h1] at hpre
      exact (wch_inj hps hpn (cast_inj hpre)).symm
    subst hpp
    dsimp only at hoc hc hcl hcn F N
    have hfin : dfin pn = if (drun pn).2.2 > 0 then dst (drun pn).1 (drun pn).2.1 else (drun pn).1 := rfl
    generalize hS : drun pn = S at *
    obtain ⟨c0, l0, k0⟩ := S
    dsimp only at hc hcl hcn hcn3 hfin
    subst hc hcl hcn
    (repeat' ((((fail_if_success (with_reducible show wpAny _ _ (exec (Stmt.If _ _ _ _) _) _ _ _)); (fail_if_success (with_reducible show CEnd _ _ _ _ _ _ _ _ _)); ((( (fail_if_success (with_reducible show wpAny _ _ (exec (Stmt.For _ _ _ _ _) _) _ _ _)); (fail_if_success (with_reducible show wpAny _ _ (exec (Stmt.While _ _ _ _) _) _ _ _)); (fail_if_success (with_reducible show wpAny _ _ (pyIter _) _ _ _)); (fail_if_success (with_reducible show wpAny _ _ (eval (Expr.ListComp _ _ _ _) _) _ _ _)); (fail_if_success (with_reducible show wpAny _ _ (eval (Expr.GeneratorExp _ _ _ _) _) _ _ _)); (fail_if_success (with_reducible show wpAny _ _ (exec (Stmt.Assign _ (Expr.ListComp _ _ _ _) _) _) _ _ _)); (fail_if_success (with_reducible show wpAny _ _ (PySem.call (Value.ref _) _ _) _ _ _)); (fail_if_success (with_reducible show wpAny _ _ (PySem.call (Value.builtin "list.append") _) _ _ _)); (fail_if_success (with_reducible show wpAny _ _ (PySem.call (Value.builtin "any") _) _ _ _)); (fail_if_success (with_reducible show wpAny _ _ (PySem.call (Value.type "zip") _) _ _ _)); (fail_if_success (with_reducible show wpAny _ _ (PySem.call (Value.builtin "all") _) _ _ _)); (fail_if_success (with_reducible show InvEndN _ _ _ _ _ _ _))))))); first | (dsimp only; walk1) | walk1))
    refine if_cell F N (dfin pn) ?_ ?_
    · walk1
      (repeat' ((((fail_if_success (with_reducible show wpAny _ _ (exec (Stmt.If _ _ _ _) _) _ _ _)); (fail_if_success (with_reducible show CEnd _ _ _ _ _ _ _ _ _)); ((( (fail_if_success (with_reducible show wpAny _ _ (exec (Stmt.For _ _ _ _ _) _) _ _ _)); (fail_if_success (with_reducible show wpAny _ _ (exec (Stmt.While _ _ _ _) _) _ _ _)); (fail_if_success (with_reducible show wpAny _ _ (pyIter _) _ _ _)); (fail_if_success (with_reducible show wpAny _ _ (eval (Expr.ListComp _ _ _ _) _) _ _ _)); (fail_if_success (with_reducible show wpAny _ _ (eval (Expr.GeneratorExp _ _ _ _) _) _ _ _)); (fail_if_success (with_reducible show wpAny _ _ (exec (Stmt.Assign _ (Expr.ListComp _ _ _ _) _) _) _ _ _)); (fail_if_success (with_reducible show wpAny _ _ (PySem.call (Value.ref _) _ _) _ _ _)); (fail_if_success (with_reducible show wpAny _ _ (PySem.call (Value.builtin "list.append") _) _ _ _)); (fail_if_success (with_reducible show wpAny _ _ (PySem.call (Value.builtin "any") _) _ _ _)); (fail_if_success (with_reducible show wpAny _ _ (PySem.call (Value.type "zip") _) _ _ _)); (fail_if_success (with_reducible show wpAny _ _ (PySem.call (Value.builtin "all") _) _ _ _)); (fail_if_success (with_reducible show InvEndN _ _ _ _ _ _ _))))))); first | (dsimp only; walk1) | walk1))
      · (rename Fr _ _ _ _ => F)
        (rename News _ _ _ _ => N)
        (rename ((0 : Int) < _) => hk0)
        refine dpm_callI (c := c0) (v := l0) (by exact C.fr F) (by show A.depth + 1 < recursionLimit; (first | lia | omega)) rfl rfl ?_
        intro h3 tk3 t3 hk3'
        have F1 := led_fr F hk3'
        have N1 := led_keep N hk3'
        clear F N
        dsimp only
        (repeat' ((((fail_if_success (with_reducible show wpAny _ _ (exec (Stmt.If _ _ _ _) _) _ _ _)); (fail_if_success (with_reducible show CEnd _ _ _ _ _ _ _ _ _)); ((( (fail_if_success (with_reducible show wpAny _ _ (exec (Stmt.For _ _ _ _ _) _) _ _ _)); (fail_if_success (with_reducible show wpAny _ _ (exec (Stmt.While _ _ _ _) _) _ _ _)); (fail_if_success (with_reducible show wpAny _ _ (pyIter _) _ _ _)); (fail_if_success (with_reducible show wpAny _ _ (eval (Expr.ListComp _ _ _ _) _) _ _ _)); (fail_if_success (with_reducible show wpAny _ _ (eval (Expr.GeneratorExp _ _ _ _) _) _ _ _)); (fail_if_success (with_reducible show wpAny _ _ (exec (Stmt.Assign _ (Expr.ListComp _ _ _ _) _) _) _ _ _)); (fail_if_success (with_reducible show wpAny _ _ (PySem.call (Value.ref _) _ _) _ _ _)); (fail_if_success (with_reducible show wpAny _ _ (PySem.call (Value.builtin "list.append") _) _ _ _)); (fail_if_success (with_reducible show wpAny _ _ (PySem.call (Value.builtin "any") _) _ _ _)); (fail_if_success (with_reducible show wpAny _ _ (PySem.call (Value.type "zip") _) _ _ _)); (fail_if_success (with_reducible show wpAny _ _ (PySem.call (Value.builtin "all") _) _ _ _)); (fail_if_success (with_reducible show InvEndN _ _ _ _ _ _ _))))))); first | (dsimp only; walk1) | walk1))
        (rename Fr _ _ _ _ => F)
        (rename News _ _ _ _ => N)
        (rename (Obj.data _ = Data.cell (some (Value.int _ _))) => hd')
        exact CEnd.intro (by rw [hfin, if_pos (by (first | lia | omega))]) hd' F N
      · (rename (¬ (0 : Int) < _) => hk0)
        exact CEnd.intro (by rw [hfin, if_neg (by (first | lia | omega))]) hoc F N
    · clear F N hoc
      intro h2 tk2 oc2 t2 hoc F N
      dsimp only
      (repeat' ((((fail_if_success (with_reducible show wpAny _ _ (exec (Stmt.If _ _ _ _) _) _ _ _)); (fail_if_success (with_reducible show CEnd _ _ _ _ _ _ _ _ _)); ((( (fail_if_success (with_reducible show wpAny _ _ (exec (Stmt.For _ _ _ _ _) _) _ _ _)); (fail_if_success (with_reducible show wpAny _ _ (exec (Stmt.While _ _ _ _) _) _ _ _)); (fail_if_success (with_reducible show wpAny _ _ (pyIter _) _ _ _)); (fail_if_success (with_reducible show wpAny _ _ (eval (Expr.ListComp _ _ _ _) _) _ _ _)); (fail_if_success (with_reducible show wpAny _ _ (eval (Expr.GeneratorExp _ _ _ _) _) _ _ _)); (fail_if_success (with_reducible show wpAny _ _ (exec (Stmt.Assign _ (Expr.ListComp _ _ _ _) _) _) _ _ _)); (fail_if_success (with_reducible show wpAny _ _ (PySem.call (Value.ref _) _ _) _ _ _)); (fail_if_success (with_reducible show wpAny _ _ (PySem.call (Value.builtin "list.append") _) _ _ _)); (fail_if_success (with_reducible show wpAny _ _ (PySem.call (Value.builtin "any") _) _ _ _)); (fail_if_success (with_reducible show wpAny _ _ (PySem.call (Value.type "zip") _) _ _ _)); (fail_if_success (with_reducible show wpAny _ _ (PySem.call (Value.builtin "all") _) _ _ _)); (fail_if_success (with_reducible show InvEndN _ _ _ _ _ _ _))))))); first | (dsimp only; walk1) | walk1))
      (rename Fr _ _ _ _ => F)
      (rename News _ _ _ _ => N)
      refine For_invVF F (by rfl) (by rfl) ?_
      (repeat' ((( (fail_if_success (with_reducible show wpAny _ _ (exec (Stmt.For _ _ _ _ _) _) _ _ _)); (fail_if_success (with_reducible show wpAny _ _ (exec (Stmt.While _ _ _ _) _) _ _ _)); (fail_if_success (with_reducible show wpAny _ _ (pyIter _) _ _ _)); (fail_if_success (with_reducible show wpAny _ _ (eval (Expr.ListComp _ _ _ _) _) _ _ _)); (fail_if_success (with_reducible show wpAny _ _ (eval (Expr.GeneratorExp _ _ _ _) _) _ _ _)); (fail_if_success (with_reducible show wpAny _ _ (exec (Stmt.Assign _ (Expr.ListComp _ _ _ _) _) _) _ _ _)); (fail_if_success (with_reducible show wpAny _ _ (PySem.call (Value.ref _) _ _) _ _ _)); (fail_if_success (with_reducible show wpAny _ _ (PySem.call (Value.builtin "list.append") _) _ _ _)); (fail_if_success (with_reducible show wpAny _ _ (PySem.call (Value.builtin "any") _) _ _ _)); (fail_if_success (with_reducible show wpAny _ _ (PySem.call (Value.type "zip") _) _ _ _)); (fail_if_success (with_reducible show wpAny _ _ (PySem.call (Value.builtin "all") _) _ _ _)); (fail_if_success (with_reducible show InvEndN _ _ _ _ _ _ _)))); first | (dsimp only; walk1) | walk1))
      (rename IsRange _ _ _ _ _ _ _ _ => rg)
      try clear N
      try clear F
      (rename Fr _ _ _ _ => F)
      (rename News _ _ _ _ => N)
      refine kst_range (n := 8) (σ := Obj × Int × Tok) (fun c => [(L + 1 + 1, c.1), (L + 1, _)]) (fun _ => []) (fun c => c.1.data = .cell (some (.int c.2.1 c.2.2))) []
        (fun pre c => c.2.1 = (((List.replicate pre.length 0).foldl dst (dfin pn) : Nat) : Int)) (oc2, _, t2) hh rg (by decide) (by rfl) F N hoc (List.forall_mem_nil _) rfl ?_ ?_
      · clear F N rg hoc
        rintro ⟨oc3, c3, tc3⟩ pre3 k3 t3 u3 h3 tk3 own3 hk3 hlt3 hoff3 hoc3 hc3 F N
        dsimp only at hoc3 hc3 F N
        subst hc3
        (repeat' ((( (fail_if_success (with_reducible show wpAny _ _ (exec (Stmt.For _ _ _ _ _) _) _ _ _)); (fail_if_success (with_reducible show wpAny _ _ (exec (Stmt.While _ _ _ _) _) _ _ _)); (fail_if_success (with_reducible show wpAny _ _ (pyIter _) _ _ _)); (fail_if_success (with_reducible show wpAny _ _ (eval (Expr.ListComp _ _ _ _) _) _ _ _)); (fail_if_success (with_reducible show wpAny _ _ (eval (Expr.GeneratorExp _ _ _ _) _) _ _ _)); (fail_if_success (with_reducible show wpAny _ _ (exec (Stmt.Assign _ (Expr.ListComp _ _ _ _) _) _) _ _ _)); (fail_if_success (with_reducible show wpAny _ _ (PySem.call (Value.ref _) _ _) _ _ _)); (fail_if_success (with_reducible show wpAny _ _ (PySem.call (Value.builtin "list.append") _) _ _ _)); (fail_if_success (with_reducible show wpAny _ _ (PySem.call (Value.builtin "any") _) _ _ _)); (fail_if_success (with_reducible show wpAny _ _ (PySem.call (Value.type "zip") _) _ _ _)); (fail_if_success (with_reducible show wpAny _ _ (PySem.call (Value.builtin "all") _) _ _ _)); (fail_if_success (with_reducible show InvEndN _ _ _ _ _ _ _)))); first | (dsimp only; walk1) | walk1))
        (rename Fr _ _ _ _ => F)
        (rename News _ _ _ _ => N)
        refine dpm_callI (c := (List.replicate pre3.length 0).foldl dst (dfin pn)) (v := 0) (by exact C.fr F) (by show A.depth + 1 < recursionLimit; (first | lia | omega)) rfl rfl ?_
        intro h4 tk4 t4 hk4
        have F1 := led_fr F hk4
        have N1 := led_keep N hk4
        clear F N
        dsimp only
        (repeat' ((( (fail_if_success (with_reducible show wpAny _ _ (exec (Stmt.For _ _ _ _ _) _) _ _ _)); (fail_if_success (with_reducible show wpAny _ _ (exec (Stmt.While _ _ _ _) _) _ _ _)); (fail_if_success (with_reducible show wpAny _ _ (pyIter _) _ _ _)); (fail_if_success (with_reducible show wpAny _ _ (eval (Expr.ListComp _ _ _ _) _) _ _ _)); (fail_if_success (with_reducible show wpAny _ _ (eval (Expr.GeneratorExp _ _ _ _) _) _ _ _)); (fail_if_success (with_reducible show wpAny _ _ (exec (Stmt.Assign _ (Expr.ListComp _ _ _ _) _) _) _ _ _)); (fail_if_success (with_reducible show wpAny _ _ (PySem.call (Value.ref _) _ _) _ _ _)); (fail_if_success (with_reducible show wpAny _ _ (PySem.call (Value.builtin "list.append") _) _ _ _)); (fail_if_success (with_reducible show wpAny _ _ (PySem.call (Value.builtin "any") _) _ _ _)); (fail_if_success (with_reducible show wpAny _ _ (PySem.call (Value.type "zip") _) _ _ _)); (fail_if_success (with_reducible show wpAny _ _ (PySem.call (Value.builtin "all") _) _ _ _)); (fail_if_success (with_reducible show InvEndN _ _ _ _ _ _ _)))); first | (dsimp only; walk1) | walk1))
        (rename Fr _ _ _ _ => F)
        (rename News _ _ _ _ => N)
        (rename (Obj.data _ = Data.cell (some (Value.int _ _))) => hd')
        refine kst_end (_, _, _) F N (by first | kst_in | kst_inAny) (by first | (intro p hp; kst_mem) | kst_anyIn) (by rfl) hd' (List.forall_mem_nil _) (by (( (intro z h1 h2 h3); (simp only [List.forall_mem_cons, List.not_mem_nil, false_implies, implies_true, and_true, ne_eq] at h1 h2); (have h4 := h3); (simp only [List.contains_cons, List.contains_nil, Bool.or_false, Bool.or_eq_false_iff, beq_eq_false_iff_ne, ne_eq] at h4); (first | rfl | (simp only [kstB, h1, h2, h3, h4, if_false, ite_false, Bool.false_eq_true, not_false_eq_true]; done) | (simp [kstB, h1, h2, h3, h4]; done))))) ?_
        rw [List.length_append]
        show _ = (((List.replicate (pre3.length + 1) 0).foldl dst (dfin pn) : Nat) : Int)
        rw [List.replicate_succ', List.foldl_append]
        rfl
      · clear F N rg hoc
        rintro ⟨oc3, c3, tc3⟩ u3 h3 tk3 hoc3 hc3 F N
        dsimp only at hoc3 hc3 F N
        have hc3' : c3 = (([0, 0, 0, 0, 0, 0, 0, 0].foldl dst (dfin pn) : Nat) : Int) := hc3
        have hds : dsum pn = ([0, 0, 0, 0, 0, 0, 0, 0].foldl dst (dfin pn)) ^^^ 1 := rfl
        generalize [0, 0, 0, 0, 0, 0, 0, 0].foldl dst (dfin pn) = G at hc3' hds
        subst hc3'
        clear hc3
        (repeat' ((( (fail_if_success (with_reducible show wpAny _ _ (exec (Stmt.For _ _ _ _ _) _) _ _ _)); (fail_if_success (with_reducible show wpAny _ _ (exec (Stmt.While _ _ _ _) _) _ _ _)); (fail_if_success (with_reducible show wpAny _ _ (pyIter _) _ _ _)); (fail_if_success (with_reducible show wpAny _ _ (eval (Expr.ListComp _ _ _ _) _) _ _ _)); (fail_if_success (with_reducible show wpAny _ _ (eval (Expr.GeneratorExp _ _ _ _) _) _ _ _)); (fail_if_success (with_reducible show wpAny _ _ (exec (Stmt.Assign _ (Expr.ListComp _ _ _ _) _) _) _ _ _)); (fail_if_success (with_reducible show wpAny _ _ (PySem.call (Value.ref _) _ _) _ _ _)); (fail_if_success (with_reducible show wpAny _ _ (PySem.call (Value.builtin "list.append") _) _ _ _)); (fail_if_success (with_reducible show wpAny _ _ (PySem.call (Value.builtin "any") _) _ _ _)); (fail_if_success (with_reducible show wpAny _ _ (PySem.call (Value.type "zip") _) _ _ _)); (fail_if_success (with_reducible show wpAny _ _ (PySem.call (Value.builtin "all") _) _ _ _)); (fail_if_success (with_reducible show InvEndN _ _ _ _ _ _ _)))); first | (dsimp only; walk1) | walk1))
        refine Assign_at (fun _ => true) (FN (fun k y => ∃ t, y = .str (one1 chr32 ((dsum pn >>> (5 * (7 - k))) &&& 31)) t)) (by with_unfolding_all rfl) (by with_unfolding_all rfl) (by decide) (by rfl) (by decide) (by rfl) (by rfl) (by rfl) ?_ (fun _ => rfl)
        (repeat' ((( (fail_if_success (with_reducible show wpAny _ _ (exec (Stmt.For _ _ _ _ _) _) _ _ _)); (fail_if_success (with_reducible show wpAny _ _ (exec (Stmt.While _ _ _ _) _) _ _ _)); (fail_if_success (with_reducible show wpAny _ _ (pyIter _) _ _ _)); (fail_if_success (with_reducible show wpAny _ _ (eval (Expr.ListComp _ _ _ _) _) _ _ _)); (fail_if_success (with_reducible show wpAny _ _ (eval (Expr.GeneratorExp _ _ _ _) _) _ _ _)); (fail_if_success (with_reducible show wpAny _ _ (exec (Stmt.Assign _ (Expr.ListComp _ _ _ _) _) _) _ _ _)); (fail_if_success (with_reducible show wpAny _ _ (PySem.call (Value.ref _) _ _) _ _ _)); (fail_if_success (with_reducible show wpAny _ _ (PySem.call (Value.builtin "list.append") _) _ _ _)); (fail_if_success (with_reducible show wpAny _ _ (PySem.call (Value.builtin "any") _) _ _ _)); (fail_if_success (with_reducible show wpAny _ _ (PySem.call (Value.type "zip") _) _ _ _)); (fail_if_success (with_reducible show wpAny _ _ (PySem.call (Value.builtin "all") _) _ _ _)); (fail_if_success (with_reducible show InvEndN _ _ _ _ _ _ _)))); first | (dsimp only; walk1) | walk1))
        (rename IsRange _ _ _ _ _ _ _ _ => rg)
        (((rename Fr _ _ _ _ => uF); (have uX1 := Frag.In.keeps (by assumption) uF.keep); (have uT1 := TopRead.keeps (by assumption) uF.keep)))
        (rename Fr _ _ _ _ => F)
        (rename News _ _ _ _ => N)
        have hc4 := (N _ (.head _)).1
        have hc5 := (N _ (.tail _ (.head _))).1
        refine pi_range0 (n := 8) (fun k y => ∃ t, y = .str (one1 chr32 ((dsum pn >>> (5 * (7 - k))) &&& 31)) t) hh rg (by decide) ?_ (fun it o X => core_ac F N X ?_)
        · intro C k u s₃ m₃ E' hk8 F N hm
          clear hret
          have e5 : (5 * (7 - (k : Int))).toNat = 5 * (7 - k) := by (first | lia | omega)
          have hl31 : (G ^^^ 1) >>> (5 * (7 - (k : Int))).toNat &&& 31 < 32 := Nat.lt_of_le_of_lt Nat.and_le_right (by decide)
          (repeat' ((( (fail_if_success (with_reducible show wpAny _ _ (exec (Stmt.For _ _ _ _ _) _) _ _ _)); (fail_if_success (with_reducible show wpAny _ _ (exec (Stmt.While _ _ _ _) _) _ _ _)); (fail_if_success (with_reducible show wpAny _ _ (pyIter _) _ _ _)); (fail_if_success (with_reducible show wpAny _ _ (eval (Expr.ListComp _ _ _ _) _) _ _ _)); (fail_if_success (with_reducible show wpAny _ _ (eval (Expr.GeneratorExp _ _ _ _) _) _ _ _)); (fail_if_success (with_reducible show wpAny _ _ (exec (Stmt.Assign _ (Expr.ListComp _ _ _ _) _) _) _ _ _)); (fail_if_success (with_reducible show wpAny _ _ (PySem.call (Value.ref _) _ _) _ _ _)); (fail_if_success (with_reducible show wpAny _ _ (PySem.call (Value.builtin "list.append") _) _ _ _)); (fail_if_success (with_reducible show wpAny _ _ (PySem.call (Value.builtin "any") _) _ _ _)); (fail_if_success (with_reducible show wpAny _ _ (PySem.call (Value.type "zip") _) _ _ _)); (fail_if_success (with_reducible show wpAny _ _ (PySem.call (Value.builtin "all") _) _ _ _)); (fail_if_success (with_reducible show InvEndN _ _ _ _ _ _ _)))); first | (dsimp only; walk1) | walk1))
          · rw [hds, e5]
            rw [e5] at hl31
            exact congrArg (fun q => Value.str q _) (item_one (Str.ofString "qpzry9x8gf2tvdw0s3jn54khce6mua7l") _ hl31)
          · exact ⟨_, _, rfl, fun _ _ e => e⟩
        · clear F N
          intro D' h'' tk' ys' n' hD0' hA F N hk'
          (repeat' ((( (fail_if_success (with_reducible show wpAny _ _ (exec (Stmt.For _ _ _ _ _) _) _ _ _)); (fail_if_success (with_reducible show wpAny _ _ (exec (Stmt.While _ _ _ _) _) _ _ _)); (fail_if_success (with_reducible show wpAny _ _ (pyIter _) _ _ _)); (fail_if_success (with_reducible show wpAny _ _ (eval (Expr.ListComp _ _ _ _) _) _ _ _)); (fail_if_success (with_reducible show wpAny _ _ (eval (Expr.GeneratorExp _ _ _ _) _) _ _ _)); (fail_if_success (with_reducible show wpAny _ _ (exec (Stmt.Assign _ (Expr.ListComp _ _ _ _) _) _) _ _ _)); (fail_if_success (with_reducible show wpAny _ _ (PySem.call (Value.ref _) _ _) _ _ _)); (fail_if_success (with_reducible show wpAny _ _ (PySem.call (Value.builtin "list.append") _) _ _ _)); (fail_if_success (with_reducible show wpAny _ _ (PySem.call (Value.builtin "any") _) _ _ _)); (fail_if_success (with_reducible show wpAny _ _ (PySem.call (Value.type "zip") _) _ _ _)); (fail_if_success (with_reducible show wpAny _ _ (PySem.call (Value.builtin "all") _) _ _ _)); (fail_if_success (with_reducible show InvEndN _ _ _ _ _ _ _)))); first | (dsimp only; walk1) | walk1))
          (rename Fr _ _ _ _ => F)
          (rename News _ _ _ _ => N)
          refine join_chars (f := chr32) (ns := (List.range 8).map fun k => (dsum pn >>> (5 * (7 - k))) &&& 31) (by exact ⟨_, (N _ (.head _)).1, rfl, _, rfl⟩) (All2.strs (All2.map (All2.map hA))) (by simp) ?_
          intro t5 k5
          dsimp only
          (repeat' ((( (fail_if_success (with_reducible show wpAny _ _ (exec (Stmt.For _ _ _ _ _) _) _ _ _)); (fail_if_success (with_reducible show wpAny _ _ (exec (Stmt.While _ _ _ _) _) _ _ _)); (fail_if_success (with_reducible show wpAny _ _ (pyIter _) _ _ _)); (fail_if_success (with_reducible show wpAny _ _ (eval (Expr.ListComp _ _ _ _) _) _ _ _)); (fail_if_success (with_reducible show wpAny _ _ (eval (Expr.GeneratorExp _ _ _ _) _) _ _ _)); (fail_if_success (with_reducible show wpAny _ _ (exec (Stmt.Assign _ (Expr.ListComp _ _ _ _) _) _) _ _ _)); (fail_if_success (with_reducible show wpAny _ _ (PySem.call (Value.ref _) _ _) _ _ _)); (fail_if_success (with_reducible show wpAny _ _ (PySem.call (Value.builtin "list.append") _) _ _ _)); (fail_if_success (with_reducible show wpAny _ _ (PySem.call (Value.builtin "any") _) _ _ _)); (fail_if_success (with_reducible show wpAny _ _ (PySem.call (Value.type "zip") _) _ _ _)); (fail_if_success (with_reducible show wpAny _ _ (PySem.call (Value.builtin "all") _) _ _ _)); (fail_if_success (with_reducible show InvEndN _ _ _ _ _ _ _)))); first | (dsimp only; walk1) | walk1))
          rw [List.map_map]
          exact hret _ _ _ F.keep
end Mine

namespace Mine
noncomputable def sym3 (l : List Nat) : List Nat := l.map (· % 32) ++ [l.foldl (fun c p => 3 * c + p / 32) 0]
noncomputable def symsTo (ps : List Nat) (i : Nat) : List Nat := (List.range i).flatMap fun j => sym3 ((ps.drop (3 * j)).take 3)
noncomputable def syms (ps : List Nat) : List Nat := symsTo ps ((ps.length + 2) / 3)
theorem small3 : ∀ m : Nat, m < 21 → Builtin.Range.small 0 (m : Int) 3 = true := by decide
theorem size3 : ∀ m : Nat, m < 21 → Builtin.Range.rangeSize 0 (m : Int) 3 = (((m + 2) / 3 : Nat) : Int) := by decide
theorem symsTo_succ (ps : List Nat) (i : Nat) : symsTo ps (i + 1) = symsTo ps i ++ sym3 ((ps.drop (3 * i)).take 3) := by
  unfold symsTo
  rw [List.range_succ, List.flatMap_append]
  simp
theorem sym3_len (l : List Nat) : (sym3 l).length = l.length + 1 := by simp [sym3]
theorem symsTo_len (ps : List Nat) (i : Nat) : (symsTo ps i).length ≤ 4 * i := by
  induction i with
  | zero => exact Nat.zero_le _
  | succ i ih => rw [symsTo_succ, List.length_append, sym3_len]; have := List.length_take_le 3 (ps.drop (3 * i)); (first | lia | omega)
theorem part_nats {ws : List Value} {ps : List Nat} {i : Nat} (h : IntsAre ws (List.take (min ((i : Int) * 3 + 3).toNat (ps.map fun n : Nat => (n : Int)).length - ((i : Int) * 3).toNat) (List.drop ((i : Int) * 3).toNat (ps.map fun n : Nat => (n : Int))))) : NatsAre ws ((ps.drop (3 * i)).take 3) := by
  show IntsAre _ _
  have e1 : ((i : Int) * 3).toNat = 3 * i := by (first | lia | omega)
  have e2 : ((i : Int) * 3 + 3).toNat = 3 * i + 3 := by (first | lia | omega)
  rw [e1, e2] at h
  rw [List.map_take, List.map_drop]
  have e3 : List.take (min (3 * i + 3) (ps.map fun n : Nat => (n : Int)).length - 3 * i) (List.drop (3 * i) (ps.map fun n : Nat => (n : Int))) = List.take 3 (List.drop (3 * i) (ps.map fun n : Nat => (n : Int))) := by
    rw [List.take_eq_take_iff, List.length_drop]
    (first | lia | omega)
  rw [e3] at h
  exact h
theorem sym_call {w : World} {A : Around} {E : Value → Shared → Prop} {s : Shared} {p : Program} {loose : List Str} {mg mb : Str → Option Value} {Q : Value → Shared → Prop}
    (C : Cx w p loose mg mb s.heap) (hh : A.handled = none) (hd : A.depth < recursionLimit) {l : Addr} {vs : List Value} {ps : List Nat} (hl : s.heap.IsList l vs.toArray) (hi : NatsAre vs ps) (hpl : ps.length ≤ 20)
    (hret : ∀ h' tk D vs n, Ext s.heap h' → s.heap.get? D = none → h'.get? D = some (listOf vs.toArray n) → NatsAre vs (syms ps) → Q (.ref D) { s with heap := h', toks := tk }) :
   wpAny (model PySem.Challenge.rw_ai0020_01.row.prog w) A (call (.ref 133) [.ref l]) Q E s := by
  refine enter (binds := [(Str.ofString "places", .ref l)]) C hd rfl rfl (BindsTo.of_eq rfl) (locs rfl) ?_ rfl rfl rfl (by decide)
  intro h₁ L F N X T
  have hvl := hi.length
  rw [List.length_map] at hvl
  (try dsimp only)
  (repeat' ((( (fail_if_success (with_reducible show wpAny _ _ (exec (Stmt.For _ _ _ _ _) _) _ _ _)); (fail_if_success (with_reducible show wpAny _ _ (exec (Stmt.While _ _ _ _) _) _ _ _)); (fail_if_success (with_reducible show wpAny _ _ (pyIter _) _ _ _)); (fail_if_success (with_reducible show wpAny _ _ (eval (Expr.ListComp _ _ _ _) _) _ _ _)); (fail_if_success (with_reducible show wpAny _ _ (eval (Expr.GeneratorExp _ _ _ _) _) _ _ _)); (fail_if_success (with_reducible show wpAny _ _ (exec (Stmt.Assign _ (Expr.ListComp _ _ _ _) _) _) _ _ _)); (fail_if_success (with_reducible show wpAny _ _ (PySem.call (Value.ref _) _ _) _ _ _)); (fail_if_success (with_reducible show wpAny _ _ (PySem.call (Value.builtin "list.append") _) _ _ _)); (fail_if_success (with_reducible show wpAny _ _ (PySem.call (Value.builtin "any") _) _ _ _)); (fail_if_success (with_reducible show wpAny _ _ (PySem.call (Value.type "zip") _) _ _ _)); (fail_if_success (with_reducible show wpAny _ _ (PySem.call (Value.builtin "all") _) _ _ _)); (fail_if_success (with_reducible show InvEndN _ _ _ _ _ _ _)))); first | (dsimp only; walk1) | walk1))
  (rename Fr _ _ _ _ => F)
  (rename News _ _ _ _ => N)
  obtain ⟨D, e⟩ := News.at1 N
  subst e
  refine For_invVF F (by rfl) (by rfl) ?_
  (repeat' ((( (fail_if_success (with_reducible show wpAny _ _ (exec (Stmt.For _ _ _ _ _) _) _ _ _)); (fail_if_success (with_reducible show wpAny _ _ (exec (Stmt.While _ _ _ _) _) _ _ _)); (fail_if_success (with_reducible show wpAny _ _ (pyIter _) _ _ _)); (fail_if_success (with_reducible show wpAny _ _ (eval (Expr.ListComp _ _ _ _) _) _ _ _)); (fail_if_success (with_reducible show wpAny _ _ (eval (Expr.GeneratorExp _ _ _ _) _) _ _ _)); (fail_if_success (with_reducible show wpAny _ _ (exec (Stmt.Assign _ (Expr.ListComp _ _ _ _) _) _) _ _ _)); (fail_if_success (with_reducible show wpAny _ _ (PySem.call (Value.ref _) _ _) _ _ _)); (fail_if_success (with_reducible show wpAny _ _ (PySem.call (Value.builtin "list.append") _) _ _ _)); (fail_if_success (with_reducible show wpAny _ _ (PySem.call (Value.builtin "any") _) _ _ _)); (fail_if_success (with_reducible show wpAny _ _ (PySem.call (Value.type "zip") _) _ _ _)); (fail_if_success (with_reducible show wpAny _ _ (PySem.call (Value.builtin "all") _) _ _ _)); (fail_if_success (with_reducible show InvEndN _ _ _ _ _ _ _)))); first | (dsimp only; walk1) | walk1))
  (rename IsRange _ _ _ _ _ _ _ _ => rg)
  try clear N
  try clear F
  (rename Fr _ _ _ _ => F)
  (rename News _ _ _ _ => N)
  rw [List.length_map] at rg
  refine kmv_range (n := (ps.length + 2) / 3) (σ := Addr × List Value × Nat) (fun c => [(c.1, listOf c.2.1.toArray c.2.2)]) (fun c => [(Str.ofString "rows", .ref c.1)]) [Str.ofString "part", Str.ofString "classes", Str.ofString "place"]
    (fun i c => NatsAre c.2.1 (symsTo ps i)) (D, [], 0) hh rg (small3 _ (by (first | lia | omega))) (size3 _ (by (first | lia | omega))) F N (fun c p hp => by rw [List.mem_singleton.mp hp]) (List.forall_mem_cons.mpr ⟨rfl, List.forall_mem_nil _⟩) .nil ?_ ?_
  · clear F N rg
    rintro ⟨D1, rs, n1⟩ i t u h tk own hin hrs F N
    dsimp only at hrs F N
    have hrl := hrs.length
    rw [List.length_map] at hrl
    have hsl := symsTo_len ps i
    clear hret
    (repeat' ((( (fail_if_success (with_reducible show wpAny _ _ (exec (Stmt.For _ _ _ _ _) _) _ _ _)); (fail_if_success (with_reducible show wpAny _ _ (exec (Stmt.While _ _ _ _) _) _ _ _)); (fail_if_success (with_reducible show wpAny _ _ (pyIter _) _ _ _)); (fail_if_success (with_reducible show wpAny _ _ (eval (Expr.ListComp _ _ _ _) _) _ _ _)); (fail_if_success (with_reducible show wpAny _ _ (eval (Expr.GeneratorExp _ _ _ _) _) _ _ _)); (fail_if_success (with_reducible show wpAny _ _ (exec (Stmt.Assign _ (Expr.ListComp _ _ _ _) _) _) _ _ _)); (fail_if_success (with_reducible show wpAny _ _ (PySem.call (Value.ref _) _ _) _ _ _)); (fail_if_success (with_reducible show wpAny _ _ (PySem.call (Value.builtin "list.append") _) _ _ _)); (fail_if_success (with_reducible show wpAny _ _ (PySem.call (Value.builtin "any") _) _ _ _)); (fail_if_success (with_reducible show wpAny _ _ (PySem.call (Value.type "zip") _) _ _ _)); (fail_if_success (with_reducible show wpAny _ _ (PySem.call (Value.builtin "all") _) _ _ _)); (fail_if_success (with_reducible show InvEndN _ _ _ _ _ _ _)))); first | (dsimp only; walk1) | walk1))
    (rename Fr _ _ _ _ => F)
    (rename News _ _ _ _ => N)
    (rename IntsAre _ (List.take _ _) => hI)
    have hI2 := part_nats hI
    clear hI
    generalize hpt : (ps.drop (3 * i)).take 3 = pt at hI2
    have hptl : pt.length ≤ 3 := by rw [← hpt]; exact List.length_take_le 3 _
    refine For_invVF F (by rfl) (by rfl) ?_
    (repeat' ((( (fail_if_success (with_reducible show wpAny _ _ (exec (Stmt.For _ _ _ _ _) _) _ _ _)); (fail_if_success (with_reducible show wpAny _ _ (exec (Stmt.While _ _ _ _) _) _ _ _)); (fail_if_success (with_reducible show wpAny _ _ (pyIter _) _ _ _)); (fail_if_success (with_reducible show wpAny _ _ (eval (Expr.ListComp _ _ _ _) _) _ _ _)); (fail_if_success (with_reducible show wpAny _ _ (eval (Expr.GeneratorExp _ _ _ _) _) _ _ _)); (fail_if_success (with_reducible show wpAny _ _ (exec (Stmt.Assign _ (Expr.ListComp _ _ _ _) _) _) _ _ _)); (fail_if_success (with_reducible show wpAny _ _ (PySem.call (Value.ref _) _ _) _ _ _)); (fail_if_success (with_reducible show wpAny _ _ (PySem.call (Value.builtin "list.append") _) _ _ _)); (fail_if_success (with_reducible show wpAny _ _ (PySem.call (Value.builtin "any") _) _ _ _)); (fail_if_success (with_reducible show wpAny _ _ (PySem.call (Value.type "zip") _) _ _ _)); (fail_if_success (with_reducible show wpAny _ _ (PySem.call (Value.builtin "all") _) _ _ _)); (fail_if_success (with_reducible show InvEndN _ _ _ _ _ _ _)))); first | (dsimp only; walk1) | walk1))
    obtain ⟨D2, e2⟩ := News.at1 N
    subst e2
    refine kst_listL (σ := Int × Tok) (fun _ => _) (fun c => [(Str.ofString "classes", .int c.1 c.2)]) (fun _ => True) []
      (fun pre c => ∃ pn : List Nat, pre = pn.map (fun n : Nat => (n : Int)) ∧ c.1 = ((pn.foldl (fun c p => 3 * c + p / 32) 0 : Nat) : Int)) (0, _) hh (fun _ => .head _) hI2 F N trivial (List.forall_mem_cons.mpr ⟨rfl, List.forall_mem_nil _⟩) ⟨[], rfl, rfl⟩ ?_ ?_
    · clear F N
      rintro ⟨c, tc⟩ pre post n t2 u2 h2 tk2 own2 hsp hmem hoff - ⟨pn, hpre, hc⟩ F N
      obtain ⟨v, hv, rfl⟩ := List.mem_map.mp hmem
      dsimp only at hc F N
      subst hc
      (repeat' ((( (fail_if_success (with_reducible show wpAny _ _ (exec (Stmt.For _ _ _ _ _) _) _ _ _)); (fail_if_success (with_reducible show wpAny _ _ (exec (Stmt.While _ _ _ _) _) _ _ _)); (fail_if_success (with_reducible show wpAny _ _ (pyIter _) _ _ _)); (fail_if_success (with_reducible show wpAny _ _ (eval (Expr.ListComp _ _ _ _) _) _ _ _)); (fail_if_success (with_reducible show wpAny _ _ (eval (Expr.GeneratorExp _ _ _ _) _) _ _ _)); (fail_if_success (with_reducible show wpAny _ _ (exec (Stmt.Assign _ (Expr.ListComp _ _ _ _) _) _) _ _ _)); (fail_if_success (with_reducible show wpAny _ _ (PySem.call (Value.ref _) _ _) _ _ _)); (fail_if_success (with_reducible show wpAny _ _ (PySem.call (Value.builtin "list.append") _) _ _ _)); (fail_if_success (with_reducible show wpAny _ _ (PySem.call (Value.builtin "any") _) _ _ _)); (fail_if_success (with_reducible show wpAny _ _ (PySem.call (Value.type "zip") _) _ _ _)); (fail_if_success (with_reducible show wpAny _ _ (PySem.call (Value.builtin "all") _) _ _ _)); (fail_if_success (with_reducible show InvEndN _ _ _ _ _ _ _)))); first | (dsimp only; walk1) | walk1))
      (((rename Fr _ _ _ _ => fE); (rename News _ _ _ _ => nE); (refine kst_end (_, _) fE nE (by first | kst_in | kst_inAny) (by first | (intro p hp; kst_mem) | kst_anyIn) (by rfl) trivial (by (try dsimp only); kst_all) (by (( (intro z h1 h2 h3); (simp only [List.forall_mem_cons, List.not_mem_nil, false_implies, implies_true, and_true, ne_eq] at h1 h2); (have h4 := h3); (simp only [List.contains_cons, List.contains_nil, Bool.or_false, Bool.or_eq_false_iff, beq_eq_false_iff_ne, ne_eq] at h4); (first | rfl | (simp only [kstB, h1, h2, h3, h4, if_false, ite_false, Bool.false_eq_true, not_false_eq_true]; done) | (simp [kstB, h1, h2, h3, h4]; done))))) ?_); clear fE nE; (try dsimp only)))
      refine ⟨pn ++ [v], by rw [hpre, List.map_append]; rfl, ?_⟩
      rw [List.foldl_append]
      show _ = ((3 * (pn.foldl (fun c p => 3 * c + p / 32) 0) + v / 32 : Nat) : Int)
      generalize pn.foldl (fun c p => 3 * c + p / 32) 0 = z
      rw [Int.fdiv_eq_ediv_of_nonneg _ (by decide)]
      (first | lia | omega)
    · clear F N
      rintro ⟨c, tc⟩ u2 h2 tk2 - ⟨pn, hpre, hc⟩ F N
      have hpn := cast_inj hpre
      subst hpn
      dsimp only at hc F N
      subst hc
      (repeat' ((( (fail_if_success (with_reducible show wpAny _ _ (exec (Stmt.For _ _ _ _ _) _) _ _ _)); (fail_if_success (with_reducible show wpAny _ _ (exec (Stmt.While _ _ _ _) _) _ _ _)); (fail_if_success (with_reducible show wpAny _ _ (pyIter _) _ _ _)); (fail_if_success (with_reducible show wpAny _ _ (eval (Expr.ListComp _ _ _ _) _) _ _ _)); (fail_if_success (with_reducible show wpAny _ _ (eval (Expr.GeneratorExp _ _ _ _) _) _ _ _)); (fail_if_success (with_reducible show wpAny _ _ (exec (Stmt.Assign _ (Expr.ListComp _ _ _ _) _) _) _ _ _)); (fail_if_success (with_reducible show wpAny _ _ (PySem.call (Value.ref _) _ _) _ _ _)); (fail_if_success (with_reducible show wpAny _ _ (PySem.call (Value.builtin "list.append") _) _ _ _)); (fail_if_success (with_reducible show wpAny _ _ (PySem.call (Value.builtin "any") _) _ _ _)); (fail_if_success (with_reducible show wpAny _ _ (PySem.call (Value.type "zip") _) _ _ _)); (fail_if_success (with_reducible show wpAny _ _ (PySem.call (Value.builtin "all") _) _ _ _)); (fail_if_success (with_reducible show InvEndN _ _ _ _ _ _ _)))); first | (dsimp only; walk1) | walk1))
      refine ListComp_at (fun _ => true) (fun v y => ∀ a : Nat, (∃ u, v = .int (a : Int) u) → (∃ t, y = .int ((a % 32 : Nat) : Int) t)) (by with_unfolding_all rfl) (by decide) (by rfl) (by decide) (by rfl) ?_ (fun _ => rfl)
      (repeat' ((( (fail_if_success (with_reducible show wpAny _ _ (exec (Stmt.For _ _ _ _ _) _) _ _ _)); (fail_if_success (with_reducible show wpAny _ _ (exec (Stmt.While _ _ _ _) _) _ _ _)); (fail_if_success (with_reducible show wpAny _ _ (pyIter _) _ _ _)); (fail_if_success (with_reducible show wpAny _ _ (eval (Expr.ListComp _ _ _ _) _) _ _ _)); (fail_if_success (with_reducible show wpAny _ _ (eval (Expr.GeneratorExp _ _ _ _) _) _ _ _)); (fail_if_success (with_reducible show wpAny _ _ (exec (Stmt.Assign _ (Expr.ListComp _ _ _ _) _) _) _ _ _)); (fail_if_success (with_reducible show wpAny _ _ (PySem.call (Value.ref _) _ _) _ _ _)); (fail_if_success (with_reducible show wpAny _ _ (PySem.call (Value.builtin "list.append") _) _ _ _)); (fail_if_success (with_reducible show wpAny _ _ (PySem.call (Value.builtin "any") _) _ _ _)); (fail_if_success (with_reducible show wpAny _ _ (PySem.call (Value.type "zip") _) _ _ _)); (fail_if_success (with_reducible show wpAny _ _ (PySem.call (Value.builtin "all") _) _ _ _)); (fail_if_success (with_reducible show InvEndN _ _ _ _ _ _ _)))); first | (dsimp only; walk1) | walk1))
      (((rename Fr _ _ _ _ => uF); (have uX1 := Frag.In.keeps (by assumption) uF.keep); (have uT1 := TopRead.keeps (by assumption) uF.keep)))
      (rename Fr _ _ _ _ => F)
      (rename News _ _ _ _ => N)
      refine lc_list (α := Nat) (items := pt) (fun a v => ∃ u, v = .int (a : Int) u) (fun a y => ∃ t, y = .int ((a % 32 : Nat) : Int) t) (fun a a' v h1 h2 => by obtain ⟨_, rfl⟩ := h1; obtain ⟨_, h⟩ := h2; injection h with h _; (first | lia | omega)) hh (by exact ⟨_, (N _ (.head _)).1, rfl, _, rfl⟩) (All2.ofNats hI2) (by rw [sizeLine_eq]; (first | lia | omega)) ?_ ?_
      · intro C d v s₃ m₃ E' hd hv F N hm
        obtain ⟨u, rfl⟩ := hv
        have ef : ((d : Nat) : Int).fmod 32 = ((d % 32 : Nat) : Int) := by rw [Int.fmod_eq_emod_of_nonneg _ (by decide)]; rfl
        (repeat' ((( (fail_if_success (with_reducible show wpAny _ _ (exec (Stmt.For _ _ _ _ _) _) _ _ _)); (fail_if_success (with_reducible show wpAny _ _ (exec (Stmt.While _ _ _ _) _) _ _ _)); (fail_if_success (with_reducible show wpAny _ _ (pyIter _) _ _ _)); (fail_if_success (with_reducible show wpAny _ _ (eval (Expr.ListComp _ _ _ _) _) _ _ _)); (fail_if_success (with_reducible show wpAny _ _ (eval (Expr.GeneratorExp _ _ _ _) _) _ _ _)); (fail_if_success (with_reducible show wpAny _ _ (exec (Stmt.Assign _ (Expr.ListComp _ _ _ _) _) _) _ _ _)); (fail_if_success (with_reducible show wpAny _ _ (PySem.call (Value.ref _) _ _) _ _ _)); (fail_if_success (with_reducible show wpAny _ _ (PySem.call (Value.builtin "list.append") _) _ _ _)); (fail_if_success (with_reducible show wpAny _ _ (PySem.call (Value.builtin "any") _) _ _ _)); (fail_if_success (with_reducible show wpAny _ _ (PySem.call (Value.type "zip") _) _ _ _)); (fail_if_success (with_reducible show wpAny _ _ (PySem.call (Value.builtin "all") _) _ _ _)); (fail_if_success (with_reducible show InvEndN _ _ _ _ _ _ _)))); first | (dsimp only; walk1) | walk1))
        · exact congrArg (fun q => Value.int q _) ef
        · exact ⟨_, _, rfl, fun _ _ e => e⟩
      · intro D' h'' tk' ys' n' hD0' hD' hA hk'
        have F1 := led_fr F hk'
        have N1 := led_add F N hk' hD0' hD'
        clear F N
        have hA2 := All2.natsOf hA
        (repeat' ((( (fail_if_success (with_reducible show wpAny _ _ (exec (Stmt.For _ _ _ _ _) _) _ _ _)); (fail_if_success (with_reducible show wpAny _ _ (exec (Stmt.While _ _ _ _) _) _ _ _)); (fail_if_success (with_reducible show wpAny _ _ (pyIter _) _ _ _)); (fail_if_success (with_reducible show wpAny _ _ (eval (Expr.ListComp _ _ _ _) _) _ _ _)); (fail_if_success (with_reducible show wpAny _ _ (eval (Expr.GeneratorExp _ _ _ _) _) _ _ _)); (fail_if_success (with_reducible show wpAny _ _ (exec (Stmt.Assign _ (Expr.ListComp _ _ _ _) _) _) _ _ _)); (fail_if_success (with_reducible show wpAny _ _ (PySem.call (Value.ref _) _ _) _ _ _)); (fail_if_success (with_reducible show wpAny _ _ (PySem.call (Value.builtin "list.append") _) _ _ _)); (fail_if_success (with_reducible show wpAny _ _ (PySem.call (Value.builtin "any") _) _ _ _)); (fail_if_success (with_reducible show wpAny _ _ (PySem.call (Value.type "zip") _) _ _ _)); (fail_if_success (with_reducible show wpAny _ _ (PySem.call (Value.builtin "all") _) _ _ _)); (fail_if_success (with_reducible show InvEndN _ _ _ _ _ _ _)))); first | (dsimp only; walk1) | walk1))
        (rename Fr _ _ _ _ => F)
        (rename News _ _ _ _ => N)
        (rename IntsAre _ _ => hI9)
        refine MEnd.intro (_, _, _) F N (List.forall_mem_cons.mpr ⟨.head _, List.forall_mem_nil _⟩) (by first | (intro p hp; kst_mem) | kst_anyIn) ?_ (List.forall_mem_cons.mpr ⟨rfl, List.forall_mem_nil _⟩) (by (( (intro z h1 h2 h3); (simp only [List.forall_mem_cons, List.not_mem_nil, false_implies, implies_true, and_true, ne_eq] at h1 h2); (have h4 := h3); (simp only [List.contains_cons, List.contains_nil, Bool.or_false, Bool.or_eq_false_iff, beq_eq_false_iff_ne, ne_eq] at h4); (first | rfl | (simp only [kstB, h1, h2, h3, h4, if_false, ite_false, Bool.false_eq_true, not_false_eq_true]; done) | (simp [kstB, h1, h2, h3, h4]; done)))))
        show IntsAre _ _
        rw [symsTo_succ, hpt]
        unfold sym3
        rw [List.map_append, List.map_append, ← List.append_assoc]
        exact hI9
  · clear F N rg
    rintro ⟨D1, rs, n1⟩ u h tk hrs F N
    dsimp only at hrs F N
    (repeat' ((( (fail_if_success (with_reducible show wpAny _ _ (exec (Stmt.For _ _ _ _ _) _) _ _ _)); (fail_if_success (with_reducible show wpAny _ _ (exec (Stmt.While _ _ _ _) _) _ _ _)); (fail_if_success (with_reducible show wpAny _ _ (pyIter _) _ _ _)); (fail_if_success (with_reducible show wpAny _ _ (eval (Expr.ListComp _ _ _ _) _) _ _ _)); (fail_if_success (with_reducible show wpAny _ _ (eval (Expr.GeneratorExp _ _ _ _) _) _ _ _)); (fail_if_success (with_reducible show wpAny _ _ (exec (Stmt.Assign _ (Expr.ListComp _ _ _ _) _) _) _ _ _)); (fail_if_success (with_reducible show wpAny _ _ (PySem.call (Value.ref _) _ _) _ _ _)); (fail_if_success (with_reducible show wpAny _ _ (PySem.call (Value.builtin "list.append") _) _ _ _)); (fail_if_success (with_reducible show wpAny _ _ (PySem.call (Value.builtin "any") _) _ _ _)); (fail_if_success (with_reducible show wpAny _ _ (PySem.call (Value.type "zip") _) _ _ _)); (fail_if_success (with_reducible show wpAny _ _ (PySem.call (Value.builtin "all") _) _ _ _)); (fail_if_success (with_reducible show InvEndN _ _ _ _ _ _ _)))); first | (dsimp only; walk1) | walk1))
    (rename Fr _ _ _ _ => F)
    (rename News _ _ _ _ => N)
    have hN := N _ (.head _)
    exact hret _ _ _ _ _ F.keep hN.2.2 hN.1 hrs
end Mine

namespace Mine
/-- xor of the signs at one place -/
noncomputable def sumAt (ds : List (List Nat)) (k : Nat) : Nat := ds.foldl (fun t d => t ^^^ d.getD k 0) 0
noncomputable def sums (ds : List (List Nat)) (n : Nat) : List Nat := (List.range n).map (sumAt ds)
noncomputable def stext (d : List Nat) : Str := ⟨(d.map chr32).toArray⟩
theorem all2_strs {vs : List Value} : ∀ {ds : List (List Nat)}, StrsAre vs (ds.map stext) → All2 (fun d v => ∃ u, v = .str (stext d) u) ds vs := by
  induction vs with
  | nil => intro ds h; cases ds with
    | nil => exact .nil
    | cons d r => cases h
  | cons v vs ih => intro ds h; cases ds with
    | nil => cases h
    | cons d r => cases h with | cons _ t h => exact .cons ⟨t, rfl⟩ (ih h)
theorem sumAt_lt {ds : List (List Nat)} (h : ∀ d ∈ ds, ∀ e ∈ d, e < 32) (k : Nat) : sumAt ds k < 32 := by
  unfold sumAt
  suffices q : ∀ (l : List (List Nat)) (a : Nat), (∀ d ∈ l, ∀ e ∈ d, e < 32) → a < 32 → l.foldl (fun t d => t ^^^ d.getD k 0) a < 32 from q ds 0 h (by decide)
  intro l
  induction l with
  | nil => intro a _ ha; exact ha
  | cons d r ih =>
    intro a hl ha
    refine ih _ (fun d hd => hl d (.tail _ hd)) (xlt (m := 5) ha ?_)
    by_cases hk : k < d.length
    · have e : d.getD k 0 = d[k] := by simp [List.getD, hk]
      rw [e]; exact hl d (.head _) _ (List.getElem_mem hk)
    · have e : d.getD k 0 = 0 := by simp [List.getD, hk]
      rw [e]; decide
theorem occ_chr : ∀ d, d < 32 → Builtin.Str.occurrences (Str.ofString "qpzry9x8gf2tvdw0s3jn54khce6mua7l") (one1 chr32 d) 0 (Str.ofString "qpzry9x8gf2tvdw0s3jn54khce6mua7l").length 1 = d :: [] := by decide +kernel
local macro_rules | `(tactic| walk_at "call builtin:str.index") => `(tactic| (refine SC.index (by assumption) ?_))
theorem sum_call {w : World} {A : Around} {E : Value → Shared → Prop} {s : Shared} {p : Program} {loose : List Str} {mg mb : Str → Option Value} {Q : Value → Shared → Prop}
    (C : Cx w p loose mg mb s.heap) (hh : A.handled = none) (hd : A.depth < recursionLimit) {l : Addr} {vs : List Value} {ds : List (List Nat)} {n : Nat} (hl : s.heap.IsList l vs.toArray) (hi : StrsAre vs (ds.map stext)) (h3 : ds.length = 3) (hn : ∀ d ∈ ds, d.length = n) (hn1 : 1 ≤ n) (hn2 : n ≤ 100) (h32 : ∀ d ∈ ds, ∀ e ∈ d, e < 32)
    (hret : ∀ h' tk t, Ext s.heap h' → Q (.str (stext (sums ds n)) t) { s with heap := h', toks := tk }) :
   wpAny (model PySem.Challenge.rw_ai0020_01.row.prog w) A (call (.ref 138) [.ref l]) Q E s := by
  refine enter (binds := [(Str.ofString "texts", .ref l)]) C hd rfl rfl (BindsTo.of_eq rfl) (locs rfl) ?_ rfl rfl rfl (by decide)
  intro h₁ L F N X T
  have hlen0 : ((List.map stext ds).getD (Int.toNat 0) Str.empty).length = n := by
    match ds, h3, hn with
    | d :: r, _, hn => 
      show ((d.map chr32).toArray).size = n
      have := hn d (.head _)
      simp [this]
  (try dsimp only)
  (repeat' ((( (fail_if_success (with_reducible show wpAny _ _ (exec (Stmt.For _ _ _ _ _) _) _ _ _)); (fail_if_success (with_reducible show wpAny _ _ (exec (Stmt.While _ _ _ _) _) _ _ _)); (fail_if_success (with_reducible show wpAny _ _ (pyIter _) _ _ _)); (fail_if_success (with_reducible show wpAny _ _ (eval (Expr.ListComp _ _ _ _) _) _ _ _)); (fail_if_success (with_reducible show wpAny _ _ (eval (Expr.GeneratorExp _ _ _ _) _) _ _ _)); (fail_if_success (with_reducible show wpAny _ _ (exec (Stmt.Assign _ (Expr.ListComp _ _ _ _) _) _) _ _ _)); (fail_if_success (with_reducible show wpAny _ _ (PySem.call (Value.ref _) _ _) _ _ _)); (fail_if_success (with_reducible show wpAny _ _ (PySem.call (Value.builtin "list.append") _) _ _ _)); (fail_if_success (with_reducible show wpAny _ _ (PySem.call (Value.builtin "any") _) _ _ _)); (fail_if_success (with_reducible show wpAny _ _ (PySem.call (Value.type "zip") _) _ _ _)); (fail_if_success (with_reducible show wpAny _ _ (PySem.call (Value.builtin "all") _) _ _ _)); (fail_if_success (with_reducible show InvEndN _ _ _ _ _ _ _)))); first | (dsimp only; walk1) | walk1))
  (rename Fr _ _ _ _ => F)
  (rename News _ _ _ _ => N)
  obtain ⟨D, e⟩ := News.at1 N
  subst e
  refine For_invVF F (by rfl) (by rfl) ?_
  (repeat' ((( (fail_if_success (with_reducible show wpAny _ _ (exec (Stmt.For _ _ _ _ _) _) _ _ _)); (fail_if_success (with_reducible show wpAny _ _ (exec (Stmt.While _ _ _ _) _) _ _ _)); (fail_if_success (with_reducible show wpAny _ _ (pyIter _) _ _ _)); (fail_if_success (with_reducible show wpAny _ _ (eval (Expr.ListComp _ _ _ _) _) _ _ _)); (fail_if_success (with_reducible show wpAny _ _ (eval (Expr.GeneratorExp _ _ _ _) _) _ _ _)); (fail_if_success (with_reducible show wpAny _ _ (exec (Stmt.Assign _ (Expr.ListComp _ _ _ _) _) _) _ _ _)); (fail_if_success (with_reducible show wpAny _ _ (PySem.call (Value.ref _) _ _) _ _ _)); (fail_if_success (with_reducible show wpAny _ _ (PySem.call (Value.builtin "list.append") _) _ _ _)); (fail_if_success (with_reducible show wpAny _ _ (PySem.call (Value.builtin "any") _) _ _ _)); (fail_if_success (with_reducible show wpAny _ _ (PySem.call (Value.type "zip") _) _ _ _)); (fail_if_success (with_reducible show wpAny _ _ (PySem.call (Value.builtin "all") _) _ _ _)); (fail_if_success (with_reducible show InvEndN _ _ _ _ _ _ _)))); first | (dsimp only; walk1) | walk1))
  (rename IsRange _ _ _ _ _ _ _ _ => rg)
  try clear N
  try clear F
  (rename Fr _ _ _ _ => F)
  (rename News _ _ _ _ => N)
  have hI0 : All2 (fun d v => ∃ u, v = .str (stext d) u) ds vs := all2_strs hi
  rw [hlen0] at rg
  refine kst_range (n := n) (σ := List Value × Nat) (fun c => [(D, listOf c.1.toArray c.2)]) (fun _ => []) (fun _ => True) [Str.ofString "total", Str.ofString "text"]
    (fun pre c => NatsAre c.1 (sums ds pre.length)) ([], 0) hh rg (small_one (by decide) (by decide) (by (first | lia | omega)) (by (first | lia | omega))) (by rw [rangeSize_nat]; (first | lia | omega)) F N trivial (List.forall_mem_nil _) .nil ?_ ?_
  · clear F N rg
    rintro ⟨out, cap⟩ pre k t u h tk own hk hlt hoff - hout F N
    dsimp only at hout F N
    clear hret
    have hk0 : k = ((pre.length : Nat) : Int) := by (first | lia | omega)
    subst hk0
    generalize hkk : pre.length = kk at *
    (repeat' ((( (fail_if_success (with_reducible show wpAny _ _ (exec (Stmt.For _ _ _ _ _) _) _ _ _)); (fail_if_success (with_reducible show wpAny _ _ (exec (Stmt.While _ _ _ _) _) _ _ _)); (fail_if_success (with_reducible show wpAny _ _ (pyIter _) _ _ _)); (fail_if_success (with_reducible show wpAny _ _ (eval (Expr.ListComp _ _ _ _) _) _ _ _)); (fail_if_success (with_reducible show wpAny _ _ (eval (Expr.GeneratorExp _ _ _ _) _) _ _ _)); (fail_if_success (with_reducible show wpAny _ _ (exec (Stmt.Assign _ (Expr.ListComp _ _ _ _) _) _) _ _ _)); (fail_if_success (with_reducible show wpAny _ _ (PySem.call (Value.ref _) _ _) _ _ _)); (fail_if_success (with_reducible show wpAny _ _ (PySem.call (Value.builtin "list.append") _) _ _ _)); (fail_if_success (with_reducible show wpAny _ _ (PySem.call (Value.builtin "any") _) _ _ _)); (fail_if_success (with_reducible show wpAny _ _ (PySem.call (Value.type "zip") _) _ _ _)); (fail_if_success (with_reducible show wpAny _ _ (PySem.call (Value.builtin "all") _) _ _ _)); (fail_if_success (with_reducible show InvEndN _ _ _ _ _ _ _)))); first | (dsimp only; walk1) | walk1))
    (rename Fr _ _ _ _ => F)
    (rename News _ _ _ _ => N)
    refine For_invVF F (by rfl) (by rfl) ?_
    (repeat' ((( (fail_if_success (with_reducible show wpAny _ _ (exec (Stmt.For _ _ _ _ _) _) _ _ _)); (fail_if_success (with_reducible show wpAny _ _ (exec (Stmt.While _ _ _ _) _) _ _ _)); (fail_if_success (with_reducible show wpAny _ _ (pyIter _) _ _ _)); (fail_if_success (with_reducible show wpAny _ _ (eval (Expr.ListComp _ _ _ _) _) _ _ _)); (fail_if_success (with_reducible show wpAny _ _ (eval (Expr.GeneratorExp _ _ _ _) _) _ _ _)); (fail_if_success (with_reducible show wpAny _ _ (exec (Stmt.Assign _ (Expr.ListComp _ _ _ _) _) _) _ _ _)); (fail_if_success (with_reducible show wpAny _ _ (PySem.call (Value.ref _) _ _) _ _ _)); (fail_if_success (with_reducible show wpAny _ _ (PySem.call (Value.builtin "list.append") _) _ _ _)); (fail_if_success (with_reducible show wpAny _ _ (PySem.call (Value.builtin "any") _) _ _ _)); (fail_if_success (with_reducible show wpAny _ _ (PySem.call (Value.type "zip") _) _ _ _)); (fail_if_success (with_reducible show wpAny _ _ (PySem.call (Value.builtin "all") _) _ _ _)); (fail_if_success (with_reducible show InvEndN _ _ _ _ _ _ _)))); first | (dsimp only; walk1) | walk1))
    refine kix_list (σ := Int × Tok) (items := ds) (fun d v => ∃ u, v = .str (stext d) u) (fun _ => _) (fun c => [(Str.ofString "total", .int c.1 c.2)]) (fun _ => True) []
      (fun i c => c.1 = (((ds.take i).foldl (fun t d => t ^^^ d.getD kk 0) 0 : Nat) : Int)) (0, _) hh hl hI0 F N trivial (List.forall_mem_cons.mpr ⟨rfl, List.forall_mem_nil _⟩) rfl ?_ ?_
    · clear F N
      rintro ⟨c, tc⟩ i d v u2 h2 tk2 own2 hid ⟨t2, rfl⟩ hoff - hc F N
      dsimp only at hc F N
      subst hc
      have hdm := List.mem_of_getElem? hid
      have hdn := hn d hdm
      have hdl : (stext d).length = n := by show ((d.map chr32).toArray).size = n; simp [hdn]
      have hkn : kk < d.length := by (first | lia | omega)
      have hge : d.getD kk 0 = d[kk] := by simp [List.getD, hkn]
      have hgd : d.getD kk 0 < 32 := h32 d hdm _ (by rw [hge]; exact List.getElem_mem hkn)
      have hit : Txt.item (stext d) (kk : Int) = one1 chr32 (d.getD kk 0) := by
        rw [item_one (stext d) kk (by show kk < ((d.map chr32).toArray).size; simp; exact hkn)]
        unfold one1 stext
        simp [Array.getD, hkn]
      have hocc : Builtin.Str.occurrences (Str.ofString "qpzry9x8gf2tvdw0s3jn54khce6mua7l") (Txt.item (stext d) (kk : Int)) 0 (Str.ofString "qpzry9x8gf2tvdw0s3jn54khce6mua7l").length 1 = d.getD kk 0 :: [] := by rw [hit]; exact occ_chr _ hgd
      (repeat' ((( (fail_if_success (with_reducible show wpAny _ _ (exec (Stmt.For _ _ _ _ _) _) _ _ _)); (fail_if_success (with_reducible show wpAny _ _ (exec (Stmt.While _ _ _ _) _) _ _ _)); (fail_if_success (with_reducible show wpAny _ _ (pyIter _) _ _ _)); (fail_if_success (with_reducible show wpAny _ _ (eval (Expr.ListComp _ _ _ _) _) _ _ _)); (fail_if_success (with_reducible show wpAny _ _ (eval (Expr.GeneratorExp _ _ _ _) _) _ _ _)); (fail_if_success (with_reducible show wpAny _ _ (exec (Stmt.Assign _ (Expr.ListComp _ _ _ _) _) _) _ _ _)); (fail_if_success (with_reducible show wpAny _ _ (PySem.call (Value.ref _) _ _) _ _ _)); (fail_if_success (with_reducible show wpAny _ _ (PySem.call (Value.builtin "list.append") _) _ _ _)); (fail_if_success (with_reducible show wpAny _ _ (PySem.call (Value.builtin "any") _) _ _ _)); (fail_if_success (with_reducible show wpAny _ _ (PySem.call (Value.type "zip") _) _ _ _)); (fail_if_success (with_reducible show wpAny _ _ (PySem.call (Value.builtin "all") _) _ _ _)); (fail_if_success (with_reducible show InvEndN _ _ _ _ _ _ _)))); first | (dsimp only; walk1) | walk1))
      (((rename Fr _ _ _ _ => fE); (rename News _ _ _ _ => nE); (refine kst_end (_, _) fE nE (by first | kst_in | kst_inAny) (by first | (intro p hp; kst_mem) | kst_anyIn) (by rfl) trivial (by (try dsimp only); kst_all) (by (( (intro z h1 h2 h3); (simp only [List.forall_mem_cons, List.not_mem_nil, false_implies, implies_true, and_true, ne_eq] at h1 h2); (have h4 := h3); (simp only [List.contains_cons, List.contains_nil, Bool.or_false, Bool.or_eq_false_iff, beq_eq_false_iff_ne, ne_eq] at h4); (first | rfl | (simp only [kstB, h1, h2, h3, h4, if_false, ite_false, Bool.false_eq_true, not_false_eq_true]; done) | (simp [kstB, h1, h2, h3, h4]; done))))) ?_); clear fE nE; (try dsimp only)))
      rw [List.length_replicate, List.take_add_one, hid, List.foldl_append]
      rfl
    · clear F N
      rintro ⟨c, tc⟩ u2 h2 tk2 - hc F N
      dsimp only at hc F N
      rw [List.take_length] at hc
      subst hc
      have hol := hout.length
      rw [List.length_map] at hol
      have hsl : (sums ds kk).length = kk := by simp [sums]
      (repeat' ((( (fail_if_success (with_reducible show wpAny _ _ (exec (Stmt.For _ _ _ _ _) _) _ _ _)); (fail_if_success (with_reducible show wpAny _ _ (exec (Stmt.While _ _ _ _) _) _ _ _)); (fail_if_success (with_reducible show wpAny _ _ (pyIter _) _ _ _)); (fail_if_success (with_reducible show wpAny _ _ (eval (Expr.ListComp _ _ _ _) _) _ _ _)); (fail_if_success (with_reducible show wpAny _ _ (eval (Expr.GeneratorExp _ _ _ _) _) _ _ _)); (fail_if_success (with_reducible show wpAny _ _ (exec (Stmt.Assign _ (Expr.ListComp _ _ _ _) _) _) _ _ _)); (fail_if_success (with_reducible show wpAny _ _ (PySem.call (Value.ref _) _ _) _ _ _)); (fail_if_success (with_reducible show wpAny _ _ (PySem.call (Value.builtin "list.append") _) _ _ _)); (fail_if_success (with_reducible show wpAny _ _ (PySem.call (Value.builtin "any") _) _ _ _)); (fail_if_success (with_reducible show wpAny _ _ (PySem.call (Value.type "zip") _) _ _ _)); (fail_if_success (with_reducible show wpAny _ _ (PySem.call (Value.builtin "all") _) _ _ _)); (fail_if_success (with_reducible show InvEndN _ _ _ _ _ _ _)))); first | (dsimp only; walk1) | walk1))
      (rename Fr _ _ _ _ => F)
      (rename News _ _ _ _ => N)
      refine app_own F N (hoff.ne (.head _)) (by (first | lia | omega)) ?_
      clear F N
      intro h4 F N
      (repeat' ((( (fail_if_success (with_reducible show wpAny _ _ (exec (Stmt.For _ _ _ _ _) _) _ _ _)); (fail_if_success (with_reducible show wpAny _ _ (exec (Stmt.While _ _ _ _) _) _ _ _)); (fail_if_success (with_reducible show wpAny _ _ (pyIter _) _ _ _)); (fail_if_success (with_reducible show wpAny _ _ (eval (Expr.ListComp _ _ _ _) _) _ _ _)); (fail_if_success (with_reducible show wpAny _ _ (eval (Expr.GeneratorExp _ _ _ _) _) _ _ _)); (fail_if_success (with_reducible show wpAny _ _ (exec (Stmt.Assign _ (Expr.ListComp _ _ _ _) _) _) _ _ _)); (fail_if_success (with_reducible show wpAny _ _ (PySem.call (Value.ref _) _ _) _ _ _)); (fail_if_success (with_reducible show wpAny _ _ (PySem.call (Value.builtin "list.append") _) _ _ _)); (fail_if_success (with_reducible show wpAny _ _ (PySem.call (Value.builtin "any") _) _ _ _)); (fail_if_success (with_reducible show wpAny _ _ (PySem.call (Value.type "zip") _) _ _ _)); (fail_if_success (with_reducible show wpAny _ _ (PySem.call (Value.builtin "all") _) _ _ _)); (fail_if_success (with_reducible show InvEndN _ _ _ _ _ _ _)))); first | (dsimp only; walk1) | walk1))
      refine kst_end (_, _) F N (List.forall_mem_cons.mpr ⟨.head _, List.forall_mem_nil _⟩) (fun p hp => .tail _ hp) rfl trivial (List.forall_mem_nil _) (by (( (intro z h1 h2 h3); (simp only [List.forall_mem_cons, List.not_mem_nil, false_implies, implies_true, and_true, ne_eq] at h1 h2); (have h4 := h3); (simp only [List.contains_cons, List.contains_nil, Bool.or_false, Bool.or_eq_false_iff, beq_eq_false_iff_ne, ne_eq] at h4); (first | rfl | (simp only [kstB, h1, h2, h3, h4, if_false, ite_false, Bool.false_eq_true, not_false_eq_true]; done) | (simp [kstB, h1, h2, h3, h4]; done))))) ?_
      rw [List.length_append, hkk]
      show IntsAre _ _
      have e : sums ds (kk + 1) = sums ds kk ++ [sumAt ds kk] := by unfold sums; rw [List.range_succ, List.map_append]; rfl
      show IntsAre _ ((sums ds (kk + 1)).map _)
      rw [e, List.map_append]
      exact IntsAre.append hout (.cons _ _ .nil)
  · clear F N rg
    rintro ⟨out, cap⟩ u h tk - hout F N
    dsimp only at hout F N
    have hsl : (sums ds n).length = n := by simp [sums]
    have hs32 : ∀ e ∈ sums ds n, e < 32 := by
      intro e he
      obtain ⟨k, -, rfl⟩ := List.mem_map.mp he
      exact sumAt_lt h32 k
    have hpl : (List.map (fun n : Nat => (n : Int)) (List.range n)).length = n := by simp
    (repeat' ((( (fail_if_success (with_reducible show wpAny _ _ (exec (Stmt.For _ _ _ _ _) _) _ _ _)); (fail_if_success (with_reducible show wpAny _ _ (exec (Stmt.While _ _ _ _) _) _ _ _)); (fail_if_success (with_reducible show wpAny _ _ (pyIter _) _ _ _)); (fail_if_success (with_reducible show wpAny _ _ (eval (Expr.ListComp _ _ _ _) _) _ _ _)); (fail_if_success (with_reducible show wpAny _ _ (eval (Expr.GeneratorExp _ _ _ _) _) _ _ _)); (fail_if_success (with_reducible show wpAny _ _ (exec (Stmt.Assign _ (Expr.ListComp _ _ _ _) _) _) _ _ _)); (fail_if_success (with_reducible show wpAny _ _ (PySem.call (Value.ref _) _ _) _ _ _)); (fail_if_success (with_reducible show wpAny _ _ (PySem.call (Value.builtin "list.append") _) _ _ _)); (fail_if_success (with_reducible show wpAny _ _ (PySem.call (Value.builtin "any") _) _ _ _)); (fail_if_success (with_reducible show wpAny _ _ (PySem.call (Value.type "zip") _) _ _ _)); (fail_if_success (with_reducible show wpAny _ _ (PySem.call (Value.builtin "all") _) _ _ _)); (fail_if_success (with_reducible show InvEndN _ _ _ _ _ _ _)))); first | (dsimp only; walk1) | walk1))
    refine ListComp_at (fun _ => true) (fun v y => ∀ a : Nat, (∃ u, v = .int (a : Int) u) → (∃ t, y = .str (one1 chr32 a) t)) (by with_unfolding_all rfl) (by decide) (by rfl) (by decide) (by rfl) ?_ (fun _ => rfl)
    (repeat' ((( (fail_if_success (with_reducible show wpAny _ _ (exec (Stmt.For _ _ _ _ _) _) _ _ _)); (fail_if_success (with_reducible show wpAny _ _ (exec (Stmt.While _ _ _ _) _) _ _ _)); (fail_if_success (with_reducible show wpAny _ _ (pyIter _) _ _ _)); (fail_if_success (with_reducible show wpAny _ _ (eval (Expr.ListComp _ _ _ _) _) _ _ _)); (fail_if_success (with_reducible show wpAny _ _ (eval (Expr.GeneratorExp _ _ _ _) _) _ _ _)); (fail_if_success (with_reducible show wpAny _ _ (exec (Stmt.Assign _ (Expr.ListComp _ _ _ _) _) _) _ _ _)); (fail_if_success (with_reducible show wpAny _ _ (PySem.call (Value.ref _) _ _) _ _ _)); (fail_if_success (with_reducible show wpAny _ _ (PySem.call (Value.builtin "list.append") _) _ _ _)); (fail_if_success (with_reducible show wpAny _ _ (PySem.call (Value.builtin "any") _) _ _ _)); (fail_if_success (with_reducible show wpAny _ _ (PySem.call (Value.type "zip") _) _ _ _)); (fail_if_success (with_reducible show wpAny _ _ (PySem.call (Value.builtin "all") _) _ _ _)); (fail_if_success (with_reducible show InvEndN _ _ _ _ _ _ _)))); first | (dsimp only; walk1) | walk1))
    (((rename Fr _ _ _ _ => uF); (have uX1 := Frag.In.keeps (by assumption) uF.keep); (have uT1 := TopRead.keeps (by assumption) uF.keep)))
    (rename Fr _ _ _ _ => F)
    (rename News _ _ _ _ => N)
    have hout2 : NatsAre out (sums ds n) := by
      have e : (rangeKs 0 n).length = n := by simp [rangeKs]
      rw [e] at hout
      exact hout
    refine lc_list (α := Nat) (items := sums ds n) (fun a v => ∃ u, v = .int (a : Int) u) (fun a y => ∃ t, y = .str (one1 chr32 a) t) (fun a a' v h1 h2 => by obtain ⟨_, rfl⟩ := h1; obtain ⟨_, h⟩ := h2; injection h with h _; (first | lia | omega)) hh (by exact ⟨_, (N _ (by k_mem)).1, rfl, _, rfl⟩) (All2.ofNats hout2) (by rw [sizeLine_eq]; (first | lia | omega)) ?_ ?_
    · intro C d v s₃ m₃ E' hd hv F N hm
      obtain ⟨u, rfl⟩ := hv
      have hd32 := hs32 d hd
      clear hret
      (repeat' ((( (fail_if_success (with_reducible show wpAny _ _ (exec (Stmt.For _ _ _ _ _) _) _ _ _)); (fail_if_success (with_reducible show wpAny _ _ (exec (Stmt.While _ _ _ _) _) _ _ _)); (fail_if_success (with_reducible show wpAny _ _ (pyIter _) _ _ _)); (fail_if_success (with_reducible show wpAny _ _ (eval (Expr.ListComp _ _ _ _) _) _ _ _)); (fail_if_success (with_reducible show wpAny _ _ (eval (Expr.GeneratorExp _ _ _ _) _) _ _ _)); (fail_if_success (with_reducible show wpAny _ _ (exec (Stmt.Assign _ (Expr.ListComp _ _ _ _) _) _) _ _ _)); (fail_if_success (with_reducible show wpAny _ _ (PySem.call (Value.ref _) _ _) _ _ _)); (fail_if_success (with_reducible show wpAny _ _ (PySem.call (Value.builtin "list.append") _) _ _ _)); (fail_if_success (with_reducible show wpAny _ _ (PySem.call (Value.builtin "any") _) _ _ _)); (fail_if_success (with_reducible show wpAny _ _ (PySem.call (Value.type "zip") _) _ _ _)); (fail_if_success (with_reducible show wpAny _ _ (PySem.call (Value.builtin "all") _) _ _ _)); (fail_if_success (with_reducible show InvEndN _ _ _ _ _ _ _)))); first | (dsimp only; walk1) | walk1))
      · exact congrArg (fun q => Value.str q _) (item_one (Str.ofString "qpzry9x8gf2tvdw0s3jn54khce6mua7l") d hd32)
      · exact ⟨_, _, rfl, fun _ _ e => e⟩
    · intro D' h'' tk' ys' n' hD0' hD' hA hk'
      (repeat' ((( (fail_if_success (with_reducible show wpAny _ _ (exec (Stmt.For _ _ _ _ _) _) _ _ _)); (fail_if_success (with_reducible show wpAny _ _ (exec (Stmt.While _ _ _ _) _) _ _ _)); (fail_if_success (with_reducible show wpAny _ _ (pyIter _) _ _ _)); (fail_if_success (with_reducible show wpAny _ _ (eval (Expr.ListComp _ _ _ _) _) _ _ _)); (fail_if_success (with_reducible show wpAny _ _ (eval (Expr.GeneratorExp _ _ _ _) _) _ _ _)); (fail_if_success (with_reducible show wpAny _ _ (exec (Stmt.Assign _ (Expr.ListComp _ _ _ _) _) _) _ _ _)); (fail_if_success (with_reducible show wpAny _ _ (PySem.call (Value.ref _) _ _) _ _ _)); (fail_if_success (with_reducible show wpAny _ _ (PySem.call (Value.builtin "list.append") _) _ _ _)); (fail_if_success (with_reducible show wpAny _ _ (PySem.call (Value.builtin "any") _) _ _ _)); (fail_if_success (with_reducible show wpAny _ _ (PySem.call (Value.type "zip") _) _ _ _)); (fail_if_success (with_reducible show wpAny _ _ (PySem.call (Value.builtin "all") _) _ _ _)); (fail_if_success (with_reducible show InvEndN _ _ _ _ _ _ _)))); first | (dsimp only; walk1) | walk1))
      (rename Fr _ _ _ _ => F)
      (rename News _ _ _ _ => N)
      have F1 := led_fr F hk'
      clear F N
      refine join_chars (f := chr32) (ns := sums ds n) (by exact ⟨_, hD', rfl, _, rfl⟩) (All2.strsOf hA) (by (first | lia | omega)) ?_
      intro t4 k4
      dsimp only
      (repeat' ((( (fail_if_success (with_reducible show wpAny _ _ (exec (Stmt.For _ _ _ _ _) _) _ _ _)); (fail_if_success (with_reducible show wpAny _ _ (exec (Stmt.While _ _ _ _) _) _ _ _)); (fail_if_success (with_reducible show wpAny _ _ (pyIter _) _ _ _)); (fail_if_success (with_reducible show wpAny _ _ (eval (Expr.ListComp _ _ _ _) _) _ _ _)); (fail_if_success (with_reducible show wpAny _ _ (eval (Expr.GeneratorExp _ _ _ _) _) _ _ _)); (fail_if_success (with_reducible show wpAny _ _ (exec (Stmt.Assign _ (Expr.ListComp _ _ _ _) _) _) _ _ _)); (fail_if_success (with_reducible show wpAny _ _ (PySem.call (Value.ref _) _ _) _ _ _)); (fail_if_success (with_reducible show wpAny _ _ (PySem.call (Value.builtin "list.append") _) _ _ _)); (fail_if_success (with_reducible show wpAny _ _ (PySem.call (Value.builtin "any") _) _ _ _)); (fail_if_success (with_reducible show wpAny _ _ (PySem.call (Value.type "zip") _) _ _ _)); (fail_if_success (with_reducible show wpAny _ _ (PySem.call (Value.builtin "all") _) _ _ _)); (fail_if_success (with_reducible show InvEndN _ _ _ _ _ _ _)))); first | (dsimp only; walk1) | walk1))
      exact hret _ _ _ F1.keep
end Mine

namespace Mine
open PySem.F
theorem typeCall_zip_3 (a b c : Value) : checkTypeCall "zip" ⟨[a, b, c], []⟩ = pure () := by kernel_rfl
theorem newCall_zip_3 (a b c : Value) : checkBuiltinCall "zip.__new__" ⟨[.type "zip", a, b, c], []⟩ = pure () := by kernel_rfl
theorem args_object_init_4 (a b c d : Value) : argsOk "object.__init__" ⟨[a, b, c, d], []⟩ := by
  unfold argsOk; rw [signature?_of (id := "object.__init__") (n := ['_', '_', 't', 'i', 'n', 'i', '_', '_']) (o := ['t', 'c', 'e', 'j', 'b', 'o']) (by kernel_rfl) owner_object]; kernel_rfl
noncomputable abbrev IsTri (h : Heap) (T : Addr) (a b c : Value) : Prop := h.get? T = some { cls := .type "tuple", data := .seq #[a, b, c] }
theorem lt_ne {a b : Addr} (h : (a : Nat) < (b : Nat)) : a ≠ b := Nat.ne_of_lt h
theorem gt_ne {a b : Addr} (h : (b : Nat) < (a : Nat)) : a ≠ b := Nat.ne_of_gt h
section
variable {prog : Program} {w : World} {A : Around} {E : Value → Shared → Prop} {s : Shared}
theorem upd_tri {T : Addr} {a b c x : Value} {k : Nat} {Q : Unit → Shared → Prop} (hT : IsTri s.heap T a b c)
    (h : ∀ h', h'.get? T = some { cls := .type "tuple", data := .seq ((#[a, b, c] : Array Value).setIfInBounds k x) } → Heap.SameBut T s.heap h' → Q () { s with heap := h' }) :
    wpAny (model prog w) A (updateSeq T (·.setIfInBounds k x)) Q E s := by
  refine wpAny_updateSeq hT rfl (h _ ?_ (Heap.SameBut.update ..))
  rw [Heap.get?_update_self _ hT rfl]
  simp [Obj.mapSeq]
theorem zip3_item {n l1 l2 l3 k : Nat} {xs ys zs : Array Value} {x y z a b c : Value} {Q : Value → Shared → Prop} (b1 : l1 < n) (b2 : l2 < n) (b3 : l3 < n)
    (hz : IsZip s.heap (n + 5) (n + 3) (n + 4) .none) (hTI : IsTri s.heap (n + 3) (.ref n) (.ref (n + 1)) (.ref (n + 2))) (hTO : IsTri s.heap (n + 4) a b c)
    (h1 : s.heap.IsListIter n l1 k) (h2 : s.heap.IsListIter (n + 1) l2 k) (h3 : s.heap.IsListIter (n + 2) l3 k) (hl1 : s.heap.IsList l1 xs) (hl2 : s.heap.IsList l2 ys) (hl3 : s.heap.IsList l3 zs)
    (hx : xs[k]? = some x) (hy : ys[k]? = some y) (hw : zs[k]? = some z)
    (hQ : ∀ h', IsZip h' (n + 5) (n + 3) (n + 4) (rawInt s.heap.objs.size) → IsTri h' (n + 4) x y z → h'.IsListIter n l1 (k + 1) → h'.IsListIter (n + 1) l2 (k + 1) → h'.IsListIter (n + 2) l3 (k + 1) → IsTri h' s.heap.objs.size x y z →
      (∀ c o, c ≠ n + 5 → c ≠ n + 4 → c ≠ n → c ≠ n + 1 → c ≠ n + 2 → s.heap.get? c = some o → h'.get? c = some o) → Q (.ref s.heap.objs.size) { s with heap := h' }) :
    wpAny (model prog w) A (Builtin.«zip.__next__» ⟨[.ref (n + 5)], []⟩) (fun fin s' => ∃ v, fin = .done (.ret v) ∧ Q v s') E s := by
  have L : ∀ {a b : Nat}, a < b → (a : Addr) ≠ b := fun h => Nat.ne_of_lt h
  have G : ∀ {a b : Nat}, b < a → (a : Addr) ≠ b := fun h => Nat.ne_of_gt h
  show wpAny _ _ (field (.ref (n + 5)) 2 >>= _) _ _ _
  refine wpAny_bind (wpAny_field hz rfl (x := .bool false) rfl ?_)
  show wpAny _ _ (field (.ref (n + 5)) 3 >>= _) _ _ _
  refine wpAny_bind (wpAny_field hz rfl (x := .ref (n + 3)) rfl ?_)
  refine wpAny_bind (wpAny_seqItems hTI rfl ?_)
  show wpAny _ _ (Builtin.SmallTypes.ownedTupleIsFree (.ref (n + 5)) >>= _) _ _ _
  refine wpAny_bind ?_
  unfold Builtin.SmallTypes.ownedTupleIsFree
  refine wpAny_bind (wpAny_field hz rfl (x := .none) rfl (wpAny_pure ?_))
  simp only [if_true]
  refine wpAny_bind (wpAny_rule ?_)
  refine wpAny_bind (wpAny_field hz rfl (x := .ref (n + 4)) rfl ?_)
  refine wpAny_bind (wpAny_setField_rec hz (by simp) fun h₁ hz₁ hs₁ => ?_)
  replace hz₁ : IsZip h₁ (n + 5) (n + 3) (n + 4) .ellipsis := hz₁
  refine wpAny_bind ?_
  simp only [List.zipIdx_cons, List.zipIdx_nil, List.forIn_cons, List.forIn_nil]
  refine wpAny_bind (wpAny_bind (wpAny_onRaise ?_))
  show wpAny _ _ (Builtin.SmallTypes.nextOf (.ref n) >>= _) _ _ _
  refine wpAny_bind (wpAny_nextOf_list_item (h1.extBut hs₁.extBut (L (by (first | lia | omega)))) (hl1.extBut hs₁.extBut (L (by (first | lia | omega)))) hx fun h₂ h1₂ hs₂ => wpAny_pure ?_)
  have hTO₂ : IsTri h₂ (n + 4) a b c := hs₂.extBut _ _ (G (by (first | lia | omega))) (hs₁.extBut _ _ (L (by (first | lia | omega))) hTO)
  refine wpAny_bind (wpAny_seqItems hTO₂ rfl ?_)
  refine wpAny_bind (upd_tri hTO₂ fun h₃ hTO₃ hs₃ => ?_)
  replace hTO₃ : IsTri h₃ (n + 4) x b c := hTO₃
  refine wpAny_bind (wpAny_letGo (wpAny_pure ?_))
  refine wpAny_bind (wpAny_bind (wpAny_onRaise ?_))
  show wpAny _ _ (Builtin.SmallTypes.nextOf (.ref (n + 1)) >>= _) _ _ _
  refine wpAny_bind (wpAny_nextOf_list_item (((h2.extBut hs₁.extBut (L (by (first | lia | omega)))).extBut hs₂.extBut (G (by (first | lia | omega)))).extBut hs₃.extBut (L (by (first | lia | omega))))
    (((hl2.extBut hs₁.extBut (L (by (first | lia | omega)))).extBut hs₂.extBut (L (by (first | lia | omega)))).extBut hs₃.extBut (L (by (first | lia | omega)))) hy fun h₄ h2₄ hs₄ => wpAny_pure ?_)
  have hTO₄ : IsTri h₄ (n + 4) x b c := hs₄.extBut _ _ (G (by (first | lia | omega))) hTO₃
  refine wpAny_bind (wpAny_seqItems hTO₄ rfl ?_)
  refine wpAny_bind (upd_tri hTO₄ fun h₅ hTO₅ hs₅ => ?_)
  replace hTO₅ : IsTri h₅ (n + 4) x y c := hTO₅
  refine wpAny_bind (wpAny_letGo (wpAny_pure ?_))
  refine wpAny_bind (wpAny_bind (wpAny_onRaise ?_))
  show wpAny _ _ (Builtin.SmallTypes.nextOf (.ref (n + 2)) >>= _) _ _ _
  refine wpAny_bind (wpAny_nextOf_list_item (((((h3.extBut hs₁.extBut (L (by (first | lia | omega)))).extBut hs₂.extBut (G (by (first | lia | omega)))).extBut hs₃.extBut (L (by (first | lia | omega)))).extBut hs₄.extBut (G (by (first | lia | omega)))).extBut hs₅.extBut (L (by (first | lia | omega))))
    (((((hl3.extBut hs₁.extBut (L (by (first | lia | omega)))).extBut hs₂.extBut (L (by (first | lia | omega)))).extBut hs₃.extBut (L (by (first | lia | omega)))).extBut hs₄.extBut (L (by (first | lia | omega)))).extBut hs₅.extBut (L (by (first | lia | omega)))) hw fun h₆ h3₆ hs₆ => wpAny_pure ?_)
  have hTO₆ : IsTri h₆ (n + 4) x y c := hs₆.extBut _ _ (G (by (first | lia | omega))) hTO₅
  refine wpAny_bind (wpAny_seqItems hTO₆ rfl ?_)
  refine wpAny_bind (upd_tri hTO₆ fun h₇ hTO₇ hs₇ => ?_)
  replace hTO₇ : IsTri h₇ (n + 4) x y z := hTO₇
  refine wpAny_bind (wpAny_letGo (wpAny_pure (wpAny_pure ?_)))
  refine wpAny_bind (wpAny_seqItems hTO₇ rfl ?_)
  refine wpAny_bind (wpAny_newTuple ?_)
  have hsz : h₇.objs.size = s.heap.objs.size := by rw [hs₇.1, hs₆.1, hs₅.1, hs₄.1, hs₃.1, hs₂.1, hs₁.1]
  have k₇ : ∀ c o, c ≠ n + 4 → c ≠ n → c ≠ n + 1 → c ≠ n + 2 → h₁.get? c = some o → h₇.get? c = some o := fun c o c2 c3 c4 c5 e =>
    hs₇.extBut _ _ c2 (hs₆.extBut _ _ c5 (hs₅.extBut _ _ c2 (hs₄.extBut _ _ c4 (hs₃.extBut _ _ c2 (hs₂.extBut _ _ c3 e)))))
  have hz₇ : IsZip h₇ (n + 5) (n + 3) (n + 4) .ellipsis := k₇ _ _ (G (by (first | lia | omega))) (G (by (first | lia | omega))) (G (by (first | lia | omega))) (G (by (first | lia | omega))) hz₁
  have h1₇ : h₇.IsListIter n l1 (k + 1) := ((((h1₂.extBut hs₃.extBut (L (by (first | lia | omega)))).extBut hs₄.extBut (L (by (first | lia | omega)))).extBut hs₅.extBut (L (by (first | lia | omega)))).extBut hs₆.extBut (L (by (first | lia | omega)))).extBut hs₇.extBut (L (by (first | lia | omega)))
  have h2₇ : h₇.IsListIter (n + 1) l2 (k + 1) := ((h2₄.extBut hs₅.extBut (L (by (first | lia | omega)))).extBut hs₆.extBut (L (by (first | lia | omega)))).extBut hs₇.extBut (L (by (first | lia | omega)))
  have h3₇ : h₇.IsListIter (n + 2) l3 (k + 1) := h3₆.extBut hs₇.extBut (L (by (first | lia | omega)))
  have hzlt : n + 5 < h₇.objs.size := Heap.lt_size hz₇
  show wpAny _ _ (Builtin.SmallTypes.ownedTupleHandOut (.ref (n + 5)) (.ref h₇.objs.size) >>= _) _ _ _
  refine wpAny_bind ?_
  unfold Builtin.SmallTypes.ownedTupleHandOut
  have hz₈ : IsZip (h₇.push { cls := .type "tuple", data := .seq #[x, y, z] }) (n + 5) (n + 3) (n + 4) .ellipsis := Heap.get?_push_of_some _ hz₇
  refine wpAny_bind (wpAny_setField_rec hz₈ (by simp) fun h₉ hz₉ hs₉ => ?_)
  replace hz₉ : IsZip h₉ (n + 5) (n + 3) (n + 4) (rawInt h₇.objs.size) := hz₉
  refine wpAny_setField_rec hz₉ (by simp) fun h₀ hz₀ hs₀ => ?_
  replace hz₀ : IsZip h₀ (n + 5) (n + 3) (n + 4) (rawInt h₇.objs.size) := hz₀
  have up : ∀ c o, c ≠ n + 5 → h₇.get? c = some o → h₀.get? c = some o := fun c o c1 e => hs₀.extBut _ _ c1 (hs₉.extBut _ _ c1 (Heap.get?_push_of_some _ e))
  have hT₀ : IsTri h₀ h₇.objs.size x y z := hs₀.extBut _ _ (Nat.ne_of_gt hzlt) (hs₉.extBut _ _ (Nat.ne_of_gt hzlt) (Heap.get?_push_size _ rfl))
  rw [hsz] at hz₀ hT₀
  refine wpAny_pure ⟨_, rfl, ?_⟩
  show Q (.ref h₇.objs.size) _
  rw [hsz]
  exact hQ h₀ hz₀ (up _ _ (L (by (first | lia | omega))) hTO₇) (h1₇.at fun o e => up _ o (L (by (first | lia | omega))) e) (h2₇.at fun o e => up _ o (L (by (first | lia | omega))) e) (h3₇.at fun o e => up _ o (L (by (first | lia | omega))) e) hT₀ fun c o c1 c2 c3 c4 c5 e => up c o c1 (k₇ c o c2 c3 c4 c5 (hs₁.extBut _ _ c1 e))
theorem zip3_end {n l1 k : Nat} {i2 i3 a b c : Value} {xs : Array Value} {Q : Fin → Shared → Prop} (hh : A.handled = none) (b1 : l1 < n)
    (hz : IsZip s.heap (n + 5) (n + 3) (n + 4) .none) (hTI : IsTri s.heap (n + 3) (.ref n) i2 i3) (hTO : IsTri s.heap (n + 4) a b c)
    (h1 : s.heap.IsListIter n l1 k) (hl1 : s.heap.IsList l1 xs) (hx : xs[k]? = none)
    (hE : ∀ h' e, (∀ c o, c ≠ n + 5 → c ≠ n → s.heap.get? c = some o → h'.get? c = some o) → (∃ o, h'.get? e = some o ∧ o.cls = .type "StopIteration") → E (.ref e) { s with heap := h' }) :
    wpAny (model prog w) A (Builtin.«zip.__next__» ⟨[.ref (n + 5)], []⟩) Q E s := by
  have L : ∀ {a b : Nat}, a < b → (a : Addr) ≠ b := fun h => Nat.ne_of_lt h
  have G : ∀ {a b : Nat}, b < a → (a : Addr) ≠ b := fun h => Nat.ne_of_gt h
  show wpAny _ _ (field (.ref (n + 5)) 2 >>= _) _ _ _
  refine wpAny_bind (wpAny_field hz rfl (x := .bool false) rfl ?_)
  show wpAny _ _ (field (.ref (n + 5)) 3 >>= _) _ _ _
  refine wpAny_bind (wpAny_field hz rfl (x := .ref (n + 3)) rfl ?_)
  refine wpAny_bind (wpAny_seqItems hTI rfl ?_)
  show wpAny _ _ (Builtin.SmallTypes.ownedTupleIsFree (.ref (n + 5)) >>= _) _ _ _
  refine wpAny_bind ?_
  unfold Builtin.SmallTypes.ownedTupleIsFree
  refine wpAny_bind (wpAny_field hz rfl (x := .none) rfl (wpAny_pure ?_))
  simp only [if_true]
  refine wpAny_bind (wpAny_rule ?_)
  refine wpAny_bind (wpAny_field hz rfl (x := .ref (n + 4)) rfl ?_)
  refine wpAny_bind (wpAny_setField_rec hz (by simp) fun h₁ hz₁ hs₁ => ?_)
  replace hz₁ : IsZip h₁ (n + 5) (n + 3) (n + 4) .ellipsis := hz₁
  refine wpAny_bind ?_
  simp only [List.zipIdx_cons, List.zipIdx_nil, List.forIn_cons, List.forIn_nil]
  refine wpAny_bind (wpAny_bind (wpAny_onRaise ?_))
  show wpAny _ _ (Builtin.SmallTypes.nextOf (.ref n) >>= _) _ _ _
  refine wpAny_bind (wpAny_nextOf_list_end hh (h1.extBut hs₁.extBut (L (by (first | lia | omega)))) (hl1.extBut hs₁.extBut (L (by (first | lia | omega)))) hx fun h₂ e hs₂ he => ?_)
  obtain ⟨oe, hoe, hce⟩ := he
  have hz₂ : IsZip h₂ (n + 5) (n + 3) (n + 4) .ellipsis := hs₂ _ _ (G (by (first | lia | omega))) hz₁
  have hez : e ≠ n + 5 := fun x => by subst x; rw [hz₂] at hoe; cases hoe; simp at hce
  refine wpAny_setField_rec hz₂ (by simp) fun h₃ _ hs₃ => hE h₃ e (fun c o c1 c3 x => hs₃.extBut _ _ c1 (hs₂ _ _ c3 (hs₁.extBut _ _ c1 x))) ⟨oe, hs₃.extBut _ _ hez hoe, hce⟩
end
noncomputable abbrev zq1 (h : Heap) (l1 : Addr) : Heap := h.push { cls := .type "list_iterator", data := .fields #[.ref l1, .int 0 0] }
noncomputable abbrev zq2 (h : Heap) (l1 l2 : Addr) : Heap := (zq1 h l1).push { cls := .type "list_iterator", data := .fields #[.ref l2, .int 0 0] }
noncomputable abbrev zq3 (h : Heap) (l1 l2 l3 : Addr) : Heap := (zq2 h l1 l2).push { cls := .type "list_iterator", data := .fields #[.ref l3, .int 0 0] }
noncomputable abbrev zq4 (h : Heap) (l1 l2 l3 : Addr) : Heap := (zq3 h l1 l2 l3).push { cls := .type "tuple", data := .seq #[.ref h.objs.size, .ref (zq1 h l1).objs.size, .ref (zq2 h l1 l2).objs.size] }
noncomputable abbrev zq5 (h : Heap) (l1 l2 l3 : Addr) : Heap := (zq4 h l1 l2 l3).push { cls := .type "tuple", data := .seq #[.none, .none, .none] }
noncomputable abbrev zq6 (h : Heap) (l1 l2 l3 : Addr) : Heap := (zq5 h l1 l2 l3).push { cls := .type "zip", data := .fields #[.none, .bool false, .bool false, .ref (zq3 h l1 l2 l3).objs.size, .ref (zq4 h l1 l2 l3).objs.size] }
theorem zip3_new (l1 l2 l3 : Addr) (xs ys zs : Array Value) :
    Meets (Builtin.«zip.__new__» ⟨[.type "zip", .ref l1, .ref l2, .ref l3], []⟩) (fun _ R s => s.heap.IsList l1 xs ∧ s.heap.IsList l2 ys ∧ s.heap.IsList l3 zs ∧
      R (.ok (.ret (.ref (zq5 s.heap l1 l2 l3).objs.size))) { s with heap := zq6 s.heap l1 l2 l3 }) :=
  .of_wp fun prog w A R s h => by
    obtain ⟨hp, g, d, tk, os⟩ := s; obtain ⟨hl1, hl2, hl3, h⟩ := h
    have hsub := sub_zip
    have hL1 : Heap.IsList (Shared.heap ⟨hp, g, d, tk, os⟩) l1 xs := hl1
    have hL2 : Heap.IsList (Shared.heap ⟨hp.push { cls := .type "list_iterator", data := .fields #[.ref l1, .int 0 0] }, g, d, tk, os⟩) l2 ys := Heap.IsList.push hl2 _
    have hL3 : Heap.IsList (Shared.heap ⟨(hp.push { cls := .type "list_iterator", data := .fields #[.ref l1, .int 0 0] }).push { cls := .type "list_iterator", data := .fields #[.ref l2, .int 0 0] }, g, d, tk, os⟩) l3 zs := Heap.IsList.push (Heap.IsList.push hl3 _) _
    wp_walk using wpAny_pyIter_list hL1, wpAny_pyIter_list hL2, wpAny_pyIter_list hL3
    exact ⟨_, rfl, h⟩
section
variable {prog : Program} {w : World} {A : Around} {E : Value → Shared → Prop} {s : Shared}
theorem call_zip_3 {l1 l2 l3 : Addr} {xs ys zs : Array Value} {Q : Value → Shared → Prop} (hl1 : s.heap.IsList l1 xs) (hl2 : s.heap.IsList l2 ys) (hl3 : s.heap.IsList l3 zs)
    (h : ∀ h', IsZip h' (s.heap.objs.size + 5) (s.heap.objs.size + 3) (s.heap.objs.size + 4) .none → IsTri h' (s.heap.objs.size + 3) (.ref s.heap.objs.size) (.ref (s.heap.objs.size + 1)) (.ref (s.heap.objs.size + 2)) →
      IsTri h' (s.heap.objs.size + 4) .none .none .none → h'.IsListIter s.heap.objs.size l1 0 → h'.IsListIter (s.heap.objs.size + 1) l2 0 → h'.IsListIter (s.heap.objs.size + 2) l3 0 → h'.objs.size = s.heap.objs.size + 6 →
      (∀ c o, s.heap.get? c = some o → h'.get? c = some o) → Q (.ref (s.heap.objs.size + 5)) { s with heap := h' }) :
    wpAny (model prog w) A (call (.type "zip") [.ref l1, .ref l2, .ref l3]) Q E s := by
  refine callType_new F.called_zip (by decide) (typeCall_zip_3 _ _ _) (newCall_zip_3 _ _ _) (fun obj => args_object_init_4 obj _ _ _) F.entry_zip_new
    (zip3_new l1 l2 l3 xs ys zs) ⟨hl1, hl2, hl3, ?_⟩
  have z1 : (zq1 s.heap l1).objs.size = s.heap.objs.size + 1 := Heap.size_push ..
  have z2 : (zq2 s.heap l1 l2).objs.size = s.heap.objs.size + 2 := by rw [Heap.size_push, z1]
  have z3 : (zq3 s.heap l1 l2 l3).objs.size = s.heap.objs.size + 3 := by rw [Heap.size_push, z2]
  have z4 : (zq4 s.heap l1 l2 l3).objs.size = s.heap.objs.size + 4 := by rw [Heap.size_push, z3]
  have z5 : (zq5 s.heap l1 l2 l3).objs.size = s.heap.objs.size + 5 := by rw [Heap.size_push, z4]
  have z6 : (zq6 s.heap l1 l2 l3).objs.size = s.heap.objs.size + 6 := by rw [Heap.size_push, z5]
  have g6 : (zq6 s.heap l1 l2 l3).get? (zq5 s.heap l1 l2 l3).objs.size = some _ := Heap.get?_push_size _ rfl
  have g5 : (zq6 s.heap l1 l2 l3).get? (zq4 s.heap l1 l2 l3).objs.size = some _ := Heap.get?_push_of_some _ (Heap.get?_push_size _ rfl)
  have g4 : (zq6 s.heap l1 l2 l3).get? (zq3 s.heap l1 l2 l3).objs.size = some _ := Heap.get?_push_of_some _ (Heap.get?_push_of_some _ (Heap.get?_push_size _ rfl))
  have g3 : (zq6 s.heap l1 l2 l3).get? (zq2 s.heap l1 l2).objs.size = some _ := Heap.get?_push_of_some _ (Heap.get?_push_of_some _ (Heap.get?_push_of_some _ (Heap.get?_push_size _ rfl)))
  have g2 : (zq6 s.heap l1 l2 l3).get? (zq1 s.heap l1).objs.size = some _ := Heap.get?_push_of_some _ (Heap.get?_push_of_some _ (Heap.get?_push_of_some _ (Heap.get?_push_of_some _ (Heap.get?_push_size _ rfl))))
  have g1 : (zq6 s.heap l1 l2 l3).get? s.heap.objs.size = some _ := Heap.get?_push_of_some _ (Heap.get?_push_of_some _ (Heap.get?_push_of_some _ (Heap.get?_push_of_some _ (Heap.get?_push_of_some _ (Heap.get?_push_size _ rfl)))))
  show _ ∧ _
  rw [z3, z4, z5] at g6
  rw [z4] at g5
  rw [z1, z2, z3] at g4
  rw [z2] at g3
  rw [z1] at g2
  rw [z5]
  exact ⟨⟨_, g6, rfl⟩, h _ g6 g4 g5 ⟨_, g1, rfl, rfl⟩ ⟨_, g2, rfl, rfl⟩ ⟨_, g3, rfl, rfl⟩ z6 fun c o x =>
    Heap.get?_push_of_some _ (Heap.get?_push_of_some _ (Heap.get?_push_of_some _ (Heap.get?_push_of_some _ (Heap.get?_push_of_some _ (Heap.get?_push_of_some _ x)))))⟩
noncomputable def Z3St (n l1 l2 l3 : Nat) (xs ys zs : Array Value) (i : Nat) (h : Heap) : Prop :=
  IsZip h (n + 5) (n + 3) (n + 4) .none ∧ IsTri h (n + 3) (.ref n) (.ref (n + 1)) (.ref (n + 2)) ∧ (∃ a b c, IsTri h (n + 4) a b c) ∧ h.IsListIter n l1 i ∧ h.IsListIter (n + 1) l2 i ∧ h.IsListIter (n + 2) l3 i ∧ h.IsList l1 xs ∧ h.IsList l2 ys ∧ h.IsList l3 zs
noncomputable def Z3Mid (n l1 l2 l3 : Nat) (xs ys zs : Array Value) (i : Nat) (T : Addr) (h : Heap) : Prop :=
  IsZip h (n + 5) (n + 3) (n + 4) (rawInt T) ∧ IsTri h (n + 3) (.ref n) (.ref (n + 1)) (.ref (n + 2)) ∧ (∃ a b c, IsTri h (n + 4) a b c) ∧ h.IsListIter n l1 (i + 1) ∧ h.IsListIter (n + 1) l2 (i + 1) ∧ h.IsListIter (n + 2) l3 (i + 1) ∧ h.IsList l1 xs ∧ h.IsList l2 ys ∧ h.IsList l3 zs ∧ T ∉ [(n + 5 : Addr), n + 4, n, n + 1, n + 2]
theorem walks_zip3 {n l1 l2 l3 N : Nat} (b1 : l1 < n) (b2 : l2 < n) (b3 : l3 < n) {xs ys zs : Array Value} (e1 : xs.size = N) (e2 : ys.size = N) (e3 : zs.size = N) (hh : A.handled = none) :
    WalksU prog w A (n + 5) [n + 5, n + 3, n + 4, n, n + 1, n + 2, l1, l2, l3] [n + 5, n + 4, n, n + 1, n + 2] N
      (fun i vals => ∃ x y z, xs[i]? = some x ∧ ys[i]? = some y ∧ zs[i]? = some z ∧ vals = #[x, y, z]) (Z3St n l1 l2 l3 xs ys zs) (Z3Mid n l1 l2 l3 xs ys zs) where
  sub := fun c hc => by simp at hc ⊢; rcases hc with rfl | rfl | rfl | rfl | rfl <;> simp
  frame := fun i h h' hst hk => by
    obtain ⟨hz, hTI, ⟨a, b, c, hTO⟩, h1, h2, h3, hl1, hl2, hl3⟩ := hst
    exact ⟨hk _ (by simp) _ hz, hk _ (by simp) _ hTI, ⟨a, b, c, hk _ (by simp) _ hTO⟩, h1.at fun o e => hk _ (by simp) o e, h2.at fun o e => hk _ (by simp) o e, h3.at fun o e => hk _ (by simp) o e,
      hl1.at fun o e => hk _ (by simp) o e, hl2.at fun o e => hk _ (by simp) o e, hl3.at fun o e => hk _ (by simp) o e⟩
  item := fun i s Q E hi hst hQ => by
    obtain ⟨hz, hTI, ⟨a, b, c, hTO⟩, h1, h2, h3, hl1, hl2, hl3⟩ := hst
    have L : ∀ {a b : Nat}, a < b → (a : Addr) ≠ b := fun h => Nat.ne_of_lt h
    have G : ∀ {a b : Nat}, b < a → (a : Addr) ≠ b := fun h => Nat.ne_of_gt h
    have x1 : xs[i]? = some xs[i] := Array.getElem?_eq_getElem (by (first | lia | omega))
    have x2 : ys[i]? = some ys[i] := Array.getElem?_eq_getElem (by (first | lia | omega))
    have x3 : zs[i]? = some zs[i] := Array.getElem?_eq_getElem (by (first | lia | omega))
    have hT : s.TypeIs (.ref (n + 5)) "zip" := ⟨_, hz, rfl⟩
    have lt : ∀ {c o}, s.heap.get? c = some o → s.heap.objs.size ≠ c := fun e => Nat.ne_of_gt (Heap.lt_size e)
    unfold pyNext
    refine wpAny_bind (wpAny_attempt (wpAny_callSpecial?_slot (name := Str.ofString "__next__") hT F.slot_zip_next
      (wpAny_call_entry F.slot_zip_next hT F.entry_zip_next
        (zip3_item b1 b2 b3 hz hTI hTO h1 h2 h3 hl1 hl2 hl3 x1 x2 x3 fun h' a1 a2 a3 a4 a5 a6 hk => wpAny_pure ?_) (F.args_zip_next_1 _))))
    refine hQ s.heap.objs.size #[xs[i], ys[i], zs[i]] h' s.toks ⟨_, _, _, x1, x2, x3, rfl⟩ ⟨_, a6, rfl, _, rfl⟩
      ⟨a1, hk _ _ (L (by (first | lia | omega))) (L (by (first | lia | omega))) (G (by (first | lia | omega))) (G (by (first | lia | omega))) (G (by (first | lia | omega))) hTI, ⟨_, _, _, a2⟩, a3, a4, a5, hl1.at fun o e => hk _ o (L (by (first | lia | omega))) (L (by (first | lia | omega))) (L (by (first | lia | omega))) (L (by (first | lia | omega))) (L (by (first | lia | omega))) e,
        hl2.at fun o e => hk _ o (L (by (first | lia | omega))) (L (by (first | lia | omega))) (L (by (first | lia | omega))) (L (by (first | lia | omega))) (L (by (first | lia | omega))) e, hl3.at fun o e => hk _ o (L (by (first | lia | omega))) (L (by (first | lia | omega))) (L (by (first | lia | omega))) (L (by (first | lia | omega))) (L (by (first | lia | omega))) e, ?_⟩
      fun c o hc e => hk c o (fun x => hc (by simp [x])) (fun x => hc (by simp [x])) (fun x => hc (by simp [x])) (fun x => hc (by simp [x])) (fun x => hc (by simp [x])) e
    obtain ⟨_, q1, _⟩ := h1
    obtain ⟨_, q2, _⟩ := h2
    obtain ⟨_, q3, _⟩ := h3
    intro hm
    simp only [List.mem_cons, List.not_mem_nil, or_false] at hm
    rcases hm with e | e | e | e | e
    · exact lt hz e
    · exact lt hTO e
    · exact lt q1 e
    · exact lt q2 e
    · exact lt q3 e
  go := fun elts k pos i T s Q E hm hQ => by
    obtain ⟨hz, hTI, ⟨a, b, c, hTO⟩, h1, h2, h3, hl1, hl2, hl3, _⟩ := hm
    have L : ∀ {a b : Nat}, a < b → (a : Addr) ≠ b := fun h => Nat.ne_of_lt h
    refine wpAny_letOwnedTupleGo_zip hz fun h' hz' hs' => hQ h' ⟨hz', hs'.extBut _ _ (L (by (first | lia | omega))) hTI, ⟨a, b, c, hs'.extBut _ _ (L (by (first | lia | omega))) hTO⟩, h1.extBut hs'.extBut (L (by (first | lia | omega))), h2.extBut hs'.extBut (L (by (first | lia | omega))), h3.extBut hs'.extBut (L (by (first | lia | omega))),
      hl1.extBut hs'.extBut (L (by (first | lia | omega))), hl2.extBut hs'.extBut (L (by (first | lia | omega))), hl3.extBut hs'.extBut (L (by (first | lia | omega)))⟩ fun c o hc e => hs'.extBut _ _ (fun x => hc (by simp [x])) e
  apart := fun i T h hm => hm.2.2.2.2.2.2.2.2.2
  done := fun s Q E hst hQ => by
    obtain ⟨hz, hTI, ⟨a, b, c, hTO⟩, h1, h2, h3, hl1, hl2, hl3⟩ := hst
    have hT : s.TypeIs (.ref (n + 5)) "zip" := ⟨_, hz, rfl⟩
    unfold pyNext
    refine wpAny_bind (wpAny_attempt (wpAny_callSpecial?_slot (name := Str.ofString "__next__") hT F.slot_zip_next
      (wpAny_call_entry F.slot_zip_next hT F.entry_zip_next (zip3_end hh b1 hz hTI hTO h1 hl1 (Array.getElem?_eq_none (by (first | lia | omega))) fun h' e hk he => ?_) (F.args_zip_next_1 _))))
    obtain ⟨o, ho, hc⟩ := he
    refine wpAny_bind (wpAny_isInstance (T := "StopIteration") (b := true) ⟨o, ho, hc⟩ isSubtype_stop ?_)
    exact wpAny_pure (hQ h' s.toks fun c o hc e => hk c o (fun x => hc (by simp [x])) (fun x => hc (by simp [x])) e)
  self := fun i s Q E hst hQ => wpAny_pyIter_zip hst.1 hQ
end
end Mine

namespace Mine
theorem IsStrIter.at' {h h' : Heap} {it : Addr} {T : String} {x : Str} {t : Tok} {i : Nat} (a : h.IsStrIter it T x t i) (e : ∀ o, h.get? it = some o → h'.get? it = some o) : h'.IsStrIter it T x t i := let ⟨o, ho, r⟩ := a; ⟨o, e o ho, r⟩
noncomputable abbrev zs1 (h : Heap) (x : Str) (t : Tok) : Heap := h.push { cls := .type "str_ascii_iterator", data := .fields #[.str x t, .int 0 0] }
noncomputable abbrev zs2 (h : Heap) (x : Str) (t : Tok) (y : Str) (u : Tok) : Heap := (zs1 h x t).push { cls := .type "str_ascii_iterator", data := .fields #[.str y u, .int 0 0] }
noncomputable abbrev zs3 (h : Heap) (x : Str) (t : Tok) (y : Str) (u : Tok) : Heap := (zs2 h x t y u).push { cls := .type "tuple", data := .seq #[.ref h.objs.size, .ref (zs1 h x t).objs.size] }
noncomputable abbrev zs4 (h : Heap) (x : Str) (t : Tok) (y : Str) (u : Tok) : Heap := (zs3 h x t y u).push { cls := .type "tuple", data := .seq #[.none, .none] }
noncomputable abbrev zs5 (h : Heap) (x : Str) (t : Tok) (y : Str) (u : Tok) : Heap := (zs4 h x t y u).push { cls := .type "zip", data := .fields #[.none, .bool false, .bool false, .ref (zs2 h x t y u).objs.size, .ref (zs3 h x t y u).objs.size] }
theorem zipS_new (x y : Str) (t u : Tok) (ax : x.cps.all (· < 128) = true) (ay : y.cps.all (· < 128) = true) :
    Meets (Builtin.«zip.__new__» ⟨[.type "zip", .str x t, .str y u], []⟩) (fun _ R s => 
      R (.ok (.ret (.ref (zs4 s.heap x t y u).objs.size))) { s with heap := zs5 s.heap x t y u }) :=
  .of_wp fun prog w A R s h => by
    obtain ⟨hp, g, d, tk, os⟩ := s
    have hsub := sub_zip
    wp_walk using wpAny_pyIter_ascii ax, wpAny_pyIter_ascii ay
    exact ⟨_, rfl, h⟩
section
variable {prog : Program} {w : World} {A : Around} {E : Value → Shared → Prop} {s : Shared}
theorem zipS_item {n k : Nat} {x y : Str} {t u : Tok} {cx cy : Nat} {a b : Value} {Q : Value → Shared → Prop}
    (hz : IsZip s.heap (n + 4) (n + 2) (n + 3) .none) (hTI : IsPair s.heap (n + 2) (.ref n) (.ref (n + 1))) (hTO : IsPair s.heap (n + 3) a b)
    (h1 : s.heap.IsStrIter n "str_ascii_iterator" x t k) (h2 : s.heap.IsStrIter (n + 1) "str_ascii_iterator" y u k) (hx : x.cps[k]? = some cx) (hy : y.cps[k]? = some cy)
    (hQ : ∀ h' tk t1 t2, IsZip h' (n + 4) (n + 2) (n + 3) (rawInt s.heap.objs.size) → IsPair h' (n + 3) (.str ⟨#[cx]⟩ t1) (.str ⟨#[cy]⟩ t2) → h'.IsStrIter n "str_ascii_iterator" x t (k + 1) → h'.IsStrIter (n + 1) "str_ascii_iterator" y u (k + 1) → IsPair h' s.heap.objs.size (.str ⟨#[cx]⟩ t1) (.str ⟨#[cy]⟩ t2) →
      (∀ c o, c ≠ n + 4 → c ≠ n + 3 → c ≠ n → c ≠ n + 1 → s.heap.get? c = some o → h'.get? c = some o) → Q (.ref s.heap.objs.size) { s with heap := h', toks := tk }) :
    wpAny (model prog w) A (Builtin.«zip.__next__» ⟨[.ref (n + 4)], []⟩) (fun fin s' => ∃ v, fin = .done (.ret v) ∧ Q v s') E s := by
  have L : ∀ {a b : Nat}, a < b → (a : Addr) ≠ b := fun h => Nat.ne_of_lt h
  have G : ∀ {a b : Nat}, b < a → (a : Addr) ≠ b := fun h => Nat.ne_of_gt h
  show wpAny _ _ (field (.ref (n + 4)) 2 >>= _) _ _ _
  refine wpAny_bind (wpAny_field hz rfl (x := .bool false) rfl ?_)
  show wpAny _ _ (field (.ref (n + 4)) 3 >>= _) _ _ _
  refine wpAny_bind (wpAny_field hz rfl (x := .ref (n + 2)) rfl ?_)
  refine wpAny_bind (wpAny_seqItems hTI rfl ?_)
  show wpAny _ _ (Builtin.SmallTypes.ownedTupleIsFree (.ref (n + 4)) >>= _) _ _ _
  refine wpAny_bind ?_
  unfold Builtin.SmallTypes.ownedTupleIsFree
  refine wpAny_bind (wpAny_field hz rfl (x := .none) rfl (wpAny_pure ?_))
  simp only [if_true]
  refine wpAny_bind (wpAny_rule ?_)
  refine wpAny_bind (wpAny_field hz rfl (x := .ref (n + 3)) rfl ?_)
  refine wpAny_bind (wpAny_setField_rec hz (by simp) fun h₁ hz₁ hs₁ => ?_)
  replace hz₁ : IsZip h₁ (n + 4) (n + 2) (n + 3) .ellipsis := hz₁
  refine wpAny_bind ?_
  simp only [List.zipIdx_cons, List.zipIdx_nil, List.forIn_cons, List.forIn_nil]
  refine wpAny_bind (wpAny_bind (wpAny_onRaise ?_))
  show wpAny _ _ (Builtin.SmallTypes.nextOf (.ref n) >>= _) _ _ _
  refine wpAny_bind (wpAny_nextOf_ascii_item (IsStrIter.at' h1 fun o e => hs₁.extBut _ _ (L (by (first | lia | omega))) e) hx fun h₂ h1₂ hs₂ => wpAny_pure ?_)
  have hTO₂ : IsPair h₂ (n + 3) a b := hs₂.extBut _ _ (G (by (first | lia | omega))) (hs₁.extBut _ _ (L (by (first | lia | omega))) hTO)
  refine wpAny_bind (wpAny_seqItems hTO₂ rfl ?_)
  refine wpAny_bind (wpAny_updateSeq_pair hTO₂ fun h₃ hTO₃ hs₃ => ?_)
  replace hTO₃ : IsPair h₃ (n + 3) (.str ⟨#[cx]⟩ _) b := hTO₃
  refine wpAny_bind (wpAny_letGo (wpAny_pure ?_))
  refine wpAny_bind (wpAny_bind (wpAny_onRaise ?_))
  show wpAny _ _ (Builtin.SmallTypes.nextOf (.ref (n + 1)) >>= _) _ _ _
  refine wpAny_bind (wpAny_nextOf_ascii_item (IsStrIter.at' h2 fun o e => hs₃.extBut _ _ (L (by (first | lia | omega))) (hs₂.extBut _ _ (G (by (first | lia | omega))) (hs₁.extBut _ _ (L (by (first | lia | omega))) e))) hy fun h₄ h2₄ hs₄ => wpAny_pure ?_)
  have hTO₄ : IsPair h₄ (n + 3) (.str ⟨#[cx]⟩ _) b := hs₄.extBut _ _ (G (by (first | lia | omega))) hTO₃
  refine wpAny_bind (wpAny_seqItems hTO₄ rfl ?_)
  refine wpAny_bind (wpAny_updateSeq_pair hTO₄ fun h₅ hTO₅ hs₅ => ?_)
  replace hTO₅ : IsPair h₅ (n + 3) (.str ⟨#[cx]⟩ _) (.str ⟨#[cy]⟩ _) := hTO₅
  refine wpAny_bind (wpAny_letGo (wpAny_pure (wpAny_pure ?_)))
  refine wpAny_bind (wpAny_seqItems hTO₅ rfl ?_)
  refine wpAny_bind (wpAny_newTuple ?_)
  have hsz : h₅.objs.size = s.heap.objs.size := by rw [hs₅.1, hs₄.1, hs₃.1, hs₂.1, hs₁.1]
  have k₅ : ∀ c o, c ≠ n + 3 → c ≠ n → c ≠ n + 1 → h₁.get? c = some o → h₅.get? c = some o := fun c o c2 c3 c4 e =>
    hs₅.extBut _ _ c2 (hs₄.extBut _ _ c4 (hs₃.extBut _ _ c2 (hs₂.extBut _ _ c3 e)))
  have hz₅ : IsZip h₅ (n + 4) (n + 2) (n + 3) .ellipsis := k₅ _ _ (G (by (first | lia | omega))) (G (by (first | lia | omega))) (G (by (first | lia | omega))) hz₁
  have h1₅ : h₅.IsStrIter n "str_ascii_iterator" x t (k + 1) := IsStrIter.at' h1₂ fun o e => hs₅.extBut _ _ (L (by (first | lia | omega))) (hs₄.extBut _ _ (L (by (first | lia | omega))) (hs₃.extBut _ _ (L (by (first | lia | omega))) e))
  have h2₅ : h₅.IsStrIter (n + 1) "str_ascii_iterator" y u (k + 1) := IsStrIter.at' h2₄ fun o e => hs₅.extBut _ _ (L (by (first | lia | omega))) e
  have hzlt : n + 4 < h₅.objs.size := Heap.lt_size hz₅
  show wpAny _ _ (Builtin.SmallTypes.ownedTupleHandOut (.ref (n + 4)) (.ref h₅.objs.size) >>= _) _ _ _
  refine wpAny_bind ?_
  unfold Builtin.SmallTypes.ownedTupleHandOut
  have hz₆ : IsZip (h₅.push { cls := .type "tuple", data := .seq #[.str ⟨#[cx]⟩ s.toks, .str ⟨#[cy]⟩ (s.toks + 1)] }) (n + 4) (n + 2) (n + 3) .ellipsis := Heap.get?_push_of_some _ hz₅
  refine wpAny_bind (wpAny_setField_rec hz₆ (by simp) fun h₇ hz₇ hs₇ => ?_)
  replace hz₇ : IsZip h₇ (n + 4) (n + 2) (n + 3) (rawInt h₅.objs.size) := hz₇
  refine wpAny_setField_rec hz₇ (by simp) fun h₀ hz₀ hs₀ => ?_
  replace hz₀ : IsZip h₀ (n + 4) (n + 2) (n + 3) (rawInt h₅.objs.size) := hz₀
  have up : ∀ c o, c ≠ n + 4 → h₅.get? c = some o → h₀.get? c = some o := fun c o c1 e => hs₀.extBut _ _ c1 (hs₇.extBut _ _ c1 (Heap.get?_push_of_some _ e))
  have hT₀ : IsPair h₀ h₅.objs.size (.str ⟨#[cx]⟩ s.toks) (.str ⟨#[cy]⟩ (s.toks + 1)) := hs₀.extBut _ _ (Nat.ne_of_gt hzlt) (hs₇.extBut _ _ (Nat.ne_of_gt hzlt) (Heap.get?_push_size _ rfl))
  rw [hsz] at hz₀ hT₀
  refine wpAny_pure ⟨_, rfl, ?_⟩
  show Q (.ref h₅.objs.size) _
  rw [hsz]
  exact hQ h₀ _ _ _ hz₀ (up _ _ (L (by (first | lia | omega))) hTO₅) (IsStrIter.at' h1₅ fun o e => up _ o (L (by (first | lia | omega))) e) (IsStrIter.at' h2₅ fun o e => up _ o (L (by (first | lia | omega))) e) hT₀ fun c o c1 c2 c3 c4 e => up c o c1 (k₅ c o c2 c3 c4 (hs₁.extBut _ _ c1 e))
theorem zipS_end {n k : Nat} {i2 a b : Value} {x : Str} {t : Tok} {Q : Fin → Shared → Prop} (hh : A.handled = none)
    (hz : IsZip s.heap (n + 4) (n + 2) (n + 3) .none) (hTI : IsPair s.heap (n + 2) (.ref n) i2) (_ : IsPair s.heap (n + 3) a b)
    (h1 : s.heap.IsStrIter n "str_ascii_iterator" x t k) (hx : x.cps[k]? = none)
    (hE : ∀ h' e, (∀ c o, c ≠ n + 4 → c ≠ n → s.heap.get? c = some o → h'.get? c = some o) → (∃ o, h'.get? e = some o ∧ o.cls = .type "StopIteration") → E (.ref e) { s with heap := h' }) :
    wpAny (model prog w) A (Builtin.«zip.__next__» ⟨[.ref (n + 4)], []⟩) Q E s := by
  have L : ∀ {a b : Nat}, a < b → (a : Addr) ≠ b := fun h => Nat.ne_of_lt h
  have G : ∀ {a b : Nat}, b < a → (a : Addr) ≠ b := fun h => Nat.ne_of_gt h
  show wpAny _ _ (field (.ref (n + 4)) 2 >>= _) _ _ _
  refine wpAny_bind (wpAny_field hz rfl (x := .bool false) rfl ?_)
  show wpAny _ _ (field (.ref (n + 4)) 3 >>= _) _ _ _
  refine wpAny_bind (wpAny_field hz rfl (x := .ref (n + 2)) rfl ?_)
  refine wpAny_bind (wpAny_seqItems hTI rfl ?_)
  show wpAny _ _ (Builtin.SmallTypes.ownedTupleIsFree (.ref (n + 4)) >>= _) _ _ _
  refine wpAny_bind ?_
  unfold Builtin.SmallTypes.ownedTupleIsFree
  refine wpAny_bind (wpAny_field hz rfl (x := .none) rfl (wpAny_pure ?_))
  simp only [if_true]
  refine wpAny_bind (wpAny_rule ?_)
  refine wpAny_bind (wpAny_field hz rfl (x := .ref (n + 3)) rfl ?_)
  refine wpAny_bind (wpAny_setField_rec hz (by simp) fun h₁ hz₁ hs₁ => ?_)
  replace hz₁ : IsZip h₁ (n + 4) (n + 2) (n + 3) .ellipsis := hz₁
  refine wpAny_bind ?_
  simp only [List.zipIdx_cons, List.zipIdx_nil, List.forIn_cons, List.forIn_nil]
  refine wpAny_bind (wpAny_bind (wpAny_onRaise ?_))
  show wpAny _ _ (Builtin.SmallTypes.nextOf (.ref n) >>= _) _ _ _
  refine wpAny_bind (wpAny_nextOf_ascii_end hh (IsStrIter.at' h1 fun o e => hs₁.extBut _ _ (L (by (first | lia | omega))) e) hx fun h₂ e hs₂ he => ?_)
  obtain ⟨oe, hoe, hce⟩ := he
  have hz₂ : IsZip h₂ (n + 4) (n + 2) (n + 3) .ellipsis := hs₂ _ _ (G (by (first | lia | omega))) hz₁
  have hez : e ≠ n + 4 := fun x => by subst x; rw [hz₂] at hoe; cases hoe; simp at hce
  refine wpAny_setField_rec hz₂ (by simp) fun h₃ _ hs₃ => hE h₃ e (fun c o c1 c3 x => hs₃.extBut _ _ c1 (hs₂ _ _ c3 (hs₁.extBut _ _ c1 x))) ⟨oe, hs₃.extBut _ _ hez hoe, hce⟩
theorem call_zip_S {x y : Str} {t u : Tok} {Q : Value → Shared → Prop} (ax : x.cps.all (· < 128) = true) (ay : y.cps.all (· < 128) = true)
    (h : ∀ h', IsZip h' (s.heap.objs.size + 4) (s.heap.objs.size + 2) (s.heap.objs.size + 3) .none → IsPair h' (s.heap.objs.size + 2) (.ref s.heap.objs.size) (.ref (s.heap.objs.size + 1)) →
      IsPair h' (s.heap.objs.size + 3) .none .none → h'.IsStrIter s.heap.objs.size "str_ascii_iterator" x t 0 → h'.IsStrIter (s.heap.objs.size + 1) "str_ascii_iterator" y u 0 → h'.objs.size = s.heap.objs.size + 5 →
      (∀ c o, s.heap.get? c = some o → h'.get? c = some o) → Q (.ref (s.heap.objs.size + 4)) { s with heap := h' }) :
    wpAny (model prog w) A (call (.type "zip") [.str x t, .str y u]) Q E s := by
  refine callType_new F.called_zip (by decide) (F.typeCall_zip_2 _ _) (F.newCall_zip_2 _ _) (fun obj => F.args_object_init_3 obj _ _) F.entry_zip_new
    (zipS_new x y t u ax ay) ?_
  have z1 : (zs1 s.heap x t).objs.size = s.heap.objs.size + 1 := Heap.size_push ..
  have z2 : (zs2 s.heap x t y u).objs.size = s.heap.objs.size + 2 := by rw [Heap.size_push, z1]
  have z3 : (zs3 s.heap x t y u).objs.size = s.heap.objs.size + 3 := by rw [Heap.size_push, z2]
  have z4 : (zs4 s.heap x t y u).objs.size = s.heap.objs.size + 4 := by rw [Heap.size_push, z3]
  have z5 : (zs5 s.heap x t y u).objs.size = s.heap.objs.size + 5 := by rw [Heap.size_push, z4]
  have g5 : (zs5 s.heap x t y u).get? (zs4 s.heap x t y u).objs.size = some _ := Heap.get?_push_size _ rfl
  have g4 : (zs5 s.heap x t y u).get? (zs3 s.heap x t y u).objs.size = some _ := Heap.get?_push_of_some _ (Heap.get?_push_size _ rfl)
  have g3 : (zs5 s.heap x t y u).get? (zs2 s.heap x t y u).objs.size = some _ := Heap.get?_push_of_some _ (Heap.get?_push_of_some _ (Heap.get?_push_size _ rfl))
  have g2 : (zs5 s.heap x t y u).get? (zs1 s.heap x t).objs.size = some _ := Heap.get?_push_of_some _ (Heap.get?_push_of_some _ (Heap.get?_push_of_some _ (Heap.get?_push_size _ rfl)))
  have g1 : (zs5 s.heap x t y u).get? s.heap.objs.size = some _ := Heap.get?_push_of_some _ (Heap.get?_push_of_some _ (Heap.get?_push_of_some _ (Heap.get?_push_of_some _ (Heap.get?_push_size _ rfl))))
  show _ ∧ _
  rw [z2, z3, z4] at g5
  rw [z1, z2] at g3
  rw [z3] at g4
  rw [z1] at g2
  rw [z4]
  exact ⟨⟨_, g5, rfl⟩, h _ g5 g3 g4 ⟨_, g1, rfl, rfl⟩ ⟨_, g2, rfl, rfl⟩ z5 fun c o x =>
    Heap.get?_push_of_some _ (Heap.get?_push_of_some _ (Heap.get?_push_of_some _ (Heap.get?_push_of_some _ (Heap.get?_push_of_some _ x))))⟩
noncomputable def ZSSt (n : Nat) (x : Str) (t : Tok) (y : Str) (u : Tok) (i : Nat) (h : Heap) : Prop :=
  IsZip h (n + 4) (n + 2) (n + 3) .none ∧ IsPair h (n + 2) (.ref n) (.ref (n + 1)) ∧ (∃ a b, IsPair h (n + 3) a b) ∧ h.IsStrIter n "str_ascii_iterator" x t i ∧ h.IsStrIter (n + 1) "str_ascii_iterator" y u i
noncomputable def ZSMid (n : Nat) (x : Str) (t : Tok) (y : Str) (u : Tok) (i : Nat) (T : Addr) (h : Heap) : Prop :=
  IsZip h (n + 4) (n + 2) (n + 3) (rawInt T) ∧ IsPair h (n + 2) (.ref n) (.ref (n + 1)) ∧ (∃ a b, IsPair h (n + 3) a b) ∧ h.IsStrIter n "str_ascii_iterator" x t (i + 1) ∧ h.IsStrIter (n + 1) "str_ascii_iterator" y u (i + 1) ∧ T ∉ [(n + 4 : Addr), n + 3, n, n + 1]
theorem walks_zipS {n N : Nat} {x y : Str} {t u : Tok} (e1 : x.cps.size = N) (e2 : y.cps.size = N) (hh : A.handled = none) :
    WalksU prog w A (n + 4) [n + 4, n + 2, n + 3, n, n + 1] [n + 4, n + 3, n, n + 1] N
      (fun i vals => ∃ c d t1 t2, x.cps[i]? = some c ∧ y.cps[i]? = some d ∧ vals = #[.str ⟨#[c]⟩ t1, .str ⟨#[d]⟩ t2]) (ZSSt n x t y u) (ZSMid n x t y u) where
  sub := fun c hc => by simp at hc ⊢; rcases hc with rfl | rfl | rfl | rfl <;> simp
  frame := fun i h h' hst hk => by
    obtain ⟨hz, hTI, ⟨a, b, hTO⟩, h1, h2⟩ := hst
    exact ⟨hk _ (by simp) _ hz, hk _ (by simp) _ hTI, ⟨a, b, hk _ (by simp) _ hTO⟩, IsStrIter.at' h1 fun o e => hk _ (by simp) o e, IsStrIter.at' h2 fun o e => hk _ (by simp) o e⟩
  item := fun i s Q E hi hst hQ => by
    obtain ⟨hz, hTI, ⟨a, b, hTO⟩, h1, h2⟩ := hst
    have L : ∀ {a b : Nat}, a < b → (a : Addr) ≠ b := fun h => Nat.ne_of_lt h
    have G : ∀ {a b : Nat}, b < a → (a : Addr) ≠ b := fun h => Nat.ne_of_gt h
    have x1 : x.cps[i]? = some x.cps[i] := Array.getElem?_eq_getElem (by (first | lia | omega))
    have x2 : y.cps[i]? = some y.cps[i] := Array.getElem?_eq_getElem (by (first | lia | omega))
    have hT : s.TypeIs (.ref (n + 4)) "zip" := ⟨_, hz, rfl⟩
    have lt : ∀ {c o}, s.heap.get? c = some o → s.heap.objs.size ≠ c := fun e => Nat.ne_of_gt (Heap.lt_size e)
    unfold pyNext
    refine wpAny_bind (wpAny_attempt (wpAny_callSpecial?_slot (name := Str.ofString "__next__") hT F.slot_zip_next
      (wpAny_call_entry F.slot_zip_next hT F.entry_zip_next
        (zipS_item hz hTI hTO h1 h2 x1 x2 fun h' tk t1 t2 a1 a2 a3 a4 a6 hk => wpAny_pure ?_) (F.args_zip_next_1 _))))
    refine hQ s.heap.objs.size #[.str ⟨#[x.cps[i]]⟩ t1, .str ⟨#[y.cps[i]]⟩ t2] h' tk ⟨_, _, _, _, x1, x2, rfl⟩ ⟨_, a6, rfl, _, rfl⟩
      ⟨a1, hk _ _ (L (by (first | lia | omega))) (L (by (first | lia | omega))) (G (by (first | lia | omega))) (G (by (first | lia | omega))) hTI, ⟨_, _, a2⟩, a3, a4, ?_⟩
      fun c o hc e => hk c o (fun x => hc (by simp [x])) (fun x => hc (by simp [x])) (fun x => hc (by simp [x])) (fun x => hc (by simp [x])) e
    obtain ⟨_, q1, _⟩ := h1
    obtain ⟨_, q2, _⟩ := h2
    intro hm
    simp only [List.mem_cons, List.not_mem_nil, or_false] at hm
    rcases hm with e | e | e | e
    · exact lt hz e
    · exact lt hTO e
    · exact lt q1 e
    · exact lt q2 e
  go := fun elts k pos i T s Q E hm hQ => by
    obtain ⟨hz, hTI, ⟨a, b, hTO⟩, h1, h2, _⟩ := hm
    have L : ∀ {a b : Nat}, a < b → (a : Addr) ≠ b := fun h => Nat.ne_of_lt h
    refine wpAny_letOwnedTupleGo_zip hz fun h' hz' hs' => hQ h' ⟨hz', hs'.extBut _ _ (L (by (first | lia | omega))) hTI, ⟨a, b, hs'.extBut _ _ (L (by (first | lia | omega))) hTO⟩, IsStrIter.at' h1 fun o e => hs'.extBut _ _ (L (by (first | lia | omega))) e, IsStrIter.at' h2 fun o e => hs'.extBut _ _ (L (by (first | lia | omega))) e⟩ fun c o hc e => hs'.extBut _ _ (fun x => hc (by simp [x])) e
  apart := fun i T h hm => hm.2.2.2.2.2
  done := fun s Q E hst hQ => by
    obtain ⟨hz, hTI, ⟨a, b, hTO⟩, h1, h2⟩ := hst
    have hT : s.TypeIs (.ref (n + 4)) "zip" := ⟨_, hz, rfl⟩
    unfold pyNext
    refine wpAny_bind (wpAny_attempt (wpAny_callSpecial?_slot (name := Str.ofString "__next__") hT F.slot_zip_next
      (wpAny_call_entry F.slot_zip_next hT F.entry_zip_next (zipS_end hh hz hTI hTO h1 (Array.getElem?_eq_none (by (first | lia | omega))) fun h' e hk he => ?_) (F.args_zip_next_1 _))))
    obtain ⟨o, ho, hc⟩ := he
    refine wpAny_bind (wpAny_isInstance (T := "StopIteration") (b := true) ⟨o, ho, hc⟩ isSubtype_stop ?_)
    exact wpAny_pure (hQ h' s.toks fun c o hc e => hk c o (fun x => hc (by simp [x])) (fun x => hc (by simp [x])) e)
  self := fun i s Q E hst hQ => wpAny_pyIter_zip hst.1 hQ
end
end Mine

namespace Mine
theorem all2_snoc {α β : Type} {R : α → β → Prop} {l : List α} {k : List β} {a : α} {b : β} (h : All2 R l k) (hr : R a b) : All2 R (l ++ [a]) (k ++ [b]) := by
  induction h with
  | nil => exact .cons hr .nil
  | cons h1 _ ih => exact .cons h1 ih
section
variable {prog : Program} {w : World} {A : Around} {E : Value → Shared → Prop} {s : Shared}
theorem zl_loop {elt target iter : Expr} {ifs : List Expr} {scope : Scope} {pos : Pos} {it acc : Value} {env : Env} {R : Result → Shared → Prop} (I : Nat → Shared → Prop)
    (turn : ∀ n s, I n s → wpAny (model prog w) A (pyNext it) (fun r s₁ => match r with
      | none => R (.ok .next) s₁
      | some v => wpAny (model prog w) A (letOwnedTupleGo target it v) (fun _ s₀ => wpAny (model prog w) A (assign target env v) (fun _ s₂ =>
          wpAny (model prog w) A (forIn ifs true fun c r => if r = true then do let ok ← isTrue c env (eval c env); pure (ForInStep.yield ok) else pure (ForInStep.yield r)) (fun ok s₃ =>
            if ok = true then wpAny (model prog w) A (eval elt env) (fun x s₄ =>
              wpAny (model prog w) A (call (.builtin "list.append") [acc, x]) (fun _ s₅ => ∃ m, m < n ∧ I m s₅) (notedBy (model prog w) A env fun e s' => R (.error e) s') s₄) (notedBy (model prog w) A env fun e s' => R (.error e) s') s₃
            else ∃ m, m < n ∧ I m s₃) (notedBy (model prog w) A env fun e s' => R (.error e) s') s₂)
          (notedBy (model prog w) A env fun e s' => R (.error e) s') s₀) (notedBy (model prog w) A env fun e s' => R (.error e) s') s₁) (notedBy (model prog w) A env fun e s' => R (.error e) s') s)
    (n : Nat) (h : I n s) : codeAny (model prog w) A (.compLoop (.ListComp elt [⟨target, iter, ifs, 0⟩] scope pos) 0 it acc env) R s := by
  refine codeAny_loop rfl I (fun n s hI => ?_) n h
  show wpAny _ A ((compTurn (.ListComp elt [⟨target, iter, ifs, 0⟩] scope pos) 0 it acc env).onRaise (fun x => do noteFrame x env; theTreesLotGoes x)) _ _ s
  refine wpAny_noted ?_
  rw [compTurn_list]
  refine wpAny_bind (wpAny_standAt (wpAny_bind (wpAny_mono (turn n s hI) (fun r s₁ h₁ => ?_) fun _ _ h' => h')))
  cases r with
  | none => exact wpAny_pure h₁
  | some v =>
    refine wpAny_bind (wpAny_mono h₁ (fun _ s₀ h₀' => ?_) fun _ _ h' => h')
    refine wpAny_bind (wpAny_mono h₀' (fun _ s₂ h₂ => ?_) fun _ _ h' => h')
    refine wpAny_bind (wpAny_mono h₂ (fun ok s₃ h₃ => ?_) fun _ _ h' => h')
    cases ok with
    | false => exact wpAny_pure ⟨rfl, h₃⟩
    | true => exact wpAny_bind (wpAny_bind (wpAny_mono h₃ (fun x s₄ h₄ => wpAny_bind (wpAny_mono h₄ (fun _ s₅ h₅ => wpAny_pure (wpAny_pure ⟨rfl, h₅⟩)) fun _ _ h' => h')) fun _ _ h' => h'))

/-- a target of names takes a tuple -/
noncomputable def Asg (prog : Program) (w : World) (A : Around) (target : Expr) (cenv : Env) (Ok : Array Value → Prop) (Bd : Array Value → (Str → Option Value) → Prop) : Prop :=
  ∀ (s : Shared) (T : Addr) (vals : Array Value) (m : Str → Option Value) (Q : Unit → Shared → Prop) (E : Value → Shared → Prop), s.heap.IsTuple T vals → Ok vals → s.heap.Ns cenv.locals m →
    (∀ h' tk m', Bd vals m' → h'.Ns cenv.locals m' → (∀ c o, c ≠ cenv.locals → s.heap.get? c = some o → h'.get? c = some o) → Q () { s with heap := h', toks := tk }) →
    wpAny (model prog w) A (assign target cenv (.ref T)) Q E s
noncomputable abbrev Bd2 (a b : Str) (vals : Array Value) (m : Str → Option Value) : Prop := ∃ x y, vals = #[x, y] ∧ m a = some x ∧ m b = some y
noncomputable abbrev Bd3 (a b c : Str) (vals : Array Value) (m : Str → Option Value) : Prop := ∃ x y z, vals = #[x, y, z] ∧ m a = some x ∧ m b = some y ∧ m c = some z
theorem asg2 {cenv : Env} {a b : Str} {pa pb tp : Pos} {kk : Nat} (hh : A.handled = none) (ha : cenv.kindOf a = some .local) (hb : cenv.kindOf b = some .local) (hp : (cenv.scope.kind == .class || (cenv.scope.kind == .module && cenv.locals != cenv.globals)) = false) (hab : a ≠ b) :
    Asg prog w A (.Tuple [.Name a pa, .Name b pb] kk tp) cenv (fun vals => vals.size = 2) (Bd2 a b) := by
  intro s T vals m Q E ht hok hn h
  obtain ⟨x, y, rfl⟩ : ∃ x y, vals = #[x, y] := by
    obtain ⟨l⟩ := vals
    match l, hok with
    | [x, y], _ => exact ⟨x, y, rfl⟩
  exact kcp_assign hh ht ha hb hp hn fun h' tk hn' hk => h h' tk _ ⟨x, y, rfl, by simp [hab], by simp⟩ hn' hk
theorem asg3 {cenv : Env} {a b c : Str} {pa pb pc tp : Pos} {kk : Nat} (hh : A.handled = none) (ha : cenv.kindOf a = some .local) (hb : cenv.kindOf b = some .local) (hc : cenv.kindOf c = some .local) (hp : (cenv.scope.kind == .class || (cenv.scope.kind == .module && cenv.locals != cenv.globals)) = false) (hab : a ≠ b) (hac : a ≠ c) (hbc : b ≠ c) :
    Asg prog w A (.Tuple [.Name a pa, .Name b pb, .Name c pc] kk tp) cenv (fun vals => vals.size = 3) (Bd3 a b c) := by
  intro s T vals m Q E ht hok hn h
  obtain ⟨x, y, z, rfl⟩ : ∃ x y z, vals = #[x, y, z] := by
    obtain ⟨l⟩ := vals
    match l, hok with
    | [x, y, z], _ => exact ⟨x, y, z, rfl⟩
  refine wpAny_assign_Tuple hh ht rfl rfl fun h₁ he₁ => ?_
  have hL : cenv.locals ≠ s.heap.objs.size := Nat.ne_of_lt hn.lt
  have hn₁ : h₁.Ns cenv.locals m := hn.at' fun o e => he₁ _ o hL e
  have up₁ : ∀ c o, s.heap.get? c = some o → h₁.get? c = some o := fun c o e => he₁ c o (Nat.ne_of_lt (Heap.lt_size e)) e
  show wpAny _ _ (assignInOrder [assign (.Name a pa) cenv, assign (.Name b pb) cenv, assign (.Name c pc) cenv] [x, y, z]) _ _ _
  refine assignInOrder_cons ?_
  refine wpAny_assign_Name (wpAny_storeName_local ha hn₁ (fun h₂ hn₂ hs₂ => ?_) hp)
  refine assignInOrder_cons ?_
  refine wpAny_assign_Name (wpAny_storeName_local hb hn₂ (fun h₃ hn₃ hs₃ => ?_) hp)
  refine assignInOrder_cons ?_
  refine wpAny_assign_Name (wpAny_storeName_local hc hn₃ (fun h₄ hn₄ hs₄ => ?_) hp)
  refine assignInOrder_nil ?_
  exact h h₄ _ _ ⟨x, y, z, rfl, by simp [hab, hac], by simp [hbc], by simp⟩ hn₄ fun c o hc e => hs₄.extBut c o hc (hs₃.extBut c o hc (hs₂.extBut c o hc (up₁ c o e)))

theorem zloop {α : Type} {items : List α} (Is : α → Array Value → Prop) (R : α → Value → Prop) (pz : α → Bool) {elt iter : Expr} {elts : List Expr} {kk : Nat} {tp : Pos} {ifs : List Expr} {scope : Scope} {pos : Pos} {I D : Addr} {fp wr : List Addr} {n : Nat} {Pt : Nat → Array Value → Prop} {St : Nat → Heap → Prop} {Mid : Nat → Addr → Heap → Prop}
    {cenv : Env} {m : Str → Option Value} {Ok : Array Value → Prop} {Bd : Array Value → (Str → Option Value) → Prop} {RR : Result → Shared → Prop} (W : WalksU prog w A I fp wr n Pt St Mid) (hlen : items.length = n) (hPt : ∀ i vals, Pt i vals → ∃ a, items[i]? = some a ∧ Is a vals) (hOk : ∀ i vals, Pt i vals → Ok vals)
    (asg : Asg prog w A (.Tuple elts kk tp) cenv Ok Bd) (hDC : D ≠ cenv.locals) (hDf : D ∉ fp) (hCf : cenv.locals ∉ fp)
    (hst : St 0 s.heap) (hacc : s.heap.PlainList D #[]) (hn : s.heap.Ns cenv.locals m)
    (htests : ∀ a vals s₂ m₂, a ∈ items → Is a vals → s₂.heap.Ns cenv.locals m₂ → Bd vals m₂ → (∀ b o, b ≠ cenv.locals → b ∉ wr → b ≠ D → s.heap.get? b = some o → s₂.heap.get? b = some o) →
      wpAny (model prog w) A (forIn ifs true fun c r => if r = true then do let ok ← isTrue c cenv (eval c cenv); pure (ForInStep.yield ok) else pure (ForInStep.yield r))
        (fun ok s₃ => ok = pz a ∧ Keeps s₂ s₃) (notedBy (model prog w) A cenv fun e s' => RR (.error e) s') s₂)
    (helt : ∀ a vals s₂ m₂, a ∈ items → pz a = true → Is a vals → s₂.heap.Ns cenv.locals m₂ → Bd vals m₂ → (∀ b o, b ≠ cenv.locals → b ∉ wr → b ≠ D → s.heap.get? b = some o → s₂.heap.get? b = some o) →
      wpAny (model prog w) A (eval elt cenv) (fun y s₃ => R a y ∧ Keeps s₂ s₃) (notedBy (model prog w) A cenv fun e s' => RR (.error e) s') s₂)
    (hR : ∀ h' tk m' (ys : Array Value), h'.Ns cenv.locals m' → h'.PlainList D ys → All2 R (items.filter pz) ys.toList → (∀ b o, b ≠ cenv.locals → b ∉ wr → b ≠ D → s.heap.get? b = some o → h'.get? b = some o) → RR (.ok .next) { s with heap := h', toks := tk })
    (hsz : n ≤ sizeLine) :
    codeAny (model prog w) A (.compLoop (.ListComp elt [⟨.Tuple elts kk tp, iter, ifs, 0⟩] scope pos) 0 (.ref I) (.ref D) cenv) RR s := by
  refine zl_loop
    (fun k s' => ∃ h' tk m' ys i, s' = { s with heap := h', toks := tk } ∧ i ≤ n ∧ k = n + 1 - i ∧ St i h' ∧ h'.PlainList D ys ∧ h'.Ns cenv.locals m' ∧ All2 R ((items.take i).filter pz) ys.toList ∧
      (∀ b o, b ≠ cenv.locals → b ∉ wr → b ≠ D → s.heap.get? b = some o → h'.get? b = some o)) ?_ (n + 1)
    ⟨s.heap, s.toks, m, #[], 0, rfl, Nat.zero_le _, rfl, hst, hacc, hn, by simpa using All2.nil, fun _ _ _ _ _ e => e⟩
  rintro k s' ⟨H, tk, m', ys, i, rfl, hi, rfl, hst', hacc', hn', hF, hk⟩
  have hCw : cenv.locals ∉ wr := fun h => hCf (W.sub _ h)
  have hDw : D ∉ wr := fun h => hDf (W.sub _ h)
  by_cases hlt : i < n
  · refine W.item i _ _ _ hlt hst' fun T vals h₁ tk₁ hPv hT₁ hM₁ hk₁ => ?_
    refine W.go elts kk tp i T _ _ _ hM₁ fun h₂ hst₂ hk₂ => ?_
    obtain ⟨a, ha, hIa⟩ := hPt i vals hPv
    have ham : a ∈ items := List.mem_of_getElem? ha
    have hT₂ : h₂.IsTuple T vals := hT₁.at fun o e => hk₂ _ o (W.apart _ _ _ hM₁) e
    have hn₂ : h₂.Ns cenv.locals m' := (hn'.at' fun o e => hk₁ _ o hCw e).at' fun o e => hk₂ _ o hCw e
    refine asg _ T vals m' _ _ hT₂ (hOk i vals hPv) hn₂ fun h₃ tk₃ m₃ hB hn₃ hk₃ => ?_
    have up₃ : ∀ b o, b ≠ cenv.locals → b ∉ wr → H.get? b = some o → h₃.get? b = some o := fun b o hbC hbf e => hk₃ b o hbC (hk₂ b o hbf (hk₁ b o hbf e))
    have hst₃ : St (i + 1) h₃ := W.frame _ _ _ hst₂ fun b hb o e => hk₃ b o (fun h => hCf (h ▸ hb)) e
    refine wpAny_mono (htests a vals _ _ ham hIa hn₃ hB fun b o hbC hbf hbD e => up₃ b o hbC hbf (hk b o hbC hbf hbD e)) (fun ok s₄ h₄ => ?_) fun _ _ e => e
    obtain ⟨rfl, h₄, tk₄, rfl, hk₄⟩ := h₄
    have hst₄ : St (i + 1) h₄ := W.frame _ _ _ hst₃ fun b _ o e => hk₄ b o e
    have hacc₄ : h₄.PlainList D ys := hacc'.at fun o e => hk₄ _ o (up₃ D o hDC hDw e)
    have hn₄ := hn₃.keeps hk₄
    have htk : items.take (i + 1) = items.take i ++ [a] := by rw [List.take_add_one, ha]; rfl
    cases hpv : pz a with
    | false =>
      simp only [Bool.false_eq_true, if_false]
      refine ⟨n + 1 - (i + 1), by (first | lia | omega), h₄, tk₄, _, ys, i + 1, rfl, hlt, rfl, hst₄, hacc₄, hn₄, ?_, fun b o hbC hbf hbD e => hk₄ b o (up₃ b o hbC hbf (hk b o hbC hbf hbD e))⟩
      rw [htk, List.filter_append, List.filter_cons_of_neg (by simp [hpv]), List.filter_nil, List.append_nil]
      exact hF
    | true =>
      simp only [if_true]
      refine wpAny_mono (helt a vals _ _ ham hpv hIa hn₄ hB fun b o hbC hbf hbD e => hk₄ b o (up₃ b o hbC hbf (hk b o hbC hbf hbD e))) (fun y s₅ h₅ => ?_) fun _ _ e => e
      obtain ⟨hRy, h₅, tk₅, rfl, hk₅⟩ := h₅
      have hys : ys.size ≤ sizeLine := by
        have e1 := hF.length
        have e2 : ((items.take i).filter pz).length ≤ (items.take i).length := List.length_filter_le _ _
        have e3 := List.length_take_le i items
        have e4 : ys.toList.length = ys.size := by simp
        (first | lia | omega)
      refine wpAny_list_append_plain (hsz := hys) (hacc₄.at fun o e => hk₅ _ o e) fun h₆ hl₆ hs₆ => ?_
      refine ⟨n + 1 - (i + 1), by (first | lia | omega), h₆, tk₅, _, ys.push y, i + 1, rfl, hlt, rfl, ?_, hl₆, (hn₄.keeps hk₅).sameBut hs₆ (Ne.symm hDC), ?_, fun b o hbC hbf hbD e => hs₆.extBut b o hbD (hk₅ b o (hk₄ b o (up₃ b o hbC hbf (hk b o hbC hbf hbD e))))⟩
      · exact W.frame _ _ h₆ hst₄ fun b hb o e => hs₆.extBut b o (fun h => hDf (h ▸ hb)) (hk₅ b o e)
      · rw [htk, List.filter_append, List.filter_cons_of_pos hpv, List.filter_nil, Array.toList_push]
        exact all2_snoc hF hRy
  · obtain rfl : i = n := by (first | lia | omega)
    refine W.done _ _ _ hst' fun h₁ tk₁ hk₁ => ?_
    rw [← hlen, List.take_length] at hF
    exact hR h₁ tk₁ m' ys (hn'.at' fun o e => hk₁ _ o hCw e) (hacc'.at fun o e => hk₁ _ o hDw e) hF fun b o hbC hbf hbD e => hk₁ b o hbf (hk b o hbC hbf hbD e)
end
end Mine

namespace Mine
/-- what is asked of an iterator of tuples under a comprehension -/
noncomputable def ZcAt (prog : Program) (w : World) (A : Around) (env : Env) (target elt : Expr) (scope : Scope) (cl : List (Str × Addr)) (ifs : List Expr) (Q : Value → Shared → Prop) (it : Value) (s₂ : Shared) : Prop :=
  ∃ (α : Type) (items : List α) (Is : α → Array Value → Prop) (R : α → Value → Prop) (pz : α → Bool) (g₀ : Heap) (I : Addr) (fp wr : List Addr) (n : Nat) (Pt : Nat → Array Value → Prop) (St : Nat → Heap → Prop) (Mid : Nat → Addr → Heap → Prop)
    (Ok : Array Value → Prop) (Bd : Array Value → (Str → Option Value) → Prop),
    it = .ref I ∧ WalksU prog w A I fp wr n Pt St Mid ∧ items.length = n ∧ n ≤ sizeLine ∧ (∀ i vals, Pt i vals → ∃ a, items[i]? = some a ∧ Is a vals) ∧ (∀ i vals, Pt i vals → Ok vals) ∧
    St 0 s₂.heap ∧ (∀ b ∈ fp, b < s₂.heap.objs.size) ∧ (∀ b o, g₀.get? b = some o → s₂.heap.get? b = some o) ∧ (∀ b ∈ wr, g₀.get? b = none) ∧ g₀.objs.size ≤ s₂.heap.objs.size ∧
    (∀ C, Asg prog w A target (compEnvC scope cl C env) Ok Bd) ∧
    (∀ C a vals (s₃ : Shared) m₃ E', a ∈ items → Is a vals → Fr g₀ C s₃.heap m₃ → News g₀ C s₃.heap [] → Bd vals m₃ →
      wpAny (model prog w) A (forIn ifs true fun c r => if r = true then do let ok ← isTrue c (compEnvC scope cl C env) (eval c (compEnvC scope cl C env)); pure (ForInStep.yield ok) else pure (ForInStep.yield r)) (fun ok s₄ => ok = pz a ∧ Keeps s₃ s₄) E' s₃) ∧
    (∀ C a vals (s₃ : Shared) m₃ E', a ∈ items → pz a = true → Is a vals → Fr g₀ C s₃.heap m₃ → News g₀ C s₃.heap [] → Bd vals m₃ →
      wpAny (model prog w) A (eval elt (compEnvC scope cl C env)) (fun y s₄ => R a y ∧ Keeps s₃ s₄) E' s₃) ∧
    (∀ D h' tk (ys : List Value) k, g₀.get? D = none → s₂.heap.get? D = none → h'.get? D = some (listOf ys.toArray k) → All2 R (items.filter pz) ys → (∀ b o, b ∉ wr → s₂.heap.get? b = some o → h'.get? b = some o) → Q (.ref D) { s₂ with heap := h', toks := tk })
section
variable {prog : Program} {w : World} {A : Around} {E : Value → Shared → Prop} {env : Env}
theorem ListComp_Z {s : Shared} {elt iter : Expr} {elts : List Expr} {kk : Nat} {tp : Pos} {ifs : List Expr} {scope : Scope} {cl : List (Str × Addr)} {pos : Pos} {Q : Value → Shared → Prop}
    (hclos : closureFor scope env = pure cl) (hcell : ∀ y ∈ scope.names, y.2 ≠ .cell) (hkind : scope.kind = .function)
    (hnames : ∀ y ∈ scope.names, y.2 = .local → scope.names.lookup y.1 = some .local)
    (h : wpAny (model prog w) A (eval iter env) (fun xv s₁ => wpAny (model prog w) A (pyIter xv) (ZcAt prog w A env (.Tuple elts kk tp) elt scope cl ifs Q) E s₁) E s)
    (hs : ∀ x, foldedSetIterable iter env x = pure x) :
    wpAny (model prog w) A (eval (.ListComp elt [⟨.Tuple elts kk tp, iter, ifs, 0⟩] scope pos) env) Q E s := by
  rw [eval_ListComp]
  refine wpAny_comprehension_free (use := none) rfl hs hclos hkind hnames (wpAny_mono h (fun xv s₁ h₁ => wpAny_mono h₁ (fun it s₂ h₂ => ?_) fun _ _ e => e) fun _ _ e => e)
  obtain ⟨α, items, Is, R, pz, g₀, I, fp, wr, n, Pt, St, Mid, Ok, Bd, rfl, W, hlen, hsz, hPt, hOk, hst, hfp, hg, hwr, hgs, asg, htests, helt, hQ⟩ := h₂
  refine wpAny_newObj_type (wpAny_newFunctionEnv hcell (by intro y hy; simp at hy) (fun h₁ hns₁ hsb₁ => ?_) hkind)
  dsimp only at hns₁ hsb₁ ⊢
  generalize hH2 : s₂.heap.push { cls := .type "list", dict := none, data := .seq ([] : List Value).toArray } = H2 at hns₁ hsb₁ ⊢
  have hC : H2.objs.size = s₂.heap.objs.size + 1 := by rw [← hH2, Heap.size_push]
  have hDC : s₂.heap.objs.size ≠ H2.objs.size := by rw [hC]; exact Nat.ne_of_lt (Nat.lt_succ_self _)
  have hCle : s₂.heap.objs.size ≤ H2.objs.size := by rw [hC]; exact Nat.le_succ _
  have below : ∀ b, b < s₂.heap.objs.size → b ≠ H2.objs.size ∧ b ≠ s₂.heap.objs.size := fun b hb => ⟨by rw [hC]; exact Nat.ne_of_lt (Nat.lt_succ_of_lt hb), Nat.ne_of_lt hb⟩
  have hDf : s₂.heap.objs.size ∉ fp := fun hm => Nat.lt_irrefl _ (hfp _ hm)
  have hCf : H2.objs.size ∉ fp := fun hm => by have := hfp _ hm; rw [hC] at this; exact Nat.lt_irrefl _ (Nat.lt_of_succ_lt this)
  have old : ∀ b o, s₂.heap.get? b = some o → h₁.get? b = some o := fun b o e => hsb₁.extBut b o (below b (Heap.lt_size e)).1 (Heap.get?_push_of_some _ (hH2 ▸ Heap.get?_push_of_some _ e))
  have hacc : h₁.PlainList s₂.heap.objs.size #[] := ⟨_, hsb₁.extBut _ _ hDC (Heap.get?_push_of_some _ (hH2 ▸ Heap.get?_push_size _ rfl))⟩
  have hst₁ : St 0 h₁ := W.frame _ _ _ hst fun b _ o e => old b o e
  have fresh : ∀ a, s₂.heap.objs.size ≤ a → s₂.heap.get? a = none := fun a ha => by
    cases e : s₂.heap.get? a with
    | none => rfl
    | some o' => exact absurd (Heap.lt_size e) (Nat.not_lt.mpr ha)
  have gk : ∀ (s₃ : Shared), (∀ b o, b ≠ H2.objs.size → b ∉ wr → b ≠ s₂.heap.objs.size → h₁.get? b = some o → s₃.heap.get? b = some o) → ∀ b o, g₀.get? b = some o → s₃.heap.get? b = some o := fun s₃ hk b o e =>
    hk b o (below b (Heap.lt_size (hg b o e))).1 (fun hm => by rw [hwr b hm] at e; cases e) (below b (Heap.lt_size (hg b o e))).2 (old b o (hg b o e))
  have loop : ∀ s₃ : Shared, s₃ = { s₂ with heap := h₁, toks := s₂.toks + ([] : List (Str × Value)).length } →
      codeAny (model prog w) A (.compLoop (.ListComp elt [⟨.Tuple elts kk tp, iter, ifs, 0⟩] scope pos) 0 (.ref I) (.ref s₂.heap.objs.size) (compEnvC scope cl H2.objs.size env))
        (compPost (model prog w) A E none Q (.ref s₂.heap.objs.size) H2.objs.size) s₃ := by
    rintro s₃ rfl
    refine zloop Is R pz (cenv := compEnvC scope cl H2.objs.size env) W hlen hPt hOk (asg _) hDC hDf hCf hst₁ hacc hns₁
      (fun a vals s₃ m₃ ha hI hn hB hk => htests _ a vals s₃ m₃ _ ha hI ⟨hn, gk s₃ hk, Nat.le_trans hgs hCle⟩ News.nil hB)
      (fun a vals s₃ m₃ ha hp hI hn hB hk => helt _ a vals s₃ m₃ _ ha hp hI ⟨hn, gk s₃ hk, Nat.le_trans hgs hCle⟩ News.nil hB) (fun h' tk m' ys hn hpl hA hk => ?_) hsz
    refine ⟨m', hn, fun h'' hs'' => ?_⟩
    obtain ⟨k, hpl⟩ := hpl
    have hDs := fresh s₂.heap.objs.size (Nat.le_refl _)
    have hD0 : g₀.get? s₂.heap.objs.size = none := by
      cases e : g₀.get? s₂.heap.objs.size with
      | none => rfl
      | some o => have := hg _ _ e; rw [hDs] at this; cases this
    refine hQ _ h'' tk ys.toList k hD0 hDs (by simpa using hs''.extBut _ _ hDC hpl) hA fun b o hb e => ?_
    exact hs''.extBut b o (below b (Heap.lt_size e)).1 (hk b o (below b (Heap.lt_size e)).1 hb (below b (Heap.lt_size e)).2 (old b o e))
  exact codeAny_compStart_list (loop _ rfl) (W.self 0 _ _ _ hst₁ (loop _ rfl))

/-- a zip of three lists of numbers -/
theorem zip3_src {s : Shared} {target elt : Expr} {scope : Scope} {cl : List (Str × Addr)} {ifs : List Expr} {Q : Value → Shared → Prop} {l1 l2 l3 : Addr} {v1 v2 v3 : List Value} {a1 a2 a3 : List Nat} (R : Nat × Nat × Nat → Value → Prop) {x y z : Str} (hh : A.handled = none)
    (hl1 : s.heap.IsList l1 v1.toArray) (hl2 : s.heap.IsList l2 v2.toArray) (hl3 : s.heap.IsList l3 v3.toArray) (i1 : NatsAre v1 a1) (i2 : NatsAre v2 a2) (i3 : NatsAre v3 a3) (e2 : a2.length = a1.length) (e3 : a3.length = a1.length) (hsz : a1.length ≤ 1000)
    (asg : ∀ C, Asg prog w A target (compEnvC scope cl C env) (fun vals => vals.size = 3) (Bd3 x y z)) (hif : ifs = [])
    (turn : ∀ C a b c t1 t2 t3 (s₃ : Shared) m₃ E', (a, b, c) ∈ a1.zip (a2.zip a3) → Fr s.heap C s₃.heap m₃ → News s.heap C s₃.heap [] → m₃ x = some (.int (a : Nat) t1) → m₃ y = some (.int (b : Nat) t2) → m₃ z = some (.int (c : Nat) t3) →
      wpAny (model prog w) A (eval elt (compEnvC scope cl C env)) (fun y s₄ => R (a, b, c) y ∧ Keeps s₃ s₄) E' s₃)
    (fin : ∀ D h' tk (ys : List Value) k, s.heap.get? D = none → h'.get? D = some (listOf ys.toArray k) → All2 R (a1.zip (a2.zip a3)) ys → Ext s.heap h' → Q (.ref D) { s with heap := h', toks := tk }) :
    wpAny (model prog w) A (call (.type "zip") [.ref l1, .ref l2, .ref l3]) (fun xv s₁ => wpAny (model prog w) A (pyIter xv) (ZcAt prog w A env target elt scope cl ifs Q) E s₁) E s := by
  subst hif
  refine call_zip_3 hl1 hl2 hl3 fun h' hz hTI hTO h1 h2 h3 hsz' hk => ?_
  have lt1 : l1 < s.heap.objs.size := by obtain ⟨_, e, _⟩ := hl1; exact Heap.lt_size e
  have lt2 : l2 < s.heap.objs.size := by obtain ⟨_, e, _⟩ := hl2; exact Heap.lt_size e
  have lt3 : l3 < s.heap.objs.size := by obtain ⟨_, e, _⟩ := hl3; exact Heap.lt_size e
  have n1 := i1.length
  have n2 := i2.length
  have n3 := i3.length
  rw [List.length_map] at n1 n2 n3
  refine wpAny_pyIter_zip hz ?_
  have fresh : ∀ a, s.heap.objs.size ≤ a → s.heap.get? a = none := fun a ha => by
    cases e : s.heap.get? a with
    | none => rfl
    | some o' => exact absurd (Heap.lt_size e) (Nat.not_lt.mpr ha)
  have A1 := All2.ofNats i1
  have A2 := All2.ofNats i2
  have A3 := All2.ofNats i3
  refine ⟨Nat × Nat × Nat, a1.zip (a2.zip a3), fun a vals => ∃ t1 t2 t3, vals = #[.int (a.1 : Nat) t1, .int (a.2.1 : Nat) t2, .int (a.2.2 : Nat) t3], R, fun _ => true, s.heap, _, _, _, a1.length, _, _, _, _, _, rfl,
    walks_zip3 (n := s.heap.objs.size) (N := a1.length) lt1 lt2 lt3 (by simpa using n1) (by simpa [e2] using n2) (by simpa [e3] using n3) hh, (by rw [List.length_zip, List.length_zip]; (first | lia | omega)), (by rw [sizeLine_eq]; (first | lia | omega)), ?_, ?_,
    ⟨hz, hTI, ⟨_, _, _, hTO⟩, h1, h2, h3, hl1.at fun o e => hk _ _ e, hl2.at fun o e => hk _ _ e, hl3.at fun o e => hk _ _ e⟩, ?_, hk, ?_, (by rw [hsz']; exact Nat.le_add_right _ _), asg, ?_, ?_, ?_⟩
  · rintro i vals ⟨x, y, z, hx, hy, hz, rfl⟩
    obtain ⟨a, ha, t1, rfl⟩ := A1.at i x (by simpa using hx)
    obtain ⟨b, hb, t2, rfl⟩ := A2.at i y (by simpa using hy)
    obtain ⟨c, hc, t3, rfl⟩ := A3.at i z (by simpa using hz)
    exact ⟨(a, b, c), by rw [List.getElem?_zip_eq_some]; exact ⟨ha, by rw [List.getElem?_zip_eq_some]; exact ⟨hb, hc⟩⟩, t1, t2, t3, rfl⟩
  · rintro i vals ⟨x, y, z, hx, hy, hz, rfl⟩; rfl
  · intro b hb
    rw [hsz']
    simp only [List.mem_cons, List.not_mem_nil, or_false] at hb
    have : ∀ {p q : Nat}, p < q → (p : Addr) < q := fun h => h
    rcases hb with rfl | rfl | rfl | rfl | rfl | rfl | rfl | rfl | rfl
    · exact this (by (first | lia | omega))
    · exact this (by (first | lia | omega))
    · exact this (by (first | lia | omega))
    · exact this (by (first | lia | omega))
    · exact this (by (first | lia | omega))
    · exact this (by (first | lia | omega))
    · exact Nat.lt_of_lt_of_le lt1 (Nat.le_add_right _ _)
    · exact Nat.lt_of_lt_of_le lt2 (Nat.le_add_right _ _)
    · exact Nat.lt_of_lt_of_le lt3 (Nat.le_add_right _ _)
  · intro b hb
    refine fresh b ?_
    simp only [List.mem_cons, List.not_mem_nil, or_false] at hb
    rcases hb with rfl | rfl | rfl | rfl | rfl
    · exact Nat.le_add_right _ _
    · exact Nat.le_add_right _ _
    · exact Nat.le_refl _
    · exact Nat.le_add_right _ _
    · exact Nat.le_add_right _ _
  · intro C a vals s₃ m₃ E' _ _ _ _ _
    exact wpAny_tests_nil ⟨rfl, s₃.heap, s₃.toks, rfl, fun _ _ e => e⟩
  · rintro C ⟨a, b, c⟩ vals s₃ m₃ E' ha _ ⟨t1, t2, t3, rfl⟩ F N ⟨x', y', z', e, hx, hy, hz⟩
    simp only [Array.mk.injEq, List.cons.injEq, and_true] at e
    obtain ⟨rfl, rfl, rfl⟩ := e
    exact turn C a b c t1 t2 t3 s₃ m₃ E' ha F N hx hy hz
  · intro D h'' tk ys k hD _ hD' hA hk'
    rw [List.filter_eq_self.mpr fun _ _ => rfl] at hA
    exact fin D h'' tk ys k hD hD' hA fun b o e => hk' b o (fun hm => by
      rw [fresh b ?_] at e
      · cases e
      · simp only [List.mem_cons, List.not_mem_nil, or_false] at hm
        rcases hm with rfl | rfl | rfl | rfl | rfl
        · exact Nat.le_add_right _ _
        · exact Nat.le_add_right _ _
        · exact Nat.le_refl _
        · exact Nat.le_add_right _ _
        · exact Nat.le_add_right _ _) (hk b o e)
end
end Mine

namespace Mine
section
variable {prog : Program} {w : World} {A : Around} {E : Value → Shared → Prop} {env : Env}
theorem fresh_of {h : Heap} (a : Addr) (ha : h.objs.size ≤ a) : h.get? a = none := by
  cases e : h.get? a with
  | none => rfl
  | some o' => exact absurd (Heap.lt_size e) (Nat.not_lt.mpr ha)
/-- a zip of two lists of numbers -/
theorem zip2_src {s : Shared} {target elt : Expr} {scope : Scope} {cl : List (Str × Addr)} {ifs : List Expr} {Q : Value → Shared → Prop} {l1 l2 : Addr} {v1 v2 : List Value} {a1 a2 : List Nat} (R : Nat × Nat → Value → Prop) (pz : Nat × Nat → Bool) {x y : Str} (hh : A.handled = none)
    (hl1 : s.heap.IsList l1 v1.toArray) (hl2 : s.heap.IsList l2 v2.toArray) (i1 : NatsAre v1 a1) (i2 : NatsAre v2 a2) (e2 : a2.length = a1.length) (hsz : a1.length ≤ 1000)
    (asg : ∀ C, Asg prog w A target (compEnvC scope cl C env) (fun vals => vals.size = 2) (Bd2 x y))
    (tests : ∀ C a b t1 t2 (s₃ : Shared) m₃ E', (a, b) ∈ a1.zip a2 → Fr s.heap C s₃.heap m₃ → News s.heap C s₃.heap [] → m₃ x = some (.int (a : Nat) t1) → m₃ y = some (.int (b : Nat) t2) →
      wpAny (model prog w) A (forIn ifs true fun c r => if r = true then do let ok ← isTrue c (compEnvC scope cl C env) (eval c (compEnvC scope cl C env)); pure (ForInStep.yield ok) else pure (ForInStep.yield r)) (fun ok s₄ => ok = pz (a, b) ∧ Keeps s₃ s₄) E' s₃)
    (turn : ∀ C a b t1 t2 (s₃ : Shared) m₃ E', (a, b) ∈ a1.zip a2 → Fr s.heap C s₃.heap m₃ → News s.heap C s₃.heap [] → m₃ x = some (.int (a : Nat) t1) → m₃ y = some (.int (b : Nat) t2) →
      wpAny (model prog w) A (eval elt (compEnvC scope cl C env)) (fun y s₄ => R (a, b) y ∧ Keeps s₃ s₄) E' s₃)
    (fin : ∀ D h' tk (ys : List Value) k, s.heap.get? D = none → h'.get? D = some (listOf ys.toArray k) → All2 R ((a1.zip a2).filter pz) ys → Ext s.heap h' → Q (.ref D) { s with heap := h', toks := tk }) :
    wpAny (model prog w) A (call (.type "zip") [.ref l1, .ref l2]) (fun xv s₁ => wpAny (model prog w) A (pyIter xv) (ZcAt prog w A env target elt scope cl ifs Q) E s₁) E s := by
  refine call_zip_2 hl1 hl2 fun h' hz hTI hTO h1 h2 hsz' hk => ?_
  have lt1 : l1 < s.heap.objs.size := by obtain ⟨_, e, _⟩ := hl1; exact Heap.lt_size e
  have lt2 : l2 < s.heap.objs.size := by obtain ⟨_, e, _⟩ := hl2; exact Heap.lt_size e
  have n1 := i1.length
  have n2 := i2.length
  rw [List.length_map] at n1 n2
  refine wpAny_pyIter_zip hz ?_
  have A1 := All2.ofNats i1
  have A2 := All2.ofNats i2
  have hmin : min v1.toArray.size v2.toArray.size = a1.length := by simp [n1, n2, e2]
  have W := (WalksT.zip2 (prog := prog) (w := w) hh (s.heap.objs.size + 4) (s.heap.objs.size + 2) (s.heap.objs.size + 3) s.heap.objs.size (s.heap.objs.size + 1) l1 l2 (zipApart_new lt1 lt2) v1.toArray v2.toArray).toU
  rw [hmin] at W
  refine ⟨Nat × Nat, a1.zip a2, fun a vals => ∃ t1 t2, vals = #[.int (a.1 : Nat) t1, .int (a.2 : Nat) t2], R, pz, s.heap, _, _, _, a1.length, _, _, _, _, _, rfl,
    W, (by rw [List.length_zip]; (first | lia | omega)), (by rw [sizeLine_eq]; (first | lia | omega)), ?_, ?_,
    ⟨hz, hTI, ⟨_, _, hTO⟩, h1, h2, hl1.at fun o e => hk _ _ e, hl2.at fun o e => hk _ _ e⟩, ?_, hk, ?_, (by rw [hsz']; exact Nat.le_add_right _ _), asg, ?_, ?_, ?_⟩
  · rintro i vals ⟨x, y, hx, hy, rfl⟩
    obtain ⟨a, ha, t1, rfl⟩ := A1.at i x (by simpa using hx)
    obtain ⟨b, hb, t2, rfl⟩ := A2.at i y (by simpa using hy)
    exact ⟨(a, b), by rw [List.getElem?_zip_eq_some]; exact ⟨ha, hb⟩, t1, t2, rfl⟩
  · rintro i vals ⟨x, y, hx, hy, rfl⟩; rfl
  · intro b hb
    rw [hsz']
    simp only [List.mem_cons, List.not_mem_nil, or_false] at hb
    have : ∀ {p q : Nat}, p < q → (p : Addr) < q := fun h => h
    rcases hb with rfl | rfl | rfl | rfl | rfl | rfl | rfl
    · exact this (by (first | lia | omega))
    · exact this (by (first | lia | omega))
    · exact this (by (first | lia | omega))
    · exact this (by (first | lia | omega))
    · exact this (by (first | lia | omega))
    · exact Nat.lt_of_lt_of_le lt1 (Nat.le_add_right _ _)
    · exact Nat.lt_of_lt_of_le lt2 (Nat.le_add_right _ _)
  · intro b hb
    refine fresh_of b ?_
    simp only [List.mem_cons, List.not_mem_nil, or_false] at hb
    rcases hb with rfl | rfl | rfl | rfl
    · exact Nat.le_add_right _ _
    · exact Nat.le_add_right _ _
    · exact Nat.le_refl _
    · exact Nat.le_add_right _ _
  · rintro C ⟨a, b⟩ vals s₃ m₃ E' ha ⟨t1, t2, rfl⟩ F N ⟨x', y', e, hx, hy⟩
    simp only [Array.mk.injEq, List.cons.injEq, and_true] at e
    obtain ⟨rfl, rfl⟩ := e
    exact tests C a b t1 t2 s₃ m₃ E' ha F N hx hy
  · rintro C ⟨a, b⟩ vals s₃ m₃ E' ha _ ⟨t1, t2, rfl⟩ F N ⟨x', y', e, hx, hy⟩
    simp only [Array.mk.injEq, List.cons.injEq, and_true] at e
    obtain ⟨rfl, rfl⟩ := e
    exact turn C a b t1 t2 s₃ m₃ E' ha F N hx hy
  · intro D h'' tk ys k hD _ hD' hA hk'
    exact fin D h'' tk ys k hD hD' hA fun b o e => hk' b o (fun hm => by
      rw [fresh_of b ?_] at e
      · cases e
      · simp only [List.mem_cons, List.not_mem_nil, or_false] at hm
        rcases hm with rfl | rfl | rfl | rfl
        · exact Nat.le_add_right _ _
        · exact Nat.le_add_right _ _
        · exact Nat.le_refl _
        · exact Nat.le_add_right _ _) (hk b o e)
/-- a zip of two texts -/
theorem zipS_src {s : Shared} {target elt : Expr} {scope : Scope} {cl : List (Str × Addr)} {ifs : List Expr} {Q : Value → Shared → Prop} {y1 y2 : Str} {u1 u2 : Tok} (R : Nat × Nat → Value → Prop) (pz : Nat × Nat → Bool) {x y : Str} (hh : A.handled = none)
    (b1 : y1.cps.all (· < 128) = true) (b2 : y2.cps.all (· < 128) = true) (e2 : y2.cps.size = y1.cps.size) (hsz : y1.cps.size ≤ 1000)
    (asg : ∀ C, Asg prog w A target (compEnvC scope cl C env) (fun vals => vals.size = 2) (Bd2 x y))
    (tests : ∀ C a b t1 t2 (s₃ : Shared) m₃ E', (a, b) ∈ y1.cps.toList.zip y2.cps.toList → Fr s.heap C s₃.heap m₃ → News s.heap C s₃.heap [] → m₃ x = some (.str ⟨#[a]⟩ t1) → m₃ y = some (.str ⟨#[b]⟩ t2) →
      wpAny (model prog w) A (forIn ifs true fun c r => if r = true then do let ok ← isTrue c (compEnvC scope cl C env) (eval c (compEnvC scope cl C env)); pure (ForInStep.yield ok) else pure (ForInStep.yield r)) (fun ok s₄ => ok = pz (a, b) ∧ Keeps s₃ s₄) E' s₃)
    (turn : ∀ C a b t1 t2 (s₃ : Shared) m₃ E', (a, b) ∈ y1.cps.toList.zip y2.cps.toList → Fr s.heap C s₃.heap m₃ → News s.heap C s₃.heap [] → m₃ x = some (.str ⟨#[a]⟩ t1) → m₃ y = some (.str ⟨#[b]⟩ t2) →
      wpAny (model prog w) A (eval elt (compEnvC scope cl C env)) (fun y s₄ => R (a, b) y ∧ Keeps s₃ s₄) E' s₃)
    (fin : ∀ D h' tk (ys : List Value) k, s.heap.get? D = none → h'.get? D = some (listOf ys.toArray k) → All2 R ((y1.cps.toList.zip y2.cps.toList).filter pz) ys → Ext s.heap h' → Q (.ref D) { s with heap := h', toks := tk }) :
    wpAny (model prog w) A (call (.type "zip") [.str y1 u1, .str y2 u2]) (fun xv s₁ => wpAny (model prog w) A (pyIter xv) (ZcAt prog w A env target elt scope cl ifs Q) E s₁) E s := by
  refine call_zip_S b1 b2 fun h' hz hTI hTO h1 h2 hsz' hk => ?_
  refine wpAny_pyIter_zip hz ?_
  refine ⟨Nat × Nat, y1.cps.toList.zip y2.cps.toList, fun a vals => ∃ t1 t2, vals = #[.str ⟨#[a.1]⟩ t1, .str ⟨#[a.2]⟩ t2], R, pz, s.heap, _, _, _, y1.cps.size, _, _, _, _, _, rfl,
    walks_zipS (n := s.heap.objs.size) (N := y1.cps.size) rfl e2 hh, (by rw [List.length_zip]; simp [e2]), (by rw [sizeLine_eq]; (first | lia | omega)), ?_, ?_,
    ⟨hz, hTI, ⟨_, _, hTO⟩, h1, h2⟩, ?_, hk, ?_, (by rw [hsz']; exact Nat.le_add_right _ _), asg, ?_, ?_, ?_⟩
  · rintro i vals ⟨c, d, t1, t2, hx, hy, rfl⟩
    exact ⟨(c, d), by rw [List.getElem?_zip_eq_some]; exact ⟨by rw [Array.getElem?_toList]; exact hx, by rw [Array.getElem?_toList]; exact hy⟩, t1, t2, rfl⟩
  · rintro i vals ⟨c, d, t1, t2, hx, hy, rfl⟩; rfl
  · intro b hb
    rw [hsz']
    simp only [List.mem_cons, List.not_mem_nil, or_false] at hb
    have : ∀ {p q : Nat}, p < q → (p : Addr) < q := fun h => h
    rcases hb with rfl | rfl | rfl | rfl | rfl
    · exact this (by (first | lia | omega))
    · exact this (by (first | lia | omega))
    · exact this (by (first | lia | omega))
    · exact this (by (first | lia | omega))
    · exact this (by (first | lia | omega))
  · intro b hb
    refine fresh_of b ?_
    simp only [List.mem_cons, List.not_mem_nil, or_false] at hb
    rcases hb with rfl | rfl | rfl | rfl
    · exact Nat.le_add_right _ _
    · exact Nat.le_add_right _ _
    · exact Nat.le_refl _
    · exact Nat.le_add_right _ _
  · rintro C ⟨a, b⟩ vals s₃ m₃ E' ha ⟨t1, t2, rfl⟩ F N ⟨x', y', e, hx, hy⟩
    simp only [Array.mk.injEq, List.cons.injEq, and_true] at e
    obtain ⟨rfl, rfl⟩ := e
    exact tests C a b t1 t2 s₃ m₃ E' ha F N hx hy
  · rintro C ⟨a, b⟩ vals s₃ m₃ E' ha _ ⟨t1, t2, rfl⟩ F N ⟨x', y', e, hx, hy⟩
    simp only [Array.mk.injEq, List.cons.injEq, and_true] at e
    obtain ⟨rfl, rfl⟩ := e
    exact turn C a b t1 t2 s₃ m₃ E' ha F N hx hy
  · intro D h'' tk ys k hD _ hD' hA hk'
    exact fin D h'' tk ys k hD hD' hA fun b o e => hk' b o (fun hm => by
      rw [fresh_of b ?_] at e
      · cases e
      · simp only [List.mem_cons, List.not_mem_nil, or_false] at hm
        rcases hm with rfl | rfl | rfl | rfl
        · exact Nat.le_add_right _ _
        · exact Nat.le_add_right _ _
        · exact Nat.le_refl _
        · exact Nat.le_add_right _ _) (hk b o e)
end
end Mine

namespace Mine
/-- the lists that an outer comprehension has made -/
noncomputable abbrev Made {α : Type} (f : α → List Nat) (bad : Addr → Prop) (h : Heap) (a : α) (y : Value) : Prop :=
  ∃ D vs k, y = .ref D ∧ h.get? D = some (listOf (vs : List Value).toArray k) ∧ NatsAre vs (f a) ∧ ¬ bad D
theorem Made.keep {α : Type} {f : α → List Nat} {bad : Addr → Prop} {h h' : Heap} (hk : ∀ b o, ¬ bad b → h.get? b = some o → h'.get? b = some o) {l : List α} {ys : List Value} (x : All2 (Made f bad h) l ys) : All2 (Made f bad h') l ys :=
  x.imp fun a _ y ⟨D, vs, k, e, hD, hn, hb⟩ => ⟨D, vs, k, e, hk _ _ hb hD, hn, hb⟩
/-- what is asked of an iterator under such a comprehension -/
noncomputable def RowsAt (α : Type) (prog : Program) (w : World) (A : Around) (env : Env) (elt : Expr) (x y : Str) (scope : Scope) (cl : List (Str × Addr)) (Q : Flow → Shared → Prop) (s₁ : Shared) (it : Value) (s₂ : Shared) : Prop :=
  ∃ (items : List α) (Is : α → Value → Prop) (f : α → List Nat), ∃ I fp n P St m, it = .ref I ∧ Walks prog w A I fp [I] n P St ∧ items.length = n ∧ n ≤ sizeLine ∧ (∀ i v, P i v → ∃ a, items[i]? = some a ∧ Is a v) ∧
      St 0 s₂.heap ∧ (∀ b ∈ fp, b < s₂.heap.objs.size) ∧ s₁.heap.get? I = none ∧ I ∈ fp ∧ (∀ i h, St i h → ∃ o, h.get? I = some o) ∧ (∀ b o, s₁.heap.get? b = some o → s₂.heap.get? b = some o) ∧ s₁.heap.objs.size ≤ s₂.heap.objs.size ∧ s₂.heap.Ns env.locals m ∧ s₁.heap.Ns env.locals m ∧
      (∀ C c oc a v (s₃ : Shared) m₃ E', a ∈ items → Is a v → Fr s₁.heap C s₃.heap m₃ → oc.data = .cell (some v) → News s₁.heap C s₃.heap [(c, oc)] →
        wpAny (model prog w) A (eval elt (compEnvC scope ((x, c) :: cl) C env)) (fun y s₄ => (∃ D vs k, y = .ref D ∧ s₃.heap.get? D = none ∧ s₄.heap.get? D = some (listOf (vs : List Value).toArray k) ∧ NatsAre vs (f a)) ∧ Keeps s₃ s₄) E' s₃) ∧
      (∀ D h' tk ys k, s₂.heap.get? D = none → h'.get? D = some (listOf (ys : List Value).toArray k) → All2 (Made f (fun b => b = D ∨ b = env.locals ∨ ∃ o, s₁.heap.get? b = some o) h') items ys →
        h'.Ns env.locals (fun z => if z = y then some (.ref D) else m z) → (∀ b o, b ≠ env.locals → s₁.heap.get? b = some o → h'.get? b = some o) → Q .next { s₂ with heap := h', toks := tk })
section
variable {prog : Program} {w : World} {A : Around} {E : Value → Shared → Prop} {env : Env}
theorem newEnv_comp {s : Shared} {scope : Scope} {cl cl' : List (Str × Addr)} {Q : Env → Shared → Prop} (hc : cellsFrom (s.heap.objs.size + 1) scope.names cl = cl')
    (h : Q { scope := scope, locals := s.heap.objs.size, globals := env.globals, cells := cl', qual := env.qual, func := none, code := env.code, frame := env.frame, builtins := env.builtins }
      { s with heap := pushCells (s.heap.push { cls := .type "dict", data := .dict #[] }) scope.names }) :
    wpAny (model prog w) A (newFunctionEnv scope env.globals cl [] env.qual none .none (some env)) Q E s := by
  simp only [newFunctionEnv, Option.isSome_some, if_true]
  refine wpAny_bind (wpAny_alloc ?_)
  refine wpAny_bind (wpAny_layCells _ (fun name kind cells => by cases hkc : kind == NameKind.cell <;> simp [hkc]) _ _ _ _ ?_)
  rw [show ({ s with heap := s.heap.push { cls := .type "dict", data := .dict #[] } } : Shared).heap.objs.size = s.heap.objs.size + 1 from Heap.size_push .., hc]
  exact wpAny_bind (wpAny_pure (wpAny_pure h))
theorem Assign_rows {s : Shared} {α : Type} {elt iter : Expr} {x y : Str} {px py : Pos} {scope : Scope} {cl : List (Str × Addr)} {pos spos : Pos} {Q : Flow → Shared → Prop}
    (hsw : swapsWith (.ListComp elt [⟨.Name x px, iter, [], 0⟩] scope pos) (some (.Name y py)) spos.line env = pure true)
    (hclos : closureFor scope env = pure cl) (hkind : scope.kind = .function)
    (hnames : ∀ z ∈ scope.names, z.2 = .local → scope.names.lookup z.1 = some .local) (hcf : ∀ n, cellsFrom n scope.names cl = (x, n) :: cl) (hpc : ∀ h, pushCells h scope.names = h.push { cls := .type "cell", data := .cell none })
    (hx : ∀ e : Env, (compEnvC scope cl 0 e).kindOf x = some .cell)
    (hy : env.kindOf y = some .local) (hp : (env.scope.kind == .class || (env.scope.kind == .module && env.locals != env.globals)) = false)
    (h : wpAny (model prog w) A (eval iter env) (fun xv s₁ => wpAny (model prog w) A (pyIter xv) (RowsAt α prog w A env elt x y scope cl Q s₁) E s₁) E s)
    (hs : ∀ x, foldedSetIterable iter env x = pure x) :
    wpAny (model prog w) A (exec (.Assign [.Name y py] (.ListComp elt [⟨.Name x px, iter, [], 0⟩] scope pos) spos) env) Q E s := by
  rw [exec_Assign_Name_used _ _ _ _ hsw]
  refine wpAny_bind (wpAny_standAt (wpAny_bind ?_))
  show wpAny _ A (do let _ ← comprehension (.ListComp elt [⟨.Name x px, iter, [], 0⟩] scope pos) scope env _ (newList []) false (eval iter env) (some (assign (.Name y py) env))) _ _ s
  refine wpAny_bind (wpAny_mono (wpAny_comprehension_free (use := some (assign (.Name y py) env)) (Q := fun _ s' => Q .next s') rfl hs hclos hkind hnames
    (wpAny_mono h (fun xv s₁ h₁ => wpAny_mono h₁ (fun it s₂ h₂ => ?_) fun _ _ e => e) fun _ _ e => e)) (fun _ s' hq => wpAny_pure (wpAny_pure hq)) fun _ _ e => e)
  obtain ⟨items, Is, f, I, fp, n, P, St, m, rfl, W, hlen, hsz, hP, hst, hfp, hI0, hIf, hIlive, h12, hs12, hn2, hn1, turn, fin⟩ := h₂
  refine wpAny_newObj_type ?_
  generalize hH2 : s₂.heap.push { cls := .type "list", dict := none, data := .seq ([] : List Value).toArray } = H2
  have hC : H2.objs.size = s₂.heap.objs.size + 1 := by rw [← hH2, Heap.size_push]
  refine newEnv_comp (hcf _) ?_
  dsimp only
  rw [hpc]
  generalize hH3 : H2.push { cls := .type "dict", data := .dict #[] } = H3
  have hc : H3.objs.size = s₂.heap.objs.size + 1 + 1 := by rw [← hH3, Heap.size_push, hC]
  generalize hH4 : H3.push { cls := .type "cell", data := .cell none } = H4
  rw [show H2.objs.size + 1 = H3.objs.size by rw [hc, hC]]
  have sD : ∀ b : Addr, b < s₂.heap.objs.size → b ≠ s₂.heap.objs.size ∧ b ≠ H2.objs.size ∧ b ≠ H3.objs.size := fun b hb => by
    rw [hc, hC]; exact ⟨Nat.ne_of_lt hb, Nat.ne_of_lt (Nat.lt_succ_of_lt hb), Nat.ne_of_lt (Nat.lt_succ_of_lt (Nat.lt_succ_of_lt hb))⟩
  have hDC : s₂.heap.objs.size ≠ H2.objs.size := by rw [hC]; exact Nat.ne_of_lt (Nat.lt_succ_self _)
  have hDc : s₂.heap.objs.size ≠ H3.objs.size := by rw [hc]; exact Nat.ne_of_lt (Nat.lt_succ_of_lt (Nat.lt_succ_self _))
  have hCc : H2.objs.size ≠ H3.objs.size := by rw [hc, hC]; exact Nat.ne_of_lt (Nat.lt_succ_self _)
  have old : ∀ b o, s₂.heap.get? b = some o → H4.get? b = some o := fun b o e => by
    rw [← hH4, ← hH3, ← hH2]; exact Heap.get?_push_of_some _ (Heap.get?_push_of_some _ (Heap.get?_push_of_some _ e))
  have gD : H4.PlainList s₂.heap.objs.size #[] := ⟨_, by rw [← hH4, ← hH3, ← hH2]; exact Heap.get?_push_of_some _ (Heap.get?_push_of_some _ (Heap.get?_push_size _ rfl))⟩
  have gC : H4.Ns H2.objs.size (fun _ => none) := by
    have := (Heap.Ns.new H2 (.type "dict"))
    rw [hH3] at this
    exact this.keeps fun b o e => by rw [← hH4]; exact Heap.get?_push_of_some _ e
  have gc : H4.IsCell H3.objs.size none := ⟨_, by rw [← hH4]; exact Heap.get?_push_size _ rfl, rfl⟩
  generalize hDD : s₂.heap.objs.size = D at *
  generalize H2.objs.size = C at *
  generalize H3.objs.size = c at *
  have fresh : ∀ a, D ≤ a → s₂.heap.get? a = none := fun a ha => by
    cases e : s₂.heap.get? a with
    | none => rfl
    | some o' => exact absurd (Heap.lt_size e) (Nat.not_lt.mpr (hDD ▸ ha))
  have fD : D ∉ fp := fun hm => Nat.lt_irrefl _ (hfp _ hm)
  have fC : C ∉ fp := fun hm => (sD _ (hfp _ hm)).2.1 rfl
  have fc : c ∉ fp := fun hm => (sD _ (hfp _ hm)).2.2 rfl
  have lt1 : ∀ b o, s₁.heap.get? b = some o → b < D := fun b o e => hDD ▸ Heap.lt_size (h12 b o e)
  have nI : ∀ b o, s₁.heap.get? b = some o → b ≠ I := fun b o e q => by rw [q, hI0] at e; cases e
  have hIC : I ≠ C := fun q => fC (q ▸ hIf)
  have hIc : I ≠ c := fun q => fc (q ▸ hIf)
  have hID : I ≠ D := fun q => fD (q ▸ hIf)
  have hnC : s₁.heap.get? C = none := by
    cases e : s₁.heap.get? C with
    | none => rfl
    | some o => exact absurd rfl (sD _ (lt1 _ _ e)).2.1
  have hnc : s₁.heap.get? c = none := by
    cases e : s₁.heap.get? c with
    | none => rfl
    | some o => exact absurd rfl (sD _ (lt1 _ _ e)).2.2
  have hsC : s₁.heap.objs.size ≤ C := Nat.le_trans hs12 (by rw [hC]; exact Nat.le_succ _)
  let bad : Addr → Prop := fun b => b = D ∨ b = C ∨ b = c ∨ b = I ∨ ∃ o, s₁.heap.get? b = some o
  have hLs : ∃ o, s₁.heap.get? env.locals = some o := by obtain ⟨o, _, _, e, _⟩ := hn1; exact ⟨o, e⟩
  obtain ⟨oL, hoL⟩ := hLs
  have hLn := sD _ (lt1 _ _ hoL)
  have loop : ∀ s₃ : Shared, s₃ = { s₂ with heap := H4 } →
      codeAny (model prog w) A (.compLoop (.ListComp elt [⟨.Name x px, iter, [], 0⟩] scope pos) 0 (.ref I) (.ref D) (compEnvC scope ((x, c) :: cl) C env))
        (compPost (model prog w) A E (some (assign (.Name y py) env)) (fun _ s' => Q .next s') (.ref D) C) s₃ := by
    rintro s₃ rfl
    refine codeAny_compLoop_tests
      (fun k s' => ∃ h' tk m' ys i, s' = { s₂ with heap := h', toks := tk } ∧ i ≤ n ∧ k = n + 1 - i ∧ St i h' ∧ h'.PlainList D ys ∧ ys.size = i ∧ h'.Ns C m' ∧ (∃ v₀, h'.IsCell c v₀) ∧ All2 (Made f bad h') (items.take i) ys.toList ∧
        (∀ b o, s₁.heap.get? b = some o → h'.get? b = some o)) ?_ (n + 1)
      ⟨H4, s₂.toks, _, #[], 0, rfl, Nat.zero_le _, rfl, W.frame _ _ _ hst fun b _ o e => old b o e, gD, rfl, gC, ⟨_, gc⟩, by simpa using All2.nil, fun b o e => old b o (h12 b o e)⟩
    rintro k s' ⟨H, tk, m', ys, i, rfl, hi, rfl, hst', hacc', hys, hn', ⟨v₀, hcell'⟩, hF, hk⟩
    by_cases hlt : i < n
    · refine W.item i _ _ _ hlt hst' fun v h₁ tk₁ hPv hst₁ hk₁ => ?_
      have hk₁' : ∀ b o, b ≠ I → H.get? b = some o → h₁.get? b = some o := fun b o hb e => hk₁ b o (by simpa using hb) e
      obtain ⟨a, ha, hIa⟩ := hP i v hPv
      have hcell₁ : h₁.IsCell c v₀ := by obtain ⟨o, e, d⟩ := hcell'; exact ⟨o, hk₁' _ _ (Ne.symm hIc) e, d⟩
      refine wpAny_assign_Name (wpAny_storeName_cell (v₀ := v₀) (env := compEnvC scope ((x, c) :: cl) C env) hkind (hx env) (by simp [compEnvC]) hcell₁ fun h₂ hc₂ hs₂ => ?_)
      have up₂ : ∀ b o, b ≠ c → b ≠ I → H.get? b = some o → h₂.get? b = some o := fun b o b1 b2 e => hs₂.extBut b o b1 (hk₁' b o b2 e)
      have hst₂ : St (i + 1) h₂ := W.frame _ _ _ hst₁ fun b hb o e => hs₂.extBut b o (fun q => fc (q ▸ hb)) e
      obtain ⟨oc, eoc, doc⟩ := hc₂
      have keep₂ : ∀ b o, s₁.heap.get? b = some o → h₂.get? b = some o := fun b o e => up₂ b o (sD _ (lt1 _ _ e)).2.2 (nI _ _ e) (hk b o e)
      have hn₂ : h₂.Ns C m' := (hn'.at' fun o e => hk₁' _ o (Ne.symm hIC) e).at' fun o e => hs₂.extBut _ o hCc e
      refine wpAny_tests_nil (if_pos rfl ▸ ?_)
      refine wpAny_mono (turn C c oc a v { s₂ with heap := h₂, toks := tk₁ } m' _ (List.mem_of_getElem? ha) hIa ⟨hn₂, keep₂, hsC⟩ doc (fun q hq => by rw [List.mem_singleton.mp hq]; exact ⟨eoc, Ne.symm hCc, hnc⟩)) (fun y₄ s₄ h₄ => ?_) fun _ _ e => e
      obtain ⟨⟨Dn, vs, kn, rfl, hDn0, hDn, hvs⟩, h₄, tk₄, rfl, hk₄⟩ := h₄
      have hacc₂ : h₂.PlainList D ys := hacc'.at fun o e => up₂ D o hDc (Ne.symm hID) e
      have hnb : ¬ bad Dn := by
        rintro (q | q | q | q | ⟨o, q⟩)
        · obtain ⟨k', e⟩ := hacc₂; rw [q, e] at hDn0; cases hDn0
        · obtain ⟨o, _, _, e, _⟩ := hn₂; rw [q, e] at hDn0; cases hDn0
        · rw [q, eoc] at hDn0; cases hDn0
        · obtain ⟨oI, eI⟩ := hIlive _ _ hst₂
          rw [q, eI] at hDn0; cases hDn0
        · have := keep₂ _ _ q; rw [hDn0] at this; cases this
      refine wpAny_list_append_plain (hsz := by rw [hys]; (first | lia | omega)) (hacc₂.at fun o e => hk₄ _ o e) fun h₅ hl₅ hs₅ => ?_
      have nb : ∀ b, ¬ bad b → b ≠ D ∧ b ≠ C ∧ b ≠ c ∧ b ≠ I := fun b hb => ⟨fun q => hb (.inl q), fun q => hb (.inr (.inl q)), fun q => hb (.inr (.inr (.inl q))), fun q => hb (.inr (.inr (.inr (.inl q))))⟩
      refine ⟨n + 1 - (i + 1), by (first | lia | omega), h₅, tk₄, m', ys.push (.ref Dn), i + 1, rfl, hlt, rfl, ?_, hl₅, by rw [Array.size_push, hys], (hn₂.keeps hk₄).sameBut hs₅ (Ne.symm hDC), ⟨some v, ⟨oc, hs₅.extBut _ _ (Ne.symm hDc) (hk₄ _ _ eoc), doc⟩⟩, ?_, fun b o e => hs₅.extBut b o (sD _ (lt1 _ _ e)).1 (hk₄ b o (keep₂ b o e))⟩
      · exact W.frame _ _ h₅ hst₂ fun b hb o e => hs₅.extBut b o (fun q => fD (q ▸ hb)) (hk₄ b o e)
      · rw [List.take_add_one, ha, Array.toList_push]
        refine all2_snoc (Made.keep (fun b o hb e => hs₅.extBut b o (nb b hb).1 (hk₄ b o (up₂ b o (nb b hb).2.2.1 (nb b hb).2.2.2 e))) hF) ?_
        exact ⟨Dn, vs, kn, rfl, hs₅.extBut _ _ (nb _ hnb).1 hDn, hvs, hnb⟩
    · obtain rfl : i = n := by (first | lia | omega)
      refine W.done _ _ _ hst' fun h₁ tk₁ hk₁ => ?_
      have hk₁' : ∀ b o, b ≠ I → H.get? b = some o → h₁.get? b = some o := fun b o hb e => hk₁ b o (by simpa using hb) e
      rw [← hlen, List.take_length] at hF
      have hnL : h₁.Ns env.locals m := hn1.at' fun o e => hk₁' _ o (nI _ _ e) (hk _ o e)
      have nb : ∀ b, ¬ bad b → b ≠ D ∧ b ≠ C ∧ b ≠ c ∧ b ≠ I ∧ ∀ o, s₁.heap.get? b ≠ some o := fun b hb => ⟨fun q => hb (.inl q), fun q => hb (.inr (.inl q)), fun q => hb (.inr (.inr (.inl q))), fun q => hb (.inr (.inr (.inr (.inl q)))), fun o q => hb (.inr (.inr (.inr (.inr ⟨o, q⟩))))⟩
      show wpAny _ A (assign (.Name y py) env (.ref D)) _ _ _
      refine wpAny_assign_Name (wpAny_storeName_local hy hnL (fun h₂ hn₂ hs₂ => ?_) hp)
      refine ⟨m', (hn'.at' fun o e => hk₁' _ o (Ne.symm hIC) e).sameBut hs₂ (Ne.symm hLn.2.1), fun h₃ hs₃ => ?_⟩
      obtain ⟨kD, eD⟩ := hacc'
      refine fin D h₃ _ ys.toList kD (fresh D (Nat.le_refl _)) (by simpa using hs₃.extBut _ _ hDC (hs₂.extBut _ _ (Ne.symm hLn.1) (hk₁' _ _ (Ne.symm hID) eD))) ?_ (hn₂.sameBut hs₃ hLn.2.1) fun b o hb e => ?_
      · refine All2.imp hF fun a _ y ⟨Dn, vs, k, e, hD, hn, hb⟩ => ⟨Dn, vs, k, e, ?_, hn, ?_⟩
        · exact hs₃.extBut _ _ (nb _ hb).2.1 (hs₂.extBut _ _ (fun q => (nb _ hb).2.2.2.2 oL (q ▸ hoL)) (hk₁' _ _ (nb _ hb).2.2.2.1 hD))
        · rintro (q | q | ⟨o, q⟩)
          · exact (nb _ hb).1 q
          · exact (nb _ hb).2.2.2.2 oL (q ▸ hoL)
          · exact (nb _ hb).2.2.2.2 o q
      · exact hs₃.extBut b o (sD _ (lt1 _ _ e)).2.1 (hs₂.extBut b o hb (hk₁' b o (nI _ _ e) (hk b o e)))
  exact codeAny_compStart_list (loop _ rfl) (W.self 0 _ _ _ (W.frame _ _ _ hst fun b _ o e => old b o e) (loop _ rfl))
theorem rows_range {s : Shared} {elt : Expr} {x y : Str} {scope : Scope} {cl : List (Str × Addr)} {Q : Flow → Shared → Prop} {r : Addr} {n : Nat} {t u v : Tok} {m : Str → Option Value} (f : Nat → List Nat) (hh : A.handled = none) (hr : IsRange s.heap r 0 (n : Int) 1 t u v) (hn : n ≤ 1000) (hns : s.heap.Ns env.locals m)
    (turn : ∀ C c oc (k : Nat) u (s₃ : Shared) m₃ E', k < n → Fr s.heap C s₃.heap m₃ → oc.data = .cell (some (.int (k : Int) u)) → News s.heap C s₃.heap [(c, oc)] →
      wpAny (model prog w) A (eval elt (compEnvC scope ((x, c) :: cl) C env)) (fun y s₄ => (∃ D vs k', y = .ref D ∧ s₃.heap.get? D = none ∧ s₄.heap.get? D = some (listOf (vs : List Value).toArray k') ∧ NatsAre vs (f k)) ∧ Keeps s₃ s₄) E' s₃)
    (fin : ∀ D h' tk ys k, s.heap.get? D = none → h'.get? D = some (listOf (ys : List Value).toArray k) → All2 (Made f (fun b => b = D ∨ b = env.locals ∨ ∃ o, s.heap.get? b = some o) h') (List.range n) ys →
      h'.Ns env.locals (fun z => if z = y then some (.ref D) else m z) → (∀ b o, b ≠ env.locals → s.heap.get? b = some o → h'.get? b = some o) → Q .next { s with heap := h', toks := tk }) :
    wpAny (model prog w) A (pyIter (.ref r)) (RowsAt Nat prog w A env elt x y scope cl Q s) E s := by
  refine wpAny_pyIter_range hr (small_one (by decide) (by decide) (by (first | lia | omega)) (by (first | lia | omega))) ?_
  have hsz : Builtin.Range.rangeSize 0 (n : Int) 1 = (n : Int) := by rw [rangeSize_nat]; (first | lia | omega)
  have W : Walks prog w A s.heap.objs.size [s.heap.objs.size] [s.heap.objs.size] n (fun i v => i < n ∧ ∃ t, v = .int (0 + i * 1) t)
      (fun i h => IsRangeIter h s.heap.objs.size (0 + (i : Nat) * 1) ((n : Int) - (i : Nat)) 1) := (Walks.range hh _ 0 1 n).bound
  have keep₂ : ∀ (o : Obj) b o', s.heap.get? b = some o' → (s.heap.push o).get? b = some o' := fun o b o' e => Heap.get?_push_of_some _ e
  refine ⟨List.range n, fun a v => ∃ u, v = .int (a : Int) u, f, _, _, n, _, _, m, rfl, W, by simp, (by rw [sizeLine_eq]; (first | lia | omega)), ?_, (by show IsRangeIter _ _ _ _ _; rw [hsz]; simpa using Heap.get?_push_size _ rfl), ?_, fresh_of _ (Nat.le_refl _), by simp, fun i h st => ⟨_, st⟩, keep₂ _, (by show s.heap.objs.size ≤ (s.heap.push _).objs.size; rw [Heap.size_push]; exact Nat.le_succ _), hns.keeps (keep₂ _), hns, ?_, ?_⟩
  · rintro i v ⟨hi, t', rfl⟩
    exact ⟨i, by simp [hi], t', by congr 1; (first | lia | omega)⟩
  · intro b hb
    rw [List.mem_singleton.mp hb, Heap.size_push]; exact Nat.lt_succ_self _
  · rintro C c oc a v s₃ m₃ E' ha ⟨u, rfl⟩ F hd N
    exact turn C c oc a u s₃ m₃ E' (List.mem_range.mp ha) F hd N
  · intro D h' tk ys k hD hD' hA hn' hk
    refine fin D h' tk ys k ?_ hD' hA hn' hk
    cases e : s.heap.get? D with
    | none => rfl
    | some o' => exact absurd ((Heap.get?_push_of_some _ e).symm.trans hD) (by simp)
end
end Mine

namespace Mine
noncomputable def lawFn : Stmt := (PySem.Challenge.pw_ai0020_01.main.body.getLast?).getD (.Pass ⟨0,0,0,0⟩)
noncomputable def lawBody : List Stmt := match lawFn with | .FunctionDef _ _ b _ _ _ _ _ _ _ => b | _ => []
noncomputable def lawScope : Scope := match lawFn with | .FunctionDef _ _ _ _ _ _ s _ _ _ => s | _ => default
noncomputable def arm01 : List Stmt := match lawBody.drop 2 with | .If _ b _ _ :: _ => b | _ => []
noncomputable def arm2 : List Stmt := match lawBody.drop 4 with | .If _ b _ _ :: _ => b | _ => []
noncomputable abbrev lawEnv (L f : Addr) (cd : Value) : Env := envOfC (Str.ofString "law") lawScope L f cd
theorem kst_in {m : Str → Option Value} {ps : List (Str × Value)} (hk : ∀ p ∈ ps, m p.1 = some p.2) : kstB m ps = m := by
  funext z
  exact kstB_eq hk fun _ => rfl
theorem num_callI {w : World} {A : Around} {E : Value → Shared → Prop} {s : Shared} {p : Program} {loose : List Str} {mg mb : Str → Option Value} {Q : Value → Shared → Prop}
    (C : Cx w p loose mg mb s.heap) (hh : A.handled = none) (hd : A.depth < recursionLimit) {l : Addr} {vs : List Value} {ns : List Int} {i : Int} {tk : Tok} (hl : s.heap.IsList l vs.toArray) (hi : IntsAre vs ns) (hn : ns.length ≤ 100) (h0 : 0 ≤ i) (hk : i < 1000)
    (hret : ∀ h' tk t, Ext s.heap h' → Q (.int (num ns i.toNat) t) { s with heap := h', toks := tk }) :
   wpAny (model PySem.Challenge.rw_ai0020_01.row.prog w) A (call (.ref 128) [.ref l, .int i tk]) Q E s := by
  obtain ⟨k, rfl⟩ : ∃ k : Nat, i = (k : Int) := ⟨i.toNat, by (first | lia | omega)⟩
  exact num_call C hh hd hl hi hn (by (first | lia | omega)) hret
theorem len_at {prog : Program} {w : World} {A : Around} {E : Value → Shared → Prop} {s : Shared} {D : Addr} {ys : List Value} {n k : Nat} {Q : Value → Shared → Prop} (hl : s.heap.get? D = some (listOf ys.toArray n)) (hs : ys.length = k) (hf : k < 1000)
    (h : Q (.int (k : Int) (s.toks + 1)) { s with toks := s.toks + 1 + 1 }) : wpAny (model prog w) A (call (.builtin "len") [.ref D]) Q E s := by
  have hsz : ys.toArray.size = k := by simp [hs]
  refine Calls.call_len_list (items := ys.toArray) ⟨_, hl, rfl, _, rfl⟩ (by (first | lia | omega)) ?_
  rw [hsz]; exact h
theorem fmodN (x : Int) (k : Nat) (hk : 0 < k) : x.fmod (k : Int) = ((x.fmod (k : Int)).toNat : Int) := by
  rw [Int.toNat_of_nonneg]
  exact Int.fmod_nonneg_of_pos _ (by (first | lia | omega))
theorem fmodN_lt (x : Int) (k : Nat) (hk : 0 < k) : (x.fmod (k : Int)).toNat < k := by
  have := Int.fmod_lt_of_pos x (show (0 : Int) < (k : Int) by (first | lia | omega))
  (first | lia | omega)
theorem notTab_list {xs : Array Value} {n : Nat} {ps : Array Value} : listOf xs n ≠ tabO ps := fun h => by
  have : (listOf xs n).cls = (tabO ps).cls := by rw [h]
  cases this
theorem notTab_cell {o : Obj} {v : Option Value} {ps : Array Value} (h : o.data = .cell v) : o ≠ tabO ps := fun e => by rw [e] at h; cases h
/-- a call of encode, the table among what is new -/
theorem enc_step {w : World} {A : Around} {E : Value → Shared → Prop} {s : Shared} {p : Program} {loose : List Str} {mg mb m : Str → Option Value} {ps more : Array Value} {Q : Value → Shared → Prop} {g : Heap} {L : Addr} {all rest : List (Addr × Obj)}
    (Z : Cz w p loose mg mb ps g) (F : Fr (hid g) L s.heap m) (N : News (hid g) L s.heap all) (h59 : (59, tabO (ps ++ more)) ∈ all) (trip : TriplesOk (ps ++ more).toList) (hr : ∀ p ∈ rest, p ∈ all ∧ p.2 ≠ tabO (ps ++ more)) (hL : L ≠ 59)
    (hb : AllBare s.gens) (hh : A.handled = none) (hd : A.depth + 60 < recursionLimit) (hu : A.units + 200 < cLine) {x : Str} {tk t1 : Tok} {l : Addr} {vs : List Value}
    (hx : KXs.Still x) (hx1 : 1 ≤ x.cps.size) (hx4 : x.cps.size ≤ 4) {ver : Nat} {wp : List Nat} (hl : s.heap.IsList l vs.toArray) (hi : NatsAre vs wp) (hbt : ∀ n ∈ wp, n < 256)
    (hv16 : ver ≤ 16) (hw2 : 2 ≤ wp.length) (hw40 : wp.length ≤ 40) (hv0 : ver = 0 → wp.length = 20 ∨ wp.length = 32)
    (hret : ∀ s' t more', Fr (hid g) L s'.heap m → News (hid g) L s'.heap ((59, tabO (ps ++ more')) :: rest) → TriplesOk (ps ++ more').toList → AllBare s'.gens → s'.os = s.os →
      Q (.str (benc (if ver = 0 then 1 else 2) x (ver :: to5 wp)) t) s') :
    wpAny (model PySem.Challenge.rw_ai0020_01.row.prog w) A (call (.ref 84) [.str x tk, .int (ver : Int) t1, .ref l]) Q E s := by
  refine encode_call (Z.at F N h59 trip) hb hh (by (first | lia | omega)) (by (first | lia | omega)) hx hx1 hx4 hl hi hbt hv16 hw2 hw40 hv0 fun s' t more' k4 tab4 trip4 G4 os4 => ?_
  rw [Array.append_assoc] at tab4 trip4
  have n59 := N _ h59
  refine hret s' t (more ++ more') (led_frZ F n59.2.2 hL k4) (fun q hq => ?_) trip4 G4 os4
  rcases List.mem_cons.mp hq with rfl | hq
  · exact ⟨tab4, n59.2⟩
  · obtain ⟨hm, hne⟩ := hr q hq
    refine ⟨k4 _ _ (fun e => hne ?_) (N q hm).1, (N q hm).2⟩
    have := (N q hm).1
    rw [e] at this
    exact Option.some.inj (this.symm.trans n59.1)
/-- three lists, place by place -/
noncomputable def z3l (a b c : List Nat) : List Nat := (a.zip (b.zip c)).map fun a => (a.1 ^^^ a.2.1) ^^^ a.2.2
theorem z3l_len {a b c : List Nat} {n : Nat} (h1 : a.length = n) (h2 : b.length = n) (h3 : c.length = n) : (z3l a b c).length = n := by simp [z3l, h1, h2, h3]
theorem z3l_lt {a b c : List Nat} {m : Nat} (h1 : ∀ x ∈ a, x < 2 ^ m) (h2 : ∀ x ∈ b, x < 2 ^ m) (h3 : ∀ x ∈ c, x < 2 ^ m) : ∀ x ∈ z3l a b c, x < 2 ^ m := by
  intro x hx
  obtain ⟨⟨p, q, r⟩, hm, rfl⟩ := List.mem_map.mp hx
  have e1 := List.of_mem_zip hm
  have e2 := List.of_mem_zip e1.2
  exact xlt (xlt (h1 _ e1.1) (h2 _ e2.1)) (h3 _ e2.2)
/-- the signs of an address behind its first part -/
noncomputable def wrd (e : Nat) (x : Str) (ver : Nat) (wp : List Nat) : List Nat := (ver :: to5 wp) ++ cks e x (ver :: to5 wp)
theorem wrd_len (e : Nat) (x : Str) (ver : Nat) (wp : List Nat) : (wrd e x ver wp).length = 7 + (wp.length * 8 + 4) / 5 := by
  unfold wrd; rw [List.length_append, cks_len, List.length_cons, to5_len]; (first | lia | omega)
theorem wrd_lt {e : Nat} {x : Str} {ver : Nat} {wp : List Nat} (hv : ver ≤ 16) : ∀ d ∈ wrd e x ver wp, d < 32 := by
  intro d hd
  rcases List.mem_append.mp hd with h | h
  · rcases List.mem_cons.mp h with rfl | h
    · (first | lia | omega)
    · exact to5_lt wp d h
  · exact cks_lt d h
theorem btxt_to1 (x : Str) (cs : List Nat) : Txt.slice (btxt x cs) none (some ((x.cps.size : Int) + 1)) = x ++ Str.ofString "1" := by
  have h := eq_of_beq (slice_closes_toL (x := btxt x cs) (j := (x.cps.size : Int) + 1) (by (first | lia | omega)) (by show ((x.cps.size : Nat) : Int) + 1 ≤ ((btxt x cs).cps.size : Nat); rw [btxt_size]; (first | lia | omega)))
  rw [h]
  have e1 : ((x.cps.size : Int) + 1 - 0).toNat = x.cps.size + 1 := by (first | lia | omega)
  have e2 : (0 : Int).toNat = 0 := rfl
  rw [e1, e2, List.drop_zero]
  obtain ⟨a⟩ := x
  show _ = (⟨a ++ #[49]⟩ : Str)
  congr 1
  have : (btxt ⟨a⟩ cs).cps.toList = (a.toList ++ [49]) ++ cs := by simp [btxt]
  rw [this, List.take_left' (by simp)]
  apply Array.toList_inj.mp
  simp
structure KF (x : Str) (W : List Nat) (y : Str) : Prop where
  len : y.length = x.length + 1 + W.length
  to1 : Txt.slice y none (some ((x.length : Int) + 1)) = x ++ Str.ofString "1"
  from1 : Txt.slice y (some ((x.length : Int) + 1)) none = stext W
theorem kf (e : Nat) (x : Str) (ver : Nat) (wp : List Nat) : KF x (wrd e x ver wp) (benc e x (ver :: to5 wp)) where
  len := by
    have := btxt_size x ((wrd e x ver wp).map chr32)
    rw [List.length_map] at this
    exact this
  to1 := btxt_to1 x _
  from1 := btxt_from x _
theorem set_nats {vs : List Value} {two : List Nat} {i : Nat} {w : Int} (h : IntsAre vs ((two.map fun n : Nat => (n : Int)).set i w)) (h0 : 0 ≤ w) : NatsAre vs (two.set i w.toNat) := by
  show IntsAre _ _
  rw [List.map_set, Int.toNat_of_nonneg h0]
  exact h
theorem set_lt {l : List Nat} {i w m : Nat} (h : ∀ v ∈ l, v < m) (hw : w < m) : ∀ v ∈ l.set i w, v < m := by
  intro v hv
  rcases List.mem_or_eq_of_mem_set hv with h1 | rfl
  · exact h v h1
  · exact hw
theorem set_ne {two one : List Nat} {i w : Nat} (hl : two.length = one.length) (hi : i < one.length) (hw : w ≠ one.getD i 0) : two.set i w ≠ one := by
  intro e
  have h1 : (two.set i w)[i]? = some w := by rw [List.getElem?_set_self (by (first | lia | omega))]
  rw [e, List.getElem?_eq_getElem hi] at h1
  apply hw
  rw [List.getD_eq_getElem?_getD, List.getElem?_eq_getElem hi]
  exact (Option.some.inj h1).symm
theorem getD_cast {l : List Nat} {i : Nat} : (l.map fun n : Nat => (n : Int)).getD i 0 = ((l.getD i 0 : Nat) : Int) := by
  rw [List.getD_eq_getElem?_getD, List.getD_eq_getElem?_getD, List.getElem?_map]
  cases l[i]? <;> rfl
theorem getD_lt {l : List Nat} {i m : Nat} (h : ∀ v ∈ l, v < m) (hm : 0 < m) : l.getD i 0 < m := by
  rw [List.getD_eq_getElem?_getD]
  cases e : l[i]? with
  | none => exact hm
  | some v => exact h v (List.mem_of_getElem? e)
theorem turned {a : Nat} {r : Int} {k : Nat} (ha : a < k) (h0 : 0 ≤ r) (h1 : r < (k : Int) - 1) : 0 ≤ ((a : Int) + 1 + r).fmod (k : Int) ∧ ((a : Int) + 1 + r).fmod (k : Int) < (k : Int) ∧ (((a : Int) + 1 + r).fmod (k : Int)).toNat ≠ a := by
  have hk : (0 : Int) < (k : Int) := by (first | lia | omega)
  refine ⟨Int.fmod_nonneg_of_pos _ hk, Int.fmod_lt_of_pos _ hk, ?_⟩
  rw [Int.fmod_eq_emod_of_nonneg _ (by (first | lia | omega))]
  by_cases hlt : (a : Int) + 1 + r < (k : Int)
  · rw [Int.emod_eq_of_lt (by (first | lia | omega)) hlt]; (first | lia | omega)
  · have e : (a : Int) + 1 + r = ((a : Int) + 1 + r - (k : Int)) + (k : Int) := by (first | lia | omega)
    rw [e, Int.add_emod_right, Int.emod_eq_of_lt (by (first | lia | omega)) (by (first | lia | omega))]; (first | lia | omega)
theorem led_ne {g h : Heap} {L a b : Addr} {oa ob : Obj} {news : List (Addr × Obj)} (N : News g L h news) (h1 : (a, oa) ∈ news) (h2 : (b, ob) ∈ news) (hne : oa ≠ ob) : a ≠ b := fun e => by
  have e1 := (N _ h1).1
  have e2 := (N _ h2).1
  dsimp only at e1 e2
  rw [e, e2] at e1
  exact hne (Option.some.inj e1).symm
theorem list_ne_cell {xs : Array Value} {n : Nat} {o : Obj} {v : Option Value} (h : o.data = .cell v) : listOf xs n ≠ o := fun e => by rw [← e] at h; cases h
theorem tab_ne_cell {ps : Array Value} {o : Obj} {v : Option Value} (h : o.data = .cell v) : tabO ps ≠ o := fun e => by rw [← e] at h; cases h
theorem News.sub {g h : Heap} {L : Addr} {news news' : List (Addr × Obj)} (N : News g L h news) (hs : ∀ p ∈ news', p ∈ news) : News g L h news' := fun p hp => N p (hs p hp)
/-- a text of a written list at an open place -/
theorem pick_str {prog : Program} {w : World} {A : Around} {E : Value → Shared → Prop} {s : Shared} {value slice : Expr} {l : Addr} {vs : List Value} {ys : List Str} {k : Int} {u : Tok} {Q : Value → Shared → Prop} (hl : s.heap.IsList l vs.toArray) (hi : StrsAre vs ys)
    (h0 : 0 ≤ k) (hk : k < ys.length) (hfit : k < 2 ^ 63) (h : ∀ x ∈ ys, ∀ t, Q (.str x t) s)
    (hs : subscripted slice false (.ref l) (.int k u) = operate [.ref l, .int k u] (getItem (.ref l) (.int k u)) := by with_unfolding_all rfl) :
    wpAny (model prog w) A (subscriptTail value slice (.ref l) (.int k u)) Q E s :=
  item_strsR hl hi h0 hk hfit (fun t => h _ (by
    have hlt : k.toNat < ys.length := by (first | lia | omega)
    rw [List.getD_eq_getElem?_getD, List.getElem?_eq_getElem hlt]
    exact List.getElem_mem hlt) t) hs
theorem pick_val {prog : Program} {w : World} {A : Around} {E : Value → Shared → Prop} {s : Shared} {value slice : Expr} {l : Addr} {vs : List Value} {k : Int} {u : Tok} {Q : Value → Shared → Prop} (hl : s.heap.IsList l vs.toArray)
    (h0 : 0 ≤ k) (hk : k < vs.length) (hfit : k < 2 ^ 63) (h : ∀ v ∈ vs, Q v s)
    (hs : subscripted slice false (.ref l) (.int k u) = operate [.ref l, .int k u] (getItem (.ref l) (.int k u)) := by with_unfolding_all rfl) :
    wpAny (model prog w) A (subscriptTail value slice (.ref l) (.int k u)) Q E s := by
  have hlt : k.toNat < vs.length := by (first | lia | omega)
  exact item_listR hl h0 hfit (by simp [hlt]) (h _ (List.getElem_mem hlt)) hs
theorem firsts : ∀ x ∈ [Str.ofString "bc", Str.ofString "tb", Str.ofString "bcrt", Str.ofString "xy"], (∀ c ∈ x.cps.toList, 33 ≤ c ∧ c < 127 ∧ (c < 65 ∨ 90 < c)) ∧ 1 ≤ x.cps.size ∧ x.cps.size ≤ 4 := by decide
theorem join_st {M : Model} {A : Around} {E : Value → Shared → Prop} {s : Shared} {env : Env} {st : Stmt} {Q : Flow → Shared → Prop} (P : Shared → Prop) (h1 : wpAny M A (exec st env) (fun fl s' => fl = .next ∧ P s') E s) (h2 : ∀ s', P s' → Q .next s') : wpAny M A (exec st env) Q E s :=
  wpAny_mono h1 (fun _ _ ⟨e, hp⟩ => e ▸ h2 _ hp) fun _ _ e => e
/-- how the law ends -/
noncomputable def LEnd (g : Heap) (ps0 : Array Value) (os : OsState) (Q : Flow → Shared → Prop) : Prop :=
  ∀ s' more, (∀ b o, b ≠ 59 → g.get? b = some o → s'.heap.get? b = some o) → s'.heap.get? 59 = some (tabO (ps0 ++ more)) → AllBare s'.gens → s'.os = os → Q (.ret (.bool true)) s'
end Mine

namespace Mine
/-- two lists, place by place -/
noncomputable def z2 (a b : List Nat) : List Nat := List.zipWith (· ^^^ ·) a b
theorem z2_len {a b : List Nat} {n : Nat} (h1 : a.length = n) (h2 : b.length = n) : (z2 a b).length = n := by simp [z2, h1, h2]
theorem z3_z2 (a b c : List Nat) : z3l a b c = z2 (z2 a b) c := by
  unfold z3l z2
  induction a generalizing b c with
  | nil => simp
  | cons x a ih => cases b with
    | nil => simp
    | cons y b => cases c with
      | nil => simp
      | cons z c => simp [ih]
theorem z2_append {a b a' b' : List Nat} (h : a.length = a'.length) : z2 (a ++ b) (a' ++ b') = z2 a a' ++ z2 b b' := List.zipWith_append h
theorem z2_map {α : Type} (f g : α → Nat) (l : List α) : z2 (l.map f) (l.map g) = l.map fun i => f i ^^^ g i := by
  unfold z2
  induction l with
  | nil => rfl
  | cons x l ih => simp [ih]
theorem z2_lt {a b : List Nat} {m : Nat} (h1 : ∀ v ∈ a, v < 2 ^ m) (h2 : ∀ v ∈ b, v < 2 ^ m) : ∀ v ∈ z2 a b, v < 2 ^ m := by
  unfold z2
  induction a generalizing b with
  | nil => simp
  | cons x a ih => cases b with
    | nil => simp
    | cons y b =>
      intro v hv
      rcases List.mem_cons.mp hv with rfl | hv
      · exact xlt (h1 _ (.head _)) (h2 _ (.head _))
      · exact ih (fun v hv => h1 v (.tail _ hv)) (fun v hv => h2 v (.tail _ hv)) v hv
theorem or_xor {a v : Nat} (hv : v < 2 ^ 8) : (a <<< 8) ||| v = (a <<< 8) ^^^ v := by
  refine Nat.eq_of_testBit_eq fun i => ?_
  rw [Nat.testBit_or, Nat.testBit_xor, Nat.testBit_shiftLeft]
  by_cases hi : 8 ≤ i
  · have : v.testBit i = false := Nat.testBit_lt_two_pow (Nat.lt_of_lt_of_le hv (Nat.pow_le_pow_right (by decide) hi))
    simp [this]
  · simp [hi]
theorem cbacc_xor {a b v u : Nat} (hv : v < 256) (hu : u < 256) : cbacc 8 5 (a ^^^ b) (v ^^^ u) = cbacc 8 5 a v ^^^ cbacc 8 5 b u := by
  unfold cbacc
  rw [or_xor (xlt (m := 8) hv hu), or_xor hv, or_xor hu, Nat.shiftLeft_xor_distrib, ← Nat.and_xor_distrib_right]
  congr 1
  rw [Nat.xor_assoc, Nat.xor_assoc, ← Nat.xor_assoc (b <<< 8), ← Nat.xor_assoc v, Nat.xor_comm (b <<< 8) v]
theorem drain_len {tb a b : Nat} {o : List Nat} : (drain tb a b o).length = o.length + b / tb := by simp [drain]
theorem drain_xor {tb a a' b : Nat} {o o' : List Nat} (h : o.length = o'.length) : drain tb (a ^^^ a') b (z2 o o') = z2 (drain tb a b o) (drain tb a' b o') := by
  unfold drain
  rw [z2_append h, z2_map]
  congr 1
  refine List.map_congr_left fun i _ => ?_
  rw [Nat.shiftRight_xor_distrib, Nat.and_xor_distrib_right]
structure XRel (S T U : Nat × Nat × List Nat) : Prop where
  acc : U.1 = S.1 ^^^ T.1
  bits : U.2.1 = S.2.1
  bits' : T.2.1 = S.2.1
  len : S.2.2.length = T.2.2.length
  out : U.2.2 = z2 S.2.2 T.2.2
theorem cb_rel : ∀ (a b : List Nat) (S T U : Nat × Nat × List Nat), a.length = b.length → (∀ v ∈ a, v < 256) → (∀ v ∈ b, v < 256) → XRel S T U → XRel (a.foldl (cbst 8 5) S) (b.foldl (cbst 8 5) T) ((z2 a b).foldl (cbst 8 5) U) := by
  intro a
  induction a with
  | nil => intro b S T U h _ _ R; cases b with
    | nil => exact R
    | cons _ _ => cases h
  | cons v a ih => intro b S T U h ha hb R; cases b with
    | nil => cases h
    | cons u b =>
      have hv := ha v (.head _)
      have hu := hb u (.head _)
      refine ih b _ _ _ (by simpa using h) (fun v hv => ha v (.tail _ hv)) (fun v hv => hb v (.tail _ hv)) ?_
      have e : cbacc 8 5 U.1 (v ^^^ u) = cbacc 8 5 S.1 v ^^^ cbacc 8 5 T.1 u := by rw [R.acc, cbacc_xor hv hu]
      refine ⟨e, ?_, ?_, ?_, ?_⟩
      · show (U.2.1 + 8) % 5 = (S.2.1 + 8) % 5; rw [R.bits]
      · show (T.2.1 + 8) % 5 = (S.2.1 + 8) % 5; rw [R.bits']
      · show (drain 5 _ _ _).length = (drain 5 _ _ _).length; rw [drain_len, drain_len, R.len, R.bits']
      · show drain 5 _ (U.2.1 + 8) U.2.2 = z2 (drain 5 _ (S.2.1 + 8) S.2.2) (drain 5 _ (T.2.1 + 8) T.2.2)
        rw [e, R.bits, R.bits', R.out, drain_xor R.len]
theorem to5_xor {a b : List Nat} (h : a.length = b.length) (ha : ∀ v ∈ a, v < 256) (hb : ∀ v ∈ b, v < 256) : to5 (z2 a b) = z2 (to5 a) (to5 b) := by
  have R := cb_rel a b (0, 0, []) (0, 0, []) (0, 0, []) h ha hb ⟨rfl, rfl, rfl, rfl, rfl⟩
  change XRel (cbrun 8 5 a) (cbrun 8 5 b) (cbrun 8 5 (z2 a b)) at R
  unfold to5
  rw [z2_append R.len, R.out, R.bits, R.bits', R.acc]
  congr 1
  split
  · show [_] = [_]
    rw [Nat.shiftLeft_xor_distrib, Nat.and_xor_distrib_right]
  · rfl
theorem to5_z3 {a b c : List Nat} {n : Nat} (la : a.length = n) (lb : b.length = n) (lc : c.length = n) (ha : ∀ v ∈ a, v < 256) (hb : ∀ v ∈ b, v < 256) (hc : ∀ v ∈ c, v < 256) : to5 (z3l a b c) = z3l (to5 a) (to5 b) (to5 c) := by
  rw [z3_z2, z3_z2, to5_xor (by rw [z2_len la lb, lc]) (z2_lt (m := 8) ha hb) hc, to5_xor (by rw [la, lb]) ha hb]
theorem z3_append {a b c a' b' c' : List Nat} {n : Nat} (h1 : a.length = n) (h2 : b.length = n) (h3 : c.length = n) : z3l (a ++ a') (b ++ b') (c ++ c') = z3l a b c ++ z3l a' b' c' := by
  rw [z3_z2, z3_z2, z3_z2, z2_append (by rw [h1, h2]), z2_append (by rw [z2_len h1 h2, h3])]
theorem z3_map {α : Type} (f g k : α → Nat) (l : List α) : z3l (l.map f) (l.map g) (l.map k) = l.map fun i => f i ^^^ g i ^^^ k i := by
  rw [z3_z2, z2_map, z2_map]
theorem run_z3 {T : Nat → Nat} (hT : ∀ a b, T (a ^^^ b) = T a ^^^ T b) {a b c : List Nat} {n : Nat} (la : a.length = n) (lb : b.length = n) (lc : c.length = n) (s : Nat) : run T s (z3l a b c) = run T s a ^^^ run T s b ^^^ run T s c := by
  have e : s = s ^^^ s ^^^ s := by rw [Nat.xor_self, Nat.zero_xor]
  rw [z3_z2]
  conv => lhs; rw [e]
  have h1 := run_xor hT (z2 a b) c (s ^^^ s) s (by rw [z2_len la lb, lc])
  have h2 := run_xor hT a b s s (by rw [la, lb])
  exact h1.trans (congrArg (· ^^^ run T s c) h2)
theorem sums_z3 {a b c : List Nat} {n : Nat} (la : a.length = n) (lb : b.length = n) (lc : c.length = n) : sums [a, b, c] n = z3l a b c := by
  refine List.ext_getElem (by simp [sums, z3l_len la lb lc]) fun i h1 h2 => ?_
  have hi : i < n := by simpa [sums] using h1
  simp [sums, sumAt, z3l, la, lb, lc, hi]
/-- the value of a word of digits -/
noncomputable def val (B a : Nat) (l : List Nat) : Nat := l.foldl (fun s d => s * B + d) a
theorem val_inj {B : Nat} (l : List Nat) : ∀ (k : List Nat) (a b : Nat), l.length = k.length → (∀ d ∈ l, d < B) → (∀ d ∈ k, d < B) → val B a l = val B b k → a = b ∧ l = k := by
  induction l with
  | nil => intro k a b h _ _ e; cases k with
    | nil => exact ⟨e, rfl⟩
    | cons _ _ => cases h
  | cons x l ih => intro k a b h hl hk e; cases k with
    | nil => cases h
    | cons y k =>
      obtain ⟨e1, e2⟩ := ih k (a * B + x) (b * B + y) (by simpa using h) (fun d hd => hl d (.tail _ hd)) (fun d hd => hk d (.tail _ hd)) e
      have hx := hl x (.head _)
      have hy := hk y (.head _)
      have hB : 0 < B := by (first | lia | omega)
      have h1 : (a * B + x) / B = a := by rw [Nat.mul_comm, Nat.mul_add_div hB, Nat.div_eq_of_lt hx, Nat.add_zero]
      have h2 : (b * B + y) / B = b := by rw [Nat.mul_comm, Nat.mul_add_div hB, Nat.div_eq_of_lt hy, Nat.add_zero]
      have h3 : a = b := by rw [← h1, ← h2, e1]
      subst h3
      exact ⟨rfl, by rw [e2, show x = y by (first | lia | omega)]⟩
theorem val_snoc (B a : Nat) (l : List Nat) (d : Nat) : val B a (l ++ [d]) = val B a l * B + d := by simp [val]
noncomputable def wv (acc b : Nat) (o : List Nat) : Nat := val 32 0 o * 2 ^ b + acc % 2 ^ b
theorem wv_drain (acc : Nat) : ∀ (b : Nat) (o : List Nat), wv acc (b % 5) (drain 5 acc b o) = wv acc b o := by
  intro b
  induction b using Nat.strongRecOn with
  | ind b ih =>
    intro o
    by_cases h : b < 5
    · rw [drain_end h, Nat.mod_eq_of_lt h]
    · rw [drain_step (by decide) (by (first | lia | omega)), show b % 5 = (b - 5) % 5 by (first | lia | omega), ih (b - 5) (by (first | lia | omega))]
      unfold wv
      rw [val_snoc, Nat.shiftRight_eq_div_pow, Nat.and_two_pow_sub_one_eq_mod (n := 5)]
      obtain ⟨c, rfl⟩ : ∃ c, b = c + 5 := ⟨b - 5, by (first | lia | omega)⟩
      rw [Nat.add_sub_cancel]
      have h5 : 2 ^ (c + 5) = 2 ^ c * 32 := by rw [Nat.pow_add]
      rw [h5, Nat.mod_mul (x := acc), Nat.add_mul, Nat.mul_assoc, Nat.mul_comm 32 (2 ^ c), Nat.mul_comm (acc / 2 ^ c % 2 ^ 5) (2 ^ c)]
      show _ + 2 ^ c * (acc / 2 ^ c % 32) + _ = _
      (first | lia | omega)
theorem cbacc_val {a v s : Nat} (hv : v < 256) (hs : s ≤ 4) : cbacc 8 5 a v % 2 ^ (s + 8) = a % 2 ^ s * 256 + v := by
  unfold cbacc
  rw [Nat.and_two_pow_sub_one_eq_mod, Nat.mod_mod_of_dvd _ (Nat.pow_dvd_pow 2 (by (first | lia | omega) : s + 8 ≤ 8 + 5 - 1)), ← Nat.shiftLeft_add_eq_or_of_lt (by simpa using hv), Nat.shiftLeft_eq]
  rw [Nat.pow_add, Nat.mul_comm (2 ^ s) (2 ^ 8), Nat.mod_mul, show (2 : Nat) ^ 8 = 256 from rfl]
  have h1 : (a * 256 + v) % 256 = v := by (first | lia | omega)
  have h2 : (a * 256 + v) / 256 = a := by (first | lia | omega)
  rw [h1, h2]
  (first | lia | omega)
theorem cb_val (l : List Nat) : ∀ (S : Nat × Nat × List Nat), S.2.1 < 5 → (∀ v ∈ l, v < 256) → wv (l.foldl (cbst 8 5) S).1 (l.foldl (cbst 8 5) S).2.1 (l.foldl (cbst 8 5) S).2.2 = val 256 (wv S.1 S.2.1 S.2.2) l := by
  induction l with
  | nil => intro S _ _; rfl
  | cons v l ih =>
    intro S hS hl
    rw [List.foldl_cons, ih _ (by show (S.2.1 + 8) % 5 < 5; (first | lia | omega)) fun v hv => hl v (.tail _ hv)]
    show val 256 (wv (cbacc 8 5 S.1 v) ((S.2.1 + 8) % 5) (drain 5 (cbacc 8 5 S.1 v) (S.2.1 + 8) S.2.2)) l = val 256 (wv S.1 S.2.1 S.2.2 * 256 + v) l
    rw [wv_drain]
    congr 1
    unfold wv
    rw [cbacc_val (hl v (.head _)) (by (first | lia | omega)), Nat.pow_add, Nat.add_mul, Nat.mul_assoc]
    have : 2 ^ S.2.1 * 2 ^ 8 = 2 ^ S.2.1 * 256 := rfl
    rw [this, Nat.add_assoc]
theorem to5_inj {a b : List Nat} (h : a.length = b.length) (ha : ∀ v ∈ a, v < 256) (hb : ∀ v ∈ b, v < 256) (e : to5 a = to5 b) : a = b := by
  have va := cb_val a (0, 0, []) (by decide) ha
  have vb := cb_val b (0, 0, []) (by decide) hb
  change wv (cbrun 8 5 a).1 (cbrun 8 5 a).2.1 (cbrun 8 5 a).2.2 = val 256 0 a at va
  change wv (cbrun 8 5 b).1 (cbrun 8 5 b).2.1 (cbrun 8 5 b).2.2 = val 256 0 b at vb
  have key : ∀ l : List Nat, val 32 0 (to5 l) = if (cbrun 8 5 l).2.1 ≠ 0 then wv (cbrun 8 5 l).1 (cbrun 8 5 l).2.1 (cbrun 8 5 l).2.2 * 2 ^ (5 - (cbrun 8 5 l).2.1) else wv (cbrun 8 5 l).1 (cbrun 8 5 l).2.1 (cbrun 8 5 l).2.2 := by
    intro l
    have hb5 : (cbrun 8 5 l).2.1 < 5 := by rw [cbrun_bits]; exact Nat.mod_lt _ (by decide)
    unfold to5 wv
    generalize (cbrun 8 5 l).2.1 = s at *
    split
    · rw [val_snoc, Nat.and_two_pow_sub_one_eq_mod (n := 5), Nat.shiftLeft_eq, Nat.add_mul, Nat.mul_assoc, ← Nat.pow_add, show s + (5 - s) = 5 by (first | lia | omega)]
      have h5 : (2 : Nat) ^ 5 = 2 ^ s * 2 ^ (5 - s) := by rw [← Nat.pow_add]; congr 1; (first | lia | omega)
      conv => lhs; rw [h5, Nat.mul_mod_mul_right]
    · rename_i hs
      have : s = 0 := by (first | lia | omega)
      subst this
      rw [List.append_nil, Nat.pow_zero, Nat.mod_one, Nat.mul_one, Nat.add_zero]
  have ka := key a
  have kb := key b
  have hbits : (cbrun 8 5 a).2.1 = (cbrun 8 5 b).2.1 := by rw [cbrun_bits, cbrun_bits, h]
  rw [va] at ka
  rw [vb] at kb
  rw [e, kb, hbits] at ka
  refine (val_inj a b 0 0 h ha hb ?_).2
  split at ka
  · exact (Nat.eq_of_mul_eq_mul_right (Nat.two_pow_pos _) ka).symm
  · exact ka.symm
end Mine

namespace Mine
theorem mix (a b c k : Nat) : a ^^^ b ^^^ c ^^^ k = (a ^^^ k) ^^^ (b ^^^ k) ^^^ (c ^^^ k) := by
  refine Nat.eq_of_testBit_eq fun i => ?_
  simp only [Nat.testBit_xor]
  cases a.testBit i <;> cases b.testBit i <;> cases c.testBit i <;> cases k.testBit i <;> rfl
theorem digit_mix (a b c k j : Nat) : ((a ^^^ b ^^^ c ^^^ k) >>> j) &&& 31 = (((a ^^^ k) >>> j) &&& 31) ^^^ (((b ^^^ k) >>> j) &&& 31) ^^^ (((c ^^^ k) >>> j) &&& 31) := by
  rw [mix, Nat.shiftRight_xor_distrib, Nat.shiftRight_xor_distrib, Nat.and_xor_distrib_right, Nat.and_xor_distrib_right]
theorem z3_cons (p q r : Nat) (a b c : List Nat) : z3l (p :: a) (q :: b) (r :: c) = (p ^^^ q ^^^ r) :: z3l a b c := rfl
theorem self3 (v : Nat) : v ^^^ v ^^^ v = v := by rw [Nat.xor_self, Nat.zero_xor]
theorem cks_z3 {e : Nat} {x : Str} {a b c : List Nat} {n : Nat} (la : a.length = n) (lb : b.length = n) (lc : c.length = n) : cks e x (z3l a b c) = z3l (cks e x a) (cks e x b) (cks e x c) := by
  unfold cks
  dsimp only
  rw [z3_map]
  refine List.map_congr_left fun i _ => ?_
  have e0 : ([0, 0, 0, 0, 0, 0] : List Nat) = z3l [0, 0, 0, 0, 0, 0] [0, 0, 0, 0, 0, 0] [0, 0, 0, 0, 0, 0] := by decide
  have hp : pm32 (hrpx x ++ z3l a b c ++ [0, 0, 0, 0, 0, 0]) = pm32 (hrpx x ++ a ++ [0, 0, 0, 0, 0, 0]) ^^^ pm32 (hrpx x ++ b ++ [0, 0, 0, 0, 0, 0]) ^^^ pm32 (hrpx x ++ c ++ [0, 0, 0, 0, 0, 0]) := by
    have r : ∀ l : List Nat, pm32 (hrpx x ++ l ++ [0, 0, 0, 0, 0, 0]) = run (lin Bc.Tc) (run (lin Bc.Tc) 1 (hrpx x)) (l ++ [0, 0, 0, 0, 0, 0]) := fun l => by rw [List.append_assoc, pm32_run, run_append]
    rw [r, r, r, r]
    conv => lhs; rw [e0, ← z3_append la lb lc]
    exact run_z3 (n := n + 6) (lin_xor Bc.Tc) (by simp [la]) (by simp [lb]) (by simp [lc]) _
  rw [hp]
  exact digit_mix _ _ _ _ _
theorem wrd_xor {e : Nat} {x : Str} {ver n : Nat} {a b c : List Nat} (ha : ∀ v ∈ a, v < 256) (hb : ∀ v ∈ b, v < 256) (hc : ∀ v ∈ c, v < 256) (la : a.length = n) (lb : b.length = n) (lc : c.length = n) :
    wrd e x ver (z3l a b c) = sums [wrd e x ver a, wrd e x ver b, wrd e x ver c] (7 + (n * 8 + 4) / 5) := by
  rw [sums_z3 (by rw [wrd_len, la]) (by rw [wrd_len, lb]) (by rw [wrd_len, lc])]
  have t1 : (ver :: to5 a).length = (n * 8 + 4) / 5 + 1 := by rw [List.length_cons, to5_len, la]
  have t2 : (ver :: to5 b).length = (n * 8 + 4) / 5 + 1 := by rw [List.length_cons, to5_len, lb]
  have t3 : (ver :: to5 c).length = (n * 8 + 4) / 5 + 1 := by rw [List.length_cons, to5_len, lc]
  unfold wrd
  rw [z3_append t1 t2 t3, ← cks_z3 t1 t2 t3, z3_cons, self3, to5_z3 la lb lc ha hb hc]
/-- places where two lists part -/
noncomputable def parts (a b : List Nat) : Nat := ((a.zip b).filter fun p => decide (p.1 ≠ p.2)).length
theorem parts_le (a b : List Nat) : parts a b ≤ a.length := by
  unfold parts
  have h1 := List.length_filter_le (fun p : Nat × Nat => decide (p.1 ≠ p.2)) (a.zip b)
  rw [List.length_zip] at h1
  (first | lia | omega)
theorem parts_cons (x y : Nat) (a b : List Nat) : parts (x :: a) (y :: b) = (if x = y then 0 else 1) + parts a b := by
  unfold parts
  rw [List.zip_cons_cons, List.filter_cons]
  by_cases h : x = y <;> simp [h]; (first | lia | omega)
theorem parts_self (a : List Nat) : parts a a = 0 := by
  induction a with
  | nil => rfl
  | cons x a ih => rw [parts_cons, ih]; simp
theorem parts_append {a b c d : List Nat} (h : a.length = b.length) : parts (a ++ c) (b ++ d) = parts a b + parts c d := by
  unfold parts
  rw [List.zip_append h, List.filter_append, List.length_append]
theorem parts_z2 (a : List Nat) : ∀ b : List Nat, a.length = b.length → parts a b = ((z2 a b).filter (· ≠ 0)).length := by
  induction a with
  | nil => intro b _; cases b <;> rfl
  | cons x a ih => intro b h; cases b with
    | nil => cases h
    | cons y b =>
      rw [parts_cons, ih b (by simpa using h)]
      show _ = (((x ^^^ y) :: z2 a b).filter (· ≠ 0)).length
      by_cases hx : x = y
      · subst hx; simp
      · have : x ^^^ y ≠ 0 := fun e => hx (xeq e)
        simp [hx, this]; (first | lia | omega)
theorem z2_zero (a : List Nat) : ∀ b : List Nat, a.length = b.length → (∀ e ∈ z2 a b, e = 0) → a = b := by
  induction a with
  | nil => intro b h _; cases b with
    | nil => rfl
    | cons _ _ => cases h
  | cons x a ih => intro b h hz; cases b with
    | nil => cases h
    | cons y b =>
      have h1 : x ^^^ y = 0 := hz _ (.head _)
      rw [xeq h1, ih b (by simpa using h) fun e he => hz e (.tail _ he)]
/-- two words of the code that part, part in five places at least -/
theorem apart5 {T : List Nat} {N : Nat} (hd : ∀ es : List Nat, (∀ e ∈ es, e < 32) → es.length + 2 ≤ N → syn (lin T) es = 0 → (es.filter (· ≠ 0)).length < 5 → ∀ e ∈ es, e = 0)
    {u v : List Nat} {s : Nat} (h : u.length = v.length) (hu : ∀ e ∈ u, e < 32) (hv : ∀ e ∈ v, e < 32) (hl : u.length + 2 ≤ N) (hr : run (lin T) s u = run (lin T) s v) (hne : u ≠ v) : 5 ≤ parts u v := by
  apply Nat.le_of_not_lt
  intro hlt
  apply hne
  refine z2_zero u v h (hd _ (z2_lt (m := 5) hu hv) (by rw [z2_len rfl h.symm]; exact hl) ?_ (by rw [← parts_z2 u v h]; exact hlt))
  have h1 := run_xor (lin_xor T) u v s s h
  rw [Nat.xor_self, hr, Nat.xor_self] at h1
  exact h1
theorem chr32_inj : ∀ a, a < 32 → ∀ b, b < 32 → chr32 a = chr32 b → a = b := by decide +kernel
theorem parts_chr (a : List Nat) : ∀ b : List Nat, (∀ v ∈ a, v < 32) → (∀ v ∈ b, v < 32) → parts (a.map chr32) (b.map chr32) = parts a b := by
  induction a with
  | nil => intro b _ _; cases b <;> rfl
  | cons x a ih => intro b ha hb; cases b with
    | nil => rfl
    | cons y b =>
      rw [List.map_cons, List.map_cons, parts_cons, parts_cons, ih b (fun v hv => ha v (.tail _ hv)) fun v hv => hb v (.tail _ hv)]
      congr 1
      by_cases h : x = y
      · simp [h]
      · have : chr32 x ≠ chr32 y := fun e => h (chr32_inj x (ha x (.head _)) y (hb y (.head _)) e)
        simp [h, this]
theorem count_getD (a : List Nat) : ∀ b : List Nat, a.length = b.length → ((List.range a.length).filter fun k => decide (a.getD k 0 ≠ b.getD k 0)).length = parts a b := by
  induction a with
  | nil => intro b _; cases b <;> rfl
  | cons x a ih => intro b h; cases b with
    | nil => cases h
    | cons y b =>
      rw [List.length_cons, List.range_succ_eq_map, List.filter_cons, List.filter_map, parts_cons, ← ih b (by simpa using h)]
      have e : ((fun k => decide ((x :: a).getD k 0 ≠ (y :: b).getD k 0)) ∘ Nat.succ) = fun k => decide (a.getD k 0 ≠ b.getD k 0) := by
        funext k
        simp
      rw [e]
      by_cases hx : x = y
      · simp [hx]
      · simp [hx]; (first | lia | omega)
theorem count_item {y z : Str} (h : y.cps.size = z.cps.size) : ((List.range y.cps.size).filter fun k : Nat => decide (Txt.item y (k : Int) ≠ Txt.item z (k : Int))).length = parts y.cps.toList z.cps.toList := by
  rw [← count_getD _ _ (by simpa using h), Array.length_toList]
  refine congrArg List.length (List.filter_congr fun k hk => ?_)
  have hk' := List.mem_range.mp hk
  rw [item_one y k hk', item_one z k (by (first | lia | omega))]
  have e : ∀ w : Str, k < w.cps.size → w.cps.getD k 0 = w.cps.toList.getD k 0 := fun w hw => by simp [Array.getD, List.getD, hw]
  show decide ((⟨#[y.cps.getD k 0]⟩ : Str) ≠ ⟨#[z.cps.getD k 0]⟩) = _
  rw [e y hk', e z (by (first | lia | omega))]
  generalize y.cps.toList.getD k 0 = p
  generalize z.cps.toList.getD k 0 = q
  by_cases hpq : p = q
  · simp [hpq]
  · simp [hpq]
theorem benc_size (e : Nat) (x : Str) (ver : Nat) (wp : List Nat) : (benc e x (ver :: to5 wp)).cps.size = x.cps.size + 1 + (7 + (wp.length * 8 + 4) / 5) := by
  have := (kf e x ver wp).len
  rw [wrd_len] at this
  exact this
theorem five {e : Nat} {x : Str} {ver n : Nat} {a b : List Nat} (hx : KXs.Still x) (he : e = 1 ∨ e = 2) (hv : ver ≤ 16) (ha : ∀ v ∈ a, v < 256) (hb : ∀ v ∈ b, v < 256) (la : a.length = n) (lb : b.length = n) (hn : n ≤ 40) (hne : b ≠ a) :
    5 ≤ ((List.range (benc e x (ver :: to5 a)).cps.size).filter fun k : Nat => decide (Txt.item (benc e x (ver :: to5 a)) (k : Int) ≠ Txt.item (benc e x (ver :: to5 b)) (k : Int))).length := by
  rw [count_item (by rw [benc_size, benc_size, la, lb])]
  have ex : ∀ wp, (benc e x (ver :: to5 wp)).cps.toList = (x.cps.toList ++ [49]) ++ (wrd e x ver wp).map chr32 := fun wp => by
    show (x.cps ++ #[49] ++ ((wrd e x ver wp).map chr32).toArray).toList = _
    simp
  have l1 : (wrd e x ver a).length = (wrd e x ver b).length := by rw [wrd_len, wrd_len, la, lb]
  rw [ex, ex, parts_append rfl, parts_self, Nat.zero_add, parts_chr _ _ (wrd_lt hv) (wrd_lt hv)]
  have h5 : ∀ wp, ∀ v ∈ ver :: to5 wp, v < 32 := fun wp v h => by
    rcases List.mem_cons.mp h with rfl | h
    · (first | lia | omega)
    · exact to5_lt wp v h
  have hp : ∀ wp, run (lin Bc.Tc) (run (lin Bc.Tc) 1 (hrpx x)) (wrd e x ver wp) = cst e := fun wp => by
    have := pm_cks (x := x) (fun c hc => by have := hx c hc; (first | lia | omega)) (h5 wp) he
    rw [pm32_run, run_append] at this
    exact this
  refine apart5 (T := Bc.Tc) (N := 75) (fun es h1 h2 h3 h4 => Bc.dist h1 h2 h3 h4) l1 (wrd_lt hv) (wrd_lt hv) (by rw [wrd_len, la]; (first | lia | omega)) ((hp a).trans (hp b).symm) fun eq => hne ?_
  have t : (ver :: to5 a).length = (ver :: to5 b).length := by rw [List.length_cons, List.length_cons, to5_len, to5_len, la, lb]
  have e1 := List.append_inj_left eq t
  exact (to5_inj (la.trans lb.symm) ha hb (List.cons.inj e1).2).symm
theorem ind3 {P : List Nat → Prop} (h0 : P []) (h1 : ∀ p, P [p]) (h2 : ∀ p q, P [p, q]) (h3 : ∀ p q r l, P l → P (p :: q :: r :: l)) : ∀ l, P l
  | [] => h0
  | [p] => h1 p
  | [p, q] => h2 p q
  | p :: q :: r :: l => h3 p q r l (ind3 h0 h1 h2 h3 l)
theorem syms_cons (p q r : Nat) (l : List Nat) : syms (p :: q :: r :: l) = sym3 [p, q, r] ++ syms l := by
  unfold syms symsTo
  have e : ((p :: q :: r :: l).length + 2) / 3 = (l.length + 2) / 3 + 1 := by simp only [List.length_cons]; (first | lia | omega)
  rw [e, List.range_succ_eq_map, List.flatMap_cons, List.flatMap_map]
  congr 1
theorem syms_one (p : Nat) : syms [p] = sym3 [p] := by simp [syms, symsTo]
theorem syms_two (p q : Nat) : syms [p, q] = sym3 [p, q] := by simp [syms, symsTo]
theorem syms_len {a b : List Nat} (h : a.length = b.length) : (syms a).length = (syms b).length := by
  revert b
  refine ind3 (P := fun a => ∀ {b : List Nat}, a.length = b.length → (syms a).length = (syms b).length) ?_ ?_ ?_ ?_ a
  · intro b h
    match b, h with
    | [], _ => rfl
  · intro p b h
    match b, h with
    | [q], _ => rw [syms_one, syms_one, sym3_len, sym3_len]; rfl
  · intro p q b h
    match b, h with
    | [p', q'], _ => rw [syms_two, syms_two, sym3_len, sym3_len]; rfl
  · intro p q r l ih b h
    match b, h with
    | p' :: q' :: r' :: l', h =>
      rw [syms_cons, syms_cons, List.length_append, List.length_append, sym3_len, sym3_len, ih (by simpa using h)]
      rfl
theorem syms_lt {a : List Nat} (ha : ∀ v ∈ a, v < 95) : ∀ v ∈ syms a, v < 32 := by
  have s3 : ∀ l : List Nat, l.length ≤ 3 → (∀ v ∈ l, v < 95) → ∀ v ∈ sym3 l, v < 32 := by
    intro l hl hv v hm
    unfold sym3 at hm
    rcases List.mem_append.mp hm with hm | hm
    · obtain ⟨p, -, rfl⟩ := List.mem_map.mp hm
      exact Nat.mod_lt _ (by decide)
    · rw [List.mem_singleton.mp hm]
      match l, hl, hv with
      | [], _, _ => decide
      | [p], _, hv => have := hv p (by simp); simp only [List.foldl_cons, List.foldl_nil]; (first | lia | omega)
      | [p, q], _, hv => have := hv p (by simp); have := hv q (by simp); simp only [List.foldl_cons, List.foldl_nil]; (first | lia | omega)
      | [p, q, r], _, hv => have := hv p (by simp); have := hv q (by simp); have := hv r (by simp); simp only [List.foldl_cons, List.foldl_nil]; (first | lia | omega)
  revert ha
  refine ind3 (P := fun a => (∀ v ∈ a, v < 95) → ∀ v ∈ syms a, v < 32) ?_ ?_ ?_ ?_ a
  · intro _ v hv; exact absurd hv (by simp [syms, symsTo])
  · intro p h; rw [syms_one]; exact s3 [p] (by simp) h
  · intro p q h; rw [syms_two]; exact s3 [p, q] (by simp) h
  · intro p q r l ih h v hv
    rw [syms_cons] at hv
    rcases List.mem_append.mp hv with hv | hv
    · exact s3 [p, q, r] (by simp) (fun v hv => h v (by simp at hv ⊢; rcases hv with rfl | rfl | rfl <;> simp)) v hv
    · exact ih (fun v hv => h v (.tail _ (.tail _ (.tail _ hv)))) v hv
/-- what the checksum has eaten at its end -/
theorem drun_run (l : List Nat) : ∀ c : Nat, (if (l.foldl dstep (c, 0, 0)).2.2 > 0 then dst (l.foldl dstep (c, 0, 0)).1 (l.foldl dstep (c, 0, 0)).2.1 else (l.foldl dstep (c, 0, 0)).1) = run (lin Dc.Tc) c (syms l) := by
  have a31 : ∀ p : Nat, p &&& 31 = p % 32 := fun p => Nat.and_two_pow_sub_one_eq_mod (n := 5) p
  have s5 : ∀ p : Nat, p >>> 5 = p / 32 := fun p => Nat.shiftRight_eq_div_pow p 5
  refine ind3 (P := fun l => ∀ c : Nat, (if (l.foldl dstep (c, 0, 0)).2.2 > 0 then dst (l.foldl dstep (c, 0, 0)).1 (l.foldl dstep (c, 0, 0)).2.1 else (l.foldl dstep (c, 0, 0)).1) = run (lin Dc.Tc) c (syms l)) ?_ ?_ ?_ ?_ l
  · intro c; rfl
  · intro p c
    show dst (dst c (p &&& 31)) (0 * 3 + p >>> 5) = _
    rw [syms_one, dst_lin, dst_lin, a31, s5]
    show _ = lin Dc.Tc (lin Dc.Tc c ^^^ p % 32) ^^^ (3 * 0 + p / 32)
    congr 1
  · intro p q c
    show dst (dst (dst c (p &&& 31)) (q &&& 31)) ((0 * 3 + p >>> 5) * 3 + q >>> 5) = _
    rw [syms_two, dst_lin, dst_lin, dst_lin, a31, a31, s5, s5]
    show _ = lin Dc.Tc (lin Dc.Tc (lin Dc.Tc c ^^^ p % 32) ^^^ q % 32) ^^^ (3 * (3 * 0 + p / 32) + q / 32)
    congr 1
    (first | lia | omega)
  · intro p q r l ih c
    have e : (p :: q :: r :: l).foldl dstep (c, 0, 0) = l.foldl dstep (dst (dst (dst (dst c (p &&& 31)) (q &&& 31)) (r &&& 31)) (((0 * 3 + p >>> 5) * 3 + q >>> 5) * 3 + r >>> 5), 0, 0) := rfl
    rw [e, ih, syms_cons, run_append, dst_lin, dst_lin, dst_lin, dst_lin, a31, a31, a31, s5, s5, s5]
    congr 1
    show _ = lin Dc.Tc (lin Dc.Tc (lin Dc.Tc (lin Dc.Tc c ^^^ p % 32) ^^^ q % 32) ^^^ r % 32) ^^^ (3 * (3 * (3 * 0 + p / 32) + q / 32) + r / 32)
    congr 1
    (first | lia | omega)
theorem dsum_run (l : List Nat) : dsum l = run (lin Dc.Tc) 1 (syms l ++ [0, 0, 0, 0, 0, 0, 0, 0]) ^^^ 1 := by
  unfold dsum
  rw [run_append]
  have e : dfin l = run (lin Dc.Tc) 1 (syms l) := drun_run l 1
  rw [e]
  have e2 : dst = fun c v => lin Dc.Tc c ^^^ v := by funext c v; exact dst_lin c v
  rw [e2]
noncomputable def dsg (ps : List Nat) : List Nat := (List.range 8).map fun j => (dsum ps >>> (5 * (7 - j))) &&& 31
theorem dtext_eq (ps : List Nat) : dtext ps = stext (dsg ps) := by
  unfold dtext stext dsg
  rw [List.map_map]
  rfl
theorem dsg_len (ps : List Nat) : (dsg ps).length = 8 := by simp [dsg]
theorem dsg_lt (ps : List Nat) : ∀ d ∈ dsg ps, d < 32 := by
  intro d hd
  obtain ⟨j, -, rfl⟩ := List.mem_map.mp hd
  exact Nat.lt_of_le_of_lt Nat.and_le_right (by decide)
theorem dtext_list (ps : List Nat) : (dtext ps).cps.toList = (dsg ps).map chr32 := by rw [dtext_eq]; simp [stext]
theorem dtext_ok (a : List Nat) : (dtext a).cps.size = 8 ∧ (dtext a).cps.all (· < 128) = true := by
  constructor
  · rw [← Array.length_toList, dtext_list, List.length_map, dsg_len]
  · rw [← Array.all_toList, dtext_list, List.all_eq_true]
    intro c hc
    obtain ⟨d, hd, rfl⟩ := List.mem_map.mp hc
    have := (chr32_ok d (dsg_lt a d hd)).2.1
    simp; (first | lia | omega)
theorem sym3_z3 {p q r p' q' r' p'' q'' r'' : Nat} (h : p < 32 ∧ q < 32 ∧ r < 32) (h' : p' < 32 ∧ q' < 32 ∧ r' < 32) (h'' : p'' < 32 ∧ q'' < 32 ∧ r'' < 32) :
    sym3 [p ^^^ p' ^^^ p'', q ^^^ q' ^^^ q'', r ^^^ r' ^^^ r''] = z3l (sym3 [p, q, r]) (sym3 [p', q', r']) (sym3 [p'', q'', r'']) := by
  have low : ∀ {a b c : Nat}, a < 32 → b < 32 → c < 32 → sym3 [a, b, c] = [a, b, c, 0] := fun ha hb hc => by
    unfold sym3
    simp only [List.map_cons, List.map_nil, List.foldl_cons, List.foldl_nil, Nat.mod_eq_of_lt ha, Nat.mod_eq_of_lt hb, Nat.mod_eq_of_lt hc, Nat.div_eq_of_lt ha, Nat.div_eq_of_lt hb, Nat.div_eq_of_lt hc]
    rfl
  rw [low h.1 h.2.1 h.2.2, low h'.1 h'.2.1 h'.2.2, low h''.1 h''.2.1 h''.2.2, low (xlt (m := 5) (xlt h.1 h'.1) h''.1) (xlt (m := 5) (xlt h.2.1 h'.2.1) h''.2.1) (xlt (m := 5) (xlt h.2.2 h'.2.2) h''.2.2)]
  rfl
theorem syms_z3 (a : List Nat) : ∀ (b c : List Nat), a.length = b.length → a.length = c.length → (∀ v ∈ a, v < 32) → (∀ v ∈ b, v < 32) → (∀ v ∈ c, v < 32) → syms (z3l a b c) = z3l (syms a) (syms b) (syms c) := by
  have low1 : ∀ {a : Nat}, a < 32 → sym3 [a] = [a, 0] := fun ha => by
    unfold sym3
    simp only [List.map_cons, List.map_nil, List.foldl_cons, List.foldl_nil, Nat.mod_eq_of_lt ha, Nat.div_eq_of_lt ha]
    rfl
  have low2 : ∀ {a b : Nat}, a < 32 → b < 32 → sym3 [a, b] = [a, b, 0] := fun ha hb => by
    unfold sym3
    simp only [List.map_cons, List.map_nil, List.foldl_cons, List.foldl_nil, Nat.mod_eq_of_lt ha, Nat.mod_eq_of_lt hb, Nat.div_eq_of_lt ha, Nat.div_eq_of_lt hb]
    rfl
  refine ind3 (P := fun a => ∀ (b c : List Nat), a.length = b.length → a.length = c.length → (∀ v ∈ a, v < 32) → (∀ v ∈ b, v < 32) → (∀ v ∈ c, v < 32) → syms (z3l a b c) = z3l (syms a) (syms b) (syms c)) ?_ ?_ ?_ ?_ a
  · intro b c h1 h2 _ _ _
    match b, c, h1, h2 with
    | [], [], _, _ => rfl
  · intro p b c h1 h2 ha hb hc
    match b, c, h1, h2 with
    | [p'], [p''], _, _ =>
      have x1 := ha p (by simp)
      have x2 := hb p' (by simp)
      have x3 := hc p'' (by simp)
      show syms [p ^^^ p' ^^^ p''] = _
      rw [syms_one, syms_one, syms_one, syms_one, low1 x1, low1 x2, low1 x3, low1 (xlt (m := 5) (xlt x1 x2) x3)]
      rfl
  · intro p q b c h1 h2 ha hb hc
    match b, c, h1, h2 with
    | [p', q'], [p'', q''], _, _ =>
      have x1 := ha p (by simp)
      have x2 := hb p' (by simp)
      have x3 := hc p'' (by simp)
      have y1 := ha q (by simp)
      have y2 := hb q' (by simp)
      have y3 := hc q'' (by simp)
      show syms [p ^^^ p' ^^^ p'', q ^^^ q' ^^^ q''] = _
      rw [syms_two, syms_two, syms_two, syms_two, low2 x1 y1, low2 x2 y2, low2 x3 y3, low2 (xlt (m := 5) (xlt x1 x2) x3) (xlt (m := 5) (xlt y1 y2) y3)]
      rfl
  · intro p q r l ih b c h1 h2 ha hb hc
    match b, c, h1, h2 with
    | p' :: q' :: r' :: l', p'' :: q'' :: r'' :: l'', h1, h2 =>
      rw [z3_cons, z3_cons, z3_cons, syms_cons, syms_cons, syms_cons, syms_cons, z3_append (n := 4) (by rw [sym3_len]; rfl) (by rw [sym3_len]; rfl) (by rw [sym3_len]; rfl),
        sym3_z3 ⟨ha p (by simp), ha q (by simp), ha r (by simp)⟩ ⟨hb p' (by simp), hb q' (by simp), hb r' (by simp)⟩ ⟨hc p'' (by simp), hc q'' (by simp), hc r'' (by simp)⟩,
        ih l' l'' (by simpa using h1) (by simpa using h2) (fun v hv => ha v (.tail _ (.tail _ (.tail _ hv)))) (fun v hv => hb v (.tail _ (.tail _ (.tail _ hv)))) (fun v hv => hc v (.tail _ (.tail _ (.tail _ hv))))]
theorem dsg_xor {n : Nat} {a b c : List Nat} (ha : ∀ v ∈ a, v < 32) (hb : ∀ v ∈ b, v < 32) (hc : ∀ v ∈ c, v < 32) (la : a.length = n) (lb : b.length = n) (lc : c.length = n) :
    dsg (z3l a b c) = sums [dsg a, dsg b, dsg c] 8 := by
  rw [sums_z3 (dsg_len _) (dsg_len _) (dsg_len _)]
  unfold dsg
  rw [z3_map]
  refine List.map_congr_left fun i _ => ?_
  have e0 : ([0, 0, 0, 0, 0, 0, 0, 0] : List Nat) = z3l [0, 0, 0, 0, 0, 0, 0, 0] [0, 0, 0, 0, 0, 0, 0, 0] [0, 0, 0, 0, 0, 0, 0, 0] := by decide
  rw [dsum_run, dsum_run, dsum_run, dsum_run, syms_z3 a b c (by rw [la, lb]) (by rw [la, lc]) ha hb hc]
  have s1 : (syms b).length = (syms a).length := syms_len (by rw [la, lb])
  have s2 : (syms c).length = (syms a).length := syms_len (by rw [la, lc])
  have hp : run (lin Dc.Tc) 1 (z3l (syms a) (syms b) (syms c) ++ [0, 0, 0, 0, 0, 0, 0, 0]) = run (lin Dc.Tc) 1 (syms a ++ [0, 0, 0, 0, 0, 0, 0, 0]) ^^^ run (lin Dc.Tc) 1 (syms b ++ [0, 0, 0, 0, 0, 0, 0, 0]) ^^^ run (lin Dc.Tc) 1 (syms c ++ [0, 0, 0, 0, 0, 0, 0, 0]) := by
    conv => lhs; rw [e0, ← z3_append rfl s1 s2]
    exact run_z3 (n := (syms a).length + 8) (lin_xor Dc.Tc) (by simp) (by simp [s1]) (by simp [s2]) _
  rw [hp]
  exact digit_mix _ _ _ _ _
/-- a text's symbols with its eight signs are a word of the code -/
theorem dword (a : List Nat) (ha : ∀ v ∈ a, v < 95) : run (lin Dc.Tc) 1 (syms a ++ dsg a) = 1 := by
  have hlt : ∀ v, lin Dc.Tc v < 2 ^ 40 := lin_lt Dc.Tc (by decide)
  generalize hS : run (lin Dc.Tc) 1 (syms a) = S
  have hSl : S < 2 ^ 40 := by
    rw [← hS]
    exact run_lt hlt _ _ (by decide) fun v hv => Nat.lt_trans (syms_lt ha v hv) (by decide)
  generalize hZ : run (lin Dc.Tc) S [0, 0, 0, 0, 0, 0, 0, 0] = Z
  have hZl : Z < 2 ^ 40 := by rw [← hZ]; exact run_lt hlt _ _ hSl (by intro e he; simp at he; subst he; decide)
  have hds : dsum a = Z ^^^ 1 := by rw [dsum_run, run_append, hS, hZ]
  have hpl : Z ^^^ 1 < 2 ^ 40 := xlt hZl (by decide)
  have hout := run_out 35 Dc.gen (Z ^^^ 1) 8 (by decide)
  have hdg : dsg a = (List.range 8).map fun i => ((Z ^^^ 1) >>> (5 * (8 - 1 - i))) &&& 31 := by unfold dsg; rw [hds]
  rw [← Tc_dc, ← hdg, Nat.mod_eq_of_lt hpl] at hout
  have hx2 := run_xor (lin_xor Dc.Tc) [0, 0, 0, 0, 0, 0, 0, 0] (dsg a) S 0 (by rw [dsg_len]; rfl)
  have hzip : ∀ (k : List Nat) (n : Nat), n = k.length → List.zipWith (· ^^^ ·) (List.replicate n 0) k = k := by
    intro k
    induction k with
    | nil => intro n h; subst h; rfl
    | cons a k ih => intro n h; subst h; show (0 ^^^ a) :: _ = _; rw [Nat.zero_xor]; exact congrArg _ (ih _ rfl)
  rw [show ([0, 0, 0, 0, 0, 0, 0, 0] : List Nat) = List.replicate 8 0 from rfl, hzip _ 8 (dsg_len a).symm, Nat.xor_zero, hout, show List.replicate 8 0 = ([0, 0, 0, 0, 0, 0, 0, 0] : List Nat) from rfl, hZ] at hx2
  rw [run_append, hS, hx2, ← Nat.xor_assoc, Nat.xor_self, Nat.zero_xor]
theorem parts_zero {a b : List Nat} (h : a.length = b.length) (hp : parts a b = 0) : a = b := by
  refine z2_zero a b h fun e he => ?_
  rw [parts_z2 a b h] at hp
  have h1 := List.eq_nil_of_length_eq_zero hp
  rw [List.filter_eq_nil_iff] at h1
  simpa using h1 e he
theorem seven {n : Nat} {a b : List Nat} (ha : ∀ v ∈ a, v < 95) (hb : ∀ v ∈ b, v < 95) (la : a.length = n) (lb : b.length = n) (hn : n ≤ 20) :
    (0 < parts (syms a) (syms b) → 5 ≤ parts (dtext a).cps.toList (dtext b).cps.toList + parts (syms a) (syms b)) ∧ (parts (syms a) (syms b) = 0 → parts (dtext a).cps.toList (dtext b).cps.toList = 0) := by
  have sl : (syms a).length = (syms b).length := syms_len (la.trans lb.symm)
  rw [dtext_list, dtext_list, parts_chr _ _ (dsg_lt a) (dsg_lt b)]
  constructor
  · intro hpos
    have hs := symsTo_len a ((a.length + 2) / 3)
    have h28 : (syms a).length ≤ 28 := by unfold syms; (first | lia | omega)
    have h5 := apart5 (T := Dc.Tc) (N := 40) (fun es h1 h2 h3 h4 => Dc.dist h1 h2 h3 h4) (u := syms a ++ dsg a) (v := syms b ++ dsg b) (s := 1) (by rw [List.length_append, List.length_append, dsg_len, dsg_len, sl])
      (fun v hv => (List.mem_append.mp hv).elim (syms_lt ha v) (dsg_lt a v)) (fun v hv => (List.mem_append.mp hv).elim (syms_lt hb v) (dsg_lt b v)) (by rw [List.length_append, dsg_len]; (first | lia | omega)) ((dword a ha).trans (dword b hb).symm)
      (fun eq => by
        have e1 := List.append_inj_left eq sl
        rw [e1, parts_self] at hpos
        exact absurd hpos (by decide))
    rw [parts_append sl] at h5
    (first | lia | omega)
  · intro h0
    have e1 := parts_zero sl h0
    have e2 : dsg a = dsg b := by unfold dsg; rw [dsum_run, dsum_run, e1]
    rw [e2, parts_self]
end Mine

namespace Mine
theorem k0_ret {w : World} {A : Around} {E : Value → Shared → Prop} {s : Shared} {p : Program} {loose : List Str} {mg mb m : Str → Option Value} {ps more : Array Value} {Q : Flow → Shared → Prop} {g : Heap} {L f : Addr} {cd : Value}
    (Z : Cz w p loose mg mb ps g) (X : (Mine.hd.heap_1 w.params).In (hid g)) (T : TopRead p loose mg mb (hid g)) (hL : L ≠ 59) (hb : AllBare s.gens) (hh : A.handled = none) (hd : A.depth + 60 < recursionLimit) (hu : A.units + 200 < cLine)
    {y1 y2 : Str} {t1 t2 tk : Tok} {o3 o4 : Obj} (h3 : o3.data = .cell (some (.str y1 t1))) (h4 : o4.data = .cell (some (.str y2 t2)))
    (hs : y1.cps.size = y2.cps.size) (hs2 : y1.cps.size ≤ 100) (h5 : 5 ≤ ((List.range y1.cps.size).filter fun k : Nat => decide (Txt.item y1 (k : Int) ≠ Txt.item y2 (k : Int))).length)
    (F : Fr (hid g) L s.heap m) (N : News (hid g) L s.heap [(L + 1 + 1 + 1 + 1, o4), (L + 1 + 1 + 1, o3), (59, tabO (ps ++ more))]) (hm : ∀ p ∈ [(Str.ofString "kind", Value.int 0 tk)], m p.1 = some p.2)
    (hret : LEnd g ps s.os Q) :
   wpAny (model PySem.Challenge.rw_ai0020_01.row.prog w) A (execs (arm01.drop 7) (lawEnv L f cd)) Q E s := by
  change wpAny _ _ (execs (_ :: _) (envOfC _ ⟨_, _, _, _, _⟩ _ _ _)) _ _ _
  rw [← kst_in hm] at F
  have hy1 : y1.length = y1.cps.size := rfl
  have hy2 : y2.length = y2.cps.size := rfl
  (repeat' ((( (fail_if_success (with_reducible show wpAny _ _ (exec (Stmt.For _ _ _ _ _) _) _ _ _)); (fail_if_success (with_reducible show wpAny _ _ (exec (Stmt.While _ _ _ _) _) _ _ _)); (fail_if_success (with_reducible show wpAny _ _ (pyIter _) _ _ _)); (fail_if_success (with_reducible show wpAny _ _ (eval (Expr.ListComp _ _ _ _) _) _ _ _)); (fail_if_success (with_reducible show wpAny _ _ (eval (Expr.GeneratorExp _ _ _ _) _) _ _ _)); (fail_if_success (with_reducible show wpAny _ _ (exec (Stmt.Assign _ (Expr.ListComp _ _ _ _) _) _) _ _ _)); (fail_if_success (with_reducible show wpAny _ _ (PySem.call (Value.ref _) _ _) _ _ _)); (fail_if_success (with_reducible show wpAny _ _ (PySem.call (Value.builtin "list.append") _) _ _ _)); (fail_if_success (with_reducible show wpAny _ _ (PySem.call (Value.builtin "any") _) _ _ _)); (fail_if_success (with_reducible show wpAny _ _ (PySem.call (Value.type "zip") _) _ _ _)); (fail_if_success (with_reducible show wpAny _ _ (PySem.call (Value.builtin "all") _) _ _ _)); (fail_if_success (with_reducible show InvEndN _ _ _ _ _ _ _)))); first | (dsimp only; walk1) | walk1))
  rotate_left
  · (rename ((_ : Int) ≠ _) => hne)
    exact absurd (by (first | lia | omega)) hne
  refine ListComp_at (pInt (fun k : Nat => decide (Txt.item y1 (k : Int) ≠ Txt.item y2 (k : Int)))) (FN (fun k y => ∃ t, y = .int (k : Int) t)) (by with_unfolding_all rfl) (by decide) (by rfl) (by decide) (by rfl) ?_ (fun _ => rfl)
  (repeat' ((( (fail_if_success (with_reducible show wpAny _ _ (exec (Stmt.For _ _ _ _ _) _) _ _ _)); (fail_if_success (with_reducible show wpAny _ _ (exec (Stmt.While _ _ _ _) _) _ _ _)); (fail_if_success (with_reducible show wpAny _ _ (pyIter _) _ _ _)); (fail_if_success (with_reducible show wpAny _ _ (eval (Expr.ListComp _ _ _ _) _) _ _ _)); (fail_if_success (with_reducible show wpAny _ _ (eval (Expr.GeneratorExp _ _ _ _) _) _ _ _)); (fail_if_success (with_reducible show wpAny _ _ (exec (Stmt.Assign _ (Expr.ListComp _ _ _ _) _) _) _ _ _)); (fail_if_success (with_reducible show wpAny _ _ (PySem.call (Value.ref _) _ _) _ _ _)); (fail_if_success (with_reducible show wpAny _ _ (PySem.call (Value.builtin "list.append") _) _ _ _)); (fail_if_success (with_reducible show wpAny _ _ (PySem.call (Value.builtin "any") _) _ _ _)); (fail_if_success (with_reducible show wpAny _ _ (PySem.call (Value.type "zip") _) _ _ _)); (fail_if_success (with_reducible show wpAny _ _ (PySem.call (Value.builtin "all") _) _ _ _)); (fail_if_success (with_reducible show InvEndN _ _ _ _ _ _ _)))); first | (dsimp only; walk1) | walk1))
  (((rename Fr _ _ _ _ => uF); (have uX1 := Frag.In.keeps (by assumption) uF.keep); (have uT1 := TopRead.keeps (by assumption) uF.keep)))
  (rename Fr _ _ _ _ => F)
  (rename News _ _ _ _ => N)
  (rename IsRange _ _ _ _ _ _ _ _ => rg)
  have hc4 := (N _ (.head _)).1
  have hc5 := (N _ (.tail _ (.head _))).1
  refine pi_range (n := y1.cps.size) (fun k y => ∃ t, y = .int (k : Int) t) _ hh (by exact rg) (by (first | lia | omega)) ?_ ?_ (fun it o Y => core_lc Y ?_)
  · intro C k u s₃ m₃ E' hk F N hm
    clear hret
    refine wpAny_tests_one ?_
    (repeat' ((( (fail_if_success (with_reducible show wpAny _ _ (exec (Stmt.For _ _ _ _ _) _) _ _ _)); (fail_if_success (with_reducible show wpAny _ _ (exec (Stmt.While _ _ _ _) _) _ _ _)); (fail_if_success (with_reducible show wpAny _ _ (pyIter _) _ _ _)); (fail_if_success (with_reducible show wpAny _ _ (eval (Expr.ListComp _ _ _ _) _) _ _ _)); (fail_if_success (with_reducible show wpAny _ _ (eval (Expr.GeneratorExp _ _ _ _) _) _ _ _)); (fail_if_success (with_reducible show wpAny _ _ (exec (Stmt.Assign _ (Expr.ListComp _ _ _ _) _) _) _ _ _)); (fail_if_success (with_reducible show wpAny _ _ (PySem.call (Value.ref _) _ _) _ _ _)); (fail_if_success (with_reducible show wpAny _ _ (PySem.call (Value.builtin "list.append") _) _ _ _)); (fail_if_success (with_reducible show wpAny _ _ (PySem.call (Value.builtin "any") _) _ _ _)); (fail_if_success (with_reducible show wpAny _ _ (PySem.call (Value.type "zip") _) _ _ _)); (fail_if_success (with_reducible show wpAny _ _ (PySem.call (Value.builtin "all") _) _ _ _)); (fail_if_success (with_reducible show InvEndN _ _ _ _ _ _ _)))); first | (dsimp only; walk1) | walk1))
    · by_cases he : Txt.item y1 (k : Int) = Txt.item y2 (k : Int) <;> simp [he]
    · exact ⟨_, _, rfl, fun _ _ e => e⟩
  · intro C k u s₃ m₃ E' hk F N hm
    clear hret
    (repeat' ((( (fail_if_success (with_reducible show wpAny _ _ (exec (Stmt.For _ _ _ _ _) _) _ _ _)); (fail_if_success (with_reducible show wpAny _ _ (exec (Stmt.While _ _ _ _) _) _ _ _)); (fail_if_success (with_reducible show wpAny _ _ (pyIter _) _ _ _)); (fail_if_success (with_reducible show wpAny _ _ (eval (Expr.ListComp _ _ _ _) _) _ _ _)); (fail_if_success (with_reducible show wpAny _ _ (eval (Expr.GeneratorExp _ _ _ _) _) _ _ _)); (fail_if_success (with_reducible show wpAny _ _ (exec (Stmt.Assign _ (Expr.ListComp _ _ _ _) _) _) _ _ _)); (fail_if_success (with_reducible show wpAny _ _ (PySem.call (Value.ref _) _ _) _ _ _)); (fail_if_success (with_reducible show wpAny _ _ (PySem.call (Value.builtin "list.append") _) _ _ _)); (fail_if_success (with_reducible show wpAny _ _ (PySem.call (Value.builtin "any") _) _ _ _)); (fail_if_success (with_reducible show wpAny _ _ (PySem.call (Value.type "zip") _) _ _ _)); (fail_if_success (with_reducible show wpAny _ _ (PySem.call (Value.builtin "all") _) _ _ _)); (fail_if_success (with_reducible show InvEndN _ _ _ _ _ _ _)))); first | (dsimp only; walk1) | walk1))
    exact ⟨_, _, rfl, fun _ _ e => e⟩
  · intro D' h'' tk' ys' n' hD0' hD' hA hk'
    have F1 := led_fr F hk'
    have N1 := led_add F N hk' hD0' hD'
    clear F N
    have hlen := hA.length
    have h100 : ((List.range y1.cps.size).filter fun k : Nat => decide (Txt.item y1 (k : Int) ≠ Txt.item y2 (k : Int))).length ≤ y1.cps.size := by
      have := List.length_filter_le (fun k : Nat => decide (Txt.item y1 (k : Int) ≠ Txt.item y2 (k : Int))) (List.range y1.cps.size)
      rwa [List.length_range] at this
    generalize ((List.range y1.cps.size).filter fun k : Nat => decide (Txt.item y1 (k : Int) ≠ Txt.item y2 (k : Int))).length = cnt at hlen h5 h100
    (repeat' ((( (fail_if_success (with_reducible show wpAny _ _ (exec (Stmt.For _ _ _ _ _) _) _ _ _)); (fail_if_success (with_reducible show wpAny _ _ (exec (Stmt.While _ _ _ _) _) _ _ _)); (fail_if_success (with_reducible show wpAny _ _ (pyIter _) _ _ _)); (fail_if_success (with_reducible show wpAny _ _ (eval (Expr.ListComp _ _ _ _) _) _ _ _)); (fail_if_success (with_reducible show wpAny _ _ (eval (Expr.GeneratorExp _ _ _ _) _) _ _ _)); (fail_if_success (with_reducible show wpAny _ _ (exec (Stmt.Assign _ (Expr.ListComp _ _ _ _) _) _) _ _ _)); (fail_if_success (with_reducible show wpAny _ _ (PySem.call (Value.ref _) _ _) _ _ _)); (fail_if_success (with_reducible show wpAny _ _ (PySem.call (Value.builtin "list.append") _) _ _ _)); (fail_if_success (with_reducible show wpAny _ _ (PySem.call (Value.builtin "any") _) _ _ _)); (fail_if_success (with_reducible show wpAny _ _ (PySem.call (Value.type "zip") _) _ _ _)); (fail_if_success (with_reducible show wpAny _ _ (PySem.call (Value.builtin "all") _) _ _ _)); (fail_if_success (with_reducible show InvEndN _ _ _ _ _ _ _)))); first | (dsimp only; walk1) | walk1))
    refine len_at (k := cnt) (N1 _ (.head _)).1 hlen.symm (by (first | lia | omega)) ?_
    (repeat' ((( (fail_if_success (with_reducible show wpAny _ _ (exec (Stmt.For _ _ _ _ _) _) _ _ _)); (fail_if_success (with_reducible show wpAny _ _ (exec (Stmt.While _ _ _ _) _) _ _ _)); (fail_if_success (with_reducible show wpAny _ _ (pyIter _) _ _ _)); (fail_if_success (with_reducible show wpAny _ _ (eval (Expr.ListComp _ _ _ _) _) _ _ _)); (fail_if_success (with_reducible show wpAny _ _ (eval (Expr.GeneratorExp _ _ _ _) _) _ _ _)); (fail_if_success (with_reducible show wpAny _ _ (exec (Stmt.Assign _ (Expr.ListComp _ _ _ _) _) _) _ _ _)); (fail_if_success (with_reducible show wpAny _ _ (PySem.call (Value.ref _) _ _) _ _ _)); (fail_if_success (with_reducible show wpAny _ _ (PySem.call (Value.builtin "list.append") _) _ _ _)); (fail_if_success (with_reducible show wpAny _ _ (PySem.call (Value.builtin "any") _) _ _ _)); (fail_if_success (with_reducible show wpAny _ _ (PySem.call (Value.type "zip") _) _ _ _)); (fail_if_success (with_reducible show wpAny _ _ (PySem.call (Value.builtin "all") _) _ _ _)); (fail_if_success (with_reducible show InvEndN _ _ _ _ _ _ _)))); first | (dsimp only; walk1) | walk1))
    rw [show decide ((5 : Int) ≤ (cnt : Int)) = true from decide_eq_true (by (first | lia | omega))]
    exact hret _ more (fun b o hb e => F1.keep b o (hid_get e hb)) (N1 (59, _) (by k_mem)).1 hb rfl
end Mine

namespace Mine
theorem k1_ret {w : World} {A : Around} {E : Value → Shared → Prop} {s : Shared} {p : Program} {loose : List Str} {mg mb m : Str → Option Value} {ps more : Array Value} {Q : Flow → Shared → Prop} {g : Heap} {L f : Addr} {cd : Value}
    (Z : Cz w p loose mg mb ps g) (X : (Mine.hd.heap_1 w.params).In (hid g)) (T : TopRead p loose mg mb (hid g)) (hL : L ≠ 59) (hb : AllBare s.gens) (hh : A.handled = none) (hd : A.depth + 60 < recursionLimit) (hu : A.units + 200 < cLine)
    {l : Addr} {vs : List Value} {ns : List Int} (hl : (hid g).IsList l vs.toArray) (hi : IntsAre vs ns) (hn : ns.length ≤ 63)
    {x : Str} {ver sz : Nat} {kd : Int} {one two : List Nat} {D1 D2 : Addr} {v1 v2 : List Value} {n1 n2 : Nat} {t1 t2 t3 t4 t5 t6 : Tok} (hk0 : kd ≠ 0) {o1 o2 o3 o4 : Obj}
    (hx : KXs.Still x) (hx1 : 1 ≤ x.cps.size) (hx4 : x.cps.size ≤ 4) (hv16 : ver ≤ 16) (hw2 : 2 ≤ sz) (hw40 : sz ≤ 40) (hv0 : ver = 0 → sz = 20 ∨ sz = 32)
    (i1 : NatsAre v1 one) (i2 : NatsAre v2 two) (l1 : one.length = sz) (l2 : two.length = sz) (b1 : ∀ n ∈ one, n < 256) (b2 : ∀ n ∈ two, n < 256)
    (h1 : o1.data = .cell (some (.ref l))) (h2 : o2.data = .cell (some (.int (sz : Int) t1)))
    (h3 : o3.data = .cell (some (.str (benc (if ver = 0 then 1 else 2) x (ver :: to5 one)) t2))) (h4 : o4.data = .cell (some (.str (benc (if ver = 0 then 1 else 2) x (ver :: to5 two)) t3)))
    (F : Fr (hid g) L s.heap m) (N : News (hid g) L s.heap [(D1, listOf v1.toArray n1), (D2, listOf v2.toArray n2), (L + 1 + 1 + 1 + 1, o4), (L + 1 + 1 + 1, o3), (L + 1 + 1, o2), (L + 1, o1), (59, tabO (ps ++ more))]) (trip : TriplesOk (ps ++ more).toList)
    (hm : ∀ p ∈ [(Str.ofString "kind", Value.int kd t6), (Str.ofString "first", Value.str x t4), (Str.ofString "version", Value.int (ver : Int) t5), (Str.ofString "one", Value.ref D1), (Str.ofString "two", Value.ref D2)], m p.1 = some p.2)
    (hret : LEnd g ps s.os Q) :
   wpAny (model PySem.Challenge.rw_ai0020_01.row.prog w) A (execs (arm01.drop 7) (lawEnv L f cd)) Q E s := by
  change wpAny _ _ (execs (_ :: _) (envOfC _ ⟨_, _, _, _, _⟩ _ _ _)) _ _ _
  rw [← kst_in hm] at F
  have hxl : x.length = x.cps.size := rfl
  (repeat' ((( (fail_if_success (with_reducible show wpAny _ _ (exec (Stmt.For _ _ _ _ _) _) _ _ _)); (fail_if_success (with_reducible show wpAny _ _ (exec (Stmt.While _ _ _ _) _) _ _ _)); (fail_if_success (with_reducible show wpAny _ _ (pyIter _) _ _ _)); (fail_if_success (with_reducible show wpAny _ _ (eval (Expr.ListComp _ _ _ _) _) _ _ _)); (fail_if_success (with_reducible show wpAny _ _ (eval (Expr.GeneratorExp _ _ _ _) _) _ _ _)); (fail_if_success (with_reducible show wpAny _ _ (exec (Stmt.Assign _ (Expr.ListComp _ _ _ _) _) _) _ _ _)); (fail_if_success (with_reducible show wpAny _ _ (PySem.call (Value.ref _) _ _) _ _ _)); (fail_if_success (with_reducible show wpAny _ _ (PySem.call (Value.builtin "list.append") _) _ _ _)); (fail_if_success (with_reducible show wpAny _ _ (PySem.call (Value.builtin "any") _) _ _ _)); (fail_if_success (with_reducible show wpAny _ _ (PySem.call (Value.type "zip") _) _ _ _)); (fail_if_success (with_reducible show wpAny _ _ (PySem.call (Value.builtin "all") _) _ _ _)); (fail_if_success (with_reducible show InvEndN _ _ _ _ _ _ _)))); first | (dsimp only; walk1) | walk1))
  · (rename (kd = 0) => hk1)
    exact absurd hk1 hk0
  refine Assign_at (fun _ => true) (FN (fun k y => ∃ t, y = .int ((((num ns (40 + k) * 11).fmod 256).toNat : Nat) : Int) t)) (by with_unfolding_all rfl) (by with_unfolding_all rfl) (by decide) (by rfl) (by decide) (by rfl) (by rfl) (by rfl) ?_ (fun _ => rfl)
  (repeat' ((( (fail_if_success (with_reducible show wpAny _ _ (exec (Stmt.For _ _ _ _ _) _) _ _ _)); (fail_if_success (with_reducible show wpAny _ _ (exec (Stmt.While _ _ _ _) _) _ _ _)); (fail_if_success (with_reducible show wpAny _ _ (pyIter _) _ _ _)); (fail_if_success (with_reducible show wpAny _ _ (eval (Expr.ListComp _ _ _ _) _) _ _ _)); (fail_if_success (with_reducible show wpAny _ _ (eval (Expr.GeneratorExp _ _ _ _) _) _ _ _)); (fail_if_success (with_reducible show wpAny _ _ (exec (Stmt.Assign _ (Expr.ListComp _ _ _ _) _) _) _ _ _)); (fail_if_success (with_reducible show wpAny _ _ (PySem.call (Value.ref _) _ _) _ _ _)); (fail_if_success (with_reducible show wpAny _ _ (PySem.call (Value.builtin "list.append") _) _ _ _)); (fail_if_success (with_reducible show wpAny _ _ (PySem.call (Value.builtin "any") _) _ _ _)); (fail_if_success (with_reducible show wpAny _ _ (PySem.call (Value.type "zip") _) _ _ _)); (fail_if_success (with_reducible show wpAny _ _ (PySem.call (Value.builtin "all") _) _ _ _)); (fail_if_success (with_reducible show InvEndN _ _ _ _ _ _ _)))); first | (dsimp only; walk1) | walk1))
  (rename IsRange _ _ _ _ _ _ _ _ => rg)
  (((rename Fr _ _ _ _ => uF); (have uX1 := Frag.In.keeps (by assumption) uF.keep); (have uT1 := TopRead.keeps (by assumption) uF.keep)))
  (rename Fr _ _ _ _ => F)
  (rename News _ _ _ _ => N)
  have hc1 := (N (L + 1, o1) (by k_mem)).1
  have hlc := hl.at fun o e => F.keep _ o e
  refine pi_range0 (n := sz) (fun k y => ∃ t, y = .int ((((num ns (40 + k) * 11).fmod 256).toNat : Nat) : Int) t) hh rg (by (first | lia | omega)) ?_ (fun it o X => core_ac F N X ?_)
  · intro C k u s₃ m₃ E' hk8 F N hm
    clear hret
    (repeat' ((( (fail_if_success (with_reducible show wpAny _ _ (exec (Stmt.For _ _ _ _ _) _) _ _ _)); (fail_if_success (with_reducible show wpAny _ _ (exec (Stmt.While _ _ _ _) _) _ _ _)); (fail_if_success (with_reducible show wpAny _ _ (pyIter _) _ _ _)); (fail_if_success (with_reducible show wpAny _ _ (eval (Expr.ListComp _ _ _ _) _) _ _ _)); (fail_if_success (with_reducible show wpAny _ _ (eval (Expr.GeneratorExp _ _ _ _) _) _ _ _)); (fail_if_success (with_reducible show wpAny _ _ (exec (Stmt.Assign _ (Expr.ListComp _ _ _ _) _) _) _ _ _)); (fail_if_success (with_reducible show wpAny _ _ (PySem.call (Value.ref _) _ _) _ _ _)); (fail_if_success (with_reducible show wpAny _ _ (PySem.call (Value.builtin "list.append") _) _ _ _)); (fail_if_success (with_reducible show wpAny _ _ (PySem.call (Value.builtin "any") _) _ _ _)); (fail_if_success (with_reducible show wpAny _ _ (PySem.call (Value.type "zip") _) _ _ _)); (fail_if_success (with_reducible show wpAny _ _ (PySem.call (Value.builtin "all") _) _ _ _)); (fail_if_success (with_reducible show InvEndN _ _ _ _ _ _ _)))); first | (dsimp only; walk1) | walk1))
    (( (rename Fr _ _ _ _ => F9); (rename News _ _ _ _ => N9); (rename Heap.IsList _ _ _ => hl9); (rename _ ≤ 63 => hn9); (refine Mine.num_callI (by exact ⟨Frag.In.keeps (by assumption) F9.keep, TopRead.keeps (by assumption) F9.keep⟩) (by assumption) (by (first | lia | omega)) (by exact hl9.at fun o e => F9.keep _ o e) (by assumption) (by (first | lia | omega)) (by (first | lia | omega)) (by (first | lia | omega)) ?_); (intro h9 tk9 t9 hk9); (have F1 := Mine.led_fr F9 hk9); (have N1 := Mine.led_keep N9 hk9); clear F9 N9; dsimp only))
    (repeat' ((( (fail_if_success (with_reducible show wpAny _ _ (exec (Stmt.For _ _ _ _ _) _) _ _ _)); (fail_if_success (with_reducible show wpAny _ _ (exec (Stmt.While _ _ _ _) _) _ _ _)); (fail_if_success (with_reducible show wpAny _ _ (pyIter _) _ _ _)); (fail_if_success (with_reducible show wpAny _ _ (eval (Expr.ListComp _ _ _ _) _) _ _ _)); (fail_if_success (with_reducible show wpAny _ _ (eval (Expr.GeneratorExp _ _ _ _) _) _ _ _)); (fail_if_success (with_reducible show wpAny _ _ (exec (Stmt.Assign _ (Expr.ListComp _ _ _ _) _) _) _ _ _)); (fail_if_success (with_reducible show wpAny _ _ (PySem.call (Value.ref _) _ _) _ _ _)); (fail_if_success (with_reducible show wpAny _ _ (PySem.call (Value.builtin "list.append") _) _ _ _)); (fail_if_success (with_reducible show wpAny _ _ (PySem.call (Value.builtin "any") _) _ _ _)); (fail_if_success (with_reducible show wpAny _ _ (PySem.call (Value.type "zip") _) _ _ _)); (fail_if_success (with_reducible show wpAny _ _ (PySem.call (Value.builtin "all") _) _ _ _)); (fail_if_success (with_reducible show InvEndN _ _ _ _ _ _ _)))); first | (dsimp only; walk1) | walk1))
    · have ef := fmodN (num ns (40 + k) * 11) 256 (by decide)
      have e1 : (40 + (k : Int)).toNat = 40 + k := by (first | lia | omega)
      rw [e1]
      exact congrArg (fun q => Value.int q _) ef
    · exact ⟨_, _, rfl, by assumption⟩
  · clear F N
    intro D' h'' tk' ys' n' hD0' hA F N hk'
    (repeat' ((( (fail_if_success (with_reducible show wpAny _ _ (exec (Stmt.For _ _ _ _ _) _) _ _ _)); (fail_if_success (with_reducible show wpAny _ _ (exec (Stmt.While _ _ _ _) _) _ _ _)); (fail_if_success (with_reducible show wpAny _ _ (pyIter _) _ _ _)); (fail_if_success (with_reducible show wpAny _ _ (eval (Expr.ListComp _ _ _ _) _) _ _ _)); (fail_if_success (with_reducible show wpAny _ _ (eval (Expr.GeneratorExp _ _ _ _) _) _ _ _)); (fail_if_success (with_reducible show wpAny _ _ (exec (Stmt.Assign _ (Expr.ListComp _ _ _ _) _) _) _ _ _)); (fail_if_success (with_reducible show wpAny _ _ (PySem.call (Value.ref _) _ _) _ _ _)); (fail_if_success (with_reducible show wpAny _ _ (PySem.call (Value.builtin "list.append") _) _ _ _)); (fail_if_success (with_reducible show wpAny _ _ (PySem.call (Value.builtin "any") _) _ _ _)); (fail_if_success (with_reducible show wpAny _ _ (PySem.call (Value.type "zip") _) _ _ _)); (fail_if_success (with_reducible show wpAny _ _ (PySem.call (Value.builtin "all") _) _ _ _)); (fail_if_success (with_reducible show InvEndN _ _ _ _ _ _ _)))); first | (dsimp only; walk1) | walk1))
    (rename Fr _ _ _ _ => F)
    (rename News _ _ _ _ => N)
    have i3 : NatsAre ys' ((List.range sz).map fun k => ((num ns (40 + k) * 11).fmod 256).toNat) := All2.natsOf hA
    have l3 : ((List.range sz).map fun k => ((num ns (40 + k) * 11).fmod 256).toNat).length = sz := by simp
    have b3 : ∀ n ∈ (List.range sz).map fun k => ((num ns (40 + k) * 11).fmod 256).toNat, n < 256 := by
      intro n hn
      obtain ⟨k, -, rfl⟩ := List.mem_map.mp hn
      exact fmodN_lt _ 256 (by decide)
    generalize (List.range sz).map (fun k => ((num ns (40 + k) * 11).fmod 256).toNat) = three at i3 l3 b3
    refine enc_step (more := more) (rest := [(D', listOf ys'.toArray n'), (D1, listOf v1.toArray n1), (D2, listOf v2.toArray n2), (L + 1 + 1 + 1 + 1, o4), (L + 1 + 1 + 1, o3), (L + 1 + 1, o2), (L + 1, o1)]) Z (by exact F) (by exact N) (by k_mem) trip
      (by
        refine List.forall_mem_cons.mpr ⟨⟨by k_mem, notTab_list⟩, ?_⟩
        refine List.forall_mem_cons.mpr ⟨⟨by k_mem, notTab_list⟩, ?_⟩
        refine List.forall_mem_cons.mpr ⟨⟨by k_mem, notTab_list⟩, ?_⟩
        exact List.forall_mem_cons.mpr ⟨⟨by k_mem, notTab_cell h4⟩, List.forall_mem_cons.mpr ⟨⟨by k_mem, notTab_cell h3⟩, List.forall_mem_cons.mpr ⟨⟨by k_mem, notTab_cell h2⟩, List.forall_mem_cons.mpr ⟨⟨by k_mem, notTab_cell h1⟩, List.forall_mem_nil _⟩⟩⟩⟩)
      hL (by exact hb) hh hd hu hx hx1 hx4 (by exact ⟨_, (N _ (by k_mem)).1, rfl, _, rfl⟩) i3 b3 hv16 (by (first | lia | omega)) (by (first | lia | omega)) (by rw [l3]; exact hv0) ?_
    clear F N
    intro s5 t6 more5 F N trip5 hb5 os5
    (repeat' ((( (fail_if_success (with_reducible show wpAny _ _ (exec (Stmt.For _ _ _ _ _) _) _ _ _)); (fail_if_success (with_reducible show wpAny _ _ (exec (Stmt.While _ _ _ _) _) _ _ _)); (fail_if_success (with_reducible show wpAny _ _ (pyIter _) _ _ _)); (fail_if_success (with_reducible show wpAny _ _ (eval (Expr.ListComp _ _ _ _) _) _ _ _)); (fail_if_success (with_reducible show wpAny _ _ (eval (Expr.GeneratorExp _ _ _ _) _) _ _ _)); (fail_if_success (with_reducible show wpAny _ _ (exec (Stmt.Assign _ (Expr.ListComp _ _ _ _) _) _) _ _ _)); (fail_if_success (with_reducible show wpAny _ _ (PySem.call (Value.ref _) _ _) _ _ _)); (fail_if_success (with_reducible show wpAny _ _ (PySem.call (Value.builtin "list.append") _) _ _ _)); (fail_if_success (with_reducible show wpAny _ _ (PySem.call (Value.builtin "any") _) _ _ _)); (fail_if_success (with_reducible show wpAny _ _ (PySem.call (Value.type "zip") _) _ _ _)); (fail_if_success (with_reducible show wpAny _ _ (PySem.call (Value.builtin "all") _) _ _ _)); (fail_if_success (with_reducible show InvEndN _ _ _ _ _ _ _)))); first | (dsimp only; walk1) | walk1))
    refine ListComp_Z (by with_unfolding_all rfl) (by decide) (by rfl) (by decide) ?_ (fun _ => rfl)
    (repeat' ((( (fail_if_success (with_reducible show wpAny _ _ (exec (Stmt.For _ _ _ _ _) _) _ _ _)); (fail_if_success (with_reducible show wpAny _ _ (exec (Stmt.While _ _ _ _) _) _ _ _)); (fail_if_success (with_reducible show wpAny _ _ (pyIter _) _ _ _)); (fail_if_success (with_reducible show wpAny _ _ (eval (Expr.ListComp _ _ _ _) _) _ _ _)); (fail_if_success (with_reducible show wpAny _ _ (eval (Expr.GeneratorExp _ _ _ _) _) _ _ _)); (fail_if_success (with_reducible show wpAny _ _ (exec (Stmt.Assign _ (Expr.ListComp _ _ _ _) _) _) _ _ _)); (fail_if_success (with_reducible show wpAny _ _ (PySem.call (Value.ref _) _ _) _ _ _)); (fail_if_success (with_reducible show wpAny _ _ (PySem.call (Value.builtin "list.append") _) _ _ _)); (fail_if_success (with_reducible show wpAny _ _ (PySem.call (Value.builtin "any") _) _ _ _)); (fail_if_success (with_reducible show wpAny _ _ (PySem.call (Value.type "zip") _) _ _ _)); (fail_if_success (with_reducible show wpAny _ _ (PySem.call (Value.builtin "all") _) _ _ _)); (fail_if_success (with_reducible show InvEndN _ _ _ _ _ _ _)))); first | (dsimp only; walk1) | walk1))
    (((rename Fr _ _ _ _ => uF); (have uX1 := Frag.In.keeps (by assumption) uF.keep); (have uT1 := TopRead.keeps (by assumption) uF.keep)))
    (rename Fr _ _ _ _ => F)
    (rename News _ _ _ _ => N)
    refine zip3_src (x := Str.ofString "x") (y := Str.ofString "y") (z := Str.ofString "z") (a1 := one) (a2 := two) (a3 := three) (fun a y => ∃ t, y = .int (((a.1 ^^^ a.2.1) ^^^ a.2.2 : Nat) : Int) t) hh (by exact News.isList N (by k_mem)) (by exact News.isList N (by k_mem)) (by exact News.isList N (by k_mem))
      i1 i2 i3 (by (first | lia | omega)) (by (first | lia | omega)) (by (first | lia | omega)) (fun C => asg3 hh (by rfl) (by rfl) (by rfl) (by rfl) (by decide) (by decide) (by decide)) rfl ?_ ?_
    · intro C a b c t1 t2 t3 s₃ m₃ E' hm3 F N hm1 hm2 hm3
      clear hret
      (repeat' ((( (fail_if_success (with_reducible show wpAny _ _ (exec (Stmt.For _ _ _ _ _) _) _ _ _)); (fail_if_success (with_reducible show wpAny _ _ (exec (Stmt.While _ _ _ _) _) _ _ _)); (fail_if_success (with_reducible show wpAny _ _ (pyIter _) _ _ _)); (fail_if_success (with_reducible show wpAny _ _ (eval (Expr.ListComp _ _ _ _) _) _ _ _)); (fail_if_success (with_reducible show wpAny _ _ (eval (Expr.GeneratorExp _ _ _ _) _) _ _ _)); (fail_if_success (with_reducible show wpAny _ _ (exec (Stmt.Assign _ (Expr.ListComp _ _ _ _) _) _) _ _ _)); (fail_if_success (with_reducible show wpAny _ _ (PySem.call (Value.ref _) _ _) _ _ _)); (fail_if_success (with_reducible show wpAny _ _ (PySem.call (Value.builtin "list.append") _) _ _ _)); (fail_if_success (with_reducible show wpAny _ _ (PySem.call (Value.builtin "any") _) _ _ _)); (fail_if_success (with_reducible show wpAny _ _ (PySem.call (Value.type "zip") _) _ _ _)); (fail_if_success (with_reducible show wpAny _ _ (PySem.call (Value.builtin "all") _) _ _ _)); (fail_if_success (with_reducible show InvEndN _ _ _ _ _ _ _)))); first | (dsimp only; walk1) | walk1))
      exact ⟨_, _, rfl, fun _ _ e => e⟩
    · intro D3 h3' tk3 ys3 k3 hD30 hD3 hA3 hk3
      have F1 := led_fr F hk3
      have N1 := led_add F N hk3 hD30 hD3
      clear F N
      (repeat' ((( (fail_if_success (with_reducible show wpAny _ _ (exec (Stmt.For _ _ _ _ _) _) _ _ _)); (fail_if_success (with_reducible show wpAny _ _ (exec (Stmt.While _ _ _ _) _) _ _ _)); (fail_if_success (with_reducible show wpAny _ _ (pyIter _) _ _ _)); (fail_if_success (with_reducible show wpAny _ _ (eval (Expr.ListComp _ _ _ _) _) _ _ _)); (fail_if_success (with_reducible show wpAny _ _ (eval (Expr.GeneratorExp _ _ _ _) _) _ _ _)); (fail_if_success (with_reducible show wpAny _ _ (exec (Stmt.Assign _ (Expr.ListComp _ _ _ _) _) _) _ _ _)); (fail_if_success (with_reducible show wpAny _ _ (PySem.call (Value.ref _) _ _) _ _ _)); (fail_if_success (with_reducible show wpAny _ _ (PySem.call (Value.builtin "list.append") _) _ _ _)); (fail_if_success (with_reducible show wpAny _ _ (PySem.call (Value.builtin "any") _) _ _ _)); (fail_if_success (with_reducible show wpAny _ _ (PySem.call (Value.type "zip") _) _ _ _)); (fail_if_success (with_reducible show wpAny _ _ (PySem.call (Value.builtin "all") _) _ _ _)); (fail_if_success (with_reducible show InvEndN _ _ _ _ _ _ _)))); first | (dsimp only; walk1) | walk1))
      (rename Fr _ _ _ _ => F)
      (rename News _ _ _ _ => N)
      have i4 : NatsAre ys3 (z3l one two three) := All2.natsOf hA3
      have l4 : (z3l one two three).length = sz := z3l_len l1 l2 l3
      have b4 : ∀ n ∈ z3l one two three, n < 256 := z3l_lt (m := 8) b1 b2 b3
      refine enc_step (more := more5) (rest := [(L + 1 + 1 + 1 + 1, o4), (L + 1 + 1 + 1, o3), (L + 1 + 1, o2), (L + 1, o1)]) Z (by exact F) (by exact N) (by k_mem) trip5
        (List.forall_mem_cons.mpr ⟨⟨by k_mem, notTab_cell h4⟩, List.forall_mem_cons.mpr ⟨⟨by k_mem, notTab_cell h3⟩, List.forall_mem_cons.mpr ⟨⟨by k_mem, notTab_cell h2⟩, List.forall_mem_cons.mpr ⟨⟨by k_mem, notTab_cell h1⟩, List.forall_mem_nil _⟩⟩⟩⟩)
        hL (by exact hb5) hh hd hu hx hx1 hx4 (by exact News.isList N (by k_mem)) i4 b4 hv16 (by (first | lia | omega)) (by (first | lia | omega)) (by rw [l4]; exact hv0) ?_
      clear F N
      intro s6 t7 more6 F N trip6 hb6 os6
      have ka := kf (if ver = 0 then 1 else 2) x ver one
      have kb := kf (if ver = 0 then 1 else 2) x ver two
      have kc := kf (if ver = 0 then 1 else 2) x ver three
      have kd := kf (if ver = 0 then 1 else 2) x ver (z3l one two three)
      generalize hya : benc (if ver = 0 then 1 else 2) x (ver :: to5 one) = ya at h3 ka
      generalize hyb : benc (if ver = 0 then 1 else 2) x (ver :: to5 two) = yb at h4 kb
      generalize hyc : benc (if ver = 0 then 1 else 2) x (ver :: to5 three) = yc at kc
      generalize hyd : benc (if ver = 0 then 1 else 2) x (ver :: to5 (z3l one two three)) = yd at kd
      obtain ⟨la, ta, fa⟩ := ka
      obtain ⟨lb, tb, fb⟩ := kb
      obtain ⟨lc, tc, fc⟩ := kc
      obtain ⟨ld, td, fd⟩ := kd
      rw [wrd_len, l1] at la
      rw [wrd_len, l2] at lb
      rw [wrd_len, l3] at lc
      rw [wrd_len, l4] at ld
      (repeat' ((( (fail_if_success (with_reducible show wpAny _ _ (exec (Stmt.For _ _ _ _ _) _) _ _ _)); (fail_if_success (with_reducible show wpAny _ _ (exec (Stmt.While _ _ _ _) _) _ _ _)); (fail_if_success (with_reducible show wpAny _ _ (pyIter _) _ _ _)); (fail_if_success (with_reducible show wpAny _ _ (eval (Expr.ListComp _ _ _ _) _) _ _ _)); (fail_if_success (with_reducible show wpAny _ _ (eval (Expr.GeneratorExp _ _ _ _) _) _ _ _)); (fail_if_success (with_reducible show wpAny _ _ (exec (Stmt.Assign _ (Expr.ListComp _ _ _ _) _) _) _ _ _)); (fail_if_success (with_reducible show wpAny _ _ (PySem.call (Value.ref _) _ _) _ _ _)); (fail_if_success (with_reducible show wpAny _ _ (PySem.call (Value.builtin "list.append") _) _ _ _)); (fail_if_success (with_reducible show wpAny _ _ (PySem.call (Value.builtin "any") _) _ _ _)); (fail_if_success (with_reducible show wpAny _ _ (PySem.call (Value.type "zip") _) _ _ _)); (fail_if_success (with_reducible show wpAny _ _ (PySem.call (Value.builtin "all") _) _ _ _)); (fail_if_success (with_reducible show InvEndN _ _ _ _ _ _ _)))); first | (dsimp only; walk1) | walk1))
      (rename Fr _ _ _ _ => F)
      (rename News _ _ _ _ => N)
      refine unpackItemsN_ F N (by exact ⟨_, (N _ (.head _)).1, rfl, _, rfl⟩) hh (by rfl) ?_
      clear F N
      intro h7 F N
      dsimp only
      (repeat' ((( (fail_if_success (with_reducible show wpAny _ _ (exec (Stmt.For _ _ _ _ _) _) _ _ _)); (fail_if_success (with_reducible show wpAny _ _ (exec (Stmt.While _ _ _ _) _) _ _ _)); (fail_if_success (with_reducible show wpAny _ _ (pyIter _) _ _ _)); (fail_if_success (with_reducible show wpAny _ _ (eval (Expr.ListComp _ _ _ _) _) _ _ _)); (fail_if_success (with_reducible show wpAny _ _ (eval (Expr.GeneratorExp _ _ _ _) _) _ _ _)); (fail_if_success (with_reducible show wpAny _ _ (exec (Stmt.Assign _ (Expr.ListComp _ _ _ _) _) _) _ _ _)); (fail_if_success (with_reducible show wpAny _ _ (PySem.call (Value.ref _) _ _) _ _ _)); (fail_if_success (with_reducible show wpAny _ _ (PySem.call (Value.builtin "list.append") _) _ _ _)); (fail_if_success (with_reducible show wpAny _ _ (PySem.call (Value.builtin "any") _) _ _ _)); (fail_if_success (with_reducible show wpAny _ _ (PySem.call (Value.type "zip") _) _ _ _)); (fail_if_success (with_reducible show wpAny _ _ (PySem.call (Value.builtin "all") _) _ _ _)); (fail_if_success (with_reducible show InvEndN _ _ _ _ _ _ _)))); first | (dsimp only; walk1) | walk1))
      rotate_left
      · (rename (_ = false) => hno)
        rw [td, beq_self_eq_true] at hno
        cases hno
      · (rename (_ = false) => hno)
        rw [ta, beq_self_eq_true] at hno
        cases hno
      (rename Fr _ _ _ _ => F)
      (rename News _ _ _ _ => N)
      refine sum_call (n := 7 + (sz * 8 + 4) / 5) (ds := [wrd (if ver = 0 then 1 else 2) x ver one, wrd (if ver = 0 then 1 else 2) x ver two, wrd (if ver = 0 then 1 else 2) x ver three]) (by exact Z.C.keeps F.keep) hh (by (first | lia | omega)) (by exact ⟨_, (N _ (.head _)).1, rfl, _, rfl⟩)
        (by simp only [List.map_cons, List.map_nil]; rw [← fa, ← fb, ← fc]; exact .cons _ _ (.cons _ _ (.cons _ _ .nil))) rfl ?_ (by (first | lia | omega)) (by (first | lia | omega)) ?_ ?_
      · intro d hd
        simp only [List.mem_cons, List.not_mem_nil, or_false] at hd
        rcases hd with rfl | rfl | rfl
        · rw [wrd_len, l1]
        · rw [wrd_len, l2]
        · rw [wrd_len, l3]
      · intro d hd
        simp only [List.mem_cons, List.not_mem_nil, or_false] at hd
        rcases hd with rfl | rfl | rfl <;> exact wrd_lt hv16
      · intro h9 tk9 t9 hk9
        have F1 := led_fr F hk9
        have N1 := led_keep N hk9
        clear F N
        (repeat' ((( (fail_if_success (with_reducible show wpAny _ _ (exec (Stmt.For _ _ _ _ _) _) _ _ _)); (fail_if_success (with_reducible show wpAny _ _ (exec (Stmt.While _ _ _ _) _) _ _ _)); (fail_if_success (with_reducible show wpAny _ _ (pyIter _) _ _ _)); (fail_if_success (with_reducible show wpAny _ _ (eval (Expr.ListComp _ _ _ _) _) _ _ _)); (fail_if_success (with_reducible show wpAny _ _ (eval (Expr.GeneratorExp _ _ _ _) _) _ _ _)); (fail_if_success (with_reducible show wpAny _ _ (exec (Stmt.Assign _ (Expr.ListComp _ _ _ _) _) _) _ _ _)); (fail_if_success (with_reducible show wpAny _ _ (PySem.call (Value.ref _) _ _) _ _ _)); (fail_if_success (with_reducible show wpAny _ _ (PySem.call (Value.builtin "list.append") _) _ _ _)); (fail_if_success (with_reducible show wpAny _ _ (PySem.call (Value.builtin "any") _) _ _ _)); (fail_if_success (with_reducible show wpAny _ _ (PySem.call (Value.type "zip") _) _ _ _)); (fail_if_success (with_reducible show wpAny _ _ (PySem.call (Value.builtin "all") _) _ _ _)); (fail_if_success (with_reducible show InvEndN _ _ _ _ _ _ _)))); first | (dsimp only; walk1) | walk1))
        rw [fd, wrd_xor (n := sz) b1 b2 b3 l1 l2 l3, beq_self_eq_true]
        exact hret _ more6 (fun b o hb e => F1.keep b o (hid_get e hb)) (N1 (59, _) (by k_mem)).1 hb6 (by exact os6.trans os5)
end Mine

namespace Mine
theorem k01 {w : World} {A : Around} {s : Shared} {p : Program} {loose : List Str} {mg mb m : Str → Option Value} {ps : Array Value} {Q : Flow → Shared → Prop} {g : Heap} {L f : Addr} {cd : Value}
    (Z : Cz w p loose mg mb ps g) (X : (Mine.hd.heap_1 w.params).In (hid g)) (T : TopRead p loose mg mb (hid g)) (hL : L ≠ 59) (hb : AllBare s.gens) (hh : A.handled = none) (hd : A.depth + 60 < recursionLimit) (hu : A.units + 200 < cLine)
    {l : Addr} {vs : List Value} {ns : List Int} (hl : (hid g).IsList l vs.toArray) (hi : IntsAre vs ns) (hn : ns.length ≤ 63)
    {x : Str} {ver sz : Nat} {kd pk : Int} {t1 t4 t5 t6 t7 : Tok} {o1 o2 o3 o4 : Obj}
    (hx : KXs.Still x) (hx1 : 1 ≤ x.cps.size) (hx4 : x.cps.size ≤ 4) (hv16 : ver ≤ 16) (hw2 : 2 ≤ sz) (hw40 : sz ≤ 40) (hv0 : ver = 0 → sz = 20 ∨ sz = 32)
    (h1 : o1.data = .cell (some (.ref l))) (h2 : o2.data = .cell (some (.int (sz : Int) t1))) (h3 : o3.data = .cell none) (h4 : o4.data = .cell none)
    (F : Fr (hid g) L s.heap m) (N : News (hid g) L s.heap [(L + 1 + 1 + 1 + 1, o4), (L + 1 + 1 + 1, o3), (L + 1 + 1, o2), (L + 1, o1), (59, tabO ps)])
    (hm : ∀ p ∈ [(Str.ofString "kind", Value.int kd t6), (Str.ofString "pick", Value.int pk t7), (Str.ofString "first", Value.str x t4), (Str.ofString "version", Value.int (ver : Int) t5)], m p.1 = some p.2)
    (hret : LEnd g ps s.os Q) :
   wpAny (model PySem.Challenge.rw_ai0020_01.row.prog w) A (execs (arm01.drop 3) (lawEnv L f cd)) Q (fun _ _ => False) s := by
  change wpAny _ _ (execs (_ :: _) (envOfC _ ⟨_, _, _, _, _⟩ _ _ _)) _ _ _
  rw [← kst_in hm] at F
  (repeat' ((( (fail_if_success (with_reducible show wpAny _ _ (exec (Stmt.For _ _ _ _ _) _) _ _ _)); (fail_if_success (with_reducible show wpAny _ _ (exec (Stmt.While _ _ _ _) _) _ _ _)); (fail_if_success (with_reducible show wpAny _ _ (pyIter _) _ _ _)); (fail_if_success (with_reducible show wpAny _ _ (eval (Expr.ListComp _ _ _ _) _) _ _ _)); (fail_if_success (with_reducible show wpAny _ _ (eval (Expr.GeneratorExp _ _ _ _) _) _ _ _)); (fail_if_success (with_reducible show wpAny _ _ (exec (Stmt.Assign _ (Expr.ListComp _ _ _ _) _) _) _ _ _)); (fail_if_success (with_reducible show wpAny _ _ (PySem.call (Value.ref _) _ _) _ _ _)); (fail_if_success (with_reducible show wpAny _ _ (PySem.call (Value.builtin "list.append") _) _ _ _)); (fail_if_success (with_reducible show wpAny _ _ (PySem.call (Value.builtin "any") _) _ _ _)); (fail_if_success (with_reducible show wpAny _ _ (PySem.call (Value.type "zip") _) _ _ _)); (fail_if_success (with_reducible show wpAny _ _ (PySem.call (Value.builtin "all") _) _ _ _)); (fail_if_success (with_reducible show InvEndN _ _ _ _ _ _ _)))); first | (dsimp only; walk1) | walk1))
  refine Assign_at (fun _ => true) (FN (fun k y => ∃ t, y = .int ((((num ns (2 + k)).fmod 256).toNat : Nat) : Int) t)) (by with_unfolding_all rfl) (by with_unfolding_all rfl) (by decide) (by rfl) (by decide) (by rfl) (by rfl) (by rfl) ?_ (fun _ => rfl)
  (repeat' ((( (fail_if_success (with_reducible show wpAny _ _ (exec (Stmt.For _ _ _ _ _) _) _ _ _)); (fail_if_success (with_reducible show wpAny _ _ (exec (Stmt.While _ _ _ _) _) _ _ _)); (fail_if_success (with_reducible show wpAny _ _ (pyIter _) _ _ _)); (fail_if_success (with_reducible show wpAny _ _ (eval (Expr.ListComp _ _ _ _) _) _ _ _)); (fail_if_success (with_reducible show wpAny _ _ (eval (Expr.GeneratorExp _ _ _ _) _) _ _ _)); (fail_if_success (with_reducible show wpAny _ _ (exec (Stmt.Assign _ (Expr.ListComp _ _ _ _) _) _) _ _ _)); (fail_if_success (with_reducible show wpAny _ _ (PySem.call (Value.ref _) _ _) _ _ _)); (fail_if_success (with_reducible show wpAny _ _ (PySem.call (Value.builtin "list.append") _) _ _ _)); (fail_if_success (with_reducible show wpAny _ _ (PySem.call (Value.builtin "any") _) _ _ _)); (fail_if_success (with_reducible show wpAny _ _ (PySem.call (Value.type "zip") _) _ _ _)); (fail_if_success (with_reducible show wpAny _ _ (PySem.call (Value.builtin "all") _) _ _ _)); (fail_if_success (with_reducible show InvEndN _ _ _ _ _ _ _)))); first | (dsimp only; walk1) | walk1))
  (rename IsRange _ _ _ _ _ _ _ _ => rg)
  (((rename Fr _ _ _ _ => uF); (have uX1 := Frag.In.keeps (by assumption) uF.keep); (have uT1 := TopRead.keeps (by assumption) uF.keep)))
  (rename Fr _ _ _ _ => F)
  (rename News _ _ _ _ => N)
  have hc1 := (N (L + 1, o1) (by k_mem)).1
  have hlc := hl.at fun o e => F.keep _ o e
  refine pi_range0 (n := sz) (fun k y => ∃ t, y = .int ((((num ns (2 + k)).fmod 256).toNat : Nat) : Int) t) hh rg (by (first | lia | omega)) ?_ (fun it o X => core_ac F N X ?_)
  · intro C k u s₃ m₃ E' hk8 F N hm
    clear hret
    (repeat' ((( (fail_if_success (with_reducible show wpAny _ _ (exec (Stmt.For _ _ _ _ _) _) _ _ _)); (fail_if_success (with_reducible show wpAny _ _ (exec (Stmt.While _ _ _ _) _) _ _ _)); (fail_if_success (with_reducible show wpAny _ _ (pyIter _) _ _ _)); (fail_if_success (with_reducible show wpAny _ _ (eval (Expr.ListComp _ _ _ _) _) _ _ _)); (fail_if_success (with_reducible show wpAny _ _ (eval (Expr.GeneratorExp _ _ _ _) _) _ _ _)); (fail_if_success (with_reducible show wpAny _ _ (exec (Stmt.Assign _ (Expr.ListComp _ _ _ _) _) _) _ _ _)); (fail_if_success (with_reducible show wpAny _ _ (PySem.call (Value.ref _) _ _) _ _ _)); (fail_if_success (with_reducible show wpAny _ _ (PySem.call (Value.builtin "list.append") _) _ _ _)); (fail_if_success (with_reducible show wpAny _ _ (PySem.call (Value.builtin "any") _) _ _ _)); (fail_if_success (with_reducible show wpAny _ _ (PySem.call (Value.type "zip") _) _ _ _)); (fail_if_success (with_reducible show wpAny _ _ (PySem.call (Value.builtin "all") _) _ _ _)); (fail_if_success (with_reducible show InvEndN _ _ _ _ _ _ _)))); first | (dsimp only; walk1) | walk1))
    (( (rename Fr _ _ _ _ => F9); (rename News _ _ _ _ => N9); (rename Heap.IsList _ _ _ => hl9); (rename _ ≤ 63 => hn9); (refine Mine.num_callI (by exact ⟨Frag.In.keeps (by assumption) F9.keep, TopRead.keeps (by assumption) F9.keep⟩) (by assumption) (by (first | lia | omega)) (by exact hl9.at fun o e => F9.keep _ o e) (by assumption) (by (first | lia | omega)) (by (first | lia | omega)) (by (first | lia | omega)) ?_); (intro h9 tk9 t9 hk9); (have F1 := Mine.led_fr F9 hk9); (have N1 := Mine.led_keep N9 hk9); clear F9 N9; dsimp only))
    (repeat' ((( (fail_if_success (with_reducible show wpAny _ _ (exec (Stmt.For _ _ _ _ _) _) _ _ _)); (fail_if_success (with_reducible show wpAny _ _ (exec (Stmt.While _ _ _ _) _) _ _ _)); (fail_if_success (with_reducible show wpAny _ _ (pyIter _) _ _ _)); (fail_if_success (with_reducible show wpAny _ _ (eval (Expr.ListComp _ _ _ _) _) _ _ _)); (fail_if_success (with_reducible show wpAny _ _ (eval (Expr.GeneratorExp _ _ _ _) _) _ _ _)); (fail_if_success (with_reducible show wpAny _ _ (exec (Stmt.Assign _ (Expr.ListComp _ _ _ _) _) _) _ _ _)); (fail_if_success (with_reducible show wpAny _ _ (PySem.call (Value.ref _) _ _) _ _ _)); (fail_if_success (with_reducible show wpAny _ _ (PySem.call (Value.builtin "list.append") _) _ _ _)); (fail_if_success (with_reducible show wpAny _ _ (PySem.call (Value.builtin "any") _) _ _ _)); (fail_if_success (with_reducible show wpAny _ _ (PySem.call (Value.type "zip") _) _ _ _)); (fail_if_success (with_reducible show wpAny _ _ (PySem.call (Value.builtin "all") _) _ _ _)); (fail_if_success (with_reducible show InvEndN _ _ _ _ _ _ _)))); first | (dsimp only; walk1) | walk1))
    · have ef := fmodN (num ns (2 + k)) 256 (by decide)
      have e1 : (2 + (k : Int)).toNat = 2 + k := by (first | lia | omega)
      rw [e1]
      exact congrArg (fun q => Value.int q _) ef
    · exact ⟨_, _, rfl, by assumption⟩
  · clear F N hlc
    intro D' h'' tk' ys' n' hD0' hA F N hk'
    have i1 : NatsAre ys' ((List.range sz).map fun k => ((num ns (2 + k)).fmod 256).toNat) := All2.natsOf hA
    have l1 : ((List.range sz).map fun k => ((num ns (2 + k)).fmod 256).toNat).length = sz := by simp
    have b1 : ∀ n ∈ (List.range sz).map fun k => ((num ns (2 + k)).fmod 256).toNat, n < 256 := by
      intro n hn
      obtain ⟨k, -, rfl⟩ := List.mem_map.mp hn
      exact fmodN_lt _ 256 (by decide)
    generalize (List.range sz).map (fun k => ((num ns (2 + k)).fmod 256).toNat) = one at i1 l1 b1
    (repeat' ((( (fail_if_success (with_reducible show wpAny _ _ (exec (Stmt.For _ _ _ _ _) _) _ _ _)); (fail_if_success (with_reducible show wpAny _ _ (exec (Stmt.While _ _ _ _) _) _ _ _)); (fail_if_success (with_reducible show wpAny _ _ (pyIter _) _ _ _)); (fail_if_success (with_reducible show wpAny _ _ (eval (Expr.ListComp _ _ _ _) _) _ _ _)); (fail_if_success (with_reducible show wpAny _ _ (eval (Expr.GeneratorExp _ _ _ _) _) _ _ _)); (fail_if_success (with_reducible show wpAny _ _ (exec (Stmt.Assign _ (Expr.ListComp _ _ _ _) _) _) _ _ _)); (fail_if_success (with_reducible show wpAny _ _ (PySem.call (Value.ref _) _ _) _ _ _)); (fail_if_success (with_reducible show wpAny _ _ (PySem.call (Value.builtin "list.append") _) _ _ _)); (fail_if_success (with_reducible show wpAny _ _ (PySem.call (Value.builtin "any") _) _ _ _)); (fail_if_success (with_reducible show wpAny _ _ (PySem.call (Value.type "zip") _) _ _ _)); (fail_if_success (with_reducible show wpAny _ _ (PySem.call (Value.builtin "all") _) _ _ _)); (fail_if_success (with_reducible show InvEndN _ _ _ _ _ _ _)))); first | (dsimp only; walk1) | walk1))
    (rename Fr _ _ _ _ => F)
    (rename News _ _ _ _ => N)
    obtain ⟨D2, e⟩ := News.at1 N
    subst e
    refine For_invVF F (by rfl) (by rfl) ?_
    (repeat' ((( (fail_if_success (with_reducible show wpAny _ _ (exec (Stmt.For _ _ _ _ _) _) _ _ _)); (fail_if_success (with_reducible show wpAny _ _ (exec (Stmt.While _ _ _ _) _) _ _ _)); (fail_if_success (with_reducible show wpAny _ _ (pyIter _) _ _ _)); (fail_if_success (with_reducible show wpAny _ _ (eval (Expr.ListComp _ _ _ _) _) _ _ _)); (fail_if_success (with_reducible show wpAny _ _ (eval (Expr.GeneratorExp _ _ _ _) _) _ _ _)); (fail_if_success (with_reducible show wpAny _ _ (exec (Stmt.Assign _ (Expr.ListComp _ _ _ _) _) _) _ _ _)); (fail_if_success (with_reducible show wpAny _ _ (PySem.call (Value.ref _) _ _) _ _ _)); (fail_if_success (with_reducible show wpAny _ _ (PySem.call (Value.builtin "list.append") _) _ _ _)); (fail_if_success (with_reducible show wpAny _ _ (PySem.call (Value.builtin "any") _) _ _ _)); (fail_if_success (with_reducible show wpAny _ _ (PySem.call (Value.type "zip") _) _ _ _)); (fail_if_success (with_reducible show wpAny _ _ (PySem.call (Value.builtin "all") _) _ _ _)); (fail_if_success (with_reducible show InvEndN _ _ _ _ _ _ _)))); first | (dsimp only; walk1) | walk1))
    (rename IsRange _ _ _ _ _ _ _ _ => rg)
    try clear N
    try clear F
    (rename Fr _ _ _ _ => F)
    (rename News _ _ _ _ => N)
    have hN0 := Int.fmod_nonneg_of_pos (pk.fdiv 64) (show (0 : Int) < 3 by decide)
    have hN3 := Int.fmod_lt_of_pos (pk.fdiv 64) (show (0 : Int) < 3 by decide)
    obtain ⟨nn, hnn⟩ : ∃ nn : Nat, (pk.fdiv 64).fmod 3 = (nn : Int) := ⟨((pk.fdiv 64).fmod 3).toNat, by (first | lia | omega)⟩
    rw [hnn] at rg
    have hnn3 : nn < 3 := by (first | lia | omega)
    refine kst_range (n := 1 + nn) (σ := List Value × Nat) (fun c => [(D2, listOf c.1.toArray c.2), (D', listOf ys'.toArray n'), (L + 1 + 1 + 1 + 1, o4), (L + 1 + 1 + 1, o3), (L + 1 + 1, o2), (L + 1, o1), (59, tabO ps)]) (fun _ => []) (fun _ => True) [Str.ofString "at"]
      (fun pre c => ∃ two : List Nat, NatsAre c.1 two ∧ two.length = sz ∧ (∀ v ∈ two, v < 256) ∧ (pre ≠ [] → two ≠ one)) (ys', _) hh rg (small_one (by decide) (by decide) (by (first | lia | omega)) (by (first | lia | omega))) (by rw [rangeSize_nat]; (first | lia | omega)) F N trivial (List.forall_mem_nil _) ⟨one, i1, l1, b1, fun h => absurd rfl h⟩ ?_ ?_
    · clear F N rg hA hk'
      rintro ⟨v2, cap⟩ pre k t u h tk own hk hlt hoff - ⟨two, i2, l2, b2, hne⟩ F N
      dsimp only at i2 F N
      clear hret
      (repeat' ((( (fail_if_success (with_reducible show wpAny _ _ (exec (Stmt.For _ _ _ _ _) _) _ _ _)); (fail_if_success (with_reducible show wpAny _ _ (exec (Stmt.While _ _ _ _) _) _ _ _)); (fail_if_success (with_reducible show wpAny _ _ (pyIter _) _ _ _)); (fail_if_success (with_reducible show wpAny _ _ (eval (Expr.ListComp _ _ _ _) _) _ _ _)); (fail_if_success (with_reducible show wpAny _ _ (eval (Expr.GeneratorExp _ _ _ _) _) _ _ _)); (fail_if_success (with_reducible show wpAny _ _ (exec (Stmt.Assign _ (Expr.ListComp _ _ _ _) _) _) _ _ _)); (fail_if_success (with_reducible show wpAny _ _ (PySem.call (Value.ref _) _ _) _ _ _)); (fail_if_success (with_reducible show wpAny _ _ (PySem.call (Value.builtin "list.append") _) _ _ _)); (fail_if_success (with_reducible show wpAny _ _ (PySem.call (Value.builtin "any") _) _ _ _)); (fail_if_success (with_reducible show wpAny _ _ (PySem.call (Value.type "zip") _) _ _ _)); (fail_if_success (with_reducible show wpAny _ _ (PySem.call (Value.builtin "all") _) _ _ _)); (fail_if_success (with_reducible show InvEndN _ _ _ _ _ _ _)))); first | (dsimp only; walk1) | walk1))
      (( (rename Fr _ _ _ _ => F9); (rename News _ _ _ _ => N9); (rename Mine.Cz _ _ _ _ _ _ _ => Z9); (rename Heap.IsList _ _ _ => hl9); (rename _ ≤ 63 => hn9); (refine Mine.num_callI (by exact Z9.C.keeps F9.keep) (by assumption) (by (first | lia | omega)) (by exact hl9.at fun o e => F9.keep _ o e) (by assumption) (by (first | lia | omega)) (by (first | lia | omega)) (by (first | lia | omega)) ?_); (intro h9 tk9 t9 hk9); (have F1 := Mine.led_fr F9 hk9); (have N1 := Mine.led_keep N9 hk9); clear F9 N9; dsimp only))
      have ha0 := Int.fmod_nonneg_of_pos (num ns (30 + k).toNat) (show (0 : Int) < (sz : Int) by (first | lia | omega))
      have ha1 := Int.fmod_lt_of_pos (num ns (30 + k).toNat) (show (0 : Int) < (sz : Int) by (first | lia | omega))
      have hvl := i1.length
      have hvl2 := i2.length
      rw [List.length_map] at hvl hvl2
      (repeat' ((( (fail_if_success (with_reducible show wpAny _ _ (exec (Stmt.For _ _ _ _ _) _) _ _ _)); (fail_if_success (with_reducible show wpAny _ _ (exec (Stmt.While _ _ _ _) _) _ _ _)); (fail_if_success (with_reducible show wpAny _ _ (pyIter _) _ _ _)); (fail_if_success (with_reducible show wpAny _ _ (eval (Expr.ListComp _ _ _ _) _) _ _ _)); (fail_if_success (with_reducible show wpAny _ _ (eval (Expr.GeneratorExp _ _ _ _) _) _ _ _)); (fail_if_success (with_reducible show wpAny _ _ (exec (Stmt.Assign _ (Expr.ListComp _ _ _ _) _) _) _ _ _)); (fail_if_success (with_reducible show wpAny _ _ (PySem.call (Value.ref _) _ _) _ _ _)); (fail_if_success (with_reducible show wpAny _ _ (PySem.call (Value.builtin "list.append") _) _ _ _)); (fail_if_success (with_reducible show wpAny _ _ (PySem.call (Value.builtin "any") _) _ _ _)); (fail_if_success (with_reducible show wpAny _ _ (PySem.call (Value.type "zip") _) _ _ _)); (fail_if_success (with_reducible show wpAny _ _ (PySem.call (Value.builtin "all") _) _ _ _)); (fail_if_success (with_reducible show InvEndN _ _ _ _ _ _ _)))); first | (dsimp only; walk1) | walk1))
      (( (rename Fr _ _ _ _ => F9); (rename News _ _ _ _ => N9); (rename Mine.Cz _ _ _ _ _ _ _ => Z9); (rename Heap.IsList _ _ _ => hl9); (rename _ ≤ 63 => hn9); (refine Mine.num_callI (by exact Z9.C.keeps F9.keep) (by assumption) (by (first | lia | omega)) (by exact hl9.at fun o e => F9.keep _ o e) (by assumption) (by (first | lia | omega)) (by (first | lia | omega)) (by (first | lia | omega)) ?_); (intro h9 tk9 t9 hk9); (have F1 := Mine.led_fr F9 hk9); (have N1 := Mine.led_keep N9 hk9); clear F9 N9; dsimp only))
      (repeat' ((( (fail_if_success (with_reducible show wpAny _ _ (exec (Stmt.For _ _ _ _ _) _) _ _ _)); (fail_if_success (with_reducible show wpAny _ _ (exec (Stmt.While _ _ _ _) _) _ _ _)); (fail_if_success (with_reducible show wpAny _ _ (pyIter _) _ _ _)); (fail_if_success (with_reducible show wpAny _ _ (eval (Expr.ListComp _ _ _ _) _) _ _ _)); (fail_if_success (with_reducible show wpAny _ _ (eval (Expr.GeneratorExp _ _ _ _) _) _ _ _)); (fail_if_success (with_reducible show wpAny _ _ (exec (Stmt.Assign _ (Expr.ListComp _ _ _ _) _) _) _ _ _)); (fail_if_success (with_reducible show wpAny _ _ (PySem.call (Value.ref _) _ _) _ _ _)); (fail_if_success (with_reducible show wpAny _ _ (PySem.call (Value.builtin "list.append") _) _ _ _)); (fail_if_success (with_reducible show wpAny _ _ (PySem.call (Value.builtin "any") _) _ _ _)); (fail_if_success (with_reducible show wpAny _ _ (PySem.call (Value.type "zip") _) _ _ _)); (fail_if_success (with_reducible show wpAny _ _ (PySem.call (Value.builtin "all") _) _ _ _)); (fail_if_success (with_reducible show InvEndN _ _ _ _ _ _ _)))); first | (dsimp only; walk1) | walk1))
      (rename IntsAre _ (List.set _ _ _) => hI)
      have hr0 := Int.fmod_nonneg_of_pos (num ns (33 + k).toNat) (show (0 : Int) < 255 by decide)
      have hr1 := Int.fmod_lt_of_pos (num ns (33 + k).toNat) (show (0 : Int) < 255 by decide)
      have hil : ((num ns (30 + k).toNat).fmod (sz : Int)).toNat < one.length := by (first | lia | omega)
      have htu := turned (k := 256) (getD_lt (i := ((num ns (30 + k).toNat).fmod (sz : Int)).toNat) b1 (by decide)) hr0 (by exact hr1)
      have hI2 := set_nats hI (by rw [getD_cast]; exact htu.1)
      (((rename Fr _ _ _ _ => fE); (rename News _ _ _ _ => nE); (refine kst_end (_, _) fE nE (by first | kst_in | kst_inAny) (by first | (intro p hp; kst_mem) | kst_anyIn) (by rfl) trivial (by (try dsimp only); kst_all) (by (( (intro z h1 h2 h3); (simp only [List.forall_mem_cons, List.not_mem_nil, false_implies, implies_true, and_true, ne_eq] at h1 h2); (have h4 := h3); (simp only [List.contains_cons, List.contains_nil, Bool.or_false, Bool.or_eq_false_iff, beq_eq_false_iff_ne, ne_eq] at h4); (first | rfl | (simp only [kstB, h1, h2, h3, h4, if_false, ite_false, Bool.false_eq_true, not_false_eq_true]; done) | (simp [kstB, h1, h2, h3, h4]; done))))) ?_); clear fE nE; (try dsimp only)))
      refine ⟨_, hI2, by rw [List.length_set, l2], set_lt b2 (by rw [getD_cast]; exact (Int.toNat_lt htu.1).mpr htu.2.1), fun _ => set_ne (by (first | lia | omega)) hil (by rw [getD_cast]; exact htu.2.2)⟩
    · clear F N rg hA hk'
      rintro ⟨v2, cap⟩ u h tk - ⟨two, i2, l2, b2, hne⟩ F N
      dsimp only at i2 F N
      have hne2 : two ≠ one := hne (by simp [rangeKs])
      (repeat' ((( (fail_if_success (with_reducible show wpAny _ _ (exec (Stmt.For _ _ _ _ _) _) _ _ _)); (fail_if_success (with_reducible show wpAny _ _ (exec (Stmt.While _ _ _ _) _) _ _ _)); (fail_if_success (with_reducible show wpAny _ _ (pyIter _) _ _ _)); (fail_if_success (with_reducible show wpAny _ _ (eval (Expr.ListComp _ _ _ _) _) _ _ _)); (fail_if_success (with_reducible show wpAny _ _ (eval (Expr.GeneratorExp _ _ _ _) _) _ _ _)); (fail_if_success (with_reducible show wpAny _ _ (exec (Stmt.Assign _ (Expr.ListComp _ _ _ _) _) _) _ _ _)); (fail_if_success (with_reducible show wpAny _ _ (PySem.call (Value.ref _) _ _) _ _ _)); (fail_if_success (with_reducible show wpAny _ _ (PySem.call (Value.builtin "list.append") _) _ _ _)); (fail_if_success (with_reducible show wpAny _ _ (PySem.call (Value.builtin "any") _) _ _ _)); (fail_if_success (with_reducible show wpAny _ _ (PySem.call (Value.type "zip") _) _ _ _)); (fail_if_success (with_reducible show wpAny _ _ (PySem.call (Value.builtin "all") _) _ _ _)); (fail_if_success (with_reducible show InvEndN _ _ _ _ _ _ _)))); first | (dsimp only; walk1) | walk1))
      (rename Fr _ _ _ _ => F)
      (rename News _ _ _ _ => N)
      refine enc_step (more := #[]) (rest := [(D2, listOf v2.toArray cap), (D', listOf ys'.toArray n'), (L + 1 + 1 + 1 + 1, o4), (L + 1 + 1 + 1, o3), (L + 1 + 1, o2), (L + 1, o1)]) Z (by exact F) (by exact N) (by rw [Array.append_empty]; k_mem) (by rw [Array.append_empty]; exact Z.trip)
        (List.forall_mem_cons.mpr ⟨⟨by k_mem, notTab_list⟩, List.forall_mem_cons.mpr ⟨⟨by k_mem, notTab_list⟩, List.forall_mem_cons.mpr ⟨⟨by k_mem, notTab_cell h4⟩, List.forall_mem_cons.mpr ⟨⟨by k_mem, notTab_cell h3⟩, List.forall_mem_cons.mpr ⟨⟨by k_mem, notTab_cell h2⟩, List.forall_mem_cons.mpr ⟨⟨by k_mem, notTab_cell h1⟩, List.forall_mem_nil _⟩⟩⟩⟩⟩⟩)
        hL (by exact hb) hh hd hu hx hx1 hx4 (by exact News.isList N (by k_mem)) i1 b1 hv16 (by (first | lia | omega)) (by (first | lia | omega)) (by rw [l1]; exact hv0) ?_
      clear F N
      intro s5 t8 more5 F N trip5 hb5 os5
      (repeat' ((( (fail_if_success (with_reducible show wpAny _ _ (exec (Stmt.For _ _ _ _ _) _) _ _ _)); (fail_if_success (with_reducible show wpAny _ _ (exec (Stmt.While _ _ _ _) _) _ _ _)); (fail_if_success (with_reducible show wpAny _ _ (pyIter _) _ _ _)); (fail_if_success (with_reducible show wpAny _ _ (eval (Expr.ListComp _ _ _ _) _) _ _ _)); (fail_if_success (with_reducible show wpAny _ _ (eval (Expr.GeneratorExp _ _ _ _) _) _ _ _)); (fail_if_success (with_reducible show wpAny _ _ (exec (Stmt.Assign _ (Expr.ListComp _ _ _ _) _) _) _ _ _)); (fail_if_success (with_reducible show wpAny _ _ (PySem.call (Value.ref _) _ _) _ _ _)); (fail_if_success (with_reducible show wpAny _ _ (PySem.call (Value.builtin "list.append") _) _ _ _)); (fail_if_success (with_reducible show wpAny _ _ (PySem.call (Value.builtin "any") _) _ _ _)); (fail_if_success (with_reducible show wpAny _ _ (PySem.call (Value.type "zip") _) _ _ _)); (fail_if_success (with_reducible show wpAny _ _ (PySem.call (Value.builtin "all") _) _ _ _)); (fail_if_success (with_reducible show InvEndN _ _ _ _ _ _ _)))); first | (dsimp only; walk1) | walk1))
      (rename Fr _ _ _ _ => F)
      (rename News _ _ _ _ => N)
      refine enc_step (more := more5) (rest := [(D2, listOf v2.toArray cap), (D', listOf ys'.toArray n'), (L + 1 + 1 + 1 + 1, o4), (L + 1 + 1 + 1, o3), (L + 1 + 1, o2), (L + 1, o1)]) Z (by exact F) (by exact N) (by k_mem) trip5
        (List.forall_mem_cons.mpr ⟨⟨by k_mem, notTab_list⟩, List.forall_mem_cons.mpr ⟨⟨by k_mem, notTab_list⟩, List.forall_mem_cons.mpr ⟨⟨by k_mem, notTab_cell h4⟩, List.forall_mem_cons.mpr ⟨⟨by k_mem, notTab_cell h3⟩, List.forall_mem_cons.mpr ⟨⟨by k_mem, notTab_cell h2⟩, List.forall_mem_cons.mpr ⟨⟨by k_mem, notTab_cell h1⟩, List.forall_mem_nil _⟩⟩⟩⟩⟩⟩)
        hL (by exact hb5) hh hd hu hx hx1 hx4 (by exact News.isList N (by k_mem)) i2 b2 hv16 (by (first | lia | omega)) (by (first | lia | omega)) (by rw [l2]; exact hv0) ?_
      clear F N
      intro s6 t9 more6 F N trip6 hb6 os6
      (repeat' ((( (fail_if_success (with_reducible show wpAny _ _ (exec (Stmt.For _ _ _ _ _) _) _ _ _)); (fail_if_success (with_reducible show wpAny _ _ (exec (Stmt.While _ _ _ _) _) _ _ _)); (fail_if_success (with_reducible show wpAny _ _ (pyIter _) _ _ _)); (fail_if_success (with_reducible show wpAny _ _ (eval (Expr.ListComp _ _ _ _) _) _ _ _)); (fail_if_success (with_reducible show wpAny _ _ (eval (Expr.GeneratorExp _ _ _ _) _) _ _ _)); (fail_if_success (with_reducible show wpAny _ _ (exec (Stmt.Assign _ (Expr.ListComp _ _ _ _) _) _) _ _ _)); (fail_if_success (with_reducible show wpAny _ _ (PySem.call (Value.ref _) _ _) _ _ _)); (fail_if_success (with_reducible show wpAny _ _ (PySem.call (Value.builtin "list.append") _) _ _ _)); (fail_if_success (with_reducible show wpAny _ _ (PySem.call (Value.builtin "any") _) _ _ _)); (fail_if_success (with_reducible show wpAny _ _ (PySem.call (Value.type "zip") _) _ _ _)); (fail_if_success (with_reducible show wpAny _ _ (PySem.call (Value.builtin "all") _) _ _ _)); (fail_if_success (with_reducible show InvEndN _ _ _ _ _ _ _)))); first | (dsimp only; walk1) | walk1))
      (rename Fr _ _ _ _ => F)
      (rename News _ _ _ _ => N)
      have n1 := led_ne N (a := D2) (oa := listOf v2.toArray cap) (b := L + 1 + 1 + 1) (ob := o3) (by k_mem) (by k_mem) (list_ne_cell h3)
      have n2 := led_ne N (a := D') (oa := listOf ys'.toArray n') (b := L + 1 + 1 + 1) (ob := o3) (by k_mem) (by k_mem) (list_ne_cell h3)
      have n3 := led_ne N (a := D2) (oa := listOf v2.toArray cap) (b := L + 1 + 1 + 1 + 1) (ob := o4) (by k_mem) (by k_mem) (list_ne_cell h4)
      have n4 := led_ne N (a := D') (oa := listOf ys'.toArray n') (b := L + 1 + 1 + 1 + 1) (ob := o4) (by k_mem) (by k_mem) (list_ne_cell h4)
      have n5 := led_ne N (a := 59) (oa := tabO (ps ++ more6)) (b := L + 1 + 1 + 1) (ob := o3) (by k_mem) (by k_mem) (tab_ne_cell h3)
      have n6 := led_ne N (a := 59) (oa := tabO (ps ++ more6)) (b := L + 1 + 1 + 1 + 1) (ob := o4) (by k_mem) (by k_mem) (tab_ne_cell h4)
      have m1 : ∀ {a b : Nat}, a ≠ b → (a : Addr) ≠ b := fun h => h
      refine st_cell (rest := [(D2, listOf v2.toArray cap), (D', listOf ys'.toArray n'), (L + 1 + 1 + 1 + 1, o4), (L + 1 + 1, o2), (L + 1, o1), (59, tabO (ps ++ more6))]) rfl (by rfl) (by rfl) F N (by k_mem) h3
        (List.forall_mem_cons.mpr ⟨⟨by k_mem, n1⟩, List.forall_mem_cons.mpr ⟨⟨by k_mem, n2⟩, List.forall_mem_cons.mpr ⟨⟨by k_mem, m1 (by (first | lia | omega))⟩, List.forall_mem_cons.mpr ⟨⟨by k_mem, m1 (by (first | lia | omega))⟩, List.forall_mem_cons.mpr ⟨⟨by k_mem, m1 (by (first | lia | omega))⟩, List.forall_mem_cons.mpr ⟨⟨by k_mem, n5⟩, List.forall_mem_nil _⟩⟩⟩⟩⟩⟩) ?_
      clear F N
      intro h7 o3' h3' F N
      (repeat' ((((fail_if_success (with_reducible show wpAny _ _ (execs (Stmt.If _ _ _ _ :: _) _) _ _ _)); ((( (fail_if_success (with_reducible show wpAny _ _ (exec (Stmt.For _ _ _ _ _) _) _ _ _)); (fail_if_success (with_reducible show wpAny _ _ (exec (Stmt.While _ _ _ _) _) _ _ _)); (fail_if_success (with_reducible show wpAny _ _ (pyIter _) _ _ _)); (fail_if_success (with_reducible show wpAny _ _ (eval (Expr.ListComp _ _ _ _) _) _ _ _)); (fail_if_success (with_reducible show wpAny _ _ (eval (Expr.GeneratorExp _ _ _ _) _) _ _ _)); (fail_if_success (with_reducible show wpAny _ _ (exec (Stmt.Assign _ (Expr.ListComp _ _ _ _) _) _) _ _ _)); (fail_if_success (with_reducible show wpAny _ _ (PySem.call (Value.ref _) _ _) _ _ _)); (fail_if_success (with_reducible show wpAny _ _ (PySem.call (Value.builtin "list.append") _) _ _ _)); (fail_if_success (with_reducible show wpAny _ _ (PySem.call (Value.builtin "any") _) _ _ _)); (fail_if_success (with_reducible show wpAny _ _ (PySem.call (Value.type "zip") _) _ _ _)); (fail_if_success (with_reducible show wpAny _ _ (PySem.call (Value.builtin "all") _) _ _ _)); (fail_if_success (with_reducible show InvEndN _ _ _ _ _ _ _))))))); first | (dsimp only; walk1) | walk1))
      (rename Fr _ _ _ _ => F)
      (rename News _ _ _ _ => N)
      (rename (Obj.data _ = Data.cell (some (Value.str _ t9))) => h4')
      have hos : s6.os = s.os := os6.trans os5
      have he : (if ver = 0 then 1 else 2) = 1 ∨ (if ver = 0 then 1 else 2) = 2 := by split <;> simp
      have hf5 := five (ver := ver) (n := sz) hx he hv16 b1 b2 l1 l2 hw40 hne2
      have z1 := benc_size (if ver = 0 then 1 else 2) x ver one
      have z2 := benc_size (if ver = 0 then 1 else 2) x ver two
      rw [l1] at z1
      rw [l2] at z2
      by_cases hk0 : kd = 0
      · subst hk0
        show wpAny _ _ (execs (arm01.drop 7) (lawEnv L f cd)) _ _ _
        refine k0_ret (more := more6) Z Z.C.K Z.C.T hL (by exact hb6) hh hd hu h3' h4' (by rw [z1, z2]) (by (first | lia | omega)) hf5 (by exact F) (News.sub N (List.forall_mem_cons.mpr ⟨by k_mem, List.forall_mem_cons.mpr ⟨by k_mem, List.forall_mem_cons.mpr ⟨by k_mem, List.forall_mem_nil _⟩⟩⟩))
          (List.forall_mem_cons.mpr ⟨rfl, List.forall_mem_nil _⟩) (by show LEnd g ps s6.os Q; rw [hos]; exact hret)
      · show wpAny _ _ (execs (arm01.drop 7) (lawEnv L f cd)) _ _ _
        refine k1_ret (more := more6) (one := one) (two := two) (D1 := D') (D2 := D2) (v1 := ys') (v2 := v2) (n1 := n') (n2 := cap) (o1 := o1) (o2 := o2) Z Z.C.K Z.C.T hL (by exact hb6) hh hd hu hl hi hn hk0 hx hx1 hx4 hv16 hw2 hw40 hv0 i1 i2 l1 l2 b1 b2 h1 h2 h3' h4' (by exact F)
          (News.sub N (List.forall_mem_cons.mpr ⟨by k_mem, List.forall_mem_cons.mpr ⟨by k_mem, List.forall_mem_cons.mpr ⟨by k_mem, List.forall_mem_cons.mpr ⟨by k_mem, List.forall_mem_cons.mpr ⟨by k_mem, List.forall_mem_cons.mpr ⟨by k_mem, List.forall_mem_cons.mpr ⟨by k_mem, List.forall_mem_nil _⟩⟩⟩⟩⟩⟩⟩)) trip6
          (List.forall_mem_cons.mpr ⟨rfl, List.forall_mem_cons.mpr ⟨rfl, List.forall_mem_cons.mpr ⟨rfl, List.forall_mem_cons.mpr ⟨rfl, List.forall_mem_cons.mpr ⟨rfl, List.forall_mem_nil _⟩⟩⟩⟩⟩) (by show LEnd g ps s6.os Q; rw [hos]; exact hret)
end Mine

namespace Mine
/-- how the statement that stores the size ends -/
noncomputable def SzEnd (g : Heap) (L : Addr) (ps : Array Value) (o1 o3 o4 : Obj) (ver : Nat) (kd pk : Int) (t6 t7 : Tok) (x : Str) (s : Shared) (fl : Flow) (s' : Shared) : Prop :=
  fl = .next ∧ ∃ h' tk sz t o2', s' = { s with heap := h', toks := tk } ∧ 2 ≤ sz ∧ sz ≤ 40 ∧ (ver = 0 → sz = 20 ∨ sz = 32) ∧ o2'.data = Data.cell (some (.int ((sz : Nat) : Int) t)) ∧
    (∃ m' t4 t5, Fr (hid g) L h' m' ∧ ∀ p ∈ [(Str.ofString "kind", Value.int kd t6), (Str.ofString "pick", Value.int pk t7), (Str.ofString "first", Value.str x t4), (Str.ofString "version", Value.int (ver : Int) t5)], m' p.1 = some p.2) ∧
    News (hid g) L h' [(L + 1 + 1 + 1 + 1, o4), (L + 1 + 1 + 1, o3), (L + 1 + 1, o2'), (L + 1, o1), (59, tabO ps)]
theorem SzEnd.intro {g h' : Heap} {L : Addr} {ps : Array Value} {o1 o2' o3 o4 : Obj} {ver sz tk : Nat} {kd pk : Int} {t t4 t5 t6 t7 : Tok} {x : Str} {s : Shared} {m' : Str → Option Value} (h2 : 2 ≤ sz) (h40 : sz ≤ 40) (hv : ver = 0 → sz = 20 ∨ sz = 32) (ho : o2'.data = Data.cell (some (.int (sz : Int) t)))
    (F : Fr (hid g) L h' m') (hm : ∀ p ∈ [(Str.ofString "kind", Value.int kd t6), (Str.ofString "pick", Value.int pk t7), (Str.ofString "first", Value.str x t4), (Str.ofString "version", Value.int (ver : Int) t5)], m' p.1 = some p.2)
    (N : News (hid g) L h' [(L + 1 + 1 + 1 + 1, o4), (L + 1 + 1 + 1, o3), (L + 1 + 1, o2'), (L + 1, o1), (59, tabO ps)]) : SzEnd g L ps o1 o3 o4 ver kd pk t6 t7 x s .next { s with heap := h', toks := tk } :=
  ⟨rfl, h', tk, sz, t, o2', rfl, h2, h40, hv, ho, ⟨m', t4, t5, F, hm⟩, N⟩
theorem arm01_walk {w : World} {A : Around} {s : Shared} {p : Program} {loose : List Str} {mg mb m : Str → Option Value} {ps : Array Value} {Q : Flow → Shared → Prop} {g : Heap} {L f : Addr} {cd : Value}
    (Z : Cz w p loose mg mb ps g) (X : (Mine.hd.heap_1 w.params).In (hid g)) (T : TopRead p loose mg mb (hid g)) (hL : L ≠ 59) (hb : AllBare s.gens) (hh : A.handled = none) (hd : A.depth + 60 < recursionLimit) (hu : A.units + 200 < cLine)
    {l : Addr} {vs : List Value} {ns : List Int} (hl : (hid g).IsList l vs.toArray) (hi : IntsAre vs ns) (hn : ns.length ≤ 63)
    {kd pk : Int} {t6 t7 : Tok} {o1 o2 o3 o4 : Obj} (hk0 : 0 ≤ kd)
    (h1 : o1.data = .cell (some (.ref l))) (h2 : o2.data = .cell none) (h3 : o3.data = .cell none) (h4 : o4.data = .cell none)
    (F : Fr (hid g) L s.heap m) (N : News (hid g) L s.heap [(L + 1 + 1 + 1 + 1, o4), (L + 1 + 1 + 1, o3), (L + 1 + 1, o2), (L + 1, o1), (59, tabO ps)])
    (hm : ∀ p ∈ [(Str.ofString "kind", Value.int kd t6), (Str.ofString "pick", Value.int pk t7)], m p.1 = some p.2)
    (hret : LEnd g ps s.os Q) :
   wpAny (model PySem.Challenge.rw_ai0020_01.row.prog w) A (execs arm01 (lawEnv L f cd)) Q (fun _ _ => False) s := by
  change wpAny _ _ (execs (_ :: _) (envOfC _ ⟨_, _, _, _, _⟩ _ _ _)) _ _ _
  rw [← kst_in hm] at F
  (repeat' ((( (fail_if_success (with_reducible show wpAny _ _ (subscriptTail (Expr.List _ _) _ (Value.ref _) (Value.int _ _)) _ _ _)); (fail_if_success (with_reducible show wpAny _ _ (exec (Stmt.Assign _ (Expr.IfExp _ _ _ _) _) _) _ _ _)); ((( (fail_if_success (with_reducible show wpAny _ _ (exec (Stmt.For _ _ _ _ _) _) _ _ _)); (fail_if_success (with_reducible show wpAny _ _ (exec (Stmt.While _ _ _ _) _) _ _ _)); (fail_if_success (with_reducible show wpAny _ _ (pyIter _) _ _ _)); (fail_if_success (with_reducible show wpAny _ _ (eval (Expr.ListComp _ _ _ _) _) _ _ _)); (fail_if_success (with_reducible show wpAny _ _ (eval (Expr.GeneratorExp _ _ _ _) _) _ _ _)); (fail_if_success (with_reducible show wpAny _ _ (exec (Stmt.Assign _ (Expr.ListComp _ _ _ _) _) _) _ _ _)); (fail_if_success (with_reducible show wpAny _ _ (PySem.call (Value.ref _) _ _) _ _ _)); (fail_if_success (with_reducible show wpAny _ _ (PySem.call (Value.builtin "list.append") _) _ _ _)); (fail_if_success (with_reducible show wpAny _ _ (PySem.call (Value.builtin "any") _) _ _ _)); (fail_if_success (with_reducible show wpAny _ _ (PySem.call (Value.type "zip") _) _ _ _)); (fail_if_success (with_reducible show wpAny _ _ (PySem.call (Value.builtin "all") _) _ _ _)); (fail_if_success (with_reducible show InvEndN _ _ _ _ _ _ _))))))); first | (dsimp only; walk1) | walk1))
  (rename Fr _ _ _ _ => F)
  (rename News _ _ _ _ => N)
  refine pick_str (ys := [Str.ofString "bc", Str.ofString "tb", Str.ofString "bcrt", Str.ofString "xy"]) (by exact ⟨_, (N _ (.head _)).1, rfl, _, rfl⟩) (.cons _ _ (.cons _ _ (.cons _ _ (.cons _ _ .nil)))) (Int.fmod_nonneg_of_pos _ (by decide)) (by exact Int.fmod_lt_of_pos _ (by decide)) (by have := Int.fmod_lt_of_pos pk (show (0 : Int) < 4 by decide); (first | lia | omega)) ?_
  intro x hxm t
  obtain ⟨hx, hx1, hx4⟩ := firsts x hxm
  clear hxm
  (repeat' ((( (fail_if_success (with_reducible show wpAny _ _ (subscriptTail (Expr.List _ _) _ (Value.ref _) (Value.int _ _)) _ _ _)); (fail_if_success (with_reducible show wpAny _ _ (exec (Stmt.Assign _ (Expr.IfExp _ _ _ _) _) _) _ _ _)); ((( (fail_if_success (with_reducible show wpAny _ _ (exec (Stmt.For _ _ _ _ _) _) _ _ _)); (fail_if_success (with_reducible show wpAny _ _ (exec (Stmt.While _ _ _ _) _) _ _ _)); (fail_if_success (with_reducible show wpAny _ _ (pyIter _) _ _ _)); (fail_if_success (with_reducible show wpAny _ _ (eval (Expr.ListComp _ _ _ _) _) _ _ _)); (fail_if_success (with_reducible show wpAny _ _ (eval (Expr.GeneratorExp _ _ _ _) _) _ _ _)); (fail_if_success (with_reducible show wpAny _ _ (exec (Stmt.Assign _ (Expr.ListComp _ _ _ _) _) _) _ _ _)); (fail_if_success (with_reducible show wpAny _ _ (PySem.call (Value.ref _) _ _) _ _ _)); (fail_if_success (with_reducible show wpAny _ _ (PySem.call (Value.builtin "list.append") _) _ _ _)); (fail_if_success (with_reducible show wpAny _ _ (PySem.call (Value.builtin "any") _) _ _ _)); (fail_if_success (with_reducible show wpAny _ _ (PySem.call (Value.type "zip") _) _ _ _)); (fail_if_success (with_reducible show wpAny _ _ (PySem.call (Value.builtin "all") _) _ _ _)); (fail_if_success (with_reducible show InvEndN _ _ _ _ _ _ _))))))); first | (dsimp only; walk1) | walk1))
  (rename Fr _ _ _ _ => F)
  (rename News _ _ _ _ => N)
  have hv0 := Int.fmod_nonneg_of_pos (pk.fdiv 4) (show (0 : Int) < 17 by decide)
  have hv1 := Int.fmod_lt_of_pos (pk.fdiv 4) (show (0 : Int) < 17 by decide)
  obtain ⟨ver, hver⟩ : ∃ ver : Nat, (pk.fdiv 4).fmod 17 = (ver : Int) := ⟨((pk.fdiv 4).fmod 17).toNat, by (first | lia | omega)⟩
  rw [hver] at F
  have hv16 : ver ≤ 16 := by (first | lia | omega)
  clear hv0 hv1
  have m1 : ∀ {a b : Nat}, a ≠ b → (a : Addr) ≠ b := fun h => h
  refine wpAny_mono (Q := SzEnd g L ps o1 o3 o4 ver kd pk t6 t7 x s) (E := fun _ _ => False) ?_ ?_ (fun _ _ e => e)
  · walk1
    (repeat' ((( (fail_if_success (with_reducible show wpAny _ _ (subscriptTail (Expr.List _ _) _ (Value.ref _) (Value.int _ _)) _ _ _)); (fail_if_success (with_reducible show wpAny _ _ (exec (Stmt.Assign _ (Expr.IfExp _ _ _ _) _) _) _ _ _)); ((( (fail_if_success (with_reducible show wpAny _ _ (exec (Stmt.For _ _ _ _ _) _) _ _ _)); (fail_if_success (with_reducible show wpAny _ _ (exec (Stmt.While _ _ _ _) _) _ _ _)); (fail_if_success (with_reducible show wpAny _ _ (pyIter _) _ _ _)); (fail_if_success (with_reducible show wpAny _ _ (eval (Expr.ListComp _ _ _ _) _) _ _ _)); (fail_if_success (with_reducible show wpAny _ _ (eval (Expr.GeneratorExp _ _ _ _) _) _ _ _)); (fail_if_success (with_reducible show wpAny _ _ (exec (Stmt.Assign _ (Expr.ListComp _ _ _ _) _) _) _ _ _)); (fail_if_success (with_reducible show wpAny _ _ (PySem.call (Value.ref _) _ _) _ _ _)); (fail_if_success (with_reducible show wpAny _ _ (PySem.call (Value.builtin "list.append") _) _ _ _)); (fail_if_success (with_reducible show wpAny _ _ (PySem.call (Value.builtin "any") _) _ _ _)); (fail_if_success (with_reducible show wpAny _ _ (PySem.call (Value.type "zip") _) _ _ _)); (fail_if_success (with_reducible show wpAny _ _ (PySem.call (Value.builtin "all") _) _ _ _)); (fail_if_success (with_reducible show InvEndN _ _ _ _ _ _ _))))))); first | (dsimp only; walk1) | walk1))
    · (( (rename Fr _ _ _ _ => F9); (rename News _ _ _ _ => N9); (rename Mine.Cz _ _ _ _ _ _ _ => Z9); (rename Heap.IsList _ _ _ => hl9); (rename _ ≤ 63 => hn9); (refine Mine.num_callI (by exact Z9.C.keeps F9.keep) (by assumption) (by (first | lia | omega)) (by exact hl9.at fun o e => F9.keep _ o e) (by assumption) (by (first | lia | omega)) (by (first | lia | omega)) (by (first | lia | omega)) ?_); (intro h9 tk9 t9 hk9); (have F1 := Mine.led_fr F9 hk9); (have N1 := Mine.led_keep N9 hk9); clear F9 N9; dsimp only))
      (repeat' ((( (fail_if_success (with_reducible show wpAny _ _ (subscriptTail (Expr.List _ _) _ (Value.ref _) (Value.int _ _)) _ _ _)); (fail_if_success (with_reducible show wpAny _ _ (exec (Stmt.Assign _ (Expr.IfExp _ _ _ _) _) _) _ _ _)); ((( (fail_if_success (with_reducible show wpAny _ _ (exec (Stmt.For _ _ _ _ _) _) _ _ _)); (fail_if_success (with_reducible show wpAny _ _ (exec (Stmt.While _ _ _ _) _) _ _ _)); (fail_if_success (with_reducible show wpAny _ _ (pyIter _) _ _ _)); (fail_if_success (with_reducible show wpAny _ _ (eval (Expr.ListComp _ _ _ _) _) _ _ _)); (fail_if_success (with_reducible show wpAny _ _ (eval (Expr.GeneratorExp _ _ _ _) _) _ _ _)); (fail_if_success (with_reducible show wpAny _ _ (exec (Stmt.Assign _ (Expr.ListComp _ _ _ _) _) _) _ _ _)); (fail_if_success (with_reducible show wpAny _ _ (PySem.call (Value.ref _) _ _) _ _ _)); (fail_if_success (with_reducible show wpAny _ _ (PySem.call (Value.builtin "list.append") _) _ _ _)); (fail_if_success (with_reducible show wpAny _ _ (PySem.call (Value.builtin "any") _) _ _ _)); (fail_if_success (with_reducible show wpAny _ _ (PySem.call (Value.type "zip") _) _ _ _)); (fail_if_success (with_reducible show wpAny _ _ (PySem.call (Value.builtin "all") _) _ _ _)); (fail_if_success (with_reducible show InvEndN _ _ _ _ _ _ _))))))); first | (dsimp only; walk1) | walk1))
      (rename Fr _ _ _ _ => F)
      (rename News _ _ _ _ => N)
      refine pick_val (by exact ⟨_, (N _ (.head _)).1, rfl, _, rfl⟩) (Int.fmod_nonneg_of_pos _ (by decide)) (by exact Int.fmod_lt_of_pos _ (by decide)) (by have := Int.fmod_lt_of_pos (num ns (Int.toNat 1)) (show (0 : Int) < 2 by decide); (first | lia | omega)) ?_
      intro v hv
      have hv' : ∃ sz : Nat, ∃ t, v = .int (sz : Int) t ∧ (sz = 20 ∨ sz = 32) := by
        rcases List.mem_cons.mp hv with rfl | hv
        · exact ⟨20, _, rfl, .inl rfl⟩
        · rw [List.mem_singleton.mp hv]; exact ⟨32, _, rfl, .inr rfl⟩
      clear hv
      obtain ⟨sz, tsz, rfl, hsz⟩ := hv'
      (repeat' ((( (fail_if_success (with_reducible show wpAny _ _ (subscriptTail (Expr.List _ _) _ (Value.ref _) (Value.int _ _)) _ _ _)); (fail_if_success (with_reducible show wpAny _ _ (exec (Stmt.Assign _ (Expr.IfExp _ _ _ _) _) _) _ _ _)); ((( (fail_if_success (with_reducible show wpAny _ _ (exec (Stmt.For _ _ _ _ _) _) _ _ _)); (fail_if_success (with_reducible show wpAny _ _ (exec (Stmt.While _ _ _ _) _) _ _ _)); (fail_if_success (with_reducible show wpAny _ _ (pyIter _) _ _ _)); (fail_if_success (with_reducible show wpAny _ _ (eval (Expr.ListComp _ _ _ _) _) _ _ _)); (fail_if_success (with_reducible show wpAny _ _ (eval (Expr.GeneratorExp _ _ _ _) _) _ _ _)); (fail_if_success (with_reducible show wpAny _ _ (exec (Stmt.Assign _ (Expr.ListComp _ _ _ _) _) _) _ _ _)); (fail_if_success (with_reducible show wpAny _ _ (PySem.call (Value.ref _) _ _) _ _ _)); (fail_if_success (with_reducible show wpAny _ _ (PySem.call (Value.builtin "list.append") _) _ _ _)); (fail_if_success (with_reducible show wpAny _ _ (PySem.call (Value.builtin "any") _) _ _ _)); (fail_if_success (with_reducible show wpAny _ _ (PySem.call (Value.type "zip") _) _ _ _)); (fail_if_success (with_reducible show wpAny _ _ (PySem.call (Value.builtin "all") _) _ _ _)); (fail_if_success (with_reducible show InvEndN _ _ _ _ _ _ _))))))); first | (dsimp only; walk1) | walk1))
      (rename Fr _ _ _ _ => F)
      (rename News _ _ _ _ => N)
      have n6 := led_ne N (a := 59) (oa := tabO ps) (b := L + 1 + 1) (ob := o2) (by k_mem) (by k_mem) (tab_ne_cell h2)
      refine st_cell (rest := [(L + 1 + 1 + 1 + 1, o4), (L + 1 + 1 + 1, o3), (L + 1, o1), (59, tabO ps)]) rfl (by rfl) (by rfl) F N (by k_mem) h2
        (List.forall_mem_cons.mpr ⟨⟨by k_mem, m1 (by (first | lia | omega))⟩, List.forall_mem_cons.mpr ⟨⟨by k_mem, m1 (by (first | lia | omega))⟩, List.forall_mem_cons.mpr ⟨⟨by k_mem, m1 (by (first | lia | omega))⟩, List.forall_mem_cons.mpr ⟨⟨by k_mem, n6⟩, List.forall_mem_nil _⟩⟩⟩⟩) ?_
      clear F N
      intro h7 o2' h2' F N
      (repeat' ((( (fail_if_success (with_reducible show wpAny _ _ (subscriptTail (Expr.List _ _) _ (Value.ref _) (Value.int _ _)) _ _ _)); (fail_if_success (with_reducible show wpAny _ _ (exec (Stmt.Assign _ (Expr.IfExp _ _ _ _) _) _) _ _ _)); ((( (fail_if_success (with_reducible show wpAny _ _ (exec (Stmt.For _ _ _ _ _) _) _ _ _)); (fail_if_success (with_reducible show wpAny _ _ (exec (Stmt.While _ _ _ _) _) _ _ _)); (fail_if_success (with_reducible show wpAny _ _ (pyIter _) _ _ _)); (fail_if_success (with_reducible show wpAny _ _ (eval (Expr.ListComp _ _ _ _) _) _ _ _)); (fail_if_success (with_reducible show wpAny _ _ (eval (Expr.GeneratorExp _ _ _ _) _) _ _ _)); (fail_if_success (with_reducible show wpAny _ _ (exec (Stmt.Assign _ (Expr.ListComp _ _ _ _) _) _) _ _ _)); (fail_if_success (with_reducible show wpAny _ _ (PySem.call (Value.ref _) _ _) _ _ _)); (fail_if_success (with_reducible show wpAny _ _ (PySem.call (Value.builtin "list.append") _) _ _ _)); (fail_if_success (with_reducible show wpAny _ _ (PySem.call (Value.builtin "any") _) _ _ _)); (fail_if_success (with_reducible show wpAny _ _ (PySem.call (Value.type "zip") _) _ _ _)); (fail_if_success (with_reducible show wpAny _ _ (PySem.call (Value.builtin "all") _) _ _ _)); (fail_if_success (with_reducible show InvEndN _ _ _ _ _ _ _))))))); first | (dsimp only; walk1) | walk1))
      exact SzEnd.intro (by (first | lia | omega)) (by (first | lia | omega)) (fun _ => hsz) h2' F (List.forall_mem_cons.mpr ⟨rfl, List.forall_mem_cons.mpr ⟨rfl, List.forall_mem_cons.mpr ⟨rfl, List.forall_mem_cons.mpr ⟨rfl, List.forall_mem_nil _⟩⟩⟩⟩)
        (News.sub N (List.forall_mem_cons.mpr ⟨by k_mem, List.forall_mem_cons.mpr ⟨by k_mem, List.forall_mem_cons.mpr ⟨by k_mem, List.forall_mem_cons.mpr ⟨by k_mem, List.forall_mem_cons.mpr ⟨by k_mem, List.forall_mem_nil _⟩⟩⟩⟩⟩))
    · (rename Fr _ _ _ _ => F)
      (rename News _ _ _ _ => N)
      refine pick_val (by exact ⟨_, (N _ (.head _)).1, rfl, _, rfl⟩) (by decide) (by simp) (by decide) ?_
      intro v hv
      have hv' : ∃ sz : Nat, ∃ t, v = .int (sz : Int) t ∧ (sz = 20 ∨ sz = 32) := by
        rcases List.mem_cons.mp hv with rfl | hv
        · exact ⟨20, _, rfl, .inl rfl⟩
        · rw [List.mem_singleton.mp hv]; exact ⟨32, _, rfl, .inr rfl⟩
      clear hv
      obtain ⟨sz, tsz, rfl, hsz⟩ := hv'
      (repeat' ((( (fail_if_success (with_reducible show wpAny _ _ (subscriptTail (Expr.List _ _) _ (Value.ref _) (Value.int _ _)) _ _ _)); (fail_if_success (with_reducible show wpAny _ _ (exec (Stmt.Assign _ (Expr.IfExp _ _ _ _) _) _) _ _ _)); ((( (fail_if_success (with_reducible show wpAny _ _ (exec (Stmt.For _ _ _ _ _) _) _ _ _)); (fail_if_success (with_reducible show wpAny _ _ (exec (Stmt.While _ _ _ _) _) _ _ _)); (fail_if_success (with_reducible show wpAny _ _ (pyIter _) _ _ _)); (fail_if_success (with_reducible show wpAny _ _ (eval (Expr.ListComp _ _ _ _) _) _ _ _)); (fail_if_success (with_reducible show wpAny _ _ (eval (Expr.GeneratorExp _ _ _ _) _) _ _ _)); (fail_if_success (with_reducible show wpAny _ _ (exec (Stmt.Assign _ (Expr.ListComp _ _ _ _) _) _) _ _ _)); (fail_if_success (with_reducible show wpAny _ _ (PySem.call (Value.ref _) _ _) _ _ _)); (fail_if_success (with_reducible show wpAny _ _ (PySem.call (Value.builtin "list.append") _) _ _ _)); (fail_if_success (with_reducible show wpAny _ _ (PySem.call (Value.builtin "any") _) _ _ _)); (fail_if_success (with_reducible show wpAny _ _ (PySem.call (Value.type "zip") _) _ _ _)); (fail_if_success (with_reducible show wpAny _ _ (PySem.call (Value.builtin "all") _) _ _ _)); (fail_if_success (with_reducible show InvEndN _ _ _ _ _ _ _))))))); first | (dsimp only; walk1) | walk1))
      (rename Fr _ _ _ _ => F)
      (rename News _ _ _ _ => N)
      have n6 := led_ne N (a := 59) (oa := tabO ps) (b := L + 1 + 1) (ob := o2) (by k_mem) (by k_mem) (tab_ne_cell h2)
      refine st_cell (rest := [(L + 1 + 1 + 1 + 1, o4), (L + 1 + 1 + 1, o3), (L + 1, o1), (59, tabO ps)]) rfl (by rfl) (by rfl) F N (by k_mem) h2
        (List.forall_mem_cons.mpr ⟨⟨by k_mem, m1 (by (first | lia | omega))⟩, List.forall_mem_cons.mpr ⟨⟨by k_mem, m1 (by (first | lia | omega))⟩, List.forall_mem_cons.mpr ⟨⟨by k_mem, m1 (by (first | lia | omega))⟩, List.forall_mem_cons.mpr ⟨⟨by k_mem, n6⟩, List.forall_mem_nil _⟩⟩⟩⟩) ?_
      clear F N
      intro h7 o2' h2' F N
      (repeat' ((( (fail_if_success (with_reducible show wpAny _ _ (subscriptTail (Expr.List _ _) _ (Value.ref _) (Value.int _ _)) _ _ _)); (fail_if_success (with_reducible show wpAny _ _ (exec (Stmt.Assign _ (Expr.IfExp _ _ _ _) _) _) _ _ _)); ((( (fail_if_success (with_reducible show wpAny _ _ (exec (Stmt.For _ _ _ _ _) _) _ _ _)); (fail_if_success (with_reducible show wpAny _ _ (exec (Stmt.While _ _ _ _) _) _ _ _)); (fail_if_success (with_reducible show wpAny _ _ (pyIter _) _ _ _)); (fail_if_success (with_reducible show wpAny _ _ (eval (Expr.ListComp _ _ _ _) _) _ _ _)); (fail_if_success (with_reducible show wpAny _ _ (eval (Expr.GeneratorExp _ _ _ _) _) _ _ _)); (fail_if_success (with_reducible show wpAny _ _ (exec (Stmt.Assign _ (Expr.ListComp _ _ _ _) _) _) _ _ _)); (fail_if_success (with_reducible show wpAny _ _ (PySem.call (Value.ref _) _ _) _ _ _)); (fail_if_success (with_reducible show wpAny _ _ (PySem.call (Value.builtin "list.append") _) _ _ _)); (fail_if_success (with_reducible show wpAny _ _ (PySem.call (Value.builtin "any") _) _ _ _)); (fail_if_success (with_reducible show wpAny _ _ (PySem.call (Value.type "zip") _) _ _ _)); (fail_if_success (with_reducible show wpAny _ _ (PySem.call (Value.builtin "all") _) _ _ _)); (fail_if_success (with_reducible show InvEndN _ _ _ _ _ _ _))))))); first | (dsimp only; walk1) | walk1))
      exact SzEnd.intro (by (first | lia | omega)) (by (first | lia | omega)) (fun _ => hsz) h2' F (List.forall_mem_cons.mpr ⟨rfl, List.forall_mem_cons.mpr ⟨rfl, List.forall_mem_cons.mpr ⟨rfl, List.forall_mem_cons.mpr ⟨rfl, List.forall_mem_nil _⟩⟩⟩⟩)
        (News.sub N (List.forall_mem_cons.mpr ⟨by k_mem, List.forall_mem_cons.mpr ⟨by k_mem, List.forall_mem_cons.mpr ⟨by k_mem, List.forall_mem_cons.mpr ⟨by k_mem, List.forall_mem_cons.mpr ⟨by k_mem, List.forall_mem_nil _⟩⟩⟩⟩⟩))
    · (( (rename Fr _ _ _ _ => F9); (rename News _ _ _ _ => N9); (rename Mine.Cz _ _ _ _ _ _ _ => Z9); (rename Heap.IsList _ _ _ => hl9); (rename _ ≤ 63 => hn9); (refine Mine.num_callI (by exact Z9.C.keeps F9.keep) (by assumption) (by (first | lia | omega)) (by exact hl9.at fun o e => F9.keep _ o e) (by assumption) (by (first | lia | omega)) (by (first | lia | omega)) (by (first | lia | omega)) ?_); (intro h9 tk9 t9 hk9); (have F1 := Mine.led_fr F9 hk9); (have N1 := Mine.led_keep N9 hk9); clear F9 N9; dsimp only))
      (rename ((ver : Int) ≠ 0) => hvn)
      have hf1 := Int.fmod_nonneg_of_pos (num ns (Int.toNat 1)) (show (0 : Int) < 39 by decide)
      have hf2 := Int.fmod_lt_of_pos (num ns (Int.toNat 1)) (show (0 : Int) < 39 by decide)
      have hf3 := Int.fmod_nonneg_of_pos (num ns (Int.toNat 1)) (show (0 : Int) < 12 by decide)
      have hf4 := Int.fmod_lt_of_pos (num ns (Int.toNat 1)) (show (0 : Int) < 12 by decide)
      (repeat' ((( (fail_if_success (with_reducible show wpAny _ _ (subscriptTail (Expr.List _ _) _ (Value.ref _) (Value.int _ _)) _ _ _)); (fail_if_success (with_reducible show wpAny _ _ (exec (Stmt.Assign _ (Expr.IfExp _ _ _ _) _) _) _ _ _)); ((( (fail_if_success (with_reducible show wpAny _ _ (exec (Stmt.For _ _ _ _ _) _) _ _ _)); (fail_if_success (with_reducible show wpAny _ _ (exec (Stmt.While _ _ _ _) _) _ _ _)); (fail_if_success (with_reducible show wpAny _ _ (pyIter _) _ _ _)); (fail_if_success (with_reducible show wpAny _ _ (eval (Expr.ListComp _ _ _ _) _) _ _ _)); (fail_if_success (with_reducible show wpAny _ _ (eval (Expr.GeneratorExp _ _ _ _) _) _ _ _)); (fail_if_success (with_reducible show wpAny _ _ (exec (Stmt.Assign _ (Expr.ListComp _ _ _ _) _) _) _ _ _)); (fail_if_success (with_reducible show wpAny _ _ (PySem.call (Value.ref _) _ _) _ _ _)); (fail_if_success (with_reducible show wpAny _ _ (PySem.call (Value.builtin "list.append") _) _ _ _)); (fail_if_success (with_reducible show wpAny _ _ (PySem.call (Value.builtin "any") _) _ _ _)); (fail_if_success (with_reducible show wpAny _ _ (PySem.call (Value.type "zip") _) _ _ _)); (fail_if_success (with_reducible show wpAny _ _ (PySem.call (Value.builtin "all") _) _ _ _)); (fail_if_success (with_reducible show InvEndN _ _ _ _ _ _ _))))))); first | (dsimp only; walk1) | walk1))
      all_goals (
        (rename Fr _ _ _ _ => F)
        (rename News _ _ _ _ => N)
        (rename (Obj.data _ = Data.cell (some (Value.int (2 + _) _))) => hd'))
      · obtain ⟨sz, hsz⟩ : ∃ sz : Nat, 2 + (num ns (Int.toNat 1)).fmod 39 = (sz : Int) := ⟨(2 + (num ns (Int.toNat 1)).fmod 39).toNat, by (first | lia | omega)⟩
        rw [hsz] at hd'
        exact SzEnd.intro (by (first | lia | omega)) (by (first | lia | omega)) (fun h => absurd h (by (first | lia | omega))) hd' F (List.forall_mem_cons.mpr ⟨rfl, List.forall_mem_cons.mpr ⟨rfl, List.forall_mem_cons.mpr ⟨rfl, List.forall_mem_cons.mpr ⟨rfl, List.forall_mem_nil _⟩⟩⟩⟩)
          (News.sub N (List.forall_mem_cons.mpr ⟨by k_mem, List.forall_mem_cons.mpr ⟨by k_mem, List.forall_mem_cons.mpr ⟨by k_mem, List.forall_mem_cons.mpr ⟨by k_mem, List.forall_mem_cons.mpr ⟨by k_mem, List.forall_mem_nil _⟩⟩⟩⟩⟩))
      · obtain ⟨sz, hsz⟩ : ∃ sz : Nat, 2 + (num ns (Int.toNat 1)).fmod 12 = (sz : Int) := ⟨(2 + (num ns (Int.toNat 1)).fmod 12).toNat, by (first | lia | omega)⟩
        rw [hsz] at hd'
        exact SzEnd.intro (by (first | lia | omega)) (by (first | lia | omega)) (fun h => absurd h (by (first | lia | omega))) hd' F (List.forall_mem_cons.mpr ⟨rfl, List.forall_mem_cons.mpr ⟨rfl, List.forall_mem_cons.mpr ⟨rfl, List.forall_mem_cons.mpr ⟨rfl, List.forall_mem_nil _⟩⟩⟩⟩)
          (News.sub N (List.forall_mem_cons.mpr ⟨by k_mem, List.forall_mem_cons.mpr ⟨by k_mem, List.forall_mem_cons.mpr ⟨by k_mem, List.forall_mem_cons.mpr ⟨by k_mem, List.forall_mem_cons.mpr ⟨by k_mem, List.forall_mem_nil _⟩⟩⟩⟩⟩))
  · rintro fl s' ⟨rfl, h', tk, sz, t5, o2', rfl, hw2, hw40, hv0, h2', ⟨m', t4, t5', F, hm'⟩, N⟩
    dsimp only
    show wpAny _ _ (execs (arm01.drop 3) (lawEnv L f cd)) _ _ _
    exact k01 Z Z.C.K Z.C.T hL (by exact hb) hh hd hu hl hi hn hx hx1 hx4 hv16 hw2 hw40 hv0 h1 h2' h3 h4 F N hm' hret
end Mine

namespace Mine
theorem k2_ret {w : World} {A : Around} {s : Shared} {p : Program} {loose : List Str} {mg mb m : Str → Option Value} {ps : Array Value} {Q : Flow → Shared → Prop} {g : Heap} {L f : Addr} {cd : Value}
    (Z : Cz w p loose mg mb ps g) (X : (Mine.hd.heap_1 w.params).In (hid g)) (T : TopRead p loose mg mb (hid g)) (hL : L ≠ 59) (hb : AllBare s.gens) (hh : A.handled = none) (hd : A.depth + 60 < recursionLimit) (hu : A.units + 200 < cLine)
    {sz : Nat} {one two : List Nat} {D1 D2 : Addr} {v1 v2 : List Value} {n1 n2 : Nat} {o3 o4 : Obj}
    (hw1 : 1 ≤ sz) (hw20 : sz ≤ 20)
    (i1 : NatsAre v1 one) (i2 : NatsAre v2 two) (l1 : one.length = sz) (l2 : two.length = sz) (b1 : ∀ n ∈ one, n < 95) (b2 : ∀ n ∈ two, n < 95)
    (h3 : o3.data = .cell none) (h4 : o4.data = .cell none)
    (F : Fr (hid g) L s.heap m) (N : News (hid g) L s.heap [(D1, listOf v1.toArray n1), (D2, listOf v2.toArray n2), (L + 1 + 1 + 1 + 1, o4), (L + 1 + 1 + 1, o3), (59, tabO ps)])
    (hm : ∀ p ∈ [(Str.ofString "one", Value.ref D1), (Str.ofString "two", Value.ref D2)], m p.1 = some p.2)
    (hret : LEnd g ps s.os Q) :
   wpAny (model PySem.Challenge.rw_ai0020_01.row.prog w) A (execs (arm2.drop 3) (lawEnv L f cd)) Q (fun _ _ => False) s := by
  change wpAny _ _ (execs (_ :: _) (envOfC _ ⟨_, _, _, _, _⟩ _ _ _)) _ _ _
  rw [← kst_in hm] at F
  (repeat' ((( (fail_if_success (with_reducible show wpAny _ _ (exec (Stmt.For _ _ _ _ _) _) _ _ _)); (fail_if_success (with_reducible show wpAny _ _ (exec (Stmt.While _ _ _ _) _) _ _ _)); (fail_if_success (with_reducible show wpAny _ _ (pyIter _) _ _ _)); (fail_if_success (with_reducible show wpAny _ _ (eval (Expr.ListComp _ _ _ _) _) _ _ _)); (fail_if_success (with_reducible show wpAny _ _ (eval (Expr.GeneratorExp _ _ _ _) _) _ _ _)); (fail_if_success (with_reducible show wpAny _ _ (exec (Stmt.Assign _ (Expr.ListComp _ _ _ _) _) _) _ _ _)); (fail_if_success (with_reducible show wpAny _ _ (PySem.call (Value.ref _) _ _) _ _ _)); (fail_if_success (with_reducible show wpAny _ _ (PySem.call (Value.builtin "list.append") _) _ _ _)); (fail_if_success (with_reducible show wpAny _ _ (PySem.call (Value.builtin "any") _) _ _ _)); (fail_if_success (with_reducible show wpAny _ _ (PySem.call (Value.type "zip") _) _ _ _)); (fail_if_success (with_reducible show wpAny _ _ (PySem.call (Value.builtin "all") _) _ _ _)); (fail_if_success (with_reducible show InvEndN _ _ _ _ _ _ _)))); first | (dsimp only; walk1) | walk1))
  refine ListComp_at (fun _ => true) (fun v y => ∀ a : Nat, (∃ u, v = .int (a : Int) u) → (∃ t, y = .str (one1 wch a) t)) (by with_unfolding_all rfl) (by decide) (by rfl) (by decide) (by rfl) ?_ (fun _ => rfl)
  (repeat' ((( (fail_if_success (with_reducible show wpAny _ _ (exec (Stmt.For _ _ _ _ _) _) _ _ _)); (fail_if_success (with_reducible show wpAny _ _ (exec (Stmt.While _ _ _ _) _) _ _ _)); (fail_if_success (with_reducible show wpAny _ _ (pyIter _) _ _ _)); (fail_if_success (with_reducible show wpAny _ _ (eval (Expr.ListComp _ _ _ _) _) _ _ _)); (fail_if_success (with_reducible show wpAny _ _ (eval (Expr.GeneratorExp _ _ _ _) _) _ _ _)); (fail_if_success (with_reducible show wpAny _ _ (exec (Stmt.Assign _ (Expr.ListComp _ _ _ _) _) _) _ _ _)); (fail_if_success (with_reducible show wpAny _ _ (PySem.call (Value.ref _) _ _) _ _ _)); (fail_if_success (with_reducible show wpAny _ _ (PySem.call (Value.builtin "list.append") _) _ _ _)); (fail_if_success (with_reducible show wpAny _ _ (PySem.call (Value.builtin "any") _) _ _ _)); (fail_if_success (with_reducible show wpAny _ _ (PySem.call (Value.type "zip") _) _ _ _)); (fail_if_success (with_reducible show wpAny _ _ (PySem.call (Value.builtin "all") _) _ _ _)); (fail_if_success (with_reducible show InvEndN _ _ _ _ _ _ _)))); first | (dsimp only; walk1) | walk1))
  (((rename Fr _ _ _ _ => uF); (have uX1 := Frag.In.keeps (by assumption) uF.keep); (have uT1 := TopRead.keeps (by assumption) uF.keep)))
  (rename Fr _ _ _ _ => F)
  (rename News _ _ _ _ => N)
  refine lc_list (α := Nat) (items := one) (fun a v => ∃ u, v = .int (a : Int) u) (fun a y => ∃ t, y = .str (one1 wch a) t) (fun a a' v h1 h2 => by obtain ⟨_, rfl⟩ := h1; obtain ⟨_, h⟩ := h2; injection h with h _; (first | lia | omega)) hh (by exact News.isList N (by k_mem)) (All2.ofNats i1) (by rw [sizeLine_eq]; (first | lia | omega)) ?_ ?_
  · intro C d v s₃ m₃ E' hd hv F N hm
    obtain ⟨u, rfl⟩ := hv
    have hd95 := b1 d hd
    clear hret
    (repeat' ((( (fail_if_success (with_reducible show wpAny _ _ (exec (Stmt.For _ _ _ _ _) _) _ _ _)); (fail_if_success (with_reducible show wpAny _ _ (exec (Stmt.While _ _ _ _) _) _ _ _)); (fail_if_success (with_reducible show wpAny _ _ (pyIter _) _ _ _)); (fail_if_success (with_reducible show wpAny _ _ (eval (Expr.ListComp _ _ _ _) _) _ _ _)); (fail_if_success (with_reducible show wpAny _ _ (eval (Expr.GeneratorExp _ _ _ _) _) _ _ _)); (fail_if_success (with_reducible show wpAny _ _ (exec (Stmt.Assign _ (Expr.ListComp _ _ _ _) _) _) _ _ _)); (fail_if_success (with_reducible show wpAny _ _ (PySem.call (Value.ref _) _ _) _ _ _)); (fail_if_success (with_reducible show wpAny _ _ (PySem.call (Value.builtin "list.append") _) _ _ _)); (fail_if_success (with_reducible show wpAny _ _ (PySem.call (Value.builtin "any") _) _ _ _)); (fail_if_success (with_reducible show wpAny _ _ (PySem.call (Value.type "zip") _) _ _ _)); (fail_if_success (with_reducible show wpAny _ _ (PySem.call (Value.builtin "all") _) _ _ _)); (fail_if_success (with_reducible show InvEndN _ _ _ _ _ _ _)))); first | (dsimp only; walk1) | walk1))
    · exact congrArg (fun q => Value.str q _) (item_one (Str.ofString "0123456789()[],'/*abcdefgh@:$%{}IJKLMNOPQRSTUVWXYZ&+-.;<=>?!^_|~ijklmnopqrstuvwxyzABCDEFGH`#\"\\ ") d hd95)
    · exact ⟨_, _, rfl, fun _ _ e => e⟩
  · intro D' h'' tk' ys' n' hD0' hD' hA hk'
    (repeat' ((( (fail_if_success (with_reducible show wpAny _ _ (exec (Stmt.For _ _ _ _ _) _) _ _ _)); (fail_if_success (with_reducible show wpAny _ _ (exec (Stmt.While _ _ _ _) _) _ _ _)); (fail_if_success (with_reducible show wpAny _ _ (pyIter _) _ _ _)); (fail_if_success (with_reducible show wpAny _ _ (eval (Expr.ListComp _ _ _ _) _) _ _ _)); (fail_if_success (with_reducible show wpAny _ _ (eval (Expr.GeneratorExp _ _ _ _) _) _ _ _)); (fail_if_success (with_reducible show wpAny _ _ (exec (Stmt.Assign _ (Expr.ListComp _ _ _ _) _) _) _ _ _)); (fail_if_success (with_reducible show wpAny _ _ (PySem.call (Value.ref _) _ _) _ _ _)); (fail_if_success (with_reducible show wpAny _ _ (PySem.call (Value.builtin "list.append") _) _ _ _)); (fail_if_success (with_reducible show wpAny _ _ (PySem.call (Value.builtin "any") _) _ _ _)); (fail_if_success (with_reducible show wpAny _ _ (PySem.call (Value.type "zip") _) _ _ _)); (fail_if_success (with_reducible show wpAny _ _ (PySem.call (Value.builtin "all") _) _ _ _)); (fail_if_success (with_reducible show InvEndN _ _ _ _ _ _ _)))); first | (dsimp only; walk1) | walk1))
    (rename Fr _ _ _ _ => F)
    (rename News _ _ _ _ => N)
    have F1 := led_fr F hk'
    have N1 := led_keep N hk'
    clear F N
    refine join_chars (f := wch) (ns := one) (by exact ⟨_, hD', rfl, _, rfl⟩) (All2.strsOf hA) (by (first | lia | omega)) ?_
    intro t4 k4
    (repeat' ((( (fail_if_success (with_reducible show wpAny _ _ (exec (Stmt.For _ _ _ _ _) _) _ _ _)); (fail_if_success (with_reducible show wpAny _ _ (exec (Stmt.While _ _ _ _) _) _ _ _)); (fail_if_success (with_reducible show wpAny _ _ (pyIter _) _ _ _)); (fail_if_success (with_reducible show wpAny _ _ (eval (Expr.ListComp _ _ _ _) _) _ _ _)); (fail_if_success (with_reducible show wpAny _ _ (eval (Expr.GeneratorExp _ _ _ _) _) _ _ _)); (fail_if_success (with_reducible show wpAny _ _ (exec (Stmt.Assign _ (Expr.ListComp _ _ _ _) _) _) _ _ _)); (fail_if_success (with_reducible show wpAny _ _ (PySem.call (Value.ref _) _ _) _ _ _)); (fail_if_success (with_reducible show wpAny _ _ (PySem.call (Value.builtin "list.append") _) _ _ _)); (fail_if_success (with_reducible show wpAny _ _ (PySem.call (Value.builtin "any") _) _ _ _)); (fail_if_success (with_reducible show wpAny _ _ (PySem.call (Value.type "zip") _) _ _ _)); (fail_if_success (with_reducible show wpAny _ _ (PySem.call (Value.builtin "all") _) _ _ _)); (fail_if_success (with_reducible show InvEndN _ _ _ _ _ _ _)))); first | (dsimp only; walk1) | walk1))
    clear hA hk'
    (rename Fr _ _ _ _ => F)
    (rename News _ _ _ _ => N)
    refine chk_call (ps := one) (by exact Z.C.keeps F.keep) hh (by (first | lia | omega)) b1 (by (first | lia | omega)) ?_
    intro h9 tk9 t9 hk9
    have F1 := led_fr F hk9
    have N1 := led_keep N hk9
    clear F N
    (repeat' ((( (fail_if_success (with_reducible show wpAny _ _ (exec (Stmt.For _ _ _ _ _) _) _ _ _)); (fail_if_success (with_reducible show wpAny _ _ (exec (Stmt.While _ _ _ _) _) _ _ _)); (fail_if_success (with_reducible show wpAny _ _ (pyIter _) _ _ _)); (fail_if_success (with_reducible show wpAny _ _ (eval (Expr.ListComp _ _ _ _) _) _ _ _)); (fail_if_success (with_reducible show wpAny _ _ (eval (Expr.GeneratorExp _ _ _ _) _) _ _ _)); (fail_if_success (with_reducible show wpAny _ _ (exec (Stmt.Assign _ (Expr.ListComp _ _ _ _) _) _) _ _ _)); (fail_if_success (with_reducible show wpAny _ _ (PySem.call (Value.ref _) _ _) _ _ _)); (fail_if_success (with_reducible show wpAny _ _ (PySem.call (Value.builtin "list.append") _) _ _ _)); (fail_if_success (with_reducible show wpAny _ _ (PySem.call (Value.builtin "any") _) _ _ _)); (fail_if_success (with_reducible show wpAny _ _ (PySem.call (Value.type "zip") _) _ _ _)); (fail_if_success (with_reducible show wpAny _ _ (PySem.call (Value.builtin "all") _) _ _ _)); (fail_if_success (with_reducible show InvEndN _ _ _ _ _ _ _)))); first | (dsimp only; walk1) | walk1))
    refine ListComp_at (fun _ => true) (fun v y => ∀ a : Nat, (∃ u, v = .int (a : Int) u) → (∃ t, y = .str (one1 wch a) t)) (by with_unfolding_all rfl) (by decide) (by rfl) (by decide) (by rfl) ?_ (fun _ => rfl)
    (repeat' ((( (fail_if_success (with_reducible show wpAny _ _ (exec (Stmt.For _ _ _ _ _) _) _ _ _)); (fail_if_success (with_reducible show wpAny _ _ (exec (Stmt.While _ _ _ _) _) _ _ _)); (fail_if_success (with_reducible show wpAny _ _ (pyIter _) _ _ _)); (fail_if_success (with_reducible show wpAny _ _ (eval (Expr.ListComp _ _ _ _) _) _ _ _)); (fail_if_success (with_reducible show wpAny _ _ (eval (Expr.GeneratorExp _ _ _ _) _) _ _ _)); (fail_if_success (with_reducible show wpAny _ _ (exec (Stmt.Assign _ (Expr.ListComp _ _ _ _) _) _) _ _ _)); (fail_if_success (with_reducible show wpAny _ _ (PySem.call (Value.ref _) _ _) _ _ _)); (fail_if_success (with_reducible show wpAny _ _ (PySem.call (Value.builtin "list.append") _) _ _ _)); (fail_if_success (with_reducible show wpAny _ _ (PySem.call (Value.builtin "any") _) _ _ _)); (fail_if_success (with_reducible show wpAny _ _ (PySem.call (Value.type "zip") _) _ _ _)); (fail_if_success (with_reducible show wpAny _ _ (PySem.call (Value.builtin "all") _) _ _ _)); (fail_if_success (with_reducible show InvEndN _ _ _ _ _ _ _)))); first | (dsimp only; walk1) | walk1))
    (((rename Fr _ _ _ _ => uF); (have uX1 := Frag.In.keeps (by assumption) uF.keep); (have uT1 := TopRead.keeps (by assumption) uF.keep)))
    (rename Fr _ _ _ _ => F)
    (rename News _ _ _ _ => N)
    refine lc_list (α := Nat) (items := two) (fun a v => ∃ u, v = .int (a : Int) u) (fun a y => ∃ t, y = .str (one1 wch a) t) (fun a a' v h1 h2 => by obtain ⟨_, rfl⟩ := h1; obtain ⟨_, h⟩ := h2; injection h with h _; (first | lia | omega)) hh (by exact News.isList N (by k_mem)) (All2.ofNats i2) (by rw [sizeLine_eq]; (first | lia | omega)) ?_ ?_
    · intro C d v s₃ m₃ E' hd hv F N hm
      obtain ⟨u, rfl⟩ := hv
      have hd95 := b2 d hd
      clear hret
      (repeat' ((( (fail_if_success (with_reducible show wpAny _ _ (exec (Stmt.For _ _ _ _ _) _) _ _ _)); (fail_if_success (with_reducible show wpAny _ _ (exec (Stmt.While _ _ _ _) _) _ _ _)); (fail_if_success (with_reducible show wpAny _ _ (pyIter _) _ _ _)); (fail_if_success (with_reducible show wpAny _ _ (eval (Expr.ListComp _ _ _ _) _) _ _ _)); (fail_if_success (with_reducible show wpAny _ _ (eval (Expr.GeneratorExp _ _ _ _) _) _ _ _)); (fail_if_success (with_reducible show wpAny _ _ (exec (Stmt.Assign _ (Expr.ListComp _ _ _ _) _) _) _ _ _)); (fail_if_success (with_reducible show wpAny _ _ (PySem.call (Value.ref _) _ _) _ _ _)); (fail_if_success (with_reducible show wpAny _ _ (PySem.call (Value.builtin "list.append") _) _ _ _)); (fail_if_success (with_reducible show wpAny _ _ (PySem.call (Value.builtin "any") _) _ _ _)); (fail_if_success (with_reducible show wpAny _ _ (PySem.call (Value.type "zip") _) _ _ _)); (fail_if_success (with_reducible show wpAny _ _ (PySem.call (Value.builtin "all") _) _ _ _)); (fail_if_success (with_reducible show InvEndN _ _ _ _ _ _ _)))); first | (dsimp only; walk1) | walk1))
      · exact congrArg (fun q => Value.str q _) (item_one (Str.ofString "0123456789()[],'/*abcdefgh@:$%{}IJKLMNOPQRSTUVWXYZ&+-.;<=>?!^_|~ijklmnopqrstuvwxyzABCDEFGH`#\"\\ ") d hd95)
      · exact ⟨_, _, rfl, fun _ _ e => e⟩
    · intro D' h'' tk' ys' n' hD0' hD' hA hk'
      (repeat' ((( (fail_if_success (with_reducible show wpAny _ _ (exec (Stmt.For _ _ _ _ _) _) _ _ _)); (fail_if_success (with_reducible show wpAny _ _ (exec (Stmt.While _ _ _ _) _) _ _ _)); (fail_if_success (with_reducible show wpAny _ _ (pyIter _) _ _ _)); (fail_if_success (with_reducible show wpAny _ _ (eval (Expr.ListComp _ _ _ _) _) _ _ _)); (fail_if_success (with_reducible show wpAny _ _ (eval (Expr.GeneratorExp _ _ _ _) _) _ _ _)); (fail_if_success (with_reducible show wpAny _ _ (exec (Stmt.Assign _ (Expr.ListComp _ _ _ _) _) _) _ _ _)); (fail_if_success (with_reducible show wpAny _ _ (PySem.call (Value.ref _) _ _) _ _ _)); (fail_if_success (with_reducible show wpAny _ _ (PySem.call (Value.builtin "list.append") _) _ _ _)); (fail_if_success (with_reducible show wpAny _ _ (PySem.call (Value.builtin "any") _) _ _ _)); (fail_if_success (with_reducible show wpAny _ _ (PySem.call (Value.type "zip") _) _ _ _)); (fail_if_success (with_reducible show wpAny _ _ (PySem.call (Value.builtin "all") _) _ _ _)); (fail_if_success (with_reducible show InvEndN _ _ _ _ _ _ _)))); first | (dsimp only; walk1) | walk1))
      (rename Fr _ _ _ _ => F)
      (rename News _ _ _ _ => N)
      have F1 := led_fr F hk'
      have N1 := led_keep N hk'
      clear F N
      refine join_chars (f := wch) (ns := two) (by exact ⟨_, hD', rfl, _, rfl⟩) (All2.strsOf hA) (by (first | lia | omega)) ?_
      intro t5 k5
      (repeat' ((( (fail_if_success (with_reducible show wpAny _ _ (exec (Stmt.For _ _ _ _ _) _) _ _ _)); (fail_if_success (with_reducible show wpAny _ _ (exec (Stmt.While _ _ _ _) _) _ _ _)); (fail_if_success (with_reducible show wpAny _ _ (pyIter _) _ _ _)); (fail_if_success (with_reducible show wpAny _ _ (eval (Expr.ListComp _ _ _ _) _) _ _ _)); (fail_if_success (with_reducible show wpAny _ _ (eval (Expr.GeneratorExp _ _ _ _) _) _ _ _)); (fail_if_success (with_reducible show wpAny _ _ (exec (Stmt.Assign _ (Expr.ListComp _ _ _ _) _) _) _ _ _)); (fail_if_success (with_reducible show wpAny _ _ (PySem.call (Value.ref _) _ _) _ _ _)); (fail_if_success (with_reducible show wpAny _ _ (PySem.call (Value.builtin "list.append") _) _ _ _)); (fail_if_success (with_reducible show wpAny _ _ (PySem.call (Value.builtin "any") _) _ _ _)); (fail_if_success (with_reducible show wpAny _ _ (PySem.call (Value.type "zip") _) _ _ _)); (fail_if_success (with_reducible show wpAny _ _ (PySem.call (Value.builtin "all") _) _ _ _)); (fail_if_success (with_reducible show InvEndN _ _ _ _ _ _ _)))); first | (dsimp only; walk1) | walk1))
      clear hA hk'
      (rename Fr _ _ _ _ => F)
      (rename News _ _ _ _ => N)
      refine chk_call (ps := two) (by exact Z.C.keeps F.keep) hh (by (first | lia | omega)) b2 (by (first | lia | omega)) ?_
      intro h8 tk8 t8 hk8
      have F1 := led_fr F hk8
      have N1 := led_keep N hk8
      clear F N
      obtain ⟨d1, d2⟩ := dtext_ok one
      obtain ⟨d3, d4⟩ := dtext_ok two
      obtain ⟨q1, q2⟩ := seven b1 b2 l1 l2 hw20
      have sl := syms_len (l1.trans l2.symm)
      have hy1 : (dtext one).length = 8 := d1
      have hy2 : (dtext two).length = 8 := d3
      generalize dtext one = y1 at *
      generalize dtext two = y2 at *
      (repeat' ((( (fail_if_success (with_reducible show wpAny _ _ (exec (Stmt.For _ _ _ _ _) _) _ _ _)); (fail_if_success (with_reducible show wpAny _ _ (exec (Stmt.While _ _ _ _) _) _ _ _)); (fail_if_success (with_reducible show wpAny _ _ (pyIter _) _ _ _)); (fail_if_success (with_reducible show wpAny _ _ (eval (Expr.ListComp _ _ _ _) _) _ _ _)); (fail_if_success (with_reducible show wpAny _ _ (eval (Expr.GeneratorExp _ _ _ _) _) _ _ _)); (fail_if_success (with_reducible show wpAny _ _ (exec (Stmt.Assign _ (Expr.ListComp _ _ _ _) _) _) _ _ _)); (fail_if_success (with_reducible show wpAny _ _ (PySem.call (Value.ref _) _ _) _ _ _)); (fail_if_success (with_reducible show wpAny _ _ (PySem.call (Value.builtin "list.append") _) _ _ _)); (fail_if_success (with_reducible show wpAny _ _ (PySem.call (Value.builtin "any") _) _ _ _)); (fail_if_success (with_reducible show wpAny _ _ (PySem.call (Value.type "zip") _) _ _ _)); (fail_if_success (with_reducible show wpAny _ _ (PySem.call (Value.builtin "all") _) _ _ _)); (fail_if_success (with_reducible show InvEndN _ _ _ _ _ _ _)))); first | (dsimp only; walk1) | walk1))
      (rename Fr _ _ _ _ => F)
      (rename News _ _ _ _ => N)
      have n1' := led_ne N (a := D2) (oa := listOf v2.toArray n2) (b := L + 1 + 1 + 1) (ob := o3) (by k_mem) (by k_mem) (list_ne_cell h3)
      have n2' := led_ne N (a := D1) (oa := listOf v1.toArray n1) (b := L + 1 + 1 + 1) (ob := o3) (by k_mem) (by k_mem) (list_ne_cell h3)
      have n5 := led_ne N (a := 59) (oa := tabO ps) (b := L + 1 + 1 + 1) (ob := o3) (by k_mem) (by k_mem) (tab_ne_cell h3)
      have m1 : ∀ {a b : Nat}, a ≠ b → (a : Addr) ≠ b := fun h => h
      refine st_cell (rest := [(D1, listOf v1.toArray n1), (D2, listOf v2.toArray n2), (L + 1 + 1 + 1 + 1, o4), (59, tabO ps)]) rfl (by rfl) (by rfl) F N (by k_mem) h3
        (List.forall_mem_cons.mpr ⟨⟨by k_mem, n2'⟩, List.forall_mem_cons.mpr ⟨⟨by k_mem, n1'⟩, List.forall_mem_cons.mpr ⟨⟨by k_mem, m1 (by (first | lia | omega))⟩, List.forall_mem_cons.mpr ⟨⟨by k_mem, n5⟩, List.forall_mem_nil _⟩⟩⟩⟩) ?_
      clear F N
      intro h7 o3' h3' F N
      (repeat' ((( (fail_if_success (with_reducible show wpAny _ _ (exec (Stmt.For _ _ _ _ _) _) _ _ _)); (fail_if_success (with_reducible show wpAny _ _ (exec (Stmt.While _ _ _ _) _) _ _ _)); (fail_if_success (with_reducible show wpAny _ _ (pyIter _) _ _ _)); (fail_if_success (with_reducible show wpAny _ _ (eval (Expr.ListComp _ _ _ _) _) _ _ _)); (fail_if_success (with_reducible show wpAny _ _ (eval (Expr.GeneratorExp _ _ _ _) _) _ _ _)); (fail_if_success (with_reducible show wpAny _ _ (exec (Stmt.Assign _ (Expr.ListComp _ _ _ _) _) _) _ _ _)); (fail_if_success (with_reducible show wpAny _ _ (PySem.call (Value.ref _) _ _) _ _ _)); (fail_if_success (with_reducible show wpAny _ _ (PySem.call (Value.builtin "list.append") _) _ _ _)); (fail_if_success (with_reducible show wpAny _ _ (PySem.call (Value.builtin "any") _) _ _ _)); (fail_if_success (with_reducible show wpAny _ _ (PySem.call (Value.type "zip") _) _ _ _)); (fail_if_success (with_reducible show wpAny _ _ (PySem.call (Value.builtin "all") _) _ _ _)); (fail_if_success (with_reducible show InvEndN _ _ _ _ _ _ _)))); first | (dsimp only; walk1) | walk1))
      refine ListComp_Z (by with_unfolding_all rfl) (by decide) (by rfl) (by decide) ?_ (fun _ => rfl)
      (repeat' ((( (fail_if_success (with_reducible show wpAny _ _ (exec (Stmt.For _ _ _ _ _) _) _ _ _)); (fail_if_success (with_reducible show wpAny _ _ (exec (Stmt.While _ _ _ _) _) _ _ _)); (fail_if_success (with_reducible show wpAny _ _ (pyIter _) _ _ _)); (fail_if_success (with_reducible show wpAny _ _ (eval (Expr.ListComp _ _ _ _) _) _ _ _)); (fail_if_success (with_reducible show wpAny _ _ (eval (Expr.GeneratorExp _ _ _ _) _) _ _ _)); (fail_if_success (with_reducible show wpAny _ _ (exec (Stmt.Assign _ (Expr.ListComp _ _ _ _) _) _) _ _ _)); (fail_if_success (with_reducible show wpAny _ _ (PySem.call (Value.ref _) _ _) _ _ _)); (fail_if_success (with_reducible show wpAny _ _ (PySem.call (Value.builtin "list.append") _) _ _ _)); (fail_if_success (with_reducible show wpAny _ _ (PySem.call (Value.builtin "any") _) _ _ _)); (fail_if_success (with_reducible show wpAny _ _ (PySem.call (Value.type "zip") _) _ _ _)); (fail_if_success (with_reducible show wpAny _ _ (PySem.call (Value.builtin "all") _) _ _ _)); (fail_if_success (with_reducible show InvEndN _ _ _ _ _ _ _)))); first | (dsimp only; walk1) | walk1))
      (rename Fr _ _ _ _ => F)
      (rename News _ _ _ _ => N)
      refine sym_call (ps := one) (by exact Z.C.keeps F.keep) hh (by (first | lia | omega)) (by exact News.isList N (by k_mem)) i1 (by (first | lia | omega)) ?_
      intro h10 tk10 D10 v10 n10 hk10 hD0 hD hI10
      have F1 := led_fr F hk10
      have N1 := led_add F N hk10 hD0 hD
      clear F N
      (repeat' ((( (fail_if_success (with_reducible show wpAny _ _ (exec (Stmt.For _ _ _ _ _) _) _ _ _)); (fail_if_success (with_reducible show wpAny _ _ (exec (Stmt.While _ _ _ _) _) _ _ _)); (fail_if_success (with_reducible show wpAny _ _ (pyIter _) _ _ _)); (fail_if_success (with_reducible show wpAny _ _ (eval (Expr.ListComp _ _ _ _) _) _ _ _)); (fail_if_success (with_reducible show wpAny _ _ (eval (Expr.GeneratorExp _ _ _ _) _) _ _ _)); (fail_if_success (with_reducible show wpAny _ _ (exec (Stmt.Assign _ (Expr.ListComp _ _ _ _) _) _) _ _ _)); (fail_if_success (with_reducible show wpAny _ _ (PySem.call (Value.ref _) _ _) _ _ _)); (fail_if_success (with_reducible show wpAny _ _ (PySem.call (Value.builtin "list.append") _) _ _ _)); (fail_if_success (with_reducible show wpAny _ _ (PySem.call (Value.builtin "any") _) _ _ _)); (fail_if_success (with_reducible show wpAny _ _ (PySem.call (Value.type "zip") _) _ _ _)); (fail_if_success (with_reducible show wpAny _ _ (PySem.call (Value.builtin "all") _) _ _ _)); (fail_if_success (with_reducible show InvEndN _ _ _ _ _ _ _)))); first | (dsimp only; walk1) | walk1))
      (rename Fr _ _ _ _ => F)
      (rename News _ _ _ _ => N)
      refine sym_call (ps := two) (by exact Z.C.keeps F.keep) hh (by (first | lia | omega)) (by exact News.isList N (by k_mem)) i2 (by (first | lia | omega)) ?_
      intro h11 tk11 D11 v11 n11 hk11 hD0' hD' hI11
      have F1 := led_fr F hk11
      have N1 := led_add F N hk11 hD0' hD'
      clear F N
      have sl3 : (syms one).length ≤ 28 := by
        have := symsTo_len one ((one.length + 2) / 3)
        unfold syms
        (first | lia | omega)
      generalize syms one = y3 at *
      generalize syms two = y4 at *
      (repeat' ((( (fail_if_success (with_reducible show wpAny _ _ (exec (Stmt.For _ _ _ _ _) _) _ _ _)); (fail_if_success (with_reducible show wpAny _ _ (exec (Stmt.While _ _ _ _) _) _ _ _)); (fail_if_success (with_reducible show wpAny _ _ (pyIter _) _ _ _)); (fail_if_success (with_reducible show wpAny _ _ (eval (Expr.ListComp _ _ _ _) _) _ _ _)); (fail_if_success (with_reducible show wpAny _ _ (eval (Expr.GeneratorExp _ _ _ _) _) _ _ _)); (fail_if_success (with_reducible show wpAny _ _ (exec (Stmt.Assign _ (Expr.ListComp _ _ _ _) _) _) _ _ _)); (fail_if_success (with_reducible show wpAny _ _ (PySem.call (Value.ref _) _ _) _ _ _)); (fail_if_success (with_reducible show wpAny _ _ (PySem.call (Value.builtin "list.append") _) _ _ _)); (fail_if_success (with_reducible show wpAny _ _ (PySem.call (Value.builtin "any") _) _ _ _)); (fail_if_success (with_reducible show wpAny _ _ (PySem.call (Value.type "zip") _) _ _ _)); (fail_if_success (with_reducible show wpAny _ _ (PySem.call (Value.builtin "all") _) _ _ _)); (fail_if_success (with_reducible show InvEndN _ _ _ _ _ _ _)))); first | (dsimp only; walk1) | walk1))
      (((rename Fr _ _ _ _ => uF); (have uX1 := Frag.In.keeps (by assumption) uF.keep); (have uT1 := TopRead.keeps (by assumption) uF.keep)))
      (rename Fr _ _ _ _ => F)
      (rename News _ _ _ _ => N)
      refine zip2_src (x := Str.ofString "x") (y := Str.ofString "y") (a1 := y3) (a2 := y4) (fun _ y => ∃ t, y = .int 1 t) (fun p => decide (p.1 ≠ p.2)) hh (by exact News.isList N (by k_mem)) (by exact News.isList N (by k_mem))
        hI10 hI11 (by (first | lia | omega)) (by (first | lia | omega)) (fun C => asg2 hh (by rfl) (by rfl) (by rfl) (by decide)) ?_ ?_ ?_
      · intro C a b t1 t2 s₃ m₃ E' hmm F N hm1 hm2
        clear hret
        refine wpAny_tests_one ?_
        (repeat' ((( (fail_if_success (with_reducible show wpAny _ _ (exec (Stmt.For _ _ _ _ _) _) _ _ _)); (fail_if_success (with_reducible show wpAny _ _ (exec (Stmt.While _ _ _ _) _) _ _ _)); (fail_if_success (with_reducible show wpAny _ _ (pyIter _) _ _ _)); (fail_if_success (with_reducible show wpAny _ _ (eval (Expr.ListComp _ _ _ _) _) _ _ _)); (fail_if_success (with_reducible show wpAny _ _ (eval (Expr.GeneratorExp _ _ _ _) _) _ _ _)); (fail_if_success (with_reducible show wpAny _ _ (exec (Stmt.Assign _ (Expr.ListComp _ _ _ _) _) _) _ _ _)); (fail_if_success (with_reducible show wpAny _ _ (PySem.call (Value.ref _) _ _) _ _ _)); (fail_if_success (with_reducible show wpAny _ _ (PySem.call (Value.builtin "list.append") _) _ _ _)); (fail_if_success (with_reducible show wpAny _ _ (PySem.call (Value.builtin "any") _) _ _ _)); (fail_if_success (with_reducible show wpAny _ _ (PySem.call (Value.type "zip") _) _ _ _)); (fail_if_success (with_reducible show wpAny _ _ (PySem.call (Value.builtin "all") _) _ _ _)); (fail_if_success (with_reducible show InvEndN _ _ _ _ _ _ _)))); first | (dsimp only; walk1) | walk1))
        · by_cases he : a = b
          · subst he; simp
          · simp [he]; (first | lia | omega)
        · exact ⟨_, _, rfl, fun _ _ e => e⟩
      · intro C a b t1 t2 s₃ m₃ E' hmm F N hm1 hm2
        clear hret
        (repeat' ((( (fail_if_success (with_reducible show wpAny _ _ (exec (Stmt.For _ _ _ _ _) _) _ _ _)); (fail_if_success (with_reducible show wpAny _ _ (exec (Stmt.While _ _ _ _) _) _ _ _)); (fail_if_success (with_reducible show wpAny _ _ (pyIter _) _ _ _)); (fail_if_success (with_reducible show wpAny _ _ (eval (Expr.ListComp _ _ _ _) _) _ _ _)); (fail_if_success (with_reducible show wpAny _ _ (eval (Expr.GeneratorExp _ _ _ _) _) _ _ _)); (fail_if_success (with_reducible show wpAny _ _ (exec (Stmt.Assign _ (Expr.ListComp _ _ _ _) _) _) _ _ _)); (fail_if_success (with_reducible show wpAny _ _ (PySem.call (Value.ref _) _ _) _ _ _)); (fail_if_success (with_reducible show wpAny _ _ (PySem.call (Value.builtin "list.append") _) _ _ _)); (fail_if_success (with_reducible show wpAny _ _ (PySem.call (Value.builtin "any") _) _ _ _)); (fail_if_success (with_reducible show wpAny _ _ (PySem.call (Value.type "zip") _) _ _ _)); (fail_if_success (with_reducible show wpAny _ _ (PySem.call (Value.builtin "all") _) _ _ _)); (fail_if_success (with_reducible show InvEndN _ _ _ _ _ _ _)))); first | (dsimp only; walk1) | walk1))
        exact ⟨_, _, rfl, fun _ _ e => e⟩
      · intro D3 h3' tk3 ys3 k3 hD30 hD3 hA3 hk3
        have F1 := led_fr F hk3
        have N1 := led_add F N hk3 hD30 hD3
        clear F N
        have hln := hA3.length
        change parts y3 y4 = _ at hln
        have hpl := parts_le y3 y4
        clear hA3
        generalize parts y3 y4 = tn at *
        (repeat' ((( (fail_if_success (with_reducible show wpAny _ _ (exec (Stmt.For _ _ _ _ _) _) _ _ _)); (fail_if_success (with_reducible show wpAny _ _ (exec (Stmt.While _ _ _ _) _) _ _ _)); (fail_if_success (with_reducible show wpAny _ _ (pyIter _) _ _ _)); (fail_if_success (with_reducible show wpAny _ _ (eval (Expr.ListComp _ _ _ _) _) _ _ _)); (fail_if_success (with_reducible show wpAny _ _ (eval (Expr.GeneratorExp _ _ _ _) _) _ _ _)); (fail_if_success (with_reducible show wpAny _ _ (exec (Stmt.Assign _ (Expr.ListComp _ _ _ _) _) _) _ _ _)); (fail_if_success (with_reducible show wpAny _ _ (PySem.call (Value.ref _) _ _) _ _ _)); (fail_if_success (with_reducible show wpAny _ _ (PySem.call (Value.builtin "list.append") _) _ _ _)); (fail_if_success (with_reducible show wpAny _ _ (PySem.call (Value.builtin "any") _) _ _ _)); (fail_if_success (with_reducible show wpAny _ _ (PySem.call (Value.type "zip") _) _ _ _)); (fail_if_success (with_reducible show wpAny _ _ (PySem.call (Value.builtin "all") _) _ _ _)); (fail_if_success (with_reducible show InvEndN _ _ _ _ _ _ _)))); first | (dsimp only; walk1) | walk1))
        (rename Fr _ _ _ _ => F)
        (rename News _ _ _ _ => N)
        refine len_at (k := tn) (N _ (.head _)).1 hln.symm (by (first | lia | omega)) ?_
        (repeat' ((( (fail_if_success (with_reducible show wpAny _ _ (exec (Stmt.For _ _ _ _ _) _) _ _ _)); (fail_if_success (with_reducible show wpAny _ _ (exec (Stmt.While _ _ _ _) _) _ _ _)); (fail_if_success (with_reducible show wpAny _ _ (pyIter _) _ _ _)); (fail_if_success (with_reducible show wpAny _ _ (eval (Expr.ListComp _ _ _ _) _) _ _ _)); (fail_if_success (with_reducible show wpAny _ _ (eval (Expr.GeneratorExp _ _ _ _) _) _ _ _)); (fail_if_success (with_reducible show wpAny _ _ (exec (Stmt.Assign _ (Expr.ListComp _ _ _ _) _) _) _ _ _)); (fail_if_success (with_reducible show wpAny _ _ (PySem.call (Value.ref _) _ _) _ _ _)); (fail_if_success (with_reducible show wpAny _ _ (PySem.call (Value.builtin "list.append") _) _ _ _)); (fail_if_success (with_reducible show wpAny _ _ (PySem.call (Value.builtin "any") _) _ _ _)); (fail_if_success (with_reducible show wpAny _ _ (PySem.call (Value.type "zip") _) _ _ _)); (fail_if_success (with_reducible show wpAny _ _ (PySem.call (Value.builtin "all") _) _ _ _)); (fail_if_success (with_reducible show InvEndN _ _ _ _ _ _ _)))); first | (dsimp only; walk1) | walk1))
        refine ListComp_Z (by with_unfolding_all rfl) (by decide) (by rfl) (by decide) ?_ (fun _ => rfl)
        (repeat' ((( (fail_if_success (with_reducible show wpAny _ _ (exec (Stmt.For _ _ _ _ _) _) _ _ _)); (fail_if_success (with_reducible show wpAny _ _ (exec (Stmt.While _ _ _ _) _) _ _ _)); (fail_if_success (with_reducible show wpAny _ _ (pyIter _) _ _ _)); (fail_if_success (with_reducible show wpAny _ _ (eval (Expr.ListComp _ _ _ _) _) _ _ _)); (fail_if_success (with_reducible show wpAny _ _ (eval (Expr.GeneratorExp _ _ _ _) _) _ _ _)); (fail_if_success (with_reducible show wpAny _ _ (exec (Stmt.Assign _ (Expr.ListComp _ _ _ _) _) _) _ _ _)); (fail_if_success (with_reducible show wpAny _ _ (PySem.call (Value.ref _) _ _) _ _ _)); (fail_if_success (with_reducible show wpAny _ _ (PySem.call (Value.builtin "list.append") _) _ _ _)); (fail_if_success (with_reducible show wpAny _ _ (PySem.call (Value.builtin "any") _) _ _ _)); (fail_if_success (with_reducible show wpAny _ _ (PySem.call (Value.type "zip") _) _ _ _)); (fail_if_success (with_reducible show wpAny _ _ (PySem.call (Value.builtin "all") _) _ _ _)); (fail_if_success (with_reducible show InvEndN _ _ _ _ _ _ _)))); first | (dsimp only; walk1) | walk1))
        (((rename Fr _ _ _ _ => uF); (have uX1 := Frag.In.keeps (by assumption) uF.keep); (have uT1 := TopRead.keeps (by assumption) uF.keep)))
        (rename Fr _ _ _ _ => F)
        (rename News _ _ _ _ => N)
        refine zipS_src (x := Str.ofString "x") (y := Str.ofString "y") (fun _ y => ∃ t, y = .int 1 t) (fun p => decide (p.1 ≠ p.2)) hh d2 d4 (by (first | lia | omega)) (by (first | lia | omega)) (fun C => asg2 hh (by rfl) (by rfl) (by rfl) (by decide)) ?_ ?_ ?_
        · intro C a b t1 t2 s₃ m₃ E' hmm F N hm1 hm2
          clear hret
          refine wpAny_tests_one ?_
          (repeat' ((( (fail_if_success (with_reducible show wpAny _ _ (exec (Stmt.For _ _ _ _ _) _) _ _ _)); (fail_if_success (with_reducible show wpAny _ _ (exec (Stmt.While _ _ _ _) _) _ _ _)); (fail_if_success (with_reducible show wpAny _ _ (pyIter _) _ _ _)); (fail_if_success (with_reducible show wpAny _ _ (eval (Expr.ListComp _ _ _ _) _) _ _ _)); (fail_if_success (with_reducible show wpAny _ _ (eval (Expr.GeneratorExp _ _ _ _) _) _ _ _)); (fail_if_success (with_reducible show wpAny _ _ (exec (Stmt.Assign _ (Expr.ListComp _ _ _ _) _) _) _ _ _)); (fail_if_success (with_reducible show wpAny _ _ (PySem.call (Value.ref _) _ _) _ _ _)); (fail_if_success (with_reducible show wpAny _ _ (PySem.call (Value.builtin "list.append") _) _ _ _)); (fail_if_success (with_reducible show wpAny _ _ (PySem.call (Value.builtin "any") _) _ _ _)); (fail_if_success (with_reducible show wpAny _ _ (PySem.call (Value.type "zip") _) _ _ _)); (fail_if_success (with_reducible show wpAny _ _ (PySem.call (Value.builtin "all") _) _ _ _)); (fail_if_success (with_reducible show InvEndN _ _ _ _ _ _ _)))); first | (dsimp only; walk1) | walk1))
          · by_cases he : a = b
            · subst he; simp
            · simp [he]
          · exact ⟨_, _, rfl, fun _ _ e => e⟩
        · intro C a b t1 t2 s₃ m₃ E' hmm F N hm1 hm2
          clear hret
          (repeat' ((( (fail_if_success (with_reducible show wpAny _ _ (exec (Stmt.For _ _ _ _ _) _) _ _ _)); (fail_if_success (with_reducible show wpAny _ _ (exec (Stmt.While _ _ _ _) _) _ _ _)); (fail_if_success (with_reducible show wpAny _ _ (pyIter _) _ _ _)); (fail_if_success (with_reducible show wpAny _ _ (eval (Expr.ListComp _ _ _ _) _) _ _ _)); (fail_if_success (with_reducible show wpAny _ _ (eval (Expr.GeneratorExp _ _ _ _) _) _ _ _)); (fail_if_success (with_reducible show wpAny _ _ (exec (Stmt.Assign _ (Expr.ListComp _ _ _ _) _) _) _ _ _)); (fail_if_success (with_reducible show wpAny _ _ (PySem.call (Value.ref _) _ _) _ _ _)); (fail_if_success (with_reducible show wpAny _ _ (PySem.call (Value.builtin "list.append") _) _ _ _)); (fail_if_success (with_reducible show wpAny _ _ (PySem.call (Value.builtin "any") _) _ _ _)); (fail_if_success (with_reducible show wpAny _ _ (PySem.call (Value.type "zip") _) _ _ _)); (fail_if_success (with_reducible show wpAny _ _ (PySem.call (Value.builtin "all") _) _ _ _)); (fail_if_success (with_reducible show InvEndN _ _ _ _ _ _ _)))); first | (dsimp only; walk1) | walk1))
          exact ⟨_, _, rfl, fun _ _ e => e⟩
        · intro D4 h4' tk4 ys4 k4 hD40 hD4 hA4 hk4
          have F1 := led_fr F hk4
          have N1 := led_add F N hk4 hD40 hD4
          clear F N
          have hln4 := hA4.length
          change parts y1.cps.toList y2.cps.toList = _ at hln4
          have hpl4 := parts_le y1.cps.toList y2.cps.toList
          rw [Array.length_toList] at hpl4
          clear hA4
          generalize parts y1.cps.toList y2.cps.toList = an at *
          (repeat' ((( (fail_if_success (with_reducible show wpAny _ _ (exec (Stmt.For _ _ _ _ _) _) _ _ _)); (fail_if_success (with_reducible show wpAny _ _ (exec (Stmt.While _ _ _ _) _) _ _ _)); (fail_if_success (with_reducible show wpAny _ _ (pyIter _) _ _ _)); (fail_if_success (with_reducible show wpAny _ _ (eval (Expr.ListComp _ _ _ _) _) _ _ _)); (fail_if_success (with_reducible show wpAny _ _ (eval (Expr.GeneratorExp _ _ _ _) _) _ _ _)); (fail_if_success (with_reducible show wpAny _ _ (exec (Stmt.Assign _ (Expr.ListComp _ _ _ _) _) _) _ _ _)); (fail_if_success (with_reducible show wpAny _ _ (PySem.call (Value.ref _) _ _) _ _ _)); (fail_if_success (with_reducible show wpAny _ _ (PySem.call (Value.builtin "list.append") _) _ _ _)); (fail_if_success (with_reducible show wpAny _ _ (PySem.call (Value.builtin "any") _) _ _ _)); (fail_if_success (with_reducible show wpAny _ _ (PySem.call (Value.type "zip") _) _ _ _)); (fail_if_success (with_reducible show wpAny _ _ (PySem.call (Value.builtin "all") _) _ _ _)); (fail_if_success (with_reducible show InvEndN _ _ _ _ _ _ _)))); first | (dsimp only; walk1) | walk1))
          (rename Fr _ _ _ _ => F)
          (rename News _ _ _ _ => N)
          refine len_at (k := an) (N _ (.head _)).1 hln4.symm (by (first | lia | omega)) ?_
          (repeat' ((( (fail_if_success (with_reducible show wpAny _ _ (exec (Stmt.For _ _ _ _ _) _) _ _ _)); (fail_if_success (with_reducible show wpAny _ _ (exec (Stmt.While _ _ _ _) _) _ _ _)); (fail_if_success (with_reducible show wpAny _ _ (pyIter _) _ _ _)); (fail_if_success (with_reducible show wpAny _ _ (eval (Expr.ListComp _ _ _ _) _) _ _ _)); (fail_if_success (with_reducible show wpAny _ _ (eval (Expr.GeneratorExp _ _ _ _) _) _ _ _)); (fail_if_success (with_reducible show wpAny _ _ (exec (Stmt.Assign _ (Expr.ListComp _ _ _ _) _) _) _ _ _)); (fail_if_success (with_reducible show wpAny _ _ (PySem.call (Value.ref _) _ _) _ _ _)); (fail_if_success (with_reducible show wpAny _ _ (PySem.call (Value.builtin "list.append") _) _ _ _)); (fail_if_success (with_reducible show wpAny _ _ (PySem.call (Value.builtin "any") _) _ _ _)); (fail_if_success (with_reducible show wpAny _ _ (PySem.call (Value.type "zip") _) _ _ _)); (fail_if_success (with_reducible show wpAny _ _ (PySem.call (Value.builtin "all") _) _ _ _)); (fail_if_success (with_reducible show InvEndN _ _ _ _ _ _ _)))); first | (dsimp only; walk1) | walk1))
          · (rename Fr _ _ _ _ => F)
            (rename News _ _ _ _ => N)
            (rename ((0 : Int) < (tn : Int)) => hpos)
            have := q1 (by (first | lia | omega))
            rw [show decide ((5 : Int) - (tn : Int) ≤ (an : Int)) = true from decide_eq_true (by (first | lia | omega))]
            exact hret _ #[] (fun b o hb e => F.keep b o (hid_get e hb)) (by rw [Array.append_empty]; exact (N (59, _) (by k_mem)).1) hb rfl
          · (rename Fr _ _ _ _ => F)
            (rename News _ _ _ _ => N)
            (rename (¬ (0 : Int) < (tn : Int)) => hpos)
            have h0 := q2 (by (first | lia | omega))
            rw [h0]
            exact hret _ #[] (fun b o hb e => F.keep b o (hid_get e hb)) (by rw [Array.append_empty]; exact (N (59, _) (by k_mem)).1) hb rfl
          · (rename ((_ : Int) ≠ 8) => hno)
            exact absurd (by (first | lia | omega)) hno
          · (rename ((_ : Int) ≠ 8) => hno)
            exact absurd (by (first | lia | omega)) hno
end Mine

namespace Mine
/-- how the statement that turns the second text ends -/
noncomputable def TwoEnd (g : Heap) (L : Addr) (ps : Array Value) (o3 o4 : Obj) (sz : Nat) (D1 D2 : Addr) (v1 : List Value) (n1 : Nat) (s : Shared) (fl : Flow) (s' : Shared) : Prop :=
  fl = .next ∧ ∃ h' tk v2 cap two m', s' = { s with heap := h', toks := tk } ∧ NatsAre v2 two ∧ two.length = sz ∧ (∀ v ∈ two, v < 95) ∧ Fr (hid g) L h' m' ∧ (∀ p ∈ [(Str.ofString "one", Value.ref D1), (Str.ofString "two", Value.ref D2)], m' p.1 = some p.2) ∧
    News (hid g) L h' [(D1, listOf v1.toArray n1), (D2, listOf (v2 : List Value).toArray cap), (L + 1 + 1 + 1 + 1, o4), (L + 1 + 1 + 1, o3), (59, tabO ps)]
theorem TwoEnd.intro {g h' : Heap} {L : Addr} {ps : Array Value} {o3 o4 : Obj} {sz tk cap : Nat} {D1 D2 : Addr} {v1 v2 : List Value} {n1 : Nat} {s : Shared} {two : List Nat} {m' : Str → Option Value} (i2 : NatsAre v2 two) (l2 : two.length = sz) (b2 : ∀ v ∈ two, v < 95)
    (F : Fr (hid g) L h' m') (hm : ∀ p ∈ [(Str.ofString "one", Value.ref D1), (Str.ofString "two", Value.ref D2)], m' p.1 = some p.2)
    (N : News (hid g) L h' [(D1, listOf v1.toArray n1), (D2, listOf v2.toArray cap), (L + 1 + 1 + 1 + 1, o4), (L + 1 + 1 + 1, o3), (59, tabO ps)]) : TwoEnd g L ps o3 o4 sz D1 D2 v1 n1 s .next { s with heap := h', toks := tk } :=
  ⟨rfl, h', tk, v2, cap, two, m', rfl, i2, l2, b2, F, hm, N⟩
theorem arm2_walk {w : World} {A : Around} {s : Shared} {p : Program} {loose : List Str} {mg mb m : Str → Option Value} {ps : Array Value} {Q : Flow → Shared → Prop} {g : Heap} {L f : Addr} {cd : Value}
    (Z : Cz w p loose mg mb ps g) (X : (Mine.hd.heap_1 w.params).In (hid g)) (T : TopRead p loose mg mb (hid g)) (hL : L ≠ 59) (hb : AllBare s.gens) (hh : A.handled = none) (hd : A.depth + 60 < recursionLimit) (hu : A.units + 200 < cLine)
    {l : Addr} {vs : List Value} {ns : List Int} (hl : (hid g).IsList l vs.toArray) (hi : IntsAre vs ns) (hn : ns.length ≤ 63)
    {pk : Int} {sz : Nat} {t1 t7 : Tok} {o1 o2 o3 o4 : Obj} (hw1 : 1 ≤ sz) (hw20 : sz ≤ 20)
    (h1 : o1.data = .cell (some (.ref l))) (h2 : o2.data = .cell (some (.int (sz : Int) t1))) (h3 : o3.data = .cell none) (h4 : o4.data = .cell none)
    (F : Fr (hid g) L s.heap m) (N : News (hid g) L s.heap [(L + 1 + 1 + 1 + 1, o4), (L + 1 + 1 + 1, o3), (L + 1 + 1, o2), (L + 1, o1), (59, tabO ps)])
    (hm : ∀ p ∈ [(Str.ofString "pick", Value.int pk t7)], m p.1 = some p.2)
    (hret : LEnd g ps s.os Q) :
   wpAny (model PySem.Challenge.rw_ai0020_01.row.prog w) A (execs arm2 (lawEnv L f cd)) Q (fun _ _ => False) s := by
  change wpAny _ _ (execs (_ :: _) (envOfC _ ⟨_, _, _, _, _⟩ _ _ _)) _ _ _
  rw [← kst_in hm] at F
  (repeat' ((( (fail_if_success (with_reducible show wpAny _ _ (exec (Stmt.For _ _ _ _ _) _) _ _ _)); (fail_if_success (with_reducible show wpAny _ _ (exec (Stmt.While _ _ _ _) _) _ _ _)); (fail_if_success (with_reducible show wpAny _ _ (pyIter _) _ _ _)); (fail_if_success (with_reducible show wpAny _ _ (eval (Expr.ListComp _ _ _ _) _) _ _ _)); (fail_if_success (with_reducible show wpAny _ _ (eval (Expr.GeneratorExp _ _ _ _) _) _ _ _)); (fail_if_success (with_reducible show wpAny _ _ (exec (Stmt.Assign _ (Expr.ListComp _ _ _ _) _) _) _ _ _)); (fail_if_success (with_reducible show wpAny _ _ (PySem.call (Value.ref _) _ _) _ _ _)); (fail_if_success (with_reducible show wpAny _ _ (PySem.call (Value.builtin "list.append") _) _ _ _)); (fail_if_success (with_reducible show wpAny _ _ (PySem.call (Value.builtin "any") _) _ _ _)); (fail_if_success (with_reducible show wpAny _ _ (PySem.call (Value.type "zip") _) _ _ _)); (fail_if_success (with_reducible show wpAny _ _ (PySem.call (Value.builtin "all") _) _ _ _)); (fail_if_success (with_reducible show InvEndN _ _ _ _ _ _ _)))); first | (dsimp only; walk1) | walk1))
  refine Assign_at (fun _ => true) (FN (fun k y => ∃ t, y = .int ((((num ns (2 + k) * 37).fmod 95).toNat : Nat) : Int) t)) (by with_unfolding_all rfl) (by with_unfolding_all rfl) (by decide) (by rfl) (by decide) (by rfl) (by rfl) (by rfl) ?_ (fun _ => rfl)
  (repeat' ((( (fail_if_success (with_reducible show wpAny _ _ (exec (Stmt.For _ _ _ _ _) _) _ _ _)); (fail_if_success (with_reducible show wpAny _ _ (exec (Stmt.While _ _ _ _) _) _ _ _)); (fail_if_success (with_reducible show wpAny _ _ (pyIter _) _ _ _)); (fail_if_success (with_reducible show wpAny _ _ (eval (Expr.ListComp _ _ _ _) _) _ _ _)); (fail_if_success (with_reducible show wpAny _ _ (eval (Expr.GeneratorExp _ _ _ _) _) _ _ _)); (fail_if_success (with_reducible show wpAny _ _ (exec (Stmt.Assign _ (Expr.ListComp _ _ _ _) _) _) _ _ _)); (fail_if_success (with_reducible show wpAny _ _ (PySem.call (Value.ref _) _ _) _ _ _)); (fail_if_success (with_reducible show wpAny _ _ (PySem.call (Value.builtin "list.append") _) _ _ _)); (fail_if_success (with_reducible show wpAny _ _ (PySem.call (Value.builtin "any") _) _ _ _)); (fail_if_success (with_reducible show wpAny _ _ (PySem.call (Value.type "zip") _) _ _ _)); (fail_if_success (with_reducible show wpAny _ _ (PySem.call (Value.builtin "all") _) _ _ _)); (fail_if_success (with_reducible show InvEndN _ _ _ _ _ _ _)))); first | (dsimp only; walk1) | walk1))
  (rename IsRange _ _ _ _ _ _ _ _ => rg)
  (((rename Fr _ _ _ _ => uF); (have uX1 := Frag.In.keeps (by assumption) uF.keep); (have uT1 := TopRead.keeps (by assumption) uF.keep)))
  (rename Fr _ _ _ _ => F)
  (rename News _ _ _ _ => N)
  have hc1 := (N (L + 1, o1) (by k_mem)).1
  have hlc := hl.at fun o e => F.keep _ o e
  refine pi_range0 (n := sz) (fun k y => ∃ t, y = .int ((((num ns (2 + k) * 37).fmod 95).toNat : Nat) : Int) t) hh rg (by (first | lia | omega)) ?_ (fun it o Y => core_ac F N Y ?_)
  · intro C k u s₃ m₃ E' hk8 F N hm
    clear hret
    (repeat' ((( (fail_if_success (with_reducible show wpAny _ _ (exec (Stmt.For _ _ _ _ _) _) _ _ _)); (fail_if_success (with_reducible show wpAny _ _ (exec (Stmt.While _ _ _ _) _) _ _ _)); (fail_if_success (with_reducible show wpAny _ _ (pyIter _) _ _ _)); (fail_if_success (with_reducible show wpAny _ _ (eval (Expr.ListComp _ _ _ _) _) _ _ _)); (fail_if_success (with_reducible show wpAny _ _ (eval (Expr.GeneratorExp _ _ _ _) _) _ _ _)); (fail_if_success (with_reducible show wpAny _ _ (exec (Stmt.Assign _ (Expr.ListComp _ _ _ _) _) _) _ _ _)); (fail_if_success (with_reducible show wpAny _ _ (PySem.call (Value.ref _) _ _) _ _ _)); (fail_if_success (with_reducible show wpAny _ _ (PySem.call (Value.builtin "list.append") _) _ _ _)); (fail_if_success (with_reducible show wpAny _ _ (PySem.call (Value.builtin "any") _) _ _ _)); (fail_if_success (with_reducible show wpAny _ _ (PySem.call (Value.type "zip") _) _ _ _)); (fail_if_success (with_reducible show wpAny _ _ (PySem.call (Value.builtin "all") _) _ _ _)); (fail_if_success (with_reducible show InvEndN _ _ _ _ _ _ _)))); first | (dsimp only; walk1) | walk1))
    (( (rename Fr _ _ _ _ => F9); (rename News _ _ _ _ => N9); (rename Heap.IsList _ _ _ => hl9); (rename _ ≤ 63 => hn9); (refine Mine.num_callI (by exact ⟨Frag.In.keeps (by assumption) F9.keep, TopRead.keeps (by assumption) F9.keep⟩) (by assumption) (by (first | lia | omega)) (by exact hl9.at fun o e => F9.keep _ o e) (by assumption) (by (first | lia | omega)) (by (first | lia | omega)) (by (first | lia | omega)) ?_); (intro h9 tk9 t9 hk9); (have F1 := Mine.led_fr F9 hk9); (have N1 := Mine.led_keep N9 hk9); clear F9 N9; dsimp only))
    (repeat' ((( (fail_if_success (with_reducible show wpAny _ _ (exec (Stmt.For _ _ _ _ _) _) _ _ _)); (fail_if_success (with_reducible show wpAny _ _ (exec (Stmt.While _ _ _ _) _) _ _ _)); (fail_if_success (with_reducible show wpAny _ _ (pyIter _) _ _ _)); (fail_if_success (with_reducible show wpAny _ _ (eval (Expr.ListComp _ _ _ _) _) _ _ _)); (fail_if_success (with_reducible show wpAny _ _ (eval (Expr.GeneratorExp _ _ _ _) _) _ _ _)); (fail_if_success (with_reducible show wpAny _ _ (exec (Stmt.Assign _ (Expr.ListComp _ _ _ _) _) _) _ _ _)); (fail_if_success (with_reducible show wpAny _ _ (PySem.call (Value.ref _) _ _) _ _ _)); (fail_if_success (with_reducible show wpAny _ _ (PySem.call (Value.builtin "list.append") _) _ _ _)); (fail_if_success (with_reducible show wpAny _ _ (PySem.call (Value.builtin "any") _) _ _ _)); (fail_if_success (with_reducible show wpAny _ _ (PySem.call (Value.type "zip") _) _ _ _)); (fail_if_success (with_reducible show wpAny _ _ (PySem.call (Value.builtin "all") _) _ _ _)); (fail_if_success (with_reducible show InvEndN _ _ _ _ _ _ _)))); first | (dsimp only; walk1) | walk1))
    · have ef := fmodN (num ns (2 + k) * 37) 95 (by decide)
      have e1 : (2 + (k : Int)).toNat = 2 + k := by (first | lia | omega)
      rw [e1]
      exact congrArg (fun q => Value.int q _) ef
    · exact ⟨_, _, rfl, by assumption⟩
  · clear F N hlc
    intro D' h'' tk' ys' n' hD0' hA F N hk'
    have i1 : NatsAre ys' ((List.range sz).map fun k => ((num ns (2 + k) * 37).fmod 95).toNat) := All2.natsOf hA
    have l1 : ((List.range sz).map fun k => ((num ns (2 + k) * 37).fmod 95).toNat).length = sz := by simp
    have b1 : ∀ n ∈ (List.range sz).map fun k => ((num ns (2 + k) * 37).fmod 95).toNat, n < 95 := by
      intro n hn
      obtain ⟨k, -, rfl⟩ := List.mem_map.mp hn
      exact fmodN_lt _ 95 (by decide)
    generalize (List.range sz).map (fun k => ((num ns (2 + k) * 37).fmod 95).toNat) = one at i1 l1 b1
    (repeat' ((((fail_if_success (with_reducible show wpAny _ _ (execs (Stmt.If _ _ _ _ :: _) _) _ _ _)); ((( (fail_if_success (with_reducible show wpAny _ _ (exec (Stmt.For _ _ _ _ _) _) _ _ _)); (fail_if_success (with_reducible show wpAny _ _ (exec (Stmt.While _ _ _ _) _) _ _ _)); (fail_if_success (with_reducible show wpAny _ _ (pyIter _) _ _ _)); (fail_if_success (with_reducible show wpAny _ _ (eval (Expr.ListComp _ _ _ _) _) _ _ _)); (fail_if_success (with_reducible show wpAny _ _ (eval (Expr.GeneratorExp _ _ _ _) _) _ _ _)); (fail_if_success (with_reducible show wpAny _ _ (exec (Stmt.Assign _ (Expr.ListComp _ _ _ _) _) _) _ _ _)); (fail_if_success (with_reducible show wpAny _ _ (PySem.call (Value.ref _) _ _) _ _ _)); (fail_if_success (with_reducible show wpAny _ _ (PySem.call (Value.builtin "list.append") _) _ _ _)); (fail_if_success (with_reducible show wpAny _ _ (PySem.call (Value.builtin "any") _) _ _ _)); (fail_if_success (with_reducible show wpAny _ _ (PySem.call (Value.type "zip") _) _ _ _)); (fail_if_success (with_reducible show wpAny _ _ (PySem.call (Value.builtin "all") _) _ _ _)); (fail_if_success (with_reducible show InvEndN _ _ _ _ _ _ _))))))); first | (dsimp only; walk1) | walk1))
    (rename Fr _ _ _ _ => F)
    (rename News _ _ _ _ => N)
    obtain ⟨D2, e⟩ := News.at1 N
    subst e
    have hvl := i1.length
    rw [List.length_map] at hvl
    walk1
    refine wpAny_mono (Q := TwoEnd g L ps o3 o4 sz D' D2 ys' n' { s with heap := h'', toks := tk' }) (E := fun _ _ => False) ?_ ?_ (fun _ _ e => e)
    · walk1
      (repeat' ((( (fail_if_success (with_reducible show wpAny _ _ (exec (Stmt.For _ _ _ _ _) _) _ _ _)); (fail_if_success (with_reducible show wpAny _ _ (exec (Stmt.While _ _ _ _) _) _ _ _)); (fail_if_success (with_reducible show wpAny _ _ (pyIter _) _ _ _)); (fail_if_success (with_reducible show wpAny _ _ (eval (Expr.ListComp _ _ _ _) _) _ _ _)); (fail_if_success (with_reducible show wpAny _ _ (eval (Expr.GeneratorExp _ _ _ _) _) _ _ _)); (fail_if_success (with_reducible show wpAny _ _ (exec (Stmt.Assign _ (Expr.ListComp _ _ _ _) _) _) _ _ _)); (fail_if_success (with_reducible show wpAny _ _ (PySem.call (Value.ref _) _ _) _ _ _)); (fail_if_success (with_reducible show wpAny _ _ (PySem.call (Value.builtin "list.append") _) _ _ _)); (fail_if_success (with_reducible show wpAny _ _ (PySem.call (Value.builtin "any") _) _ _ _)); (fail_if_success (with_reducible show wpAny _ _ (PySem.call (Value.type "zip") _) _ _ _)); (fail_if_success (with_reducible show wpAny _ _ (PySem.call (Value.builtin "all") _) _ _ _)); (fail_if_success (with_reducible show InvEndN _ _ _ _ _ _ _)))); first | (dsimp only; walk1) | walk1))
      · (( (rename Fr _ _ _ _ => F9); (rename News _ _ _ _ => N9); (rename Mine.Cz _ _ _ _ _ _ _ => Z9); (rename Heap.IsList _ _ _ => hl9); (rename _ ≤ 63 => hn9); (refine Mine.num_callI (by exact Z9.C.keeps F9.keep) (by assumption) (by (first | lia | omega)) (by exact hl9.at fun o e => F9.keep _ o e) (by assumption) (by (first | lia | omega)) (by (first | lia | omega)) (by (first | lia | omega)) ?_); (intro h9 tk9 t9 hk9); (have F1 := Mine.led_fr F9 hk9); (have N1 := Mine.led_keep N9 hk9); clear F9 N9; dsimp only))
        have ha0 := Int.fmod_nonneg_of_pos (num ns (Int.toNat 30)) (show (0 : Int) < (sz : Int) by (first | lia | omega))
        have ha1 := Int.fmod_lt_of_pos (num ns (Int.toNat 30)) (show (0 : Int) < (sz : Int) by (first | lia | omega))
        (repeat' ((( (fail_if_success (with_reducible show wpAny _ _ (exec (Stmt.For _ _ _ _ _) _) _ _ _)); (fail_if_success (with_reducible show wpAny _ _ (exec (Stmt.While _ _ _ _) _) _ _ _)); (fail_if_success (with_reducible show wpAny _ _ (pyIter _) _ _ _)); (fail_if_success (with_reducible show wpAny _ _ (eval (Expr.ListComp _ _ _ _) _) _ _ _)); (fail_if_success (with_reducible show wpAny _ _ (eval (Expr.GeneratorExp _ _ _ _) _) _ _ _)); (fail_if_success (with_reducible show wpAny _ _ (exec (Stmt.Assign _ (Expr.ListComp _ _ _ _) _) _) _ _ _)); (fail_if_success (with_reducible show wpAny _ _ (PySem.call (Value.ref _) _ _) _ _ _)); (fail_if_success (with_reducible show wpAny _ _ (PySem.call (Value.builtin "list.append") _) _ _ _)); (fail_if_success (with_reducible show wpAny _ _ (PySem.call (Value.builtin "any") _) _ _ _)); (fail_if_success (with_reducible show wpAny _ _ (PySem.call (Value.type "zip") _) _ _ _)); (fail_if_success (with_reducible show wpAny _ _ (PySem.call (Value.builtin "all") _) _ _ _)); (fail_if_success (with_reducible show InvEndN _ _ _ _ _ _ _)))); first | (dsimp only; walk1) | walk1))
        (( (rename Fr _ _ _ _ => F9); (rename News _ _ _ _ => N9); (rename Mine.Cz _ _ _ _ _ _ _ => Z9); (rename Heap.IsList _ _ _ => hl9); (rename _ ≤ 63 => hn9); (refine Mine.num_callI (by exact Z9.C.keeps F9.keep) (by assumption) (by (first | lia | omega)) (by exact hl9.at fun o e => F9.keep _ o e) (by assumption) (by (first | lia | omega)) (by (first | lia | omega)) (by (first | lia | omega)) ?_); (intro h9 tk9 t9 hk9); (have F1 := Mine.led_fr F9 hk9); (have N1 := Mine.led_keep N9 hk9); clear F9 N9; dsimp only))
        (repeat' ((( (fail_if_success (with_reducible show wpAny _ _ (exec (Stmt.For _ _ _ _ _) _) _ _ _)); (fail_if_success (with_reducible show wpAny _ _ (exec (Stmt.While _ _ _ _) _) _ _ _)); (fail_if_success (with_reducible show wpAny _ _ (pyIter _) _ _ _)); (fail_if_success (with_reducible show wpAny _ _ (eval (Expr.ListComp _ _ _ _) _) _ _ _)); (fail_if_success (with_reducible show wpAny _ _ (eval (Expr.GeneratorExp _ _ _ _) _) _ _ _)); (fail_if_success (with_reducible show wpAny _ _ (exec (Stmt.Assign _ (Expr.ListComp _ _ _ _) _) _) _ _ _)); (fail_if_success (with_reducible show wpAny _ _ (PySem.call (Value.ref _) _ _) _ _ _)); (fail_if_success (with_reducible show wpAny _ _ (PySem.call (Value.builtin "list.append") _) _ _ _)); (fail_if_success (with_reducible show wpAny _ _ (PySem.call (Value.builtin "any") _) _ _ _)); (fail_if_success (with_reducible show wpAny _ _ (PySem.call (Value.type "zip") _) _ _ _)); (fail_if_success (with_reducible show wpAny _ _ (PySem.call (Value.builtin "all") _) _ _ _)); (fail_if_success (with_reducible show InvEndN _ _ _ _ _ _ _)))); first | (dsimp only; walk1) | walk1))
        (rename Fr _ _ _ _ => F)
        (rename News _ _ _ _ => N)
        (rename IntsAre _ (List.set _ _ _) => hI)
        have hr0 := Int.fmod_nonneg_of_pos (num ns (Int.toNat 33)) (show (0 : Int) < 94 by decide)
        have hr1 := Int.fmod_lt_of_pos (num ns (Int.toNat 33)) (show (0 : Int) < 94 by decide)
        have htu := turned (k := 95) (getD_lt (i := ((num ns (Int.toNat 30)).fmod (sz : Int)).toNat) b1 (by decide)) hr0 (by exact hr1)
        have hI2 := set_nats hI (by rw [getD_cast]; exact htu.1)
        exact TwoEnd.intro hI2 (by rw [List.length_set, l1]) (set_lt b1 (by rw [getD_cast]; exact (Int.toNat_lt htu.1).mpr htu.2.1)) F (List.forall_mem_cons.mpr ⟨rfl, List.forall_mem_cons.mpr ⟨rfl, List.forall_mem_nil _⟩⟩)
          (News.sub N (List.forall_mem_cons.mpr ⟨by k_mem, List.forall_mem_cons.mpr ⟨by k_mem, List.forall_mem_cons.mpr ⟨by k_mem, List.forall_mem_cons.mpr ⟨by k_mem, List.forall_mem_cons.mpr ⟨by k_mem, List.forall_mem_nil _⟩⟩⟩⟩⟩))
      · (rename Fr _ _ _ _ => F)
        (rename News _ _ _ _ => N)
        refine For_invVF F (by rfl) (by rfl) ?_
        (repeat' ((( (fail_if_success (with_reducible show wpAny _ _ (exec (Stmt.For _ _ _ _ _) _) _ _ _)); (fail_if_success (with_reducible show wpAny _ _ (exec (Stmt.While _ _ _ _) _) _ _ _)); (fail_if_success (with_reducible show wpAny _ _ (pyIter _) _ _ _)); (fail_if_success (with_reducible show wpAny _ _ (eval (Expr.ListComp _ _ _ _) _) _ _ _)); (fail_if_success (with_reducible show wpAny _ _ (eval (Expr.GeneratorExp _ _ _ _) _) _ _ _)); (fail_if_success (with_reducible show wpAny _ _ (exec (Stmt.Assign _ (Expr.ListComp _ _ _ _) _) _) _ _ _)); (fail_if_success (with_reducible show wpAny _ _ (PySem.call (Value.ref _) _ _) _ _ _)); (fail_if_success (with_reducible show wpAny _ _ (PySem.call (Value.builtin "list.append") _) _ _ _)); (fail_if_success (with_reducible show wpAny _ _ (PySem.call (Value.builtin "any") _) _ _ _)); (fail_if_success (with_reducible show wpAny _ _ (PySem.call (Value.type "zip") _) _ _ _)); (fail_if_success (with_reducible show wpAny _ _ (PySem.call (Value.builtin "all") _) _ _ _)); (fail_if_success (with_reducible show InvEndN _ _ _ _ _ _ _)))); first | (dsimp only; walk1) | walk1))
        (rename IsRange _ _ _ _ _ _ _ _ => rg)
        try clear N
        try clear F
        (rename Fr _ _ _ _ => F)
        (rename News _ _ _ _ => N)
        have hN0 := Int.fmod_nonneg_of_pos (pk.fdiv 3) (show (0 : Int) < 4 by decide)
        have hN3 := Int.fmod_lt_of_pos (pk.fdiv 3) (show (0 : Int) < 4 by decide)
        obtain ⟨nn, hnn⟩ : ∃ nn : Nat, (pk.fdiv 3).fmod 4 = (nn : Int) := ⟨((pk.fdiv 3).fmod 4).toNat, by (first | lia | omega)⟩
        rw [hnn] at rg
        have hnn3 : nn < 4 := by (first | lia | omega)
        refine kst_range (n := 1 + nn) (σ := List Value × Nat) (fun c => [(D2, listOf c.1.toArray c.2), (D', listOf ys'.toArray n'), (L + 1 + 1 + 1 + 1, o4), (L + 1 + 1 + 1, o3), (L + 1 + 1, o2), (L + 1, o1), (59, tabO ps)]) (fun _ => []) (fun _ => True) [Str.ofString "at"]
          (fun pre c => ∃ two : List Nat, NatsAre c.1 two ∧ two.length = sz ∧ (∀ v ∈ two, v < 95)) (ys', _) hh rg (small_one (by decide) (by decide) (by (first | lia | omega)) (by (first | lia | omega))) (by rw [rangeSize_nat]; (first | lia | omega)) F N trivial (List.forall_mem_nil _) ⟨one, i1, l1, b1⟩ ?_ ?_
        · clear F N rg hA hk'
          rintro ⟨v2, cap⟩ pre k t u h tk own hk hlt hoff - ⟨two, i2, l2, b2⟩ F N
          dsimp only at i2 F N
          clear hret
          have hvl2 := i2.length
          rw [List.length_map] at hvl2
          (repeat' ((( (fail_if_success (with_reducible show wpAny _ _ (exec (Stmt.For _ _ _ _ _) _) _ _ _)); (fail_if_success (with_reducible show wpAny _ _ (exec (Stmt.While _ _ _ _) _) _ _ _)); (fail_if_success (with_reducible show wpAny _ _ (pyIter _) _ _ _)); (fail_if_success (with_reducible show wpAny _ _ (eval (Expr.ListComp _ _ _ _) _) _ _ _)); (fail_if_success (with_reducible show wpAny _ _ (eval (Expr.GeneratorExp _ _ _ _) _) _ _ _)); (fail_if_success (with_reducible show wpAny _ _ (exec (Stmt.Assign _ (Expr.ListComp _ _ _ _) _) _) _ _ _)); (fail_if_success (with_reducible show wpAny _ _ (PySem.call (Value.ref _) _ _) _ _ _)); (fail_if_success (with_reducible show wpAny _ _ (PySem.call (Value.builtin "list.append") _) _ _ _)); (fail_if_success (with_reducible show wpAny _ _ (PySem.call (Value.builtin "any") _) _ _ _)); (fail_if_success (with_reducible show wpAny _ _ (PySem.call (Value.type "zip") _) _ _ _)); (fail_if_success (with_reducible show wpAny _ _ (PySem.call (Value.builtin "all") _) _ _ _)); (fail_if_success (with_reducible show InvEndN _ _ _ _ _ _ _)))); first | (dsimp only; walk1) | walk1))
          (( (rename Fr _ _ _ _ => F9); (rename News _ _ _ _ => N9); (rename Mine.Cz _ _ _ _ _ _ _ => Z9); (rename Heap.IsList _ _ _ => hl9); (rename _ ≤ 63 => hn9); (refine Mine.num_callI (by exact Z9.C.keeps F9.keep) (by assumption) (by (first | lia | omega)) (by exact hl9.at fun o e => F9.keep _ o e) (by assumption) (by (first | lia | omega)) (by (first | lia | omega)) (by (first | lia | omega)) ?_); (intro h9 tk9 t9 hk9); (have F1 := Mine.led_fr F9 hk9); (have N1 := Mine.led_keep N9 hk9); clear F9 N9; dsimp only))
          have ha0 := Int.fmod_nonneg_of_pos (num ns (30 + k).toNat) (show (0 : Int) < (sz : Int) by (first | lia | omega))
          have ha1 := Int.fmod_lt_of_pos (num ns (30 + k).toNat) (show (0 : Int) < (sz : Int) by (first | lia | omega))
          have hg95 : (one.map fun n : Nat => (n : Int)).getD ((num ns (30 + k).toNat).fmod (sz : Int)).toNat 0 < 95 := by rw [getD_cast]; have := getD_lt (i := ((num ns (30 + k).toNat).fmod (sz : Int)).toNat) b1 (by decide); (first | lia | omega)
          have hg0 : 0 ≤ (one.map fun n : Nat => (n : Int)).getD ((num ns (30 + k).toNat).fmod (sz : Int)).toNat 0 := by rw [getD_cast]; (first | lia | omega)
          (repeat' ((( (fail_if_success (with_reducible show wpAny _ _ (exec (Stmt.For _ _ _ _ _) _) _ _ _)); (fail_if_success (with_reducible show wpAny _ _ (exec (Stmt.While _ _ _ _) _) _ _ _)); (fail_if_success (with_reducible show wpAny _ _ (pyIter _) _ _ _)); (fail_if_success (with_reducible show wpAny _ _ (eval (Expr.ListComp _ _ _ _) _) _ _ _)); (fail_if_success (with_reducible show wpAny _ _ (eval (Expr.GeneratorExp _ _ _ _) _) _ _ _)); (fail_if_success (with_reducible show wpAny _ _ (exec (Stmt.Assign _ (Expr.ListComp _ _ _ _) _) _) _ _ _)); (fail_if_success (with_reducible show wpAny _ _ (PySem.call (Value.ref _) _ _) _ _ _)); (fail_if_success (with_reducible show wpAny _ _ (PySem.call (Value.builtin "list.append") _) _ _ _)); (fail_if_success (with_reducible show wpAny _ _ (PySem.call (Value.builtin "any") _) _ _ _)); (fail_if_success (with_reducible show wpAny _ _ (PySem.call (Value.type "zip") _) _ _ _)); (fail_if_success (with_reducible show wpAny _ _ (PySem.call (Value.builtin "all") _) _ _ _)); (fail_if_success (with_reducible show InvEndN _ _ _ _ _ _ _)))); first | (dsimp only; walk1) | walk1))
          · (( (rename Fr _ _ _ _ => F9); (rename News _ _ _ _ => N9); (rename Mine.Cz _ _ _ _ _ _ _ => Z9); (rename Heap.IsList _ _ _ => hl9); (rename _ ≤ 63 => hn9); (refine Mine.num_callI (by exact Z9.C.keeps F9.keep) (by assumption) (by (first | lia | omega)) (by exact hl9.at fun o e => F9.keep _ o e) (by assumption) (by (first | lia | omega)) (by (first | lia | omega)) (by (first | lia | omega)) ?_); (intro h9 tk9 t9 hk9); (have F1 := Mine.led_fr F9 hk9); (have N1 := Mine.led_keep N9 hk9); clear F9 N9; dsimp only))
            have hr0 := Int.fmod_nonneg_of_pos (num ns (34 + k).toNat) (show (0 : Int) < 31 by decide)
            have hr1 := Int.fmod_lt_of_pos (num ns (34 + k).toNat) (show (0 : Int) < 31 by decide)
            (repeat' ((( (fail_if_success (with_reducible show wpAny _ _ (exec (Stmt.For _ _ _ _ _) _) _ _ _)); (fail_if_success (with_reducible show wpAny _ _ (exec (Stmt.While _ _ _ _) _) _ _ _)); (fail_if_success (with_reducible show wpAny _ _ (pyIter _) _ _ _)); (fail_if_success (with_reducible show wpAny _ _ (eval (Expr.ListComp _ _ _ _) _) _ _ _)); (fail_if_success (with_reducible show wpAny _ _ (eval (Expr.GeneratorExp _ _ _ _) _) _ _ _)); (fail_if_success (with_reducible show wpAny _ _ (exec (Stmt.Assign _ (Expr.ListComp _ _ _ _) _) _) _ _ _)); (fail_if_success (with_reducible show wpAny _ _ (PySem.call (Value.ref _) _ _) _ _ _)); (fail_if_success (with_reducible show wpAny _ _ (PySem.call (Value.builtin "list.append") _) _ _ _)); (fail_if_success (with_reducible show wpAny _ _ (PySem.call (Value.builtin "any") _) _ _ _)); (fail_if_success (with_reducible show wpAny _ _ (PySem.call (Value.type "zip") _) _ _ _)); (fail_if_success (with_reducible show wpAny _ _ (PySem.call (Value.builtin "all") _) _ _ _)); (fail_if_success (with_reducible show InvEndN _ _ _ _ _ _ _)))); first | (dsimp only; walk1) | walk1))
            (rename IntsAre _ (List.set _ _ _) => hI)
            have hq0 := Int.fmod_nonneg_of_pos ((one.map fun n : Nat => (n : Int)).getD ((num ns (30 + k).toNat).fmod (sz : Int)).toNat 0 + 1 + (num ns (34 + k).toNat).fmod 31) (show (0 : Int) < 32 by decide)
            have hq1 := Int.fmod_lt_of_pos ((one.map fun n : Nat => (n : Int)).getD ((num ns (30 + k).toNat).fmod (sz : Int)).toNat 0 + 1 + (num ns (34 + k).toNat).fmod 31) (show (0 : Int) < 32 by decide)
            have hI2 := set_nats hI hq0
            (((rename Fr _ _ _ _ => fE); (rename News _ _ _ _ => nE); (refine kst_end (_, _) fE nE (by first | kst_in | kst_inAny) (by first | (intro p hp; kst_mem) | kst_anyIn) (by rfl) trivial (by (try dsimp only); kst_all) (by (( (intro z h1 h2 h3); (simp only [List.forall_mem_cons, List.not_mem_nil, false_implies, implies_true, and_true, ne_eq] at h1 h2); (have h4 := h3); (simp only [List.contains_cons, List.contains_nil, Bool.or_false, Bool.or_eq_false_iff, beq_eq_false_iff_ne, ne_eq] at h4); (first | rfl | (simp only [kstB, h1, h2, h3, h4, if_false, ite_false, Bool.false_eq_true, not_false_eq_true]; done) | (simp [kstB, h1, h2, h3, h4]; done))))) ?_); clear fE nE; (try dsimp only)))
            exact ⟨_, hI2, by rw [List.length_set, l2], set_lt b2 (by (first | lia | omega))⟩
          all_goals first
            | ((rename IntsAre _ (List.set _ _ _) => hI)
               have hI2 := set_nats hI (by (first | lia | omega))
               (((rename Fr _ _ _ _ => fE); (rename News _ _ _ _ => nE); (refine kst_end (_, _) fE nE (by first | kst_in | kst_inAny) (by first | (intro p hp; kst_mem) | kst_anyIn) (by rfl) trivial (by (try dsimp only); kst_all) (by (( (intro z h1 h2 h3); (simp only [List.forall_mem_cons, List.not_mem_nil, false_implies, implies_true, and_true, ne_eq] at h1 h2); (have h4 := h3); (simp only [List.contains_cons, List.contains_nil, Bool.or_false, Bool.or_eq_false_iff, beq_eq_false_iff_ne, ne_eq] at h4); (first | rfl | (simp only [kstB, h1, h2, h3, h4, if_false, ite_false, Bool.false_eq_true, not_false_eq_true]; done) | (simp [kstB, h1, h2, h3, h4]; done))))) ?_); clear fE nE; (try dsimp only)))
               exact ⟨_, hI2, by rw [List.length_set, l2], set_lt b2 (by (first | lia | omega))⟩)
            | ((((rename Fr _ _ _ _ => fE); (rename News _ _ _ _ => nE); (refine kst_end (_, _) fE nE (by first | kst_in | kst_inAny) (by first | (intro p hp; kst_mem) | kst_anyIn) (by rfl) trivial (by (try dsimp only); kst_all) (by (( (intro z h1 h2 h3); (simp only [List.forall_mem_cons, List.not_mem_nil, false_implies, implies_true, and_true, ne_eq] at h1 h2); (have h4 := h3); (simp only [List.contains_cons, List.contains_nil, Bool.or_false, Bool.or_eq_false_iff, beq_eq_false_iff_ne, ne_eq] at h4); (first | rfl | (simp only [kstB, h1, h2, h3, h4, if_false, ite_false, Bool.false_eq_true, not_false_eq_true]; done) | (simp [kstB, h1, h2, h3, h4]; done))))) ?_); clear fE nE; (try dsimp only)))
               exact ⟨two, i2, l2, b2⟩)
        · clear F N rg hA hk'
          rintro ⟨v2, cap⟩ u h tk - ⟨two, i2, l2, b2⟩ F N
          dsimp only at i2 F N
          (repeat' ((( (fail_if_success (with_reducible show wpAny _ _ (exec (Stmt.For _ _ _ _ _) _) _ _ _)); (fail_if_success (with_reducible show wpAny _ _ (exec (Stmt.While _ _ _ _) _) _ _ _)); (fail_if_success (with_reducible show wpAny _ _ (pyIter _) _ _ _)); (fail_if_success (with_reducible show wpAny _ _ (eval (Expr.ListComp _ _ _ _) _) _ _ _)); (fail_if_success (with_reducible show wpAny _ _ (eval (Expr.GeneratorExp _ _ _ _) _) _ _ _)); (fail_if_success (with_reducible show wpAny _ _ (exec (Stmt.Assign _ (Expr.ListComp _ _ _ _) _) _) _ _ _)); (fail_if_success (with_reducible show wpAny _ _ (PySem.call (Value.ref _) _ _) _ _ _)); (fail_if_success (with_reducible show wpAny _ _ (PySem.call (Value.builtin "list.append") _) _ _ _)); (fail_if_success (with_reducible show wpAny _ _ (PySem.call (Value.builtin "any") _) _ _ _)); (fail_if_success (with_reducible show wpAny _ _ (PySem.call (Value.type "zip") _) _ _ _)); (fail_if_success (with_reducible show wpAny _ _ (PySem.call (Value.builtin "all") _) _ _ _)); (fail_if_success (with_reducible show InvEndN _ _ _ _ _ _ _)))); first | (dsimp only; walk1) | walk1))
          exact TwoEnd.intro i2 l2 b2 F (List.forall_mem_cons.mpr ⟨rfl, List.forall_mem_cons.mpr ⟨rfl, List.forall_mem_nil _⟩⟩)
            (News.sub N (List.forall_mem_cons.mpr ⟨by k_mem, List.forall_mem_cons.mpr ⟨by k_mem, List.forall_mem_cons.mpr ⟨by k_mem, List.forall_mem_cons.mpr ⟨by k_mem, List.forall_mem_cons.mpr ⟨by k_mem, List.forall_mem_nil _⟩⟩⟩⟩⟩))
    · rintro fl s' ⟨rfl, h', tk, v2, cap, two, m', rfl, i2, l2, b2, F, hm', N⟩
      dsimp only
      show wpAny _ _ (execs (arm2.drop 3) (lawEnv L f cd)) _ _ _
      exact k2_ret Z Z.C.K Z.C.T hL (by exact hb) hh hd hu hw1 hw20 i1 i2 l1 l2 b1 b2 h3 h4 F N hm' hret
end Mine

namespace Mine
/-- the rows of the last kind -/
noncomputable def row3 (ns : List Int) (sz j : Nat) : List Nat := (List.range sz).map fun k => ((num ns (2 + 20 * j + k) * ((j : Int) + 1)).fmod 32).toNat
theorem row3_len (ns : List Int) (sz j : Nat) : (row3 ns sz j).length = sz := by simp [row3]
theorem row3_lt (ns : List Int) (sz j : Nat) : ∀ v ∈ row3 ns sz j, v < 32 := by
  intro v hv
  obtain ⟨k, -, rfl⟩ := List.mem_map.mp hv
  exact fmodN_lt _ 32 (by decide)
theorem ints_det {vs : List Value} {a b : List Int} (h : IntsAre vs a) (h' : IntsAre vs b) : a = b := by
  induction h generalizing b with
  | nil => cases h'; rfl
  | cons n t h ih => cases h' with | cons _ _ h2 => rw [ih h2]
/-- a list of numbers stands there -/
noncomputable def IsRow (h : Heap) (a : Addr × List Nat) (v : Value) : Prop := v = Value.ref a.1 ∧ ∃ vs k, h.get? a.1 = some (listOf (vs : List Value).toArray k) ∧ NatsAre vs a.2
theorem isRow_det {h : Heap} (a a' : Addr × List Nat) (v : Value) (x : IsRow h a v) (y : IsRow h a' v) : a = a' := by
  obtain ⟨a1, a2⟩ := a
  obtain ⟨b1, b2⟩ := a'
  obtain ⟨rfl, vs, k, e, hn⟩ := x
  obtain ⟨e', vs', k', e2, hn'⟩ := y
  cases e'
  dsimp only at e e2 hn hn'
  have h1 := Option.some.inj (e.symm.trans e2)
  have h2 : (listOf vs.toArray k).data = (listOf vs'.toArray k').data := by rw [h1]
  injection h2 with h3
  have h4 : vs = vs' := by simpa using h3
  subst h4
  rw [cast_inj (ints_det hn hn')]
theorem k3_walk {w : World} {A : Around} {s : Shared} {p : Program} {loose : List Str} {mg mb m : Str → Option Value} {ps : Array Value} {Q : Flow → Shared → Prop} {g : Heap} {L f : Addr} {cd : Value}
    (Z : Cz w p loose mg mb ps g) (X : (Mine.hd.heap_1 w.params).In (hid g)) (T : TopRead p loose mg mb (hid g)) (hL : L ≠ 59) (hb : AllBare s.gens) (hh : A.handled = none) (hd : A.depth + 60 < recursionLimit) (hu : A.units + 200 < cLine)
    {l : Addr} {vs : List Value} {ns : List Int} (hl : (hid g).IsList l vs.toArray) (hi : IntsAre vs ns) (hn : ns.length ≤ 63)
    {sz : Nat} {t1 : Tok} {o1 o2 : Obj} (hw1 : 1 ≤ sz) (hw20 : sz ≤ 20)
    (h1 : o1.data = .cell (some (.ref l))) (h2 : o2.data = .cell (some (.int (sz : Int) t1)))
    (F : Fr (hid g) L s.heap m) (N : News (hid g) L s.heap [(L + 1 + 1, o2), (L + 1, o1), (59, tabO ps)])
    (hret : LEnd g ps s.os Q) :
   wpAny (model PySem.Challenge.rw_ai0020_01.row.prog w) A (execs (lawBody.drop 5) (lawEnv L f cd)) Q (fun _ _ => False) s := by
  change wpAny _ _ (execs (_ :: _) (envOfC _ ⟨_, _, _, _, _⟩ _ _ _)) _ _ _
  (repeat' ((( (fail_if_success (with_reducible show wpAny _ _ (exec (Stmt.For _ _ _ _ _) _) _ _ _)); (fail_if_success (with_reducible show wpAny _ _ (exec (Stmt.While _ _ _ _) _) _ _ _)); (fail_if_success (with_reducible show wpAny _ _ (pyIter _) _ _ _)); (fail_if_success (with_reducible show wpAny _ _ (eval (Expr.ListComp _ _ _ _) _) _ _ _)); (fail_if_success (with_reducible show wpAny _ _ (eval (Expr.GeneratorExp _ _ _ _) _) _ _ _)); (fail_if_success (with_reducible show wpAny _ _ (exec (Stmt.Assign _ (Expr.ListComp _ _ _ _) _) _) _ _ _)); (fail_if_success (with_reducible show wpAny _ _ (PySem.call (Value.ref _) _ _) _ _ _)); (fail_if_success (with_reducible show wpAny _ _ (PySem.call (Value.builtin "list.append") _) _ _ _)); (fail_if_success (with_reducible show wpAny _ _ (PySem.call (Value.builtin "any") _) _ _ _)); (fail_if_success (with_reducible show wpAny _ _ (PySem.call (Value.type "zip") _) _ _ _)); (fail_if_success (with_reducible show wpAny _ _ (PySem.call (Value.builtin "all") _) _ _ _)); (fail_if_success (with_reducible show InvEndN _ _ _ _ _ _ _)))); first | (dsimp only; walk1) | walk1))
  refine Assign_rows (α := Nat) (by with_unfolding_all rfl) (by with_unfolding_all rfl) (by rfl) (by decide) (fun n => by rfl) (fun h => by rfl) (fun e => by rfl) (by rfl) (by rfl) ?_ (fun _ => rfl)
  (repeat' ((( (fail_if_success (with_reducible show wpAny _ _ (exec (Stmt.For _ _ _ _ _) _) _ _ _)); (fail_if_success (with_reducible show wpAny _ _ (exec (Stmt.While _ _ _ _) _) _ _ _)); (fail_if_success (with_reducible show wpAny _ _ (pyIter _) _ _ _)); (fail_if_success (with_reducible show wpAny _ _ (eval (Expr.ListComp _ _ _ _) _) _ _ _)); (fail_if_success (with_reducible show wpAny _ _ (eval (Expr.GeneratorExp _ _ _ _) _) _ _ _)); (fail_if_success (with_reducible show wpAny _ _ (exec (Stmt.Assign _ (Expr.ListComp _ _ _ _) _) _) _ _ _)); (fail_if_success (with_reducible show wpAny _ _ (PySem.call (Value.ref _) _ _) _ _ _)); (fail_if_success (with_reducible show wpAny _ _ (PySem.call (Value.builtin "list.append") _) _ _ _)); (fail_if_success (with_reducible show wpAny _ _ (PySem.call (Value.builtin "any") _) _ _ _)); (fail_if_success (with_reducible show wpAny _ _ (PySem.call (Value.type "zip") _) _ _ _)); (fail_if_success (with_reducible show wpAny _ _ (PySem.call (Value.builtin "all") _) _ _ _)); (fail_if_success (with_reducible show InvEndN _ _ _ _ _ _ _)))); first | (dsimp only; walk1) | walk1))
  (rename IsRange _ _ _ _ _ _ _ _ => rg)
  (((rename Fr _ _ _ _ => uF); (have uX1 := Frag.In.keeps (by assumption) uF.keep); (have uT1 := TopRead.keeps (by assumption) uF.keep)))
  (rename Fr _ _ _ _ => F)
  (rename News _ _ _ _ => N)
  have hc1 := (N (L + 1, o1) (by k_mem)).1
  have hc2 := (N (L + 1 + 1, o2) (by k_mem)).1
  have hlc := hl.at fun o e => F.keep _ o e
  refine rows_range (n := 3) (row3 ns sz) hh rg (by decide) F.ns ?_ ?_
  · intro C c oc k u s₃ m₃ E' hk3 F N hcd
    clear hret
    (repeat' ((( (fail_if_success (with_reducible show wpAny _ _ (exec (Stmt.For _ _ _ _ _) _) _ _ _)); (fail_if_success (with_reducible show wpAny _ _ (exec (Stmt.While _ _ _ _) _) _ _ _)); (fail_if_success (with_reducible show wpAny _ _ (pyIter _) _ _ _)); (fail_if_success (with_reducible show wpAny _ _ (eval (Expr.ListComp _ _ _ _) _) _ _ _)); (fail_if_success (with_reducible show wpAny _ _ (eval (Expr.GeneratorExp _ _ _ _) _) _ _ _)); (fail_if_success (with_reducible show wpAny _ _ (exec (Stmt.Assign _ (Expr.ListComp _ _ _ _) _) _) _ _ _)); (fail_if_success (with_reducible show wpAny _ _ (PySem.call (Value.ref _) _ _) _ _ _)); (fail_if_success (with_reducible show wpAny _ _ (PySem.call (Value.builtin "list.append") _) _ _ _)); (fail_if_success (with_reducible show wpAny _ _ (PySem.call (Value.builtin "any") _) _ _ _)); (fail_if_success (with_reducible show wpAny _ _ (PySem.call (Value.type "zip") _) _ _ _)); (fail_if_success (with_reducible show wpAny _ _ (PySem.call (Value.builtin "all") _) _ _ _)); (fail_if_success (with_reducible show InvEndN _ _ _ _ _ _ _)))); first | (dsimp only; walk1) | walk1))
    refine ListComp_at (fun _ => true) (FN (fun kk y => ∃ t, y = .int ((((num ns (2 + 20 * k + kk) * ((k : Int) + 1)).fmod 32).toNat : Nat) : Int) t)) (by with_unfolding_all rfl) (by decide) (by rfl) (by decide) (by rfl) ?_ (fun _ => rfl)
    (repeat' ((( (fail_if_success (with_reducible show wpAny _ _ (exec (Stmt.For _ _ _ _ _) _) _ _ _)); (fail_if_success (with_reducible show wpAny _ _ (exec (Stmt.While _ _ _ _) _) _ _ _)); (fail_if_success (with_reducible show wpAny _ _ (pyIter _) _ _ _)); (fail_if_success (with_reducible show wpAny _ _ (eval (Expr.ListComp _ _ _ _) _) _ _ _)); (fail_if_success (with_reducible show wpAny _ _ (eval (Expr.GeneratorExp _ _ _ _) _) _ _ _)); (fail_if_success (with_reducible show wpAny _ _ (exec (Stmt.Assign _ (Expr.ListComp _ _ _ _) _) _) _ _ _)); (fail_if_success (with_reducible show wpAny _ _ (PySem.call (Value.ref _) _ _) _ _ _)); (fail_if_success (with_reducible show wpAny _ _ (PySem.call (Value.builtin "list.append") _) _ _ _)); (fail_if_success (with_reducible show wpAny _ _ (PySem.call (Value.builtin "any") _) _ _ _)); (fail_if_success (with_reducible show wpAny _ _ (PySem.call (Value.type "zip") _) _ _ _)); (fail_if_success (with_reducible show wpAny _ _ (PySem.call (Value.builtin "all") _) _ _ _)); (fail_if_success (with_reducible show InvEndN _ _ _ _ _ _ _)))); first | (dsimp only; walk1) | walk1))
    (rename IsRange _ _ _ _ _ _ _ _ => rg2)
    (rename Fr _ _ _ _ => F)
    (rename News _ _ _ _ => N)
    have uX2 := Frag.In.keeps (by assumption) F.keep
    have uT2 := TopRead.keeps (by assumption) F.keep
    have hcj := (N (c, oc) (by k_mem)).1
    have hcs := F.keep _ _ hc1
    have hlc2 := hlc.at fun o e => F.keep _ o e
    refine lc_range (n := sz) (fun kk y => ∃ t, y = .int ((((num ns (2 + 20 * k + kk) * ((k : Int) + 1)).fmod 32).toNat : Nat) : Int) t) hh rg2 (by (first | lia | omega)) ?_ ?_
    · intro C2 kk u2 s₄ m₄ E2 hkk F N hm2
      (repeat' ((( (fail_if_success (with_reducible show wpAny _ _ (exec (Stmt.For _ _ _ _ _) _) _ _ _)); (fail_if_success (with_reducible show wpAny _ _ (exec (Stmt.While _ _ _ _) _) _ _ _)); (fail_if_success (with_reducible show wpAny _ _ (pyIter _) _ _ _)); (fail_if_success (with_reducible show wpAny _ _ (eval (Expr.ListComp _ _ _ _) _) _ _ _)); (fail_if_success (with_reducible show wpAny _ _ (eval (Expr.GeneratorExp _ _ _ _) _) _ _ _)); (fail_if_success (with_reducible show wpAny _ _ (exec (Stmt.Assign _ (Expr.ListComp _ _ _ _) _) _) _ _ _)); (fail_if_success (with_reducible show wpAny _ _ (PySem.call (Value.ref _) _ _) _ _ _)); (fail_if_success (with_reducible show wpAny _ _ (PySem.call (Value.builtin "list.append") _) _ _ _)); (fail_if_success (with_reducible show wpAny _ _ (PySem.call (Value.builtin "any") _) _ _ _)); (fail_if_success (with_reducible show wpAny _ _ (PySem.call (Value.type "zip") _) _ _ _)); (fail_if_success (with_reducible show wpAny _ _ (PySem.call (Value.builtin "all") _) _ _ _)); (fail_if_success (with_reducible show InvEndN _ _ _ _ _ _ _)))); first | (dsimp only; walk1) | walk1))
      (( (rename Fr _ _ _ _ => F9); (rename News _ _ _ _ => N9); (rename Heap.IsList _ _ _ => hl9); (rename _ ≤ 63 => hn9); (refine Mine.num_callI (by exact ⟨Frag.In.keeps (by assumption) F9.keep, TopRead.keeps (by assumption) F9.keep⟩) (by assumption) (by (first | lia | omega)) (by exact hl9.at fun o e => F9.keep _ o e) (by assumption) (by (first | lia | omega)) (by (first | lia | omega)) (by (first | lia | omega)) ?_); (intro h9 tk9 t9 hk9); (have F1 := Mine.led_fr F9 hk9); (have N1 := Mine.led_keep N9 hk9); clear F9 N9; dsimp only))
      (repeat' ((( (fail_if_success (with_reducible show wpAny _ _ (exec (Stmt.For _ _ _ _ _) _) _ _ _)); (fail_if_success (with_reducible show wpAny _ _ (exec (Stmt.While _ _ _ _) _) _ _ _)); (fail_if_success (with_reducible show wpAny _ _ (pyIter _) _ _ _)); (fail_if_success (with_reducible show wpAny _ _ (eval (Expr.ListComp _ _ _ _) _) _ _ _)); (fail_if_success (with_reducible show wpAny _ _ (eval (Expr.GeneratorExp _ _ _ _) _) _ _ _)); (fail_if_success (with_reducible show wpAny _ _ (exec (Stmt.Assign _ (Expr.ListComp _ _ _ _) _) _) _ _ _)); (fail_if_success (with_reducible show wpAny _ _ (PySem.call (Value.ref _) _ _) _ _ _)); (fail_if_success (with_reducible show wpAny _ _ (PySem.call (Value.builtin "list.append") _) _ _ _)); (fail_if_success (with_reducible show wpAny _ _ (PySem.call (Value.builtin "any") _) _ _ _)); (fail_if_success (with_reducible show wpAny _ _ (PySem.call (Value.type "zip") _) _ _ _)); (fail_if_success (with_reducible show wpAny _ _ (PySem.call (Value.builtin "all") _) _ _ _)); (fail_if_success (with_reducible show InvEndN _ _ _ _ _ _ _)))); first | (dsimp only; walk1) | walk1))
      · have ef := fmodN (num ns (2 + 20 * k + kk) * ((k : Int) + 1)) 32 (by decide)
        have e1 : (2 + 20 * (k : Int) + (kk : Int)).toNat = 2 + 20 * k + kk := by (first | lia | omega)
        rw [e1]
        exact congrArg (fun q => Value.int q _) ef
      · exact ⟨_, _, rfl, by assumption⟩
    · intro D2 h2' tk2 ys2 n2 hD20 hD2 hA2 hk2
      (rename (∀ b o, s₃.heap.get? b = some o → _) => hgrow)
      have hD2s : s₃.heap.get? D2 = none := by
        cases e : s₃.heap.get? D2 with
        | none => rfl
        | some o' => exact absurd ((hgrow _ _ e).symm.trans hD20) (by simp)
      exact ⟨⟨D2, ys2, n2, rfl, hD2s, hD2, All2.natsOf hA2⟩, _, _, rfl, fun b o e => hk2 b o (hgrow b o e)⟩
  · intro D h' tk ys k hD hD' hA hn' hk
    rw [show List.range 3 = [0, 1, 2] from rfl] at hA
    cases hA with
    | cons r0 hA =>
    cases hA with
    | cons r1 hA =>
    cases hA with
    | cons r2 hA =>
    cases hA
    obtain ⟨A0, v0, k0, rfl, hA0, hv0, hb0⟩ := r0
    obtain ⟨A1, v1, k1, rfl, hA1, hv1, hb1⟩ := r1
    obtain ⟨A2, v2, k2, rfl, hA2, hv2, hb2⟩ := r2
    have hLn : ∀ b o, (hid g).get? b = some o → b ≠ L := fun b o e q => Nat.lt_irrefl _ (Nat.lt_of_lt_of_le (q ▸ Heap.lt_size e) F.above)
    have F1 : Fr (hid g) L h' _ := ⟨hn', fun b o e => hk b o (hLn b o e) (F.keep b o e), F.above⟩
    have hfr : ∀ {a : Addr} {o : Obj}, ¬ (a = D ∨ a = L ∨ ∃ o, _ = some o) → h'.get? a = some o → h'.get? a = some o ∧ a ≠ L ∧ (hid g).get? a = none := fun {a o} hb e => by
      refine ⟨e, fun q => hb (.inr (.inl q)), ?_⟩
      cases e2 : (hid g).get? a with
      | none => rfl
      | some o' => exact absurd (.inr (.inr ⟨o', F.keep a o' e2⟩)) hb
    have N1 : News (hid g) L h' [(D, listOf [Value.ref A0, .ref A1, .ref A2].toArray k), (A0, listOf v0.toArray k0), (A1, listOf v1.toArray k1), (A2, listOf v2.toArray k2), (L + 1 + 1, o2), (L + 1, o1), (59, tabO ps)] := by
      refine List.forall_mem_cons.mpr ⟨⟨hD', ?_, ?_⟩, List.forall_mem_cons.mpr ⟨hfr hb0 hA0, List.forall_mem_cons.mpr ⟨hfr hb1 hA1, List.forall_mem_cons.mpr ⟨hfr hb2 hA2, ?_⟩⟩⟩⟩
      · intro q
        have q' : D = L := q
        obtain ⟨o, _, _, e, _⟩ := F.ns
        have e' := hD
        rw [q'] at e'
        exact absurd (e.symm.trans e') (by simp)
      · cases e2 : (hid g).get? D with
        | none => rfl
        | some o' => exact absurd ((F.keep D o' e2).symm.trans hD) (by simp)
      · exact fun q hq => ⟨hk _ _ (N q hq).2.1 (N q hq).1, (N q hq).2⟩
    clear F N hlc
    have m0 : (row3 ns sz 0).length = sz := row3_len ns sz 0
    have m1 : (row3 ns sz 1).length = sz := row3_len ns sz 1
    have m2 : (row3 ns sz 2).length = sz := row3_len ns sz 2
    have b0 := row3_lt ns sz 0
    have b1 := row3_lt ns sz 1
    have b2 := row3_lt ns sz 2
    generalize row3 ns sz 0 = R0 at *
    generalize row3 ns sz 1 = R1 at *
    generalize row3 ns sz 2 = R2 at *
    (repeat' ((( (fail_if_success (with_reducible show wpAny _ _ (exec (Stmt.For _ _ _ _ _) _) _ _ _)); (fail_if_success (with_reducible show wpAny _ _ (exec (Stmt.While _ _ _ _) _) _ _ _)); (fail_if_success (with_reducible show wpAny _ _ (pyIter _) _ _ _)); (fail_if_success (with_reducible show wpAny _ _ (eval (Expr.ListComp _ _ _ _) _) _ _ _)); (fail_if_success (with_reducible show wpAny _ _ (eval (Expr.GeneratorExp _ _ _ _) _) _ _ _)); (fail_if_success (with_reducible show wpAny _ _ (exec (Stmt.Assign _ (Expr.ListComp _ _ _ _) _) _) _ _ _)); (fail_if_success (with_reducible show wpAny _ _ (PySem.call (Value.ref _) _ _) _ _ _)); (fail_if_success (with_reducible show wpAny _ _ (PySem.call (Value.builtin "list.append") _) _ _ _)); (fail_if_success (with_reducible show wpAny _ _ (PySem.call (Value.builtin "any") _) _ _ _)); (fail_if_success (with_reducible show wpAny _ _ (PySem.call (Value.type "zip") _) _ _ _)); (fail_if_success (with_reducible show wpAny _ _ (PySem.call (Value.builtin "all") _) _ _ _)); (fail_if_success (with_reducible show InvEndN _ _ _ _ _ _ _)))); first | (dsimp only; walk1) | walk1))
    refine ListComp_Z (by with_unfolding_all rfl) (by decide) (by rfl) (by decide) ?_ (fun _ => rfl)
    (repeat' ((( (fail_if_success (with_reducible show wpAny _ _ (exec (Stmt.For _ _ _ _ _) _) _ _ _)); (fail_if_success (with_reducible show wpAny _ _ (exec (Stmt.While _ _ _ _) _) _ _ _)); (fail_if_success (with_reducible show wpAny _ _ (pyIter _) _ _ _)); (fail_if_success (with_reducible show wpAny _ _ (eval (Expr.ListComp _ _ _ _) _) _ _ _)); (fail_if_success (with_reducible show wpAny _ _ (eval (Expr.GeneratorExp _ _ _ _) _) _ _ _)); (fail_if_success (with_reducible show wpAny _ _ (exec (Stmt.Assign _ (Expr.ListComp _ _ _ _) _) _) _ _ _)); (fail_if_success (with_reducible show wpAny _ _ (PySem.call (Value.ref _) _ _) _ _ _)); (fail_if_success (with_reducible show wpAny _ _ (PySem.call (Value.builtin "list.append") _) _ _ _)); (fail_if_success (with_reducible show wpAny _ _ (PySem.call (Value.builtin "any") _) _ _ _)); (fail_if_success (with_reducible show wpAny _ _ (PySem.call (Value.type "zip") _) _ _ _)); (fail_if_success (with_reducible show wpAny _ _ (PySem.call (Value.builtin "all") _) _ _ _)); (fail_if_success (with_reducible show InvEndN _ _ _ _ _ _ _)))); first | (dsimp only; walk1) | walk1))
    (((rename Fr _ _ _ _ => uF); (have uX1 := Frag.In.keeps (by assumption) uF.keep); (have uT1 := TopRead.keeps (by assumption) uF.keep)))
    (rename Fr _ _ _ _ => F)
    (rename News _ _ _ _ => N)
    refine zip3_src (x := Str.ofString "x") (y := Str.ofString "y") (z := Str.ofString "z") (a1 := R0) (a2 := R1) (a3 := R2) (fun a y => ∃ t, y = .int (((a.1 ^^^ a.2.1) ^^^ a.2.2 : Nat) : Int) t) hh (by exact News.isList N (by k_mem)) (by exact News.isList N (by k_mem)) (by exact News.isList N (by k_mem))
      hv0 hv1 hv2 (by (first | lia | omega)) (by (first | lia | omega)) (by (first | lia | omega)) (fun C => asg3 hh (by rfl) (by rfl) (by rfl) (by rfl) (by decide) (by decide) (by decide)) rfl ?_ ?_
    · intro C a b c t1 t2 t3 s₃ m₃ E' hm3 F N hm1 hm2 hm3
      clear hret
      (repeat' ((( (fail_if_success (with_reducible show wpAny _ _ (exec (Stmt.For _ _ _ _ _) _) _ _ _)); (fail_if_success (with_reducible show wpAny _ _ (exec (Stmt.While _ _ _ _) _) _ _ _)); (fail_if_success (with_reducible show wpAny _ _ (pyIter _) _ _ _)); (fail_if_success (with_reducible show wpAny _ _ (eval (Expr.ListComp _ _ _ _) _) _ _ _)); (fail_if_success (with_reducible show wpAny _ _ (eval (Expr.GeneratorExp _ _ _ _) _) _ _ _)); (fail_if_success (with_reducible show wpAny _ _ (exec (Stmt.Assign _ (Expr.ListComp _ _ _ _) _) _) _ _ _)); (fail_if_success (with_reducible show wpAny _ _ (PySem.call (Value.ref _) _ _) _ _ _)); (fail_if_success (with_reducible show wpAny _ _ (PySem.call (Value.builtin "list.append") _) _ _ _)); (fail_if_success (with_reducible show wpAny _ _ (PySem.call (Value.builtin "any") _) _ _ _)); (fail_if_success (with_reducible show wpAny _ _ (PySem.call (Value.type "zip") _) _ _ _)); (fail_if_success (with_reducible show wpAny _ _ (PySem.call (Value.builtin "all") _) _ _ _)); (fail_if_success (with_reducible show InvEndN _ _ _ _ _ _ _)))); first | (dsimp only; walk1) | walk1))
      exact ⟨_, _, rfl, fun _ _ e => e⟩
    · intro A3 h3' tk3 ys3 k3 hD30 hD3 hA3 hk3
      have F1 := led_fr F hk3
      have N1 := led_add F N hk3 hD30 hD3
      have q0 := N (D, listOf [Value.ref A0, .ref A1, .ref A2].toArray k) (by k_mem)
      have hne3 : A3 ≠ D := fun e => absurd ((by rw [e]; exact q0.1 : _ = some _).symm.trans hD30) (by simp)
      clear F N
      have hv3 : NatsAre ys3 (z3l R0 R1 R2) := All2.natsOf hA3
      have m3 : (z3l R0 R1 R2).length = sz := z3l_len m0 m1 m2
      have b3 : ∀ v ∈ z3l R0 R1 R2, v < 32 := z3l_lt (m := 5) b0 b1 b2
      clear hA3
      (repeat' ((( (fail_if_success (with_reducible show wpAny _ _ (exec (Stmt.For _ _ _ _ _) _) _ _ _)); (fail_if_success (with_reducible show wpAny _ _ (exec (Stmt.While _ _ _ _) _) _ _ _)); (fail_if_success (with_reducible show wpAny _ _ (pyIter _) _ _ _)); (fail_if_success (with_reducible show wpAny _ _ (eval (Expr.ListComp _ _ _ _) _) _ _ _)); (fail_if_success (with_reducible show wpAny _ _ (eval (Expr.GeneratorExp _ _ _ _) _) _ _ _)); (fail_if_success (with_reducible show wpAny _ _ (exec (Stmt.Assign _ (Expr.ListComp _ _ _ _) _) _) _ _ _)); (fail_if_success (with_reducible show wpAny _ _ (PySem.call (Value.ref _) _ _) _ _ _)); (fail_if_success (with_reducible show wpAny _ _ (PySem.call (Value.builtin "list.append") _) _ _ _)); (fail_if_success (with_reducible show wpAny _ _ (PySem.call (Value.builtin "any") _) _ _ _)); (fail_if_success (with_reducible show wpAny _ _ (PySem.call (Value.type "zip") _) _ _ _)); (fail_if_success (with_reducible show wpAny _ _ (PySem.call (Value.builtin "all") _) _ _ _)); (fail_if_success (with_reducible show InvEndN _ _ _ _ _ _ _)))); first | (dsimp only; walk1) | walk1))
      (rename Fr _ _ _ _ => F)
      (rename News _ _ _ _ => N)
      have n1 := led_ne N (a := 59) (oa := tabO ps) (b := D) (ob := listOf [Value.ref A0, .ref A1, .ref A2].toArray k) (by k_mem) (by k_mem) (fun e => notTab_list e.symm)
      have n2 := led_ne N (a := D) (oa := listOf [Value.ref A0, .ref A1, .ref A2].toArray k) (b := L + 1 + 1) (ob := o2) (by k_mem) (by k_mem) (list_ne_cell h2)
      have n3 := led_ne N (a := D) (oa := listOf [Value.ref A0, .ref A1, .ref A2].toArray k) (b := L + 1) (ob := o1) (by k_mem) (by k_mem) (list_ne_cell h1)
      refine app_own (D := D) (ys := [Value.ref A0, .ref A1, .ref A2]) (n := k) (rest := [(A3, listOf ys3.toArray k3), (A0, listOf v0.toArray k0), (A1, listOf v1.toArray k1), (A2, listOf v2.toArray k2), (L + 1 + 1, o2), (L + 1, o1), (59, tabO ps)]) F
        (News.sub N (List.forall_mem_cons.mpr ⟨by k_mem, List.forall_mem_cons.mpr ⟨by k_mem, List.forall_mem_cons.mpr ⟨by k_mem, List.forall_mem_cons.mpr ⟨by k_mem, List.forall_mem_cons.mpr ⟨by k_mem, List.forall_mem_cons.mpr ⟨by k_mem, List.forall_mem_cons.mpr ⟨by k_mem, List.forall_mem_cons.mpr ⟨by k_mem, List.forall_mem_nil _⟩⟩⟩⟩⟩⟩⟩⟩))
        (List.forall_mem_cons.mpr ⟨hne3, List.forall_mem_cons.mpr ⟨fun e => hb0 (.inl e), List.forall_mem_cons.mpr ⟨fun e => hb1 (.inl e), List.forall_mem_cons.mpr ⟨fun e => hb2 (.inl e), List.forall_mem_cons.mpr ⟨n2.symm, List.forall_mem_cons.mpr ⟨n3.symm, List.forall_mem_cons.mpr ⟨n1, List.forall_mem_nil _⟩⟩⟩⟩⟩⟩⟩) (by simp) ?_
      clear F N
      intro h5 F N
      (repeat' ((( (fail_if_success (with_reducible show wpAny _ _ (exec (Stmt.For _ _ _ _ _) _) _ _ _)); (fail_if_success (with_reducible show wpAny _ _ (exec (Stmt.While _ _ _ _) _) _ _ _)); (fail_if_success (with_reducible show wpAny _ _ (pyIter _) _ _ _)); (fail_if_success (with_reducible show wpAny _ _ (eval (Expr.ListComp _ _ _ _) _) _ _ _)); (fail_if_success (with_reducible show wpAny _ _ (eval (Expr.GeneratorExp _ _ _ _) _) _ _ _)); (fail_if_success (with_reducible show wpAny _ _ (exec (Stmt.Assign _ (Expr.ListComp _ _ _ _) _) _) _ _ _)); (fail_if_success (with_reducible show wpAny _ _ (PySem.call (Value.ref _) _ _) _ _ _)); (fail_if_success (with_reducible show wpAny _ _ (PySem.call (Value.builtin "list.append") _) _ _ _)); (fail_if_success (with_reducible show wpAny _ _ (PySem.call (Value.builtin "any") _) _ _ _)); (fail_if_success (with_reducible show wpAny _ _ (PySem.call (Value.type "zip") _) _ _ _)); (fail_if_success (with_reducible show wpAny _ _ (PySem.call (Value.builtin "all") _) _ _ _)); (fail_if_success (with_reducible show InvEndN _ _ _ _ _ _ _)))); first | (dsimp only; walk1) | walk1))
      have hit : ∀ a ∈ [(A0, R0), (A1, R1), (A2, R2), (A3, z3l R0 R1 R2)], a.2.length = sz ∧ ∀ v ∈ a.2, v < 32 :=
        List.forall_mem_cons.mpr ⟨⟨m0, b0⟩, List.forall_mem_cons.mpr ⟨⟨m1, b1⟩, List.forall_mem_cons.mpr ⟨⟨m2, b2⟩, List.forall_mem_cons.mpr ⟨⟨m3, b3⟩, List.forall_mem_nil _⟩⟩⟩⟩
      have hrows : All2 (IsRow h5) [(A0, R0), (A1, R1), (A2, R2), (A3, z3l R0 R1 R2)] ([Value.ref A0, .ref A1, .ref A2] ++ [Value.ref A3]) :=
        .cons ⟨rfl, v0, k0, (N (A0, _) (by k_mem)).1, hv0⟩ (.cons ⟨rfl, v1, k1, (N (A1, _) (by k_mem)).1, hv1⟩ (.cons ⟨rfl, v2, k2, (N (A2, _) (by k_mem)).1, hv2⟩ (.cons ⟨rfl, ys3, k3, (N (A3, _) (by k_mem)).1, hv3⟩ .nil)))
      refine Assign_at (fun _ => true) (fun v y => ∀ a, IsRow h5 a v → ∃ t, y = .str (dtext a.2) t) (by with_unfolding_all rfl) (by with_unfolding_all rfl) (by decide) (by rfl) (by decide) (by rfl) (by rfl) (by rfl) ?_ (fun _ => rfl)
      (repeat' ((( (fail_if_success (with_reducible show wpAny _ _ (exec (Stmt.For _ _ _ _ _) _) _ _ _)); (fail_if_success (with_reducible show wpAny _ _ (exec (Stmt.While _ _ _ _) _) _ _ _)); (fail_if_success (with_reducible show wpAny _ _ (pyIter _) _ _ _)); (fail_if_success (with_reducible show wpAny _ _ (eval (Expr.ListComp _ _ _ _) _) _ _ _)); (fail_if_success (with_reducible show wpAny _ _ (eval (Expr.GeneratorExp _ _ _ _) _) _ _ _)); (fail_if_success (with_reducible show wpAny _ _ (exec (Stmt.Assign _ (Expr.ListComp _ _ _ _) _) _) _ _ _)); (fail_if_success (with_reducible show wpAny _ _ (PySem.call (Value.ref _) _ _) _ _ _)); (fail_if_success (with_reducible show wpAny _ _ (PySem.call (Value.builtin "list.append") _) _ _ _)); (fail_if_success (with_reducible show wpAny _ _ (PySem.call (Value.builtin "any") _) _ _ _)); (fail_if_success (with_reducible show wpAny _ _ (PySem.call (Value.type "zip") _) _ _ _)); (fail_if_success (with_reducible show wpAny _ _ (PySem.call (Value.builtin "all") _) _ _ _)); (fail_if_success (with_reducible show InvEndN _ _ _ _ _ _ _)))); first | (dsimp only; walk1) | walk1))
      (((rename Fr _ _ _ _ => uF); (have uX1 := Frag.In.keeps (by assumption) uF.keep); (have uT1 := TopRead.keeps (by assumption) uF.keep)))
      (rename Fr _ _ _ _ => F)
      (rename News _ _ _ _ => N)
      refine pi_list (IsRow h5) (fun a y => ∃ t, y = .str (dtext a.2) t) isRow_det hh (by exact News.isList N (by k_mem)) hrows (by rw [sizeLine_eq]; simp) ?_ (fun it o Y => core_ac F N Y ?_)
      · intro C a v s₃ m₃ E' ha hv F N hm
        obtain ⟨rfl, vsa, ka, hga, hna⟩ := hv
        obtain ⟨hla, hba⟩ := hit a ha
        clear hret
        (repeat' ((( (fail_if_success (with_reducible show wpAny _ _ (exec (Stmt.For _ _ _ _ _) _) _ _ _)); (fail_if_success (with_reducible show wpAny _ _ (exec (Stmt.While _ _ _ _) _) _ _ _)); (fail_if_success (with_reducible show wpAny _ _ (pyIter _) _ _ _)); (fail_if_success (with_reducible show wpAny _ _ (eval (Expr.ListComp _ _ _ _) _) _ _ _)); (fail_if_success (with_reducible show wpAny _ _ (eval (Expr.GeneratorExp _ _ _ _) _) _ _ _)); (fail_if_success (with_reducible show wpAny _ _ (exec (Stmt.Assign _ (Expr.ListComp _ _ _ _) _) _) _ _ _)); (fail_if_success (with_reducible show wpAny _ _ (PySem.call (Value.ref _) _ _) _ _ _)); (fail_if_success (with_reducible show wpAny _ _ (PySem.call (Value.builtin "list.append") _) _ _ _)); (fail_if_success (with_reducible show wpAny _ _ (PySem.call (Value.builtin "any") _) _ _ _)); (fail_if_success (with_reducible show wpAny _ _ (PySem.call (Value.type "zip") _) _ _ _)); (fail_if_success (with_reducible show wpAny _ _ (PySem.call (Value.builtin "all") _) _ _ _)); (fail_if_success (with_reducible show InvEndN _ _ _ _ _ _ _)))); first | (dsimp only; walk1) | walk1))
        refine ListComp_at (fun _ => true) (fun v y => ∀ a : Nat, (∃ u, v = .int (a : Int) u) → (∃ t, y = .str (one1 wch a) t)) (by with_unfolding_all rfl) (by decide) (by rfl) (by decide) (by rfl) ?_ (fun _ => rfl)
        (repeat' ((( (fail_if_success (with_reducible show wpAny _ _ (exec (Stmt.For _ _ _ _ _) _) _ _ _)); (fail_if_success (with_reducible show wpAny _ _ (exec (Stmt.While _ _ _ _) _) _ _ _)); (fail_if_success (with_reducible show wpAny _ _ (pyIter _) _ _ _)); (fail_if_success (with_reducible show wpAny _ _ (eval (Expr.ListComp _ _ _ _) _) _ _ _)); (fail_if_success (with_reducible show wpAny _ _ (eval (Expr.GeneratorExp _ _ _ _) _) _ _ _)); (fail_if_success (with_reducible show wpAny _ _ (exec (Stmt.Assign _ (Expr.ListComp _ _ _ _) _) _) _ _ _)); (fail_if_success (with_reducible show wpAny _ _ (PySem.call (Value.ref _) _ _) _ _ _)); (fail_if_success (with_reducible show wpAny _ _ (PySem.call (Value.builtin "list.append") _) _ _ _)); (fail_if_success (with_reducible show wpAny _ _ (PySem.call (Value.builtin "any") _) _ _ _)); (fail_if_success (with_reducible show wpAny _ _ (PySem.call (Value.type "zip") _) _ _ _)); (fail_if_success (with_reducible show wpAny _ _ (PySem.call (Value.builtin "all") _) _ _ _)); (fail_if_success (with_reducible show InvEndN _ _ _ _ _ _ _)))); first | (dsimp only; walk1) | walk1))
        (rename Fr _ _ _ _ => F)
        (rename News _ _ _ _ => N)
        have uX2 := Frag.In.keeps (by assumption) F.keep
        have uT2 := TopRead.keeps (by assumption) F.keep
        refine lc_list (α := Nat) (items := a.2) (fun a v => ∃ u, v = .int (a : Int) u) (fun a y => ∃ t, y = .str (one1 wch a) t) (fun a a' v h1 h2 => by obtain ⟨_, rfl⟩ := h1; obtain ⟨_, h⟩ := h2; injection h with h _; (first | lia | omega)) hh (by exact ⟨_, F.keep _ _ hga, rfl, _, rfl⟩) (All2.ofNats hna) (by rw [sizeLine_eq]; (first | lia | omega)) ?_ ?_
        · intro C2 d v s₄ m₄ E2 hd hv F N hm2
          obtain ⟨u, rfl⟩ := hv
          have hd95 : d < 95 := Nat.lt_trans (hba d hd) (by decide)
          (repeat' ((( (fail_if_success (with_reducible show wpAny _ _ (exec (Stmt.For _ _ _ _ _) _) _ _ _)); (fail_if_success (with_reducible show wpAny _ _ (exec (Stmt.While _ _ _ _) _) _ _ _)); (fail_if_success (with_reducible show wpAny _ _ (pyIter _) _ _ _)); (fail_if_success (with_reducible show wpAny _ _ (eval (Expr.ListComp _ _ _ _) _) _ _ _)); (fail_if_success (with_reducible show wpAny _ _ (eval (Expr.GeneratorExp _ _ _ _) _) _ _ _)); (fail_if_success (with_reducible show wpAny _ _ (exec (Stmt.Assign _ (Expr.ListComp _ _ _ _) _) _) _ _ _)); (fail_if_success (with_reducible show wpAny _ _ (PySem.call (Value.ref _) _ _) _ _ _)); (fail_if_success (with_reducible show wpAny _ _ (PySem.call (Value.builtin "list.append") _) _ _ _)); (fail_if_success (with_reducible show wpAny _ _ (PySem.call (Value.builtin "any") _) _ _ _)); (fail_if_success (with_reducible show wpAny _ _ (PySem.call (Value.type "zip") _) _ _ _)); (fail_if_success (with_reducible show wpAny _ _ (PySem.call (Value.builtin "all") _) _ _ _)); (fail_if_success (with_reducible show InvEndN _ _ _ _ _ _ _)))); first | (dsimp only; walk1) | walk1))
          · exact congrArg (fun q => Value.str q _) (item_one (Str.ofString "0123456789()[],'/*abcdefgh@:$%{}IJKLMNOPQRSTUVWXYZ&+-.;<=>?!^_|~ijklmnopqrstuvwxyzABCDEFGH`#\"\\ ") d hd95)
          · exact ⟨_, _, rfl, fun _ _ e => e⟩
        · intro D2 h2' tk2 ys2 n2 hD20 hD2 hA2 hk2
          (repeat' ((( (fail_if_success (with_reducible show wpAny _ _ (exec (Stmt.For _ _ _ _ _) _) _ _ _)); (fail_if_success (with_reducible show wpAny _ _ (exec (Stmt.While _ _ _ _) _) _ _ _)); (fail_if_success (with_reducible show wpAny _ _ (pyIter _) _ _ _)); (fail_if_success (with_reducible show wpAny _ _ (eval (Expr.ListComp _ _ _ _) _) _ _ _)); (fail_if_success (with_reducible show wpAny _ _ (eval (Expr.GeneratorExp _ _ _ _) _) _ _ _)); (fail_if_success (with_reducible show wpAny _ _ (exec (Stmt.Assign _ (Expr.ListComp _ _ _ _) _) _) _ _ _)); (fail_if_success (with_reducible show wpAny _ _ (PySem.call (Value.ref _) _ _) _ _ _)); (fail_if_success (with_reducible show wpAny _ _ (PySem.call (Value.builtin "list.append") _) _ _ _)); (fail_if_success (with_reducible show wpAny _ _ (PySem.call (Value.builtin "any") _) _ _ _)); (fail_if_success (with_reducible show wpAny _ _ (PySem.call (Value.type "zip") _) _ _ _)); (fail_if_success (with_reducible show wpAny _ _ (PySem.call (Value.builtin "all") _) _ _ _)); (fail_if_success (with_reducible show InvEndN _ _ _ _ _ _ _)))); first | (dsimp only; walk1) | walk1))
          refine join_chars (f := wch) (ns := a.2) (by exact ⟨_, hD2, rfl, _, rfl⟩) (All2.strsOf hA2) (by (first | lia | omega)) ?_
          intro t5 k5
          (repeat' ((( (fail_if_success (with_reducible show wpAny _ _ (exec (Stmt.For _ _ _ _ _) _) _ _ _)); (fail_if_success (with_reducible show wpAny _ _ (exec (Stmt.While _ _ _ _) _) _ _ _)); (fail_if_success (with_reducible show wpAny _ _ (pyIter _) _ _ _)); (fail_if_success (with_reducible show wpAny _ _ (eval (Expr.ListComp _ _ _ _) _) _ _ _)); (fail_if_success (with_reducible show wpAny _ _ (eval (Expr.GeneratorExp _ _ _ _) _) _ _ _)); (fail_if_success (with_reducible show wpAny _ _ (exec (Stmt.Assign _ (Expr.ListComp _ _ _ _) _) _) _ _ _)); (fail_if_success (with_reducible show wpAny _ _ (PySem.call (Value.ref _) _ _) _ _ _)); (fail_if_success (with_reducible show wpAny _ _ (PySem.call (Value.builtin "list.append") _) _ _ _)); (fail_if_success (with_reducible show wpAny _ _ (PySem.call (Value.builtin "any") _) _ _ _)); (fail_if_success (with_reducible show wpAny _ _ (PySem.call (Value.type "zip") _) _ _ _)); (fail_if_success (with_reducible show wpAny _ _ (PySem.call (Value.builtin "all") _) _ _ _)); (fail_if_success (with_reducible show InvEndN _ _ _ _ _ _ _)))); first | (dsimp only; walk1) | walk1))
          · exact Frag.In.keeps uX2 hk2
          have hX3 : (Mine.hd.heap_1 w.params).In h2' := Frag.In.keeps uX2 hk2
          have hT3 : TopRead p loose mg mb h2' := TopRead.keeps uT2 hk2
          refine chk_call (ps := a.2) (by exact ⟨hX3, hT3⟩) hh (by (first | lia | omega)) (fun d hd => Nat.lt_trans (hba d hd) (by decide)) (by (first | lia | omega)) ?_
          intro h9 tk9 t9 hk9
          exact ⟨⟨_, rfl⟩, _, _, rfl, fun b o e => hk9 b o (hk2 b o e)⟩
      · clear F N
        intro D' h'' tk' ys' n' hD0' hA F N hk'
        cases hA with
        | cons q0 hA =>
        cases hA with
        | cons q1 hA =>
        cases hA with
        | cons q2 hA =>
        cases hA with
        | cons q3 hA =>
        cases hA
        obtain ⟨t0, rfl⟩ := q0
        obtain ⟨t1, rfl⟩ := q1
        obtain ⟨t2, rfl⟩ := q2
        obtain ⟨t3, rfl⟩ := q3
        dsimp only at N
        (repeat' ((( (fail_if_success (with_reducible show wpAny _ _ (exec (Stmt.For _ _ _ _ _) _) _ _ _)); (fail_if_success (with_reducible show wpAny _ _ (exec (Stmt.While _ _ _ _) _) _ _ _)); (fail_if_success (with_reducible show wpAny _ _ (pyIter _) _ _ _)); (fail_if_success (with_reducible show wpAny _ _ (eval (Expr.ListComp _ _ _ _) _) _ _ _)); (fail_if_success (with_reducible show wpAny _ _ (eval (Expr.GeneratorExp _ _ _ _) _) _ _ _)); (fail_if_success (with_reducible show wpAny _ _ (exec (Stmt.Assign _ (Expr.ListComp _ _ _ _) _) _) _ _ _)); (fail_if_success (with_reducible show wpAny _ _ (PySem.call (Value.ref _) _ _) _ _ _)); (fail_if_success (with_reducible show wpAny _ _ (PySem.call (Value.builtin "list.append") _) _ _ _)); (fail_if_success (with_reducible show wpAny _ _ (PySem.call (Value.builtin "any") _) _ _ _)); (fail_if_success (with_reducible show wpAny _ _ (PySem.call (Value.type "zip") _) _ _ _)); (fail_if_success (with_reducible show wpAny _ _ (PySem.call (Value.builtin "all") _) _ _ _)); (fail_if_success (with_reducible show InvEndN _ _ _ _ _ _ _)))); first | (dsimp only; walk1) | walk1))
        (rename Fr _ _ _ _ => F)
        (rename News _ _ _ _ => N)
        refine sum_call (n := 8) (ds := [dsg R0, dsg R1, dsg R2]) (by exact Z.C.keeps F.keep) hh (by (first | lia | omega)) (by exact ⟨_, (N _ (.head _)).1, rfl, _, rfl⟩)
          (by simp only [List.map_cons, List.map_nil]; rw [← dtext_eq, ← dtext_eq, ← dtext_eq]; exact .cons _ _ (.cons _ _ (.cons _ _ .nil))) rfl ?_ (by decide) (by decide) ?_ ?_
        · intro d hd
          simp only [List.mem_cons, List.not_mem_nil, or_false] at hd
          rcases hd with rfl | rfl | rfl <;> exact dsg_len _
        · intro d hd
          simp only [List.mem_cons, List.not_mem_nil, or_false] at hd
          rcases hd with rfl | rfl | rfl <;> exact dsg_lt _
        · intro h9 tk9 t9 hk9
          have F1 := led_fr F hk9
          have N1 := led_keep N hk9
          clear F N
          (repeat' ((( (fail_if_success (with_reducible show wpAny _ _ (exec (Stmt.For _ _ _ _ _) _) _ _ _)); (fail_if_success (with_reducible show wpAny _ _ (exec (Stmt.While _ _ _ _) _) _ _ _)); (fail_if_success (with_reducible show wpAny _ _ (pyIter _) _ _ _)); (fail_if_success (with_reducible show wpAny _ _ (eval (Expr.ListComp _ _ _ _) _) _ _ _)); (fail_if_success (with_reducible show wpAny _ _ (eval (Expr.GeneratorExp _ _ _ _) _) _ _ _)); (fail_if_success (with_reducible show wpAny _ _ (exec (Stmt.Assign _ (Expr.ListComp _ _ _ _) _) _) _ _ _)); (fail_if_success (with_reducible show wpAny _ _ (PySem.call (Value.ref _) _ _) _ _ _)); (fail_if_success (with_reducible show wpAny _ _ (PySem.call (Value.builtin "list.append") _) _ _ _)); (fail_if_success (with_reducible show wpAny _ _ (PySem.call (Value.builtin "any") _) _ _ _)); (fail_if_success (with_reducible show wpAny _ _ (PySem.call (Value.type "zip") _) _ _ _)); (fail_if_success (with_reducible show wpAny _ _ (PySem.call (Value.builtin "all") _) _ _ _)); (fail_if_success (with_reducible show InvEndN _ _ _ _ _ _ _)))); first | (dsimp only; walk1) | walk1))
          rw [dtext_eq, dsg_xor b0 b1 b2 m0 m1 m2, beq_self_eq_true]
          exact hret _ #[] (fun b o hb e => F1.keep b o (hid_get e hb)) (by rw [Array.append_empty]; exact (N1 (59, _) (by k_mem)).1) hb rfl
end Mine

namespace Mine
theorem law_body {w : World} {A : Around} {s : Shared} {p : Program} {loose : List Str} {mg mb m : Str → Option Value} {ps : Array Value} {Q : Flow → Shared → Prop} {g : Heap} {L f : Addr} {cd : Value}
    (Z : Cz w p loose mg mb ps g) (X : (Mine.hd.heap_1 w.params).In (hid g)) (T : TopRead p loose mg mb (hid g)) (hL : L ≠ 59) (hb : AllBare s.gens) (hh : A.handled = none) (hd : A.depth + 60 < recursionLimit) (hu : A.units + 200 < cLine)
    {l : Addr} {vs : List Value} {ns : List Int} (hl : (hid g).IsList l vs.toArray) (hi : IntsAre vs ns) (hn : ns.length ≤ 63)
    {o1 o2 o3 o4 : Obj} (h1 : o1.data = .cell (some (.ref l))) (h2 : o2.data = .cell none) (h3 : o3.data = .cell none) (h4 : o4.data = .cell none)
    (F : Fr (hid g) L s.heap m) (N : News (hid g) L s.heap [(L + 1 + 1 + 1 + 1, o4), (L + 1 + 1 + 1, o3), (L + 1 + 1, o2), (L + 1, o1), (59, tabO ps)])
    (hret : LEnd g ps s.os Q) :
   wpAny (model PySem.Challenge.rw_ai0020_01.row.prog w) A (execs lawBody (lawEnv L f cd)) Q (fun _ _ => False) s := by
  change wpAny _ _ (execs (_ :: _) (envOfC _ ⟨_, _, _, _, _⟩ _ _ _)) _ _ _
  have Z0 := Z
  have hl0 := hl
  have hn0 := hn
  (repeat' ((( (fail_if_success (with_reducible show wpAny _ _ (exec (Stmt.For _ _ _ _ _) _) _ _ _)); (fail_if_success (with_reducible show wpAny _ _ (exec (Stmt.While _ _ _ _) _) _ _ _)); (fail_if_success (with_reducible show wpAny _ _ (pyIter _) _ _ _)); (fail_if_success (with_reducible show wpAny _ _ (eval (Expr.ListComp _ _ _ _) _) _ _ _)); (fail_if_success (with_reducible show wpAny _ _ (eval (Expr.GeneratorExp _ _ _ _) _) _ _ _)); (fail_if_success (with_reducible show wpAny _ _ (exec (Stmt.Assign _ (Expr.ListComp _ _ _ _) _) _) _ _ _)); (fail_if_success (with_reducible show wpAny _ _ (PySem.call (Value.ref _) _ _) _ _ _)); (fail_if_success (with_reducible show wpAny _ _ (PySem.call (Value.builtin "list.append") _) _ _ _)); (fail_if_success (with_reducible show wpAny _ _ (PySem.call (Value.builtin "any") _) _ _ _)); (fail_if_success (with_reducible show wpAny _ _ (PySem.call (Value.type "zip") _) _ _ _)); (fail_if_success (with_reducible show wpAny _ _ (PySem.call (Value.builtin "all") _) _ _ _)); (fail_if_success (with_reducible show InvEndN _ _ _ _ _ _ _)))); first | (dsimp only; walk1) | walk1))
  (( (rename Fr _ _ _ _ => F9); (rename News _ _ _ _ => N9); (rename Mine.Cz _ _ _ _ _ _ _ => Z9); (rename Heap.IsList _ _ _ => hl9); (rename _ ≤ 63 => hn9); (refine Mine.num_callI (by exact Z9.C.keeps F9.keep) (by assumption) (by (first | lia | omega)) (by exact hl9.at fun o e => F9.keep _ o e) (by assumption) (by (first | lia | omega)) (by (first | lia | omega)) (by (first | lia | omega)) ?_); (intro h9 tk9 t9 hk9); (have F1 := Mine.led_fr F9 hk9); (have N1 := Mine.led_keep N9 hk9); clear F9 N9; dsimp only))
  (repeat' ((( (fail_if_success (with_reducible show wpAny _ _ (exec (Stmt.For _ _ _ _ _) _) _ _ _)); (fail_if_success (with_reducible show wpAny _ _ (exec (Stmt.While _ _ _ _) _) _ _ _)); (fail_if_success (with_reducible show wpAny _ _ (pyIter _) _ _ _)); (fail_if_success (with_reducible show wpAny _ _ (eval (Expr.ListComp _ _ _ _) _) _ _ _)); (fail_if_success (with_reducible show wpAny _ _ (eval (Expr.GeneratorExp _ _ _ _) _) _ _ _)); (fail_if_success (with_reducible show wpAny _ _ (exec (Stmt.Assign _ (Expr.ListComp _ _ _ _) _) _) _ _ _)); (fail_if_success (with_reducible show wpAny _ _ (PySem.call (Value.ref _) _ _) _ _ _)); (fail_if_success (with_reducible show wpAny _ _ (PySem.call (Value.builtin "list.append") _) _ _ _)); (fail_if_success (with_reducible show wpAny _ _ (PySem.call (Value.builtin "any") _) _ _ _)); (fail_if_success (with_reducible show wpAny _ _ (PySem.call (Value.type "zip") _) _ _ _)); (fail_if_success (with_reducible show wpAny _ _ (PySem.call (Value.builtin "all") _) _ _ _)); (fail_if_success (with_reducible show InvEndN _ _ _ _ _ _ _)))); first | (dsimp only; walk1) | walk1))
  (( (rename Fr _ _ _ _ => F9); (rename News _ _ _ _ => N9); (rename Mine.Cz _ _ _ _ _ _ _ => Z9); (rename Heap.IsList _ _ _ => hl9); (rename _ ≤ 63 => hn9); (refine Mine.num_callI (by exact Z9.C.keeps F9.keep) (by assumption) (by (first | lia | omega)) (by exact hl9.at fun o e => F9.keep _ o e) (by assumption) (by (first | lia | omega)) (by (first | lia | omega)) (by (first | lia | omega)) ?_); (intro h9 tk9 t9 hk9); (have F1 := Mine.led_fr F9 hk9); (have N1 := Mine.led_keep N9 hk9); clear F9 N9; dsimp only))
  have hk0 := Int.fmod_nonneg_of_pos (num ns (Int.toNat 0)) (show (0 : Int) < 4 by decide)
  (repeat' ((( (fail_if_success (with_reducible show wpAny _ _ (execs (Stmt.Assign _ (Expr.Subscript (Expr.List _ _) _ _) _ :: _) _) _ _ _)); (fail_if_success (with_reducible show wpAny _ _ (execs (Stmt.Assign _ (Expr.ListComp _ _ _ _) _ :: _) _) _ _ _)); ((( (fail_if_success (with_reducible show wpAny _ _ (exec (Stmt.For _ _ _ _ _) _) _ _ _)); (fail_if_success (with_reducible show wpAny _ _ (exec (Stmt.While _ _ _ _) _) _ _ _)); (fail_if_success (with_reducible show wpAny _ _ (pyIter _) _ _ _)); (fail_if_success (with_reducible show wpAny _ _ (eval (Expr.ListComp _ _ _ _) _) _ _ _)); (fail_if_success (with_reducible show wpAny _ _ (eval (Expr.GeneratorExp _ _ _ _) _) _ _ _)); (fail_if_success (with_reducible show wpAny _ _ (exec (Stmt.Assign _ (Expr.ListComp _ _ _ _) _) _) _ _ _)); (fail_if_success (with_reducible show wpAny _ _ (PySem.call (Value.ref _) _ _) _ _ _)); (fail_if_success (with_reducible show wpAny _ _ (PySem.call (Value.builtin "list.append") _) _ _ _)); (fail_if_success (with_reducible show wpAny _ _ (PySem.call (Value.builtin "any") _) _ _ _)); (fail_if_success (with_reducible show wpAny _ _ (PySem.call (Value.type "zip") _) _ _ _)); (fail_if_success (with_reducible show wpAny _ _ (PySem.call (Value.builtin "all") _) _ _ _)); (fail_if_success (with_reducible show InvEndN _ _ _ _ _ _ _))))))); first | (dsimp only; walk1) | walk1))
  · (rename Fr _ _ _ _ => F)
    (rename News _ _ _ _ => N)
    show wpAny _ _ (execs arm01 (lawEnv L f cd)) _ _ _
    exact arm01_walk Z Z.C.K Z.C.T hL (by exact hb) hh hd hu hl hi hn hk0 h1 h2 h3 h4 (by exact F) (by exact N) (List.forall_mem_cons.mpr ⟨rfl, List.forall_mem_cons.mpr ⟨rfl, List.forall_mem_nil _⟩⟩) (fun s' more a b c d => hret s' more a b c d)
  · (( (rename Fr _ _ _ _ => F9); (rename News _ _ _ _ => N9); (rename Mine.Cz _ _ _ _ _ _ _ => Z9); (rename Heap.IsList _ _ _ => hl9); (rename _ ≤ 63 => hn9); (refine Mine.num_callI (by exact Z9.C.keeps F9.keep) (by assumption) (by (first | lia | omega)) (by exact hl9.at fun o e => F9.keep _ o e) (by assumption) (by (first | lia | omega)) (by (first | lia | omega)) (by (first | lia | omega)) ?_); (intro h9 tk9 t9 hk9); (have F1 := Mine.led_fr F9 hk9); (have N1 := Mine.led_keep N9 hk9); clear F9 N9; dsimp only))
    have hf1 := Int.fmod_nonneg_of_pos (num ns (Int.toNat 1)) (show (0 : Int) < 20 by decide)
    have hf2 := Int.fmod_lt_of_pos (num ns (Int.toNat 1)) (show (0 : Int) < 20 by decide)
    (repeat' ((( (fail_if_success (with_reducible show wpAny _ _ (execs (Stmt.Assign _ (Expr.Subscript (Expr.List _ _) _ _) _ :: _) _) _ _ _)); (fail_if_success (with_reducible show wpAny _ _ (execs (Stmt.Assign _ (Expr.ListComp _ _ _ _) _ :: _) _) _ _ _)); ((( (fail_if_success (with_reducible show wpAny _ _ (exec (Stmt.For _ _ _ _ _) _) _ _ _)); (fail_if_success (with_reducible show wpAny _ _ (exec (Stmt.While _ _ _ _) _) _ _ _)); (fail_if_success (with_reducible show wpAny _ _ (pyIter _) _ _ _)); (fail_if_success (with_reducible show wpAny _ _ (eval (Expr.ListComp _ _ _ _) _) _ _ _)); (fail_if_success (with_reducible show wpAny _ _ (eval (Expr.GeneratorExp _ _ _ _) _) _ _ _)); (fail_if_success (with_reducible show wpAny _ _ (exec (Stmt.Assign _ (Expr.ListComp _ _ _ _) _) _) _ _ _)); (fail_if_success (with_reducible show wpAny _ _ (PySem.call (Value.ref _) _ _) _ _ _)); (fail_if_success (with_reducible show wpAny _ _ (PySem.call (Value.builtin "list.append") _) _ _ _)); (fail_if_success (with_reducible show wpAny _ _ (PySem.call (Value.builtin "any") _) _ _ _)); (fail_if_success (with_reducible show wpAny _ _ (PySem.call (Value.type "zip") _) _ _ _)); (fail_if_success (with_reducible show wpAny _ _ (PySem.call (Value.builtin "all") _) _ _ _)); (fail_if_success (with_reducible show InvEndN _ _ _ _ _ _ _))))))); first | (dsimp only; walk1) | walk1))
    · (rename Fr _ _ _ _ => F)
      (rename News _ _ _ _ => N)
      (rename (Obj.data _ = Data.cell (some (Value.int (1 + _) _))) => hd')
      obtain ⟨sz, hsz⟩ : ∃ sz : Nat, 1 + (num ns (Int.toNat 1)).fmod 20 = (sz : Int) := ⟨(1 + (num ns (Int.toNat 1)).fmod 20).toNat, by (first | lia | omega)⟩
      rw [hsz] at hd'
      show wpAny _ _ (execs arm2 (lawEnv L f cd)) _ _ _
      exact arm2_walk Z Z.C.K Z.C.T hL (by exact hb) hh hd hu hl hi hn (by (first | lia | omega)) (by (first | lia | omega)) h1 hd' h3 h4 (by exact F) (News.sub N (List.forall_mem_cons.mpr ⟨by k_mem, List.forall_mem_cons.mpr ⟨by k_mem, List.forall_mem_cons.mpr ⟨by k_mem, List.forall_mem_cons.mpr ⟨by k_mem, List.forall_mem_cons.mpr ⟨by k_mem, List.forall_mem_nil _⟩⟩⟩⟩⟩))
        (List.forall_mem_cons.mpr ⟨rfl, List.forall_mem_nil _⟩) (fun s' more a b c d => hret s' more a b c d)
    · (rename Fr _ _ _ _ => F)
      (rename News _ _ _ _ => N)
      (rename (Obj.data _ = Data.cell (some (Value.int (1 + _) _))) => hd')
      obtain ⟨sz, hsz⟩ : ∃ sz : Nat, 1 + (num ns (Int.toNat 1)).fmod 20 = (sz : Int) := ⟨(1 + (num ns (Int.toNat 1)).fmod 20).toNat, by (first | lia | omega)⟩
      rw [hsz] at hd'
      show wpAny _ _ (execs (lawBody.drop 5) (lawEnv L f cd)) _ _ _
      exact k3_walk Z Z.C.K Z.C.T hL (by exact hb) hh hd hu hl hi hn (by (first | lia | omega)) (by (first | lia | omega)) h1 hd' (by exact F) (News.sub N (List.forall_mem_cons.mpr ⟨by k_mem, List.forall_mem_cons.mpr ⟨by k_mem, List.forall_mem_cons.mpr ⟨by k_mem, List.forall_mem_nil _⟩⟩⟩)) hret
end Mine

namespace Mine
theorem ns_hid {h : Heap} {a : Addr} {m : Str → Option Value} (n : h.Ns a m) (ha : a ≠ 59) : (hid h).Ns a m := n.at' fun _ e => hid_get e ha
theorem cz_start {w : World} {loose : List Str} {mean : ExcName → Option Value} {mg mb : Str → Option Value} {h : Heap} (X : (Mine.hd.heap_1 w.params).In h) (T : Top Mine.hd.view_1 loose mean mg mb h) :
    Cz w Mine.hd.view_1 loose mg mb #[] h := by
  have hm : mg (Str.ofString "bech32_decode") = some (.ref 62) := mg_of X T.g (by with_unfolding_all rfl)
  have ho := X 62 _ rfl
  obtain ⟨c, P, hc, B⟩ := based_of_top T (name := Str.ofString "bech32_decode") rfl hm ho rfl
  cases hc
  obtain ⟨⟨o, vs, e, hcl, hd, h11⟩, tab⟩ := B.tab
  have ho61 := X 61 _ rfl
  have e1 := Option.some.inj (ho61.symm.trans e)
  subst e1
  cases hd
  cases h11
  have hK : (Mine.hd.heap_1 w.params).In (hid h) := fun a o e => hid_get (X a o e) (fun q => by
    rw [q] at e
    have e2 : (Mine.hd.heap_1 w.params).lookup 59 = none := rfl
    exact absurd (e2.symm.trans e) (by simp))
  obtain ⟨mc, hn, hlim⟩ := T.nolimit
  obtain ⟨bm, ob, M⟩ := bmod_of_top T
  refine ⟨⟨hK, ⟨ns_hid T.g (by decide), ns_hid T.b (by decide), ⟨mc, ns_hid hn (by decide), hlim⟩, T.builtins, T.free⟩⟩, ⟨bm, ob, ns_hid M.ns (by decide), M.name, M.ne, hid_get M.obj (fun q => ?_), M.cls, M.dict, M.data⟩, ?_, tab, trivial⟩
  · have e1 := M.obj
    rw [q, tab] at e1
    have e2 := M.cls
    cases e1
    cases e2
  · exact ⟨_, _, _, _, _, _, _, _, _, hK 61 _ rfl, rfl, rfl, rfl, rfl, rfl, rfl, rfl⟩
end Mine

namespace Mine
theorem fin_holds : PySem.Challenge.rw_ai0020_01.Holds := holds_law law_said fun _ => Mine.hd (by
  lgec_go0
  (rename Frag.In _ _ => KX)
  (rename Top _ _ _ _ _ _ => T)
  (rename Fr _ _ _ _ => F)
  (rename News _ _ _ _ => N)
  (rename Heap.IsList _ _ _ => hl)
  (rename IntsAre _ _ => hi)
  (rename (¬ (_ : Int) < _) => hlen)
  (rename (Obj.data _ = Data.cell _) => h1); revert h1
  (rename (Obj.data _ = Data.cell _) => h2); revert h2
  (rename (Obj.data _ = Data.cell _) => h3); revert h3
  (rename (Obj.data _ = Data.cell _) => h4)
  intro h3 h2 h1
  have Z := cz_start KX T
  have hL : _ ≠ (59 : Addr) := Nat.ne_of_gt (Heap.lt_size Z.tab)
  refine wpAny_mono (E := fun _ _ => False) (law_body Z Z.C.K Z.C.T hL ?_ rfl ?_ ?_ ?_ hi ?_ (by exact h1) (by exact h2) (by exact h3) (by exact h4) (by exact fr_hid F) (by exact news_hid F N Z.tab) ?_) (fun _ _ q => q) (fun _ _ x => x.elim)
  · (rename (Shared.gens _ = #[]) => hg)
    exact AllBare.of_eq hg
  · rw [depth_deeper, depth_caller]; decide
  · rw [units_deeper, units_caller, cLine_is]; decide
  · refine hl.at fun o e => hid_get e (fun q => ?_)
    obtain ⟨o', e', hc, _⟩ := hl
    rw [q, Z.tab] at e'
    cases e'
    cases hc
  · (first | lia | omega)
  · intro s' more k tab G hos
    have ht := (Z.code.keeps (fun _ _ e => hid_of e)).tableAt Z.tab
    have ht' := (Z.code.keeps (fun b o e => k b o (hid_ne e) (hid_of e))).tableAt tab
    have hold := (OldK.refl _).step_table ht ht ht' k (by decide)
    exact ⟨.inl ⟨.bool true, .bool true, [], rfl, fun cls => by rfl, .bool _, postW_of (by rfl) (w_eq_bool (w_res rfl) w_lit) (by rfl), fun _ => ⟨List.nodup_nil, fun a ha => nomatch ha⟩⟩, hold, hos, G⟩)
end Mine

theorem PySem.Challenge.cw_ai0020_01_holds : PySem.Challenge.rw_ai0020_01.Holds := by
  exact Mine.fin_holds
