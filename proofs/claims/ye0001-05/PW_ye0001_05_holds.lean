import PyProof.Rows.All
import Wide.All
import OpenK.AllK
import Wide.FinOn
import Lean
import PySem.Challenge.RW_ye0001_05
open PySem PySem.W PySem.Spec PySem.Calls PyProof.Rows
set_option Elab.async false
set_option maxRecDepth 100000
set_option maxHeartbeats 8000000
set_option compiler.extract_closed false
set_option compiler.reuse false
namespace Mine
/-! small rules in omega's stead: their proofs are short -/
theorem tn0 {n : Nat} : (((n : Int) - 0).toNat : Int) = (n : Int) := by rw [Int.sub_zero]; rfl
theorem tn0_len {l n : Nat} (h : l = n) : (((l : Int) - 0).toNat : Int) = (n : Int) := h ▸ tn0
theorem tn_nat {a : Int} {b : Nat} (h : a = (b : Int)) : a.toNat = b := h ▸ rfl
theorem tn_cast {a : Int} {b : Nat} (h : a = (b : Int)) : (a.toNat : Int) = (b : Int) := by rw [tn_nat h]
theorem sub_z {n i : Nat} (h : i ≤ n) : (n : Int) - (i : Int) = ((n - i : Nat) : Int) := (Int.ofNat_sub h).symm
theorem tn_sub {n i : Nat} (h : i < n) : (((n : Int) - (0 + (i : Int)) - 0).toNat : Int) = ((n - i : Nat) : Int) := by rw [Int.sub_zero, Int.zero_add]; exact tn_cast (sub_z (Nat.le_of_lt h))
theorem tn_pred {n : Nat} (h : 1 ≤ n) : (((n : Int) - 1).toNat : Int) = ((n - 1 : Nat) : Int) := tn_cast (sub_z h)
theorem sub_sub {n j : Int} : n - (n - j) = j := by rw [Int.sub_sub_self]
theorem tn_back {n j : Nat} : (((n : Int) - ((n : Int) - (1 + (j : Int)))).toNat : Int) = ((1 + j : Nat) : Int) := tn_cast (by rw [sub_sub]; rfl)
theorem te2 {i : Nat} : (0 + (i : Int)).toNat = i := tn_nat (Int.zero_add _)
theorem te1 {i j : Nat} : (0 + (i : Int) + (0 + (j : Int))).toNat = i + j := tn_nat (by rw [Int.zero_add, Int.zero_add]; rfl)
theorem te6 {j : Nat} : (1 + (j : Int)).toNat = 1 + j := rfl
theorem ie4 (n i j : Nat) : (n : Int) - (1 + (j : Int)) + (i : Int) + (1 + (j : Int)) - (n : Int) = (i : Int) := by omega
theorem te4 {n i j : Nat} : ((n : Int) - (1 + (j : Int)) + (i : Int) + (1 + (j : Int)) - (n : Int)).toNat = i := tn_nat (ie4 n i j)
theorem ie5 {n i j : Nat} (h : j < n - 1) : (n : Int) - (1 + (j : Int)) + (i : Int) = ((n - (1 + j) + i : Nat) : Int) := by omega
theorem te5 {n i j : Nat} (h : j < n - 1) : ((n : Int) - (1 + (j : Int)) + (i : Int)).toNat = n - (1 + j) + i := tn_nat (ie5 h)
theorem pc3 {n : Nat} (h : 1 ≤ n) : 3 * (n : Int) - 2 = ((3 * n - 2 : Nat) : Int) := by omega
theorem pc2 {n : Nat} (h : 1 ≤ n) : 2 * (n : Int) - 1 = ((2 * n - 1 : Nat) : Int) := by omega
theorem pc1 {n : Nat} (h : 1 ≤ n) : (n : Int) - 1 = ((n - 1 : Nat) : Int) := sub_z h
-- rooms
theorem room0 {a c L : Nat} (h : a + c < L) : a < L := Nat.lt_of_le_of_lt (Nat.le_add_right a c) h
theorem room1 {a c x L : Nat} (h : a + c < L) (e : Nat.ble x c = true) : a + x < L := Nat.lt_of_le_of_lt (Nat.add_le_add_left (Nat.le_of_ble_eq_true e) a) h
theorem room2 {a c x y L : Nat} (h : a + c < L) (e : Nat.ble (x + y) c = true) : a + x + y < L := by rw [Nat.add_assoc]; exact room1 h e
theorem room3 {a c x y z L : Nat} (h : a + c < L) (e : Nat.ble (x + y + z) c = true) : a + x + y + z < L := by rw [Nat.add_assoc, Nat.add_assoc, ← Nat.add_assoc x]; exact room1 h e
theorem room4 {a b c x y L : Nat} (k : b ≤ a + x) (h : a + c < L) (e : Nat.ble (x + y) c = true) : b + y < L := Nat.lt_of_le_of_lt (Nat.add_le_add_right k y) (room2 h e)
theorem room5 {a b c x y z L : Nat} (k : b ≤ a + x + y) (h : a + c < L) (e : Nat.ble (x + y + z) c = true) : b + z < L := Nat.lt_of_le_of_lt (Nat.add_le_add_right k z) (room3 h e)
theorem addl {a x y : Nat} (e : Nat.ble x y = true) : a + x ≤ a + y := Nat.add_le_add_left (Nat.le_of_ble_eq_true e) a
-- bounds
theorem le_of {n k K : Nat} (h : n ≤ k) (e : Nat.ble k K = true) : n ≤ K := Nat.le_trans h (Nat.le_of_ble_eq_true e)
theorem le_of_lt {i n k K : Nat} (h : i < n) (h' : n ≤ k) (e : Nat.ble k K = true) : i ≤ K := Nat.le_trans (Nat.le_of_lt h) (le_of h' e)
theorem le_of_len {l n k K : Nat} (h : l = n) (h' : n ≤ k) (e : Nat.ble k K = true) : l ≤ K := h ▸ le_of h' e
theorem le_of_len_lt {l i n k K : Nat} (h : l = i) (h1 : i < n) (h' : n ≤ k) (e : Nat.ble k K = true) : l ≤ K := h ▸ le_of_lt h1 h' e
theorem le_sub {n x k K : Nat} (h : n ≤ k) (e : Nat.ble k K = true) : n - x ≤ K := Nat.le_trans (Nat.sub_le n x) (le_of h e)
theorem le_sub2 {n x y k K : Nat} (h : n ≤ k) (e : Nat.ble k K = true) : n - x - y ≤ K := Nat.le_trans (Nat.sub_le _ y) (le_sub h e)
theorem le_pred {i n : Nat} (h : i < n) : i ≤ n - 1 := Nat.le_sub_one_of_lt h
theorem ge_len {l n k : Nat} (e : l = n) (h : k ≤ n) : k ≤ l := e ▸ h
theorem il_of {n k : Nat} {K : Int} (h : n ≤ k) (e : (k : Int) < K) : (n : Int) < K := Int.lt_of_le_of_lt (Int.ofNat_le.mpr h) e
theorem ile_of {n k : Nat} {K : Int} (h : n ≤ k) (e : (k : Int) ≤ K) : (n : Int) ≤ K := Int.le_trans (Int.ofNat_le.mpr h) e
theorem il_of_len {l n k : Nat} {K : Int} (hl : l = n) (h : n ≤ k) (e : (k : Int) < K) : (l : Int) < K := hl ▸ il_of h e
theorem il_of_lt {i n k : Nat} {K : Int} (hi : i < n) (h : n ≤ k) (e : (k : Int) < K) : (i : Int) < K := il_of (Nat.le_trans (Nat.le_of_lt hi) h) e
theorem il0_of_lt {i n k : Nat} {K : Int} (hi : i < n) (h : n ≤ k) (e : (k : Int) < K) : 0 + (i : Int) < K := by rw [Int.zero_add]; exact il_of_lt hi h e
theorem ig_of {n : Nat} {K : Int} (e : K ≤ 0) : K ≤ (n : Int) := Int.le_trans e (Int.natCast_nonneg n)
theorem ig0_of {n : Nat} {K : Int} (e : K ≤ 0) : K ≤ 0 + (n : Int) := by rw [Int.zero_add]; exact ig_of e
theorem ig0_lt {n : Nat} {K : Int} (e : K < 0) : K < 0 + (n : Int) := by rw [Int.zero_add]; exact Int.lt_of_lt_of_le e (Int.natCast_nonneg n)
theorem il_len {i n l : Nat} (h : i < n) (e : l = n) : (i : Int) < (l : Int) := e ▸ Int.ofNat_lt.mpr h
theorem il0_len {i n l : Nat} (h : i < n) (e : l = n) : 0 + (i : Int) < (l : Int) := by rw [Int.zero_add]; exact il_len h e
-- places: i + j, and n - (1 + j) + i
theorem ix_is (i j : Nat) : 0 + (i : Int) + (0 + (j : Int)) = ((i + j : Nat) : Int) := by rw [Int.zero_add, Int.zero_add]; rfl
theorem ix_lt {n i j : Nat} (hj : j < n - i) : i + j < n := by omega
theorem ix0 {i j : Nat} : 0 ≤ 0 + (i : Int) + (0 + (j : Int)) := by rw [ix_is]; exact Int.natCast_nonneg _
theorem ix1 {l n i j : Nat} (hj : j < n - i) (e : l = n) : 0 + (i : Int) + (0 + (j : Int)) < (l : Int) := by rw [ix_is]; exact il_len (ix_lt hj) e
theorem ix2 {n i j k : Nat} {K : Int} (hj : j < n - i) (h : n ≤ k) (e : (k : Int) < K) : 0 + (i : Int) + (0 + (j : Int)) < K := by rw [ix_is]; exact il_of_lt (ix_lt hj) h e
theorem iy_lt {n i j : Nat} (hi : i < 1 + j) (hj : j < n - 1) : n - (1 + j) + i < n := by omega
theorem iy0 {n i j : Nat} (hj : j < n - 1) : 0 ≤ (n : Int) - (1 + (j : Int)) + (i : Int) := by rw [ie5 hj]; exact Int.natCast_nonneg _
theorem iy1 {l n i j : Nat} (hj : j < n - 1) (hi : i < 1 + j) (e : l = n) : (n : Int) - (1 + (j : Int)) + (i : Int) < (l : Int) := by rw [ie5 hj]; exact il_len (iy_lt hi hj) e
theorem iy2 {n i j k : Nat} {K : Int} (hj : j < n - 1) (hi : i < 1 + j) (h : n ≤ k) (e : (k : Int) < K) : (n : Int) - (1 + (j : Int)) + (i : Int) < K := by rw [ie5 hj]; exact il_of_lt (iy_lt hi hj) h e
theorem iz_lt {n i j : Nat} (hi : i < 1 + j) (hj : j < n - 1) : i < n := by omega
theorem iz0 {n i j : Nat} : 0 ≤ (n : Int) - (1 + (j : Int)) + (i : Int) + (1 + (j : Int)) - (n : Int) := by rw [ie4]; exact Int.natCast_nonneg _
theorem iz1 {l n i j : Nat} (hi : i < 1 + j) (hj : j < n - 1) (e : l = n) : (n : Int) - (1 + (j : Int)) + (i : Int) + (1 + (j : Int)) - (n : Int) < (l : Int) := by rw [ie4]; exact il_len (iz_lt hi hj) e
theorem iz2 {n i j k : Nat} {K : Int} (hi : i < 1 + j) (hj : j < n - 1) (h : n ≤ k) (e : (k : Int) < K) : (n : Int) - (1 + (j : Int)) + (i : Int) + (1 + (j : Int)) - (n : Int) < K := by rw [ie4]; exact il_of_lt (iz_lt hi hj) h e
theorem ib1 {n i : Nat} {K : Int} (h : i < n) (e : K ≤ 0) : K ≤ (n : Int) - (0 + (i : Int)) := by rw [Int.zero_add, sub_z (Nat.le_of_lt h)]; exact ig_of e
theorem ib2 {n i k : Nat} {K : Int} (h : i < n) (h' : n ≤ k) (e : (k : Int) < K) : (n : Int) - (0 + (i : Int)) < K := by rw [Int.zero_add, sub_z (Nat.le_of_lt h)]; exact il_of (Nat.le_trans (Nat.sub_le _ _) h') e
theorem ib_z {n j : Nat} (h : j < n - 1) : (n : Int) - (1 + (j : Int)) = ((n - (1 + j) : Nat) : Int) := by omega
theorem ib3 {n j : Nat} {K : Int} (h : j < n - 1) (e : K ≤ 0) : K ≤ (n : Int) - (1 + (j : Int)) := by rw [ib_z h]; exact ig_of e
theorem ib4 {n j k : Nat} {K : Int} (h : j < n - 1) (h' : n ≤ k) (e : (k : Int) < K) : (n : Int) - (1 + (j : Int)) < K := by rw [ib_z h]; exact il_of (Nat.le_trans (Nat.sub_le _ _) h') e
-- lengths
theorem lt_len {i m l : Nat} (h : i < m) (e : l = m) : i < l := e ▸ h
theorem lt_len2 {i m l l' : Nat} (h : i < l') (e : l' = m) (e' : l = m) : i < l := e' ▸ e ▸ h
theorem of_lt_len {i m l : Nat} (h : i < l) (e : l = m) : i < m := e ▸ h
theorem lt_lt_len {i m l x : Nat} (h : x = i) (h' : i < m) (e : l = m) : x < l := e ▸ h ▸ h'
-- measures
theorem eq_of_not_lt {i n : Nat} (h : i ≤ n) (k : ¬i < n) : i = n := Nat.le_antisymm h (Nat.not_lt.mp k)
theorem ms2 {n i k : Nat} (h : n - i = k + 1) : i < n := Nat.lt_of_sub_ne_zero (by rw [h]; exact Nat.succ_ne_zero k)
theorem ms1 {n i k : Nat} (h : n - i = k + 1) : n - (i + 1) = k := by rw [← Nat.sub_sub, h]; rfl
theorem ms5 {n i k : Nat} (h : n - i = k + 1) : k = n - (i + 1) := (ms1 h).symm
theorem ms3 {n i : Nat} (h : n - i = 0) (k : i ≤ n) : i = n := Nat.le_antisymm k (Nat.sub_eq_zero_iff_le.mp h)
theorem ms4 {n i : Nat} (h : i < n) : n - i = n - i - 1 + 1 := (Nat.succ_pred_eq_of_pos (Nat.sub_pos_of_lt h)).symm
theorem ms6 {n i k : Nat} (h : n - i = k + 1) : n - 1 - k = i := by omega
theorem ms7 {n i k : Nat} (h : n - i = k + 1) : n - 1 - (k + 1 - 1) = i := ms6 h
theorem ms8 {i : Nat} (h : 0 < i) : i = i - 1 + 1 := (Nat.succ_pred_eq_of_pos h).symm
theorem meas {i n : Nat} (h : i < n) : n + 1 - (i + 1) < n + 1 - i := by omega
-- places of a frame's objects
theorem d1 {L : Nat} : L ≠ L + 1 := Nat.ne_of_lt (Nat.lt_succ_self L)
theorem d2 {L : Nat} : L ≠ L + 1 + 1 := Nat.ne_of_lt (Nat.lt_add_of_pos_right (n := L) (k := 2) (Nat.succ_pos 1))
theorem d3 {L : Nat} : L ≠ L + 1 + 1 + 1 := Nat.ne_of_lt (Nat.lt_add_of_pos_right (n := L) (k := 3) (Nat.succ_pos 2))
theorem d4 {L : Nat} : L ≠ L + 1 + 1 + 1 + 1 := Nat.ne_of_lt (Nat.lt_add_of_pos_right (n := L) (k := 4) (Nat.succ_pos 3))
theorem e1 {L : Nat} : L + 1 ≠ L := d1.symm
theorem e2 {L : Nat} : L + 1 + 1 ≠ L := d2.symm
theorem e3 {L : Nat} : L + 1 + 1 + 1 ≠ L := d3.symm
theorem e4 {L : Nat} : L + 1 + 1 + 1 + 1 ≠ L := d4.symm
theorem p0 {a L : Nat} (h : a < L) : a ≠ L := Nat.ne_of_lt h
theorem p1 {a L : Nat} (h : a < L) : a ≠ L + 1 := p0 (Nat.lt_succ_of_lt h)
theorem p2 {a L : Nat} (h : a < L) : a ≠ L + 1 + 1 := p1 (Nat.lt_succ_of_lt h)
theorem p3 {a L : Nat} (h : a < L) : a ≠ L + 1 + 1 + 1 := p2 (Nat.lt_succ_of_lt h)
theorem p4 {a L : Nat} (h : a < L) : a ≠ L + 1 + 1 + 1 + 1 := p3 (Nat.lt_succ_of_lt h)
theorem q0 {a L : Nat} (h : a < L) : L ≠ a := (p0 h).symm
theorem q1 {a L : Nat} (h : a < L) : L + 1 ≠ a := (p1 h).symm
theorem q2 {a L : Nat} (h : a < L) : L + 1 + 1 ≠ a := (p2 h).symm
theorem q3 {a L : Nat} (h : a < L) : L + 1 + 1 + 1 ≠ a := (p3 h).symm
theorem q4 {a L : Nat} (h : a < L) : L + 1 + 1 + 1 + 1 ≠ a := (p4 h).symm
theorem fb_le {b L nc : Nat} (h : ¬(b < L ∨ L + nc < b)) : L ≤ b ∧ b ≤ L + nc := ⟨Nat.not_lt.mp fun k => h (.inl k), Nat.not_lt.mp fun k => h (.inr k)⟩
theorem fb_lt {b L nc : Nat} (h : ¬(b < L ∨ L + nc < b)) (k : ¬b = L) : L + 1 ≤ b := Nat.lt_of_le_of_ne (fb_le h).1 (Ne.symm k)
theorem fb2 {b L nc : Nat} (h : ¬(b < L ∨ L + nc < b)) (k : ¬b = L) : L + 1 + (b - (L + 1)) = b := Nat.add_sub_of_le (fb_lt h k)
theorem fb1 {b L nc : Nat} (h : ¬(b < L ∨ L + nc < b)) (k : ¬b = L) : b - (L + 1) < nc := by
  have := fb2 h k; have := (fb_le h).2; omega
theorem or3 {n : Nat} (h : 1 ≤ n) (k : n ≤ 3) : n = 1 ∨ n = 2 ∨ n = 3 := by omega
theorem or2t {t : Nat} : t < 2 → t = 0 ∨ t = 1 := by revert t; decide
theorem or3t {t : Nat} : t < 3 → t = 0 ∨ t = 1 ∨ t = 2 := by revert t; decide
theorem or7t {t : Nat} : t < 7 → t = 0 ∨ t = 1 ∨ t = 2 ∨ t = 3 ∨ t = 4 ∨ t = 5 ∨ t = 6 := by revert t; decide
theorem ass {a b c : Nat} : a + (b + c) = a + b + c := (Nat.add_assoc a b c).symm
-- a list within a list
theorem sl_refl {α : Type} {l : List α} : ∀ p ∈ l, p ∈ l := fun _ h => h
theorem sl_nil {α : Type} {l : List α} : ∀ p ∈ ([] : List α), p ∈ l := fun _ h => nomatch h
theorem sl_keep {α : Type} {a : α} {t l : List α} (h : ∀ p ∈ t, p ∈ l) : ∀ p ∈ a :: t, p ∈ a :: l := fun p hp => (List.mem_cons.mp hp).elim (fun e => e ▸ List.mem_cons_self) fun e => List.mem_cons_of_mem a (h p e)
theorem sl_skip {α : Type} {a : α} {t l : List α} (h : ∀ p ∈ t, p ∈ l) : ∀ p ∈ t, p ∈ a :: l := fun p hp => List.mem_cons_of_mem a (h p hp)
theorem sl_app {α : Type} {a t l : List α} (h : ∀ p ∈ t, p ∈ l) : ∀ p ∈ a ++ t, p ∈ a ++ l := fun p hp => (List.mem_append.mp hp).elim (fun e => List.mem_append_left l e) fun e => List.mem_append_right a (h p e)
theorem sl_right {α : Type} {a t l : List α} (h : ∀ p ∈ t, p ∈ l) : ∀ p ∈ t, p ∈ a ++ l := fun p hp => List.mem_append_right a (h p hp)
theorem sl_left {α : Type} {t l : List α} : ∀ p ∈ t, p ∈ t ++ l := fun _ hp => List.mem_append_left l hp
theorem sl_put {α : Type} {a : α} {t l : List α} (m : a ∈ l) (h : ∀ p ∈ t, p ∈ l) : ∀ p ∈ a :: t, p ∈ l := List.forall_mem_cons.mpr ⟨m, h⟩
theorem sl_assoc {α : Type} {a b c l : List α} (h : ∀ p ∈ l, p ∈ a ++ (b ++ c)) : ∀ p ∈ l, p ∈ a ++ b ++ c := fun p hp => by rw [List.append_assoc]; exact h p hp
theorem fa {α : Type} {φ : α → Prop} {a : α} {t : List α} (h : φ a) (k : ∀ p ∈ t, φ p) : ∀ p ∈ a :: t, φ p := List.forall_mem_cons.mpr ⟨h, k⟩
theorem fap {α : Type} {φ : α → Prop} {a t : List α} (h : ∀ p ∈ a, φ p) (k : ∀ p ∈ t, φ p) : ∀ p ∈ a ++ t, φ p := fun p hp => (List.mem_append.mp hp).elim (h p) (k p)
theorem fal {α : Type} {φ : α → Prop} {a t : List α} (h : ∀ p ∈ a ++ t, φ p) : ∀ p ∈ a, φ p := fun p hp => h p (List.mem_append_left t hp)
theorem far {α : Type} {φ : α → Prop} {a t : List α} (h : ∀ p ∈ a ++ t, φ p) : ∀ p ∈ t, φ p := fun p hp => h p (List.mem_append_right a hp)
theorem fah {α : Type} {φ : α → Prop} {a : α} {t : List α} (h : ∀ p ∈ a :: t, φ p) : φ a := h a List.mem_cons_self
theorem fat {α : Type} {φ : α → Prop} {a : α} {t : List α} (h : ∀ p ∈ a :: t, φ p) : ∀ p ∈ t, φ p := fun p hp => h p (List.mem_cons_of_mem a hp)
/-- tries the rules that the words name: a: a fact at hand, r: reckoned, d: decided -/
def om (s : String) : Lean.MacroM (Lean.TSyntax `tactic) := do
  let t ← (s.splitOn " ").foldrM (fun w (t : Lean.TSyntax `tactic) => do
    let ws := w.splitOn ":"
    let f := Lean.mkIdent (`Mine ++ .mkSimple (ws.headD ""))
    let as ← ((ws.getD 1 "").toList.toArray).mapM fun c => if c == 'a' then `((by assumption)) else if c == 'r' then `(rfl) else `((by decide +kernel))
    `(tactic| first | exact $f $as* | $t:tactic)) (← `(tactic| fail))
  `(tactic| with_reducible first | assumption | exact Ne.symm (by assumption) | $t:tactic)
def omegas : String := "tn0 tn0_len:a tn_sub:a tn_pred:a tn_back te1 te2 te4 te5:a te6 pc3:a pc2:a pc1:a room2:ar room1:ar room3:ar room4:aar room5:aar addl:r le_of:ar le_of_lt:aar le_of_len:aar le_of_len_lt:aaar le_sub2:ar le_sub:ar le_pred:a ge_len:aa ig_of:d ig0_of:d ig0_lt:d il_of:ad ile_of:ad il_of_lt:aad il_of_len:aad il0_of_lt:aad il_len:aa il0_len:aa ix0 ix1:aa ix2:aad iy0:a iy1:aaa iy2:aaad iz0 iz1:aaa iz2:aaad ib1:ad ib2:aad ib3:ad ib4:aad lt_len:aa lt_len2:aaa of_lt_len:aa lt_lt_len:aaa eq_of_not_lt:aa ms2:a ms1:a ms5:a ms3:aa ms4:a ms6:a ms7:a ms8:a meas:a d1 d2 d3 d4 e1 e2 e3 e4 p0:a p1:a p2:a p3:a p4:a q0:a q1:a q2:a q3:a q4:a fb1:aa fb2:aa or3:aa or2t:a or3t:a or7t:a ass room0:a"
end Mine
local macro_rules | `(tactic| omega) => Mine.om Mine.omegas
namespace Mine
open PySem.Challenge in
def topSt (i : Nat) : Option Stmt := pw_ye0001_05.main.body[i]?
def clsSt (i j : Nat) : Option Stmt := match topSt i with
  | some (.ClassDef _ _ _ b _ _ _ _ _ _ _) => b[j]?
  | _ => none
def stArgs : Option Stmt → Arguments
  | some (.FunctionDef _ a _ _ _ _ _ _ _ _) => a
  | _ => { posonlyargs := [], args := [], vararg := none, kwonlyargs := [], kw_defaults := [], kwarg := none, defaults := [] }
def stBody : Option Stmt → List Stmt
  | some (.FunctionDef _ _ b _ _ _ _ _ _ _) => b
  | _ => []
def stScope : Option Stmt → Scope
  | some (.FunctionDef _ _ _ _ _ _ s _ _ _) => s
  | _ => { kind := .function, names := [], isGenerator := false, isCoroutine := false }
/-- a value that is reckoned while the definition is read -/
structure Rk {α : Type} (x : α) : Type where
  mk ::
noncomputable def heapK : Params → Frag := fun P => by
  refine (?f : ∀ a3 : Arguments, Rk a3 → ∀ b4 : List Stmt, Rk b4 → ∀ c5 : Scope, Rk c5 → ∀ a12 : Arguments, Rk a12 → ∀ b13 : List Stmt, Rk b13 → ∀ c14 : Scope, Rk c14 → ∀ a15 : Arguments, Rk a15 → ∀ b16 : List Stmt, Rk b16 → ∀ c17 : Scope, Rk c17 → ∀ a24 : Arguments, Rk a24 → ∀ b25 : List Stmt, Rk b25 → ∀ c26 : Scope, Rk c26 → ∀ a30 : Arguments, Rk a30 → ∀ b31 : List Stmt, Rk b31 → ∀ c32 : Scope, Rk c32 → ∀ a36 : Arguments, Rk a36 → ∀ b37 : List Stmt, Rk b37 → ∀ c38 : Scope, Rk c38 → ∀ a42 : Arguments, Rk a42 → ∀ b43 : List Stmt, Rk b43 → ∀ c44 : Scope, Rk c44 → ∀ a45 : Arguments, Rk a45 → ∀ b46 : List Stmt, Rk b46 → ∀ c47 : Scope, Rk c47 → ∀ a48 : Arguments, Rk a48 → ∀ b49 : List Stmt, Rk b49 → ∀ c50 : Scope, Rk c50 → ∀ a66 : Arguments, Rk a66 → ∀ b67 : List Stmt, Rk b67 → ∀ c68 : Scope, Rk c68 → ∀ a84 : Arguments, Rk a84 → ∀ b85 : List Stmt, Rk b85 → ∀ c86 : Scope, Rk c86 → ∀ a87 : Arguments, Rk a87 → ∀ b88 : List Stmt, Rk b88 → ∀ c89 : Scope, Rk c89 → ∀ a90 : Arguments, Rk a90 → ∀ b91 : List Stmt, Rk b91 → ∀ c92 : Scope, Rk c92 → ∀ a93 : Arguments, Rk a93 → ∀ b94 : List Stmt, Rk b94 → ∀ c95 : Scope, Rk c95 → ∀ a102 : Arguments, Rk a102 → ∀ b103 : List Stmt, Rk b103 → ∀ c104 : Scope, Rk c104 → ∀ a123 : Arguments, Rk a123 → ∀ b124 : List Stmt, Rk b124 → ∀ c125 : Scope, Rk c125 → ∀ a126 : Arguments, Rk a126 → ∀ b127 : List Stmt, Rk b127 → ∀ c128 : Scope, Rk c128 → ∀ a129 : Arguments, Rk a129 → ∀ b130 : List Stmt, Rk b130 → ∀ c131 : Scope, Rk c131 → ∀ a132 : Arguments, Rk a132 → ∀ b133 : List Stmt, Rk b133 → ∀ c134 : Scope, Rk c134 → ∀ a135 : Arguments, Rk a135 → ∀ b136 : List Stmt, Rk b136 → ∀ c137 : Scope, Rk c137 → ∀ a138 : Arguments, Rk a138 → ∀ b139 : List Stmt, Rk b139 → ∀ c140 : Scope, Rk c140 → ∀ a141 : Arguments, Rk a141 → ∀ b142 : List Stmt, Rk b142 → ∀ c143 : Scope, Rk c143 → ∀ a144 : Arguments, Rk a144 → ∀ b145 : List Stmt, Rk b145 → ∀ c146 : Scope, Rk c146 → ∀ a147 : Arguments, Rk a147 → ∀ b148 : List Stmt, Rk b148 → ∀ c149 : Scope, Rk c149 → ∀ a150 : Arguments, Rk a150 → ∀ b151 : List Stmt, Rk b151 → ∀ c152 : Scope, Rk c152 → ∀ a153 : Arguments, Rk a153 → ∀ b154 : List Stmt, Rk b154 → ∀ c155 : Scope, Rk c155 → ∀ a156 : Arguments, Rk a156 → ∀ b157 : List Stmt, Rk b157 → ∀ c158 : Scope, Rk c158 → ∀ a159 : Arguments, Rk a159 → ∀ b160 : List Stmt, Rk b160 → ∀ c161 : Scope, Rk c161 → Frag)
    _ (by have h : Rk (stArgs (clsSt 2 0)) := ⟨⟩; conv at h => arg 1; whnf
          exact h)
    _ (by have h : Rk (stBody (clsSt 2 0)) := ⟨⟩; conv at h => arg 1; whnf
          exact h)
    _ (by have h : Rk (stScope (clsSt 2 0)) := ⟨⟩; conv at h => arg 1; whnf
          exact h)
    _ (by have h : Rk (stArgs (clsSt 2 3)) := ⟨⟩; conv at h => arg 1; whnf
          exact h)
    _ (by have h : Rk (stBody (clsSt 2 3)) := ⟨⟩; conv at h => arg 1; whnf
          exact h)
    _ (by have h : Rk (stScope (clsSt 2 3)) := ⟨⟩; conv at h => arg 1; whnf
          exact h)
    _ (by have h : Rk (stArgs (clsSt 3 0)) := ⟨⟩; conv at h => arg 1; whnf
          exact h)
    _ (by have h : Rk (stBody (clsSt 3 0)) := ⟨⟩; conv at h => arg 1; whnf
          exact h)
    _ (by have h : Rk (stScope (clsSt 3 0)) := ⟨⟩; conv at h => arg 1; whnf
          exact h)
    _ (by have h : Rk (stArgs (clsSt 3 3)) := ⟨⟩; conv at h => arg 1; whnf
          exact h)
    _ (by have h : Rk (stBody (clsSt 3 3)) := ⟨⟩; conv at h => arg 1; whnf
          exact h)
    _ (by have h : Rk (stScope (clsSt 3 3)) := ⟨⟩; conv at h => arg 1; whnf
          exact h)
    _ (by have h : Rk (stArgs (clsSt 3 5)) := ⟨⟩; conv at h => arg 1; whnf
          exact h)
    _ (by have h : Rk (stBody (clsSt 3 5)) := ⟨⟩; conv at h => arg 1; whnf
          exact h)
    _ (by have h : Rk (stScope (clsSt 3 5)) := ⟨⟩; conv at h => arg 1; whnf
          exact h)
    _ (by have h : Rk (stArgs (clsSt 3 7)) := ⟨⟩; conv at h => arg 1; whnf
          exact h)
    _ (by have h : Rk (stBody (clsSt 3 7)) := ⟨⟩; conv at h => arg 1; whnf
          exact h)
    _ (by have h : Rk (stScope (clsSt 3 7)) := ⟨⟩; conv at h => arg 1; whnf
          exact h)
    _ (by have h : Rk (stArgs (clsSt 3 9)) := ⟨⟩; conv at h => arg 1; whnf
          exact h)
    _ (by have h : Rk (stBody (clsSt 3 9)) := ⟨⟩; conv at h => arg 1; whnf
          exact h)
    _ (by have h : Rk (stScope (clsSt 3 9)) := ⟨⟩; conv at h => arg 1; whnf
          exact h)
    _ (by have h : Rk (stArgs (clsSt 3 10)) := ⟨⟩; conv at h => arg 1; whnf
          exact h)
    _ (by have h : Rk (stBody (clsSt 3 10)) := ⟨⟩; conv at h => arg 1; whnf
          exact h)
    _ (by have h : Rk (stScope (clsSt 3 10)) := ⟨⟩; conv at h => arg 1; whnf
          exact h)
    _ (by have h : Rk (stArgs (clsSt 3 11)) := ⟨⟩; conv at h => arg 1; whnf
          exact h)
    _ (by have h : Rk (stBody (clsSt 3 11)) := ⟨⟩; conv at h => arg 1; whnf
          exact h)
    _ (by have h : Rk (stScope (clsSt 3 11)) := ⟨⟩; conv at h => arg 1; whnf
          exact h)
    _ (by have h : Rk (stArgs (clsSt 3 17)) := ⟨⟩; conv at h => arg 1; whnf
          exact h)
    _ (by have h : Rk (stBody (clsSt 3 17)) := ⟨⟩; conv at h => arg 1; whnf
          exact h)
    _ (by have h : Rk (stScope (clsSt 3 17)) := ⟨⟩; conv at h => arg 1; whnf
          exact h)
    _ (by have h : Rk (stArgs (clsSt 5 0)) := ⟨⟩; conv at h => arg 1; whnf
          exact h)
    _ (by have h : Rk (stBody (clsSt 5 0)) := ⟨⟩; conv at h => arg 1; whnf
          exact h)
    _ (by have h : Rk (stScope (clsSt 5 0)) := ⟨⟩; conv at h => arg 1; whnf
          exact h)
    _ (by have h : Rk (stArgs (clsSt 5 1)) := ⟨⟩; conv at h => arg 1; whnf
          exact h)
    _ (by have h : Rk (stBody (clsSt 5 1)) := ⟨⟩; conv at h => arg 1; whnf
          exact h)
    _ (by have h : Rk (stScope (clsSt 5 1)) := ⟨⟩; conv at h => arg 1; whnf
          exact h)
    _ (by have h : Rk (stArgs (clsSt 5 2)) := ⟨⟩; conv at h => arg 1; whnf
          exact h)
    _ (by have h : Rk (stBody (clsSt 5 2)) := ⟨⟩; conv at h => arg 1; whnf
          exact h)
    _ (by have h : Rk (stScope (clsSt 5 2)) := ⟨⟩; conv at h => arg 1; whnf
          exact h)
    _ (by have h : Rk (stArgs (clsSt 5 3)) := ⟨⟩; conv at h => arg 1; whnf
          exact h)
    _ (by have h : Rk (stBody (clsSt 5 3)) := ⟨⟩; conv at h => arg 1; whnf
          exact h)
    _ (by have h : Rk (stScope (clsSt 5 3)) := ⟨⟩; conv at h => arg 1; whnf
          exact h)
    _ (by have h : Rk (stArgs (clsSt 5 7)) := ⟨⟩; conv at h => arg 1; whnf
          exact h)
    _ (by have h : Rk (stBody (clsSt 5 7)) := ⟨⟩; conv at h => arg 1; whnf
          exact h)
    _ (by have h : Rk (stScope (clsSt 5 7)) := ⟨⟩; conv at h => arg 1; whnf
          exact h)
    _ (by have h : Rk (stArgs (clsSt 5 14)) := ⟨⟩; conv at h => arg 1; whnf
          exact h)
    _ (by have h : Rk (stBody (clsSt 5 14)) := ⟨⟩; conv at h => arg 1; whnf
          exact h)
    _ (by have h : Rk (stScope (clsSt 5 14)) := ⟨⟩; conv at h => arg 1; whnf
          exact h)
    _ (by have h : Rk (stArgs (clsSt 5 15)) := ⟨⟩; conv at h => arg 1; whnf
          exact h)
    _ (by have h : Rk (stBody (clsSt 5 15)) := ⟨⟩; conv at h => arg 1; whnf
          exact h)
    _ (by have h : Rk (stScope (clsSt 5 15)) := ⟨⟩; conv at h => arg 1; whnf
          exact h)
    _ (by have h : Rk (stArgs (clsSt 6 0)) := ⟨⟩; conv at h => arg 1; whnf
          exact h)
    _ (by have h : Rk (stBody (clsSt 6 0)) := ⟨⟩; conv at h => arg 1; whnf
          exact h)
    _ (by have h : Rk (stScope (clsSt 6 0)) := ⟨⟩; conv at h => arg 1; whnf
          exact h)
    _ (by have h : Rk (stArgs (clsSt 6 1)) := ⟨⟩; conv at h => arg 1; whnf
          exact h)
    _ (by have h : Rk (stBody (clsSt 6 1)) := ⟨⟩; conv at h => arg 1; whnf
          exact h)
    _ (by have h : Rk (stScope (clsSt 6 1)) := ⟨⟩; conv at h => arg 1; whnf
          exact h)
    _ (by have h : Rk (stArgs (clsSt 6 2)) := ⟨⟩; conv at h => arg 1; whnf
          exact h)
    _ (by have h : Rk (stBody (clsSt 6 2)) := ⟨⟩; conv at h => arg 1; whnf
          exact h)
    _ (by have h : Rk (stScope (clsSt 6 2)) := ⟨⟩; conv at h => arg 1; whnf
          exact h)
    _ (by have h : Rk (stArgs (clsSt 6 3)) := ⟨⟩; conv at h => arg 1; whnf
          exact h)
    _ (by have h : Rk (stBody (clsSt 6 3)) := ⟨⟩; conv at h => arg 1; whnf
          exact h)
    _ (by have h : Rk (stScope (clsSt 6 3)) := ⟨⟩; conv at h => arg 1; whnf
          exact h)
    _ (by have h : Rk (stArgs (topSt 8)) := ⟨⟩; conv at h => arg 1; whnf
          exact h)
    _ (by have h : Rk (stBody (topSt 8)) := ⟨⟩; conv at h => arg 1; whnf
          exact h)
    _ (by have h : Rk (stScope (topSt 8)) := ⟨⟩; conv at h => arg 1; whnf
          exact h)
    _ (by have h : Rk (stArgs (topSt 9)) := ⟨⟩; conv at h => arg 1; whnf
          exact h)
    _ (by have h : Rk (stBody (topSt 9)) := ⟨⟩; conv at h => arg 1; whnf
          exact h)
    _ (by have h : Rk (stScope (topSt 9)) := ⟨⟩; conv at h => arg 1; whnf
          exact h)
    _ (by have h : Rk (stArgs (topSt 10)) := ⟨⟩; conv at h => arg 1; whnf
          exact h)
    _ (by have h : Rk (stBody (topSt 10)) := ⟨⟩; conv at h => arg 1; whnf
          exact h)
    _ (by have h : Rk (stScope (topSt 10)) := ⟨⟩; conv at h => arg 1; whnf
          exact h)
    _ (by have h : Rk (stArgs (topSt 11)) := ⟨⟩; conv at h => arg 1; whnf
          exact h)
    _ (by have h : Rk (stBody (topSt 11)) := ⟨⟩; conv at h => arg 1; whnf
          exact h)
    _ (by have h : Rk (stScope (topSt 11)) := ⟨⟩; conv at h => arg 1; whnf
          exact h)
    _ (by have h : Rk (stArgs (topSt 12)) := ⟨⟩; conv at h => arg 1; whnf
          exact h)
    _ (by have h : Rk (stBody (topSt 12)) := ⟨⟩; conv at h => arg 1; whnf
          exact h)
    _ (by have h : Rk (stScope (topSt 12)) := ⟨⟩; conv at h => arg 1; whnf
          exact h)
    _ (by have h : Rk (stArgs (topSt 13)) := ⟨⟩; conv at h => arg 1; whnf
          exact h)
    _ (by have h : Rk (stBody (topSt 13)) := ⟨⟩; conv at h => arg 1; whnf
          exact h)
    _ (by have h : Rk (stScope (topSt 13)) := ⟨⟩; conv at h => arg 1; whnf
          exact h)
    _ (by have h : Rk (stArgs (topSt 14)) := ⟨⟩; conv at h => arg 1; whnf
          exact h)
    _ (by have h : Rk (stBody (topSt 14)) := ⟨⟩; conv at h => arg 1; whnf
          exact h)
    _ (by have h : Rk (stScope (topSt 14)) := ⟨⟩; conv at h => arg 1; whnf
          exact h)
  exact fun a3 _ b4 _ c5 _ a12 _ b13 _ c14 _ a15 _ b16 _ c17 _ a24 _ b25 _ c26 _ a30 _ b31 _ c32 _ a36 _ b37 _ c38 _ a42 _ b43 _ c44 _ a45 _ b46 _ c47 _ a48 _ b49 _ c50 _ a66 _ b67 _ c68 _ a84 _ b85 _ c86 _ a87 _ b88 _ c89 _ a90 _ b91 _ c92 _ a93 _ b94 _ c95 _ a102 _ b103 _ c104 _ a123 _ b124 _ c125 _ a126 _ b127 _ c128 _ a129 _ b130 _ c131 _ a132 _ b133 _ c134 _ a135 _ b136 _ c137 _ a138 _ b139 _ c140 _ a141 _ b142 _ c143 _ a144 _ b145 _ c146 _ a147 _ b148 _ c149 _ a150 _ b151 _ c152 _ a153 _ b154 _ c155 _ a156 _ b157 _ c158 _ a159 _ b160 _ c161 _ => (
  (nat_lit 2, Obj.mk Value.none none (Data.dict #[]) #[]) ::
  (nat_lit 3, Obj.mk (Value.type "dict") none (Data.dict #[DictEntry.mk (PyData.keyHash P (Str.ofString "__name__")) (Value.str (Str.ofString "__name__") 165) (Value.str (Str.ofString "law_ye0001_05") 641), DictEntry.mk (PyData.keyHash P (Str.ofString "__doc__")) (Value.str (Str.ofString "__doc__") 166) Value.none, DictEntry.mk (PyData.keyHash P (Str.ofString "__package__")) (Value.str (Str.ofString "__package__") 167) Value.none, DictEntry.mk (PyData.keyHash P (Str.ofString "__loader__")) (Value.str (Str.ofString "__loader__") 168) (Value.builtin "__main__.__loader__#opaque"), DictEntry.mk (PyData.keyHash P (Str.ofString "__spec__")) (Value.str (Str.ofString "__spec__") 169) Value.none, DictEntry.mk (PyData.keyHash P (Str.ofString "__annotations__")) (Value.str (Str.ofString "__annotations__") 170) (Value.ref 6), DictEntry.mk (PyData.keyHash P (Str.ofString "__builtins__")) (Value.str (Str.ofString "__builtins__") 171) (Value.ref 4), DictEntry.mk (PyData.keyHash P (Str.ofString "__file__")) (Value.str (Str.ofString "__file__") 173) (Value.str (Str.ofString "/claim/cut.py") 172), DictEntry.mk (PyData.keyHash P (Str.ofString "__cached__")) (Value.str (Str.ofString "__cached__") 174) Value.none, DictEntry.mk (PyData.keyHash P (Str.ofString "_wall")) (Value.str (Str.ofString "_wall") 193) (Value.ref 21), DictEntry.mk (PyData.keyHash P (Str.ofString "GenericPolynomialRing")) (Value.str (Str.ofString "GenericPolynomialRing") 248) (Value.ref 59), DictEntry.mk (PyData.keyHash P (Str.ofString "GenericPolynomial")) (Value.str (Str.ofString "GenericPolynomial") 447) (Value.ref 222), DictEntry.mk (PyData.keyHash P (Str.ofString "GenericMatrix")) (Value.str (Str.ofString "GenericMatrix") 584) (Value.ref 333), DictEntry.mk (PyData.keyHash P (Str.ofString "GenericModule")) (Value.str (Str.ofString "GenericModule") 640) (Value.ref 377), DictEntry.mk (PyData.keyHash P (Str.ofString "_law_draw")) (Value.str (Str.ofString "_law_draw") 652) (Value.ref 388), DictEntry.mk (PyData.keyHash P (Str.ofString "_law_grid")) (Value.str (Str.ofString "_law_grid") 658) (Value.ref 393), DictEntry.mk (PyData.keyHash P (Str.ofString "_law_stored")) (Value.str (Str.ofString "_law_stored") 664) (Value.ref 398), DictEntry.mk (PyData.keyHash P (Str.ofString "_law_kept")) (Value.str (Str.ofString "_law_kept") 674) (Value.ref 405), DictEntry.mk (PyData.keyHash P (Str.ofString "_law_written")) (Value.str (Str.ofString "_law_written") 692) (Value.ref 412), DictEntry.mk (PyData.keyHash P (Str.ofString "_law_read")) (Value.str (Str.ofString "_law_read") 698) (Value.ref 417), DictEntry.mk (PyData.keyHash P (Str.ofString "law")) (Value.str (Str.ofString "law") 704) (Value.ref 422)] 21) #[]) ::
  (nat_lit 29, Obj.mk (Value.type "tuple") none (Data.seq #[]) #[]) ::
  (nat_lit 31, Obj.mk (Value.type "tuple") none (Data.seq #[Value.str (Str.ofString "self") 211, Value.str (Str.ofString "q") 212, Value.str (Str.ofString "n") 213]) #[]) ::
  (nat_lit 32, Obj.mk (Value.type "tuple") none (Data.seq #[]) #[]) ::
  (nat_lit 34, Obj.mk (Value.type "code") none (Data.fields #[Value.str (Str.ofString "__init__") 208, Value.str (Str.ofString "GenericPolynomialRing.__init__") 209, Value.str (Str.ofString "/claim/cut.py") 210, Value.int 7 0, Value.int 3 0, Value.int 0 0, Value.int 0 0, Value.int 3 0, Value.ref 29, Value.bool Bool.true, Value.int 181 0, Value.ref 30, Value.none, Value.ref 31, Value.ref 32, Value.ref 33, Value.int 214 0, Value.int 7 0, Value.str (Str.ofString "/claim/cut.py") 215]) #[]) ::
  (nat_lit 35, Obj.mk (Value.type "function") none (Data.func (PySem.FuncData.mk (Str.ofString "__init__") (Str.ofString "GenericPolynomialRing.__init__") a3 (PySem.FuncBody.stmts b4) c5 3 [] Value.none Value.none Value.none (Value.str (Str.ofString "kyber_py.polynomials.polynomials_generic") 194) none (Value.ref 34) Value.none 0)) #[]) ::
  (nat_lit 50, Obj.mk (Value.type "tuple") none (Data.seq #[]) #[]) ::
  (nat_lit 52, Obj.mk (Value.type "tuple") none (Data.seq #[Value.str (Str.ofString "self") 234, Value.str (Str.ofString "coefficients") 235]) #[]) ::
  (nat_lit 53, Obj.mk (Value.type "tuple") none (Data.seq #[]) #[]) ::
  (nat_lit 55, Obj.mk (Value.type "code") none (Data.fields #[Value.str (Str.ofString "__call__") 231, Value.str (Str.ofString "GenericPolynomialRing.__call__") 232, Value.str (Str.ofString "/claim/cut.py") 233, Value.int 17 0, Value.int 2 0, Value.int 0 0, Value.int 0 0, Value.int 3 0, Value.ref 50, Value.bool Bool.true, Value.int 181 0, Value.ref 51, Value.none, Value.ref 52, Value.ref 53, Value.ref 54, Value.int 236 0, Value.int 17 0, Value.str (Str.ofString "/claim/cut.py") 237]) #[]) ::
  (nat_lit 56, Obj.mk (Value.type "function") none (Data.func (PySem.FuncData.mk (Str.ofString "__call__") (Str.ofString "GenericPolynomialRing.__call__") a12 (PySem.FuncBody.stmts b13) c14 3 [] Value.none Value.none Value.none (Value.str (Str.ofString "kyber_py.polynomials.polynomials_generic") 194) none (Value.ref 55) Value.none 0)) #[]) ::
  (nat_lit 57, Obj.mk (Value.type "tuple") none (Data.seq #[Value.str (Str.ofString "n") 239, Value.str (Str.ofString "q") 240]) #[]) ::
  (nat_lit 58, Obj.mk (Value.type "dict") none (Data.dict #[DictEntry.mk (PyData.keyHash P (Str.ofString "__module__")) (Value.str (Str.ofString "__module__") 203) (Value.str (Str.ofString "kyber_py.polynomials.polynomials_generic") 194), DictEntry.mk (PyData.keyHash P (Str.ofString "__firstlineno__")) (Value.str (Str.ofString "__firstlineno__") 207) (Value.int 5 206), DictEntry.mk (PyData.keyHash P (Str.ofString "__init__")) (Value.str (Str.ofString "__init__") 216) (Value.ref 35), DictEntry.mk (PyData.keyHash P (Str.ofString "zero")) (Value.str (Str.ofString "zero") 223) (Value.ref 42), DictEntry.mk (PyData.keyHash P (Str.ofString "gen")) (Value.str (Str.ofString "gen") 230) (Value.ref 49), DictEntry.mk (PyData.keyHash P (Str.ofString "__call__")) (Value.str (Str.ofString "__call__") 238) (Value.ref 56), DictEntry.mk (PyData.keyHash P (Str.ofString "__static_attributes__")) (Value.str (Str.ofString "__static_attributes__") 241) (Value.ref 57), DictEntry.mk (PyData.keyHash P (Str.ofString "__dict__")) (Value.str (Str.ofString "__dict__") 243) (Value.ref 60), DictEntry.mk (PyData.keyHash P (Str.ofString "__weakref__")) (Value.str (Str.ofString "__weakref__") 245) (Value.ref 61), DictEntry.mk (PyData.keyHash P (Str.ofString "__doc__")) (Value.str (Str.ofString "__doc__") 246) Value.none] 4) #[]) ::
  (nat_lit 59, Obj.mk (Value.type "type") none (Data.cls (PySem.ClassData.mk (Str.ofString "GenericPolynomialRing") [Value.type "object"] [Value.ref 59, Value.type "object"] 58 (Str.ofString "GenericPolynomialRing") Bool.true [] [] Bool.false none Bool.false)) #[none, none, Option.some (Value.str (Str.ofString "GenericPolynomialRing") 196), Option.some (Value.str (Str.ofString "GenericPolynomialRing") 204), Option.some (Value.builtin "object.__new__"), Option.some (Value.bool Bool.true)]) ::
  (nat_lit 60, Obj.mk (Value.type "getset_descriptor") none (Data.fields #[Value.str (Str.ofString "__dict__") 242, Value.ref 59, Value.builtin "function.__dict__", Value.builtin "function.__dict__#set"]) #[]) ::
  (nat_lit 61, Obj.mk (Value.type "getset_descriptor") none (Data.fields #[Value.str (Str.ofString "__weakref__") 244, Value.ref 59, Value.builtin "ExceptionGroup.__weakref__", Value.none]) #[]) ::
  (nat_lit 71, Obj.mk (Value.type "tuple") none (Data.seq #[]) #[]) ::
  (nat_lit 73, Obj.mk (Value.type "tuple") none (Data.seq #[Value.str (Str.ofString "self") 264, Value.str (Str.ofString "parent") 265, Value.str (Str.ofString "coefficients") 266]) #[]) ::
  (nat_lit 74, Obj.mk (Value.type "tuple") none (Data.seq #[]) #[]) ::
  (nat_lit 76, Obj.mk (Value.type "code") none (Data.fields #[Value.str (Str.ofString "__init__") 261, Value.str (Str.ofString "GenericPolynomial.__init__") 262, Value.str (Str.ofString "/claim/cut.py") 263, Value.int 25 0, Value.int 3 0, Value.int 0 0, Value.int 0 0, Value.int 3 0, Value.ref 71, Value.bool Bool.true, Value.int 181 0, Value.ref 72, Value.none, Value.ref 73, Value.ref 74, Value.ref 75, Value.int 267 0, Value.int 25 0, Value.str (Str.ofString "/claim/cut.py") 268]) #[]) ::
  (nat_lit 77, Obj.mk (Value.type "function") none (Data.func (PySem.FuncData.mk (Str.ofString "__init__") (Str.ofString "GenericPolynomial.__init__") a15 (PySem.FuncBody.stmts b16) c17 3 [] Value.none Value.none Value.none (Value.str (Str.ofString "kyber_py.polynomials.polynomials_generic") 194) none (Value.ref 76) Value.none 0)) #[]) ::
  (nat_lit 92, Obj.mk (Value.type "tuple") none (Data.seq #[]) #[]) ::
  (nat_lit 95, Obj.mk (Value.type "code") none (Data.fields #[Value.str (Str.ofString "_parse_coefficients") 284, Value.str (Str.ofString "GenericPolynomial._parse_coefficients") 285, Value.str (Str.ofString "/claim/cut.py") 286, Value.int 35 0, Value.int 2 0, Value.int 0 0, Value.int 0 0, Value.int 3 0, Value.ref 92, Value.bool Bool.true, Value.int 181 0, Value.ref 93, Value.none, Value.none, Value.none, Value.ref 94, Value.int 287 0, Value.int 35 0, Value.str (Str.ofString "/claim/cut.py") 288]) #[]) ::
  (nat_lit 96, Obj.mk (Value.type "function") none (Data.func (PySem.FuncData.mk (Str.ofString "_parse_coefficients") (Str.ofString "GenericPolynomial._parse_coefficients") a24 (PySem.FuncBody.stmts b25) c26 3 [] Value.none Value.none Value.none (Value.str (Str.ofString "kyber_py.polynomials.polynomials_generic") 194) none (Value.ref 95) Value.none 0)) #[]) ::
  (nat_lit 104, Obj.mk (Value.type "tuple") none (Data.seq #[]) #[]) ::
  (nat_lit 106, Obj.mk (Value.type "tuple") none (Data.seq #[Value.str (Str.ofString "self") 300, Value.str (Str.ofString "x") 301, Value.str (Str.ofString "y") 302]) #[]) ::
  (nat_lit 107, Obj.mk (Value.type "tuple") none (Data.seq #[]) #[]) ::
  (nat_lit 109, Obj.mk (Value.type "code") none (Data.fields #[Value.str (Str.ofString "_add_mod_q") 297, Value.str (Str.ofString "GenericPolynomial._add_mod_q") 298, Value.str (Str.ofString "/claim/cut.py") 299, Value.int 46 0, Value.int 3 0, Value.int 0 0, Value.int 0 0, Value.int 3 0, Value.ref 104, Value.bool Bool.true, Value.int 181 0, Value.ref 105, Value.none, Value.ref 106, Value.ref 107, Value.ref 108, Value.int 303 0, Value.int 46 0, Value.str (Str.ofString "/claim/cut.py") 304]) #[]) ::
  (nat_lit 110, Obj.mk (Value.type "function") none (Data.func (PySem.FuncData.mk (Str.ofString "_add_mod_q") (Str.ofString "GenericPolynomial._add_mod_q") a30 (PySem.FuncBody.stmts b31) c32 3 [] Value.none Value.none Value.none (Value.str (Str.ofString "kyber_py.polynomials.polynomials_generic") 194) none (Value.ref 109) Value.none 0)) #[]) ::
  (nat_lit 118, Obj.mk (Value.type "tuple") none (Data.seq #[]) #[]) ::
  (nat_lit 121, Obj.mk (Value.type "code") none (Data.fields #[Value.str (Str.ofString "_schoolbook_multiplication") 315, Value.str (Str.ofString "GenericPolynomial._schoolbook_multiplication") 316, Value.str (Str.ofString "/claim/cut.py") 317, Value.int 52 0, Value.int 2 0, Value.int 0 0, Value.int 0 0, Value.int 3 0, Value.ref 118, Value.bool Bool.true, Value.int 181 0, Value.ref 119, Value.none, Value.none, Value.none, Value.ref 120, Value.int 318 0, Value.int 52 0, Value.str (Str.ofString "/claim/cut.py") 319]) #[]) ::
  (nat_lit 122, Obj.mk (Value.type "function") none (Data.func (PySem.FuncData.mk (Str.ofString "_schoolbook_multiplication") (Str.ofString "GenericPolynomial._schoolbook_multiplication") a36 (PySem.FuncBody.stmts b37) c38 3 [] Value.none Value.none Value.none (Value.str (Str.ofString "kyber_py.polynomials.polynomials_generic") 194) none (Value.ref 121) Value.none 0)) #[]) ::
  (nat_lit 128, Obj.mk (Value.type "tuple") none (Data.seq #[]) #[]) ::
  (nat_lit 131, Obj.mk (Value.type "code") none (Data.fields #[Value.str (Str.ofString "_add_") 327, Value.str (Str.ofString "GenericPolynomial._add_") 328, Value.str (Str.ofString "/claim/cut.py") 329, Value.int 69 0, Value.int 2 0, Value.int 0 0, Value.int 0 0, Value.int 3 0, Value.ref 128, Value.bool Bool.true, Value.int 181 0, Value.ref 129, Value.none, Value.none, Value.none, Value.ref 130, Value.int 330 0, Value.int 69 0, Value.str (Str.ofString "/claim/cut.py") 331]) #[]) ::
  (nat_lit 132, Obj.mk (Value.type "function") none (Data.func (PySem.FuncData.mk (Str.ofString "_add_") (Str.ofString "GenericPolynomial._add_") a42 (PySem.FuncBody.stmts b43) c44 3 [] Value.none Value.none Value.none (Value.str (Str.ofString "kyber_py.polynomials.polynomials_generic") 194) none (Value.ref 131) Value.none 0)) #[]) ::
  (nat_lit 133, Obj.mk (Value.type "tuple") none (Data.seq #[]) #[]) ::
  (nat_lit 135, Obj.mk (Value.type "tuple") none (Data.seq #[Value.str (Str.ofString "self") 336, Value.str (Str.ofString "other") 337, Value.str (Str.ofString "new_coeffs") 338]) #[]) ::
  (nat_lit 136, Obj.mk (Value.type "tuple") none (Data.seq #[]) #[]) ::
  (nat_lit 138, Obj.mk (Value.type "code") none (Data.fields #[Value.str (Str.ofString "__add__") 333, Value.str (Str.ofString "GenericPolynomial.__add__") 334, Value.str (Str.ofString "/claim/cut.py") 335, Value.int 79 0, Value.int 2 0, Value.int 0 0, Value.int 0 0, Value.int 3 0, Value.ref 133, Value.bool Bool.true, Value.int 181 0, Value.ref 134, Value.none, Value.ref 135, Value.ref 136, Value.ref 137, Value.int 339 0, Value.int 79 0, Value.str (Str.ofString "/claim/cut.py") 340]) #[]) ::
  (nat_lit 139, Obj.mk (Value.type "function") none (Data.func (PySem.FuncData.mk (Str.ofString "__add__") (Str.ofString "GenericPolynomial.__add__") a45 (PySem.FuncBody.stmts b46) c47 3 [] Value.none Value.none Value.none (Value.str (Str.ofString "kyber_py.polynomials.polynomials_generic") 194) none (Value.ref 138) Value.none 0)) #[]) ::
  (nat_lit 140, Obj.mk (Value.type "tuple") none (Data.seq #[]) #[]) ::
  (nat_lit 142, Obj.mk (Value.type "tuple") none (Data.seq #[Value.str (Str.ofString "self") 345, Value.str (Str.ofString "other") 346]) #[]) ::
  (nat_lit 143, Obj.mk (Value.type "tuple") none (Data.seq #[]) #[]) ::
  (nat_lit 145, Obj.mk (Value.type "code") none (Data.fields #[Value.str (Str.ofString "__radd__") 342, Value.str (Str.ofString "GenericPolynomial.__radd__") 343, Value.str (Str.ofString "/claim/cut.py") 344, Value.int 83 0, Value.int 2 0, Value.int 0 0, Value.int 0 0, Value.int 3 0, Value.ref 140, Value.bool Bool.true, Value.int 181 0, Value.ref 141, Value.none, Value.ref 142, Value.ref 143, Value.ref 144, Value.int 347 0, Value.int 83 0, Value.str (Str.ofString "/claim/cut.py") 348]) #[]) ::
  (nat_lit 146, Obj.mk (Value.type "function") none (Data.func (PySem.FuncData.mk (Str.ofString "__radd__") (Str.ofString "GenericPolynomial.__radd__") a48 (PySem.FuncBody.stmts b49) c50 3 [] Value.none Value.none Value.none (Value.str (Str.ofString "kyber_py.polynomials.polynomials_generic") 194) none (Value.ref 145) Value.none 0)) #[]) ::
  (nat_lit 180, Obj.mk (Value.type "tuple") none (Data.seq #[]) #[]) ::
  (nat_lit 183, Obj.mk (Value.type "code") none (Data.fields #[Value.str (Str.ofString "__mul__") 389, Value.str (Str.ofString "GenericPolynomial.__mul__") 390, Value.str (Str.ofString "/claim/cut.py") 391, Value.int 111 0, Value.int 2 0, Value.int 0 0, Value.int 0 0, Value.int 3 0, Value.ref 180, Value.bool Bool.true, Value.int 181 0, Value.ref 181, Value.none, Value.none, Value.none, Value.ref 182, Value.int 392 0, Value.int 111 0, Value.str (Str.ofString "/claim/cut.py") 393]) #[]) ::
  (nat_lit 184, Obj.mk (Value.type "function") none (Data.func (PySem.FuncData.mk (Str.ofString "__mul__") (Str.ofString "GenericPolynomial.__mul__") a66 (PySem.FuncBody.stmts b67) c68 3 [] Value.none Value.none Value.none (Value.str (Str.ofString "kyber_py.polynomials.polynomials_generic") 194) none (Value.ref 183) Value.none 0)) #[]) ::
  (nat_lit 220, Obj.mk (Value.type "tuple") none (Data.seq #[Value.str (Str.ofString "coeffs") 437, Value.str (Str.ofString "parent") 438]) #[]) ::
  (nat_lit 221, Obj.mk (Value.type "dict") none (Data.dict #[DictEntry.mk (PyData.keyHash P (Str.ofString "__module__")) (Value.str (Str.ofString "__module__") 256) (Value.str (Str.ofString "kyber_py.polynomials.polynomials_generic") 194), DictEntry.mk (PyData.keyHash P (Str.ofString "__firstlineno__")) (Value.str (Str.ofString "__firstlineno__") 260) (Value.int 23 259), DictEntry.mk (PyData.keyHash P (Str.ofString "__init__")) (Value.str (Str.ofString "__init__") 269) (Value.ref 77), DictEntry.mk (PyData.keyHash P (Str.ofString "is_zero")) (Value.str (Str.ofString "is_zero") 276) (Value.ref 84), DictEntry.mk (PyData.keyHash P (Str.ofString "is_constant")) (Value.str (Str.ofString "is_constant") 283) (Value.ref 91), DictEntry.mk (PyData.keyHash P (Str.ofString "_parse_coefficients")) (Value.str (Str.ofString "_parse_coefficients") 289) (Value.ref 96), DictEntry.mk (PyData.keyHash P (Str.ofString "reduce_coefficients")) (Value.str (Str.ofString "reduce_coefficients") 296) (Value.ref 103), DictEntry.mk (PyData.keyHash P (Str.ofString "_add_mod_q")) (Value.str (Str.ofString "_add_mod_q") 305) (Value.ref 110), DictEntry.mk (PyData.keyHash P (Str.ofString "_sub_mod_q")) (Value.str (Str.ofString "_sub_mod_q") 314) (Value.ref 117), DictEntry.mk (PyData.keyHash P (Str.ofString "_schoolbook_multiplication")) (Value.str (Str.ofString "_schoolbook_multiplication") 320) (Value.ref 122), DictEntry.mk (PyData.keyHash P (Str.ofString "__neg__")) (Value.str (Str.ofString "__neg__") 326) (Value.ref 127), DictEntry.mk (PyData.keyHash P (Str.ofString "_add_")) (Value.str (Str.ofString "_add_") 332) (Value.ref 132), DictEntry.mk (PyData.keyHash P (Str.ofString "__add__")) (Value.str (Str.ofString "__add__") 341) (Value.ref 139), DictEntry.mk (PyData.keyHash P (Str.ofString "__radd__")) (Value.str (Str.ofString "__radd__") 349) (Value.ref 146), DictEntry.mk (PyData.keyHash P (Str.ofString "__iadd__")) (Value.str (Str.ofString "__iadd__") 357) (Value.ref 153), DictEntry.mk (PyData.keyHash P (Str.ofString "_sub_")) (Value.str (Str.ofString "_sub_") 363) (Value.ref 158), DictEntry.mk (PyData.keyHash P (Str.ofString "__sub__")) (Value.str (Str.ofString "__sub__") 372) (Value.ref 165), DictEntry.mk (PyData.keyHash P (Str.ofString "__rsub__")) (Value.str (Str.ofString "__rsub__") 380) (Value.ref 172), DictEntry.mk (PyData.keyHash P (Str.ofString "__isub__")) (Value.str (Str.ofString "__isub__") 388) (Value.ref 179), DictEntry.mk (PyData.keyHash P (Str.ofString "__mul__")) (Value.str (Str.ofString "__mul__") 394) (Value.ref 184), DictEntry.mk (PyData.keyHash P (Str.ofString "__rmul__")) (Value.str (Str.ofString "__rmul__") 402) (Value.ref 191), DictEntry.mk (PyData.keyHash P (Str.ofString "__imul__")) (Value.str (Str.ofString "__imul__") 410) (Value.ref 198), DictEntry.mk (PyData.keyHash P (Str.ofString "__pow__")) (Value.str (Str.ofString "__pow__") 420) (Value.ref 205), DictEntry.mk (PyData.keyHash P (Str.ofString "__eq__")) (Value.str (Str.ofString "__eq__") 428) (Value.ref 212), DictEntry.mk (PyData.keyHash P (Str.ofString "__getitem__")) (Value.str (Str.ofString "__getitem__") 436) (Value.ref 219), DictEntry.mk (PyData.keyHash P (Str.ofString "__static_attributes__")) (Value.str (Str.ofString "__static_attributes__") 439) (Value.ref 220), DictEntry.mk (PyData.keyHash P (Str.ofString "__dict__")) (Value.str (Str.ofString "__dict__") 441) (Value.ref 223), DictEntry.mk (PyData.keyHash P (Str.ofString "__weakref__")) (Value.str (Str.ofString "__weakref__") 443) (Value.ref 224), DictEntry.mk (PyData.keyHash P (Str.ofString "__doc__")) (Value.str (Str.ofString "__doc__") 444) Value.none, DictEntry.mk (PyData.keyHash P (Str.ofString "__hash__")) (Value.str (Str.ofString "__hash__") 445) Value.none] 5) #[]) ::
  (nat_lit 222, Obj.mk (Value.type "type") none (Data.cls (PySem.ClassData.mk (Str.ofString "GenericPolynomial") [Value.type "object"] [Value.ref 222, Value.type "object"] 221 (Str.ofString "GenericPolynomial") Bool.true [] [] Bool.false none Bool.false)) #[none, none, Option.some (Value.str (Str.ofString "GenericPolynomial") 249), Option.some (Value.str (Str.ofString "GenericPolynomial") 257), Option.some (Value.builtin "object.__new__"), Option.some (Value.bool Bool.true)]) ::
  (nat_lit 223, Obj.mk (Value.type "getset_descriptor") none (Data.fields #[Value.str (Str.ofString "__dict__") 440, Value.ref 222, Value.builtin "function.__dict__", Value.builtin "function.__dict__#set"]) #[]) ::
  (nat_lit 224, Obj.mk (Value.type "getset_descriptor") none (Data.fields #[Value.str (Str.ofString "__weakref__") 442, Value.ref 222, Value.builtin "ExceptionGroup.__weakref__", Value.none]) #[]) ::
  (nat_lit 234, Obj.mk (Value.type "tuple") none (Data.seq #[Value.bool Bool.false]) #[]) ::
  (nat_lit 235, Obj.mk (Value.type "tuple") none (Data.seq #[]) #[]) ::
  (nat_lit 237, Obj.mk (Value.type "tuple") none (Data.seq #[Value.str (Str.ofString "self") 465, Value.str (Str.ofString "parent") 466, Value.str (Str.ofString "matrix_data") 467, Value.str (Str.ofString "transpose") 468]) #[]) ::
  (nat_lit 238, Obj.mk (Value.type "tuple") none (Data.seq #[]) #[]) ::
  (nat_lit 240, Obj.mk (Value.type "code") none (Data.fields #[Value.str (Str.ofString "__init__") 462, Value.str (Str.ofString "GenericMatrix.__init__") 463, Value.str (Str.ofString "/claim/cut.py") 464, Value.int 154 0, Value.int 4 0, Value.int 0 0, Value.int 0 0, Value.int 3 0, Value.ref 235, Value.bool Bool.true, Value.int 181 0, Value.ref 236, Value.none, Value.ref 237, Value.ref 238, Value.ref 239, Value.int 469 0, Value.int 154 0, Value.str (Str.ofString "/claim/cut.py") 470]) #[]) ::
  (nat_lit 241, Obj.mk (Value.type "function") none (Data.func (PySem.FuncData.mk (Str.ofString "__init__") (Str.ofString "GenericMatrix.__init__") a84 (PySem.FuncBody.stmts b85) c86 3 [] (Value.ref 234) Value.none Value.none (Value.str (Str.ofString "kyber_py.modules.modules_generic") 448) none (Value.ref 240) Value.none 0)) #[]) ::
  (nat_lit 242, Obj.mk (Value.type "tuple") none (Data.seq #[]) #[]) ::
  (nat_lit 244, Obj.mk (Value.type "tuple") none (Data.seq #[Value.str (Str.ofString "self") 475]) #[]) ::
  (nat_lit 245, Obj.mk (Value.type "tuple") none (Data.seq #[]) #[]) ::
  (nat_lit 247, Obj.mk (Value.type "code") none (Data.fields #[Value.str (Str.ofString "dim") 472, Value.str (Str.ofString "GenericMatrix.dim") 473, Value.str (Str.ofString "/claim/cut.py") 474, Value.int 161 0, Value.int 1 0, Value.int 0 0, Value.int 0 0, Value.int 3 0, Value.ref 242, Value.bool Bool.true, Value.int 181 0, Value.ref 243, Value.none, Value.ref 244, Value.ref 245, Value.ref 246, Value.int 476 0, Value.int 161 0, Value.str (Str.ofString "/claim/cut.py") 477]) #[]) ::
  (nat_lit 248, Obj.mk (Value.type "function") none (Data.func (PySem.FuncData.mk (Str.ofString "dim") (Str.ofString "GenericMatrix.dim") a87 (PySem.FuncBody.stmts b88) c89 3 [] Value.none Value.none Value.none (Value.str (Str.ofString "kyber_py.modules.modules_generic") 448) none (Value.ref 247) Value.none 0)) #[]) ::
  (nat_lit 249, Obj.mk (Value.type "tuple") none (Data.seq #[]) #[]) ::
  (nat_lit 251, Obj.mk (Value.type "tuple") none (Data.seq #[Value.str (Str.ofString "self") 482, Value.str (Str.ofString "row") 483]) #[]) ::
  (nat_lit 252, Obj.mk (Value.type "tuple") none (Data.seq #[]) #[]) ::
  (nat_lit 254, Obj.mk (Value.type "code") none (Data.fields #[Value.str (Str.ofString "_check_dimensions") 479, Value.str (Str.ofString "GenericMatrix._check_dimensions") 480, Value.str (Str.ofString "/claim/cut.py") 481, Value.int 167 0, Value.int 1 0, Value.int 0 0, Value.int 0 0, Value.int 3 0, Value.ref 249, Value.bool Bool.true, Value.int 181 0, Value.ref 250, Value.none, Value.ref 251, Value.ref 252, Value.ref 253, Value.int 484 0, Value.int 167 0, Value.str (Str.ofString "/claim/cut.py") 485]) #[]) ::
  (nat_lit 255, Obj.mk (Value.type "function") none (Data.func (PySem.FuncData.mk (Str.ofString "_check_dimensions") (Str.ofString "GenericMatrix._check_dimensions") a90 (PySem.FuncBody.stmts b91) c92 3 [] Value.none Value.none Value.none (Value.str (Str.ofString "kyber_py.modules.modules_generic") 448) none (Value.ref 254) Value.none 0)) #[]) ::
  (nat_lit 256, Obj.mk (Value.type "tuple") none (Data.seq #[]) #[]) ::
  (nat_lit 258, Obj.mk (Value.type "tuple") none (Data.seq #[Value.str (Str.ofString "self") 490]) #[]) ::
  (nat_lit 259, Obj.mk (Value.type "tuple") none (Data.seq #[]) #[]) ::
  (nat_lit 261, Obj.mk (Value.type "code") none (Data.fields #[Value.str (Str.ofString "transpose") 487, Value.str (Str.ofString "GenericMatrix.transpose") 488, Value.str (Str.ofString "/claim/cut.py") 489, Value.int 173 0, Value.int 1 0, Value.int 0 0, Value.int 0 0, Value.int 3 0, Value.ref 256, Value.bool Bool.true, Value.int 181 0, Value.ref 257, Value.none, Value.ref 258, Value.ref 259, Value.ref 260, Value.int 491 0, Value.int 173 0, Value.str (Str.ofString "/claim/cut.py") 492]) #[]) ::
  (nat_lit 262, Obj.mk (Value.type "function") none (Data.func (PySem.FuncData.mk (Str.ofString "transpose") (Str.ofString "GenericMatrix.transpose") a93 (PySem.FuncBody.stmts b94) c95 3 [] Value.none Value.none Value.none (Value.str (Str.ofString "kyber_py.modules.modules_generic") 448) none (Value.ref 261) Value.none 0)) #[]) ::
  (nat_lit 270, Obj.mk (Value.type "property") none (Data.fields #[Value.ref 262, Value.none, Value.none, Value.none, Value.str (Str.ofString "T") 502, Value.bool Bool.false]) #[]) ::
  (nat_lit 278, Obj.mk (Value.type "tuple") none (Data.seq #[]) #[]) ::
  (nat_lit 280, Obj.mk (Value.type "tuple") none (Data.seq #[Value.str (Str.ofString "self") 513, Value.str (Str.ofString "idx") 514]) #[]) ::
  (nat_lit 281, Obj.mk (Value.type "tuple") none (Data.seq #[]) #[]) ::
  (nat_lit 283, Obj.mk (Value.type "code") none (Data.fields #[Value.str (Str.ofString "__getitem__") 510, Value.str (Str.ofString "GenericMatrix.__getitem__") 511, Value.str (Str.ofString "/claim/cut.py") 512, Value.int 183 0, Value.int 2 0, Value.int 0 0, Value.int 0 0, Value.int 3 0, Value.ref 278, Value.bool Bool.true, Value.int 181 0, Value.ref 279, Value.none, Value.ref 280, Value.ref 281, Value.ref 282, Value.int 515 0, Value.int 183 0, Value.str (Str.ofString "/claim/cut.py") 516]) #[]) ::
  (nat_lit 284, Obj.mk (Value.type "function") none (Data.func (PySem.FuncData.mk (Str.ofString "__getitem__") (Str.ofString "GenericMatrix.__getitem__") a102 (PySem.FuncBody.stmts b103) c104 3 [] Value.none Value.none Value.none (Value.str (Str.ofString "kyber_py.modules.modules_generic") 448) none (Value.ref 283) Value.none 0)) #[]) ::
  (nat_lit 319, Obj.mk (Value.type "tuple") none (Data.seq #[]) #[]) ::
  (nat_lit 322, Obj.mk (Value.type "code") none (Data.fields #[Value.str (Str.ofString "__matmul__") 558, Value.str (Str.ofString "GenericMatrix.__matmul__") 559, Value.str (Str.ofString "/claim/cut.py") 560, Value.int 228 0, Value.int 2 0, Value.int 0 0, Value.int 0 0, Value.int 3 0, Value.ref 319, Value.bool Bool.true, Value.int 181 0, Value.ref 320, Value.none, Value.none, Value.none, Value.ref 321, Value.int 561 0, Value.int 228 0, Value.str (Str.ofString "/claim/cut.py") 562]) #[]) ::
  (nat_lit 323, Obj.mk (Value.type "function") none (Data.func (PySem.FuncData.mk (Str.ofString "__matmul__") (Str.ofString "GenericMatrix.__matmul__") a123 (PySem.FuncBody.stmts b124) c125 3 [] Value.none Value.none Value.none (Value.str (Str.ofString "kyber_py.modules.modules_generic") 448) none (Value.ref 322) Value.none 0)) #[]) ::
  (nat_lit 324, Obj.mk (Value.type "tuple") none (Data.seq #[]) #[]) ::
  (nat_lit 326, Obj.mk (Value.type "tuple") none (Data.seq #[Value.str (Str.ofString "self") 567, Value.str (Str.ofString "other") 568, Value.str (Str.ofString "res") 569]) #[]) ::
  (nat_lit 327, Obj.mk (Value.type "tuple") none (Data.seq #[]) #[]) ::
  (nat_lit 329, Obj.mk (Value.type "code") none (Data.fields #[Value.str (Str.ofString "dot") 564, Value.str (Str.ofString "GenericMatrix.dot") 565, Value.str (Str.ofString "/claim/cut.py") 566, Value.int 239 0, Value.int 2 0, Value.int 0 0, Value.int 0 0, Value.int 3 0, Value.ref 324, Value.bool Bool.true, Value.int 181 0, Value.ref 325, Value.none, Value.ref 326, Value.ref 327, Value.ref 328, Value.int 570 0, Value.int 239 0, Value.str (Str.ofString "/claim/cut.py") 571]) #[]) ::
  (nat_lit 330, Obj.mk (Value.type "function") none (Data.func (PySem.FuncData.mk (Str.ofString "dot") (Str.ofString "GenericMatrix.dot") a126 (PySem.FuncBody.stmts b127) c128 3 [] Value.none Value.none Value.none (Value.str (Str.ofString "kyber_py.modules.modules_generic") 448) none (Value.ref 329) Value.none 0)) #[]) ::
  (nat_lit 331, Obj.mk (Value.type "tuple") none (Data.seq #[Value.str (Str.ofString "_data") 573, Value.str (Str.ofString "_transpose") 574, Value.str (Str.ofString "parent") 575]) #[]) ::
  (nat_lit 332, Obj.mk (Value.type "dict") none (Data.dict #[DictEntry.mk (PyData.keyHash P (Str.ofString "__module__")) (Value.str (Str.ofString "__module__") 457) (Value.str (Str.ofString "kyber_py.modules.modules_generic") 448), DictEntry.mk (PyData.keyHash P (Str.ofString "__firstlineno__")) (Value.str (Str.ofString "__firstlineno__") 461) (Value.int 152 460), DictEntry.mk (PyData.keyHash P (Str.ofString "__init__")) (Value.str (Str.ofString "__init__") 471) (Value.ref 241), DictEntry.mk (PyData.keyHash P (Str.ofString "dim")) (Value.str (Str.ofString "dim") 478) (Value.ref 248), DictEntry.mk (PyData.keyHash P (Str.ofString "_check_dimensions")) (Value.str (Str.ofString "_check_dimensions") 486) (Value.ref 255), DictEntry.mk (PyData.keyHash P (Str.ofString "transpose")) (Value.str (Str.ofString "transpose") 493) (Value.ref 262), DictEntry.mk (PyData.keyHash P (Str.ofString "transpose_self")) (Value.str (Str.ofString "transpose_self") 500) (Value.ref 269), DictEntry.mk (PyData.keyHash P (Str.ofString "T")) (Value.str (Str.ofString "T") 502) (Value.ref 270), DictEntry.mk (PyData.keyHash P (Str.ofString "reduce_coefficients")) (Value.str (Str.ofString "reduce_coefficients") 509) (Value.ref 277), DictEntry.mk (PyData.keyHash P (Str.ofString "__getitem__")) (Value.str (Str.ofString "__getitem__") 517) (Value.ref 284), DictEntry.mk (PyData.keyHash P (Str.ofString "__eq__")) (Value.str (Str.ofString "__eq__") 523) (Value.ref 289), DictEntry.mk (PyData.keyHash P (Str.ofString "__neg__")) (Value.str (Str.ofString "__neg__") 529) (Value.ref 294), DictEntry.mk (PyData.keyHash P (Str.ofString "__add__")) (Value.str (Str.ofString "__add__") 535) (Value.ref 299), DictEntry.mk (PyData.keyHash P (Str.ofString "__iadd__")) (Value.str (Str.ofString "__iadd__") 543) (Value.ref 306), DictEntry.mk (PyData.keyHash P (Str.ofString "__sub__")) (Value.str (Str.ofString "__sub__") 549) (Value.ref 311), DictEntry.mk (PyData.keyHash P (Str.ofString "__isub__")) (Value.str (Str.ofString "__isub__") 557) (Value.ref 318), DictEntry.mk (PyData.keyHash P (Str.ofString "__matmul__")) (Value.str (Str.ofString "__matmul__") 563) (Value.ref 323), DictEntry.mk (PyData.keyHash P (Str.ofString "dot")) (Value.str (Str.ofString "dot") 572) (Value.ref 330), DictEntry.mk (PyData.keyHash P (Str.ofString "__static_attributes__")) (Value.str (Str.ofString "__static_attributes__") 576) (Value.ref 331), DictEntry.mk (PyData.keyHash P (Str.ofString "__dict__")) (Value.str (Str.ofString "__dict__") 578) (Value.ref 334), DictEntry.mk (PyData.keyHash P (Str.ofString "__weakref__")) (Value.str (Str.ofString "__weakref__") 580) (Value.ref 335), DictEntry.mk (PyData.keyHash P (Str.ofString "__doc__")) (Value.str (Str.ofString "__doc__") 581) Value.none, DictEntry.mk (PyData.keyHash P (Str.ofString "__hash__")) (Value.str (Str.ofString "__hash__") 582) Value.none] 5) #[]) ::
  (nat_lit 333, Obj.mk (Value.type "type") none (Data.cls (PySem.ClassData.mk (Str.ofString "GenericMatrix") [Value.type "object"] [Value.ref 333, Value.type "object"] 332 (Str.ofString "GenericMatrix") Bool.true [] [] Bool.false none Bool.false)) #[none, none, Option.some (Value.str (Str.ofString "GenericMatrix") 450), Option.some (Value.str (Str.ofString "GenericMatrix") 458), Option.some (Value.builtin "object.__new__"), Option.some (Value.bool Bool.true)]) ::
  (nat_lit 334, Obj.mk (Value.type "getset_descriptor") none (Data.fields #[Value.str (Str.ofString "__dict__") 577, Value.ref 333, Value.builtin "function.__dict__", Value.builtin "function.__dict__#set"]) #[]) ::
  (nat_lit 335, Obj.mk (Value.type "getset_descriptor") none (Data.fields #[Value.str (Str.ofString "__weakref__") 579, Value.ref 333, Value.builtin "ExceptionGroup.__weakref__", Value.none]) #[]) ::
  (nat_lit 345, Obj.mk (Value.type "tuple") none (Data.seq #[]) #[]) ::
  (nat_lit 347, Obj.mk (Value.type "tuple") none (Data.seq #[Value.str (Str.ofString "self") 600, Value.str (Str.ofString "ring") 601]) #[]) ::
  (nat_lit 348, Obj.mk (Value.type "tuple") none (Data.seq #[]) #[]) ::
  (nat_lit 350, Obj.mk (Value.type "code") none (Data.fields #[Value.str (Str.ofString "__init__") 597, Value.str (Str.ofString "GenericModule.__init__") 598, Value.str (Str.ofString "/claim/cut.py") 599, Value.int 247 0, Value.int 2 0, Value.int 0 0, Value.int 0 0, Value.int 3 0, Value.ref 345, Value.bool Bool.true, Value.int 181 0, Value.ref 346, Value.none, Value.ref 347, Value.ref 348, Value.ref 349, Value.int 602 0, Value.int 247 0, Value.str (Str.ofString "/claim/cut.py") 603]) #[]) ::
  (nat_lit 351, Obj.mk (Value.type "function") none (Data.func (PySem.FuncData.mk (Str.ofString "__init__") (Str.ofString "GenericModule.__init__") a129 (PySem.FuncBody.stmts b130) c131 3 [] Value.none Value.none Value.none (Value.str (Str.ofString "kyber_py.modules.modules_generic") 448) none (Value.ref 350) Value.none 0)) #[]) ::
  (nat_lit 352, Obj.mk (Value.type "tuple") none (Data.seq #[Value.bool Bool.false]) #[]) ::
  (nat_lit 353, Obj.mk (Value.type "tuple") none (Data.seq #[]) #[]) ::
  (nat_lit 355, Obj.mk (Value.type "tuple") none (Data.seq #[Value.str (Str.ofString "self") 608, Value.str (Str.ofString "data") 609, Value.str (Str.ofString "transpose") 610]) #[]) ::
  (nat_lit 356, Obj.mk (Value.type "tuple") none (Data.seq #[]) #[]) ::
  (nat_lit 358, Obj.mk (Value.type "code") none (Data.fields #[Value.str (Str.ofString "matrix_of") 605, Value.str (Str.ofString "GenericModule.matrix_of") 606, Value.str (Str.ofString "/claim/cut.py") 607, Value.int 250 0, Value.int 3 0, Value.int 0 0, Value.int 0 0, Value.int 3 0, Value.ref 353, Value.bool Bool.true, Value.int 181 0, Value.ref 354, Value.none, Value.ref 355, Value.ref 356, Value.ref 357, Value.int 611 0, Value.int 250 0, Value.str (Str.ofString "/claim/cut.py") 612]) #[]) ::
  (nat_lit 359, Obj.mk (Value.type "function") none (Data.func (PySem.FuncData.mk (Str.ofString "matrix_of") (Str.ofString "GenericModule.matrix_of") a132 (PySem.FuncBody.stmts b133) c134 3 [] (Value.ref 352) Value.none Value.none (Value.str (Str.ofString "kyber_py.modules.modules_generic") 448) none (Value.ref 358) Value.none 0)) #[]) ::
  (nat_lit 360, Obj.mk (Value.type "tuple") none (Data.seq #[Value.bool Bool.false]) #[]) ::
  (nat_lit 361, Obj.mk (Value.type "tuple") none (Data.seq #[]) #[]) ::
  (nat_lit 363, Obj.mk (Value.type "tuple") none (Data.seq #[Value.str (Str.ofString "self") 617, Value.str (Str.ofString "matrix_elements") 618, Value.str (Str.ofString "transpose") 619, Value.str (Str.ofString "element_list") 620]) #[]) ::
  (nat_lit 364, Obj.mk (Value.type "tuple") none (Data.seq #[]) #[]) ::
  (nat_lit 366, Obj.mk (Value.type "code") none (Data.fields #[Value.str (Str.ofString "__call__") 614, Value.str (Str.ofString "GenericModule.__call__") 615, Value.str (Str.ofString "/claim/cut.py") 616, Value.int 253 0, Value.int 3 0, Value.int 0 0, Value.int 0 0, Value.int 3 0, Value.ref 361, Value.bool Bool.true, Value.int 181 0, Value.ref 362, Value.none, Value.ref 363, Value.ref 364, Value.ref 365, Value.int 621 0, Value.int 253 0, Value.str (Str.ofString "/claim/cut.py") 622]) #[]) ::
  (nat_lit 367, Obj.mk (Value.type "function") none (Data.func (PySem.FuncData.mk (Str.ofString "__call__") (Str.ofString "GenericModule.__call__") a135 (PySem.FuncBody.stmts b136) c137 3 [] (Value.ref 360) Value.none Value.none (Value.str (Str.ofString "kyber_py.modules.modules_generic") 448) none (Value.ref 366) Value.none 0)) #[]) ::
  (nat_lit 368, Obj.mk (Value.type "tuple") none (Data.seq #[]) #[]) ::
  (nat_lit 370, Obj.mk (Value.type "tuple") none (Data.seq #[Value.str (Str.ofString "self") 627, Value.str (Str.ofString "elements") 628]) #[]) ::
  (nat_lit 371, Obj.mk (Value.type "tuple") none (Data.seq #[]) #[]) ::
  (nat_lit 373, Obj.mk (Value.type "code") none (Data.fields #[Value.str (Str.ofString "vector") 624, Value.str (Str.ofString "GenericModule.vector") 625, Value.str (Str.ofString "/claim/cut.py") 626, Value.int 268 0, Value.int 2 0, Value.int 0 0, Value.int 0 0, Value.int 3 0, Value.ref 368, Value.bool Bool.true, Value.int 181 0, Value.ref 369, Value.none, Value.ref 370, Value.ref 371, Value.ref 372, Value.int 629 0, Value.int 268 0, Value.str (Str.ofString "/claim/cut.py") 630]) #[]) ::
  (nat_lit 374, Obj.mk (Value.type "function") none (Data.func (PySem.FuncData.mk (Str.ofString "vector") (Str.ofString "GenericModule.vector") a138 (PySem.FuncBody.stmts b139) c140 3 [] Value.none Value.none Value.none (Value.str (Str.ofString "kyber_py.modules.modules_generic") 448) none (Value.ref 373) Value.none 0)) #[]) ::
  (nat_lit 375, Obj.mk (Value.type "tuple") none (Data.seq #[Value.str (Str.ofString "ring") 632]) #[]) ::
  (nat_lit 376, Obj.mk (Value.type "dict") none (Data.dict #[DictEntry.mk (PyData.keyHash P (Str.ofString "__module__")) (Value.str (Str.ofString "__module__") 592) (Value.str (Str.ofString "kyber_py.modules.modules_generic") 448), DictEntry.mk (PyData.keyHash P (Str.ofString "__firstlineno__")) (Value.str (Str.ofString "__firstlineno__") 596) (Value.int 245 595), DictEntry.mk (PyData.keyHash P (Str.ofString "__init__")) (Value.str (Str.ofString "__init__") 604) (Value.ref 351), DictEntry.mk (PyData.keyHash P (Str.ofString "matrix_of")) (Value.str (Str.ofString "matrix_of") 613) (Value.ref 359), DictEntry.mk (PyData.keyHash P (Str.ofString "__call__")) (Value.str (Str.ofString "__call__") 623) (Value.ref 367), DictEntry.mk (PyData.keyHash P (Str.ofString "vector")) (Value.str (Str.ofString "vector") 631) (Value.ref 374), DictEntry.mk (PyData.keyHash P (Str.ofString "__static_attributes__")) (Value.str (Str.ofString "__static_attributes__") 633) (Value.ref 375), DictEntry.mk (PyData.keyHash P (Str.ofString "__dict__")) (Value.str (Str.ofString "__dict__") 635) (Value.ref 378), DictEntry.mk (PyData.keyHash P (Str.ofString "__weakref__")) (Value.str (Str.ofString "__weakref__") 637) (Value.ref 379), DictEntry.mk (PyData.keyHash P (Str.ofString "__doc__")) (Value.str (Str.ofString "__doc__") 638) Value.none] 4) #[]) ::
  (nat_lit 377, Obj.mk (Value.type "type") none (Data.cls (PySem.ClassData.mk (Str.ofString "GenericModule") [Value.type "object"] [Value.ref 377, Value.type "object"] 376 (Str.ofString "GenericModule") Bool.true [] [] Bool.false none Bool.false)) #[none, none, Option.some (Value.str (Str.ofString "GenericModule") 585), Option.some (Value.str (Str.ofString "GenericModule") 593), Option.some (Value.builtin "object.__new__"), Option.some (Value.bool Bool.true)]) ::
  (nat_lit 378, Obj.mk (Value.type "getset_descriptor") none (Data.fields #[Value.str (Str.ofString "__dict__") 634, Value.ref 377, Value.builtin "function.__dict__", Value.builtin "function.__dict__#set"]) #[]) ::
  (nat_lit 379, Obj.mk (Value.type "getset_descriptor") none (Data.fields #[Value.str (Str.ofString "__weakref__") 636, Value.ref 377, Value.builtin "ExceptionGroup.__weakref__", Value.none]) #[]) ::
  (nat_lit 382, Obj.mk (Value.type "tuple") none (Data.seq #[]) #[]) ::
  (nat_lit 384, Obj.mk (Value.type "tuple") none (Data.seq #[Value.str (Str.ofString "state") 646, Value.str (Str.ofString "place") 647, Value.str (Str.ofString "value") 648, Value.str (Str.ofString "bound") 649]) #[]) ::
  (nat_lit 385, Obj.mk (Value.type "tuple") none (Data.seq #[]) #[]) ::
  (nat_lit 387, Obj.mk (Value.type "code") none (Data.fields #[Value.str (Str.ofString "_law_draw") 643, Value.str (Str.ofString "_law_draw") 644, Value.str (Str.ofString "/claim/cut.py") 645, Value.int 271 0, Value.int 1 0, Value.int 0 0, Value.int 0 0, Value.int 3 0, Value.ref 382, Value.bool Bool.true, Value.int 181 0, Value.ref 383, Value.none, Value.ref 384, Value.ref 385, Value.ref 386, Value.int 650 0, Value.int 271 0, Value.str (Str.ofString "/claim/cut.py") 651]) #[]) ::
  (nat_lit 388, Obj.mk (Value.type "function") none (Data.func (PySem.FuncData.mk (Str.ofString "_law_draw") (Str.ofString "_law_draw") a141 (PySem.FuncBody.stmts b142) c143 3 [] Value.none Value.none Value.none (Value.str (Str.ofString "law_ye0001_05") 641) none (Value.ref 387) Value.none 0)) #[]) ::
  (nat_lit 389, Obj.mk (Value.type "tuple") none (Data.seq #[]) #[]) ::
  (nat_lit 392, Obj.mk (Value.type "code") none (Data.fields #[Value.str (Str.ofString "_law_grid") 653, Value.str (Str.ofString "_law_grid") 654, Value.str (Str.ofString "/claim/cut.py") 655, Value.int 281 0, Value.int 4 0, Value.int 0 0, Value.int 0 0, Value.int 3 0, Value.ref 389, Value.bool Bool.true, Value.int 181 0, Value.ref 390, Value.none, Value.none, Value.none, Value.ref 391, Value.int 656 0, Value.int 281 0, Value.str (Str.ofString "/claim/cut.py") 657]) #[]) ::
  (nat_lit 393, Obj.mk (Value.type "function") none (Data.func (PySem.FuncData.mk (Str.ofString "_law_grid") (Str.ofString "_law_grid") a144 (PySem.FuncBody.stmts b145) c146 3 [] Value.none Value.none Value.none (Value.str (Str.ofString "law_ye0001_05") 641) none (Value.ref 392) Value.none 0)) #[]) ::
  (nat_lit 394, Obj.mk (Value.type "tuple") none (Data.seq #[]) #[]) ::
  (nat_lit 397, Obj.mk (Value.type "code") none (Data.fields #[Value.str (Str.ofString "_law_stored") 659, Value.str (Str.ofString "_law_stored") 660, Value.str (Str.ofString "/claim/cut.py") 661, Value.int 283 0, Value.int 4 0, Value.int 0 0, Value.int 0 0, Value.int 3 0, Value.ref 394, Value.bool Bool.true, Value.int 181 0, Value.ref 395, Value.none, Value.none, Value.none, Value.ref 396, Value.int 662 0, Value.int 283 0, Value.str (Str.ofString "/claim/cut.py") 663]) #[]) ::
  (nat_lit 398, Obj.mk (Value.type "function") none (Data.func (PySem.FuncData.mk (Str.ofString "_law_stored") (Str.ofString "_law_stored") a147 (PySem.FuncBody.stmts b148) c149 3 [] Value.none Value.none Value.none (Value.str (Str.ofString "law_ye0001_05") 641) none (Value.ref 397) Value.none 0)) #[]) ::
  (nat_lit 399, Obj.mk (Value.type "tuple") none (Data.seq #[]) #[]) ::
  (nat_lit 401, Obj.mk (Value.type "tuple") none (Data.seq #[Value.str (Str.ofString "made") 668, Value.str (Str.ofString "grid") 669, Value.str (Str.ofString "i") 670, Value.str (Str.ofString "j") 671]) #[]) ::
  (nat_lit 402, Obj.mk (Value.type "tuple") none (Data.seq #[]) #[]) ::
  (nat_lit 404, Obj.mk (Value.type "code") none (Data.fields #[Value.str (Str.ofString "_law_kept") 665, Value.str (Str.ofString "_law_kept") 666, Value.str (Str.ofString "/claim/cut.py") 667, Value.int 288 0, Value.int 2 0, Value.int 0 0, Value.int 0 0, Value.int 3 0, Value.ref 399, Value.bool Bool.true, Value.int 181 0, Value.ref 400, Value.none, Value.ref 401, Value.ref 402, Value.ref 403, Value.int 672 0, Value.int 288 0, Value.str (Str.ofString "/claim/cut.py") 673]) #[]) ::
  (nat_lit 405, Obj.mk (Value.type "function") none (Data.func (PySem.FuncData.mk (Str.ofString "_law_kept") (Str.ofString "_law_kept") a150 (PySem.FuncBody.stmts b151) c152 3 [] Value.none Value.none Value.none (Value.str (Str.ofString "law_ye0001_05") 641) none (Value.ref 404) Value.none 0)) #[]) ::
  (nat_lit 406, Obj.mk (Value.type "tuple") none (Data.seq #[]) #[]) ::
  (nat_lit 408, Obj.mk (Value.type "tuple") none (Data.seq #[Value.str (Str.ofString "grid") 678, Value.str (Str.ofString "start") 679, Value.str (Str.ofString "down") 680, Value.str (Str.ofString "across") 681, Value.str (Str.ofString "base") 682, Value.str (Str.ofString "q") 683, Value.str (Str.ofString "whole") 684, Value.str (Str.ofString "i") 685, Value.str (Str.ofString "j") 686, Value.str (Str.ofString "row") 687, Value.str (Str.ofString "part") 688, Value.str (Str.ofString "at") 689]) #[]) ::
  (nat_lit 409, Obj.mk (Value.type "tuple") none (Data.seq #[]) #[]) ::
  (nat_lit 411, Obj.mk (Value.type "code") none (Data.fields #[Value.str (Str.ofString "_law_written") 675, Value.str (Str.ofString "_law_written") 676, Value.str (Str.ofString "/claim/cut.py") 677, Value.int 296 0, Value.int 6 0, Value.int 0 0, Value.int 0 0, Value.int 3 0, Value.ref 406, Value.bool Bool.true, Value.int 181 0, Value.ref 407, Value.none, Value.ref 408, Value.ref 409, Value.ref 410, Value.int 690 0, Value.int 296 0, Value.str (Str.ofString "/claim/cut.py") 691]) #[]) ::
  (nat_lit 412, Obj.mk (Value.type "function") none (Data.func (PySem.FuncData.mk (Str.ofString "_law_written") (Str.ofString "_law_written") a153 (PySem.FuncBody.stmts b154) c155 3 [] Value.none Value.none Value.none (Value.str (Str.ofString "law_ye0001_05") 641) none (Value.ref 411) Value.none 0)) #[]) ::
  (nat_lit 413, Obj.mk (Value.type "tuple") none (Data.seq #[]) #[]) ::
  (nat_lit 416, Obj.mk (Value.type "code") none (Data.fields #[Value.str (Str.ofString "_law_read") 693, Value.str (Str.ofString "_law_read") 694, Value.str (Str.ofString "/claim/cut.py") 695, Value.int 306 0, Value.int 5 0, Value.int 0 0, Value.int 0 0, Value.int 3 0, Value.ref 413, Value.bool Bool.true, Value.int 181 0, Value.ref 414, Value.none, Value.none, Value.none, Value.ref 415, Value.int 696 0, Value.int 306 0, Value.str (Str.ofString "/claim/cut.py") 697]) #[]) ::
  (nat_lit 417, Obj.mk (Value.type "function") none (Data.func (PySem.FuncData.mk (Str.ofString "_law_read") (Str.ofString "_law_read") a156 (PySem.FuncBody.stmts b157) c158 3 [] Value.none Value.none Value.none (Value.str (Str.ofString "law_ye0001_05") 641) none (Value.ref 416) Value.none 0)) #[]) ::
  (nat_lit 418, Obj.mk (Value.type "tuple") none (Data.seq #[]) #[]) ::
  (nat_lit 421, Obj.mk (Value.type "code") none (Data.fields #[Value.str (Str.ofString "law") 699, Value.str (Str.ofString "law") 700, Value.str (Str.ofString "/claim/cut.py") 701, Value.int 338 0, Value.int 1 0, Value.int 0 0, Value.int 0 0, Value.int 3 0, Value.ref 418, Value.bool Bool.true, Value.int 181 0, Value.ref 419, Value.none, Value.none, Value.none, Value.ref 420, Value.int 702 0, Value.int 338 0, Value.str (Str.ofString "/claim/cut.py") 703]) #[]) ::
  (nat_lit 422, Obj.mk (Value.type "function") none (Data.func (PySem.FuncData.mk (Str.ofString "law") (Str.ofString "law") a159 (PySem.FuncBody.stmts b160) c161 3 [] Value.none Value.none Value.none (Value.str (Str.ofString "law_ye0001_05") 641) none (Value.ref 421) Value.none 0)) #[]) :: [] : Frag)
abbrev heapA : List Addr := [2, 3, 29, 31, 32, 34, 35, 50, 52, 53, 55, 56, 57, 58, 59, 60, 61, 71, 73, 74, 76, 77, 92, 95, 96, 104, 106, 107, 109, 110, 118, 121, 122, 128, 131, 132, 133, 135, 136, 138, 139, 140, 142, 143, 145, 146, 180, 183, 184, 220, 221, 222, 223, 224, 234, 235, 237, 238, 240, 241, 242, 244, 245, 247, 248, 249, 251, 252, 254, 255, 256, 258, 259, 261, 262, 270, 278, 280, 281, 283, 284, 319, 322, 323, 324, 326, 327, 329, 330, 331, 332, 333, 334, 335, 345, 347, 348, 350, 351, 352, 353, 355, 356, 358, 359, 360, 361, 363, 364, 366, 367, 368, 370, 371, 373, 374, 375, 376, 377, 378, 379, 382, 384, 385, 387, 388, 389, 392, 393, 394, 397, 398, 399, 401, 402, 404, 405, 406, 408, 409, 411, 412, 413, 416, 417, 418, 421, 422]
theorem fill_mark : PySem.Challenge.rw_ye0001_05.foot = PySem.Challenge.rw_ye0001_05.foot ∧ heapK = heapK := by
  k_fill
  exact ⟨rfl, rfl⟩
end Mine
namespace Mine
/-- the top's run over a tree of objects -/
def topRunT (tb : String → Option Builtin) (p : Program) (w : World) (n₀ : Nat) (ann : Option Value) : Nat → SharedT → Thread → Option SharedT
  | 0, _, _ => none
  | n + 1, s, t => match through t with
    | true => some s
    | false => match stepOk n₀ ann t with
      | false => none
      | true => match stepT (denote tb) p w s t with
        | some (s', t') => topRunT tb p w n₀ ann n s' t'
        | none => none
theorem topRun_of {tb : String → Option Builtin} {p : Program} {w : World} {n₀ : Nat} {ann : Option Value} : ∀ {n : Nat} {s s' : SharedT} {t : Thread}, topRunT tb p w n₀ ann n s t = some s' → topRun tb p w n₀ ann n s.abs t = some s'.abs
  | 0, _, _, _, h => by cases h
  | n + 1, s, s', t, h => by
    unfold topRunT at h
    unfold topRun
    cases ht : through t with
    | true => rw [ht] at h; cases h; rfl
    | false =>
      rw [ht] at h
      cases hk : stepOk n₀ ann t with
      | false => rw [hk] at h; cases h
      | true =>
        rw [hk] at h
        cases hs : stepT (denote tb) p w s t with
        | none => rw [hs] at h; cases h
        | some r => obtain ⟨s₂, t₂⟩ := r; rw [hs] at h; dsimp only at h ⊢; rw [stepT_spec hs]; exact topRun_of h
def treeFrom : List Obj → Nat → BT → Option BT
  | [], _, t => some t
  | o :: os, k, t => match ((t.ins k o).get k).isSome with
    | true => treeFrom os (k + 1) (t.ins k o)
    | false => none
theorem treeFrom_abs {life : Life} : ∀ {l : List Obj} {k : Nat} {t t' : BT}, treeFrom l k t = some t' → (absHeap t' (k + l.length) life).objs = (absHeap t k life).objs ++ l.toArray
  | [], k, t, t', h => by cases h; simp
  | o :: os, k, t, t', h => by
    unfold treeFrom at h
    cases e : ((t.ins k o).get k).isSome with
    | false => rw [e] at h; cases h
    | true =>
      rw [e] at h
      have z := treeFrom_abs (life := life) h
      rw [absHeap_ins e] at z
      rw [List.length_cons, show k + (os.length + 1) = k + 1 + os.length by omega, z]
      simp [Heap.push]
theorem treeFrom_heap {h : Heap} {t : BT} (e : treeFrom h.objs.toList 0 .nil = some t) : absHeap t h.objs.size h.life = h := by
  have z := treeFrom_abs (life := h.life) e
  rw [Nat.zero_add, Array.length_toList] at z
  obtain ⟨os, life⟩ := h
  have z2 : (absHeap BT.nil 0 life).objs = #[] := rfl
  rw [z2] at z
  show Heap.mk _ _ = Heap.mk _ _
  exact congrArg (Heap.mk · life) (z.trans (by simp))
theorem left_tree {p q : Program} {loose : List Str} {Xt : Shared → Bool} {α : Type} {Yf : Shared → α} {Ya : World → α} {N m₀ : Nat} {ann : Option Value} (e : opening p = plainProg p.main.scope.names) (hN : Nat.ble 600 N = true) (f : ∀ s, fenceModules? p s = some s)
    (size : ∀ P : Params, ((boot_heap P).isNs mainGlobals, (boot_heap P).objs.size, (boot_heap P).nsMap mainGlobals "__annotations__") = (true, m₀, ann))
    (h : ∀ w os, ((treeFrom (boot_heap w.params).objs.toList 0 .nil).bind fun T => topRunT treeTable p w m₀ ann N ⟨T, m₀, (boot_heap w.params).life, Array.mk [], boot_drawn, boot_toks, os⟩ (topStub p)).map
      (fun s => (staticsOk (importedModules p.main.body) (boot_heap w.params) s.abs.heap && namesBound p s.abs.heap && gensDone s.abs && laidKept (boot_heap w.params) s.abs.heap, openSeen q loose (importedModules p.main.body) Xt true s.abs, Yf s.abs)) = some (true, openGood q loose, Ya w)) :
    LeftO p q loose Xt Yf Ya N := fun w => by
  obtain ⟨⟨hp, gs, d, k, os⟩, hs, hv⟩ := Option.map_eq_some_iff.mp (boot_open e hN f w)
  obtain ⟨rfl, rfl, rfl, rfl⟩ : hp = boot_heap w.params ∧ gs = Array.mk [] ∧ d = boot_drawn ∧ k = boot_toks := by simpa using hv
  obtain ⟨z1, z2, z3⟩ : _ ∧ _ ∧ _ := by simpa only [Prod.mk.injEq] using size w.params
  obtain ⟨s, h1, h2⟩ := Option.map_eq_some_iff.mp (h w os)
  obtain ⟨T, h3, h4⟩ := Option.bind_eq_some_iff.mp h1
  obtain ⟨l1, l2, l3⟩ : _ ∧ _ ∧ _ := by simpa only [Prod.mk.injEq] using h2
  have r := topRun_of h4
  have ab : SharedT.abs ⟨T, m₀, (boot_heap w.params).life, Array.mk [], boot_drawn, boot_toks, os⟩ = ⟨boot_heap w.params, Array.mk [], boot_drawn, boot_toks, os⟩ := by
    unfold SharedT.abs
    dsimp only
    rw [← z2, treeFrom_heap h3]
  rw [ab] at r
  have t : topFrom treeTable p w N ⟨boot_heap w.params, Array.mk [], boot_drawn, boot_toks, os⟩ = some s.abs := by
    unfold topFrom
    dsimp only
    rw [z1, z2, z3, r]
    show (match staticsOk (importedModules p.main.body) (boot_heap w.params) s.abs.heap && namesBound p s.abs.heap && gensDone s.abs && laidKept (boot_heap w.params) s.abs.heap with | true => _ | false => _) = _
    rw [l1]
  unfold openEnds
  rw [hs]
  show (topFrom treeTable p w N _).map _ = _
  rw [t]
  exact congrArg some (Prod.ext l2 l3)
end Mine

namespace Mine
noncomputable def viewQ : Program := { PySem.Challenge.pw_ye0001_05 with main := { PySem.Challenge.pw_ye0001_05.main with body := [0, 2, 3, 5, 6, 8, 9, 10, 11, 12, 13, 14].filterMap fun i => PySem.Challenge.pw_ye0001_05.main.body[i]? } }
noncomputable abbrev HK : Hook := kmHook heapK heapA (fun _ => by kernel_rfl) [362, 320]
abbrev lo5 : List Str := [Str.ofString "GenericMatrix"]
theorem hn : LeftO PySem.Challenge.rw_ye0001_05.row.prog viewQ lo5 (fun s => xlAt viewQ [] s && recOk (RowW.records (PySem.Challenge.rw_ye0001_05.row).toRowW) s) (Hook.obs HK) (Hook.val HK) 5222 := by
  refine left_tree (m₀ := 11) (ann := some (.ref 6)) (by kernel_rfl) (by decide +kernel) (fun _ => rfl) (fun P => by kernel_rfl) ?_
  intro w os
  kernel_rfl
-- the row is well said, in pieces
theorem ws_res : namesResolve PySem.Challenge.rw_ye0001_05.prog = true := by kernel_rfl
theorem ws_meet : (namesMeet PySem.Challenge.rw_ye0001_05.prog PySem.Challenge.rw_ye0001_05.prog.main.body fun _ n => attrL n) = true := by kernel_rfl
theorem ws_bare : (["vars", "dir", "locals"] : List Str).filter (readsOut PySem.Challenge.rw_ye0001_05.prog PySem.Challenge.rw_ye0001_05.prog.main.body) = [] := by kernel_rfl
theorem ws_road : noRoadLSs { strict := !(importedModules PySem.Challenge.rw_ye0001_05.prog.main.body).all cThrough.contains, foot := none, bare := [] } PySem.Challenge.rw_ye0001_05.prog.main.body = true := by kernel_rfl
theorem ws_look : looksOpen PySem.Challenge.rw_ye0001_05.prog = true := by
  unfold looksOpen
  repeat' (with_reducible refine look_both ?_ ?_)
  · kernel_rfl
  · kernel_rfl
  · exact ws_res
  · kernel_rfl
  · rw [ws_bare]; exact ws_road
  · exact ws_meet
theorem ws_part : PySem.Challenge.rw_ye0001_05.row.partSaid = true := by
  unfold OpenRow.partSaid
  repeat' (with_reducible refine look_both ?_ ?_)
  · exact ws_look
  all_goals kernel_rfl
theorem ws_row : PySem.Challenge.rw_ye0001_05.row.wellSaid = true := look_both (look_both ws_part (by kernel_rfl)) (by kernel_rfl)
theorem ws_all : PySem.Challenge.rw_ye0001_05.wellSaid = true := by
  unfold OpenLaw.wellSaid
  repeat' (with_reducible refine look_both ?_ ?_)
  · exact ws_row
  all_goals kernel_rfl
structure Wrap (P : Prop) : Prop where
  h : P
/-- the head: what is left to be shown of the law is its first part -/
noncomputable def headC : {P : Prop // Wrap P → PySem.Challenge.rw_ye0001_05.Holds} := ⟨_, fun hP => by
  w_on; refine holds_law ws_all fun said => ?_
  refine holds_open (q := Mine.viewQ) (loose := Mine.lo5) (Xt := fun s => xlAt Mine.viewQ [] s && recOk (RowW.records (PySem.Challenge.rw_ye0001_05.row).toRowW) s) (XP := XL Mine.viewQ []) (Yf := Hook.obs Mine.HK) (Ya := Hook.val Mine.HK) (YP := Hook.says Mine.HK) (N := 5222) Mine.hn (Hook.of Mine.HK) (Hook.keeps Mine.HK) (fun s e => xl_of s (Bool.and_eq_true_iff.mp e).1) XL.keeps (by rfl) (by rfl) (by rfl) (fun s e => recFacts_of (Bool.and_eq_true_iff.mp e).2) (by rfl) (by first | assumption | decide +kernel) (by decide +kernel) ⟨rfl, rfl, rfl, rfl, rfl, by decide +kernel⟩ ?hw ?hc
  case hw => w_witness2
  revert said
  exact @Wrap.h _ hP⟩
end Mine
namespace Mine

def Grow (h h' : Heap) : Prop := ∀ b o, h.get? b = some o → h'.get? b = some o
theorem Grow.trans {a b c : Heap} (x : Grow a b) (y : Grow b c) : Grow a c := fun i o e => y i o (x i o e)
def HeapIs (h : Heap) (a : Addr) (o : Obj) : Prop := h.get? a = some o
def Fresh (h h' : Heap) (a : Addr) (o : Obj) : Prop := h'.get? a = some o ∧ h.get? a = none
def Stop (P : Prop) : Prop := P
theorem Stop.mk {P : Prop} (h : Stop P) : P := h
theorem Stop.out {P : Prop} (h : P) : Stop P := h
abbrev Ar (dp : Nat) (fr : Option (List Env)) (gd : Option (List Code)) (un : Nat) : Around := { handled := none, depth := dp, frames := fr, guards := gd, units := un }

theorem InstAt.of_base {h₀ h : Heap} {L x C dx : Addr} {m : Str → Option Value} {od : Obj} (F : Fr h₀ L h m) (h1 : h₀.get? x = some (instObj C dx)) (h2 : h₀.get? dx = some od) :
    InstAt h x (instObj C dx) C (some od) := ⟨F.keep _ _ h1, rfl, rfl, F.keep _ _ h2⟩

section
variable {prog : Program} {w : World} {A : Around} {s : Shared} {h₀ : Heap} {K : Frag} {p : Program} {loose : List Str} {mg mb : Str → Option Value}
  {R : Result → Shared → Prop} {name qual : Str} {params : Arguments} {body : List Stmt} {scope : Scope} {dV kV doc pm cdv ct oc : Value} {an od : Option Addr} {osl : Array (Option Value)} {f : Addr} {args : Args} {binds : List (Str × Value)}

/-- a call of a def without cells: the callee's ground is the whole heap at the call -/
theorem enter0 (hsub : Grow h₀ s.heap) (X : K.In h₀) (T : TopRead p loose mg mb h₀)
    (ho : K.lookup f = some ⟨oc, od, .func (fnOf name qual params body scope dV kV doc pm an cdv ct), osl⟩) (hcd : codeIn K cdv qual = true) (hroom : A.depth < recursionLimit)
    (hbind : BindsTo s (fnOf name qual params body scope dV kV doc pm an cdv ct) args binds) (hloc : ∀ y ∈ binds, scope.names.lookup y.1 = some .local)
    (h : ∀ L' h₁, K.In s.heap → TopRead p loose mg mb s.heap → Fr s.heap L' h₁ (fun y => binds.reverse.lookup y) → News s.heap L' h₁ [] →
      wpAny (model prog w) (A.deeper (envOf qual scope L' f cdv)) (execs body (envOf qual scope L' f cdv))
        (fun fl s' => R (.ok (.ret (match fl with | .ret v => v | _ => .none))) s') (fun _ _ => False)
        { s with heap := h₁, toks := s.toks + binds.length })
    (hco : scope.isCoroutine = false) (hgen : scope.isGenerator = false) (hk : scope.kind = .function)
    (hcell : ∀ x ∈ scope.names, x.2 ≠ .cell) : codeAny (model prog w) A (.call (.ref f) args) R s := by
  refine codeAny_call_def (fd := fnOf name qual params body scope dV kV doc pm an cdv ct) (body := body) (binds := binds) hroom (hsub _ _ (X _ _ ho)) rfl (T.nolimit.keeps hsub) (codeRec_of (X.keeps hsub) hcd) rfl hbind hcell hloc (fun h₁ hns hk₁ => ?_) hco hgen hk
  exact wpAny_mono (h s.heap.objs.size h₁ (X.keeps hsub) (T.keeps hsub) ⟨hns, hk₁, Nat.le_refl _⟩ News.nil) (fun _ _ y => y) fun _ _ y => y.elim

theorem enterC (hsub : Grow h₀ s.heap) (X : K.In h₀) (T : TopRead p loose mg mb h₀)
    (ho : K.lookup f = some ⟨oc, od, .func (fnOf name qual params body scope dV kV doc pm an cdv ct), osl⟩) (hcd : codeIn K cdv qual = true) (hroom : A.depth < recursionLimit)
    (hbind : BindsTo s (fnOf name qual params body scope dV kV doc pm an cdv ct) args binds)
    (hkind : (binds.all fun y => scope.names.lookup y.1 == some .local || scope.names.lookup y.1 == some .cell) = true)
    (hnd : ((cellsFrom 0 scope.names []).map (·.1)).Nodup)
    (h : ∀ L' h₁ tk cells, K.In s.heap → TopRead p loose mg mb s.heap → Fr s.heap L' h₁ (bindL (envOfC qual scope L' f cdv).kindOf binds fun _ => none) → News s.heap L' h₁ cells →
      CellsAre (bindC (envOfC qual scope L' f cdv).kindOf binds fun _ => none) (cellsFrom (L' + 1) scope.names []) cells →
      wpAny (model prog w) (A.deeper (envOfC qual scope L' f cdv)) (execs body (envOfC qual scope L' f cdv))
        (fun fl s' => R (.ok (.ret (match fl with | .ret v => v | _ => .none))) s') (fun _ _ => False)
        { s with heap := h₁, toks := tk })
    (hco : scope.isCoroutine = false) (hgen : scope.isGenerator = false) (hk : scope.kind = .function) : codeAny (model prog w) A (.call (.ref f) args) R s := by
  refine codeAny_call_function hroom (hsub _ _ (X _ _ ho)) rfl hco hgen rfl (codeRec_of (X.keeps hsub) hcd) (hbind _ _ _ _ ?_)
  refine wpAny_newFunctionEnv_cells hk (kindsX hkind _) fun env' he s' x => ?_
  subst he
  refine ⟨(T.nolimit.keeps hsub).keeps x.toInCall.keep, codeAny_func ?_⟩
  obtain ⟨h₁, tk, rfl, _⟩ := x.done
  have hk₁ := x.toInCall.keep
  obtain ⟨cells, NC, Y⟩ := Cl.news (h₀ := s.heap) (Nat.le_refl _) fun n c hm => ⟨x.cell n c (lookup_of_mem_nodup (cellsFrom_names scope.names 0 (s.heap.objs.size + 1) [] [] rfl ▸ hnd) hm), x.above n c hm⟩
  exact wpAny_mono (h s.heap.objs.size h₁ tk cells (X.keeps hsub) (T.keeps hsub) ⟨x.toInCall.ns, hk₁, Nat.le_refl _⟩ NC Y) (fun _ _ y => y) fun _ _ y => y.elim
end

section
variable {prog : Program} {w : World} {A : Around} {s : Shared} {h₀ : Heap} {L : Addr} {m : Str → Option Value} {env : Env} {elt : PySem.Expr} {x : Str} {scope : Scope} {cl : List (Str × Addr)}
  {S : List (Addr × Obj) → Prop} {P : Nat → Value → Prop} {Fin : List Value → List (Addr × Obj) → Prop}

theorem comp_invAux (J : Nat → List Value → List (Addr × Obj) → Prop) (n : Nat)
    (turn : ∀ i ys news, i < n → ys.length = i → J i ys news → ∀ v I oI C oC D m₂ h tk (E' : Value → Shared → Prop), P i v → LCg.NsObj oC m₂ → m₂ x = some v → Fr h₀ L h m →
      News h₀ L h ((I, oI) :: (C, oC) :: (D, LCg.lst ys) :: news) → LCg.Off3 I C D news → ((@Ne Nat I C) ∧ (@Ne Nat I D) ∧ (@Ne Nat C D)) →
      wpAny (model prog w) A (eval elt (compEnvC scope cl C env)) (LCg.CompEnd h₀ L m { s with heap := h, toks := tk } I oI C oC D (LCg.lst ys) S (fun y news' => J (i + 1) (ys ++ [y]) news')) E' { s with heap := h, toks := tk })
    (done : ∀ ys news, ys.length = n → J n ys news → Fin ys news) :
    ∀ (k i : Nat) (ys : List Value) (news : List (Addr × Obj)), i + k = n → ys.length = i → J i ys news → LCg.CompRest prog w A h₀ L m env elt x scope cl s S P Fin k i ys news
  | 0, i, ys, news, e, hl, hj => LCg.CompRest.zero (done ys news (by omega) (by have : i = n := by omega
                                                                                subst this; exact hj))
  | k + 1, i, ys, news, e, hl, hj => LCg.CompRest.succ fun v I oI C oC D m₂ h tk E' hP hC hx F N off ne =>
      wpAny_mono (turn i ys news (by omega) hl hj v I oI C oC D m₂ h tk E' hP hC hx F N off ne) (fun y s₂ hs => by
        obtain ⟨h', tk', news', e1, F', N', off', hS, hr⟩ := hs
        exact ⟨h', tk', news', e1, F', N', off', hS, comp_invAux J n turn done k (i + 1) (ys ++ [y]) news' (by omega) (by simp [hl]) hr⟩) fun _ _ z => z

theorem comp_inv (J : Nat → List Value → List (Addr × Obj) → Prop) {n : Nat} {news : List (Addr × Obj)}
    (turn : ∀ i ys news, i < n → ys.length = i → J i ys news → ∀ v I oI C oC D m₂ h tk (E' : Value → Shared → Prop), P i v → LCg.NsObj oC m₂ → m₂ x = some v → Fr h₀ L h m →
      News h₀ L h ((I, oI) :: (C, oC) :: (D, LCg.lst ys) :: news) → LCg.Off3 I C D news → ((@Ne Nat I C) ∧ (@Ne Nat I D) ∧ (@Ne Nat C D)) →
      wpAny (model prog w) A (eval elt (compEnvC scope cl C env)) (LCg.CompEnd h₀ L m { s with heap := h, toks := tk } I oI C oC D (LCg.lst ys) S (fun y news' => J (i + 1) (ys ++ [y]) news')) E' { s with heap := h, toks := tk })
    (h0 : J 0 [] news) (done : ∀ ys news, ys.length = n → J n ys news → Fin ys news) : LCg.CompRest prog w A h₀ L m env elt x scope cl s S P Fin n 0 [] news :=
  comp_invAux J n turn done n 0 [] news (by omega) rfl h0

/-- what an element's turn comes to when it makes an int and leaves the ledger alone -/
def IntBack (h₀ : Heap) (L : Addr) (m : Str → Option Value) (s : Shared) (led : List (Addr × Obj)) (z : Int) (y : Value) (s₂ : Shared) : Prop :=
  ∃ h' tk' t, y = .int z t ∧ s₂ = { s with heap := h', toks := tk' } ∧ Fr h₀ L h' m ∧ News h₀ L h' led
theorem IntBack.mk {led : List (Addr × Obj)} {z z' : Int} {t : Tok} {h' : Heap} {tk' : Nat} (e : z' = z) (F : Fr h₀ L h' m) (N : News h₀ L h' led) :
    IntBack h₀ L m s led z (.int z' t) { s with heap := h', toks := tk' } := ⟨h', tk', t, by rw [e], rfl, F, N⟩

theorem comp_ints (f : Nat → Int) {n : Nat} {news : List (Addr × Obj)} (hS : S news)
    (turn : ∀ i ys, i < n → ys.length = i → ∀ v I oI C oC D m₂ h tk (E' : Value → Shared → Prop), P i v → LCg.NsObj oC m₂ → m₂ x = some v → Fr h₀ L h m →
      News h₀ L h ((I, oI) :: (C, oC) :: (D, LCg.lst ys) :: news) →
      wpAny (model prog w) A (eval elt (compEnvC scope cl C env)) (IntBack h₀ L m s ((I, oI) :: (C, oC) :: (D, LCg.lst ys) :: news) (f i)) E' { s with heap := h, toks := tk })
    (done : ∀ ys, IntsAre ys ((List.range n).map f) → Fin ys news) : LCg.CompRest prog w A h₀ L m env elt x scope cl s S P Fin n 0 [] news := by
  refine comp_inv (fun i ys led => led = news ∧ IntsAre ys ((List.range i).map f)) ?_ ⟨rfl, .nil⟩ (fun ys led hl hj => hj.1 ▸ done ys hj.2)
  rintro i ys led hi hl ⟨rfl, hj⟩ v I oI C oC D m₂ h tk E' hP hC hx F N off ne
  refine wpAny_mono (turn i ys hi hl v I oI C oC D m₂ h tk E' hP hC hx F N) (fun y s₂ hs => ?_) fun _ _ z => z
  obtain ⟨h', tk', t, rfl, rfl, F', N'⟩ := hs
  refine ⟨h', tk', led, rfl, F', N', off, hS, rfl, ?_⟩
  rw [List.range_succ, List.map_append]
  exact hj.append (.cons _ _ .nil)
end

section
variable {prog : Program} {w : World} {A : Around} {E : Value → Shared → Prop} {s : Shared} {env : Env} {h₀ : Heap} {x : Str} {body : List Stmt} {Q : Flow → Shared → Prop}

/-- a turn's end: one list of ints turned -/
def IntsTurn (h₀ : Heap) (L : Addr) (x : Str) (stored : List Str) (m₀ : Str → Option Value) (d : Addr) (nn : Nat) (rest : List (Addr × Obj)) (P : List Int → Prop) (s : Shared) (f : Flow) (s₂ : Shared) : Prop :=
  match f with
  | .ret _ => False
  | .brk => False
  | _ => ∃ h' tk m' vs c, s₂ = { s with heap := h', toks := tk } ∧ Fr h₀ L h' m' ∧ News h₀ L h' ((d, listOf (List.toArray vs) nn) :: rest) ∧ IntsAre vs c ∧ P c ∧ (∀ z, z ≠ x → stored.contains z = false → m' z = m₀ z)
theorem IntsTurn.mk {L : Addr} {stored : List Str} {m₀ m' : Str → Option Value} {d : Addr} {nn : Nat} {rest : List (Addr × Obj)} {P : List Int → Prop} {h' : Heap} {tk : Nat} {vs : List Value} {c : List Int}
    (F : Fr h₀ L h' m') (N : News h₀ L h' ((d, listOf (List.toArray vs) nn) :: rest)) (hi : IntsAre vs c) (hp : P c) (hm : ∀ z, z ≠ x → stored.contains z = false → m' z = m₀ z) :
    IntsTurn h₀ L x stored m₀ d nn rest P s .next { s with heap := h', toks := tk } := ⟨h', tk, m', vs, c, rfl, F, N, hi, hp, hm⟩

theorem range_ints {r d : Addr} {a₀ b₀ : Int} {t₀ u₀ v₀ : Tok} {n nn : Nat} {m₀ : Str → Option Value} {rest : List (Addr × Obj)} {vs₀ : List Value} {c₀ : List Int} (stored : List Str) (P : Nat → List Int → Prop)
    (hh : A.handled = none) (hr : IsRange s.heap r a₀ b₀ 1 t₀ u₀ v₀) (hsmall : Builtin.Range.small a₀ b₀ 1 = true) (hn : Builtin.Range.rangeSize a₀ b₀ 1 = (n : Int)) (F : Fr h₀ env.locals s.heap m₀)
    (N : News h₀ env.locals s.heap ((d, listOf (List.toArray vs₀) nn) :: rest)) (hoff : ∀ p ∈ rest, p.1 ≠ d) (hi : IntsAre vs₀ c₀) (hp : P 0 c₀)
    (turn : ∀ (i : Nat) (vs : List Value) (c : List Int) t (u : Str → Option Value) h tk own, i < n → (∀ p ∈ rest ++ own, p.1 ≠ d) → IntsAre vs c → P i c →
      Fr h₀ env.locals h (fun y => if y = x then some (.int (a₀ + (i : Int)) t) else if stored.contains y then u y else m₀ y) → News h₀ env.locals h ((d, listOf (List.toArray vs) nn) :: (rest ++ own)) →
      wpAny (model prog w) A (execs body env) (IntsTurn h₀ env.locals x stored m₀ d nn (rest ++ own) (P (i + 1)) { s with heap := h, toks := tk }) E { s with heap := h, toks := tk })
    (done : ∀ (vs : List Value) (c : List Int) (u : Str → Option Value) h tk, IntsAre vs c → P n c →
      Fr h₀ env.locals h (fun y => if y = x then u y else if stored.contains y then u y else m₀ y) → News h₀ env.locals h ((d, listOf (List.toArray vs) nn) :: rest) → Q .next { s with heap := h, toks := tk }) :
    wpAny (model prog w) A (pyIter (.ref r)) (fun it s₂ => LoopAtV prog w A h₀ env x body Q E it s₂) E s := by
  refine kst_range (σ := List Value × List Int) (n := n) (fun c => (d, listOf c.1.toArray nn) :: rest) (fun _ => []) (fun c => IntsAre c.1 c.2) stored (fun pre c => P pre.length c.2) (vs₀, c₀) hh hr hsmall hn F N hi (fun _ h => nomatch h) hp ?_ ?_
  · rintro ⟨vs, c⟩ pre k t u h tk own rfl hlt hof hvs hP F₁ N₁
    refine wpAny_mono (turn pre.length vs c t u h tk own hlt (fun p hp => (List.mem_append.mp hp).elim (hoff p) fun hp => hof p hp _ (List.mem_cons_self)) hvs hP F₁ N₁) (fun f s₂ hs => ?_) fun _ _ z => z
    have fin : (∃ h' tk' m' vs' c', s₂ = { { s with heap := h, toks := tk } with heap := h', toks := tk' } ∧ Fr h₀ env.locals h' m' ∧ News h₀ env.locals h' ((d, listOf (List.toArray vs') nn) :: (rest ++ own)) ∧ IntsAre vs' c' ∧ P (pre.length + 1) c' ∧ (∀ z, z ≠ x → stored.contains z = false → m' z = m₀ z)) →
        InvEndN h₀ env.locals (KstS (fun c : List Value × List Int => (d, listOf c.1.toArray nn) :: rest) (fun _ => []) (fun c => IntsAre c.1 c.2) x stored m₀ (fun pre c => P pre.length c.2) (pre ++ [a₀ + (pre.length : Int)])) own (d :: rest.map (·.1)) { s with heap := h, toks := tk } s₂ := by
      rintro ⟨h', tk', m', vs', c', rfl, F', N', hi', hP', hm'⟩
      refine kst_end (vs', c') F' N' ?_ ?_ rfl hi' (fun _ h => nomatch h) (fun z h1 _ h3 => hm' z h1 h3) ?_
      · intro p hp
        rcases List.mem_cons.mp hp with rfl | hp
        · exact List.mem_cons_self
        · exact List.mem_cons_of_mem _ (List.mem_append_left _ hp)
      · exact fun p hp => List.mem_cons_of_mem _ (List.mem_append_right _ hp)
      · show P (pre ++ [_]).length c'
        rw [List.length_append]; exact hP'
    cases f with
    | ret v => exact hs.elim
    | brk => exact hs.elim
    | next => exact fin hs
    | cont => exact fin hs
  · rintro ⟨vs, c⟩ u h tk hvs hP F₁ N₁
    exact done vs c u h tk hvs (by simpa [rangeKs_length] using hP) F₁ N₁
end

section
variable {prog : Program} {w : World} {A : Around} {E : Value → Shared → Prop} {s : Shared} {h₀ : Heap} {L l : Addr} {m : Str → Option Value} {vs : List Value} {ns : List Int} {na : Nat} {k : Int} {u : Tok} {Q : Value → Shared → Prop}
theorem sub_base {value slice : PySem.Expr} (F : Fr h₀ L s.heap m) (hl : h₀.get? l = some (listOf vs.toArray na)) (hi : IntsAre vs ns) (h0 : 0 ≤ k) (h1 : k < ns.length) (hfit : k < 2 ^ 63) (h : ∀ t, Q (.int (ns.getD k.toNat 0) t) s)
    (hs : subscripted slice false (.ref l) (.int k u) = operate [.ref l, .int k u] (getItem (.ref l) (.int k u)) := by with_unfolding_all rfl) :
    wpAny (model prog w) A (subscriptTail value slice (.ref l) (.int k u)) Q E s :=
  item_list_intsT ⟨_, F.keep _ _ hl, rfl, na, rfl⟩ hi h0 h1 hfit h hs
theorem mul_ok {a b : Int} {t v : Tok} (hm : IntMulOk a b) (h : Q (.int (a * b) s.toks) { s with toks := s.toks + 1 }) : wpAny (model prog w) A (binaryOp .Mult (.int a t) (.int b v)) Q E s := P.mul_int h hm
end

section
variable {prog : Program} {w : World} {A : Around} {E : Value → Shared → Prop} {s : Shared} {h₀ : Heap} {L d : Addr} {m : Str → Option Value} {vs : List Value} {ns : List Int} {nn : Nat} {k x : Int} {t u : Tok} {rest : List (Addr × Obj)}
theorem set_ints {Q : Unit → Shared → Prop} (F : Fr h₀ L s.heap m) (N : News h₀ L s.heap ((d, listOf vs.toArray nn) :: rest)) (hoff : ∀ p ∈ rest, p.1 ≠ d) (hi : IntsAre vs ns) (h0 : 0 ≤ k) (h1 : k < ns.length) (hfit : k < 2 ^ 63)
    (h : ∀ h', Fr h₀ L h' m → News h₀ L h' ((d, listOf (vs.set k.toNat (.int x u)).toArray nn) :: rest) → IntsAre (vs.set k.toNat (.int x u)) (ns.set k.toNat x) → Q () { s with heap := h' }) :
    wpAny (model prog w) A (setItem (.ref d) (.int k t) (.int x u)) Q E s :=
  ksa_set F N (Upd.head hoff) hi h0 h1 hfit fun h' F' N' hi' _ _ => h h' F' N' hi'
theorem off1_all {D : Addr} : ∀ {l : List (Addr × Obj)}, LCg.Off1 D l → ∀ p ∈ l, p.1 ≠ D
  | [], _, _, h => nomatch h
  | _ :: _, x, p, h => by
    rcases List.mem_cons.mp h with rfl | h
    · exact x.1
    · exact off1_all x.2 p h
end
end Mine

namespace Mine

/-- the old generators stand as they stood (new ones may have come), bare ones stay bare; nothing else but the heap and the tokens has moved -/
def Same (s s' : Shared) : Prop := s'.os = s.os ∧ (AllBare s.gens → AllBare s'.gens) ∧ s.gens.size ≤ s'.gens.size ∧ ∀ k, k < s.gens.size → s'.gens[k]? = s.gens[k]?
theorem Same.refl (s : Shared) : Same s s := ⟨rfl, id, Nat.le_refl _, fun _ _ => rfl⟩
theorem Same.trans {a b c : Shared} (x : Same a b) (y : Same b c) : Same a c := ⟨y.1.trans x.1, fun h => y.2.1 (x.2.1 h), Nat.le_trans x.2.2.1 y.2.2.1, fun k hk => (y.2.2.2 k (Nat.lt_of_lt_of_le hk x.2.2.1)).trans (x.2.2.2 k hk)⟩
theorem Same.put (s : Shared) (h : Heap) (tk : Nat) : Same s { s with heap := h, toks := tk } := ⟨rfl, id, Nat.le_refl _, fun _ _ => rfl⟩
theorem Same.putR {a s : Shared} (x : Same a s) (h : Heap) (tk : Nat) : Same a { s with heap := h, toks := tk } := ⟨x.1, x.2⟩

section
variable {prog : Program} {w : World} {A : Around} {E : Value → Shared → Prop} {s : Shared} {env : Env} {h₀ : Heap} {x : Str} {px : Pos} {body : List Stmt} {Q : Flow → Shared → Prop}

def TurnG {σ : Type} (h₀ : Heap) (L : Addr) (x : Str) (stored : List Str) (m₀ : Str → Option Value) (Led : σ → List (Addr × Obj)) (ps : σ → List (Str × Value)) (Inv : σ → Prop) (I : Addr) (oI : Obj) (Q : Flow → Shared → Prop) (s₁ : Shared) (f : Flow) (s₂ : Shared) : Prop :=
  match f with
  | .ret v => Q (.ret v) s₂
  | .brk => Q .next s₂
  | _ => ∃ m' c, Same s₁ s₂ ∧ Fr h₀ L s₂.heap m' ∧ News h₀ L s₂.heap ((I, oI) :: Led c) ∧ (∀ p ∈ Led c, p.1 ≠ I) ∧ (∀ p ∈ ps c, m' p.1 = some p.2) ∧ (∀ z, z ≠ x → (∀ p ∈ ps c, z ≠ p.1) → stored.contains z = false → m' z = m₀ z) ∧ Inv c
theorem TurnG.mk {σ : Type} {L : Addr} {stored : List Str} {m₀ m' : Str → Option Value} {Led : σ → List (Addr × Obj)} {ps : σ → List (Str × Value)} {Inv : σ → Prop} {I : Addr} {oI : Obj} {s₁ s₂ : Shared} (c : σ)
    (S : Same s₁ s₂) (F : Fr h₀ L s₂.heap m') (N : News h₀ L s₂.heap ((I, oI) :: Led c)) (hoff : ∀ p ∈ Led c, p.1 ≠ I) (hk : ∀ p ∈ ps c, m' p.1 = some p.2) (hm : ∀ z, z ≠ x → (∀ p ∈ ps c, z ≠ p.1) → stored.contains z = false → m' z = m₀ z) (hi : Inv c) :
    TurnG h₀ L x stored m₀ Led ps Inv I oI Q s₁ .next s₂ := ⟨m', c, S, F, N, hoff, hk, hm, hi⟩

theorem loopG {σ : Type} (Led : σ → List (Addr × Obj)) (ps : σ → List (Str × Value)) (stored : List Str) (Inv : Nat → σ → Prop) (c₀ : σ) {n : Nat} {P : Nat → Value → Prop} {St : Nat → Heap → Prop} {I : Addr} {fp : List Addr} {m₀ : Str → Option Value}
    (W : Walks prog w A I fp [I] n P St) (hIo : ∀ i h, St i h → ∃ o, h.get? I = some o) (hfp : ∀ b ∈ fp, b ≠ I → (∃ o, h₀.get? b = some o) ∨ (∃ o, ∀ c, (b, o) ∈ Led c))
    (hx : env.kindOf x = some .local) (hp : (env.scope.kind == .class || (env.scope.kind == .module && env.locals != env.globals)) = false)
    (hLf : env.locals ∉ fp) (hI₀ : h₀.get? I = none) (hst : St 0 s.heap) (F : Fr h₀ env.locals s.heap m₀) (N : News h₀ env.locals s.heap (Led c₀)) (hoff : ∀ p ∈ Led c₀, p.1 ≠ I)
    (hk : ∀ p ∈ ps c₀, m₀ p.1 = some p.2) (h0 : Inv 0 c₀)
    (turn : ∀ i c v (u : Str → Option Value) s₁ oI, i < n → P i v → Inv i c → Same s s₁ → Fr h₀ env.locals s₁.heap (fun y => if y = x then some v else kstB (fun z => if stored.contains z then u z else m₀ z) (ps c) y) →
      News h₀ env.locals s₁.heap ((I, oI) :: Led c) → (∀ p ∈ Led c, p.1 ≠ I) →
      wpAny (model prog w) A (execs body env) (TurnG h₀ env.locals x stored m₀ Led ps (Inv (i + 1)) I oI Q s₁) E s₁)
    (done : ∀ c (u : Str → Option Value) s₁, Inv n c → Same s s₁ → Fr h₀ env.locals s₁.heap (fun y => if y = x then u y else kstB (fun z => if stored.contains z then u z else m₀ z) (ps c) y) →
      News h₀ env.locals s₁.heap (Led c) → Q .next s₁)
    (hE : PassesOwn (model prog w) A env E) :
    codeAny (model prog w) A (.forLoop (.Name x px) (.ref I) body [] env) (fun r s' => match r with | .ok f => Q f s' | .error e => cameBackBy (model prog w) A env E e s') s := by
  have hIfp : I ∈ fp := W.sub I (List.mem_singleton.mpr rfl)
  have hLI : env.locals ≠ I := fun e => hLf (e ▸ hIfp)
  refine codeAny_forLoop (fun k s' => ∃ i c m', Same s s' ∧ St i s'.heap ∧ Fr h₀ env.locals s'.heap m' ∧ News h₀ env.locals s'.heap (Led c) ∧ (∀ p ∈ Led c, p.1 ≠ I) ∧ (∀ p ∈ ps c, m' p.1 = some p.2) ∧
      (∀ z, z ≠ x → (∀ p ∈ ps c, z ≠ p.1) → stored.contains z = false → m' z = m₀ z) ∧ Inv i c ∧ i ≤ n ∧ k = n + 1 - i) ?_ (n + 1)
    ⟨0, c₀, m₀, Same.refl s, hst, F, N, hoff, hk, fun _ _ _ _ => rfl, h0, Nat.zero_le _, rfl⟩
  rintro k s' ⟨i, c, m', S', hst', F', N', hoff', hk', hm', hI', hi, rfl⟩
  have old : ∀ b o, h₀.get? b = some o → b ∉ [I] := fun b o e hb => by rw [List.mem_singleton.mp hb, hI₀] at e; cases e
  have next : ∀ h₁ : Heap, (∀ b o, b ∉ [I] → s'.heap.get? b = some o → h₁.get? b = some o) → Fr h₀ env.locals h₁ m' ∧ News h₀ env.locals h₁ (Led c) := fun h₁ hk₁ =>
    ⟨⟨F'.ns.at' fun o e => hk₁ _ o (fun h => hLI (List.mem_singleton.mp h)) e, fun b o e => hk₁ b o (old b o e) (F'.keep b o e), F'.above⟩, fun p hp => ⟨hk₁ _ _ (fun h => hoff' p hp (List.mem_singleton.mp h)) (N' p hp).1, (N' p hp).2⟩⟩
  by_cases hlt : i < n
  · refine W.item i _ _ _ hlt hst' fun v h₁ tk₁ hP hst₁ hk₁ => ?_
    obtain ⟨F₁, N₁⟩ := next h₁ hk₁
    refine wpAny_assign_Name (wpAny_storeName_local hx F₁.ns (fun h₂ hn₂ hs₂ => ?_) hp)
    have F₂ := F₁.set hn₂ hs₂
    have N₂ := N₁.set hs₂
    have hst₂ : St (i + 1) h₂ := W.frame _ _ _ hst₁ fun b hb o e => (hs₂.2 b fun q => hLf (q ▸ hb)).trans e
    obtain ⟨oI, heI⟩ := hIo _ _ hst₂
    have N₃ : News h₀ env.locals h₂ ((I, oI) :: Led c) := fun p hp => by
      rcases List.mem_cons.mp hp with rfl | hp
      · exact ⟨heI, Ne.symm hLI, hI₀⟩
      · exact N₂ p hp
    refine wpAny_mono (turn i c v m' _ oI hlt hP hI' (S'.putR _ _) (kst_fr hk' hm' F₂) N₃ hoff') (fun f s₃ h₃ => ?_) fun e s₃ h₃ => hE e s₃ h₃
    have fin : (∃ m'' c', Same { s' with heap := h₂, toks := tk₁ + 1 } s₃ ∧ Fr h₀ env.locals s₃.heap m'' ∧ News h₀ env.locals s₃.heap ((I, oI) :: Led c') ∧ (∀ p ∈ Led c', p.1 ≠ I) ∧ (∀ p ∈ ps c', m'' p.1 = some p.2) ∧ (∀ z, z ≠ x → (∀ p ∈ ps c', z ≠ p.1) → stored.contains z = false → m'' z = m₀ z) ∧ Inv (i + 1) c') →
        ∃ k, k < n + 1 - i ∧ ∃ i c m', Same s s₃ ∧ St i s₃.heap ∧ Fr h₀ env.locals s₃.heap m' ∧ News h₀ env.locals s₃.heap (Led c) ∧ (∀ p ∈ Led c, p.1 ≠ I) ∧ (∀ p ∈ ps c, m' p.1 = some p.2) ∧
          (∀ z, z ≠ x → (∀ p ∈ ps c, z ≠ p.1) → stored.contains z = false → m' z = m₀ z) ∧ Inv i c ∧ i ≤ n ∧ k = n + 1 - i := by
      rintro ⟨m'', c', S₃, F₃, N₃', hoff₃, hk₃, hm₃, hI₃⟩
      refine ⟨n + 1 - (i + 1), by omega, i + 1, c', m'', (S'.putR _ _).trans S₃, ?_, F₃, fun p hp => N₃' p (List.mem_cons_of_mem _ hp), hoff₃, hk₃, hm₃, hI₃, hlt, rfl⟩
      refine W.frame _ _ _ hst₂ fun b hb o e => ?_
      by_cases hbI : b = I
      · subst hbI
        rw [heI] at e
        cases e
        exact (N₃' (b, oI) List.mem_cons_self).1
      · rcases hfp b hb hbI with ⟨o', e'⟩ | ⟨o', e'⟩
        · have e1 := F₂.keep b o' e'
          rw [e] at e1
          exact Option.some.inj e1 ▸ F₃.keep b o' e'
        · have e1 := (N₂ (b, o') (e' c)).1
          rw [e] at e1
          exact Option.some.inj e1 ▸ (N₃' (b, o') (List.mem_cons_of_mem _ (e' c'))).1
    cases f with
    | ret v => exact h₃
    | brk => exact h₃
    | next => exact fin h₃
    | cont => exact fin h₃
  · obtain rfl : i = n := by omega
    refine W.done _ _ _ hst' fun h₁ tk₁ hk₁ => wpAny_execs_nil ?_
    obtain ⟨F₁, N₁⟩ := next h₁ hk₁
    exact done c m' _ hI' (S'.putR _ _) (kst_frOut hk' hm' F₁) N₁

/-- a for over a range by ones -/
theorem for_range {σ : Type} (Led : σ → List (Addr × Obj)) (ps : σ → List (Str × Value)) (stored : List Str) (Inv : Nat → σ → Prop) (c₀ : σ) {n : Nat} {r : Addr} {a₀ b₀ : Int} {t₀ u₀ v₀ : Tok} {m₀ : Str → Option Value}
    (hh : A.handled = none) (hr : IsRange s.heap r a₀ b₀ 1 t₀ u₀ v₀) (hsmall : Builtin.Range.small a₀ b₀ 1 = true) (hn : Builtin.Range.rangeSize a₀ b₀ 1 = (n : Int))
    (hx : env.kindOf x = some .local) (hp : (env.scope.kind == .class || (env.scope.kind == .module && env.locals != env.globals)) = false)
    (F : Fr h₀ env.locals s.heap m₀) (N : News h₀ env.locals s.heap (Led c₀)) (hk : ∀ p ∈ ps c₀, m₀ p.1 = some p.2) (h0 : Inv 0 c₀)
    (turn : ∀ i c t (u : Str → Option Value) s₁ I oI, i < n → Inv i c → Same s s₁ → Fr h₀ env.locals s₁.heap (fun y => if y = x then some (.int (a₀ + (i : Int)) t) else kstB (fun z => if stored.contains z then u z else m₀ z) (ps c) y) →
      News h₀ env.locals s₁.heap ((I, oI) :: Led c) → (∀ p ∈ Led c, p.1 ≠ I) →
      wpAny (model prog w) A (execs body env) (TurnG h₀ env.locals x stored m₀ Led ps (Inv (i + 1)) I oI Q s₁) E s₁)
    (done : ∀ c (u : Str → Option Value) s₁, Inv n c → Same s s₁ → Fr h₀ env.locals s₁.heap (fun y => if y = x then u y else kstB (fun z => if stored.contains z then u z else m₀ z) (ps c) y) →
      News h₀ env.locals s₁.heap (Led c) → Q .next s₁)
    (hE : PassesOwn (model prog w) A env E := by passes_own) :
    wpAny (model prog w) A (pyIter (.ref r)) (fun it s₂ => codeAny (model prog w) A (.forLoop (.Name x px) it body [] env) (fun r s' => match r with | .ok f => Q f s' | .error e => cameBackBy (model prog w) A env E e s') s₂) E s := by
  refine wpAny_pyIter_range hr hsmall ?_
  have up : ∀ b o, s.heap.get? b = some o → (s.heap.push { cls := .type "range_iterator", data := .fields #[rawInt a₀, rawInt (Builtin.Range.rangeSize a₀ b₀ 1), rawInt 1] }).get? b = some o := fun b o e => Heap.get?_push_of_some _ e
  refine loopG (s := { s with heap := s.heap.push { cls := .type "range_iterator", data := .fields #[rawInt a₀, rawInt (Builtin.Range.rangeSize a₀ b₀ 1), rawInt 1] } }) Led ps stored Inv c₀ (LCg.range_walks hh a₀ n) (fun i h st => ⟨_, st⟩) (fun b hb hne => absurd (List.mem_singleton.mp hb) hne) hx hp
    (fun h => Nat.ne_of_lt F.ns.lt (List.mem_singleton.mp h)) (next_is_new F) (by show IsRangeIter _ _ _ _ _; rw [hn]; simpa using Heap.get?_push_size _ rfl) (F.keeps up) (N.grown up) (fun p hp => Nat.ne_of_lt (Heap.lt_size (N p hp).1)) hk h0 ?_ ?_ hE
  · rintro i c v u s₁ oI hi ⟨t, rfl⟩ hI S F' N' off
    exact turn i c t u s₁ _ oI hi hI ((Same.put s _ s.toks).trans S) F' N' off
  · intro c u s₁ hI S F' N'
    exact done c u s₁ hI ((Same.put s _ s.toks).trans S) F' N'

end
end Mine

namespace Mine

/-- an element's end: its value, the ledger behind it -/
def EltG (h₀ : Heap) (L : Addr) (m : Str → Option Value) (s₁ : Shared) (I : Addr) (oI : Obj) (C : Addr) (oC : Obj) (D : Addr) (oD : Obj) (r : Value → List (Addr × Obj) → Prop) (y : Value) (s₂ : Shared) : Prop :=
  ∃ led, Same s₁ s₂ ∧ Fr h₀ L s₂.heap m ∧ News h₀ L s₂.heap ((I, oI) :: (C, oC) :: (D, oD) :: led) ∧ (∀ p ∈ led, p.1 ≠ I ∧ p.1 ≠ C ∧ p.1 ≠ D) ∧ r y led
theorem EltG.mk {h₀ : Heap} {L : Addr} {m : Str → Option Value} {s₁ s₂ : Shared} {I C D : Addr} {oI oC oD : Obj} {r : Value → List (Addr × Obj) → Prop} {y : Value} (led : List (Addr × Obj))
    (S : Same s₁ s₂) (F : Fr h₀ L s₂.heap m) (N : News h₀ L s₂.heap ((I, oI) :: (C, oC) :: (D, oD) :: led)) (off : ∀ p ∈ led, p.1 ≠ I ∧ p.1 ≠ C ∧ p.1 ≠ D) (hr : r y led) :
    EltG h₀ L m s₁ I oI C oC D oD r y s₂ := ⟨led, S, F, N, off, hr⟩

section
variable {prog : Program} {w : World} {A : Around} {E : Value → Shared → Prop} {s : Shared} {env : Env} {h₀ : Heap} {L : Addr} {m : Str → Option Value} {elt iter : PySem.Expr} {x : Str} {px : Pos} {scope : Scope} {cl : List (Str × Addr)} {pos : Pos}

def CompTurn (prog : Program) (w : World) (A : Around) (env : Env) (h₀ : Heap) (L : Addr) (m : Str → Option Value) (elt : PySem.Expr) (x : Str) (scope : Scope) (cl : List (Str × Addr)) (n : Nat) (P : Nat → Value → Prop) (J : Nat → List Value → List (Addr × Obj) → Prop) (s₂ : Shared) : Prop :=
  ∀ i ys led v I oI C oC D (m₂ : Str → Option Value) s₁ (E' : Value → Shared → Prop), i < n → ys.length = i → J i ys led → P i v → LCg.NsObj oC m₂ → m₂ x = some v → Same s₂ s₁ → Fr h₀ L s₁.heap m →
    News h₀ L s₁.heap ((I, oI) :: (C, oC) :: (D, LCg.lst ys) :: led) → (∀ p ∈ led, p.1 ≠ I ∧ p.1 ≠ C ∧ p.1 ≠ D) →
    wpAny (model prog w) A (eval elt (compEnvC scope cl C env)) (EltG h₀ L m s₁ I oI C oC D (LCg.lst ys) (fun y led' => J (i + 1) (ys ++ [y]) led')) E' s₁

theorem block_G {s₂ : Shared} {I : Addr} {fp : List Addr} {n : Nat} {P : Nat → Value → Prop} {St : Nat → Heap → Prop} (J : Nat → List Value → List (Addr × Obj) → Prop) {led₀ : List (Addr × Obj)} {RR : Value → Addr → Result → Shared → Prop}
    (W : Walks prog w A I fp [I] n P St) (hsz : n ≤ sizeLine) (hIo : ∀ i h, St i h → ∃ o, h.get? I = some o) (hfpJ : ∀ b ∈ fp, b ≠ I → (∃ o, h₀.get? b = some o) ∨ (∃ o, ∀ i ys led, J i ys led → (b, o) ∈ led))
    (hcell : ∀ y ∈ scope.names, y.2 ≠ .cell) (hkind : scope.kind = .function) (hx : scope.names.lookup x = some .local) (hst : St 0 s₂.heap) (hfp : ∀ b ∈ fp, b < s₂.heap.objs.size)
    (F : Fr h₀ L s₂.heap m) (N : News h₀ L s₂.heap led₀) (hIL : L ≠ I) (hI₀ : h₀.get? I = none) (off : ∀ p ∈ led₀, p.1 ≠ I) (h0 : J 0 [] led₀)
    (turn : CompTurn prog w A env h₀ L m elt x scope cl n P J s₂)
    (hRR : ∀ D C s₃ m' ys led, ys.length = n → J n ys led → Same s₂ s₃ → Fr h₀ L s₃.heap m → News h₀ L s₃.heap ((D, LCg.lst ys) :: led) → (∀ p ∈ led, p.1 ≠ D) → s₃.heap.Ns C m' → h₀.get? C = none → h₀.get? D = none → C ≠ L → D ≠ L → C ≠ D → (∀ p ∈ led, p.1 ≠ C) → s₂.heap.get? D = none → RR (.ref D) C (.ok .next) s₃) :
    wpAny (model prog w) A (newList []) (fun acc s₃ => wpAny (model prog w) A (newFunctionEnv scope env.globals cl [] env.qual none .none (some env)) (fun cenv s₄ =>
      codeAny (model prog w) A (.compStart (.ListComp elt [⟨.Name x px, iter, [], 0⟩] scope pos) 0 (.ref I) acc { cenv with scope := relabel scope env }) (RR acc cenv.locals) s₄) E s₃) E s₂ := by
  refine wpAny_newObj_type (wpAny_newFunctionEnv hcell (by intro y hy; simp at hy) (fun h₁ hns₁ hsb₁ => ?_) hkind)
  dsimp only at hns₁ hsb₁ ⊢
  generalize hH2 : s₂.heap.push { cls := .type "list", dict := none, data := .seq ([] : List Value).toArray } = H2 at hns₁ hsb₁ ⊢
  have hC : H2.objs.size = s₂.heap.objs.size + 1 := by rw [← hH2, Heap.size_push]
  generalize hCd : H2.objs.size = C at hns₁ hsb₁ hC ⊢
  generalize hDd : s₂.heap.objs.size = D at hC hfp ⊢
  have hDC : D ≠ C := by rw [hC]; exact Nat.ne_of_lt (Nat.lt_succ_self _)
  have below : ∀ b, b < D → b ≠ C ∧ b ≠ D := fun b hb => ⟨by rw [hC]; exact Nat.ne_of_lt (Nat.lt_succ_of_lt hb), Nat.ne_of_lt hb⟩
  have hDf : D ∉ fp := fun hm => Nat.lt_irrefl _ (hfp _ hm)
  have hCf : C ∉ fp := fun hm => by have := hfp _ hm; rw [hC] at this; exact Nat.lt_irrefl _ (Nat.lt_of_succ_lt this)
  have hIf : I ∈ fp := W.sub I (List.mem_singleton.mpr rfl)
  have hIlt : I < D := hfp I hIf
  have old : ∀ b o, s₂.heap.get? b = some o → h₁.get? b = some o := fun b o e => hsb₁.extBut b o (below b (hDd ▸ Heap.lt_size e)).1 (Heap.get?_push_of_some _ (hH2 ▸ Heap.get?_push_of_some _ e))
  have hacc : h₁.get? D = some (LCg.lst []) := hsb₁.extBut _ _ hDC (Heap.get?_push_of_some _ (hH2 ▸ hDd ▸ Heap.get?_push_size _ rfl))
  have hst₁ : St 0 h₁ := W.frame _ _ _ hst fun b _ o e => old b o e
  have fresh : ∀ a, D ≤ a → s₂.heap.get? a = none := fun a ha => by
    cases e : s₂.heap.get? a with
    | none => rfl
    | some o' => exact absurd (Heap.lt_size e) (Nat.not_lt.mpr (hDd ▸ ha))
  have fresh₀ : ∀ a, D ≤ a → h₀.get? a = none := fun a ha => by
    cases e : h₀.get? a with
    | none => rfl
    | some o' => have := F.keep a o' e; rw [fresh a ha] at this; cases this
  have hD₀ : h₀.get? D = none := fresh₀ _ (Nat.le_refl _)
  have hC₀ : h₀.get? C = none := fresh₀ _ (by rw [hC]; exact Nat.le_succ _)
  have hLlt : L < D := hDd ▸ F.ns.lt
  have hDL : D ≠ L := Ne.symm (below L hLlt).2
  have hCL : C ≠ L := Ne.symm (below L hLlt).1
  have hCI : I ≠ C := (below I hIlt).1
  have hDI : I ≠ D := (below I hIlt).2
  have off₀ : ∀ p ∈ led₀, p.1 ≠ I ∧ p.1 ≠ C ∧ p.1 ≠ D := fun p hp => ⟨off p hp, (below _ (hDd ▸ Heap.lt_size (N p hp).1)).1, (below _ (hDd ▸ Heap.lt_size (N p hp).1)).2⟩
  have loop : ∀ s₃ : Shared, s₃ = { s₂ with heap := h₁, toks := s₂.toks + ([] : List (Str × Value)).length } →
      codeAny (model prog w) A (.compLoop (.ListComp elt [⟨.Name x px, iter, [], 0⟩] scope pos) 0 (.ref I) (.ref D) (compEnvC scope cl C env)) (RR (.ref D) C) s₃ := by
    rintro s₃ rfl
    refine codeAny_compLoop_tests
      (fun k s' => ∃ i ys m' led, Same s₂ s' ∧ i ≤ n ∧ k = n + 1 - i ∧ ys.length = i ∧ St i s'.heap ∧ Fr h₀ L s'.heap m ∧ s'.heap.Ns C m' ∧ News h₀ L s'.heap ((D, LCg.lst ys) :: led) ∧
        (∀ p ∈ led, p.1 ≠ I ∧ p.1 ≠ C ∧ p.1 ≠ D) ∧ J i ys led) ?_ (n + 1)
      ⟨0, [], _, led₀, Same.put s₂ _ _, Nat.zero_le _, rfl, rfl, hst₁, F.keeps old, hns₁, fun p hp => ?_, off₀, h0⟩
    · rintro k s' ⟨i, ys, m', led, S', hi, rfl, hyl, hst', F', hn', N', off', hJ⟩
      by_cases hlt : i < n
      · refine W.item i _ _ _ hlt hst' fun v h₂ tk₂ hPv hst₂ hk₂ => ?_
        refine wpAny_assign_Name (wpAny_storeName_local (lookup_relabel_local hx) (hn'.at' fun o e => hk₂ _ o (by simpa using Ne.symm hCI) e) (fun h₃ hn₃ hs₃ => ?_) (by simp [compEnvC, relabel, hkind]))
        refine wpAny_tests_nil ?_
        simp only [if_true]
        have hst₃ : St (i + 1) h₃ := W.frame _ _ _ hst₂ fun b hb o e => hs₃.extBut b o (fun q => hCf (by have q' : b = C := q; rw [← q']; exact hb)) e
        obtain ⟨oI, heI⟩ := hIo _ _ hst₃
        obtain ⟨oC, heC, hoC⟩ := LCg.ns_obj hn₃
        have F₃ : Fr h₀ L h₃ m := (LCg.fr_but F' hk₂ hIL hI₀).change hs₃ hCL hC₀
        have N₂ : News h₀ L h₂ ((D, LCg.lst ys) :: led) := LCg.news_but N' hk₂ fun p hp => by
          rcases List.mem_cons.mp hp with rfl | hp
          · exact Ne.symm hDI
          · exact (off' p hp).1
        have N₃ : News h₀ L h₃ ((I, oI) :: (C, oC) :: (D, LCg.lst ys) :: led) := fun p hp => by
          rcases List.mem_cons.mp hp with rfl | hp
          · exact ⟨heI, Ne.symm hIL, hI₀⟩
          · rcases List.mem_cons.mp hp with rfl | hp
            · exact ⟨heC, hCL, hC₀⟩
            · have z := N₂ p hp
              refine ⟨hs₃.extBut _ _ ?_ z.1, z.2⟩
              rcases List.mem_cons.mp hp with rfl | hp
              · exact hDC
              · exact (off' p hp).2.1
        refine wpAny_mono (turn i ys led v I oI C oC D _ { s' with heap := h₃, toks := tk₂ + 1 } _ hlt hyl hJ hPv hoC (by simp) (S'.putR _ _) F₃ N₃ off') (fun y s₄ h₄ => ?_) fun _ _ e => e
        obtain ⟨led₄, S₄, F₄, N₄, off₄, hJ₄⟩ := h₄
        have zI := (N₄ (I, oI) List.mem_cons_self).1
        have zC := (N₄ (C, oC) (List.mem_cons_of_mem _ List.mem_cons_self)).1
        have zD := (N₄ (D, LCg.lst ys) (List.mem_cons_of_mem _ (List.mem_cons_of_mem _ List.mem_cons_self))).1
        have N₄' : News h₀ L s₄.heap led₄ := fun p hp => N₄ p (List.mem_cons_of_mem _ (List.mem_cons_of_mem _ (List.mem_cons_of_mem _ hp)))
        have hst₄ : St (i + 1) s₄.heap := W.frame _ _ _ hst₃ fun b hb o e => by
          by_cases hbI : b = I
          · subst hbI
            rw [heI] at e
            exact Option.some.inj e ▸ zI
          · rcases hfpJ b hb hbI with ⟨o', e'⟩ | ⟨o', e'⟩
            · have e1 := F₃.keep b o' e'
              rw [e] at e1
              exact Option.some.inj e1 ▸ F₄.keep b o' e'
            · have e1 := (N₃ (b, o') (List.mem_cons_of_mem _ (List.mem_cons_of_mem _ (List.mem_cons_of_mem _ (e' _ _ _ hJ))))).1
              rw [e] at e1
              exact Option.some.inj e1 ▸ (N₄' (b, o') (e' _ _ _ hJ₄)).1
        refine append_at (hsz := by show ys.toArray.size ≤ sizeLine; rw [List.size_toArray, hyl]; exact Nat.le_trans hi hsz) zD fun h₅ hs₅ hD₅ => ?_
        refine ⟨n + 1 - (i + 1), by omega, i + 1, ys ++ [y], _, led₄, (S'.putR _ _).trans (S₄.trans (Same.put s₄ _ s₄.toks)), hlt, rfl, by rw [List.length_append, List.length_singleton, hyl], W.frame _ _ _ hst₄ fun b hb o e => hs₅.extBut b o (fun q => hDf (q ▸ hb)) e, F₄.change hs₅ hDL hD₀,
          (hoC.ns zC).sameBut hs₅ (Ne.symm hDC), fun p hp => ?_, off₄, hJ₄⟩
        rcases List.mem_cons.mp hp with rfl | hp
        · exact ⟨hD₅.trans (congrArg some (LCg.lst_snoc ys y)), hDL, hD₀⟩
        · exact ⟨hs₅.extBut _ _ (off₄ p hp).2.2 (N₄' p hp).1, (N₄' p hp).2⟩
      · obtain rfl : i = n := Nat.le_antisymm hi (Nat.not_lt.mp hlt)
        refine W.done _ _ _ hst' fun h₂ tk₂ hk₂ => ?_
        exact hRR _ _ _ _ ys led hyl hJ (S'.putR _ _) (LCg.fr_but F' hk₂ hIL hI₀) (LCg.news_but N' hk₂ fun p hp => by
          rcases List.mem_cons.mp hp with rfl | hp
          · exact Ne.symm hDI
          · exact (off' p hp).1) (fun p hp => (off' p hp).2.2) (hn'.at' fun o e => hk₂ _ o (by simpa using Ne.symm hCI) e) hC₀ hD₀ hCL hDL (Ne.symm hDC) (fun p hp => (off' p hp).2.1) (fresh D (Nat.le_refl _))
    · rcases List.mem_cons.mp hp with rfl | hp
      · exact ⟨hacc, hDL, hD₀⟩
      · exact ⟨old _ _ (N p hp).1, (N p hp).2⟩
  exact codeAny_compStart_list (loop _ rfl) (W.self 0 _ _ _ hst₁ (loop _ rfl))

/-- where a comprehension's values come from: a range, or a list that the turns leave alone; and what is to be shown -/
def CompG (prog : Program) (w : World) (A : Around) (env : Env) (h₀ : Heap) (L : Addr) (m : Str → Option Value) (elt : PySem.Expr) (x : Str) (scope : Scope) (cl : List (Str × Addr)) (Fin : Value → List Value → List (Addr × Obj) → Shared → Prop) (xv : Value) (s₁ : Shared) : Prop :=
  A.handled = none ∧ ∃ (n : Nat) (P : Nat → Value → Prop) (J : Nat → List Value → List (Addr × Obj) → Prop) (led₀ : List (Addr × Obj)), n ≤ sizeLine ∧ Fr h₀ L s₁.heap m ∧ News h₀ L s₁.heap led₀ ∧ J 0 [] led₀ ∧
    ((∃ r a b t u v, xv = .ref r ∧ IsRange s₁.heap r a b 1 t u v ∧ Builtin.Range.small a b 1 = true ∧ Builtin.Range.rangeSize a b 1 = (n : Int) ∧ P = fun i v => ∃ t, v = .int (a + (i : Int)) t) ∨
     (∃ l its, xv = .ref l ∧ its.size = n ∧ P = (fun i v => its[i]? = some v) ∧ ((∃ o, h₀.get? l = some o ∧ o.cls = .type "list" ∧ ∃ k, o.data = .seq its k) ∨ (∃ o, (∀ i ys led, J i ys led → (l, o) ∈ led) ∧ o.cls = .type "list" ∧ ∃ k, o.data = .seq its k)))) ∧
    CompTurn prog w A env h₀ L m elt x scope cl n P J s₁ ∧
    (∀ D ys led s₃, ys.length = n → J n ys led → Same s₁ s₃ → Fr h₀ L s₃.heap m → News h₀ L s₃.heap ((D, LCg.lst ys) :: led) → (∀ p ∈ led, p.1 ≠ D) → s₁.heap.get? D = none → Fin (.ref D) ys led s₃)

theorem none_push {h : Heap} {o : Obj} {a : Addr} (e : (h.push o).get? a = none) : h.get? a = none := by
  cases q : h.get? a with
  | none => rfl
  | some o' => rw [Heap.get?_push_of_some _ q] at e; cases e
theorem CompTurn.of_same {n : Nat} {P : Nat → Value → Prop} {J : Nat → List Value → List (Addr × Obj) → Prop} {s₁ s₂ : Shared} (S : Same s₁ s₂) (h : CompTurn prog w A env h₀ L m elt x scope cl n P J s₁) : CompTurn prog w A env h₀ L m elt x scope cl n P J s₂ :=
  fun i ys led v I oI C oC D m₂ s' E' h1 h2 h3 h4 h5 h6 S' => h i ys led v I oI C oC D m₂ s' E' h1 h2 h3 h4 h5 h6 (S.trans S')

theorem comp_core {RR : Value → Addr → Result → Shared → Prop} {Fin : Value → List Value → List (Addr × Obj) → Shared → Prop} {xv : Value} {s₁ : Shared}
    (hcell : ∀ y ∈ scope.names, y.2 ≠ .cell) (hkind : scope.kind = .function) (hx : scope.names.lookup x = some .local)
    (h : CompG prog w A env h₀ L m elt x scope cl Fin xv s₁)
    (hRR : ∀ D C s₃ m' ys led, Fin (.ref D) ys led s₃ → Fr h₀ L s₃.heap m → News h₀ L s₃.heap ((D, LCg.lst ys) :: led) → s₃.heap.Ns C m' → h₀.get? C = none → C ≠ L → D ≠ L → h₀.get? D = none → C ≠ D → (∀ p ∈ led, p.1 ≠ C) → (∀ p ∈ led, p.1 ≠ D) →
      (∀ s₄, Same s₃ s₄ → Fr h₀ L s₄.heap m → News h₀ L s₄.heap ((D, LCg.lst ys) :: led) → Fin (.ref D) ys led s₄) → RR (.ref D) C (.ok .next) s₃) :
    wpAny (model prog w) A (pyIter xv) (fun it s₂ => wpAny (model prog w) A (newList []) (fun acc s₃ => wpAny (model prog w) A (newFunctionEnv scope env.globals cl [] env.qual none .none (some env)) (fun cenv s₄ =>
      codeAny (model prog w) A (.compStart (.ListComp elt [⟨.Name x px, iter, [], 0⟩] scope pos) 0 it acc { cenv with scope := relabel scope env }) (RR acc cenv.locals) s₄) E s₃) E s₂) E s₁ := by
  obtain ⟨hh, n, P, J, led₀, hsz, F, N, h0, src, turn, fin⟩ := h
  rcases src with ⟨r, a, b, t, u, v, rfl, hr, hsm, hn, rfl⟩ | ⟨l, its, rfl, rfl, rfl, hl⟩
  · refine wpAny_pyIter_range hr hsm ?_
    refine block_G J (LCg.range_walks hh a n) hsz (fun i h st => ⟨_, st⟩) (fun b hb hne => absurd (List.mem_singleton.mp hb) hne) hcell hkind hx (by show IsRangeIter _ _ _ _ _; rw [hn]; simpa using Heap.get?_push_size _ rfl) (fun b hb => ?_)
      (F.keeps fun _ _ e => Heap.get?_push_of_some _ e) (N.grown fun _ _ e => Heap.get?_push_of_some _ e) (Nat.ne_of_lt F.ns.lt) (next_is_new F) (fun p hp => Nat.ne_of_lt (Heap.lt_size (N p hp).1)) h0 (turn.of_same (Same.put s₁ _ s₁.toks)) ?_
    · rw [List.mem_singleton.mp hb]
      show s₁.heap.objs.size < (s₁.heap.push _).objs.size
      rw [Heap.size_push]; exact Nat.lt_succ_self _
    · intro D C s₃ m' ys led hl hJ S' F' N' o1 hn hC₀ hD₀ hCL hDL hCD offC hDs
      exact hRR D C s₃ m' ys led (fin D ys led s₃ hl hJ ((Same.put s₁ _ s₁.toks).trans S') F' N' o1 (none_push hDs)) F' N' hn hC₀ hCL hDL hD₀ hCD offC o1 (fun s₄ S₄ F₄ N₄ => fin D ys led s₄ hl hJ (((Same.put s₁ _ s₁.toks).trans S').trans S₄) F₄ N₄ o1 (none_push hDs))
  · have hls : s₁.heap.IsList l its := by
      rcases hl with ⟨o, e, r⟩ | ⟨o, hm, r⟩
      · exact ⟨o, F.keep _ _ e, r⟩
      · exact ⟨o, (N _ (hm _ _ _ h0)).1, r⟩
    have hlt : l < s₁.heap.objs.size := by obtain ⟨_, e, _⟩ := hls; exact Heap.lt_size e
    refine wpAny_pyIter_list hls ?_
    have up : ∀ b o, s₁.heap.get? b = some o → (s₁.heap.push { cls := .type "list_iterator", data := .fields #[.ref l, .int 0 0] }).get? b = some o := fun b o e => Heap.get?_push_of_some _ e
    refine block_G J (Walks.list hh s₁.heap.objs.size l (Nat.ne_of_lt hlt) its) hsz (fun i h st => by obtain ⟨o, e, _⟩ := st.1; exact ⟨o, e⟩) (fun b hb hne => ?_) hcell hkind hx ⟨⟨_, Heap.get?_push_size _ rfl, rfl, rfl⟩, hls.push _⟩ (fun b hb => ?_)
      (F.keeps up) (N.grown up) (Nat.ne_of_lt F.ns.lt) (next_is_new F) (fun p hp => Nat.ne_of_lt (Heap.lt_size (N p hp).1)) h0 (turn.of_same (Same.put s₁ _ s₁.toks)) ?_
    · rcases List.mem_cons.mp hb with e | hb
      · exact absurd e hne
      · rw [List.mem_singleton.mp hb]
        rcases hl with ⟨o, e, _⟩ | ⟨o, hm, _⟩
        · exact .inl ⟨o, e⟩
        · exact .inr ⟨o, hm⟩
    · show b < (s₁.heap.push _).objs.size
      rw [Heap.size_push]
      rcases List.mem_cons.mp hb with rfl | hb
      · exact Nat.lt_succ_self _
      · rw [List.mem_singleton.mp hb]; exact Nat.lt_succ_of_lt hlt
    · intro D C s₃ m' ys led hl hJ S' F' N' o1 hn hC₀ hD₀ hCL hDL hCD offC hDs
      exact hRR D C s₃ m' ys led (fin D ys led s₃ hl hJ ((Same.put s₁ _ s₁.toks).trans S') F' N' o1 (none_push hDs)) F' N' hn hC₀ hCL hDL hD₀ hCD offC o1 (fun s₄ S₄ F₄ N₄ => fin D ys led s₄ hl hJ (((Same.put s₁ _ s₁.toks).trans S').trans S₄) F₄ N₄ o1 (none_push hDs))

theorem eval_ListComp_G {Q : Value → Shared → Prop} (_F₀ : Fr h₀ L s.heap m)
    (hclos : closureFor scope env = pure cl) (hcell : ∀ y ∈ scope.names, y.2 ≠ .cell) (hkind : scope.kind = .function)
    (hnames : ∀ y ∈ scope.names, y.2 = .local → scope.names.lookup y.1 = some .local) (hx : scope.names.lookup x = some .local)
    (h : wpAny (model prog w) A (eval iter env) (CompG prog w A env h₀ L m elt x scope cl (fun v _ _ s' => Q v s')) E s)
    (hs : ∀ x, foldedSetIterable iter env x = pure x := by intro _; rfl) :
    wpAny (model prog w) A (eval (.ListComp elt [⟨.Name x px, iter, [], 0⟩] scope pos) env) Q E s := by
  rw [eval_ListComp]
  refine wpAny_comprehension_free (use := none) rfl hs hclos hkind hnames (wpAny_mono h (fun xv s₁ h₁ => ?_) fun _ _ e => e)
  refine comp_core hcell hkind hx h₁ ?_
  intro D C s₃ m' ys led hf F N hn hC₀ hCL hDL hD₀ hCD offC offD again
  refine ⟨m', hn, fun h'' hs'' => again { s₃ with heap := h'' } (Same.put s₃ _ s₃.toks) (F.change hs'' hCL hC₀) fun p hp => ?_⟩
  refine ⟨hs''.extBut _ _ ?_ (N p hp).1, (N p hp).2⟩
  rcases List.mem_cons.mp hp with rfl | hp
  · exact Ne.symm hCD
  · exact offC p hp
end
end Mine

namespace Mine

theorem grow_push (h : Heap) (o : Obj) : Grow h (h.push o) := fun _ _ e => Heap.get?_push_of_some _ e
theorem none_of_ge {h : Heap} {a : Addr} (e : h.objs.size ≤ a) : h.get? a = none := Heap.get?_none_of_le e
section
variable {prog : Program} {w : World} {A : Around} {s : Shared} {h₀ : Heap} {K : Frag} {p : Program} {loose : List Str} {mg mb : Str → Option Value}
  {R : Result → Shared → Prop} {name qual : Str} {params : Arguments} {body : List Stmt} {scope : Scope} {dV kV doc pm cdv ct oc : Value} {an od : Option Addr} {osl : Array (Option Value)} {f C : Addr} {args : Args} {binds : List (Str × Value)}

/-- a class of the text's called: the new object, its empty dict, then its __init__ -/
theorem newK {rest : List Value} {kw : List (Str × Value)} {fI : Addr} (X : K.In s.heap) (hm : makesIn K C = true)
    (hi : findIn K (.ref C) "__init__" = some (some (.ref fI))) (hf : typeIn K (.ref fI) = some (.type "function"))
    (h : ∀ x dx h', Grow s.heap h' → Fresh s.heap h' x (instObj C dx) → Fresh s.heap h' dx (dictOf [] 0) → dx ≠ x →
      codeAny (model prog w) (A.under (.builtin "type.__call__" ⟨.ref C :: rest, kw⟩)) (.call (.ref fI) ⟨.ref x :: rest, kw⟩) (InitBack x R) { s with heap := h' }) :
    codeAny (model prog w) A (.call (.ref C) ⟨rest, kw⟩) R s := by
  obtain ⟨hh, g, d, t, os⟩ := s
  refine make_core (makes_of X hm) (looks_findIn X hi) (fun self => bind_fn X self hf) (.inl rfl) (h (hh.objs.size + 1) hh.objs.size _ ((grow_push _ _).trans (grow_push _ _)) ⟨?_, none_of_ge (Nat.le_succ _)⟩ ⟨?_, none_of_ge (Nat.le_refl _)⟩ (Nat.ne_of_lt (Nat.lt_succ_self _)))
  · have := Heap.get?_push_size (hh.push emptyDict) (o := instObj C hh.objs.size) rfl
    rwa [Heap.size_push] at this
  · exact Heap.get?_push_of_some _ (Heap.get?_push_size _ rfl)

/-- a call of a def that turns some of its caller's objects: they are hidden from its ground and stand in its ledger -/
theorem enterH (hs : List (Addr × Obj)) (hsub : Grow h₀ s.heap) (X : K.In h₀) (T : TopRead p loose mg mb h₀) (H : ∀ q ∈ hs, HeapIs s.heap q.1 q.2 ∧ h₀.get? q.1 = none)
    (ho : K.lookup f = some ⟨oc, od, .func (fnOf name qual params body scope dV kV doc pm an cdv ct), osl⟩) (hcd : codeIn K cdv qual = true) (hroom : A.depth < recursionLimit)
    (hbind : BindsTo s (fnOf name qual params body scope dV kV doc pm an cdv ct) args binds) (hloc : ∀ y ∈ binds, scope.names.lookup y.1 = some .local)
    (h : ∀ g L' h₁, Grow h₀ g → Grow g s.heap → (∀ b o, s.heap.get? b = some o → b ∉ hs.map (·.1) → g.get? b = some o) → (∀ q ∈ hs, g.get? q.1 = none) → g.objs.size = s.heap.objs.size → K.In g → TopRead p loose mg mb g →
      Fr g L' h₁ (fun y => binds.reverse.lookup y) → News g L' h₁ hs →
      wpAny (model prog w) (A.deeper (envOf qual scope L' f cdv)) (execs body (envOf qual scope L' f cdv))
        (fun fl s' => R (.ok (.ret (match fl with | .ret v => v | _ => .none))) s') (fun _ _ => False)
        { s with heap := h₁, toks := s.toks + binds.length })
    (hco : scope.isCoroutine = false) (hgen : scope.isGenerator = false) (hk : scope.kind = .function)
    (hcell : ∀ x ∈ scope.names, x.2 ≠ .cell) : codeAny (model prog w) A (.call (.ref f) args) R s := by
  have st : Grow h₀ (hideAll s.heap (hs.map (·.1))) := fun b o e => hideAll_get _ (hsub b o e) fun hb => by
    obtain ⟨q, hq, rfl⟩ := List.mem_map.mp hb
    rw [(H q hq).2] at e; cases e
  refine codeAny_call_def (fd := fnOf name qual params body scope dV kV doc pm an cdv ct) (body := body) (binds := binds) hroom (hsub _ _ (X _ _ ho)) rfl (T.nolimit.keeps hsub) (codeRec_of (X.keeps hsub) hcd) rfl hbind hcell hloc (fun h₁ hns hk₁ => ?_) hco hgen hk
  exact wpAny_mono (h _ s.heap.objs.size h₁ st (fun b o e => of_hideAll _ e) (fun b o e n => hideAll_get _ e n) (fun q hq => hideAll_none _ (List.mem_map_of_mem hq)) (hideAll_size _ _) (X.keeps st) (T.keeps st) ⟨hns, fun b o e => hk₁ b o (of_hideAll _ e), Nat.le_of_eq (hideAll_size _ _)⟩
    (fun q hq => ⟨hk₁ _ _ (H q hq).1, Nat.ne_of_lt (Heap.lt_size (H q hq).1), hideAll_none _ (List.mem_map_of_mem hq)⟩)) (fun _ _ y => y) fun _ _ y => y.elim

theorem enterHC (hs : List (Addr × Obj)) (hsub : Grow h₀ s.heap) (X : K.In h₀) (T : TopRead p loose mg mb h₀) (H : ∀ q ∈ hs, HeapIs s.heap q.1 q.2 ∧ h₀.get? q.1 = none)
    (ho : K.lookup f = some ⟨oc, od, .func (fnOf name qual params body scope dV kV doc pm an cdv ct), osl⟩) (hcd : codeIn K cdv qual = true) (hroom : A.depth < recursionLimit)
    (hbind : BindsTo s (fnOf name qual params body scope dV kV doc pm an cdv ct) args binds)
    (hkind : (binds.all fun y => scope.names.lookup y.1 == some .local || scope.names.lookup y.1 == some .cell) = true)
    (hnd : ((cellsFrom 0 scope.names []).map (·.1)).Nodup)
    (h : ∀ g L' h₁ tk cells, Grow h₀ g → Grow g s.heap → (∀ b o, s.heap.get? b = some o → b ∉ hs.map (·.1) → g.get? b = some o) → (∀ q ∈ hs, g.get? q.1 = none) → g.objs.size = s.heap.objs.size → K.In g → TopRead p loose mg mb g →
      Fr g L' h₁ (bindL (envOfC qual scope L' f cdv).kindOf binds fun _ => none) → News g L' h₁ (cells ++ hs) → CellsAre (bindC (envOfC qual scope L' f cdv).kindOf binds fun _ => none) (cellsFrom (L' + 1) scope.names []) cells →
      (∀ q ∈ hs, q.1 < L') → (∀ q ∈ cells, L' < q.1) →
      wpAny (model prog w) (A.deeper (envOfC qual scope L' f cdv)) (execs body (envOfC qual scope L' f cdv))
        (fun fl s' => R (.ok (.ret (match fl with | .ret v => v | _ => .none))) s') (fun _ _ => False)
        { s with heap := h₁, toks := tk })
    (hco : scope.isCoroutine = false) (hgen : scope.isGenerator = false) (hk : scope.kind = .function) : codeAny (model prog w) A (.call (.ref f) args) R s := by
  have st : Grow h₀ (hideAll s.heap (hs.map (·.1))) := fun b o e => hideAll_get _ (hsub b o e) fun hb => by
    obtain ⟨q, hq, rfl⟩ := List.mem_map.mp hb
    rw [(H q hq).2] at e; cases e
  refine codeAny_call_function hroom (hsub _ _ (X _ _ ho)) rfl hco hgen rfl (codeRec_of (X.keeps hsub) hcd) (hbind _ _ _ _ ?_)
  refine wpAny_newFunctionEnv_cells hk (kindsX hkind _) fun env' he s' x => ?_
  subst he
  refine ⟨(T.nolimit.keeps hsub).keeps x.toInCall.keep, codeAny_func ?_⟩
  obtain ⟨h₁, tk, rfl, _⟩ := x.done
  have hk₁ := x.toInCall.keep
  obtain ⟨cells, NC, Y⟩ := Cl.news (h₀ := s.heap) (Nat.le_refl _) fun n c hm => ⟨x.cell n c (lookup_of_mem_nodup (cellsFrom_names scope.names 0 (s.heap.objs.size + 1) [] [] rfl ▸ hnd) hm), x.above n c hm⟩
  have hab : ∀ {cm : Str → Option Value} {cs : List (Str × Addr)} {cells : List (Addr × Obj)}, CellsAre cm cs cells → (∀ n c, (n, c) ∈ cs → s.heap.objs.size < c) → ∀ q ∈ cells, s.heap.objs.size < q.1 := by
    intro cm cs cells Y
    induction Y with
    | nil => intro _ q hq; cases hq
    | cons _ _ ih =>
      intro hc q hq
      rcases List.mem_cons.mp hq with rfl | hq
      · exact hc _ _ List.mem_cons_self
      · exact ih (fun n c hm => hc n c (List.mem_cons_of_mem _ hm)) q hq
  refine wpAny_mono (h _ s.heap.objs.size h₁ tk cells st (fun b o e => of_hideAll _ e) (fun b o e n => hideAll_get _ e n) (fun q hq => hideAll_none _ (List.mem_map_of_mem hq)) (hideAll_size _ _) (X.keeps st) (T.keeps st) ⟨x.toInCall.ns, fun b o e => hk₁ b o (of_hideAll _ e), Nat.le_of_eq (hideAll_size _ _)⟩ (fun q hq => ?_) Y
    (fun q hq => Heap.lt_size (H q hq).1) (hab Y fun n c hm => x.above n c hm)) (fun _ _ y => y) fun _ _ y => y.elim
  rcases List.mem_append.mp hq with hq | hq
  · refine ⟨(NC q hq).1, (NC q hq).2.1, ?_⟩
    cases e : (hideAll s.heap (hs.map (·.1))).get? q.1 with
    | none => rfl
    | some o => have := of_hideAll _ e; rw [(NC q hq).2.2] at this; cases this
  · exact ⟨hk₁ _ _ (H q hq).1, Nat.ne_of_lt (Heap.lt_size (H q hq).1), hideAll_none _ (List.mem_map_of_mem hq)⟩
end

section
variable {prog : Program} {w : World} {A : Around} {E : Value → Shared → Prop} {s : Shared} {h₀ : Heap} {L l : Addr} {m : Str → Option Value} {vs : List Value} {ns : List Int} {na k : Nat} {news : List (Addr × Obj)}
theorem len_base {Q : Value → Shared → Prop} (F : Fr h₀ L s.heap m) (hl : h₀.get? l = some (listOf vs.toArray na)) (hi : vs.length = k) (hfit : (k : Int) < 2 ^ 63)
    (h : Q (.int (k : Int) (s.toks + 1)) { s with toks := s.toks + 1 + 1 }) : wpAny (model prog w) A (call (.builtin "len") [.ref l]) Q E s := by
  have e2 : vs.toArray.size = k := by rw [List.size_toArray, hi]
  exact len_list ⟨_, F.keep _ _ hl, rfl, na, rfl⟩ (by rw [e2]; exact hfit) (by rw [e2]; exact h)
end

section
variable {prog : Program} {w : World} {A : Around} {s : Shared} {env : Env} {h₀ : Heap} {L : Addr} {m : Str → Option Value} {elt : PySem.Expr} {x : Str} {scope : Scope} {cl : List (Str × Addr)}
  {Fin : Value → List Value → List (Addr × Obj) → Shared → Prop}




end

section
variable {prog : Program} {w : World} {A : Around} {E : Value → Shared → Prop} {s : Shared} {h₀ : Heap} {L a b : Addr} {m : Str → Option Value} {vs us : List Value} {led : List (Addr × Obj)}
theorem isList_base {l : Addr} {na : Nat} (F : Fr h₀ L s.heap m) (e : h₀.get? l = some (listOf vs.toArray na)) : s.heap.IsList l vs.toArray := ⟨_, F.keep _ _ e, rfl, na, rfl⟩
theorem fresh_led {d : Addr} {o : Obj} (N : News h₀ L s.heap led) (e : (d, o) ∈ led) : Fresh h₀ s.heap d o := ⟨(N _ e).1, (N _ e).2.2⟩
end

theorem off1_of {D : Addr} : ∀ {l : List (Addr × Obj)}, (∀ p ∈ l, p.1 ≠ D) → LCg.Off1 D l
  | [], _ => trivial
  | _ :: _, h => ⟨h _ List.mem_cons_self, off1_of fun p hp => h p (List.mem_cons_of_mem _ hp)⟩
section
variable {h₀ h h' : Heap} {L a : Addr} {o : Obj} {m : Str → Option Value} {led : List (Addr × Obj)}
theorem news_fresh (F : Fr h₀ L h m) (N : News h₀ L h led) (G : Grow h h') (f : Fresh h h' a o) : News h₀ L h' ((a, o) :: led) ∧ LCg.Off1 a led := by
  have ne : ∀ b ob, h.get? b = some ob → b ≠ a := fun b ob e q => by rw [q, f.2] at e; cases e
  refine ⟨fun p hp => ?_, off1_of fun p hp => ne _ _ (N p hp).1⟩
  rcases List.mem_cons.mp hp with rfl | hp
  · refine ⟨f.1, ?_, ?_⟩
    · obtain ⟨oL, _, _, e, _⟩ := F.ns
      exact Ne.symm (ne _ _ e)
    · cases e : h₀.get? a with
      | none => rfl
      | some ob => exact absurd rfl (ne _ _ (F.keep _ _ e))
  · exact ⟨G _ _ (N p hp).1, (N p hp).2⟩
theorem fresh_sub {h₁ : Heap} (x : Fresh h h' a o) (G : Grow h₁ h) : Fresh h₁ h' a o := ⟨x.1, by
  cases e : h₁.get? a with
  | none => rfl
  | some ob => have := G _ _ e; rw [x.2] at this; cases this⟩
end

theorem instAt_is {h : Heap} {x C dx : Addr} {od : Obj} (h1 : h.get? x = some (instObj C dx)) (h2 : h.get? dx = some od) : InstAt h x (instObj C dx) C (some od) := ⟨h1, rfl, rfl, h2⟩

section
variable {prog : Program} {w : World} {A : Around} {E : Value → Shared → Prop} {s : Shared} {env : Env} {h₀ : Heap} {L : Addr} {m : Str → Option Value} {elt iter : PySem.Expr} {x y : Str} {px py : Pos} {scope : Scope} {cl : List (Str × Addr)} {pos spos : Pos}
/-- behind «y = [..]»: the name holds the new list -/
def FinStore (h₀ : Heap) (L : Addr) (m : Str → Option Value) (y : Str) (Q : Flow → Shared → Prop) (v : Value) (ys : List Value) (led : List (Addr × Obj)) (s₃ : Shared) : Prop :=
  ∀ D s₄, v = .ref D → Same s₃ s₄ → Fr h₀ L s₄.heap (fun z => if z = y then some (.ref D) else m z) → News h₀ L s₄.heap ((D, LCg.lst ys) :: led) → Q .next s₄
theorem assign_ListComp_G {Q : Flow → Shared → Prop} (_F₀ : Fr h₀ L s.heap m) (hLe : env.locals = L)
    (hsw : swapsWith (.ListComp elt [⟨.Name x px, iter, [], 0⟩] scope pos) (some (.Name y py)) spos.line env = pure true)
    (hclos : closureFor scope env = pure cl) (hcell : ∀ z ∈ scope.names, z.2 ≠ .cell) (hkind : scope.kind = .function)
    (hnames : ∀ z ∈ scope.names, z.2 = .local → scope.names.lookup z.1 = some .local) (hx : scope.names.lookup x = some .local)
    (hy : env.kindOf y = some .local) (hp : (env.scope.kind == .class || (env.scope.kind == .module && env.locals != env.globals)) = false)
    (h : wpAny (model prog w) A (eval iter env) (CompG prog w A env h₀ L m elt x scope cl (FinStore h₀ L m y Q)) E s)
    (hs : ∀ x, foldedSetIterable iter env x = pure x := by intro _; rfl) :
    wpAny (model prog w) A (exec (.Assign [.Name y py] (.ListComp elt [⟨.Name x px, iter, [], 0⟩] scope pos) spos) env) Q E s := by
  subst hLe
  rw [exec_Assign_Name_used _ _ _ _ hsw]
  refine wpAny_bind (wpAny_standAt (wpAny_bind ?_))
  show wpAny _ A (do let _ ← comprehension (.ListComp elt [⟨.Name x px, iter, [], 0⟩] scope pos) scope env _ (newList []) false (eval iter env) (some (assign (.Name y py) env))) _ _ s
  refine wpAny_bind (wpAny_mono (wpAny_comprehension_free (use := some (assign (.Name y py) env)) (Q := fun _ s' => Q .next s') rfl hs hclos hkind hnames
    (wpAny_mono h (fun xv s₁ h₁ => ?_) fun _ _ e => e)) (fun _ s' hq => wpAny_pure (wpAny_pure hq)) fun _ _ e => e)
  refine comp_core hcell hkind hx h₁ ?_
  intro D C s₃ m' ys led hf F N hn hC₀ hCL hDL hD₀ hCD offC offD _
  show wpAny _ A (assign (.Name y py) env (.ref D)) _ _ _
  refine wpAny_assign_Name (wpAny_storeName_local hy F.ns (fun h₂ hn₂ hs₂ => ?_) hp)
  have hL₀ : h₀.get? env.locals = none := Heap.get?_none_of_le F.above
  have F₂ : Fr h₀ env.locals h₂ (fun z => if z = y then some (.ref D) else m z) := ⟨hn₂, fun b o e => hs₂.extBut b o (fun q => by rw [q, hL₀] at e; cases e) (F.keep b o e), F.above⟩
  refine ⟨m', hn.sameBut hs₂ hCL, fun h'' hs'' => hf D { s₃ with heap := h'', toks := _ } rfl (Same.put s₃ _ _) (F₂.change hs'' hCL hC₀) fun p hp => ?_⟩
  have z : h₂.get? p.1 = some p.2 := hs₂.extBut _ _ (N p hp).2.1 (N p hp).1
  refine ⟨hs''.extBut _ _ ?_ z, (N p hp).2⟩
  rcases List.mem_cons.mp hp with rfl | hp
  · exact Ne.symm hCD
  · exact offC p hp
end

theorem fresh_ne {h₀ h h' : Heap} {L a : Addr} {o : Obj} {m : Str → Option Value} (F : Fr h₀ L h m) (f : Fresh h h' a o) : a ≠ L := fun q => by
  obtain ⟨oL, _, _, e, _⟩ := F.ns
  rw [q] at f; rw [f.2] at e; cases e


open Builtin.Int in
def Sz (k : Nat) (c : List Int) : Prop := ∀ x ∈ c, intBits x ≤ k
open Builtin.Int in
theorem mulOk_bits {x y : Int} {a b : Nat} (hx : intBits x ≤ a) (hy : intBits y ≤ b) (h : a + b ≤ 134217728) : IntMulOk x y := by
  unfold IntMulOk
  intro h'
  have h2 := (Bool.and_eq_true_iff.mp h').2
  unfold intTooBig at h2
  have h3 := of_decide_eq_true h2
  have h4 : (bitsLine : Int) = 134217728 := rfl
  rw [h4] at h3
  omega
open Builtin.Int in
theorem Sz.get {k : Nat} {c : List Int} (h : Sz k c) (i : Nat) : intBits (c.getD i 0) ≤ k := by
  rw [List.getD_eq_getElem?_getD]
  cases e : c[i]? with
  | none => exact Nat.zero_le _
  | some x => exact h x (List.mem_of_getElem? e)
theorem Sz.ok {a b : Nat} {c d : List Int} (hc : Sz a c) (hd : Sz b d) (h : a + b ≤ 134217728) (i j : Nat) : IntMulOk (c.getD i 0) (d.getD j 0) := mulOk_bits (hc.get i) (hd.get j) h

open Builtin.Int in
theorem intBits_mono {a b : Int} (h0 : 0 ≤ a) (h : a ≤ b) : intBits a ≤ intBits b := by
  unfold intBits
  by_cases ha : a = 0
  · subst ha; simp
  · have hb : b ≠ 0 := by omega
    have e1 : (a == 0) = false := by simp [ha]
    have e2 : (b == 0) = false := by simp [hb]
    rw [e1, e2]
    simp only [Bool.false_eq_true, if_false]
    have h1 : a.natAbs ≠ 0 := by omega
    have h2 := Nat.log2_self_le h1
    have h3 : 2 ^ a.natAbs.log2 ≤ b.natAbs := by omega
    have h4 := (Nat.le_log2 (show b.natAbs ≠ 0 by omega)).mpr h3
    omega



section
variable {prog : Program} {w : World} {A : Around} {E : Value → Shared → Prop} {s : Shared} {h₀ h : Heap} {L d : Addr} {m : Str → Option Value} {vs : List Value} {n : Nat} {x : Value} {rest : List (Addr × Obj)}
theorem news_swap {a b : Addr × Obj} (N : News h₀ L h (a :: b :: rest)) : News h₀ L h (b :: a :: rest) := fun p hp => N p (by
  rcases List.mem_cons.mp hp with rfl | hp
  · exact List.mem_cons_of_mem _ List.mem_cons_self
  · rcases List.mem_cons.mp hp with rfl | hp
    · exact List.mem_cons_self
    · exact List.mem_cons_of_mem _ (List.mem_cons_of_mem _ hp))
/-- a new list: freshness told for the whole ledger -/
theorem newList_led {Q : Value → Shared → Prop} (F : Fr h₀ L s.heap m) (N : News h₀ L s.heap rest) (hsz : vs.length ≤ sizeLine)
    (h : ∀ D h', Grow s.heap h' → Fr h₀ L h' m → News h₀ L h' ((D, listOf vs.toArray 0) :: rest) → (∀ p ∈ rest, p.1 ≠ D) → Q (.ref D) { s with heap := h' }) : wpAny (model prog w) A (newList vs) Q E s :=
  wpAny_newObj_type (h _ _ (grow_push _ _) (F.push _) (N.push F _) fun p hp => Nat.ne_of_lt (Heap.lt_size (N p hp).1)) (by show vs.toArray.size ≤ sizeLine; rw [List.size_toArray]; exact hsz)
end


section
variable {prog : Program} {w : World} {A : Around} {E : Value → Shared → Prop} {s : Shared} {env : Env} {h₀ : Heap} {x : Str} {px : Pos} {body : List Stmt} {Q : Flow → Shared → Prop}

end

section
variable {prog : Program} {w : World} {A : Around} {E : Value → Shared → Prop} {s : Shared} {h₀ : Heap} {L l : Addr} {m : Str → Option Value} {led : List (Addr × Obj)} {value slice : PySem.Expr} {vs : List Value} {a : Nat} {ta : Tok} {Q : Value → Shared → Prop}
end
end Mine

namespace Mine

section
variable {M : Model} {A : Around} {E : Value → Shared → Prop} {s : Shared}
/-- a generator expression's code: new or found, the table stays a table -/
theorem genCode_any {env : Env} {c P : Addr} {ps : Array Value} {pos : Pos} {qual : Str} {scope : Scope} {Q : Value → Shared → Prop} (hc : env.code = .ref c) (C : CodeHd s.heap c P) (hP : s.heap.get? P = some (tabObj ps)) (ht : TriplesOk ps.toList)
    (h : ∀ code h' tk ps', Heap.ExtBut P s.heap h' → s.heap.objs.size ≤ h'.objs.size → h'.get? P = some (tabObj ps') → TriplesOk ps'.toList → Q code { s with heap := h', toks := tk }) :
    wpAny M A (genexprCode env pos qual scope) Q E s := by
  cases e : codeAmong pos ps.toList with
  | some c' => exact wpAny_genexprCode_hit hc (C.code hP ht) e (h c' s.heap s.toks ps (fun _ _ _ e => e) (Nat.le_refl _) hP ht)
  | none =>
    refine wpAny_genexprCodeX hc (C.code hP ht) (C.tab hP) e fun c' h' tk hx hge hlt hcode _ htab _ => h _ h' tk _ hx (Nat.le_trans hge (Nat.le_of_lt hlt)) htab.2 ?_
    have := TriplesOk_snoc pos.line pos.col (.ref c') _ ht
    simpa using this
end

/-- a generator made: what it gives in order; what it writes is its own -/
def GenV (prog : Program) (w : World) (A : Around) (h₀ : Heap) (L : Addr) (led : List (Addr × Obj)) (a : Addr) (n : Nat) (F : Nat → Value → Prop) (s₁ s : Shared) : Prop :=
  ∃ fp wr g St, WalksS prog w A.in4 a fp wr (GenOnlyQ g) n F St ∧ St 0 s ∧ s₁.gens.size ≤ g ∧ Same s₁ s ∧ (∀ b ∈ fp, b < s.heap.objs.size) ∧ ∀ b ∈ wr, b ≠ L ∧ h₀.get? b = none ∧ ∀ p ∈ led, p.1 ≠ b

theorem GenV.before {prog : Program} {w : World} {A : Around} {h₀ : Heap} {L : Addr} {led : List (Addr × Obj)} {a : Addr} {n : Nat} {F : Nat → Value → Prop} {s₀ s₁ s : Shared} (X : GenV prog w A h₀ L led a n F s₁ s) (S : Same s₀ s₁) (hg : s₁.gens.size = s₀.gens.size) :
    GenV prog w A h₀ L led a n F s₀ s := by
  obtain ⟨fp, wr, g, St, W, hst, hg', S', r⟩ := X
  exact ⟨fp, wr, g, St, W, hst, hg ▸ hg', S.trans S', r⟩

section
variable {prog : Program} {w : World} {A : Around} {E : Value → Shared → Prop} {s : Shared} {env : Env} {h₀ : Heap} {L P c : Addr} {m mg mgB : Str → Option Value} {elt iter : PySem.Expr} {x : Str} {px : Pos} {scope : Scope} {cl : List (Str × Addr)} {pos : Pos} {ps : Array Value} {led : List (Addr × Obj)}

/-- a generator's element: it reads alone -/
def GenElt (prog : Program) (w : World) (A : Around) (env : Env) (h₀ : Heap) (elt : PySem.Expr) (x : Str) (scope : Scope) (cl : List (Str × Addr)) (led : List (Addr × Obj)) (n : Nat) (Pi F : Nat → Value → Prop) : Prop :=
  ∀ (A' : Around) (E' : Value → Shared → Prop) i v (t : Shared) C (m₂ : Str → Option Value) code, A'.handled = none → A'.depth ≤ A.depth + 1 → A'.units ≤ A.units + 8 → i < n → Pi i v → Fr h₀ C t.heap m₂ → m₂ x = some v → News h₀ C t.heap led →
    wpAny (model prog w) A' (eval elt (genEnv scope cl C code builtinsNs env)) (fun y s₃ => F i y ∧ Keeps t s₃) E' t

def GenSrcG (prog : Program) (w : World) (A : Around) (env : Env) (h₀ : Heap) (L : Addr) (m : Str → Option Value) (elt : PySem.Expr) (x : Str) (scope : Scope) (cl : List (Str × Addr)) (P : Addr) (Q : Value → Shared → Prop) (xv : Value) (s₁ : Shared) : Prop :=
  ∃ (ps : Array Value) (led : List (Addr × Obj)) (n : Nat) (Pi F : Nat → Value → Prop), A.handled = none ∧ Fr h₀ L s₁.heap m ∧ News h₀ L s₁.heap ((P, tabObj ps) :: led) ∧ (∀ p ∈ led, p.1 ≠ P) ∧ TriplesOk ps.toList ∧
    ((∃ r a b t u v, xv = .ref r ∧ IsRange s₁.heap r a b 1 t u v ∧ Builtin.Range.small a b 1 = true ∧ Builtin.Range.rangeSize a b 1 = (n : Int) ∧ Pi = fun i v => ∃ t, v = .int (a + (i : Int)) t) ∨
     (∃ l its, xv = .ref l ∧ its.size = n ∧ Pi = (fun i v => its[i]? = some v) ∧ s₁.heap.IsList l its)) ∧
    GenElt prog w A env h₀ elt x scope cl led n Pi F ∧
    (∀ a s₅ ps', GenV prog w A h₀ L ((P, tabObj ps') :: led) a n F s₁ s₅ → Same s₁ s₅ → Fr h₀ L s₅.heap m → News h₀ L s₅.heap ((P, tabObj ps') :: led) → TriplesOk ps'.toList → Q (.ref a) s₅)

theorem passing_all (n : Nat) : passing (fun _ => true) n 0 = List.range n := by
  unfold passing; simp

theorem gen_core {Q : Value → Shared → Prop} {n : Nat} {Pi F : Nat → Value → Prop} {s₂ : Shared} {I : Addr} {fp : List Addr} {St₀ : Nat → Heap → Prop} {bm : Addr} {ob : Obj}
    (M : BMod h₀ env.globals mgB bm ob) (Ch : CodeHd h₀ c P) (hlim : h₀.NoLimit) (hcode : env.code = .ref c)
    (F₂ : Fr h₀ L s₂.heap m) (N₂ : News h₀ L s₂.heap ((P, tabObj ps) :: led)) (off : ∀ p ∈ led, p.1 ≠ P) (ht : TriplesOk ps.toList)
    (W₀ : ∀ A' : Around, A'.handled = none → Walks prog w A' I fp [I] n Pi St₀) (hst : St₀ 0 s₂.heap) (hfp : ∀ b ∈ fp, b < s₂.heap.objs.size) (hPf : P ∉ fp) (hIL : I ≠ L) (hI₀ : h₀.get? I = none) (hIl : ∀ p ∈ led, p.1 ≠ I) (hIP : P ≠ I)
    (elt₁ : GenElt prog w A env h₀ elt x scope cl led n Pi F) (hh : A.handled = none)
    (ret : ∀ a s₅ ps', GenV prog w A h₀ L ((P, tabObj ps') :: led) a n F s₂ s₅ → Same s₂ s₅ → Fr h₀ L s₅.heap m → News h₀ L s₅.heap ((P, tabObj ps') :: led) → TriplesOk ps'.toList → Q (.ref a) s₅) :
    s₂.heap.NoLimit ∧ wpAny (model prog w) A (genexprCode env pos (env.qual ++ "<genexpr>") scope) (fun code s₃ => wpAny (model prog w) A (builtinsFor env.globals env.builtins) (fun bi s₄ =>
        ∃ I' fp wr n₀ P' St₀ pz F', Value.ref I = .ref I' ∧ (∀ A' : Around, A'.handled = none → Walks prog w A' I' fp wr n₀ P' St₀) ∧ St₀ 0 s₄.heap ∧ (∀ b ∈ fp, b < s₄.heap.objs.size) ∧ s₄.heap.NoLimit ∧ cStatics ∉ wr ∧
          (∀ href : Heap, (∀ b o, s₄.heap.get? b = some o → href.get? b = some o) →
            QuietGenD prog w (genEnv scope cl s₄.heap.objs.size code bi env) x [] elt (List.range s₄.heap.objs.size) wr P' pz F' href (A.depth + 1) (A.units + 8)) ∧
          (∀ a h₅ tk gs, gs.bare = true → s₄.heap.objs.size < a → h₅.objs.size = a + 1 → (∀ b o, s₄.heap.get? b = some o → h₅.get? b = some o) →
            WalksS prog w A.in4 a (a :: s₄.heap.objs.size :: List.range s₄.heap.objs.size) (s₄.heap.objs.size :: wr) (GenOnlyQ s₄.gens.size) (passing pz n₀ 0).length
              (fun j y => ∃ i, (passing pz n₀ 0)[j]? = some i ∧ F' i y) (GenAt prog w A.in4 a s₄.gens.size s₄.heap.objs.size (List.range s₄.heap.objs.size) wr pz n₀ F') →
            GenAt prog w A.in4 a s₄.gens.size s₄.heap.objs.size (List.range s₄.heap.objs.size) wr pz n₀ F' 0 { s₄ with gens := s₄.gens.push gs, toks := tk, heap := h₅ } →
            Q (.ref a) { s₄ with gens := s₄.gens.push gs, toks := tk, heap := h₅ })) E s₃) E s₂ := by
  have C₂ := Ch.keeps F₂.keep
  have hP₂ := (N₂ _ List.mem_cons_self).1
  refine ⟨hlim.keeps F₂.keep, genCode_any hcode C₂ hP₂ ht fun code h₃ tk₃ ps' hx hsz hP₃ ht₃ => ?_⟩
  have M₃ : BMod h₃ env.globals mgB bm ob := (M.keeps F₂.keep).extBut (C₂.tab hP₂) hx
  have hcP : cStatics ≠ P := fun e => by
    obtain ⟨_, hns, _⟩ := hlim
    obtain ⟨o, es, ep, ho, hd, _⟩ := hns
    have := (N₂ _ List.mem_cons_self).2.2
    rw [e] at ho
    rw [show h₀.get? P = none from this] at ho
    cases ho
  have hl₃ : h₃.NoLimit := (hlim.keeps F₂.keep).extBut hx hcP
  have hcI : cStatics ≠ I := fun e => by
    obtain ⟨_, hns, _⟩ := hlim
    obtain ⟨o, es, ep, ho, hd, _⟩ := hns
    rw [e, hI₀] at ho
    cases ho
  have base₃ : ∀ b o, h₀.get? b = some o → h₃.get? b = some o := fun b o e => hx b o (fun q => by rw [q] at e; rw [show h₀.get? P = none from (N₂ _ List.mem_cons_self).2.2] at e; cases e) (F₂.keep b o e)
  have hPL : P ≠ L := (N₂ _ List.mem_cons_self).2.1
  have F₃ : Fr h₀ L h₃ m := ⟨F₂.ns.at' fun o e => hx _ o (Ne.symm hPL) e, base₃, F₂.above⟩
  have N₃ : News h₀ L h₃ ((P, tabObj ps') :: led) := fun p hp => by
    rcases List.mem_cons.mp hp with rfl | hp
    · exact ⟨hP₃, (N₂ _ List.mem_cons_self).2⟩
    · exact ⟨hx _ _ (off p hp) (N₂ p (List.mem_cons_of_mem _ hp)).1, (N₂ p (List.mem_cons_of_mem _ hp)).2⟩
  refine wpAny_builtinsFor M₃.ns M₃.name M₃.ne M₃.obj M₃.cls M₃.dict M₃.data ?_
  refine ⟨I, fp, [I], n, (fun i v => i < n ∧ Pi i v), St₀, (fun _ => true), F, rfl, (fun A' hA => (W₀ A' hA).bound), (W₀ A hh).frame _ _ _ hst (fun b hb o e => hx b o (fun e' => hPf (e' ▸ hb)) e), (fun b hb => Nat.lt_of_lt_of_le (hfp b hb) hsz), hl₃, (fun hm => hcI (List.mem_singleton.mp hm)),
    (fun href hhref => ⟨?_, ?_⟩), fun a h₅ tk gs hgb hag hsz₅ hk₅ W hat => ?_⟩
  · intro A' E' i v t m₂ hA hd hu hP hn hxv hk
    exact wpAny_pure ⟨rfl, t.heap, t.toks, rfl, fun _ _ e => e⟩
  · rintro A' E' i v t m₂ hA hd hu ⟨hi, hP⟩ _ hn hxv hk
    have keep : ∀ b o, b ≠ I → h₃.get? b = some o → t.heap.get? b = some o := fun b o hb e => hk b (List.mem_range.mpr (Heap.lt_size e)) (fun q => hb (List.mem_singleton.mp q)) o (hhref b o e)
    refine elt₁ A' E' i v t h₃.objs.size m₂ code hA hd hu hi hP ⟨hn, fun b o e => keep b o (fun q => by rw [q, hI₀] at e; cases e) (base₃ b o e), Nat.le_trans F₃.above (Nat.le_of_lt F₃.ns.lt)⟩ hxv fun p hp => ?_
    have hp3 := N₃ p (List.mem_cons_of_mem _ hp)
    exact ⟨keep _ _ (hIl p hp) hp3.1, Nat.ne_of_lt (Heap.lt_size hp3.1), hp3.2.2⟩
  · have e1 := passing_all n
    rw [e1, List.length_range] at W
    have W3 : WalksS prog w A.in4 a _ _ _ n F _ := { sub := W.sub, grefl := W.grefl, gtrans := W.gtrans, frame := W.frame, done := W.done, self := W.self, item := fun i s Q E hi st hQ => W.item i s Q E hi st fun v s' hF => hQ v s' (by
      obtain ⟨j, hj, hF⟩ := hF
      rw [List.getElem?_range hi] at hj
      cases hj
      exact hF) }
    have SS : ∀ tk', Same s₂ { s₂ with gens := s₂.gens.push gs, toks := tk', heap := h₅ } := fun tk' => ⟨rfl, fun g => g.push hgb, by show _ ≤ (s₂.gens.push gs).size; rw [Array.size_push]; exact Nat.le_succ _, fun k hk => by
      show (s₂.gens.push gs)[k]? = s₂.gens[k]?
      rw [Array.getElem?_push, if_neg (Nat.ne_of_lt hk)]⟩
    refine ret a _ ps' ⟨_, _, _, _, W3, hat, Nat.le_refl _, SS tk, ?_, ?_⟩ (SS tk) (F₃.keeps hk₅) (N₃.grown hk₅) ht₃
    · intro b hb
      show b < h₅.objs.size
      rw [hsz₅]
      rcases List.mem_cons.mp hb with rfl | hb
      · exact Nat.lt_succ_self _
      · rcases List.mem_cons.mp hb with rfl | hb
        · exact Nat.lt_succ_of_lt hag
        · exact Nat.lt_succ_of_lt (Nat.lt_trans (List.mem_range.mp hb) hag)
    · intro b hb
      rcases List.mem_cons.mp hb with rfl | hb
      · refine ⟨Nat.ne_of_gt F₃.ns.lt, Heap.get?_none_of_le (Nat.le_trans F₃.above (Nat.le_of_lt F₃.ns.lt)), fun p hp => Nat.ne_of_lt (Heap.lt_size (N₃ p hp).1)⟩
      · rw [List.mem_singleton.mp hb]
        refine ⟨hIL, hI₀, fun p hp => ?_⟩
        rcases List.mem_cons.mp hp with rfl | hp
        · exact hIP
        · exact hIl p hp

theorem eval_Gen_G {Q : Value → Shared → Prop} {bm : Addr} {ob : Obj} (_F₀ : Fr h₀ L s.heap m) (M : BMod h₀ env.globals mgB bm ob) (Ch : CodeHd h₀ c P) (hlim : h₀.NoLimit) (hcode : env.code = .ref c)
    (hh : A.handled = none) (hco : scope.isCoroutine = false) (hclos : closureFor scope env = pure cl) (hcell : ∀ y ∈ scope.names, y.2 ≠ .cell) (h0 : scope.names.lookup (".0" : Str) = some NameKind.local)
    (hx : scope.names.lookup x = some .local) (hkind : scope.kind = .function) (hroom : A.depth < recursionLimit)
    (h : wpAny (model prog w) A (eval iter env) (GenSrcG prog w A env h₀ L m elt x scope cl P Q) E s)
    (hs : ∀ x, genFold iter env x = pure x) :
    wpAny (model prog w) A (eval (.GeneratorExp elt [⟨.Name x px, iter, [], 0⟩] scope pos) env) Q E s := by
  refine wpAny_GeneratorExp_walksQD hh hco hclos hcell h0 hx hkind hroom (wpAny_mono h (fun xv s₁ h₁ => ?_) fun _ _ e => e) hs
  obtain ⟨ps, led, n, Pi, F, _, F₁, N₁, off, ht, src, elt₁, ret⟩ := h₁
  have hPlt : P < s₁.heap.objs.size := Heap.lt_size (N₁ _ List.mem_cons_self).1
  rcases src with ⟨r, a, b, t, u, v, rfl, hr, hsm, hn, rfl⟩ | ⟨l, its, rfl, rfl, rfl, hl⟩
  · refine wpAny_pyIter_range hr hsm ?_
    have up : ∀ b' o, s₁.heap.get? b' = some o → (s₁.heap.push { cls := .type "range_iterator", data := .fields #[rawInt a, rawInt (Builtin.Range.rangeSize a b 1), rawInt 1] }).get? b' = some o := fun b o e => Heap.get?_push_of_some _ e
    refine gen_core (n := n) (s₂ := { s₁ with heap := s₁.heap.push { cls := .type "range_iterator", data := .fields #[rawInt a, rawInt (Builtin.Range.rangeSize a b 1), rawInt 1] } }) M Ch hlim hcode (F₁.keeps up) (N₁.grown up) off ht (fun A' hA => LCg.range_walks hA a n) (by show IsRangeIter _ _ _ _ _; rw [hn]; simpa using Heap.get?_push_size _ rfl) (fun b hb => ?_) (fun hm => ?_) (Nat.ne_of_gt F₁.ns.lt) (next_is_new F₁) (fun p hp => Nat.ne_of_lt (Heap.lt_size (N₁ p (List.mem_cons_of_mem _ hp)).1)) (Nat.ne_of_lt hPlt) elt₁ hh
      fun a s₅ ps' G S F₅ N₅ t₅ => ret a s₅ ps' (G.before (Same.put s₁ _ s₁.toks) rfl) ((Same.put s₁ _ s₁.toks).trans S) F₅ N₅ t₅
    · rw [List.mem_singleton.mp hb]
      show s₁.heap.objs.size < (s₁.heap.push _).objs.size
      rw [Heap.size_push]; exact Nat.lt_succ_self _
    · exact Nat.lt_irrefl _ (List.mem_singleton.mp hm ▸ hPlt)
  · have hlt : l < s₁.heap.objs.size := by obtain ⟨_, e, _⟩ := hl; exact Heap.lt_size e
    have hlP : l ≠ P := fun e => by
      obtain ⟨o, ho, hc, _⟩ := hl
      rw [e, (N₁ _ List.mem_cons_self).1] at ho; cases ho; exact absurd hc (by simp)
    refine wpAny_pyIter_list hl ?_
    have up : ∀ b o, s₁.heap.get? b = some o → (s₁.heap.push { cls := .type "list_iterator", data := .fields #[.ref l, .int 0 0] }).get? b = some o := fun b o e => Heap.get?_push_of_some _ e
    refine gen_core (s₂ := { s₁ with heap := s₁.heap.push { cls := .type "list_iterator", data := .fields #[.ref l, .int 0 0] } }) M Ch hlim hcode (F₁.keeps up) (N₁.grown up) off ht (fun A' hA => Walks.list hA _ _ (Nat.ne_of_lt hlt) its) ⟨⟨_, Heap.get?_push_size _ rfl, rfl, rfl⟩, hl.push _⟩ (fun b hb => ?_) (fun hm => ?_) (Nat.ne_of_gt F₁.ns.lt) (next_is_new F₁) (fun p hp => Nat.ne_of_lt (Heap.lt_size (N₁ p (List.mem_cons_of_mem _ hp)).1)) (Nat.ne_of_lt hPlt) elt₁ hh
      fun a s₅ ps' G S F₅ N₅ t₅ => ret a s₅ ps' (G.before (Same.put s₁ _ s₁.toks) rfl) ((Same.put s₁ _ s₁.toks).trans S) F₅ N₅ t₅
    · show b < (s₁.heap.push _).objs.size
      rw [Heap.size_push]
      rcases List.mem_cons.mp hb with rfl | hb
      · exact Nat.lt_succ_self _
      · rw [List.mem_singleton.mp hb]; exact Nat.lt_succ_of_lt hlt
    · rcases List.mem_cons.mp hm with e | hb
      · exact Nat.lt_irrefl _ (e ▸ hPlt)
      · exact hlP (List.mem_singleton.mp hb).symm

theorem moved_fr {n : Nat} {wr : List Addr} {g : Nat} {s₁ s' : Shared} (Fh : Fr h₀ L s.heap m) (N : News h₀ L s.heap led) (hw : ∀ b ∈ wr, b ≠ L ∧ h₀.get? b = none ∧ ∀ p ∈ led, p.1 ≠ b) (hg : s₁.gens.size ≤ g) (S : Same s₁ s) (hm : Moved wr (GenOnlyQ g) s s') :
    Same s₁ s' ∧ Fr h₀ L s'.heap m ∧ News h₀ L s'.heap led := by
  refine ⟨⟨hm.os.trans S.1, fun x => (S.2.1 x).movedS hm, ?_, fun k hk => ?_⟩, ⟨Fh.ns.at' fun o e => hm.heap L o (fun hb => (hw L hb).1 rfl) e, fun b o e => hm.heap b o (fun hb => by rw [(hw b hb).2.1] at e; cases e) (Fh.keep b o e), Fh.above⟩, fun p hp => ⟨hm.heap _ _ (fun hb => (hw _ hb).2.2 p hp rfl) (N p hp).1, (N p hp).2⟩⟩
  · rcases hm.gens with e | ⟨e, _⟩
    · rw [e]; exact S.2.2.1
    · rw [e.1]; exact S.2.2.1
  · rcases hm.gens with e | ⟨e, _⟩
    · rw [e]; exact S.2.2.2 k hk
    · rw [e.2 k (Nat.ne_of_lt (Nat.lt_of_lt_of_le hk hg))]; exact S.2.2.2 k hk

theorem all_G {a : Addr} {n : Nat} {F : Nat → Value → Prop} {Q : Value → Shared → Prop} (tr : Nat → Bool) {s₁ : Shared} (X : GenV prog w A h₀ L led a n F s₁ s) (Fh : Fr h₀ L s.heap m) (N : News h₀ L s.heap led) (hval : ∀ j v, F j v → v = .bool (tr j))
    (h : ∀ s', Same s₁ s' → Fr h₀ L s'.heap m → News h₀ L s'.heap led → Q (.bool ((List.range n).all tr)) s') : wpAny (model prog w) A (call (.builtin "all") [.ref a]) Q E s := by
  obtain ⟨fp, wr, g, St, W, hst, hg, S, hfp, hw⟩ := X
  have W := W.in4_1
  refine call_all_walkS (W.self 0 _ _ _ hst ⟨a, _, _, _, _, _, _, tr, rfl, W, hst, ?_, fun s' hm => by
    obtain ⟨S', F', N'⟩ := moved_fr (n := n) Fh N hw hg S hm
    exact h s' S' F' N'⟩)
  intro i v s Q E hF hQ
  rw [hval i v hF]
  exact wpAny_truthy_bool hQ

theorem gen_free {A : Around} {s : Shared} {h₀ : Heap} {C0 C : Addr} {code : Value} {y : Str} {npos : Pos} {cc : Addr} {oc : Obj} {v : Value} {Q : Value → Shared → Prop} (N : News h₀ C0 s.heap led) (hc : cl.lookup y = some cc) (hm : (cc, oc) ∈ led) (hd : oc.data = .cell (some v)) (h : Q v s)
    (hk : scope.kind = .function) (hl : (genEnv scope cl C code builtinsNs env).kindOf y = some .free) (hb : (y == ("__debug__" : Str)) = false) (hn : (y == ("__classdict__" : Str)) = false) :
    wpAny (model prog w) A (eval (.Name y npos) (genEnv scope cl C code builtinsNs env)) Q E s := ldFreeG hc ⟨oc, (N _ hm).1, hd⟩ h hk hl hb hn
end
end Mine

namespace Mine

section
variable {prog : Program} {w : World} {A : Around} {E : Value → Shared → Prop} {s : Shared} {env : Env} {h₀ : Heap} {L : Addr} {m : Str → Option Value} {elt iter : PySem.Expr} {x y : Str} {px py : Pos} {scope : Scope} {cl : List (Str × Addr)} {pos spos : Pos}

/-- an element's end where the comprehension's own name is a cell -/
def EltGC (h₀ : Heap) (L : Addr) (m : Str → Option Value) (s₁ : Shared) (I : Addr) (oI : Obj) (C : Addr) (oC : Obj) (D : Addr) (oD : Obj) (R : Addr) (oR : Obj) (r : Value → List (Addr × Obj) → Prop) (y : Value) (s₂ : Shared) : Prop :=
  ∃ led, Same s₁ s₂ ∧ Fr h₀ L s₂.heap m ∧ News h₀ L s₂.heap ((I, oI) :: (C, oC) :: (D, oD) :: (R, oR) :: led) ∧ (∀ p ∈ led, p.1 ≠ I ∧ p.1 ≠ C ∧ p.1 ≠ D ∧ p.1 ≠ R) ∧ r y led
theorem EltGC.mk {s₁ s₂ : Shared} {I C D R : Addr} {oI oC oD oR : Obj} {r : Value → List (Addr × Obj) → Prop} {y : Value} (led : List (Addr × Obj))
    (S : Same s₁ s₂) (F : Fr h₀ L s₂.heap m) (N : News h₀ L s₂.heap ((I, oI) :: (C, oC) :: (D, oD) :: (R, oR) :: led)) (off : ∀ p ∈ led, p.1 ≠ I ∧ p.1 ≠ C ∧ p.1 ≠ D ∧ p.1 ≠ R) (hr : r y led) :
    EltGC h₀ L m s₁ I oI C oC D oD R oR r y s₂ := ⟨led, S, F, N, off, hr⟩

def CompTurnC (prog : Program) (w : World) (A : Around) (env : Env) (h₀ : Heap) (L : Addr) (m : Str → Option Value) (elt : PySem.Expr) (x : Str) (scope : Scope) (cl : List (Str × Addr)) (n : Nat) (P : Nat → Value → Prop) (J : Nat → List Value → List (Addr × Obj) → Prop) (s₂ : Shared) : Prop :=
  ∀ i ys led v I oI C oC D R oR s₁ (E' : Value → Shared → Prop), i < n → ys.length = i → J i ys led → P i v → oR.data = .cell (some v) → Same s₂ s₁ → Fr h₀ L s₁.heap m →
    News h₀ L s₁.heap ((I, oI) :: (C, oC) :: (D, LCg.lst ys) :: (R, oR) :: led) → (∀ p ∈ led, p.1 ≠ I ∧ p.1 ≠ C ∧ p.1 ≠ D ∧ p.1 ≠ R) →
    wpAny (model prog w) A (eval elt (compEnvC scope ((x, R) :: cl) C env)) (EltGC h₀ L m s₁ I oI C oC D (LCg.lst ys) R oR (fun y led' => J (i + 1) (ys ++ [y]) led')) E' s₁

def oneCell : Obj := { cls := .type "cell", data := .cell none }

theorem newEnv_cell {M : Model} {globals : Addr} {qual : Str} {o : Env} {Q : Env → Shared → Prop} (hone : ∀ n, cellsFrom n scope.names cl = (x, n) :: cl) (hpush : ∀ h, pushCells h scope.names = h.push oneCell)
    (h : Q (newEnv scope s.heap.objs.size globals ((x, s.heap.objs.size + 1) :: cl) qual none .none (some o) builtinsNs) { s with heap := (s.heap.push { cls := .type "dict", data := .dict #[] }).push oneCell }) :
    wpAny M A (newFunctionEnv scope globals cl [] qual none .none (some o)) Q E s := by
  simp only [newFunctionEnv, Option.isSome_some, if_true]
  refine wpAny_bind (wpAny_alloc ?_)
  refine wpAny_bind (wpAny_layCells _ (fun name kind cells => by cases hkc : kind == NameKind.cell <;> simp [hkc]) _ _ _ _ ?_)
  rw [show ({ s with heap := s.heap.push { cls := .type "dict", data := .dict #[] } } : Shared).heap.objs.size = s.heap.objs.size + 1 from Heap.size_push .., hone, hpush]
  simp only [List.forIn_nil]
  exact wpAny_bind (wpAny_pure (wpAny_pure h))

theorem block_C {s₂ : Shared} {I : Addr} {n : Nat} {P : Nat → Value → Prop} {St : Nat → Heap → Prop} (J : Nat → List Value → List (Addr × Obj) → Prop) {led₀ : List (Addr × Obj)} {RR : Value → Addr → Result → Shared → Prop}
    (W : Walks prog w A I [I] [I] n P St) (hsz : n ≤ sizeLine) (hIo : ∀ i h, St i h → ∃ o, h.get? I = some o)
    (hone : ∀ n, cellsFrom n scope.names cl = (x, n) :: cl) (hpush : ∀ h, pushCells h scope.names = h.push oneCell) (hkind : scope.kind = .function) (hx : (relabel scope env).names.lookup x = some .cell) (hst : St 0 s₂.heap) (hIlt : I < s₂.heap.objs.size)
    (F : Fr h₀ L s₂.heap m) (N : News h₀ L s₂.heap led₀) (hIL : L ≠ I) (hI₀ : h₀.get? I = none) (off : ∀ p ∈ led₀, p.1 ≠ I) (h0 : J 0 [] led₀)
    (turn : CompTurnC prog w A env h₀ L m elt x scope cl n P J s₂)
    (hRR : ∀ D C s₃ m' ys led, ys.length = n → J n ys led → Same s₂ s₃ → Fr h₀ L s₃.heap m → News h₀ L s₃.heap ((D, LCg.lst ys) :: led) → (∀ p ∈ led, p.1 ≠ D) → s₃.heap.Ns C m' → h₀.get? C = none → h₀.get? D = none → C ≠ L → D ≠ L → C ≠ D → (∀ p ∈ led, p.1 ≠ C) → s₂.heap.get? D = none → RR (.ref D) C (.ok .next) s₃) :
    wpAny (model prog w) A (newList []) (fun acc s₃ => wpAny (model prog w) A (newFunctionEnv scope env.globals cl [] env.qual none .none (some env)) (fun cenv s₄ =>
      codeAny (model prog w) A (.compStart (.ListComp elt [⟨.Name x px, iter, [], 0⟩] scope pos) 0 (.ref I) acc { cenv with scope := relabel scope env }) (RR acc cenv.locals) s₄) E s₃) E s₂ := by
  refine wpAny_newObj_type (newEnv_cell hone hpush ?_)
  dsimp only
  generalize hH2 : s₂.heap.push { cls := .type "list", dict := none, data := .seq ([] : List Value).toArray } = H2
  have hC : H2.objs.size = s₂.heap.objs.size + 1 := by rw [← hH2, Heap.size_push]
  generalize hCd : H2.objs.size = C at hC ⊢
  generalize hDd : s₂.heap.objs.size = D at hC hIlt ⊢
  generalize hRd : C + 1 = R
  generalize hH3 : H2.push { cls := .type "dict", data := .dict #[] } = H3
  have hH3s : H3.objs.size = R := by rw [← hH3, Heap.size_push, hCd, hRd]
  have hDC : D ≠ C := by rw [hC]; exact Nat.ne_of_lt (Nat.lt_succ_self _)
  have hCR : C ≠ R := by rw [← hRd]; exact Nat.ne_of_lt (Nat.lt_succ_self _)
  have hDR : D ≠ R := by rw [← hRd, hC]; exact Nat.ne_of_lt (Nat.lt_succ_of_lt (Nat.lt_succ_self _))
  have below : ∀ b, b < D → b ≠ C ∧ b ≠ D ∧ b ≠ R := fun b hb => ⟨by rw [hC]; exact Nat.ne_of_lt (Nat.lt_succ_of_lt hb), Nat.ne_of_lt hb, by rw [← hRd, hC]; exact Nat.ne_of_lt (Nat.lt_succ_of_lt (Nat.lt_succ_of_lt hb))⟩
  have old : ∀ b o, s₂.heap.get? b = some o → (H3.push oneCell).get? b = some o := fun b o e => Heap.get?_push_of_some _ (hH3 ▸ Heap.get?_push_of_some _ (hH2 ▸ Heap.get?_push_of_some _ e))
  have hacc : (H3.push oneCell).get? D = some (LCg.lst []) := Heap.get?_push_of_some _ (hH3 ▸ Heap.get?_push_of_some _ (hH2 ▸ hDd ▸ Heap.get?_push_size _ rfl))
  have hns₁ : (H3.push oneCell).Ns C (fun _ => none) := by
    have := (Heap.Ns.new H2 (.type "dict")).push oneCell
    rw [hCd, hH3] at this
    exact this
  have hcl₁ : (H3.push oneCell).get? R = some oneCell := by
    have := Heap.get?_push_size H3 (o := oneCell) rfl
    rw [hH3s] at this
    exact this
  have hst₁ : St 0 (H3.push oneCell) := W.frame _ _ _ hst fun b _ o e => old b o e
  have fresh : ∀ a, D ≤ a → s₂.heap.get? a = none := fun a ha => by
    cases e : s₂.heap.get? a with
    | none => rfl
    | some o' => exact absurd (Heap.lt_size e) (Nat.not_lt.mpr (hDd ▸ ha))
  have fresh₀ : ∀ a, D ≤ a → h₀.get? a = none := fun a ha => by
    cases e : h₀.get? a with
    | none => rfl
    | some o' => have := F.keep a o' e; rw [fresh a ha] at this; cases this
  have hD₀ : h₀.get? D = none := fresh₀ _ (Nat.le_refl _)
  have hC₀ : h₀.get? C = none := fresh₀ _ (by rw [hC]; exact Nat.le_succ _)
  have hR₀ : h₀.get? R = none := fresh₀ _ (by rw [← hRd, hC]; exact Nat.le_succ_of_le (Nat.le_succ _))
  have hLlt : L < D := hDd ▸ F.ns.lt
  have hDL : D ≠ L := Ne.symm (below L hLlt).2.1
  have hCL : C ≠ L := Ne.symm (below L hLlt).1
  have hRL : R ≠ L := Ne.symm (below L hLlt).2.2
  have hCI : I ≠ C := (below I hIlt).1
  have hDI : I ≠ D := (below I hIlt).2.1
  have hRI : I ≠ R := (below I hIlt).2.2
  have off₀ : ∀ p ∈ led₀, p.1 ≠ I ∧ p.1 ≠ C ∧ p.1 ≠ D ∧ p.1 ≠ R := fun p hp => by
    have b := below _ (hDd ▸ Heap.lt_size (N p hp).1)
    exact ⟨off p hp, b.1, b.2.1, b.2.2⟩
  have loop : ∀ s₃ : Shared, s₃ = { s₂ with heap := H3.push oneCell } →
      codeAny (model prog w) A (.compLoop (.ListComp elt [⟨.Name x px, iter, [], 0⟩] scope pos) 0 (.ref I) (.ref D) (compEnvC scope ((x, R) :: cl) C env)) (RR (.ref D) C) s₃ := by
    rintro s₃ rfl
    refine codeAny_compLoop_tests
      (fun k s' => ∃ i ys oR v₀ led, Same s₂ s' ∧ i ≤ n ∧ k = n + 1 - i ∧ ys.length = i ∧ St i s'.heap ∧ Fr h₀ L s'.heap m ∧ s'.heap.Ns C (fun _ => none) ∧ oR.data = .cell v₀ ∧ News h₀ L s'.heap ((D, LCg.lst ys) :: (R, oR) :: led) ∧
        (∀ p ∈ led, p.1 ≠ I ∧ p.1 ≠ C ∧ p.1 ≠ D ∧ p.1 ≠ R) ∧ J i ys led) ?_ (n + 1)
      ⟨0, [], oneCell, none, led₀, Same.put s₂ _ s₂.toks, Nat.zero_le _, rfl, rfl, hst₁, F.keeps old, hns₁, rfl, fun p hp => ?_, off₀, h0⟩
    · rintro k s' ⟨i, ys, oR, v₀, led, S', hi, rfl, hyl, hst', F', hn', hoR, N', off', hJ⟩
      by_cases hlt : i < n
      · refine W.item i _ _ _ hlt hst' fun v h₂ tk₂ hPv hst₂ hk₂ => ?_
        have N₂ : News h₀ L h₂ ((D, LCg.lst ys) :: (R, oR) :: led) := LCg.news_but N' hk₂ fun p hp => by
          rcases List.mem_cons.mp hp with rfl | hp
          · exact Ne.symm hDI
          · rcases List.mem_cons.mp hp with rfl | hp
            · exact Ne.symm hRI
            · exact (off' p hp).1
        have F₂ : Fr h₀ L h₂ m := LCg.fr_but F' hk₂ hIL hI₀
        have hn₂ : h₂.Ns C (fun _ => none) := hn'.at' fun o e => hk₂ _ o (by simpa using Ne.symm hCI) e
        refine wpAny_assign_Name (wpAny_storeName_cell (env := compEnvC scope ((x, R) :: cl) C env) (c := R) (by simp [compEnvC, relabel, hkind]) hx (by simp [compEnvC]) ⟨oR, (N₂ _ (List.mem_cons_of_mem _ List.mem_cons_self)).1, hoR⟩ fun h₃ hv₃ hs₃ => ?_)
        obtain ⟨oR₃, heR, hoR₃⟩ := hv₃
        refine wpAny_tests_nil ?_
        simp only [if_true]
        have hst₃ : St (i + 1) h₃ := W.frame _ _ _ hst₂ fun b hb o e => hs₃.extBut b o (by rw [List.mem_singleton.mp hb]; exact hRI) e
        obtain ⟨oI, heI⟩ := hIo _ _ hst₃
        have hn₃ : h₃.Ns C (fun _ => none) := hn₂.sameBut hs₃ hCR
        obtain ⟨oC, heC, hoC⟩ := LCg.ns_obj hn₃
        have F₃ : Fr h₀ L h₃ m := F₂.change hs₃ hRL hR₀
        have N₃ : News h₀ L h₃ ((I, oI) :: (C, oC) :: (D, LCg.lst ys) :: (R, oR₃) :: led) := fun p hp => by
          rcases List.mem_cons.mp hp with rfl | hp
          · exact ⟨heI, Ne.symm hIL, hI₀⟩
          rcases List.mem_cons.mp hp with rfl | hp
          · exact ⟨heC, hCL, hC₀⟩
          rcases List.mem_cons.mp hp with rfl | hp
          · exact ⟨hs₃.extBut _ _ hDR (N₂ _ List.mem_cons_self).1, hDL, hD₀⟩
          rcases List.mem_cons.mp hp with rfl | hp
          · exact ⟨heR, hRL, hR₀⟩
          · have z := N₂ p (List.mem_cons_of_mem _ (List.mem_cons_of_mem _ hp))
            exact ⟨hs₃.extBut _ _ (off' p hp).2.2.2 z.1, z.2⟩
        refine wpAny_mono (turn i ys led v I oI C oC D R oR₃ { s' with heap := h₃, toks := tk₂ } _ hlt hyl hJ hPv hoR₃ (S'.putR _ _) F₃ N₃ off') (fun y s₄ h₄ => ?_) fun _ _ e => e
        obtain ⟨led₄, S₄, F₄, N₄, off₄, hJ₄⟩ := h₄
        have zI := (N₄ (I, oI) List.mem_cons_self).1
        have zC := (N₄ (C, oC) (List.mem_cons_of_mem _ List.mem_cons_self)).1
        have zD := (N₄ (D, LCg.lst ys) (List.mem_cons_of_mem _ (List.mem_cons_of_mem _ List.mem_cons_self))).1
        have N₄' : News h₀ L s₄.heap ((R, oR₃) :: led₄) := fun p hp => N₄ p (List.mem_cons_of_mem _ (List.mem_cons_of_mem _ (List.mem_cons_of_mem _ hp)))
        have hst₄ : St (i + 1) s₄.heap := W.frame _ _ _ hst₃ fun b hb o e => by
          rw [List.mem_singleton.mp hb] at e ⊢
          rw [heI] at e
          exact Option.some.inj e ▸ zI
        refine append_at (hsz := by show ys.toArray.size ≤ sizeLine; rw [List.size_toArray, hyl]; exact Nat.le_trans hi hsz) zD fun h₅ hs₅ hD₅ => ?_
        refine ⟨n + 1 - (i + 1), by omega, i + 1, ys ++ [y], oR₃, _, led₄, (S'.putR _ _).trans (S₄.trans (Same.put s₄ _ s₄.toks)), hlt, rfl, by rw [List.length_append, List.length_singleton, hyl], W.frame _ _ _ hst₄ fun b hb o e => hs₅.extBut b o (by rw [List.mem_singleton.mp hb]; exact hDI) e, F₄.change hs₅ hDL hD₀,
          (hoC.ns zC).sameBut hs₅ (Ne.symm hDC), hoR₃, fun p hp => ?_, off₄, hJ₄⟩
        rcases List.mem_cons.mp hp with rfl | hp
        · exact ⟨hD₅.trans (congrArg some (LCg.lst_snoc ys y)), hDL, hD₀⟩
        · refine ⟨hs₅.extBut _ _ ?_ (N₄' p hp).1, (N₄' p hp).2⟩
          rcases List.mem_cons.mp hp with rfl | hp
          · exact Ne.symm hDR
          · exact (off₄ p hp).2.2.1
      · obtain rfl : i = n := Nat.le_antisymm hi (Nat.not_lt.mp hlt)
        refine W.done _ _ _ hst' fun h₂ tk₂ hk₂ => ?_
        refine hRR D C _ _ ys led hyl hJ (S'.putR _ _) (LCg.fr_but F' hk₂ hIL hI₀) (LCg.news_but (fun p hp => N' p ?_) hk₂ fun p hp => ?_) (fun p hp => (off' p hp).2.2.1) (hn'.at' fun o e => hk₂ _ o (by simpa using Ne.symm hCI) e) hC₀ hD₀ hCL hDL (Ne.symm hDC) (fun p hp => (off' p hp).2.1) (fresh D (Nat.le_refl _))
        · rcases List.mem_cons.mp hp with rfl | hp
          · exact List.mem_cons_self
          · exact List.mem_cons_of_mem _ (List.mem_cons_of_mem _ hp)
        · rcases List.mem_cons.mp hp with rfl | hp
          · exact Ne.symm hDI
          · exact (off' p hp).1
    · rcases List.mem_cons.mp hp with rfl | hp
      · exact ⟨hacc, hDL, hD₀⟩
      rcases List.mem_cons.mp hp with rfl | hp
      · exact ⟨hcl₁, hRL, hR₀⟩
      · exact ⟨old _ _ (N p hp).1, (N p hp).2⟩
  exact codeAny_compStart_list (loop _ rfl) (W.self 0 _ _ _ hst₁ (loop _ rfl))

/-- a comprehension over a range whose own name is a cell; and what is to be shown -/
def CompGC (prog : Program) (w : World) (A : Around) (env : Env) (h₀ : Heap) (L : Addr) (m : Str → Option Value) (elt : PySem.Expr) (x : Str) (scope : Scope) (cl : List (Str × Addr)) (Fin : Value → List Value → List (Addr × Obj) → Shared → Prop) (xv : Value) (s₁ : Shared) : Prop :=
  A.handled = none ∧ ∃ (n : Nat) (J : Nat → List Value → List (Addr × Obj) → Prop) (led₀ : List (Addr × Obj)), n ≤ sizeLine ∧ Fr h₀ L s₁.heap m ∧ News h₀ L s₁.heap led₀ ∧ J 0 [] led₀ ∧
    ∃ r a b t u v, xv = .ref r ∧ IsRange s₁.heap r a b 1 t u v ∧ Builtin.Range.small a b 1 = true ∧ Builtin.Range.rangeSize a b 1 = (n : Int) ∧
    CompTurnC prog w A env h₀ L m elt x scope cl n (fun i v => ∃ t, v = .int (a + (i : Int)) t) J s₁ ∧
    (∀ D ys led s₃, ys.length = n → J n ys led → Same s₁ s₃ → Fr h₀ L s₃.heap m → News h₀ L s₃.heap ((D, LCg.lst ys) :: led) → (∀ p ∈ led, p.1 ≠ D) → s₁.heap.get? D = none → Fin (.ref D) ys led s₃)

theorem assign_ListComp_GC {Q : Flow → Shared → Prop} (_F₀ : Fr h₀ L s.heap m) (hLe : env.locals = L)
    (hsw : swapsWith (.ListComp elt [⟨.Name x px, iter, [], 0⟩] scope pos) (some (.Name y py)) spos.line env = pure true)
    (hclos : closureFor scope env = pure cl) (hone : ∀ n, cellsFrom n scope.names cl = (x, n) :: cl) (hpush : ∀ h, pushCells h scope.names = h.push oneCell) (hkind : scope.kind = .function)
    (hnames : ∀ z ∈ scope.names, z.2 = .local → scope.names.lookup z.1 = some .local) (hx : (relabel scope env).names.lookup x = some .cell)
    (hy : env.kindOf y = some .local) (hp : (env.scope.kind == .class || (env.scope.kind == .module && env.locals != env.globals)) = false)
    (h : wpAny (model prog w) A (eval iter env) (CompGC prog w A env h₀ L m elt x scope cl (FinStore h₀ L m y Q)) E s)
    (hs : ∀ x, foldedSetIterable iter env x = pure x := by intro _; rfl) :
    wpAny (model prog w) A (exec (.Assign [.Name y py] (.ListComp elt [⟨.Name x px, iter, [], 0⟩] scope pos) spos) env) Q E s := by
  subst hLe
  rw [exec_Assign_Name_used _ _ _ _ hsw]
  refine wpAny_bind (wpAny_standAt (wpAny_bind ?_))
  show wpAny _ A (do let _ ← comprehension (.ListComp elt [⟨.Name x px, iter, [], 0⟩] scope pos) scope env _ (newList []) false (eval iter env) (some (assign (.Name y py) env))) _ _ s
  refine wpAny_bind (wpAny_mono (wpAny_comprehension_free (use := some (assign (.Name y py) env)) (Q := fun _ s' => Q .next s') rfl hs hclos hkind hnames
    (wpAny_mono h (fun xv s₁ h₁ => ?_) fun _ _ e => e)) (fun _ s' hq => wpAny_pure (wpAny_pure hq)) fun _ _ e => e)
  obtain ⟨hh, n, J, led₀, hsz, F, N, h0, r, a, b, t, u, v, rfl, hr, hsm, hn, turn, fin⟩ := h₁
  refine wpAny_pyIter_range hr hsm ?_
  refine block_C J (LCg.range_walks hh a n) hsz (fun i h st => ⟨_, st⟩) hone hpush hkind hx (by show IsRangeIter _ _ _ _ _; rw [hn]; simpa using Heap.get?_push_size _ rfl) (by show s₁.heap.objs.size < (s₁.heap.push _).objs.size; rw [Heap.size_push]; exact Nat.lt_succ_self _)
    (F.keeps fun _ _ e => Heap.get?_push_of_some _ e) (N.grown fun _ _ e => Heap.get?_push_of_some _ e) (Nat.ne_of_lt F.ns.lt) (next_is_new F) (fun p hp => Nat.ne_of_lt (Heap.lt_size (N p hp).1)) h0
    (fun i ys led v I oI C oC D R oR s₄ E' z1 z2 z3 z4 z5 S4 => turn i ys led v I oI C oC D R oR s₄ E' z1 z2 z3 z4 z5 ((Same.put s₁ _ s₁.toks).trans S4)) ?_
  intro D C s₃ m' ys led hl hJ S' F N o1 hn hC₀ hD₀ hCL hDL hCD offC hDs
  have hf := fin D ys led s₃ hl hJ ((Same.put s₁ _ s₁.toks).trans S') F N o1 (none_push hDs)
  show wpAny _ A (assign (.Name y py) env (.ref D)) _ _ _
  refine wpAny_assign_Name (wpAny_storeName_local hy F.ns (fun h₂ hn₂ hs₂ => ?_) hp)
  have hL₀ : h₀.get? env.locals = none := Heap.get?_none_of_le F.above
  have F₂ : Fr h₀ env.locals h₂ (fun z => if z = y then some (.ref D) else m z) := ⟨hn₂, fun b o e => hs₂.extBut b o (fun q => by rw [q, hL₀] at e; cases e) (F.keep b o e), F.above⟩
  refine ⟨m', hn.sameBut hs₂ hCL, fun h'' hs'' => hf D { s₃ with heap := h'', toks := _ } rfl (Same.put s₃ _ _) (F₂.change hs'' hCL hC₀) fun p hp => ?_⟩
  have z : h₂.get? p.1 = some p.2 := hs₂.extBut _ _ (N p hp).2.1 (N p hp).1
  refine ⟨hs''.extBut _ _ ?_ z, (N p hp).2⟩
  rcases List.mem_cons.mp hp with rfl | hp
  · exact Ne.symm hCD
  · exact offC p hp
end
end Mine

namespace Mine

/-- nothing vanishes -/
def NoVan (h h' : Heap) : Prop := ∀ b, h'.get? b = none → h.get? b = none
theorem NoVan.trans {a b c : Heap} (x : NoVan a b) (y : NoVan b c) : NoVan a c := fun i e => x i (y i e)
theorem Grow.noVan {h h' : Heap} (g : Grow h h') : NoVan h h' := fun b e => by
  cases q : h.get? b with
  | none => rfl
  | some o => rw [g b o q] at e; cases e
theorem noVan_but {h h' : Heap} {wr : List Addr} (hk : ∀ b o, b ∉ wr → h.get? b = some o → h'.get? b = some o) (hw : ∀ b ∈ wr, ∃ o, h'.get? b = some o) : NoVan h h' := fun b e => by
  by_cases hb : b ∈ wr
  · obtain ⟨o, he⟩ := hw b hb
    rw [he] at e; cases e
  · cases q : h.get? b with
    | none => rfl
    | some o => rw [hk b o hb q] at e; cases e
/-- the run of a generator so far: all but its own frame and its source stand as they stood -/
def Since (wr : List Addr) (s₀ s : Shared) : Prop := Same s₀ s ∧ (∀ b o, b ∉ wr → s₀.heap.get? b = some o → s.heap.get? b = some o) ∧ NoVan s₀.heap s.heap
theorem Since.refl (wr : List Addr) (s : Shared) : Since wr s s := ⟨Same.refl s, fun _ _ _ e => e, fun _ e => e⟩
theorem Since.step {wr : List Addr} {s₀ s s' : Shared} (x : Since wr s₀ s) (S : Same s s') (hk : ∀ b o, b ∉ wr → s.heap.get? b = some o → s'.heap.get? b = some o) (nv : NoVan s.heap s'.heap) : Since wr s₀ s' :=
  ⟨x.1.trans S, fun b o hb e => hk b o hb (x.2.1 b o hb e), x.2.2.trans nv⟩
theorem Since.grow {wr : List Addr} {s₀ s s' : Shared} (x : Since wr s₀ s) (S : Same s s') (G : Grow s.heap s'.heap) : Since wr s₀ s' := x.step S (fun b o _ e => G b o e) G.noVan
abbrev Facts := Nat → Value → (Addr → Obj → Prop) → Prop
def protoH (C I : Addr) (fp : List Addr) (n : Nat) (F : Facts) : Protocol := fun m s₀ v s kap =>
  F (n - 1 - m) v (Fresh s₀.heap s.heap) ∧ Since [C, I] s₀ s ∧ ∀ s'' : Shared, (∀ b ∈ C :: fp, ∀ o, s.heap.get? b = some o → s''.heap.get? b = some o) → kap (.send .none) s''
def Left (wr : List Addr) (s₀ s : Shared) : Prop := Same s₀ s ∧ ∀ b o, b ∉ wr → s₀.heap.get? b = some o → s.heap.get? b = some o
abbrev endH (C I : Addr) : GenEnd := fun n s₀ r s₁ => r = .ok .next ∧ (n = 0 ∧ Left [C, I] s₀ s₁)

section
variable {prog : Program} {w : World} {A : Around} {elt iter : PySem.Expr} {x : Str} {px : Pos} {scope : Scope} {pos : Pos} {I : Addr} {fp : List Addr} {n : Nat} {P : Nat → Value → Prop} {St₀ : Nat → Heap → Prop} {cenv : Env} {F : Facts} {href : Heap}

/-- the element's own walk: new things alone -/
def EltH (prog : Program) (w : World) (D U : Nat) (cenv : Env) (elt : PySem.Expr) (x : Str) (I : Addr) (fp : List Addr) (n : Nat) (P : Nat → Value → Prop) (F : Facts) (href : Heap) : Prop :=
  ∀ (A' : Around) (E' : Value → Shared → Prop) i v (t : Shared) m₂, A'.handled = none → A'.depth ≤ D → A'.units ≤ U → i < n → P i v → t.heap.Ns cenv.locals m₂ → m₂ x = some v → (∀ b ∈ fp, b ≠ I → ∀ o, href.get? b = some o → t.heap.get? b = some o) →
    wpAny (model prog w) A' (eval elt cenv) (fun y s₃ => F i y (Fresh t.heap s₃.heap) ∧ Same t s₃ ∧ Grow t.heap s₃.heap) E' t

theorem seg_loopH (hh : A.handled = none) (W₀ : ∀ A' : Around, A'.handled = none → Walks prog w A' I fp [I] n P St₀) (hIo : ∀ i h, St₀ i h → ∃ o, h.get? I = some o) (hF : ∀ i v (φ ψ : Addr → Obj → Prop), (∀ a o, φ a o → ψ a o) → F i v φ → F i v ψ)
    (hx : cenv.kindOf x = some .local) (hp : (cenv.scope.kind == .class || (cenv.scope.kind == .module && cenv.locals != cenv.globals)) = false)
    (hco : cenv.scope.isCoroutine = false) (hCf : cenv.locals ∉ fp) (he : EltH prog w (A.depth + 1) (A.units + 3) cenv elt x I fp n P F href) :
    ∀ (k i : Nat) (s₀ s : Shared) (m : Str → Option Value), n - i = k → i ≤ n → St₀ i s.heap → s.heap.Ns cenv.locals m → Since [cenv.locals, I] s₀ s →
      (∀ b ∈ fp, b ≠ I → ∀ o, href.get? b = some o → s.heap.get? b = some o) →
      Seg (model prog w) A (endH cenv.locals I) (protoH cenv.locals I fp n F) (n - i) s₀
        (.compLoop (.GeneratorExp elt [⟨.Name x px, iter, [], 0⟩] scope pos) 0 (.ref I) .none cenv)
        ((model prog w).den (.compLoop (.GeneratorExp elt [⟨.Name x px, iter, [], 0⟩] scope pos) 0 (.ref I) .none cenv)) [] s := by
  have hh' : (A.over (.compLoop (.GeneratorExp elt [⟨.Name x px, iter, [], 0⟩] scope pos) 0 (.ref I) .none cenv) []).handled = none := hh
  have hdep' : (A.over (.compLoop (.GeneratorExp elt [⟨.Name x px, iter, [], 0⟩] scope pos) 0 (.ref I) .none cenv) []).depth ≤ A.depth + 1 := Nat.le_of_eq rfl
  have huni' : (A.over (.compLoop (.GeneratorExp elt [⟨.Name x px, iter, [], 0⟩] scope pos) 0 (.ref I) .none cenv) []).units ≤ A.units + 3 := Nat.le_of_eq rfl
  have hIf : I ∈ fp := (W₀ A hh).sub _ (List.mem_singleton.mpr rfl)
  have hCI : cenv.locals ≠ I := fun e => hCf (e ▸ hIf)
  intro k
  induction k with
  | zero =>
    intro i s₀ s m hk hi hst hn hsince hkp
    obtain rfl : i = n := by omega
    show Seg _ A _ _ _ s₀ _ ((compTurn (.GeneratorExp elt [⟨.Name x px, iter, [], 0⟩] scope pos) 0 (.ref I) .none cenv).onRaise (leaving cenv)) [] s
    rw [compTurn_gen, Sem.onRaise_eq_wrap]
    refine seg_bind_wrap (wpAny_standAt ?_)
    refine seg_bind_wrap ((W₀ _ hh').done s _ _ hst fun h' tk hk' => ?_)
    exact seg_end (.ok .next) ⟨rfl, Nat.sub_self _, hsince.1.trans (Same.put _ _ _), fun b o hb e => hk' b o (fun q => hb (List.mem_cons_of_mem _ q)) (hsince.2.1 b o hb e)⟩
  | succ k ih =>
    intro i s₀ s m hk hi hst hn hsince hkp
    have hlt : i < n := by omega
    show Seg _ A _ _ _ s₀ _ ((compTurn (.GeneratorExp elt [⟨.Name x px, iter, [], 0⟩] scope pos) 0 (.ref I) .none cenv).onRaise (leaving cenv)) [] s
    rw [compTurn_gen, Sem.onRaise_eq_wrap]
    refine seg_bind_wrap (wpAny_standAt ?_)
    refine seg_bind_wrap ((W₀ _ hh').item i s _ _ hlt hst fun v h₁ tk₁ hPv hst₁ hk₁ => ?_)
    refine seg_bind_wrap (wpAny_of_eq (rfl : letOwnedTupleGo (.Name x px) (.ref I) v = pure ()) ?_)
    refine seg_bind_wrap (wpAny_assign_Name (wpAny_storeName_local hx (hn.at' fun o e => hk₁ _ o (fun q => hCI (List.mem_singleton.mp q)) e) (fun h₂ hn₂ hs₂ => ?_) hp))
    have up₂ : ∀ b o, b ∉ [cenv.locals, I] → s.heap.get? b = some o → h₂.get? b = some o := fun b o hb e => hs₂.extBut b o (fun q => hb (by rw [q]; exact List.mem_cons_self)) (hk₁ b o (fun q => hb (List.mem_cons_of_mem _ q)) e)
    have hst₂ : St₀ (i + 1) h₂ := (W₀ A hh).frame _ _ _ hst₁ fun b hb o e => hs₂.extBut b o (fun h => hCf (h ▸ hb)) e
    have hkp₂ : ∀ b ∈ fp, b ≠ I → ∀ o, href.get? b = some o → h₂.get? b = some o := fun b hb hbI o e => up₂ b o (fun q => by
      rcases List.mem_cons.mp q with q | q
      · exact hCf (q ▸ hb)
      · exact hbI (List.mem_singleton.mp q)) (hkp b hb hbI o e)
    have nv₂ : NoVan s.heap h₂ := noVan_but up₂ fun b hb => by
      rcases List.mem_cons.mp hb with rfl | hb
      · obtain ⟨o, e, _⟩ := LCg.ns_obj hn₂
        exact ⟨o, e⟩
      · rw [List.mem_singleton.mp hb]; exact hIo _ _ hst₂
    have hs2 : Since [cenv.locals, I] s₀ { s with heap := h₂, toks := tk₁ + 1 } := hsince.step (Same.put _ _ _) up₂ nv₂
    refine seg_bind_wrap (m := forIn [] true _) (wpAny_pure ?_)
    simp only [if_true]
    have hy : ∀ v, yieldOut cenv v = yieldValue v := fun v => by simp only [yieldOut, hco, Bool.false_eq_true, if_false]
    simp only [hy]
    rw [Sem.bind_eq_wrap', Sem.bind_eq_wrap', Sem.wrap_wrap, Sem.wrap_wrap]
    refine seg_wrap (wpAny_mono (he _ _ i v _ _ hh' hdep' huni' hlt hPv hn₂ (by simp) hkp₂) (fun y s₄ h₄ => ?_) fun _ _ e => e)
    obtain ⟨hFy, S₄, G₄⟩ := h₄
    refine seg_at ?_
    obtain ⟨mm, hm⟩ : ∃ mm, n - i = mm + 1 := ⟨n - i - 1, by omega⟩
    rw [hm]
    refine seg_yield rfl rfl rfl ⟨?_, hs2.grow S₄ G₄, fun s'' hal => ?_⟩
    · rw [show n - 1 - mm = i by omega]
      exact hF _ _ _ _ (fun a o f => ⟨f.1, hs2.2.2 _ f.2⟩) hFy
    · have e2 : mm = n - (i + 1) := by omega
      subst e2
      exact seg_again rfl (ih (i + 1) s'' s'' _ (by omega) hlt ((W₀ A hh).frame _ _ _ hst₂ fun b hb o e => hal b (List.mem_cons_of_mem _ hb) o (G₄ b o e))
        ((hn₂.keeps G₄).at' fun o e => hal _ (List.mem_cons_self ..) o e) (Since.refl _ _) fun b hb hbI o e => hal b (List.mem_cons_of_mem _ hb) o (G₄ b o (hkp₂ b hb hbI o e)))

theorem seg_startH (hh : A.handled = none) (W₀ : ∀ A' : Around, A'.handled = none → Walks prog w A' I fp [I] n P St₀) (hIo : ∀ i h, St₀ i h → ∃ o, h.get? I = some o) (hF : ∀ i v (φ ψ : Addr → Obj → Prop), (∀ a o, φ a o → ψ a o) → F i v φ → F i v ψ)
    (hx : cenv.kindOf x = some .local) (hp : (cenv.scope.kind == .class || (cenv.scope.kind == .module && cenv.locals != cenv.globals)) = false)
    (hco : cenv.scope.isCoroutine = false) (hCf : cenv.locals ∉ fp) (he : EltH prog w (A.depth + 1) (A.units + 3) cenv elt x I fp n P F href)
    (s₀ s : Shared) (m : Str → Option Value) (hst : St₀ 0 s.heap) (hn : s.heap.Ns cenv.locals m) (hsince : Since [cenv.locals, I] s₀ s)
    (hkp : ∀ b ∈ fp, b ≠ I → ∀ o, href.get? b = some o → s.heap.get? b = some o) :
    Seg (model prog w) A (endH cenv.locals I) (protoH cenv.locals I fp n F) (n - 0) s₀
      (.compStart (.GeneratorExp elt [⟨.Name x px, iter, [], 0⟩] scope pos) 0 (.ref I) .none cenv)
      ((model prog w).den (.compStart (.GeneratorExp elt [⟨.Name x px, iter, [], 0⟩] scope pos) 0 (.ref I) .none cenv)) [] s := by
  have hh' : (A.over (.compStart (.GeneratorExp elt [⟨.Name x px, iter, [], 0⟩] scope pos) 0 (.ref I) .none cenv) []).handled = none := hh
  have loop := seg_loopH (iter := iter) (px := px) (scope := scope) (pos := pos) hh W₀ hIo hF hx hp hco hCf he n 0 s₀ s m (Nat.sub_zero _) (Nat.zero_le _) hst hn hsince hkp
  show Seg _ A _ _ _ s₀ _ ((compStart (.GeneratorExp elt [⟨.Name x px, iter, [], 0⟩] scope pos) 0 (.ref I) .none cenv).onRaise (leaving cenv)) [] s
  unfold compStart
  rw [Sem.onRaise_eq_wrap]
  show Seg _ A _ _ _ s₀ _ ((ask >>= _).wrap _ _ _ _) [] s
  refine seg_bind_wrap (wpAny_askSetting ?_)
  split
  · exact seg_again rfl loop
  · exact seg_bind_wrap (wpAny_rule (seg_bind_wrap (wpAny_standAt (seg_bind_wrap ((W₀ _ hh').self 0 s _ _ hst (seg_again rfl loop))))))

def GenAtH (prog : Program) (w : World) (A : Around) (a : Addr) (g : Nat) (C I : Addr) (fp : List Addr) (n : Nat) (F : Facts) (j : Nat) (s : Shared) : Prop :=
  s.heap.IsGen a g ∧ s.heap.NoLimit ∧ ∃ gs, s.gens[g]? = some gs ∧ ∀ s'' : Shared, (∀ b ∈ C :: fp, ∀ o, s.heap.get? b = some o → s''.heap.get? b = some o) →
    gs.Goes (model prog w) A.in1 (endH C I) (protoH C I fp n F) (n - j) (.send .none) s''

/-- a step of the consumer's: the generator's own state and its footprint stand -/
theorem GenAtH.frame {a g C j : Nat} {s s' : Shared} (st : GenAtH prog w A a g C I fp n F j s) (hcs : cStatics ∈ fp) (hg : s'.gens[g]? = s.gens[g]?) (hk : ∀ b ∈ a :: C :: fp, ∀ o, s.heap.get? b = some o → s'.heap.get? b = some o) : GenAtH prog w A a g C I fp n F j s' :=
  ⟨let ⟨o, nm, qn, ho, r⟩ := st.1; ⟨o, nm, qn, hk a List.mem_cons_self o ho, r⟩,
   (let ⟨mc, hns, hnn⟩ := st.2.1; ⟨mc, hns.at' fun o e => hk cStatics (List.mem_cons_of_mem _ (List.mem_cons_of_mem _ hcs)) o e, hnn⟩),
   let ⟨gs, hgs, hgo⟩ := st.2.2; ⟨gs, hg.trans hgs, fun s'' hal => hgo s'' fun b hb o e => hal b hb o (hk b (List.mem_cons_of_mem _ hb) o e)⟩⟩

/-- what a resumption leaves behind, as its consumer sees it: the generator's own state besides -/
def Woke (g : Nat) (wr : List Addr) (s s' : Shared) : Prop :=
  s'.os = s.os ∧ (AllBare s.gens → AllBare s'.gens) ∧ s.gens.size ≤ s'.gens.size ∧ (∀ k, k < s.gens.size → k ≠ g → s'.gens[k]? = s.gens[k]?) ∧ ∀ b o, b ∉ wr → s.heap.get? b = some o → s'.heap.get? b = some o
theorem bare_set {s : Shared} {g : Nat} {x : GenState} (h : AllBare s.gens) (hx : x.bare = true) : AllBare (s.setGen g x).gens := fun y hy => by
  obtain ⟨i, hi, rfl⟩ := Array.mem_iff_getElem.mp hy
  by_cases e : g = i
  · subst e
    have : (s.setGen g x).gens[g] = x := by simp [Shared.setGen]
    rw [this]; exact hx
  · have h1 : (s.setGen g x).gens[i]? = s.gens[i]? := by simp [Shared.setGen, e]
    rw [Array.getElem?_eq_getElem hi] at h1
    obtain ⟨hi', e'⟩ := Array.getElem?_eq_some_iff.mp h1.symm
    exact e' ▸ h _ (Array.getElem_mem hi')
theorem woke_of {s s₁ : Shared} {g : Nat} {y : GenState} {wr : List Addr} (h : Left wr (s.setGen g .running) s₁) (hy : y.bare = true) : Woke g wr s (s₁.setGen g y) := by
  have sz : ∀ (t : Shared) (z : GenState), (t.setGen g z).gens.size = t.gens.size := fun t z => by simp [Shared.setGen]
  have ne : ∀ (t : Shared) (z : GenState) (k : Nat), k ≠ g → (t.setGen g z).gens[k]? = t.gens[k]? := fun t z k hk => by simp [Shared.setGen, Ne.symm hk]
  refine ⟨h.1.1, fun hb => bare_set (h.1.2.1 (bare_set hb rfl)) hy, ?_, fun k hk hg => ?_, h.2⟩
  · have := h.1.2.2.1; rw [sz] at this ⊢; exact this
  · rw [ne _ _ _ hg, h.1.2.2.2 k (by rw [sz]; exact hk), ne _ _ _ hg]
theorem Left.of {wr : List Addr} {s₀ s : Shared} (x : Since wr s₀ s) : Left wr s₀ s := ⟨x.1, x.2.1⟩

section
variable {a g C : Nat} {s : Shared} {Q : Option Value → Shared → Prop} {E : Value → Shared → Prop}
theorem genH_item {j : Nat} (hh : A.handled = none) (haC : a ≠ C) (haI : a ≠ I) (hroom : A.depth < recursionLimit) (hcC : cStatics ≠ C) (hcI : cStatics ≠ I) (hj : j < n) (st : GenAtH prog w A a g C I fp n F j s)
    (h : ∀ v s', F j v (Fresh s.heap s'.heap) → GenAtH prog w A a g C I fp n F (j + 1) s' → Woke g [C, I] s s' → NoVan s.heap s'.heap → Q (some v) s') : wpAny (model prog w) A (pyNext (.ref a)) Q E s := by
  obtain ⟨hg, hl, gs, hgs, hgo⟩ := st
  obtain ⟨m, hm⟩ : ∃ m, n - j = m + 1 := ⟨n - j - 1, by omega⟩
  rw [hm] at hgo
  have off : ∀ {b : Nat}, b ≠ C → b ≠ I → b ∉ [C, I] := fun h1 h2 hb => by
    rcases List.mem_cons.mp hb with e | hb
    · exact h1 e
    · exact h2 (List.mem_singleton.mp hb)
  refine wpAny_pyNext_genexpQ (P := fun n s₀ s₁ => n = 0 ∧ Left [C, I] s₀ s₁) hh hl hroom hg hgs (hgo _ fun _ _ _ e => e) (fun v s₁ gs' hb hv => ?_) (fun s₁ hp h' hk => ?_)
  · obtain ⟨hF, hs, hkap⟩ := hv
    rw [show n - 1 - (m + 1 - 1) = j by omega] at hF
    refine h v _ hF ⟨let ⟨o, nm, qn, ho, r⟩ := hg; ⟨o, nm, qn, hs.2.1 a o (off haC haI) ho, r⟩, (let ⟨mc, hns, hnn⟩ := hl; ⟨mc, hns.at' fun o e => hs.2.1 cStatics o (off hcC hcI) e, hnn⟩), gs', ?_, fun s'' hal => ?_⟩
      (woke_of (Left.of hs) hb) hs.2.2
    · refine setGen_self (gs := .running) ?_
      have h1 : g < s.gens.size := (Array.getElem?_eq_some_iff.mp hgs).1
      rw [hs.1.2.2.2 g (by simpa [Shared.setGen] using h1)]
      exact setGen_self hgs
    · rw [show n - (j + 1) = m by omega]
      exact hkap s'' hal
  · exact absurd hp.1 (Nat.succ_ne_zero m)
theorem genH_done (hh : A.handled = none) (hroom : A.depth < recursionLimit) (st : GenAtH prog w A a g C I fp n F n s)
    (h : ∀ s', Woke g [C, I] s s' → Q none s') : wpAny (model prog w) A (pyNext (.ref a)) Q E s := by
  obtain ⟨hg, hl, gs, hgs, hgo⟩ := st
  rw [Nat.sub_self] at hgo
  refine wpAny_pyNext_genexpQ (P := fun n s₀ s₁ => n = 0 ∧ Left [C, I] s₀ s₁) hh hl hroom hg hgs (hgo _ fun _ _ _ e => e) (fun v s₁ gs' hb hv => ?_) (fun s₁ hp h' hk => ?_)
  · obtain ⟨_, _, hkap⟩ := hv
    exact False.elim (hkap s₁ fun _ _ _ e => e)
  · have w1 := woke_of (y := .finished) hp.2 rfl
    exact h _ ⟨w1.1, w1.2.1, w1.2.2.1, w1.2.2.2.1, fun b o hb e => hk b o (w1.2.2.2.2 b o hb e)⟩
end
end
end Mine

namespace Mine

theorem Woke.trans {g : Nat} {wr : List Addr} {a b c : Shared} (x : Woke g wr a b) (y : Woke g wr b c) : Woke g wr a c :=
  ⟨y.1.trans x.1, fun h => y.2.1 (x.2.1 h), Nat.le_trans x.2.2.1 y.2.2.1, fun k hk hg => (y.2.2.2.1 k (Nat.lt_of_lt_of_le hk x.2.2.1) hg).trans (x.2.2.2.1 k hk hg), fun b o hb e => y.2.2.2.2 b o hb (x.2.2.2.2 b o hb e)⟩
theorem Woke.wider {g : Nat} {wr wr' : List Addr} {a b : Shared} (x : Woke g wr a b) (h : ∀ i ∈ wr, i ∈ wr') : Woke g wr' a b := ⟨x.1, x.2.1, x.2.2.1, x.2.2.2.1, fun b o hb e => x.2.2.2.2 b o (fun q => hb (h b q)) e⟩
theorem Woke.same {g : Nat} {wr : List Addr} {s s' : Shared} (S : Same s s') (hk : ∀ b o, b ∉ wr → s.heap.get? b = some o → s'.heap.get? b = some o) : Woke g wr s s' := ⟨S.1, S.2.1, S.2.2.1, fun k hk _ => S.2.2.2 k hk, hk⟩

section
variable {prog : Program} {w : World} {A : Around} {R : Result → Shared → Prop} {a g C I S n : Nat} {fp : List Addr} {Ft Acc : Facts} {s₀ : Shared}

/-- one addition of the sum's -/
def AddH (prog : Program) (w : World) (A : Around) (n : Nat) (wr : List Addr) (Ft Acc : Facts) (s₀ : Shared) : Prop :=
  ∀ (A' : Around) (E' : Value → Shared → Prop) i v acc (t : Shared), A'.handled = none → A'.depth ≤ A.depth → A'.units ≤ A.units + 8 → i < n → Acc i acc (HeapIs t.heap) → Ft i v (HeapIs t.heap) →
    (∀ b o, b ∉ wr → s₀.heap.get? b = some o → t.heap.get? b = some o) →
    wpAny (model prog w) A' (binaryOp .Add acc v) (fun y s₃ => Acc (i + 1) y (Fresh t.heap s₃.heap) ∧ Same t s₃ ∧ Grow t.heap s₃.heap) E' t

theorem sum_loopH (hh : A.handled = none) (haC : a ≠ C) (haI : a ≠ I) (hroom : A.depth < recursionLimit) (hcC : cStatics ≠ C) (hcI : cStatics ≠ I) (hcs : cStatics ∈ fp)
    (hFr : ∀ i v φ, Ft i v φ → ∃ z, v = .ref z) (hAr : ∀ i v φ, Acc (i + 1) v φ → ∃ z, v = .ref z) (hFm : ∀ i v (φ ψ : Addr → Obj → Prop), (∀ a o, φ a o → ψ a o) → Ft i v φ → Ft i v ψ) (hAm : ∀ i v (φ ψ : Addr → Obj → Prop), (∀ a o, φ a o → ψ a o) → Acc i v φ → Acc i v ψ)
    (hex : ∀ b ∈ [S, C, I], ∃ o, s₀.heap.get? b = some o) (hSa : S ∉ a :: C :: fp) (hSI : S ≠ I) (hg : g < s₀.gens.size) (add : AddH prog w A n [S, C, I] Ft Acc s₀) :
    ∀ (k i : Nat) (s : Shared) (acc : Value) (c : Nat) (st : Int), n - i = k → i ≤ n → ((i = 0 ∧ st = 0 ∧ ∃ t, acc = .int 0 t) ∨ (0 < i ∧ st = 2)) → GenAtH prog w A.in4 a g C I fp n Ft i s →
      s.heap.get? S = some { cls := .type "list", dict := none, data := .seq #[acc] c, slots := #[] } → Acc i acc (Fresh s₀.heap s.heap) → Woke g [S, C, I] s₀ s → NoVan s₀.heap s.heap →
      (∀ s' acc, Woke g [S, C, I] s₀ s' → Acc n acc (Fresh s₀.heap s'.heap) → R (.ok (.ret acc)) s') →
      codeAny (model prog w) A (.builtin "sum.loop" ⟨[.ref a, .ref S, rawInt st, rawInt 0], []⟩) R s := by
  have wid : ∀ i ∈ [C, I], i ∈ [S, C, I] := fun i hi => List.mem_cons_of_mem _ hi
  have up : ∀ {s s' : Shared}, Woke g [C, I] s s' → ∀ b o, Fresh s₀.heap s.heap b o → Fresh s₀.heap s'.heap b o := fun W b o f => ⟨W.2.2.2.2 b o (fun hb => by
    obtain ⟨o', e⟩ := hex b (wid b hb)
    rw [f.2] at e; cases e) f.1, f.2⟩
  intro k
  induction k with
  | zero =>
    intro i s acc c st hk hi hst hgen hS hacc hW hnv hR
    obtain rfl : i = n := by omega
    refine codeAny_builtin F.entry_sum_loop ?_
    rw [Around.under_plainId F.plain_sum_loop _]
    show wpAny _ A.in1 (seqItems? (.ref S) >>= _) _ _ s
    refine wpAny_bind (wpAny_seqItems hS rfl ?_)
    show wpAny _ A.in1 (tryCatch (pyNext (.ref a)) _ >>= _) _ _ s
    refine wpAny_bind (wpAny_tryCatch (wpAny_of_in1 (A := A.in1) (wpAny_of_in1 (A := A.in1.in1) (wpAny_of_in1 (A := A.in1.in1.in1) (genH_done (A := A.in4) hh hroom hgen fun s' hm => ?_)))))
    have fin := hR s' acc (hW.trans (hm.wider wid)) (hAm _ _ _ _ (up hm) hacc)
    rcases hst with ⟨_, _, t, rfl⟩ | ⟨hi0, _⟩
    · exact wpAny_pure fin
    · obtain ⟨j, rfl⟩ : ∃ j, i = j + 1 := ⟨i - 1, by omega⟩
      obtain ⟨z, rfl⟩ := hAr _ _ _ hacc
      exact wpAny_pure fin
  | succ k ih =>
    intro i s acc c st hk hi hst hgen hS hacc hW hnv hR
    have hlt : i < n := by omega
    refine codeAny_builtin F.entry_sum_loop ?_
    rw [Around.under_plainId F.plain_sum_loop _]
    show wpAny _ A.in1 (seqItems? (.ref S) >>= _) _ _ s
    refine wpAny_bind (wpAny_seqItems hS rfl ?_)
    show wpAny _ A.in1 (tryCatch (pyNext (.ref a)) _ >>= _) _ _ s
    refine wpAny_bind (wpAny_tryCatch (wpAny_of_in1 (A := A.in1) (wpAny_of_in1 (A := A.in1.in1) (wpAny_of_in1 (A := A.in1.in1.in1) (genH_item (A := A.in4) hh haC haI hroom hcC hcI hlt hgen fun v s' hP hgen' hm hnv' => ?_)))))
    obtain ⟨z, rfl⟩ := hFr _ _ _ hP
    have hSw : S ∉ [C, I] := fun h => by
      rcases List.mem_cons.mp h with e | h
      · exact hSa (e ▸ List.mem_cons_of_mem _ List.mem_cons_self)
      · exact hSI (List.mem_singleton.mp h)
    have hS' := hm.2.2.2.2 S _ hSw hS
    have hW' := hW.trans (hm.wider wid)
    have hg' : g < s'.gens.size := Nat.lt_of_lt_of_le hg hW'.2.2.1
    have go : wpAny (model prog w) A.in1 (binaryOp .Add acc (.ref z)) (fun r s₃ => ∃ z', r = .ref z' ∧ wpAny (model prog w) A.in1 (do
          updateSeq S fun _ => #[r]
          letGo [acc, .ref z]
          updateSeq S fun _ => #[r]
          again (.builtin "sum.loop" ⟨[.ref a, .ref S, rawInt 2, rawInt 0], []⟩)) (fun f s₄ => match f with
            | .done r => R (.ok r) s₄
            | .again c => c.quiet = true ∧ codeAny (model prog w) A c R s₄) (fun e s₄ => R (.error e) s₄) s₃) (fun _ _ => False) s' := by
      refine wpAny_mono (add A.in1 (fun _ _ => False) i (.ref z) acc s' hh (Nat.le_refl _) (by show A.units + 1 ≤ _; omega) hlt (hAm _ _ _ _ (fun a o f => (up hm a o f).1) hacc) (hFm _ _ _ _ (fun a o f => f.1) hP) hW'.2.2.2.2) (fun y s₃ h₃ => ?_) fun _ _ e => e
      obtain ⟨hy, S₃, G₃⟩ := h₃
      obtain ⟨z', rfl⟩ := hAr _ _ _ hy
      refine ⟨z', rfl, ?_⟩
      have hS₃ := G₃ _ _ hS'
      refine wpAny_bind (wpAny_updateSeq hS₃ rfl ?_)
      have hS₄ := Heap.get?_update_self (Obj.mapSeq fun _ => #[Value.ref z']) hS₃ rfl
      refine wpAny_bind (wpAny_letGo ?_)
      refine wpAny_bind (wpAny_updateSeq hS₄ rfl (wpAny_pure ⟨plainId_quiet F.plain_sum_loop _, ?_⟩))
      have hS₅ := Heap.get?_update_self (Obj.mapSeq fun _ => #[Value.ref z']) hS₄ rfl
      generalize hH : Heap.update (Heap.update s₃.heap S _) S _ = H at hS₅ ⊢
      have oth : ∀ b o, b ≠ S → s₃.heap.get? b = some o → H.get? b = some o := fun b o hb e => by
        rw [← hH]; exact (Heap.get?_update_other _ _ (Ne.symm hb)).trans ((Heap.get?_update_other _ _ (Ne.symm hb)).trans e)
      have nv5 : NoVan s'.heap H := G₃.noVan.trans (noVan_but (wr := [S]) (fun b o hb e => oth b o (fun q => hb (q ▸ List.mem_singleton.mpr rfl)) e) fun b hb => by rw [List.mem_singleton.mp hb]; exact ⟨_, hS₅⟩)
      refine ih (i + 1) _ _ _ 2 (by omega) hlt (.inr ⟨Nat.succ_pos _, rfl⟩) (hgen'.frame hcs (S₃.2.2.2 g hg') fun b hb o e => oth b o (fun q => hSa (q ▸ hb)) (G₃ b o e)) hS₅ (hAm _ _ _ _ (fun b o f => ⟨oth b o (fun q => by have f2 := f.2; rw [q, hS'] at f2; cases f2) f.1, hnv _ (hnv' _ f.2)⟩) hy)
        (hW'.trans (Woke.same (S₃.trans (Same.put s₃ H s₃.toks)) fun b o hb e => oth b o (fun q => hb (q ▸ List.mem_cons_self)) (G₃ b o e))) (hnv.trans (hnv'.trans nv5)) hR
    rcases hst with ⟨rfl, rfl, t, rfl⟩ | ⟨hi0, rfl⟩
    · refine wpAny_bind (wpAny_rule ?_)
      show wpAny _ A.in1 ((holding [Value.ref z] (binaryOp .Add (.int 0 t) (.ref z))).attempt >>= _) _ _ _
      refine wpAny_bind (wpAny_attempt (wpAny_holding (wpAny_mono go (fun r s₃ h₃ => ?_) fun _ _ e => e.elim)))
      obtain ⟨z', rfl, h₃⟩ := h₃
      exact h₃
    · obtain ⟨j, rfl⟩ : ∃ j, i = j + 1 := ⟨i - 1, by omega⟩
      obtain ⟨z', rfl⟩ := hAr _ _ _ hacc
      show wpAny _ A.in1 ((holding [Value.ref z] (binaryOp .Add (.ref z') (.ref z))).attempt >>= _) _ _ _
      refine wpAny_bind (wpAny_attempt (wpAny_holding (wpAny_mono go (fun r s₃ h₃ => ?_) fun _ _ e => e.elim)))
      obtain ⟨z'', rfl, h₃⟩ := h₃
      exact h₃
end

section
variable {prog : Program} {w : World} {A : Around} {E : Value → Shared → Prop} {a g C I n : Nat} {fp : List Addr} {Ft Acc : Facts} {s : Shared}
/-- sum over a generator whose items and sums are objects -/
theorem sum_H {Q : Value → Shared → Prop} (hh : A.handled = none) (haC : a ≠ C) (haI : a ≠ I) (hroom : A.depth < recursionLimit) (hcC : cStatics ≠ C) (hcI : cStatics ≠ I) (hcs : cStatics ∈ fp) (hIf : I ∈ fp)
    (hFr : ∀ i v φ, Ft i v φ → ∃ z, v = .ref z) (hAr : ∀ i v φ, Acc (i + 1) v φ → ∃ z, v = .ref z) (hFm : ∀ i v (φ ψ : Addr → Obj → Prop), (∀ a o, φ a o → ψ a o) → Ft i v φ → Ft i v ψ) (hAm : ∀ i v (φ ψ : Addr → Obj → Prop), (∀ a o, φ a o → ψ a o) → Acc i v φ → Acc i v ψ)
    (hA0 : ∀ t φ, Acc 0 (.int 0 t) φ) (hlt : ∀ b ∈ a :: C :: fp, b < s.heap.objs.size) (hex : ∀ b ∈ [C, I], ∃ o, s.heap.get? b = some o) (hg : g < s.gens.size) (hgen : GenAtH prog w A.in4 a g C I fp n Ft 0 s)
    (add : ∀ S, s.heap.get? S = none → AddH prog w A n [S, C, I] Ft Acc s)
    (h : ∀ s' acc, Woke g [C, I] s s' → Acc n acc (Fresh s.heap s'.heap) → Q acc s') : wpAny (model prog w) A (call (.builtin "sum") [.ref a]) Q E s := by
  refine call_function_tree F.kind_sum F.plain_sum F.entry_sum (F.args_sum1 _) ?_
  unfold Builtin.«sum»
  simp only [List.length_cons, List.length_nil]
  rw [if_neg (by decide)]
  refine wpAny_bind (wpAny_of_eq (show Builtin.Builtins.bindParams "sum" ["start"] 0 { } = pure [none] from rfl) ?_)
  refine wpAny_bind (wpAny_pyIter_gen hgen.1 ?_)
  refine wpAny_bind (wpAny_mkInt ?_)
  refine wpAny_bind (wpAny_pure ?_)
  simp only [List.forIn_cons, List.forIn_nil]
  refine wpAny_bind (wpAny_bind (wpAny_bind (wpAny_isInstance (T := "int") (b := false) (typeIs_int _ _ _) PySem.sub_int_str ?_)))
  simp only [Bool.false_eq_true, if_false]
  refine wpAny_pure (wpAny_bind (wpAny_bind (wpAny_isInstance (T := "int") (b := false) (typeIs_int _ _ _) PySem.sub_int_bytes ?_)))
  simp only [Bool.false_eq_true, if_false]
  refine wpAny_pure (wpAny_bind (wpAny_bind (wpAny_isInstance (T := "int") (b := false) (typeIs_int _ _ _) PySem.sub_int_bytearray ?_)))
  simp only [Bool.false_eq_true, if_false]
  refine wpAny_pure (wpAny_pure ?_)
  refine wpAny_bind (wpAny_newObj_type ?_)
  have hSn : s.heap.get? s.heap.objs.size = none := Heap.get?_none_of_le (Nat.le_refl _)
  have hSf : s.heap.objs.size ∉ a :: C :: fp := fun hm => Nat.lt_irrefl _ (hlt _ hm)
  have up : ∀ b o, s.heap.get? b = some o → (s.heap.push { cls := .type "list", dict := none, data := .seq #[Value.int 0 s.toks] }).get? b = some o := fun b o e => Heap.get?_push_of_some _ e
  refine wpAny_pure ⟨plainId_quiet F.plain_sum_loop _, sum_loopH (S := s.heap.objs.size) (s₀ := { s with heap := s.heap.push { cls := .type "list", dict := none, data := .seq #[Value.int 0 s.toks] }, toks := s.toks + 1 }) hh haC haI hroom hcC hcI hcs hFr hAr hFm hAm (fun b hb => ?_) hSf (fun q => hSf (q ▸ List.mem_cons_of_mem _ (List.mem_cons_of_mem _ hIf))) hg ?_ n 0 _ _ _ 0 rfl (Nat.zero_le _) (.inl ⟨rfl, rfl, _, rfl⟩)
    (hgen.frame hcs rfl fun b _ o e => up b o e) (Heap.get?_push_size _ rfl) (hA0 _ _) ⟨rfl, id, Nat.le_refl _, fun _ _ _ => rfl, fun _ _ _ e => e⟩ (fun _ e => e) fun s' acc hW hacc => ?_⟩
  · rcases List.mem_cons.mp hb with rfl | hb
    · exact ⟨_, Heap.get?_push_size _ rfl⟩
    · obtain ⟨o, e⟩ := hex b hb
      exact ⟨o, up b o e⟩
  · intro A' E' i v acc t h1 h2 h3 h4 h5 h6 h7
    exact add _ hSn A' E' i v acc t h1 h2 h3 h4 h5 h6 fun b o hb e => h7 b o hb (up b o e)
  · refine h s' acc ⟨hW.1, hW.2.1, hW.2.2.1, hW.2.2.2.1, fun b o hb e => hW.2.2.2.2 b o (fun hm => ?_) (up b o e)⟩ (hAm _ _ _ _ (fun b o f => ⟨f.1, (Grow.noVan up) _ f.2⟩) hacc)
    rcases List.mem_cons.mp hm with rfl | hm
    · rw [hSn] at e; cases e
    · exact hb hm
end

/-- a generator of objects made: its parts, and what it may write -/
def GenHV (prog : Program) (w : World) (A : Around) (h₀ : Heap) (L : Addr) (led : List (Addr × Obj)) (a : Addr) (n : Nat) (Ft : Facts) (s₁ s : Shared) : Prop :=
  ∃ g C I fp, a ≠ C ∧ a ≠ I ∧ cStatics ≠ C ∧ cStatics ≠ I ∧ cStatics ∈ fp ∧ I ∈ fp ∧ (∀ b ∈ a :: C :: fp, b < s.heap.objs.size) ∧ (∀ b ∈ [C, I], ∃ o, s.heap.get? b = some o) ∧ g < s.gens.size ∧ s₁.gens.size ≤ g ∧ Same s₁ s ∧
    GenAtH prog w A.in4 a g C I fp n Ft 0 s ∧ ∀ b ∈ [C, I], b ≠ L ∧ h₀.get? b = none ∧ ∀ p ∈ led, p.1 ≠ b

section
variable {prog : Program} {w : World} {A : Around} {E : Value → Shared → Prop} {s : Shared} {env : Env} {h₀ : Heap} {L P c : Addr} {m mgB : Str → Option Value} {elt iter : PySem.Expr} {x : Str} {px : Pos} {scope : Scope} {cl : List (Str × Addr)} {pos : Pos}

def GenEltH (prog : Program) (w : World) (A : Around) (env : Env) (h₀ : Heap) (elt : PySem.Expr) (x : Str) (scope : Scope) (cl : List (Str × Addr)) (led : List (Addr × Obj)) (n : Nat) (a : Int) (Ft : Facts) : Prop :=
  ∀ (A' : Around) (E' : Value → Shared → Prop) i tt (t : Shared) C (m₂ : Str → Option Value) code, A'.handled = none → A'.depth ≤ A.depth + 1 → A'.units ≤ A.units + 8 → i < n → Fr h₀ C t.heap m₂ → m₂ x = some (.int (a + (i : Int)) tt) → News h₀ C t.heap led →
    wpAny (model prog w) A' (eval elt (genEnv scope cl C code builtinsNs env)) (fun y s₃ => Ft i y (Fresh t.heap s₃.heap) ∧ Same t s₃ ∧ Grow t.heap s₃.heap) E' t

def GenSrcH (prog : Program) (w : World) (A : Around) (env : Env) (h₀ : Heap) (L : Addr) (m : Str → Option Value) (elt : PySem.Expr) (x : Str) (scope : Scope) (cl : List (Str × Addr)) (P : Addr) (Q : Value → Shared → Prop) (xv : Value) (s₁ : Shared) : Prop :=
  ∃ (ps : Array Value) (led : List (Addr × Obj)) (n : Nat) (Ft : Facts) (r : Addr) (a b : Int) (t u v : Tok), A.handled = none ∧ Fr h₀ L s₁.heap m ∧ News h₀ L s₁.heap ((P, tabObj ps) :: led) ∧ (∀ p ∈ led, p.1 ≠ P) ∧ TriplesOk ps.toList ∧
    xv = .ref r ∧ IsRange s₁.heap r a b 1 t u v ∧ Builtin.Range.small a b 1 = true ∧ Builtin.Range.rangeSize a b 1 = (n : Int) ∧ (∀ i v (φ ψ : Addr → Obj → Prop), (∀ a o, φ a o → ψ a o) → Ft i v φ → Ft i v ψ) ∧
    GenEltH prog w A env h₀ elt x scope cl led n a Ft ∧
    (∀ a s₅ ps', GenHV prog w A h₀ L ((P, tabObj ps') :: led) a n Ft s₁ s₅ → Same s₁ s₅ → Fr h₀ L s₅.heap m → News h₀ L s₅.heap ((P, tabObj ps') :: led) → TriplesOk ps'.toList → Q (.ref a) s₅)

theorem eval_Gen_H {Q : Value → Shared → Prop} {bm : Addr} {ob : Obj} (_F₀ : Fr h₀ L s.heap m) (M : BMod h₀ env.globals mgB bm ob) (Ch : CodeHd h₀ c P) (hlim : h₀.NoLimit) (hcode : env.code = .ref c)
    (hco : scope.isCoroutine = false) (hclos : closureFor scope env = pure cl) (hcell : ∀ y ∈ scope.names, y.2 ≠ .cell) (h0 : scope.names.lookup (".0" : Str) = some NameKind.local)
    (hx : scope.names.lookup x = some .local) (hkind : scope.kind = .function) (hroom : A.depth < recursionLimit)
    (h : wpAny (model prog w) A (eval iter env) (GenSrcH prog w A env h₀ L m elt x scope cl P Q) E s)
    (hs : ∀ x, genFold iter env x = pure x) :
    wpAny (model prog w) A (eval (.GeneratorExp elt [⟨.Name x px, iter, [], 0⟩] scope pos) env) Q E s := by
  refine wpAny_GeneratorExp_make hco hclos hcell h0 hkind hroom (wpAny_mono h (fun xv s₁ h₁ => ?_) fun _ _ e => e) hs
  obtain ⟨ps, led, n, Ft, r, a, b, t, u, v, hh, F₁, N₁, off, ht, rfl, hr, hsm, hn, hFm, elt₁, ret⟩ := h₁
  have hPlt : P < s₁.heap.objs.size := Heap.lt_size (N₁ _ List.mem_cons_self).1
  refine wpAny_pyIter_range hr hsm ?_
  generalize hIo : ({ cls := .type "range_iterator", data := .fields #[rawInt a, rawInt (Builtin.Range.rangeSize a b 1), rawInt 1] } : Obj) = oI
  have up : ∀ b' o, s₁.heap.get? b' = some o → (s₁.heap.push oI).get? b' = some o := fun b o e => Heap.get?_push_of_some _ e
  have hIfr : oI.isFreed = false := by rw [← hIo]; rfl
  have gI : (s₁.heap.push oI).get? s₁.heap.objs.size = some oI := Heap.get?_push_size _ hIfr
  have W₀ : ∀ A' : Around, A'.handled = none → Walks prog w A' s₁.heap.objs.size _ _ n _ _ := fun A' hA => LCg.range_walks hA a n
  have hst : IsRangeIter (s₁.heap.push oI) s₁.heap.objs.size a (Builtin.Range.rangeSize a b 1) 1 := by rw [← hIo]; exact Heap.get?_push_size _ rfl
  generalize hId : s₁.heap.objs.size = I at *
  generalize hH2 : s₁.heap.push oI = H2 at *
  have hsz2 : H2.objs.size = I + 1 := by rw [← hH2, Heap.size_push, hId]
  have F₂ : Fr h₀ L H2 m := F₁.keeps up
  have N₂ : News h₀ L H2 ((P, tabObj ps) :: led) := N₁.grown up
  have hI₀ : h₀.get? I = none := Heap.get?_none_of_le (hId ▸ Nat.le_trans F₁.above (Nat.le_of_lt F₁.ns.lt))
  have hIL : I ≠ L := hId ▸ Nat.ne_of_gt F₁.ns.lt
  have hIP : P ≠ I := Nat.ne_of_lt hPlt
  have hIl : ∀ p ∈ led, p.1 ≠ I := fun p hp => hId ▸ Nat.ne_of_lt (Heap.lt_size (N₁ p (List.mem_cons_of_mem _ hp)).1)
  have C₂ := Ch.keeps F₂.keep
  have hP₂ := (N₂ _ List.mem_cons_self).1
  refine ⟨hlim.keeps F₂.keep, genCode_any hcode C₂ hP₂ ht fun code h₃ tk₃ ps' hx3 hsz hP₃ ht₃ => ?_⟩
  have M₃ : BMod h₃ env.globals mgB bm ob := (M.keeps F₂.keep).extBut (C₂.tab hP₂) hx3
  have cS : ∀ b, h₀.get? b = none → cStatics ≠ b := fun b hb e => by
    obtain ⟨_, hns, _⟩ := hlim
    obtain ⟨o, es, ep, ho, hd, _⟩ := hns
    rw [e, hb] at ho
    cases ho
  have hcP : cStatics ≠ P := cS P (N₂ _ List.mem_cons_self).2.2
  have hl₃ : h₃.NoLimit := (hlim.keeps F₂.keep).extBut hx3 hcP
  have base₃ : ∀ b o, h₀.get? b = some o → h₃.get? b = some o := fun b o e => hx3 b o (fun q => by rw [q] at e; rw [show h₀.get? P = none from (N₂ _ List.mem_cons_self).2.2] at e; cases e) (F₂.keep b o e)
  have hPL : P ≠ L := (N₂ _ List.mem_cons_self).2.1
  have F₃ : Fr h₀ L h₃ m := ⟨F₂.ns.at' fun o e => hx3 _ o (Ne.symm hPL) e, base₃, F₂.above⟩
  have N₃ : News h₀ L h₃ ((P, tabObj ps') :: led) := fun p hp => by
    rcases List.mem_cons.mp hp with rfl | hp
    · exact ⟨hP₃, (N₂ _ List.mem_cons_self).2⟩
    · exact ⟨hx3 _ _ (off p hp) (N₂ p (List.mem_cons_of_mem _ hp)).1, (N₂ p (List.mem_cons_of_mem _ hp)).2⟩
  have gI3 : h₃.get? I = some oI := hx3 _ _ (Ne.symm hIP) gI
  refine wpAny_builtinsFor M₃.ns M₃.name M₃.ne M₃.obj M₃.cls M₃.dict M₃.data ?_
  intro h' hn' hs'
  dsimp only at hn' hs' ⊢
  generalize hCd : h₃.objs.size = C at *
  have hsz' : h'.objs.size = C + 1 := by rw [hs'.1, Heap.size_push, hCd]
  have keep' : ∀ b o, h₃.get? b = some o → h'.get? b = some o := fun b o e => hs'.extBut b o (Nat.ne_of_lt (hCd ▸ Heap.lt_size e)) (Heap.get?_push_of_some _ e)
  generalize hg5 : ({ cls := .type "generator", data := .fields #[.int s₁.gens.size 0, .str "<genexpr>" (tk₃ + 1), .str (env.qual ++ "<genexpr>") (tk₃ + 1 + 1)] } : Obj) = oG
  have hGfr : oG.isFreed = false := by rw [← hg5]; rfl
  have keep₅ : ∀ b o, h₃.get? b = some o → (h'.push oG).get? b = some o := fun b o e => Heap.get?_push_of_some _ (keep' b o e)
  have gen₅ : (h'.push oG).IsGen h'.objs.size s₁.gens.size := by rw [← hg5]; exact ⟨_, _, _, Heap.get?_push_size _ rfl, rfl, rfl, rfl⟩
  have hIlt : I < C := hCd ▸ Heap.lt_size gI3
  have hLlt : L < C := hCd ▸ F₃.ns.lt
  have hC₀ : h₀.get? C = none := Heap.get?_none_of_le (Nat.le_trans F₃.above (Nat.le_of_lt hLlt))
  have hcI := cS I hI₀
  have hcC := cS C hC₀
  have hclt : cStatics < C := let ⟨_, hn, _⟩ := hl₃; hCd ▸ hn.lt
  have haC : h'.objs.size ≠ C := by rw [hsz']; exact Nat.succ_ne_self _
  have haI : h'.objs.size ≠ I := by rw [hsz']; exact Nat.ne_of_gt (Nat.lt_succ_of_lt hIlt)
  have hst₃ : IsRangeIter h₃ I a (Builtin.Range.rangeSize a b 1) 1 := hx3 _ _ (Ne.symm hIP) hst
  have SS : ∀ (gs : GenState) (_ : gs.bare = true) (tk : Nat), Same s₁ { s₁ with gens := s₁.gens.push gs, toks := tk, heap := h'.push oG } := fun gs hgb tk => ⟨rfl, fun g => g.push hgb, by show _ ≤ (s₁.gens.push gs).size; rw [Array.size_push]; exact Nat.le_succ _, fun k hk => by
      show (s₁.gens.push gs)[k]? = s₁.gens[k]?
      rw [Array.getElem?_push, if_neg (Nat.ne_of_lt hk)]⟩
  refine ret h'.objs.size _ ps' ⟨s₁.gens.size, C, I, List.range C, haC, haI, hcC, hcI, List.mem_range.mpr hclt, List.mem_range.mpr hIlt, ?_, ?_, ?_, Nat.le_refl _, ?_, ⟨gen₅, hl₃.keeps keep₅, _, Array.getElem?_push_size .., fun s'' hal => ⟨rfl, ?_⟩⟩, ?_⟩ ?_ (F₃.keeps keep₅) (N₃.grown keep₅) ht₃
  · intro b hb
    have e5 : (h'.push oG).objs.size = C + 1 + 1 := by rw [Heap.size_push, hsz']
    show b < (h'.push oG).objs.size
    rw [e5]
    rcases List.mem_cons.mp hb with e | hb
    · rw [e, hsz']; exact Nat.lt_succ_self _
    · rcases List.mem_cons.mp hb with e | hb
      · rw [e]; exact Nat.lt_succ_of_lt (Nat.lt_succ_self _)
      · exact Nat.lt_succ_of_lt (Nat.lt_succ_of_lt (List.mem_range.mp hb))
  · intro b hb
    rcases List.mem_cons.mp hb with rfl | hb
    · obtain ⟨o, e, _⟩ := LCg.ns_obj hn'
      exact ⟨o, Heap.get?_push_of_some _ e⟩
    · rw [List.mem_singleton.mp hb]; exact ⟨_, keep₅ _ _ gI3⟩
  · show s₁.gens.size < (s₁.gens.push _).size
    rw [Array.size_push]; exact Nat.lt_succ_self _
  · exact SS _ rfl _
  · refine seg_startH (A := A.in4.in1) (cenv := genEnv scope cl C code builtinsNs env) (F := Ft) (href := h'.push oG) (P := fun i v => ∃ t, v = .int (a + (i : Int)) t) (St₀ := fun i h => IsRangeIter h I (a + (i : Nat) * 1) ((n : Int) - (i : Nat)) 1) hh (fun A' hA => (LCg.range_walks hA a n).mono_fp fun b hb => ?_) (fun i h e => ⟨_, e⟩) hFm hx ?_ hco ?_ ?_ s'' s'' (fun y => if y = ".0" then some (.ref I) else none) ?_ ?_ (Since.refl _ _) ?_
    · rw [List.mem_singleton.mp hb]; exact List.mem_range.mpr hIlt
    · simp [genEnv, hkind]
    · exact fun hm => Nat.lt_irrefl _ (List.mem_range.mp hm)
    · intro A' E' i v t' m₂ hA hd hu hi hP hn₂ hxv hk
      obtain ⟨tt, rfl⟩ := hP
      have keep : ∀ b o, b ≠ I → h₃.get? b = some o → t'.heap.get? b = some o := fun b o hb e => hk b (List.mem_range.mpr (hCd ▸ Heap.lt_size e)) hb o (keep₅ b o e)
      refine elt₁ A' E' i tt t' C m₂ code hA hd hu hi ⟨hn₂, fun b o e => keep b o (fun q => by rw [q, hI₀] at e; cases e) (base₃ b o e), Nat.le_trans F₃.above (Nat.le_of_lt hLlt)⟩ hxv fun p hp => ?_
      have hp3 := N₃ p (List.mem_cons_of_mem _ hp)
      exact ⟨keep _ _ (hIl p hp) hp3.1, Nat.ne_of_lt (hCd ▸ Heap.lt_size hp3.1), hp3.2.2⟩
    · show IsRangeIter s''.heap I (a + ((0 : Nat) : Int) * 1) ((n : Int) - ((0 : Nat) : Int)) 1
      have e := hal I (List.mem_cons_of_mem _ (List.mem_range.mpr hIlt)) _ (keep₅ _ _ hst₃)
      rw [hn] at e
      simpa [IsRangeIter] using e
    · exact (hn'.push _).at' fun o e => hal C List.mem_cons_self o e
    · exact fun b hb _ o e => hal b (List.mem_cons_of_mem _ hb) o e
  · intro b hb
    rcases List.mem_cons.mp hb with rfl | hb
    · refine ⟨Nat.ne_of_gt hLlt, hC₀, fun p hp => ?_⟩
      exact Nat.ne_of_lt (hCd ▸ Heap.lt_size (N₃ p hp).1)
    · rw [List.mem_singleton.mp hb]
      refine ⟨hIL, hI₀, fun p hp => ?_⟩
      rcases List.mem_cons.mp hp with rfl | hp
      · exact hIP
      · exact hIl p hp
  · exact SS _ rfl _
end

section
variable {prog : Program} {w : World} {A : Around} {E : Value → Shared → Prop} {s s₁ : Shared} {h₀ : Heap} {L : Addr} {m : Str → Option Value} {led : List (Addr × Obj)}
theorem keep_fn {h h' : Heap} {wr : List Addr} (Fh : Fr h₀ L h m) (N : News h₀ L h led) (hw : ∀ b ∈ wr, b ≠ L ∧ h₀.get? b = none ∧ ∀ p ∈ led, p.1 ≠ b) (hk : ∀ b o, b ∉ wr → h.get? b = some o → h'.get? b = some o) : Fr h₀ L h' m ∧ News h₀ L h' led :=
  ⟨⟨Fh.ns.at' fun o e => hk L o (fun hb => (hw L hb).1 rfl) e, fun b o e => hk b o (fun hb => by rw [(hw b hb).2.1] at e; cases e) (Fh.keep b o e), Fh.above⟩, fun p hp => ⟨hk _ _ (fun hb => (hw _ hb).2.2 p hp rfl) (N p hp).1, (N p hp).2⟩⟩
theorem sum_HV {a n : Nat} {Ft : Facts} {Q : Value → Shared → Prop} (Acc : Facts) (X : GenHV prog w A h₀ L led a n Ft s₁ s) (hh : A.handled = none) (hroom : A.depth < recursionLimit) (Fh : Fr h₀ L s.heap m) (N : News h₀ L s.heap led)
    (hFr : ∀ i v φ, Ft i v φ → ∃ z, v = .ref z) (hAr : ∀ i v φ, Acc (i + 1) v φ → ∃ z, v = .ref z) (hFm : ∀ i v (φ ψ : Addr → Obj → Prop), (∀ a o, φ a o → ψ a o) → Ft i v φ → Ft i v ψ) (hAm : ∀ i v (φ ψ : Addr → Obj → Prop), (∀ a o, φ a o → ψ a o) → Acc i v φ → Acc i v ψ)
    (hA0 : ∀ t φ, Acc 0 (.int 0 t) φ)
    (add : ∀ (A' : Around) (E' : Value → Shared → Prop) i v acc (t : Shared), A'.handled = none → A'.depth ≤ A.depth → A'.units ≤ A.units + 8 → i < n → Acc i acc (HeapIs t.heap) → Ft i v (HeapIs t.heap) → Fr h₀ L t.heap m → News h₀ L t.heap led →
      wpAny (model prog w) A' (binaryOp .Add acc v) (fun y s₃ => Acc (i + 1) y (Fresh t.heap s₃.heap) ∧ Same t s₃ ∧ Grow t.heap s₃.heap) E' t)
    (h : ∀ s' acc, Same s₁ s' → Fr h₀ L s'.heap m → News h₀ L s'.heap led → Acc n acc (Fresh s.heap s'.heap) → Q acc s') : wpAny (model prog w) A (call (.builtin "sum") [.ref a]) Q E s := by
  obtain ⟨g, C, I, fp, haC, haI, hcC, hcI, hcs, hIf, hlt, hex, hg, hg1, S, gen, hw⟩ := X
  refine sum_H hh haC haI hroom hcC hcI hcs hIf hFr hAr hFm hAm hA0 hlt hex hg gen (fun S' hS' => ?_) fun s' acc hW hacc => ?_
  · intro A' E' i v acc t h1 h2 h3 h4 h5 h6 h7
    obtain ⟨Ft', Nt⟩ := keep_fn (wr := [S', C, I]) Fh N (fun b hb => by
      rcases List.mem_cons.mp hb with rfl | hb
      · refine ⟨fun e => ?_, ?_, fun p hp e => ?_⟩
        · obtain ⟨oL, _, _, e', _⟩ := Fh.ns
          rw [← e, hS'] at e'; cases e'
        · cases q : h₀.get? b with
          | none => rfl
          | some o => have := Fh.keep _ _ q; rw [hS'] at this; cases this
        · have := (N p hp).1; rw [e, hS'] at this; cases this
      · exact hw b hb) h7
    exact add A' E' i v acc t h1 h2 h3 h4 h5 h6 Ft' Nt
  · obtain ⟨F', N'⟩ := keep_fn Fh N hw hW.2.2.2.2
    exact h s' acc ⟨hW.1.trans S.1, fun x => hW.2.1 (S.2.1 x), Nat.le_trans S.2.2.1 hW.2.2.1, fun k hk => (hW.2.2.2.1 k (Nat.lt_of_lt_of_le hk S.2.2.1) (Nat.ne_of_lt (Nat.lt_of_lt_of_le hk hg1))).trans (S.2.2.2 k hk)⟩ F' N' hacc
end
end Mine

namespace Mine

section
variable {prog : Program} {w : World} {A : Around} {E : Value → Shared → Prop} {s : Shared} {env : Env} {h₀ : Heap} {L : Addr} {m : Str → Option Value} {elt iter : PySem.Expr} {x : Str} {px : Pos} {scope : Scope} {cl : List (Str × Addr)} {pos : Pos}
theorem eval_ListComp_GC {Q : Value → Shared → Prop} (_F₀ : Fr h₀ L s.heap m)
    (hclos : closureFor scope env = pure cl) (hone : ∀ n, cellsFrom n scope.names cl = (x, n) :: cl) (hpush : ∀ h, pushCells h scope.names = h.push oneCell) (hkind : scope.kind = .function)
    (hnames : ∀ z ∈ scope.names, z.2 = .local → scope.names.lookup z.1 = some .local) (hx : (relabel scope env).names.lookup x = some .cell)
    (h : wpAny (model prog w) A (eval iter env) (CompGC prog w A env h₀ L m elt x scope cl (fun v _ _ s' => Q v s')) E s)
    (hs : ∀ x, foldedSetIterable iter env x = pure x := by intro _; rfl) :
    wpAny (model prog w) A (eval (.ListComp elt [⟨.Name x px, iter, [], 0⟩] scope pos) env) Q E s := by
  rw [eval_ListComp]
  refine wpAny_comprehension_free (use := none) rfl hs hclos hkind hnames (wpAny_mono h (fun xv s₁ h₁ => ?_) fun _ _ e => e)
  obtain ⟨hh, n, J, led₀, hsz, F, N, h0, r, a, b, t, u, v, rfl, hr, hsm, hn, turn, fin⟩ := h₁
  refine wpAny_pyIter_range hr hsm ?_
  refine block_C J (LCg.range_walks hh a n) hsz (fun i h st => ⟨_, st⟩) hone hpush hkind hx (by show IsRangeIter _ _ _ _ _; rw [hn]; simpa using Heap.get?_push_size _ rfl) (by show s₁.heap.objs.size < (s₁.heap.push _).objs.size; rw [Heap.size_push]; exact Nat.lt_succ_self _)
    (F.keeps fun _ _ e => Heap.get?_push_of_some _ e) (N.grown fun _ _ e => Heap.get?_push_of_some _ e) (Nat.ne_of_lt F.ns.lt) (next_is_new F) (fun p hp => Nat.ne_of_lt (Heap.lt_size (N p hp).1)) h0
    (fun i ys led v I oI C oC D R oR s₄ E' z1 z2 z3 z4 z5 S4 => turn i ys led v I oI C oC D R oR s₄ E' z1 z2 z3 z4 z5 ((Same.put s₁ _ s₁.toks).trans S4)) ?_
  intro D C s₃ m' ys led hl hJ S' F N o1 hn hC₀ hD₀ hCL hDL hCD offC hDs
  refine ⟨m', hn, fun h'' hs'' => fin D ys led { s₃ with heap := h'' } hl hJ (((Same.put s₁ _ s₁.toks).trans S').trans (Same.put s₃ _ s₃.toks)) (F.change hs'' hCL hC₀) (fun p hp => ?_) o1 (none_push hDs)⟩
  refine ⟨hs''.extBut _ _ ?_ (N p hp).1, (N p hp).2⟩
  rcases List.mem_cons.mp hp with rfl | hp
  · exact Ne.symm hCD
  · exact offC p hp
end
end Mine

namespace Mine

/-- what zip(l1, l2) lays behind a heap -/
def ZipMade (h h' : Heap) (l1 l2 : Addr) : Prop :=
  IsZip h' (h.objs.size + 4) (h.objs.size + 2) (h.objs.size + 3) .none ∧ IsPair h' (h.objs.size + 2) (.ref h.objs.size) (.ref (h.objs.size + 1)) ∧ IsPair h' (h.objs.size + 3) .none .none ∧
    h'.IsListIter h.objs.size l1 0 ∧ h'.IsListIter (h.objs.size + 1) l2 0 ∧ h'.objs.size = h.objs.size + 5 ∧ Grow h h'
theorem isl_up' {h h' : Heap} {l : Addr} {its : Array Value} (x : h.IsList l its) (g : Grow h h') : h'.IsList l its := let ⟨o, e, r⟩ := x; ⟨o, g _ _ e, r⟩
theorem call_zip {prog : Program} {w : World} {A : Around} {E : Value → Shared → Prop} {s : Shared} {l1 l2 : Addr} {xs ys : Array Value} {Q : Value → Shared → Prop} (hl1 : s.heap.IsList l1 xs) (hl2 : s.heap.IsList l2 ys)
    (h : ∀ h', ZipMade s.heap h' l1 l2 → Q (.ref (s.heap.objs.size + 4)) { s with heap := h' }) : wpAny (model prog w) A (call (.type "zip") [.ref l1, .ref l2]) Q E s :=
  call_zip_2 hl1 hl2 fun h' a1 a2 a3 a4 a5 a6 a7 => h h' ⟨a1, a2, a3, a4, a5, a6, a7⟩

section
variable {prog : Program} {w : World} {A : Around} {E : Value → Shared → Prop} {s : Shared} {env : Env} {h₀ : Heap} {L : Addr} {m : Str → Option Value} {elt iter : PySem.Expr} {xa xb y : Str} {pa pb tp py : Pos} {kk : Nat} {scope : Scope} {cl : List (Str × Addr)} {pos spos : Pos}

/-- an element over two lists of ints that makes an int and new things alone -/
def TurnZ (prog : Program) (w : World) (A : Around) (env : Env) (h₀ : Heap) (L : Addr) (m : Str → Option Value) (elt : PySem.Expr) (xa xb : Str) (scope : Scope) (cl : List (Str × Addr)) (c d : List Int) (f : Int → Int → Int) (led : List (Addr × Obj)) (s₂ : Shared) : Prop :=
  ∀ i C ta tb s₁ (E' : Value → Shared → Prop) (m₂ : Str → Option Value), i < c.length → s₁.heap.Ns C m₂ → m₂ xa = some (.int (c.getD i 0) ta) → m₂ xb = some (.int (d.getD i 0) tb) → Same s₂ s₁ → Fr h₀ L s₁.heap m → News h₀ L s₁.heap led →
    (∀ oC, s₁.heap.get? C = some oC → News h₀ L s₁.heap ((C, oC) :: led)) →
    wpAny (model prog w) A (eval elt (compEnvC scope cl C env)) (fun y s₂ => (∃ t, y = .int (f (c.getD i 0) (d.getD i 0)) t) ∧ Same s₁ s₂ ∧ Grow s₁.heap s₂.heap) E' s₁

def CompZ (prog : Program) (w : World) (A : Around) (env : Env) (h₀ : Heap) (L : Addr) (m : Str → Option Value) (elt : PySem.Expr) (xa xb : Str) (scope : Scope) (cl : List (Str × Addr)) (Fin : Value → List Value → List (Addr × Obj) → Shared → Prop) (xv : Value) (s₁ : Shared) : Prop :=
  A.handled = none ∧ ∃ h l1 l2 vs us c d f led, xv = .ref (h.objs.size + 4) ∧ ZipMade h s₁.heap l1 l2 ∧ h.IsList l1 (List.toArray vs) ∧ h.IsList l2 (List.toArray us) ∧ IntsAre vs c ∧ IntsAre us d ∧ d.length = c.length ∧ c.length ≤ sizeLine ∧ Fr h₀ L h m ∧ News h₀ L h led ∧
    TurnZ prog w A env h₀ L m elt xa xb scope cl c d f led s₁ ∧
    (∀ D ys s₃, IntsAre ys ((List.range c.length).map fun i => f (c.getD i 0) (d.getD i 0)) → Same s₁ s₃ → Fr h₀ L s₃.heap m → News h₀ L s₃.heap ((D, LCg.lst ys) :: led) → (∀ p ∈ led, p.1 ≠ D) → Fin (.ref D) ys led s₃)

theorem comp_Z {RR : Value → Addr → Result → Shared → Prop} {Fin : Value → List Value → List (Addr × Obj) → Shared → Prop} {xv : Value} {s₁ : Shared}
    (hcell : ∀ y ∈ scope.names, y.2 ≠ .cell) (hkind : scope.kind = .function) (hxa : scope.names.lookup xa = some .local) (hxb : scope.names.lookup xb = some .local) (hab : ¬ xa = xb)
    (h : CompZ prog w A env h₀ L m elt xa xb scope cl Fin xv s₁)
    (hRR : ∀ D C s₃ m' ys led, Fin (.ref D) ys led s₃ → Fr h₀ L s₃.heap m → News h₀ L s₃.heap ((D, LCg.lst ys) :: led) → s₃.heap.Ns C m' → h₀.get? C = none → C ≠ L → D ≠ L → h₀.get? D = none → C ≠ D → (∀ p ∈ led, p.1 ≠ C) → (∀ p ∈ led, p.1 ≠ D) →
      RR (.ref D) C (.ok .next) s₃) :
    wpAny (model prog w) A (pyIter xv) (fun it s₂ => wpAny (model prog w) A (newList []) (fun acc s₃ => wpAny (model prog w) A (newFunctionEnv scope env.globals cl [] env.qual none .none (some env)) (fun cenv s₄ =>
      codeAny (model prog w) A (.compStart (.ListComp elt [⟨.Tuple [.Name xa pa, .Name xb pb] kk tp, iter, [], 0⟩] scope pos) 0 it acc { cenv with scope := relabel scope env }) (RR acc cenv.locals) s₄) E s₃) E s₂) E s₁ := by
  obtain ⟨hh, h, l1, l2, vs, us, c, d, f, led, rfl, ⟨z1, z2, z3, z4, z5, z6, z7⟩, hl1, hl2, iv, iu, hlen, hsz, F, N, turn, fin⟩ := h
  have hlt1 : l1 < h.objs.size := let ⟨_, e, _⟩ := hl1; Heap.lt_size e
  have hlt2 : l2 < h.objs.size := let ⟨_, e, _⟩ := hl2; Heap.lt_size e
  generalize hB : h.objs.size = B at *
  have DD : ZipApart (B + 4) (B + 2) (B + 3) B (B + 1) l1 l2 := by
    have q1 : @LT.lt Nat _ l1 B := hlt1
    have q2 : @LT.lt Nat _ l2 B := hlt2
    constructor <;> intro e <;> have e' : @Eq Nat _ _ := e <;> omega
  have W := WalksT.zip2 (prog := prog) (w := w) hh (B + 4) (B + 2) (B + 3) B (B + 1) l1 l2 DD vs.toArray us.toArray
  have hmin : min vs.toArray.size us.toArray.size = c.length := by rw [List.size_toArray, List.size_toArray, iv.length, iu.length, hlen, Nat.min_self]
  rw [hmin] at W
  generalize hSt : (fun (i : Nat) (h : Heap) => IsZip h (B + 4) (B + 2) (B + 3) .none ∧ IsPair h (B + 2) (.ref B) (.ref (B + 1)) ∧ (∃ a b, IsPair h (B + 3) a b) ∧ h.IsListIter B l1 i ∧ h.IsListIter (B + 1) l2 i ∧ h.IsList l1 vs.toArray ∧ h.IsList l2 us.toArray) = St at W
  have hst : St 0 s₁.heap := by rw [← hSt]; exact ⟨z1, z2, ⟨_, _, z3⟩, z4, z5, isl_up' hl1 z7, isl_up' hl2 z7⟩
  refine wpAny_pyIter_zip z1 ?_
  refine wpAny_newObj_type (wpAny_newFunctionEnv hcell (by intro y hy; simp at hy) (fun h₁ hns₁ hsb₁ => ?_) hkind)
  dsimp only at hns₁ hsb₁ ⊢
  generalize hH2 : s₁.heap.push { cls := .type "list", dict := none, data := .seq ([] : List Value).toArray } = H2 at hns₁ hsb₁ ⊢
  have hC : H2.objs.size = s₁.heap.objs.size + 1 := by rw [← hH2, Heap.size_push]
  rw [z6] at hC
  generalize hCd : H2.objs.size = C at hns₁ hsb₁ hC ⊢
  generalize hDd : s₁.heap.objs.size = D at z6 ⊢
  have lo : ∀ b, b < B → b ≠ C ∧ b ≠ D ∧ b ∉ [B + 4, B + 3, B, B + 1] := fun b hb => by
    refine ⟨by rw [hC]; exact Nat.ne_of_lt (by omega), by rw [z6]; exact Nat.ne_of_lt (by omega), fun q => ?_⟩
    have hb' : @LT.lt Nat _ b B := hb
    simp only [List.mem_cons, List.not_mem_nil, or_false] at q
    rcases q with q | q | q | q <;> (have q' : @Eq Nat _ _ := q; omega)
  have hDC : D ≠ C := by rw [hC, z6]; exact Nat.ne_of_lt (by omega)
  have offW : ∀ b ∈ [B + 4, B + 2, B + 3, B, B + 1, l1, l2], b ≠ C ∧ b ≠ D := fun b hb => by
    have q1 : @LT.lt Nat _ l1 B := hlt1
    have q2 : @LT.lt Nat _ l2 B := hlt2
    simp only [List.mem_cons, List.not_mem_nil, or_false] at hb
    constructor
    · intro e
      have e' : @Eq Nat _ _ := e.trans hC
      rcases hb with q | q | q | q | q | q | q <;> (have q' : @Eq Nat _ _ := q; omega)
    · intro e
      have e' : @Eq Nat _ _ := e.trans z6
      rcases hb with q | q | q | q | q | q | q <;> (have q' : @Eq Nat _ _ := q; omega)
  have old : ∀ b o, s₁.heap.get? b = some o → h₁.get? b = some o := fun b o e => hsb₁.extBut b o (by rw [hC]; exact Nat.ne_of_lt (Nat.lt_of_lt_of_le (Heap.lt_size e) (by rw [hDd, z6]; omega))) (Heap.get?_push_of_some _ (hH2 ▸ Heap.get?_push_of_some _ e))
  have hacc : h₁.get? D = some (LCg.lst []) := hsb₁.extBut _ _ hDC (Heap.get?_push_of_some _ (hH2 ▸ hDd ▸ Heap.get?_push_size _ rfl))
  have hst₁ : St 0 h₁ := W.frame _ _ _ hst fun b _ o e => old b o e
  have hC₀ : h₀.get? C = none := Heap.get?_none_of_le (Nat.le_trans F.above (Nat.le_trans (Nat.le_of_lt F.ns.lt) (by rw [hB, hC]; omega)))
  have hD₀ : h₀.get? D = none := Heap.get?_none_of_le (Nat.le_trans F.above (Nat.le_trans (Nat.le_of_lt F.ns.lt) (by rw [hB, z6]; omega)))
  have hLB : L < B := hB ▸ F.ns.lt
  have hledB : ∀ p ∈ led, p.1 < B := fun p hp => hB ▸ Heap.lt_size (N p hp).1
  have loop : ∀ s₃ : Shared, s₃ = { s₁ with heap := h₁, toks := s₁.toks + ([] : List (Str × Value)).length } →
      codeAny (model prog w) A (.compLoop (.ListComp elt [⟨.Tuple [.Name xa pa, .Name xb pb] kk tp, iter, [], 0⟩] scope pos) 0 (.ref (B + 4)) (.ref D) (compEnvC scope cl C env)) (RR (.ref D) C) s₃ := by
    rintro s₃ rfl
    refine kcp_loop
      (fun k s' => ∃ i ys m', Same s₁ s' ∧ i ≤ c.length ∧ k = c.length + 1 - i ∧ St i s'.heap ∧ Grow h s'.heap ∧ s'.heap.Ns C m' ∧ s'.heap.get? D = some (LCg.lst ys) ∧ IntsAre ys ((List.range i).map fun i => f (c.getD i 0) (d.getD i 0))) ?_ (c.length + 1)
      ⟨0, [], _, Same.put s₁ _ _, Nat.zero_le _, rfl, hst₁, fun b o e => old b o (z7 b o e), hns₁, hacc, .nil⟩
    rintro k s' ⟨i, ys, m', S', hi, rfl, hst', G', hn', hD', hys⟩
    have hyl : ys.length = i := by rw [hys.length, List.length_map, List.length_range]
    by_cases hlt : i < c.length
    · refine W.item i _ _ _ hlt hst' fun T vals h₂ tk₂ hP hTs hT hmid hk₂ => ?_
      obtain ⟨x, y', hx, hy, rfl⟩ := hP
      refine W.go _ _ _ i T _ _ _ hmid fun h₃ hst₃ hk₃ => ?_
      have hT₃ : h₃.IsTuple T #[x, y'] := let ⟨o, e, r⟩ := hT; ⟨o, hk₃ _ o (W.apart _ _ _ hmid) e, r⟩
      have up₃ : ∀ b o, b ∉ [B + 4, B + 3, B, B + 1] → s'.heap.get? b = some o → h₃.get? b = some o := fun b o hb e => hk₃ b o hb (hk₂ b o hb e)
      have hCw : C ∉ [B + 4, B + 3, B, B + 1] := fun q => (offW C (by simp only [List.mem_cons, List.not_mem_nil, or_false] at q ⊢; rcases q with q | q | q | q <;> simp [q])).1 rfl
      have hDw : D ∉ [B + 4, B + 3, B, B + 1] := fun q => (offW D (by simp only [List.mem_cons, List.not_mem_nil, or_false] at q ⊢; rcases q with q | q | q | q <;> simp [q])).2 rfl
      refine kcp_assign (env := compEnvC scope cl C env) hh hT₃ (lookup_relabel_local hxa) (lookup_relabel_local hxb) (by simp [compEnvC, relabel, hkind]) (hn'.at' fun o e => up₃ _ o hCw e) fun h₄ tk₄ hn₄ hs₄ => ?_
      have G₄ : Grow h h₄ := fun b o e => by
        have q := lo b (hB ▸ Heap.lt_size e)
        exact hs₄ b o q.1 (up₃ b o q.2.2 (G' b o e))
      have hst₄ : St (i + 1) h₄ := W.frame _ _ _ hst₃ fun b hb o e => hs₄ b o (offW b hb).1 e
      have hD₄ : h₄.get? D = some (LCg.lst ys) := hs₄ D _ hDC (up₃ D _ hDw hD')
      have hgc : c[i]? = some (c.getD i 0) := by rw [List.getD_eq_getElem?_getD, List.getElem?_eq_getElem hlt]; rfl
      have hgd : d[i]? = some (d.getD i 0) := by rw [List.getD_eq_getElem?_getD, List.getElem?_eq_getElem (by omega)]; rfl
      obtain ⟨ta, hta⟩ := iv.get i _ hgc
      obtain ⟨tb, htb⟩ := iu.get i _ hgd
      obtain rfl : x = .int (c.getD i 0) ta := by
        have hx' : vs[i]? = some x := by simpa using hx
        rw [hta] at hx'; exact (Option.some.inj hx').symm
      obtain rfl : y' = .int (d.getD i 0) tb := by
        have hy'' : us[i]? = some y' := by simpa using hy
        rw [htb] at hy''; exact (Option.some.inj hy'').symm
      have hba : ¬ xb = xa := fun q => hab q.symm
      refine wpAny_mono (turn i C ta tb { s' with heap := h₄, toks := tk₄ } _ _ hlt hn₄ (by simp [hab]) (by simp) (S'.putR _ _) (F.keeps G₄) (N.grown G₄) fun oC eC => ?_) (fun v s₅ h₅ => ?_) fun _ _ e => e
      · intro p hp
        rcases List.mem_cons.mp hp with rfl | hp
        · exact ⟨eC, fun q => by have q1 : C = L := q; rw [q1] at hC; exact absurd hLB (by rw [hC]; exact Nat.not_lt.mpr (by omega)), hC₀⟩
        · exact (N.grown G₄) p hp
      · obtain ⟨⟨t, rfl⟩, S₅, G₅⟩ := h₅
        refine append_at (hsz := by show ys.toArray.size ≤ sizeLine; rw [List.size_toArray, hyl]; exact Nat.le_trans hi hsz) (G₅ _ _ hD₄) fun h₆ hs₆ hD₆ => ?_
        refine ⟨c.length + 1 - (i + 1), by omega, i + 1, ys ++ [_], _, (S'.putR _ _).trans (S₅.trans (Same.put s₅ _ s₅.toks)), hlt, rfl, W.frame _ _ _ hst₄ fun b hb o e => hs₆.extBut b o (offW b hb).2 (G₅ b o e), fun b o e => hs₆.extBut b o (lo b (hB ▸ Heap.lt_size e)).2.1 (G₅ b o (G₄ b o e)),
          (hn₄.keeps G₅).sameBut hs₆ (Ne.symm hDC), hD₆.trans (congrArg some (LCg.lst_snoc ys _)), ?_⟩
        rw [List.range_succ, List.map_append]
        exact hys.append (.cons _ _ .nil)
    · obtain rfl : i = c.length := Nat.le_antisymm hi (Nat.not_lt.mp hlt)
      refine W.done _ _ _ hst' fun h₂ tk₂ hk₂ => ?_
      have G₂ : Grow h h₂ := fun b o e => hk₂ b o (lo b (hB ▸ Heap.lt_size e)).2.2 (G' b o e)
      have hCw : C ∉ [B + 4, B + 3, B, B + 1] := fun q => (offW C (by simp only [List.mem_cons, List.not_mem_nil, or_false] at q ⊢; rcases q with q | q | q | q <;> simp [q])).1 rfl
      have hDw : D ∉ [B + 4, B + 3, B, B + 1] := fun q => (offW D (by simp only [List.mem_cons, List.not_mem_nil, or_false] at q ⊢; rcases q with q | q | q | q <;> simp [q])).2 rfl
      have hD₂ := hk₂ D _ hDw hD'
      have hDL : D ≠ L := fun q => by rw [q] at z6; exact absurd hLB (by rw [z6]; exact Nat.not_lt.mpr (by omega))
      have hCL : C ≠ L := fun q => by rw [q] at hC; exact absurd hLB (by rw [hC]; exact Nat.not_lt.mpr (by omega))
      have oD : ∀ p ∈ led, p.1 ≠ D := fun p hp => (lo _ (hledB p hp)).2.1
      have N₂ : News h₀ L h₂ ((D, LCg.lst ys) :: led) := fun p hp => by
        rcases List.mem_cons.mp hp with rfl | hp
        · exact ⟨hD₂, hDL, hD₀⟩
        · exact (N.grown G₂) p hp
      exact hRR D C _ m' ys led (fin D ys _ hys (S'.putR _ _) (F.keeps G₂) N₂ oD) (F.keeps G₂) N₂ (hn'.at' fun o e => hk₂ _ o hCw e) hC₀ hCL hDL hD₀ (Ne.symm hDC) (fun p hp => (lo _ (hledB p hp)).1) oD
  exact codeAny_compStart_list (loop _ rfl) (W.self 0 _ _ _ hst₁ (loop _ rfl))

theorem assign_ListComp_Z {Q : Flow → Shared → Prop} (_F₀ : Fr h₀ L s.heap m) (hLe : env.locals = L)
    (hsw : swapsWith (.ListComp elt [⟨.Tuple [.Name xa pa, .Name xb pb] kk tp, iter, [], 0⟩] scope pos) (some (.Name y py)) spos.line env = pure true)
    (hclos : closureFor scope env = pure cl) (hcell : ∀ z ∈ scope.names, z.2 ≠ .cell) (hkind : scope.kind = .function)
    (hnames : ∀ z ∈ scope.names, z.2 = .local → scope.names.lookup z.1 = some .local) (hxa : scope.names.lookup xa = some .local) (hxb : scope.names.lookup xb = some .local) (hab : ¬ xa = xb)
    (hy : env.kindOf y = some .local) (hp : (env.scope.kind == .class || (env.scope.kind == .module && env.locals != env.globals)) = false)
    (h : wpAny (model prog w) A (eval iter env) (CompZ prog w A env h₀ L m elt xa xb scope cl (FinStore h₀ L m y Q)) E s)
    (hs : ∀ x, foldedSetIterable iter env x = pure x := by intro _; rfl) :
    wpAny (model prog w) A (exec (.Assign [.Name y py] (.ListComp elt [⟨.Tuple [.Name xa pa, .Name xb pb] kk tp, iter, [], 0⟩] scope pos) spos) env) Q E s := by
  subst hLe
  rw [exec_Assign_Name_used _ _ _ _ hsw]
  refine wpAny_bind (wpAny_standAt (wpAny_bind ?_))
  show wpAny _ A (do let _ ← comprehension (.ListComp elt [⟨.Tuple [.Name xa pa, .Name xb pb] kk tp, iter, [], 0⟩] scope pos) scope env _ (newList []) false (eval iter env) (some (assign (.Name y py) env))) _ _ s
  refine wpAny_bind (wpAny_mono (wpAny_comprehension_free (use := some (assign (.Name y py) env)) (Q := fun _ s' => Q .next s') rfl hs hclos hkind hnames
    (wpAny_mono h (fun xv s₁ h₁ => ?_) fun _ _ e => e)) (fun _ s' hq => wpAny_pure (wpAny_pure hq)) fun _ _ e => e)
  refine comp_Z hcell hkind hxa hxb hab h₁ ?_
  intro D C s₃ m' ys led hf F N hn hC₀ hCL hDL hD₀ hCD offC offD
  show wpAny _ A (assign (.Name y py) env (.ref D)) _ _ _
  refine wpAny_assign_Name (wpAny_storeName_local hy F.ns (fun h₂ hn₂ hs₂ => ?_) hp)
  have hL₀ : h₀.get? env.locals = none := Heap.get?_none_of_le F.above
  have F₂ : Fr h₀ env.locals h₂ (fun z => if z = y then some (.ref D) else m z) := ⟨hn₂, fun b o e => hs₂.extBut b o (fun q => by rw [q, hL₀] at e; cases e) (F.keep b o e), F.above⟩
  refine ⟨m', hn.sameBut hs₂ hCL, fun h'' hs'' => hf D { s₃ with heap := h'', toks := _ } rfl (Same.put s₃ _ _) (F₂.change hs'' hCL hC₀) fun p hp => ?_⟩
  have z : h₂.get? p.1 = some p.2 := hs₂.extBut _ _ (N p hp).2.1 (N p hp).1
  refine ⟨hs''.extBut _ _ ?_ z, (N p hp).2⟩
  rcases List.mem_cons.mp hp with rfl | hp
  · exact Ne.symm hCD
  · exact offC p hp
end
/-- an int, and new things alone -/
def IntGrow (s₁ : Shared) (z : Int) (y : Value) (s₂ : Shared) : Prop := (∃ t, y = .int z t) ∧ Same s₁ s₂ ∧ Grow s₁.heap s₂.heap
theorem IntGrow.mk {s₁ s₂ : Shared} {z : Int} {t : Tok} (S : Same s₁ s₂) (G : Grow s₁.heap s₂.heap) : IntGrow s₁ z (.int z t) s₂ := ⟨⟨t, rfl⟩, S, G⟩
/-- a thing made, and new things alone -/
def Made (r : Value → (Addr → Obj → Prop) → Prop) (s₁ : Shared) (y : Value) (s₂ : Shared) : Prop := r y (Fresh s₁.heap s₂.heap) ∧ Same s₁ s₂ ∧ Grow s₁.heap s₂.heap
theorem Made.mk {r : Value → (Addr → Obj → Prop) → Prop} {s₁ s₂ : Shared} {y : Value} (h : r y (Fresh s₁.heap s₂.heap)) (S : Same s₁ s₂) (G : Grow s₁.heap s₂.heap) : Made r s₁ y s₂ := ⟨h, S, G⟩
theorem copy_led {prog : Program} {w : World} {A : Around} {E : Value → Shared → Prop} {s : Shared} {h₀ : Heap} {L l : Addr} {m : Str → Option Value} {vs : List Value} {led : List (Addr × Obj)} {Q : Value → Shared → Prop} (Fh : Fr h₀ L s.heap m) (N : News h₀ L s.heap led) (hl : s.heap.IsList l vs.toArray) (hsz : vs.length ≤ sizeLine)
    (h : ∀ D h', Grow s.heap h' → Fr h₀ L h' m → News h₀ L h' ((D, listOf vs.toArray 0) :: led) → (∀ p ∈ led, p.1 ≠ D) → Q (.ref D) { s with heap := h' }) : wpAny (model prog w) A (call (.builtin "list.copy") [.ref l]) Q E s := by
  obtain ⟨⟨cls, dd, data, sl⟩, ho, hc, n, hd⟩ := id hl
  simp only at hc hd
  subst hc hd
  exact call_meets PySem.F.slot_list_copy ⟨_, ho, rfl⟩ PySem.F.entry_list_copy (PySem.F.args_list_copy_1 _) (list_copyW l vs.toArray n dd sl (by simpa using hsz)) ⟨ho, h _ _ (grow_push _ _) (Fh.push _) (News.push Fh N _) fun p hp => Nat.ne_of_lt (Heap.lt_size (N p hp).1)⟩
end Mine

namespace Mine

section
variable {prog : Program} {w : World} {A : Around} {E : Value → Shared → Prop} {s : Shared} {env : Env} {h₀ : Heap} {x : Str} {px : Pos} {body : List Stmt} {Q : Flow → Shared → Prop}
/-- a for over a list of the ground's -/
theorem for_list {σ : Type} (Led : σ → List (Addr × Obj)) (ps : σ → List (Str × Value)) (stored : List Str) (Inv : Nat → σ → Prop) (c₀ : σ) {l : Addr} {its : List Value} {na : Nat} {m₀ : Str → Option Value}
    (hh : A.handled = none) (hl : h₀.get? l = some (listOf its.toArray na))
    (hx : env.kindOf x = some .local) (hp : (env.scope.kind == .class || (env.scope.kind == .module && env.locals != env.globals)) = false)
    (F : Fr h₀ env.locals s.heap m₀) (N : News h₀ env.locals s.heap (Led c₀)) (hk : ∀ p ∈ ps c₀, m₀ p.1 = some p.2) (h0 : Inv 0 c₀)
    (turn : ∀ i c v (u : Str → Option Value) s₁ I oI, i < its.length → its[i]? = some v → Inv i c → Same s s₁ → Fr h₀ env.locals s₁.heap (fun y => if y = x then some v else kstB (fun z => if stored.contains z then u z else m₀ z) (ps c) y) →
      News h₀ env.locals s₁.heap ((I, oI) :: Led c) → (∀ p ∈ Led c, p.1 ≠ I) →
      wpAny (model prog w) A (execs body env) (TurnG h₀ env.locals x stored m₀ Led ps (Inv (i + 1)) I oI Q s₁) E s₁)
    (done : ∀ c (u : Str → Option Value) s₁, Inv its.length c → Same s s₁ → Fr h₀ env.locals s₁.heap (fun y => if y = x then u y else kstB (fun z => if stored.contains z then u z else m₀ z) (ps c) y) →
      News h₀ env.locals s₁.heap (Led c) → Q .next s₁)
    (hE : PassesOwn (model prog w) A env E := by passes_own) :
    wpAny (model prog w) A (pyIter (.ref l)) (fun it s₂ => codeAny (model prog w) A (.forLoop (.Name x px) it body [] env) (fun r s' => match r with | .ok f => Q f s' | .error e => cameBackBy (model prog w) A env E e s') s₂) E s := by
  have hls : s.heap.IsList l its.toArray := ⟨_, F.keep _ _ hl, rfl, na, rfl⟩
  have hlt : l < s.heap.objs.size := Heap.lt_size (F.keep _ _ hl)
  refine wpAny_pyIter_list hls ?_
  have up : ∀ b o, s.heap.get? b = some o → (s.heap.push { cls := .type "list_iterator", data := .fields #[.ref l, .int 0 0] }).get? b = some o := fun b o e => Heap.get?_push_of_some _ e
  have W := Walks.list (prog := prog) (w := w) hh s.heap.objs.size l (Nat.ne_of_lt hlt) its.toArray
  have hn : its.toArray.size = its.length := List.size_toArray
  rw [hn] at W
  refine loopG (s := { s with heap := s.heap.push { cls := .type "list_iterator", data := .fields #[.ref l, .int 0 0] } }) Led ps stored Inv c₀ W (fun i h st => by obtain ⟨o, e, _⟩ := st.1; exact ⟨o, e⟩) (fun b hb hne => ?_) hx hp
    (fun h => ?_) (next_is_new F) ⟨⟨_, Heap.get?_push_size _ rfl, rfl, rfl⟩, hls.push _⟩ (F.keeps up) (N.grown up) (fun p hp => Nat.ne_of_lt (Heap.lt_size (N p hp).1)) hk h0 ?_ ?_ hE
  · rcases List.mem_cons.mp hb with e | hb
    · exact absurd e hne
    · rw [List.mem_singleton.mp hb]; exact .inl ⟨_, hl⟩
  · rcases List.mem_cons.mp h with e | h
    · exact Nat.ne_of_lt F.ns.lt e
    · have e := List.mem_singleton.mp h
      have := Heap.lt_size hl
      rw [← e] at this
      exact Nat.lt_irrefl _ (Nat.lt_of_lt_of_le this F.above)
  · intro i c v u s₁ oI hi hv hI S F' N' off
    exact turn i c v u s₁ _ oI hi (by simpa using hv) hI ((Same.put s _ s.toks).trans S) F' N' off
  · intro c u s₁ hI S F' N'
    exact done c u s₁ hI ((Same.put s _ s.toks).trans S) F' N'
end
section
variable {M : Model} {A : Around} {E : Value → Shared → Prop} {s : Shared} {K : Frag} {h₀ : Heap} {L : Addr} {m mg mb : Str → Option Value} {env : Env} {p : Program} {loose : List Str} {x : Str} {pos : Pos} {v : Value} {Q : Value → Shared → Prop}
theorem nameB_CC (F : Fr h₀ L s.heap m) (X : K.In h₀) (T : TopRead p loose mg mb h₀) (e : nsIn K mainGlobals x = some none) (hv : bootBuiltins x = some v) (hn : x ≠ "__name__") (h : Q v s)
    (hg : env.globals = mainGlobals) (hb : env.builtins = builtinsNs) (hk : env.scope.kind = .function) (hx : env.kindOf x = some .globalImplicit) (hd : (x == ("__debug__" : Str)) = false) : wpAny M A (eval (.Name x pos) env) Q E s :=
  Name_function_global hk hx (loadGlobal_builtin (env := env) (by rw [hg]; exact T.g.keeps F.keep) (mg_none_of X T.g e) (by rw [hb]; exact T.b.keeps F.keep) ((T.builtins x hn).trans hv) h) hd
theorem nameG_CC (F : Fr h₀ L s.heap m) (X : K.In h₀) (T : TopRead p loose mg mb h₀) (e : nsIn K mainGlobals x = some (some v)) (h : Q v s)
    (hg : env.globals = mainGlobals) (hk : env.scope.kind = .function) (hx : env.kindOf x = some .globalImplicit) (hd : (x == ("__debug__" : Str)) = false) : wpAny M A (eval (.Name x pos) env) Q E s :=
  Name_function_global hk hx (loadGlobal_global (env := env) (by rw [hg]; exact T.g.keeps F.keep) (mg_of X T.g e) h) hd
end
theorem binds_at {K : Frag} {f : Addr} {oc : Value} {od : Option Addr} {fd0 : FuncData} {osl : Array (Option Value)} {s : Shared} {args : Args} {binds : List (Str × Value)} (e0 : K.lookup f = some ⟨oc, od, .func fd0, osl⟩) (h : BindsTo s fd0 args binds) :
    ∀ fd oc od osl, K.lookup f = some ⟨oc, od, .func fd, osl⟩ → BindsTo s fd args binds := by
  intro fd oc od osl e
  rw [e0] at e
  cases e
  exact h
end Mine

namespace Mine

theorem int_add_inst (a : Int) (t : Tok) (x : Addr) (C d : Addr) :
    Meets (Builtin.«int.__add__» ⟨[.int a t, .ref x], []⟩) (fun _ R s => s.heap.get? x = some (instObj C d) ∧ R (.ok (.ret Value.notImplemented)) s) :=
  .of_wp fun prog w A R s h => by obtain ⟨hp, g, d, tk, os⟩ := s; obtain ⟨hl, h⟩ := h; wp_walk; exact ⟨_, rfl, h⟩

section
variable {prog : Program} {w : World} {A : Around} {E : Value → Shared → Prop} {s : Shared} {K : Frag} {x C d L f fA : Addr} {h₀ : Heap} {m : Str → Option Value} {od : Obj}
theorem fills_int : fillsNumberSlot (.type "int") "add" = pure true := by
  unfold fillsNumberSlot
  dsimp only
  rw [show typeLookup (.type "int") (dunder "add") = pure (some (.builtin "int.__add__")) from PySem.F.slot_int_add.lookup, show typeLookup (.type "int") (dunderR "add") = pure (some (.builtin "int.__radd__")) from PySem.F.slot_int_radd.lookup]
  rfl
theorem int_add_call {a : Int} {t : Tok} {Q : Value → Shared → Prop} (h : s.heap.get? x = some (instObj C d) ∧ Q .notImplemented s) : wpAny (model prog w) A (call (.builtin "int.__add__") [.int a t, .ref x]) Q E s :=
  have sl : Slot "int" (dunder "add") "int.__add__" := PySem.F.slot_int_add
  have en : entryFor table "int.__add__" = some Builtin.«int.__add__» := PySem.F.entry_int_add
  have ar : argsOk "int.__add__" ⟨[.int a t, .ref x], []⟩ := PySem.F.args_int_add_2 _ _
  call_meets (name := dunder "add") (id := "int.__add__") (S := fun _ R s => s.heap.get? x = some (instObj C d) ∧ R (.ok (.ret Value.notImplemented)) s) sl (typeIs_int s a t) en ar (int_add_inst a t x C d) h
/-- an int and an own thing added: the thing's own way from the right -/
theorem radd_K {a : Int} {t : Tok} {Q : Value → Shared → Prop} (F : Fr h₀ L s.heap m) (X₀ : K.In h₀) (hx1 : s.heap.get? x = some (instObj C d)) (hx2 : s.heap.get? d = some od) (hc : selfFirst K C = true)
    (hs : findIn K (.ref C) (PySem.dunder "add") = some (some (.ref fA))) (hr : findIn K (.ref C) (dunderR "add") = some (some (.ref f))) (hf : isFn K (.ref f) = true) (hsub : subIn K (.ref C) (.type "int") = some false)
    (h : wpAny (model prog w) A (call (.ref f) [.ref x, .int a t]) (W.CmpBack Q) E s) : wpAny (model prog w) A (binaryOp .Add (.int a t) (.ref x)) Q E s := by
  have X := X₀.keeps F.keep
  have I : InstAt s.heap x (instObj C d) C (some od) := ⟨hx1, rfl, rfl, hx2⟩
  obtain ⟨cd, rest, hcd, hm⟩ := ksp_first hc
  have one := ksp_try X I hr hf h
  have dec : wpAny (model prog w) A (tryMethod (.int a t) (dunder "add") (.ref x)) (fun r s' => r = none ∧ s' = s) E s :=
    have sl : Slot "int" (dunder "add") "int.__add__" := PySem.F.slot_int_add
    wpAny_tryMethod_declines (T := "int") (name := dunder "add") (typeIs_int s a t) sl (int_add_call ⟨hx1, rfl, rfl, rfl⟩)
  obtain ⟨hh, g, d', tt, os⟩ := s
  have L1 : Looks (model prog w) hh (typeOf (.int a t)) (.type "int") := Looks.of_pure rfl
  have L2 : Looks (model prog w) hh (typeOf (.ref x)) (.ref C) := I.type
  have L3 : Looks (model prog w) hh (fillsNumberSlot (.type "int") "add") true := Looks.of_pure fills_int
  have L4 : Looks (model prog w) hh (fillsNumberSlot (.ref C) "add") true := fills_K X hcd hm hs
  have L5 : Looks (model prog w) hh (isSubtype (.ref C) (.type "int")) false := looks_subIn X hsub
  have L7 : Looks (model prog w) hh (numberSlotInPython (.type "int") "add") false := Looks.of_pure rfl
  have hne : (Value.type "int" == Value.ref C) = false := Bool.eq_false_iff.mpr fun q => by cases beq_iff_eq.mp q
  simp only [binaryOp, Operator.info]
  refine wpAny_holding (wpAny_bind ?_)
  unfold binaryOp1
  refine wpAny_bind (L1.at (wpAny_bind (L2.at (wpAny_bind (L3.at ?_)))))
  simp only [hne, Bool.false_eq_true, if_false]
  ksp_lk
  refine wpAny_mono dec (fun r s' hr' => ?_) fun _ _ e => e
  obtain ⟨rfl, rfl⟩ := hr'
  ksp_lk
  refine wpAny_mono one (fun r s' hr' => ?_) fun _ _ e => e
  obtain ⟨v, rfl, hq⟩ := hr'
  ksp_lk
  exact hq
end
theorem gl_sub {g h : Heap} {L : Addr} {l l' : List (Addr × Obj)} (N : News g L h l) (s : ∀ p ∈ l', p ∈ l) : News g L h l' := fun p hp => N p (s p hp)
theorem cell_pick {o : Obj} {d : Data} (h : o.data = d) : ∃ o' : Obj, o' = o ∧ o'.data = d := ⟨o, rfl, h⟩
theorem led_is {g h : Heap} {L a : Addr} {o : Obj} {led : List (Addr × Obj)} (N : News g L h led) (hm : (a, o) ∈ led) : HeapIs h a o := (N _ hm).1
theorem newPair_G {M : Model} {A : Around} {E : Value → Shared → Prop} {s : Shared} {h₀ : Heap} {L : Addr} {m : Str → Option Value} {led : List (Addr × Obj)} {a b : Value} {Q : Value → Shared → Prop} (F : Fr h₀ L s.heap m) (N : News h₀ L s.heap led)
    (h : ∀ D h', Grow s.heap h' → Fr h₀ L h' m → News h₀ L h' ((D, { cls := .type "tuple", data := .seq #[a, b] }) :: led) → (∀ p ∈ led, p.1 ≠ D) → Q (.ref D) { s with heap := h' }) : wpAny M A (newTuple [a, b]) Q E s := by
  unfold newTuple
  exact wpAny_newObj_type (h _ _ (grow_push _ _) (F.push _) (N.push F _) fun p hp => Nat.ne_of_lt (Heap.lt_size (N p hp).1))
/-- a ground anew: the whole heap but the tables -/
theorem ground_at {g h : Heap} (ps : List Addr) (G : Grow g h) (hg : ∀ p ∈ ps, g.get? p = none) :
    Grow g (hideAll h ps) ∧ Grow (hideAll h ps) h ∧ (∀ a o, h.get? a = some o → a ∉ ps → (hideAll h ps).get? a = some o) ∧ ∀ p ∈ ps, (hideAll h ps).get? p = none :=
  ⟨fun b o e => hideAll_get _ (G b o e) (fun hb => by rw [hg b hb] at e; cases e), fun b o e => of_hideAll _ e, fun a o e hn => hideAll_get _ e hn, fun p hp => hideAll_none _ hp⟩
/-- a table is turned: the frame and the rest of the ledger stand -/
theorem tab_turn {g h h' : Heap} {L : Addr} {m : Str → Option Value} {led led' : List (Addr × Obj)} {ps : List Addr} (F : Fr g L h m) (N : News g L h led) (hk : ∀ b o, b ∉ ps → h.get? b = some o → h'.get? b = some o) (hg : ∀ p ∈ ps, g.get? p = none ∧ p ≠ L)
    (hl : ∀ p ∈ led', (p ∈ led ∧ p.1 ∉ ps) ∨ (h'.get? p.1 = some p.2 ∧ p.1 ∈ ps)) : Fr g L h' m ∧ News g L h' led' :=
  ⟨⟨F.ns.at' fun o e => hk _ o (fun hb => (hg _ hb).2 rfl) e, fun b o e => hk b o (fun hb => by rw [(hg b hb).1] at e; cases e) (F.keep b o e), F.above⟩, fun p hp => (hl p hp).elim (fun h => ⟨hk _ _ h.2 (N p h.1).1, (N p h.1).2⟩) fun h => ⟨h.1, (hg _ h.2).2, (hg _ h.2).1⟩⟩
section
variable {prog : Program} {w : World} {A : Around} {E : Value → Shared → Prop} {s : Shared} {a b : Addr} {i j k l : Int} {ti tj tk tl : Tok} {Q : Value → Shared → Prop}
theorem pair_reads {h : Heap} {a : Addr} {i j : Int} {ti tj : Tok} (ha : h.get? a = some { cls := .type "tuple", data := .seq #[.int i ti, .int j tj] }) : Reads h (.ref a) (.tuple [.int i, .int j]) [] :=
  reads_tuple_at ha rfl rfl (readsAll_cons_val (Reads.int _ _) (readsAll_cons_val (Reads.int _ _) ReadsAll.nil))
theorem pair_eq (ha : s.heap.get? a = some { cls := .type "tuple", data := .seq #[.int i ti, .int j tj] }) (hb : s.heap.get? b = some { cls := .type "tuple", data := .seq #[.int k tk, .int l tl] }) (hu : A.units + 64 < cLine) (h : Q (.bool (i == k && j == l)) s) :
    wpAny (model prog w) A (compareOp .Eq (.ref a) (.ref b)) Q E s :=
  eq_dataH (pair_reads ha) (pair_reads hb) (by rfl) (by rfl) hu (by simpa [PyData.eqv, PyData.eqvAll] using h)
theorem pair_ne (ha : s.heap.get? a = some { cls := .type "tuple", data := .seq #[.int i ti, .int j tj] }) (hb : s.heap.get? b = some { cls := .type "tuple", data := .seq #[.int k tk, .int l tl] }) (hu : A.units + 64 < cLine) (h : Q (.bool (!(i == k && j == l))) s) :
    wpAny (model prog w) A (compareOp .NotEq (.ref a) (.ref b)) Q E s :=
  ne_dataH (pair_reads ha) (pair_reads hb) (by rfl) (by rfl) hu (by simpa [PyData.eqv, PyData.eqvAll] using h)
end
theorem st_set {prog : Program} {w : World} {A : Around} {E : Value → Shared → Prop} {s : Shared} {h₀ : Heap} {L D n : Nat} {m : Str → Option Value} {vs : List Value} {rest : List (Addr × Obj)} {k : Int} {t : Tok} {v : Value} {Q : Unit → Shared → Prop} (F : Fr h₀ L s.heap m)
    (N : News h₀ L s.heap ((D, listOf vs.toArray n) :: rest)) (off : ∀ p ∈ rest, p.1 ≠ D) (h0 : 0 ≤ k) (h1 : k < vs.length) (hfit : k < 2 ^ 63)
    (h : ∀ h', Fr h₀ L h' m → News h₀ L h' ((D, listOf (vs.set k.toNat v).toArray n) :: rest) → Q () { s with heap := h' }) : wpAny (model prog w) A (setItem (.ref D) (.int k t) v) Q E s := by
  have z := N _ List.mem_cons_self
  refine ki_setAt z.1 h0 hfit (by rw [List.size_toArray]; omega) (h _ (F.change (Heap.SameBut.update ..) z.2.1 z.2.2) fun p hp => ?_)
  rcases List.mem_cons.mp hp with rfl | hp
  · refine ⟨(Heap.get?_update_self _ z.1 ?_).trans (congrArg some ?_), z.2⟩
    · rfl
    · have e : vs.toArray.setIfInBounds k.toNat v = (vs.set k.toNat v).toArray := by
        apply Array.toList_inj.mp
        simp
      simp [Obj.mapSeq, W.listOf, e]
  · exact ⟨(Heap.get?_update_other _ _ (Ne.symm (off p hp))).trans (N p (List.mem_cons_of_mem _ hp)).1, (N p (List.mem_cons_of_mem _ hp)).2⟩
end Mine

set_option compiler.extract_closed false
set_option compiler.reuse false
namespace Mine
/-- the ways to close a slot, by name -/
def way : String → Lean.MacroM (Lean.TSyntax `tactic)
  | "asm" => `(tactic| k_asm)
  | "is" => `(tactic| k_is)
  | "in" => `(tactic| k_in)
  | "mem" => `(tactic| k_mem)
  | "room" => `(tactic| ktr_room)
  | "binds" => `(tactic| first | exact BindsTo.of_eq rfl | exact binds_K (by k_in) rfl (by k_is) rfl rfl rfl)
  | "locs" => `(tactic| exact locs rfl)
  | "rfl" => `(tactic| rfl)
  | "xrfl" => `(tactic| exact rfl)
  | "wrfl" => `(tactic| with_unfolding_all rfl)
  | "dec" => `(tactic| decide)
  | "deck" => `(tactic| decide +kernel)
  | "omega" => `(tactic| omega)
  | "boot" => `(tactic| boot_by_name)
  | "len" => `(tactic| first | assumption | exact IntsAre.length (by assumption))
  | "led" => `(tactic| first | exact ⟨_, Fr.keep (by k_asm) _ _ (by assumption), rfl⟩ | exact ⟨_, (News.get (by k_asm) (by k_mem)), rfl⟩)
  | "kit" => `(tactic| kit_is)
  | "nb" => `(tactic| kit_nb)
  | "fail" => `(tactic| fail)
  | _ => `(tactic| assumption)
/-- closes the named goals: words `name=way`; `whole`: k_whole -/
def cs (t : Lean.TSyntax `tactic) (s : String) : Lean.MacroM (Lean.TSyntax `tactic) :=
  (s.splitOn " ").foldlM (fun t w => do
    let [k, v] := w.splitOn "=" | `(tactic| ($t; k_whole))
    let x := Lean.mkIdent (← Lean.Macro.addMacroScope (.mkSimple k))
    let v ← way v
    `(tactic| ($t; (case $x:ident => $v:tactic)))) t
/-- applies a rule to named holes (`_`: a hole that stays; `kF`: the frame), closes them by `cs` -/
def rl (r : Lean.Name) (args s : String) : Lean.MacroM (Lean.TSyntax `tactic) := do
  let a ← (args.splitOn " ").toArray.mapM fun w => do
    if w == "_" then `(?_) else if w == "kitx_list" then `(kitx_list) else
      let x := Lean.mkIdent (← Lean.Macro.addMacroScope (.mkSimple w))
      if w == "kF" then `($x) else `(?$x)
  let r := Lean.mkIdent r
  cs (← `(tactic| refine' $r $a*)) s
def alts : List (Lean.MacroM (Lean.TSyntax `tactic)) → Lean.MacroM (Lean.TSyntax `tactic)
  | [] => way "fail"
  | a :: l => do
    let a ← a
    let b ← alts l
    `(tactic| first | $a:tactic | $b:tactic)
def rooms : String := "k1=asm k3=asm k5=asm k6=is k7=is k8=room k9=binds"
def slots : String := "k1 k3 k5 k6 k7 k8 k9 kB"
-- names in a generator, in a comprehension
def nameB : Lean.MacroM (Lean.TSyntax `tactic) := rl ``nameB_CC "kF k1 k2 k3 k4 k5 _ k6 k7 k8 k9 kA" "k6=rfl k7=rfl k8=rfl k9=rfl kA=dec k1=asm k2=asm k3=is k4=boot k5=dec whole"
def nameG : Lean.MacroM (Lean.TSyntax `tactic) := rl ``nameG_CC "kF k1 k2 k3 _ k6 k8 k9 kA" "k6=rfl k8=rfl k9=rfl kA=dec k1=asm k2=asm k3=is whole"
end Mine

namespace Mine
section
set_option compiler.extract_closed false
set_option compiler.reuse false
local macro_rules | `(tactic| k_mem) => `(tactic| first | ktr_member | exact List.mem_cons_self | (refine List.mem_cons_of_mem _ ?_; k_mem))
local macro_rules | `(tactic| k_room) => way "room"
local macro_rules | `(tactic| k_inst) => alts [rl ``InstAt.of_base "F h1 h2" "F=asm h1=ass h2=ass", rl ``InstAt.of_news "N h1 h2" "N=asm h1=mem h2=mem"]
-- enter a def
local macro_rules | `(tactic| one_item) => do
  let a ← rl ``enter0 (slots ++ " _ c2 c3 c4 c5") (rooms ++ " c5=dec kB=locs c2=xrfl c3=xrfl c4=xrfl whole")
  let b ← rl ``enterC (slots ++ " kD _ c2 c3 c4") (rooms ++ " kB=xrfl kD=deck c2=xrfl c3=xrfl c4=xrfl whole")
  `(tactic| (k_dflt (first
  | ($a; intro L' h' X' T' F' N'; (try dsimp only))
  | ($b; intro L' h' tk' cells' X' T' F' N' Y'; k_cells Y'; (try dsimp only)))))
-- enter a def whose caller's objects (the first argument, given ahead) it turns
local macro_rules | `(tactic| tb_start) => do
  let a ← cs (← `(tactic| skip)) (rooms ++ " c5=dec kB=locs c2=xrfl c3=xrfl c4=xrfl whole")
  `(tactic| k_dflt $a)
local macro_rules | `(tactic| one_place) => `(tactic| ((repeat' (first | (k_unfold; (try dsimp only)) | walk1 | (dsimp only; walk1) | fail)); (all_goals (try k_data))))
-- the stops, and what is read by rules of my own
local macro_rules | `(tactic| walk_at $k:str) => do
  let s := k.getString
  if ("call ref|exec For Name Call cons nil|exec For Name Name cons nil|exec For Name Attribute cons nil|exec For Name Call|exec For Name Name|exec For|exec While Compare|exec While BoolOp|exec While|eval ListComp|exec Assign cons ListComp|eval GeneratorExp|CompSrc|CompG|pyIter ref|FinA|FinE|IntsTurn|ListTurn|TurnG|WhileEnd|EltG|InvPostN|InvEndN|binaryOp Mult int int|setItem ref int|newList|call builtin:list.append|subscriptTail Name Slice ref ref|subscriptTail Attribute Slice ref ref|binaryOp Add ref ref|compareOp Eq ref ref|compareOp NotEq ref ref|binaryOp Pow int int|compareOp Eq int int|subscriptTail Name Tuple ref ref".splitOn "|").contains s then `(tactic| refine Stop.mk ?_)
  else if ("subscriptTail Name Name ref int|subscriptTail Name BinOp ref int|subscriptTail Name Constant ref int|subscriptTail Attribute|subscriptTail".splitOn "|").contains s then
    let a ← rl ``sub_base "k1 k2 k3 k4 k5 k6 _ k7" "k1=asm k2=ass k3=ass k4=omega k5=omega k6=omega k7=wrfl whole"
    `(tactic| (k_dflt $a; intro _))
  else if s == "call builtin:len" then
    let a ← rl ``len_base "k1 k2 k3 k4 _" "k1=asm k2=ass k3=len k4=omega whole"
    `(tactic| k_dflt $a)
  else if s == "call builtin:isinstance" then
    let a ← rl ``kia_one "kitx_list X p ee nb _" "X=in p=led ee=kit nb=nb whole"
    `(tactic| (k_dflt $a; intro _))
  else if s == "CmpBack" then `(tactic| dsimp only [PySem.W.CmpBack])
  else if s == "eval Name" then
    let a ← alts [rl ``ldVarG "gF gv _ g1 g2 g3" "g1=rfl g2=rfl g3=dec gF=asm gv=ass whole", rl ``gen_free "gN gc gm gd _ g1 g2 g3 g4" "g1=rfl g2=rfl g3=dec g4=dec gc=rfl gN=asm gm=mem gd=asm whole", nameB, nameG]
    let b ← alts [nameB, nameG]
    `(tactic| first
      | ((with_reducible show wpAny _ _ (eval (Expr.Name _ _) (genEnv _ _ _ _ _ _)) _ _ _); (with_reducible rename Fr _ _ _ _ => kF); k_dflt $a)
      | ((with_reducible show wpAny _ _ (eval (Expr.Name _ _) (compEnvC _ _ _ _)) _ _ _); (with_reducible rename Fr _ _ _ _ => kF); k_dflt $b))
  else Lean.Macro.throwUnsupported

-- defs
def RingOn (w : World) (φ : Addr → Obj → Prop) (r : Addr) (q : Int) (n : Nat) : Prop :=
  ∃ dr tq tn tqv tnv, φ r (instObj 59 dr) ∧ φ dr (dictOf [⟨PyData.keyHash w.params "q", .str "q" tq, .int q tqv⟩, ⟨PyData.keyHash w.params "n", .str "n" tn, .int (n : Int) tnv⟩] 2)
def IntsOn (φ : Addr → Obj → Prop) (l : Addr) (c : List Int) : Prop := ∃ vs na, φ l (listOf (List.toArray vs) na) ∧ IntsAre vs c
def PolyOn (w : World) (φ : Addr → Obj → Prop) (x r : Addr) (c : List Int) : Prop :=
  ∃ dx a tp tc, φ x (instObj 222 dx) ∧ φ dx (dictOf [⟨PyData.keyHash w.params "parent", .str "parent" tp, .ref r⟩, ⟨PyData.keyHash w.params "coeffs", .str "coeffs" tc, .ref a⟩] 2) ∧ IntsOn φ a c
theorem IntsOn.mono {φ ψ : Addr → Obj → Prop} {l : Addr} {c : List Int} (h : ∀ a o, φ a o → ψ a o) (x : IntsOn φ l c) : IntsOn ψ l c := let ⟨vs, na, a, b⟩ := x; ⟨vs, na, h _ _ a, b⟩
theorem RingOn.mono {w : World} {φ ψ : Addr → Obj → Prop} {r : Addr} {q : Int} {n : Nat} (h : ∀ a o, φ a o → ψ a o) (x : RingOn w φ r q n) : RingOn w ψ r q n := let ⟨dr, a, b, c, d, e, f⟩ := x; ⟨dr, a, b, c, d, h _ _ e, h _ _ f⟩
theorem PolyOn.mono {w : World} {φ ψ : Addr → Obj → Prop} {x r : Addr} {c : List Int} (h : ∀ a o, φ a o → ψ a o) (y : PolyOn w φ x r c) : PolyOn w ψ x r c := let ⟨dx, a, t, u, e, f, g⟩ := y; ⟨dx, a, t, u, h _ _ e, h _ _ f, g.mono h⟩
theorem grow_is {h h' : Heap} (g : Grow h h') : ∀ a o, HeapIs h a o → HeapIs h' a o := fun a o e => g a o e
def InLed (led : List (Addr × Obj)) (a : Addr) (o : Obj) : Prop := (a, o) ∈ led
theorem poly_tl {w : World} {h h' : Heap} {z r : Addr} {c : List Int} (y : PolyOn w (Fresh h h') z r c) : ∃ tl, (∀ p ∈ tl, Fresh h h' p.1 p.2) ∧ PolyOn w (InLed tl) z r c := by
  obtain ⟨dx, a, tp, tc, h1, h2, vs, na, h3, h4⟩ := y
  refine ⟨[(z, instObj 222 dx), (dx, dictOf [⟨PyData.keyHash w.params "parent", .str "parent" tp, .ref r⟩, ⟨PyData.keyHash w.params "coeffs", .str "coeffs" tc, .ref a⟩] 2), (a, listOf vs.toArray na)], ?_, dx, a, tp, tc, List.mem_cons_self, List.mem_cons_of_mem _ List.mem_cons_self, vs, na, List.mem_cons_of_mem _ (List.mem_cons_of_mem _ List.mem_cons_self), h4⟩
  intro p hp
  simp only [List.mem_cons, List.not_mem_nil, or_false] at hp
  rcases hp with rfl | rfl | rfl
  · exact h1
  · exact h2
  · exact h3

-- school
def addAt (c : List Int) (k : Nat) (d : Int) : List Int := c.set k (c.getD k 0 + d)
theorem addAt_length (c : List Int) (k : Nat) (d : Int) : (addAt c k d).length = c.length := by simp [addAt]
def rowIn (la lb : List Int) (i : Nat) (c : List Int) (j : Nat) : List Int := addAt c (i + j) (la.getD i 0 * lb.getD j 0)
def rowOut (la lb : List Int) (n : Nat) (c : List Int) (i : Nat) : List Int := (List.range (n - i)).foldl (rowIn la lb i) c
def backIn (la lb : List Int) (n j : Nat) (c : List Int) (t : Nat) : List Int := addAt c t (-(la.getD (n - j + t) 0 * lb.getD j 0))
def backOut (la lb : List Int) (n : Nat) (c : List Int) (j : Nat) : List Int := (List.range (1 + j)).foldl (backIn la lb n (1 + j)) c
def schoolRaw (la lb : List Int) (n : Nat) : List Int := (List.range (n - 1)).foldl (backOut la lb n) ((List.range n).foldl (rowOut la lb n) ((List.range n).map (fun _ => (0 : Int))))
def schoolOf (q : Int) (n : Nat) (la lb : List Int) : List Int := (schoolRaw la lb n).map (fun z => z % q)

theorem school {prog : Program} {w : World} {p : Program} {loose : List Str} {mg mb : Str → Option Value}
    {dp un : Nat} {fr : Option (List Env)} {gd : Option (List Code)} {h₀ : Heap} {s : Shared} {Q E : Value → Shared → Prop} {x y r n : Nat} {q : Int} {la lb : List Int}
    (hsub : Grow h₀ s.heap) (KX : (heapK w.params).In h₀) (T : TopRead p loose mg mb h₀)
    (hx : PolyOn w (HeapIs s.heap) x r la) (hy : PolyOn w (HeapIs s.heap) y r lb) (hr : RingOn w (HeapIs s.heap) r q n)
    (hq : 2 ≤ q) (hn : 1 ≤ n) (hn2 : n ≤ 4) (hla : la.length = n) (hlb : lb.length = n)
    (hm : ∀ i j, IntMulOk (la.getD i 0) (lb.getD j 0))
    (hd : dp + 1 < recursionLimit)
    (ret : ∀ s' l, Grow s.heap s'.heap → Same s s' → IntsOn (Fresh s.heap s'.heap) l (schoolOf q n la lb) → Q (.ref l) s') :
    wpAny (model prog w) (Ar dp fr gd un) (call (.ref 122) [.ref x, .ref y]) Q E s := by
  obtain ⟨dx, ax, tpx, tcx, hx1, hx2, va, nx, hx3, ia⟩ := hx
  obtain ⟨dy, ay, tpy, tcy, hy1, hy2, vb, ny, hy3, ib⟩ := hy
  obtain ⟨dr, tq, tn, tqv, tnv, hr1, hr2⟩ := hr
  dsimp only [HeapIs] at hx1 hx2 hx3 hy1 hy2 hy3 hr1 hr2
  refine wpAny_call ?_
  one_item
  one_place
  refine Stop.out ?_
  k_dflt (refine LCg.Assign_ListComp_U (F₀ := by k_asm) (by rfl) (by with_unfolding_all rfl) (by rfl) (by decide) (by rfl) (by decide) (by rfl) (by rfl) (by rfl) ?_)
  one_place
  refine Stop.out ?_
  k_dflt (refine LCg.CompSrc.range (n := n) (by rfl) (by k_asm) (by k_asm) (by assumption) (small_one (by decide) (by decide) (by omega) (by omega)) (by rw [rangeSize_nat]; omega) (by rw [sizeLine_eq]; omega) ?_)
  intro g
  refine comp_ints (fun _ => 0) trivial ?_ ?_
  · intro i ys hi hl v I oI C oC D m₂ h tk E' hv hC hx' F' N'
    k_dflt one_place
    exact IntBack.mk rfl (by k_asm) (by k_asm)
  intro ys hys
  unfold LCg.FinA
  intro D2 h2 tk2 F2 N2 O2
  dsimp only
  one_place
  refine Stop.out ?_
  with_unfolding_all refine For_invVF F2 rfl rfl ?_
  one_place
  refine Stop.out ?_
  rename IsRange _ _ _ _ _ _ _ _ => R2
  generalize hys0 : (List.range n).map (fun _ => (0 : Int)) = c0 at hys
  k_dflt (refine' range_ints (n := n) [Str.ofString "j"] (fun i c => c.length = n ∧ c = (List.range i).foldl (rowOut la lb n) c0) ?hh ?hr ?hs ?hn ?hF ?hN (off1_all O2) hys ⟨by rw [← hys0]; simp, rfl⟩ ?_ ?_)
  case hh => rfl
  case hr => exact R2
  case hF => k_asm
  case hN => k_asm
  case hs => exact small_one (by decide) (by decide) (by omega) (by omega)
  case hn => rw [rangeSize_nat]; omega
  · intro i vs c t u h tk own hi off hvs hP F2 N2
    obtain ⟨hc1, hc2⟩ := hP
    one_place
    refine Stop.out ?_
    rename Fr _ _ _ _ => F3
    with_unfolding_all refine For_invVF F3 rfl rfl ?_
    one_place
    refine Stop.out ?_
    rename IsRange _ _ _ _ _ _ _ _ => R3
    k_dflt (refine' range_ints (n := n - i) [] (fun j c' => c'.length = n ∧ c' = (List.range j).foldl (rowIn la lb i) c) ?hh ?hr ?hs ?hn ?hF ?hN off hvs ⟨hc1, rfl⟩ ?_ ?_)
    case hh => rfl
    case hr => exact R3
    case hF => k_asm
    case hN => k_asm
    case hs => exact small_one (by omega) (by omega) (by omega) (by omega)
    case hn => rw [rangeSize_nat]; omega
    · intro j vs' c' t' u' h' tk' own' hj off' hvs' hP' F3 N3
      obtain ⟨hc1', hc2'⟩ := hP'
      one_place
      refine Stop.out (mul_ok (hm _ _) ?_)
      one_place
      refine Stop.out (set_ints (by k_asm) (by k_asm) off' hvs' (by omega) (by omega) (by omega) ?_)
      intro h4 F4 N4 hi4
      one_place
      refine Stop.out (IntsTurn.mk (by k_asm) (by k_asm) hi4 ⟨?_, ?_⟩ ?_)
      · rw [List.length_set]; exact hc1'
      · have e1 : (0 + (i : Int) + (0 + (j : Int))).toNat = i + j := by omega
        have e2 : (0 + (i : Int)).toNat = i := by omega
        have e3 : (0 + (j : Int)).toNat = j := by omega
        rw [e1, e2, e3, List.range_succ, List.foldl_append, ← hc2']
        rfl
      · (intro z h1 h3; (simp only [List.contains_cons, List.contains_nil, Bool.or_false, Bool.or_eq_false_iff, beq_eq_false_iff_ne, ne_eq] at h3); first | rfl | (simp [h1, h3]; done) | (simp [h1]; done))
    · intro vs' c' u' h' tk' hvs' hP' F3 N3
      obtain ⟨hc1', hc2'⟩ := hP'
      one_place
      refine Stop.out (IntsTurn.mk (by k_asm) (by k_asm) hvs' ⟨hc1', ?_⟩ ?_)
      · rw [List.range_succ, List.foldl_append, ← hc2]
        exact hc2'
      · (intro z h1 h3; (simp only [List.contains_cons, List.contains_nil, Bool.or_false, Bool.or_eq_false_iff, beq_eq_false_iff_ne, ne_eq] at h3); first | rfl | (simp [h1, h3]; done) | (simp [h1]; done))
  intro vs c u h tk hvs hP F3 N3
  obtain ⟨hc1, hc2⟩ := hP
  one_place
  refine Stop.out ?_
  rename Fr _ _ _ _ => F4
  with_unfolding_all refine For_invVF F4 rfl rfl ?_
  one_place
  refine Stop.out ?_
  rename IsRange _ _ _ _ _ _ _ _ => R2
  generalize hc1d : (List.range n).foldl (rowOut la lb n) c0 = c1 at hc2
  k_dflt (refine' range_ints (n := n - 1) [Str.ofString "i"] (fun i c => c.length = n ∧ c = (List.range i).foldl (backOut la lb n) c1) ?hh ?hr ?hs ?hn ?hF ?hN (off1_all O2) hvs ⟨hc1, hc2⟩ ?_ ?_)
  case hh => rfl
  case hr => exact R2
  case hF => k_asm
  case hN => k_asm
  case hs => exact small_one (by decide) (by decide) (by omega) (by omega)
  case hn => rw [rangeSize_nat]; omega
  · intro j vs c t u h tk own hj off hvs hP F2 N2
    obtain ⟨hc1, hc2⟩ := hP
    one_place
    refine Stop.out ?_
    rename Fr _ _ _ _ => F3
    with_unfolding_all refine For_invVF F3 rfl rfl ?_
    one_place
    refine Stop.out ?_
    rename IsRange _ _ _ _ _ _ _ _ => R3
    k_dflt (refine' range_ints (n := 1 + j) [] (fun t c' => c'.length = n ∧ c' = (List.range t).foldl (backIn la lb n (1 + j)) c) ?hh ?hr ?hs ?hn ?hF ?hN off hvs ⟨hc1, rfl⟩ ?_ ?_)
    case hh => rfl
    case hr => exact R3
    case hF => k_asm
    case hN => k_asm
    case hs => exact small_one (by omega) (by omega) (by omega) (by omega)
    case hn => rw [rangeSize_nat]; omega
    · intro i vs' c' t' u' h' tk' own' hi off' hvs' hP' F3 N3
      obtain ⟨hc1', hc2'⟩ := hP'
      one_place
      refine Stop.out (mul_ok (hm _ _) ?_)
      one_place
      refine Stop.out (set_ints (by k_asm) (by k_asm) off' hvs' (by omega) (by omega) (by omega) ?_)
      intro h4 F4 N4 hi4
      one_place
      refine Stop.out (IntsTurn.mk (by k_asm) (by k_asm) hi4 ⟨?_, ?_⟩ ?_)
      · rw [List.length_set]; exact hc1'
      · have e1 : ((n : Int) - (1 + (j : Int)) + (i : Int) + (1 + (j : Int)) - (n : Int)).toNat = i := by omega
        have e2 : ((n : Int) - (1 + (j : Int)) + (i : Int)).toNat = n - (1 + j) + i := by omega
        have e3 : (1 + (j : Int)).toNat = 1 + j := by omega
        rw [e1, e2, e3, List.range_succ, List.foldl_append, ← hc2']
        rfl
      · (intro z h1 h3; (simp only [List.contains_cons, List.contains_nil, Bool.or_false, Bool.or_eq_false_iff, beq_eq_false_iff_ne, ne_eq] at h3); first | rfl | (simp [h1, h3]; done) | (simp [h1]; done))
    · intro vs' c' u' h' tk' hvs' hP' F3 N3
      obtain ⟨hc1', hc2'⟩ := hP'
      one_place
      refine Stop.out (IntsTurn.mk (by k_asm) (by k_asm) hvs' ⟨hc1', ?_⟩ ?_)
      · rw [List.range_succ, List.foldl_append, ← hc2]
        exact hc2'
      · (intro z h1 h3; (simp only [List.contains_cons, List.contains_nil, Bool.or_false, Bool.or_eq_false_iff, beq_eq_false_iff_ne, ne_eq] at h3); first | rfl | (simp [h1, h3]; done) | (simp [h1]; done))
  intro vs' c' u' h' tk' hvs' hP' F5 N5
  obtain ⟨hc1', hc2'⟩ := hP'
  one_place
  refine Stop.out ?_
  k_dflt (refine LCg.ListComp_U (F₀ := by k_asm) (by with_unfolding_all rfl) (by decide) (by rfl) (by decide) (by rfl) ?_)
  one_place
  refine Stop.out ?_
  have hsz : vs'.toArray.size = n := by rw [List.size_toArray, hvs'.length, hc1']
  k_dflt (refine LCg.CompSrc.ledger (by rfl) (by k_asm) (by k_asm) List.mem_cons_self (by rw [hsz, sizeLine_eq]; omega) ?_)
  intro g
  rw [hsz]
  k_dflt (refine comp_ints (fun i => c'.getD i 0 % q) (Or.inr ⟨_, List.mem_cons_self, rfl, _, rfl⟩) ?_ ?_)
  · intro i ys hi hl v I oI C oC D m₂ h tk E' hv hC hx' F' N'
    obtain ⟨t, hti⟩ := hvs'.get i (c'.getD i 0) (by rw [List.getD_eq_getElem?_getD, List.getElem?_eq_getElem (by omega)]; rfl)
    have hv' : vs'[i]? = some v := by simpa using hv
    rw [hti] at hv'
    obtain rfl : v = .int (c'.getD i 0) t := (Option.some.inj hv').symm
    k_dflt one_place
    refine IntBack.mk (Int.fmod_eq_emod_of_nonneg _ (by omega)) (by k_asm) (by k_asm)
  intro ys hys
  unfold LCg.FinE
  intro D h tk F N O
  dsimp only
  refine ret _ _ F.keep (Same.put _ _ _) ⟨_, _, ⟨(N _ List.mem_cons_self).1, (N _ List.mem_cons_self).2.2⟩, ?_⟩
  have e : schoolOf q n la lb = (List.range n).map (fun i => c'.getD i 0 % q) := by
    unfold schoolOf
    have e2 : schoolRaw la lb n = c' := by unfold schoolRaw; rw [hys0, hc1d, ← hc2']
    rw [e2]
    apply List.ext_getElem
    · simp [hc1']
    · intro i h1 h2
      simp [List.getD_eq_getElem?_getD]
      rw [List.getElem?_eq_getElem]
      rfl
  rw [e]
  exact hys

-- poly
theorem parseEq {prog : Program} {w : World} {p : Program} {loose : List Str} {mg mb : Str → Option Value}
    {dp un : Nat} {fr : Option (List Env)} {gd : Option (List Code)} {h₀ : Heap} {s : Shared} {Q E : Value → Shared → Prop} {x l r n dx : Nat} {q : Int} {c : List Int} {tp : Tok}
    (hsub : Grow h₀ s.heap) (KX : (heapK w.params).In h₀) (T : TopRead p loose mg mb h₀)
    (hx1 : HeapIs s.heap x (instObj 222 dx)) (hx2 : HeapIs s.heap dx (dictOf [⟨PyData.keyHash w.params "parent", .str "parent" tp, .ref r⟩] 1))
    (hr : RingOn w (HeapIs s.heap) r q n) (hl : IntsOn (HeapIs s.heap) l c) (hlen : c.length = n) (hn : n ≤ 1000)
    (hd : dp + 1 < recursionLimit)
    (ret : ∀ s', Grow s.heap s'.heap → Same s s' → Q (.ref l) s') :
    wpAny (model prog w) (Ar dp fr gd un) (call (.ref 96) [.ref x, .ref l]) Q E s := by
  obtain ⟨dr, tq, tn, tqv, tnv, hr1, hr2⟩ := hr
  obtain ⟨vs, nl, hl1, hl2⟩ := hl
  dsimp only [HeapIs] at hx1 hx2 hr1 hr2 hl1
  refine wpAny_call ?_
  one_item
  one_place
  exact ret _ (Fr.keep (by k_asm)) (Same.put _ _ _)


theorem polyNewEq {prog : Program} {w : World} {p : Program} {loose : List Str} {mg mb : Str → Option Value}
    {dp un : Nat} {fr : Option (List Env)} {gd : Option (List Code)} {h₀ : Heap} {s : Shared} {Q E : Value → Shared → Prop} {r l n : Nat} {q : Int} {c : List Int}
    (hsub : Grow h₀ s.heap) (KX : (heapK w.params).In h₀) (T : TopRead p loose mg mb h₀)
    (hr : RingOn w (HeapIs s.heap) r q n) (hl : IntsOn (HeapIs s.heap) l c) (hlen : c.length = n) (hn : n ≤ 1000)
    (hd : dp + 4 < recursionLimit)
    (ret : ∀ s' x dx tp tc, Grow s.heap s'.heap → Same s s' → Fresh s.heap s'.heap x (instObj 222 dx) → Fresh s.heap s'.heap dx (dictOf [⟨PyData.keyHash w.params "parent", .str "parent" tp, .ref r⟩, ⟨PyData.keyHash w.params "coeffs", .str "coeffs" tc, .ref l⟩] 2) → Q (.ref x) s') :
    wpAny (model prog w) (Ar dp fr gd un) (call (.ref 222) [.ref r, .ref l]) Q E s := by
  have KS := KX.keeps hsub
  k_dflt (refine' wpAny_call (newK ?kn1 ?kn2 ?kn3 ?kn4 ?_); (case kn1 => exact KS); (case kn2 => k_is); (case kn3 => k_is); (case kn4 => k_is))
  intro x dx h' G hx hdx hne
  have hne2 : @Ne Nat dx x := hne
  have hsub' : Grow h₀ h' := hsub.trans G
  have hh0 : ∀ b o, Fresh s.heap h' b o → h₀.get? b = none := fun b o f => by
    cases e : h₀.get? b with
    | none => rfl
    | some o' => have := hsub _ _ e; rw [f.2] at this; cases this
  k_dflt (refine' enterH [(x, instObj 222 dx), (dx, dictOf [] 0)] ?k1 ?k3 ?k5 (fun p hp => ?_) ?k6 ?k7 ?k8 ?k9 ?kB ?_ ?c2 ?c3 ?c4 ?c5)
  tb_start
  · rcases List.mem_cons.mp hp with rfl | hp
    · exact ⟨hx.1, hh0 _ _ hx⟩
    · rw [List.mem_singleton.mp hp]; exact ⟨hdx.1, hh0 _ _ hdx⟩
  intro g L' h₁ G1 G2 G3 G4 G5 KG TG F N
  dsimp only [List.map_cons, List.map_nil] at G3
  have up : ∀ a o, HeapIs s.heap a o → HeapIs g a o := fun a o e => G3 a o (G a o e) fun hm => by
    rcases List.mem_cons.mp hm with e' | hm
    · have e3 : a = x := e'
      have e2 := hx.2; rw [← e3, e] at e2; cases e2
    · have e3 : a = dx := List.mem_singleton.mp hm
      have e2 := hdx.2; rw [← e3, e] at e2; cases e2
  one_place
  rename Fr _ _ _ _ => F2
  rename News _ _ _ _ => N2
  have up2 : ∀ a o, HeapIs s.heap a o → _ := fun a o e => F2.keep a o (up a o e)
  refine Stop.out (parseEq F2.keep KG TG (N2 _ List.mem_cons_self).1 (N2 _ (List.mem_cons_of_mem _ List.mem_cons_self)).1 (hr.mono up2) (hl.mono up2) hlen hn (by ktr_room) ?_)
  intro s' Gs Ss
  have F3 := F2.keeps Gs
  have N3 := N2.grown Gs
  one_place
  rename Fr _ _ _ _ => F4
  rename News _ _ _ _ => N4
  exact ⟨rfl, ret _ x dx _ _ (fun a o e => F4.keep a o (up a o e)) (((Same.put s _ _).trans Ss).trans (Same.put _ _ _)) ⟨(N4 _ List.mem_cons_self).1, hx.2⟩ ⟨(N4 _ (List.mem_cons_of_mem _ List.mem_cons_self)).1, hdx.2⟩⟩


-- ring
theorem ringList {prog : Program} {w : World} {p : Program} {loose : List Str} {mg mb : Str → Option Value}
    {dp un : Nat} {fr : Option (List Env)} {gd : Option (List Code)} {h₀ : Heap} {s : Shared} {Q E : Value → Shared → Prop} {r l n : Nat} {q : Int} {c : List Int}
    (hsub : Grow h₀ s.heap) (KX : (heapK w.params).In h₀) (T : TopRead p loose mg mb h₀)
    (hr : RingOn w (HeapIs s.heap) r q n) (hl : IntsOn (HeapIs s.heap) l c) (hlen : c.length = n) (hn : n ≤ 1000)
    (hd : dp + 6 < recursionLimit)
    (ret : ∀ s' x dx tp tc, Grow s.heap s'.heap → Same s s' → Fresh s.heap s'.heap x (instObj 222 dx) → Fresh s.heap s'.heap dx (dictOf [⟨PyData.keyHash w.params "parent", .str "parent" tp, .ref r⟩, ⟨PyData.keyHash w.params "coeffs", .str "coeffs" tc, .ref l⟩] 2) → Q (.ref x) s') :
    wpAny (model prog w) (Ar dp fr gd un) (call (.ref r) [.ref l]) Q E s := by
  have hr' := hr
  have hl' := hl
  obtain ⟨dr, tq, tn, tqv, tnv, hr1, hr2⟩ := hr
  obtain ⟨vs, nl, hl1, hl2⟩ := hl
  dsimp only [HeapIs] at hr1 hr2 hl1
  have KS := KX.keeps hsub
  have TS := T.keeps hsub
  refine wpAny_call ?_
  k_dflt (refine' kco_code ?k1 (instAt_is hr1 hr2) rfl ?k4 ?k5 ?k6 ?_; (case k1 => exact KS); (case k4 => k_is); (case k5 => k_is); (case k6 => k_is); (try dsimp only))
  one_item
  one_place
  rename Fr _ _ _ _ => F2
  refine Stop.out (polyNewEq F2.keep KS TS (hr'.mono (grow_is F2.keep)) (hl'.mono (grow_is F2.keep)) hlen hn (by ktr_room) ?_)
  intro s' x dx tp tc G S f1 f2
  exact ret s' x dx tp tc (Grow.trans F2.keep G) ((Same.put s _ _).trans S) (fresh_sub f1 F2.keep) (fresh_sub f2 F2.keep)


-- mul
theorem foldl_length {f : List Int → Nat → List Int} (hf : ∀ c i, (f c i).length = c.length) : ∀ (l : List Nat) (c : List Int), (l.foldl f c).length = c.length
  | [], _ => rfl
  | a :: r, c => by rw [List.foldl_cons, foldl_length hf r, hf]
theorem schoolOf_length {q : Int} {n : Nat} {la lb : List Int} (_hn : 1 ≤ n) : (schoolOf q n la lb).length = n := by
  unfold schoolOf schoolRaw
  rw [List.length_map, foldl_length, foldl_length, List.length_map, List.length_range]
  · intro c i
    unfold rowOut
    exact foldl_length (fun c j => by unfold rowIn; exact addAt_length ..) _ _
  · intro c i
    unfold backOut
    exact foldl_length (fun c j => by unfold backIn; exact addAt_length ..) _ _

theorem mulPoly {prog : Program} {w : World} {p : Program} {loose : List Str} {mg mb : Str → Option Value}
    {dp un : Nat} {fr : Option (List Env)} {gd : Option (List Code)} {h₀ : Heap} {s : Shared} {Q E : Value → Shared → Prop} {x y r n : Nat} {q : Int} {la lb : List Int}
    (hsub : Grow h₀ s.heap) (KX : (heapK w.params).In h₀) (T : TopRead p loose mg mb h₀)
    (hx : PolyOn w (HeapIs s.heap) x r la) (hy : PolyOn w (HeapIs s.heap) y r lb) (hr : RingOn w (HeapIs s.heap) r q n)
    (hq : 2 ≤ q) (hn : 1 ≤ n) (hn2 : n ≤ 4) (hla : la.length = n) (hlb : lb.length = n)
    (hm : ∀ i j, IntMulOk (la.getD i 0) (lb.getD j 0))
    (hd : dp + 8 < recursionLimit)
    (ret : ∀ s' z, Grow s.heap s'.heap → Same s s' → PolyOn w (Fresh s.heap s'.heap) z r (schoolOf q n la lb) → Q (.ref z) s') :
    wpAny (model prog w) (Ar dp fr gd un) (call (.ref 184) [.ref x, .ref y]) Q E s := by
  have hx' := hx
  have hy' := hy
  have hr' := hr
  obtain ⟨dx, ax, tpx, tcx, hx1, hx2, va, nx, hx3, ia⟩ := hx
  obtain ⟨dy, ay, tpy, tcy, hy1, hy2, vb, ny, hy3, ib⟩ := hy
  obtain ⟨dr, tq, tn, tqv, tnv, hr1, hr2⟩ := hr
  dsimp only [HeapIs] at hx1 hx2 hx3 hy1 hy2 hy3 hr1 hr2
  have KS := KX.keeps hsub
  have TS := T.keeps hsub
  refine wpAny_call ?_
  one_item
  one_place
  rename Fr _ _ _ _ => F2
  rename News _ _ _ _ => N2
  refine Stop.out (school F2.keep KS TS (hx'.mono (grow_is F2.keep)) (hy'.mono (grow_is F2.keep)) (hr'.mono (grow_is F2.keep)) hq hn hn2 hla hlb hm (by ktr_room) ?_)
  intro s' l Gs Ss hl
  obtain ⟨vs', na', fl, hi'⟩ := hl
  obtain ⟨N3, O3⟩ := news_fresh F2 N2 Gs fl
  simp only [LCg.Off1, and_true] at O3
  have F3 := F2.keeps Gs
  have fl0 := fresh_sub fl F2.keep
  one_place
  rename Fr _ _ _ _ => F4
  rename News _ _ _ _ => N4
  refine Stop.out (ringList (c := schoolOf q n la lb) F4.keep KS TS (hr'.mono (grow_is F4.keep)) ⟨vs', na', (N4 _ List.mem_cons_self).1, hi'⟩ (schoolOf_length hn) (by omega) (by ktr_room) ?_)
  intro s'' z dz tp tc G S f1 f2
  refine ret s'' z (Grow.trans F4.keep G) ((((Same.put s _ _).trans Ss).trans (Same.put _ _ _)).trans S) ⟨dz, l, tp, tc, fresh_sub f1 F4.keep, fresh_sub f2 F4.keep, vs', na', ⟨G _ _ (N4 _ List.mem_cons_self).1, fl0.2⟩, hi'⟩



-- newring
theorem ringNew {prog : Program} {w : World} {p : Program} {loose : List Str} {mg mb : Str → Option Value}
    {dp un : Nat} {fr : Option (List Env)} {gd : Option (List Code)} {h₀ : Heap} {s : Shared} {Q E : Value → Shared → Prop} {n : Nat} {q : Int} {tq tn : Tok}
    (hsub : Grow h₀ s.heap) (KX : (heapK w.params).In h₀) (T : TopRead p loose mg mb h₀)
    (hd : dp + 4 < recursionLimit)
    (ret : ∀ s' r, Grow s.heap s'.heap → Same s s' → RingOn w (Fresh s.heap s'.heap) r q n → Q (.ref r) s') :
    wpAny (model prog w) (Ar dp fr gd un) (call (.ref 59) [.int q tq, .int (n : Int) tn]) Q E s := by
  have KS := KX.keeps hsub
  k_dflt (refine' wpAny_call (newK ?kn1 ?kn2 ?kn3 ?kn4 ?_); (case kn1 => exact KS); (case kn2 => k_is); (case kn3 => k_is); (case kn4 => k_is))
  intro x dx h' G hx hdx hne
  have hne2 : @Ne Nat dx x := hne
  have hsub' : Grow h₀ h' := hsub.trans G
  have hh0 : ∀ b o, Fresh s.heap h' b o → h₀.get? b = none := fun b o f => by
    cases e : h₀.get? b with
    | none => rfl
    | some o' => have := hsub _ _ e; rw [f.2] at this; cases this
  k_dflt (refine' enterH [(x, instObj 59 dx), (dx, dictOf [] 0)] ?k1 ?k3 ?k5 (fun p hp => ?_) ?k6 ?k7 ?k8 ?k9 ?kB ?_ ?c2 ?c3 ?c4 ?c5)
  tb_start
  · rcases List.mem_cons.mp hp with rfl | hp
    · exact ⟨hx.1, hh0 _ _ hx⟩
    · rw [List.mem_singleton.mp hp]; exact ⟨hdx.1, hh0 _ _ hdx⟩
  intro g L' h₁ G1 G2 G3 G4 G5 KG TG F N
  dsimp only [List.map_cons, List.map_nil] at G3
  have up : ∀ a o, HeapIs s.heap a o → HeapIs g a o := fun a o e => G3 a o (G a o e) fun hm => by
    rcases List.mem_cons.mp hm with e' | hm
    · have e3 : a = x := e'
      have e2 := hx.2; rw [← e3, e] at e2; cases e2
    · have e3 : a = dx := List.mem_singleton.mp hm
      have e2 := hdx.2; rw [← e3, e] at e2; cases e2
  one_place
  rename Fr _ _ _ _ => F4
  rename News _ _ _ _ => N4
  exact ⟨rfl, ret _ x (fun a o e => F4.keep a o (up a o e)) ((Same.put s _ _).trans (Same.put _ _ _)) ⟨dx, _, _, _, _, ⟨(N4 _ List.mem_cons_self).1, hx.2⟩, ⟨(N4 _ (List.mem_cons_of_mem _ List.mem_cons_self)).1, hdx.2⟩⟩⟩

-- add
theorem addMod {prog : Program} {w : World} {p : Program} {loose : List Str} {mg mb : Str → Option Value}
    {dp un : Nat} {fr : Option (List Env)} {gd : Option (List Code)} {h₀ : Heap} {s : Shared} {Q E : Value → Shared → Prop} {x r n : Nat} {q a b : Int} {ta tb : Tok} {la : List Int}
    (hsub : Grow h₀ s.heap) (KX : (heapK w.params).In h₀) (T : TopRead p loose mg mb h₀)
    (hx : PolyOn w (HeapIs s.heap) x r la) (hr : RingOn w (HeapIs s.heap) r q n) (hq : 2 ≤ q)
    (hd : dp + 1 < recursionLimit)
    (ret : ∀ s' t, Grow s.heap s'.heap → Same s s' → Q (.int ((a + b) % q) t) s') :
    wpAny (model prog w) (Ar dp fr gd un) (call (.ref 110) [.ref x, .int a ta, .int b tb]) Q E s := by
  obtain ⟨dx, ax, tpx, tcx, hx1, hx2, va, nx, hx3, ia⟩ := hx
  obtain ⟨dr, tq, tn, tqv, tnv, hr1, hr2⟩ := hr
  dsimp only [HeapIs] at hx1 hx2 hx3 hr1 hr2
  refine wpAny_call ?_
  one_item
  one_place
  rename Fr _ _ _ _ => F2
  rw [Int.fmod_eq_emod_of_nonneg _ (by omega)]
  exact ret _ _ F2.keep (Same.put _ _ _)

def addOf (q : Int) (c d : List Int) : List Int := (List.range c.length).map fun i => (c.getD i 0 + d.getD i 0) % q
theorem addOf_length (q : Int) (c d : List Int) : (addOf q c d).length = c.length := by simp [addOf]
def raddOf (q : Int) (c : List Int) : List Int := c.set 0 ((c.getD 0 0 + 0) % q)
theorem raddOf_length (q : Int) (c : List Int) : (raddOf q c).length = c.length := by simp [raddOf]
theorem addPolyRaw {prog : Program} {w : World} {p : Program} {loose : List Str} {mg mb : Str → Option Value}
    {dp un : Nat} {fr : Option (List Env)} {gd : Option (List Code)} {h₀ : Heap} {s : Shared} {Q E : Value → Shared → Prop} {x y r n : Nat} {q : Int} {la lb : List Int}
    (hsub : Grow h₀ s.heap) (KX : (heapK w.params).In h₀) (T : TopRead p loose mg mb h₀)
    (hx : PolyOn w (HeapIs s.heap) x r la) (hy : PolyOn w (HeapIs s.heap) y r lb) (hr : RingOn w (HeapIs s.heap) r q n)
    (hq : 2 ≤ q) (hn2 : n ≤ 4) (hla : la.length = n) (hlb : lb.length = n)
    (hd : dp + 3 < recursionLimit)
    (ret : ∀ s' l, Grow s.heap s'.heap → Same s s' → IntsOn (Fresh s.heap s'.heap) l (addOf q la lb) → Q (.ref l) s') :
    wpAny (model prog w) (Ar dp fr gd un) (call (.ref 132) [.ref x, .ref y]) Q E s := by
  have hx' := hx
  have hr' := hr
  obtain ⟨dx, ax, tpx, tcx, hx1, hx2, va, nx, hx3, ia⟩ := hx
  obtain ⟨dy, ay, tpy, tcy, hy1, hy2, vb, ny, hy3, ib⟩ := hy
  dsimp only [HeapIs] at hx1 hx2 hx3 hy1 hy2 hy3
  have KS := KX.keeps hsub
  have TS := T.keeps hsub
  refine wpAny_call ?_
  one_item
  one_place
  refine Stop.out ?_
  k_dflt (refine assign_ListComp_Z (by k_asm) rfl (by with_unfolding_all rfl) (by with_unfolding_all rfl) (by decide) (by rfl) (by decide) (by rfl) (by rfl) (by decide) (by rfl) (by rfl) ?_)
  one_place
  rename Fr _ _ _ _ => F2
  rename News _ _ _ _ => N2
  refine call_zip (isList_base F2 hx3) (isList_base F2 hy3) fun h' hz => ?_
  refine ⟨rfl, _, ax, ay, va, vb, la, lb, (fun a b => (a + b) % q), _, rfl, hz, isList_base F2 hx3, isList_base F2 hy3, ia, ib, by rw [hla, hlb], by rw [hla, sizeLine_eq]; omega, F2, N2, ?_, ?_⟩
  · intro i C ta tb s₁ E' m₂ hi hn hxa hxb S F N NC
    obtain ⟨oC, eC, hC⟩ := LCg.ns_obj hn
    replace NC := NC oC eC
    refine wpAny_mono (Q := IntGrow s₁ _) ?_ (fun _ _ h => h) fun _ _ e => e
    k_dflt one_place
    refine Stop.out (addMod (q := q) F.keep KS TS (hx'.mono (grow_is F.keep)) (hr'.mono (grow_is F.keep)) hq (by ktr_room) ?_)
    intro s' t' G' S'
    k_dflt one_place
    exact IntGrow.mk S' G'
  intro D ys s₃ hys S F N off D' s₄ e S4 F4 N4
  have GK : Grow s.heap s₄.heap := F4.keep
  one_place
  exact ret _ _ F4.keep (((Same.put s _ _).trans S).trans S4) ⟨_, _, fresh_led N4 List.mem_cons_self, hys⟩

theorem addPoly {prog : Program} {w : World} {p : Program} {loose : List Str} {mg mb : Str → Option Value}
    {dp un : Nat} {fr : Option (List Env)} {gd : Option (List Code)} {h₀ : Heap} {s : Shared} {Q E : Value → Shared → Prop} {x y r n : Nat} {q : Int} {la lb : List Int}
    (hsub : Grow h₀ s.heap) (KX : (heapK w.params).In h₀) (T : TopRead p loose mg mb h₀)
    (hx : PolyOn w (HeapIs s.heap) x r la) (hy : PolyOn w (HeapIs s.heap) y r lb) (hr : RingOn w (HeapIs s.heap) r q n)
    (hq : 2 ≤ q) (hn2 : n ≤ 4) (hla : la.length = n) (hlb : lb.length = n)
    (hd : dp + 10 < recursionLimit)
    (ret : ∀ s' z, Grow s.heap s'.heap → Same s s' → PolyOn w (Fresh s.heap s'.heap) z r (addOf q la lb) → Q (.ref z) s') :
    wpAny (model prog w) (Ar dp fr gd un) (call (.ref 139) [.ref x, .ref y]) Q E s := by
  have hx' := hx
  have hy' := hy
  have hr' := hr
  obtain ⟨dx, ax, tpx, tcx, hx1, hx2, va, nx, hx3, ia⟩ := hx
  obtain ⟨dy, ay, tpy, tcy, hy1, hy2, vb, ny, hy3, ib⟩ := hy
  obtain ⟨dr, tq, tn, tqv, tnv, hr1, hr2⟩ := hr
  dsimp only [HeapIs] at hx1 hx2 hx3 hy1 hy2 hy3 hr1 hr2
  have KS := KX.keeps hsub
  have TS := T.keeps hsub
  refine wpAny_call ?_
  one_item
  one_place
  rename Fr _ _ _ _ => F2
  rename News _ _ _ _ => N2
  refine Stop.out (addPolyRaw F2.keep KS TS (hx'.mono (grow_is F2.keep)) (hy'.mono (grow_is F2.keep)) (hr'.mono (grow_is F2.keep)) hq hn2 hla hlb (by ktr_room) ?_)
  intro s' l Gs Ss hl
  obtain ⟨vs', na', fl, hi'⟩ := hl
  obtain ⟨N3, O3⟩ := news_fresh F2 N2 Gs fl
  simp only [LCg.Off1, and_true] at O3
  have F3 := F2.keeps Gs
  have fl0 := fresh_sub fl F2.keep
  one_place
  rename Fr _ _ _ _ => F4
  rename News _ _ _ _ => N4
  refine Stop.out (ringList (c := addOf q la lb) F4.keep KS TS (hr'.mono (grow_is F4.keep)) ⟨vs', na', (N4 _ List.mem_cons_self).1, hi'⟩ (by rw [addOf_length, hla]) (by omega) (by ktr_room) ?_)
  intro s'' z dz tp tc G S f1 f2
  refine ret s'' z (Grow.trans F4.keep G) ((((Same.put s _ _).trans Ss).trans (Same.put _ _ _)).trans S) ⟨dz, l, tp, tc, fresh_sub f1 F4.keep, fresh_sub f2 F4.keep, vs', na', ⟨G _ _ (N4 _ List.mem_cons_self).1, fl0.2⟩, hi'⟩

theorem addIntRaw {prog : Program} {w : World} {p : Program} {loose : List Str} {mg mb : Str → Option Value}
    {dp un : Nat} {fr : Option (List Env)} {gd : Option (List Code)} {h₀ : Heap} {s : Shared} {Q E : Value → Shared → Prop} {x r n : Nat} {q : Int} {la : List Int} {t0 : Tok}
    (hsub : Grow h₀ s.heap) (KX : (heapK w.params).In h₀) (T : TopRead p loose mg mb h₀)
    (hx : PolyOn w (HeapIs s.heap) x r la) (hr : RingOn w (HeapIs s.heap) r q n)
    (hq : 2 ≤ q) (hn : 1 ≤ n) (hn2 : n ≤ 4) (hla : la.length = n)
    (hd : dp + 3 < recursionLimit)
    (ret : ∀ s' l, Grow s.heap s'.heap → Same s s' → IntsOn (Fresh s.heap s'.heap) l (raddOf q la) → Q (.ref l) s') :
    wpAny (model prog w) (Ar dp fr gd un) (call (.ref 132) [.ref x, .int 0 t0]) Q E s := by
  have hx' := hx
  have hr' := hr
  obtain ⟨dx, ax, tpx, tcx, hx1, hx2, va, nx, hx3, ia⟩ := hx
  dsimp only [HeapIs] at hx1 hx2 hx3
  have KS := KX.keeps hsub
  have TS := T.keeps hsub
  refine wpAny_call ?_
  one_item
  rename Fr _ _ _ _ => F2
  rename News _ _ _ _ => N2
  one_place
  refine PyProof.Rows.getMethod_list_of PySem.F.slot_list_copy PySem.F.type_list_copy (isList_base F2 hx3) ?_ ?_
  · exact ⟨_, F2.keep _ _ hx3, rfl⟩
  one_place
  rename Fr _ _ _ _ => F3
  rename News _ _ _ _ => N3
  dsimp only
  refine copy_led F3 N3 (isList_base F3 hx3) (by rw [ia.length, hla, sizeLine_eq]; omega) fun D h4 G4 F4 N4 off4 => ?_
  one_place
  rename Fr _ _ _ _ => F5
  rename News _ _ _ _ => N5
  refine Stop.out (addMod (q := q) F5.keep KS TS (hx'.mono (grow_is F5.keep)) (hr'.mono (grow_is F5.keep)) hq (by ktr_room) ?_)
  intro s' t' G' S'
  have F6 := F5.keeps G'
  have N6 := N5.grown G'
  one_place
  refine Stop.out (set_ints (by k_asm) (by k_asm) off4 ia (by decide) (by omega) (by decide) ?_)
  intro h7 F7 N7 i7
  one_place
  rename Fr _ _ _ _ => F8
  rename News _ _ _ _ => N8
  exact ret _ D F8.keep (((Same.put s _ _).trans S').trans (Same.put _ _ _)) ⟨_, _, fresh_led N8 List.mem_cons_self, i7⟩

theorem addInt {prog : Program} {w : World} {p : Program} {loose : List Str} {mg mb : Str → Option Value}
    {dp un : Nat} {fr : Option (List Env)} {gd : Option (List Code)} {h₀ : Heap} {s : Shared} {Q E : Value → Shared → Prop} {x r n : Nat} {q : Int} {la : List Int} {t0 : Tok}
    (hsub : Grow h₀ s.heap) (KX : (heapK w.params).In h₀) (T : TopRead p loose mg mb h₀)
    (hx : PolyOn w (HeapIs s.heap) x r la) (hr : RingOn w (HeapIs s.heap) r q n)
    (hq : 2 ≤ q) (hn : 1 ≤ n) (hn2 : n ≤ 4) (hla : la.length = n)
    (hd : dp + 10 < recursionLimit)
    (ret : ∀ s' z, Grow s.heap s'.heap → Same s s' → PolyOn w (Fresh s.heap s'.heap) z r (raddOf q la) → Q (.ref z) s') :
    wpAny (model prog w) (Ar dp fr gd un) (call (.ref 139) [.ref x, .int 0 t0]) Q E s := by
  have hx' := hx
  have hr' := hr
  obtain ⟨dx, ax, tpx, tcx, hx1, hx2, va, nx, hx3, ia⟩ := hx
  obtain ⟨dr, tq, tn, tqv, tnv, hr1, hr2⟩ := hr
  dsimp only [HeapIs] at hx1 hx2 hx3 hr1 hr2
  have KS := KX.keeps hsub
  have TS := T.keeps hsub
  refine wpAny_call ?_
  one_item
  one_place
  rename Fr _ _ _ _ => F2
  rename News _ _ _ _ => N2
  refine Stop.out (addIntRaw F2.keep KS TS (hx'.mono (grow_is F2.keep)) (hr'.mono (grow_is F2.keep)) hq hn hn2 hla (by ktr_room) ?_)
  intro s' l Gs Ss hl
  obtain ⟨vs', na', fl, hi'⟩ := hl
  obtain ⟨N3, O3⟩ := news_fresh F2 N2 Gs fl
  simp only [LCg.Off1, and_true] at O3
  have F3 := F2.keeps Gs
  have fl0 := fresh_sub fl F2.keep
  one_place
  rename Fr _ _ _ _ => F4
  rename News _ _ _ _ => N4
  refine Stop.out (ringList (c := raddOf q la) F4.keep KS TS (hr'.mono (grow_is F4.keep)) ⟨vs', na', (N4 _ List.mem_cons_self).1, hi'⟩ (by rw [raddOf_length, hla]) (by omega) (by ktr_room) ?_)
  intro s'' z dz tp tc G S f1 f2
  refine ret s'' z (Grow.trans F4.keep G) ((((Same.put s _ _).trans Ss).trans (Same.put _ _ _)).trans S) ⟨dz, l, tp, tc, fresh_sub f1 F4.keep, fresh_sub f2 F4.keep, vs', na', ⟨G _ _ (N4 _ List.mem_cons_self).1, fl0.2⟩, hi'⟩

theorem raddInt {prog : Program} {w : World} {p : Program} {loose : List Str} {mg mb : Str → Option Value}
    {dp un : Nat} {fr : Option (List Env)} {gd : Option (List Code)} {h₀ : Heap} {s : Shared} {Q E : Value → Shared → Prop} {x r n : Nat} {q : Int} {la : List Int} {t0 : Tok}
    (hsub : Grow h₀ s.heap) (KX : (heapK w.params).In h₀) (T : TopRead p loose mg mb h₀)
    (hx : PolyOn w (HeapIs s.heap) x r la) (hr : RingOn w (HeapIs s.heap) r q n)
    (hq : 2 ≤ q) (hn : 1 ≤ n) (hn2 : n ≤ 4) (hla : la.length = n)
    (hd : dp + 12 < recursionLimit)
    (ret : ∀ s' z, Grow s.heap s'.heap → Same s s' → PolyOn w (Fresh s.heap s'.heap) z r (raddOf q la) → Q (.ref z) s') :
    wpAny (model prog w) (Ar dp fr gd un) (call (.ref 146) [.ref x, .int 0 t0]) Q E s := by
  have hx' := hx
  have hr' := hr
  obtain ⟨dx, ax, tpx, tcx, hx1, hx2, va, nx, hx3, ia⟩ := hx
  obtain ⟨dr, tq, tn, tqv, tnv, hr1, hr2⟩ := hr
  dsimp only [HeapIs] at hx1 hx2 hx3 hr1 hr2
  have KS := KX.keeps hsub
  have TS := T.keeps hsub
  refine wpAny_call ?_
  one_item
  one_place
  rename Fr _ _ _ _ => F2
  refine Stop.out (addInt F2.keep KS TS (hx'.mono (grow_is F2.keep)) (hr'.mono (grow_is F2.keep)) hq hn hn2 hla (by ktr_room) ?_)
  intro s' z Gs Ss hz
  one_place
  exact ret s' z (Grow.trans F2.keep Gs) ((Same.put s _ _).trans Ss) (hz.mono fun a o f => fresh_sub f F2.keep)

-- mdefs
/-- a row of polynomials; rows of them -/
inductive CellsOn (w : World) (φ : Addr → Obj → Prop) (r : Addr) : List Value → List (List Int) → Prop where
  | nil : CellsOn w φ r [] []
  | cons {x : Addr} {c : List Int} {vs : List Value} {cs : List (List Int)} : PolyOn w φ x r c → CellsOn w φ r vs cs → CellsOn w φ r (.ref x :: vs) (c :: cs)
inductive LinesOn (w : World) (φ : Addr → Obj → Prop) (r : Addr) : List Value → List (List (List Int)) → Prop where
  | nil : LinesOn w φ r [] []
  | cons {a : Addr} {us : List Value} {na : Nat} {row : List (List Int)} {vs : List Value} {rows : List (List (List Int))} : φ a (listOf (List.toArray us) na) → CellsOn w φ r us row → LinesOn w φ r vs rows → LinesOn w φ r (.ref a :: vs) (row :: rows)
section
variable {w : World} {φ ψ : Addr → Obj → Prop} {r : Addr}
theorem CellsOn.mono (h : ∀ a o, φ a o → ψ a o) : ∀ {vs : List Value} {cs : List (List Int)}, CellsOn w φ r vs cs → CellsOn w ψ r vs cs
  | _, _, .nil => .nil
  | _, _, .cons a b => .cons (a.mono h) (b.mono h)
theorem LinesOn.mono (h : ∀ a o, φ a o → ψ a o) : ∀ {vs : List Value} {rows : List (List (List Int))}, LinesOn w φ r vs rows → LinesOn w ψ r vs rows
  | _, _, .nil => .nil
  | _, _, .cons a b c => .cons (h _ _ a) (b.mono h) (c.mono h)
theorem CellsOn.length : ∀ {vs : List Value} {cs : List (List Int)}, CellsOn w φ r vs cs → vs.length = cs.length
  | _, _, .nil => rfl
  | _, _, .cons _ b => by rw [List.length_cons, List.length_cons, b.length]
theorem LinesOn.length : ∀ {vs : List Value} {rows : List (List (List Int))}, LinesOn w φ r vs rows → vs.length = rows.length
  | _, _, .nil => rfl
  | _, _, .cons _ _ c => by rw [List.length_cons, List.length_cons, c.length]
theorem CellsOn.snoc {x : Addr} {c : List Int} (y : PolyOn w φ x r c) : ∀ {vs : List Value} {cs : List (List Int)}, CellsOn w φ r vs cs → CellsOn w φ r (vs ++ [.ref x]) (cs ++ [c])
  | _, _, .nil => .cons y .nil
  | _, _, .cons a b => .cons a (b.snoc y)
theorem LinesOn.snoc {a : Addr} {us : List Value} {na : Nat} {row : List (List Int)} (h1 : φ a (listOf (List.toArray us) na)) (h2 : CellsOn w φ r us row) : ∀ {vs : List Value} {rows : List (List (List Int))}, LinesOn w φ r vs rows → LinesOn w φ r (vs ++ [.ref a]) (rows ++ [row])
  | _, _, .nil => .cons h1 h2 .nil
  | _, _, .cons a b c => .cons a b (c.snoc h1 h2)
theorem CellsOn.get : ∀ {vs : List Value} {cs : List (List Int)}, CellsOn w φ r vs cs → ∀ {i : Nat} {v : Value}, vs[i]? = some v → ∃ x, v = .ref x ∧ PolyOn w φ x r (cs.getD i [])
  | _, _, .nil, i, v, e => by simp at e
  | _, _, .cons (x := x) a b, 0, v, e => ⟨x, by simpa using e.symm, a⟩
  | _, _, .cons a b, i + 1, v, e => by simpa using b.get (i := i) (by simpa using e)
theorem LinesOn.get : ∀ {vs : List Value} {rows : List (List (List Int))}, LinesOn w φ r vs rows → ∀ {i : Nat} {v : Value}, vs[i]? = some v → ∃ a us na, v = .ref a ∧ φ a (listOf (List.toArray us) na) ∧ CellsOn w φ r us (rows.getD i [])
  | _, _, .nil, i, v, e => by simp at e
  | _, _, .cons (a := a) (us := us) (na := na) h1 h2 c, 0, v, e => ⟨a, us, na, by simpa using e.symm, h1, h2⟩
  | _, _, .cons _ _ c, i + 1, v, e => by simpa using c.get (i := i) (by simpa using e)
theorem CellsOn.at {vs : List Value} {cs : List (List Int)} (h : CellsOn w φ r vs cs) {i : Nat} (hi : i < cs.length) : ∃ x, vs[i]? = some (.ref x) ∧ PolyOn w φ x r (cs.getD i []) := by
  have e : vs[i]? = some (vs[i]'(by rw [h.length]; exact hi)) := List.getElem?_eq_getElem _
  obtain ⟨x, e2, hx⟩ := h.get e
  exact ⟨x, by rw [e, e2], hx⟩
theorem LinesOn.at {vs : List Value} {rows : List (List (List Int))} (h : LinesOn w φ r vs rows) {i : Nat} (hi : i < rows.length) : ∃ a us na, vs[i]? = some (.ref a) ∧ φ a (listOf (List.toArray us) na) ∧ CellsOn w φ r us (rows.getD i []) := by
  have e : vs[i]? = some (vs[i]'(by rw [h.length]; exact hi)) := List.getElem?_eq_getElem _
  obtain ⟨a, us, na, e2, h1, h2⟩ := h.get e
  exact ⟨a, us, na, by rw [e, e2], h1, h2⟩
end
def GridOn (w : World) (φ : Addr → Obj → Prop) (D r : Addr) (rows : List (List (List Int))) : Prop := ∃ vs na, φ D (listOf (List.toArray vs) na) ∧ LinesOn w φ r vs rows
theorem GridOn.mono {w : World} {φ ψ : Addr → Obj → Prop} {D r : Addr} {rows : List (List (List Int))} (h : ∀ a o, φ a o → ψ a o) (x : GridOn w φ D r rows) : GridOn w ψ D r rows := let ⟨vs, na, a, b⟩ := x; ⟨vs, na, h _ _ a, b.mono h⟩
def ModOn (w : World) (φ : Addr → Obj → Prop) (md r : Addr) : Prop := ∃ dm tr, φ md (instObj 377 dm) ∧ φ dm (dictOf [⟨PyData.keyHash w.params "ring", .str "ring" tr, .ref r⟩] 1)
theorem ModOn.mono {w : World} {φ ψ : Addr → Obj → Prop} {md r : Addr} (h : ∀ a o, φ a o → ψ a o) (x : ModOn w φ md r) : ModOn w ψ md r := let ⟨dm, tr, a, b⟩ := x; ⟨dm, tr, h _ _ a, h _ _ b⟩
/-- a matrix: its module, its rows as they are stored, whether they are read crosswise -/
def MatOn (w : World) (φ : Addr → Obj → Prop) (M md r : Addr) (tr : Bool) (rows : List (List (List Int))) : Prop :=
  ∃ dM D tp td tt, φ M (instObj 333 dM) ∧ φ dM (dictOf [⟨PyData.keyHash w.params "parent", .str "parent" tp, .ref md⟩, ⟨PyData.keyHash w.params "_data", .str "_data" td, .ref D⟩, ⟨PyData.keyHash w.params "_transpose", .str "_transpose" tt, .bool tr⟩] 3) ∧ GridOn w φ D r rows
theorem MatOn.mono {w : World} {φ ψ : Addr → Obj → Prop} {M md r : Addr} {tr : Bool} {rows : List (List (List Int))} (h : ∀ a o, φ a o → ψ a o) (x : MatOn w φ M md r tr rows) : MatOn w ψ M md r tr rows :=
  let ⟨dM, D, tp, td, tt, a, b, c⟩ := x; ⟨dM, D, tp, td, tt, h _ _ a, h _ _ b, c.mono h⟩
/-- every row is as long as the first -/
def Even (rows : List (List (List Int))) (k : Nat) : Prop := ∀ row ∈ rows, row.length = k
theorem even_get {rows : List (List (List Int))} {k i : Nat} (h : Even rows k) (hi : i < rows.length) : (rows.getD i []).length = k := by
  rw [List.getD_eq_getElem?_getD, List.getElem?_eq_getElem hi]
  exact h _ (List.getElem_mem hi)
/-- a ledger: a code table that a generator turns, what stands still, what has been made -/
def TabLed (P : Addr) (B : List (Addr × Obj)) (φ : List (Addr × Obj) → Prop) (led : List (Addr × Obj)) : Prop := ∃ ps tl, led = (P, tabObj ps) :: (B ++ tl) ∧ TriplesOk (Array.toList ps) ∧ (∀ p ∈ B ++ tl, p.1 ≠ P) ∧ (∀ p ∈ tl, ∀ b ∈ B, p.1 ≠ b.1) ∧ φ tl
/-- a row is made: its ledger as the outer rows' own -/
theorem inner_up {g h : Heap} {L P : Addr} {B tl tl' : List (Addr × Obj)} {I C D R X : Addr × Obj} {o o' : Obj} (N : News g L h (X :: (P, o') :: ((I :: C :: D :: R :: (B ++ tl)) ++ tl'))) (o1 : ∀ p ∈ (P, o') :: ((I :: C :: D :: R :: (B ++ tl)) ++ tl'), p.1 ≠ X.1)
    (off : ∀ p ∈ (P, o) :: (B ++ tl), p.1 ≠ I.1 ∧ p.1 ≠ C.1 ∧ p.1 ≠ D.1 ∧ p.1 ≠ R.1) (hoP : ∀ p ∈ (I :: C :: D :: R :: (B ++ tl)) ++ tl', p.1 ≠ P) (ho : ∀ p ∈ tl', ∀ b ∈ I :: C :: D :: R :: (B ++ tl), p.1 ≠ b.1) (hoB : ∀ p ∈ tl, ∀ b ∈ B, p.1 ≠ b.1) :
    News g L h (I :: C :: D :: R :: ((P, o') :: (B ++ (X :: (tl' ++ tl))))) ∧ (∀ p ∈ (P, o') :: (B ++ (X :: (tl' ++ tl))), p.1 ≠ I.1 ∧ p.1 ≠ C.1 ∧ p.1 ≠ D.1 ∧ p.1 ≠ R.1) ∧ (∀ p ∈ B ++ (X :: (tl' ++ tl)), p.1 ≠ P) ∧ ∀ p ∈ X :: (tl' ++ tl), ∀ b ∈ B, p.1 ≠ b.1 := by
  have Q := fal (fat (fat N :) :)
  have q := fat (fat (fat (fat (fal hoP :) :) :) :)
  have hX : X.1 ≠ I.1 ∧ X.1 ≠ C.1 ∧ X.1 ≠ D.1 ∧ X.1 ≠ R.1 := have u := fal (fat o1 :); ⟨Ne.symm (fah u :), Ne.symm (fah (fat u :) :), Ne.symm (fah (fat (fat u :) :) :), Ne.symm (fah (fat (fat (fat u :) :) :) :)⟩
  have hp : ∀ p ∈ tl', p.1 ≠ I.1 ∧ p.1 ≠ C.1 ∧ p.1 ≠ D.1 ∧ p.1 ≠ R.1 := fun p h => have u := ho p h; ⟨(fah u :), (fah (fat u :) :), (fah (fat (fat u :) :) :), (fah (fat (fat (fat u :) :) :) :)⟩
  exact ⟨fa (fah Q :) (fa (fah (fat Q :) :) (fa (fah (fat (fat Q :) :) :) (fa (fah (fat (fat (fat Q :) :) :) :) (fa (fah (fat N :) :) (fap (fal (fat (fat (fat (fat Q :) :) :) :) :) (fa (fah N :) (fap (far (fat (fat N :) :) :) (far (fat (fat (fat (fat Q :) :) :) :) :)))))))),
    fa (fah off :) (fap (fal (fat off :) :) (fa hX (fap hp (far (fat off :) :)))),
    fap (fal q :) (fa (Ne.symm (fah o1 :)) (fap (far hoP :) (far q :))),
    fa (fun b hb => Ne.symm (fal (fat (fat (fat (fat (fal (fat o1 :) :) :) :) :) :) b hb :)) (fap (fun p h => fal (fat (fat (fat (fat (ho p h) :) :) :) :)) hoB)⟩
theorem cells_tl {w : World} {h h' : Heap} {r : Addr} : ∀ {us : List Value} {row : List (List Int)}, CellsOn w (Fresh h h') r us row → ∃ tl, (∀ p ∈ tl, Fresh h h' p.1 p.2) ∧ CellsOn w (InLed tl) r us row
  | _, _, .nil => ⟨[], fun _ h => (nomatch h), .nil⟩
  | _, _, .cons y c => by
    obtain ⟨t1, f1, y1⟩ := poly_tl y
    obtain ⟨t2, f2, c2⟩ := cells_tl c
    exact ⟨t1 ++ t2, fun p hp => (List.mem_append.mp hp).elim (f1 p) (f2 p), .cons (y1.mono fun _ _ h => List.mem_append_left _ h) (c2.mono fun _ _ h => List.mem_append_right _ h)⟩
theorem lines_tl {w : World} {h h' : Heap} {r : Addr} : ∀ {vs : List Value} {rows : List (List (List Int))}, LinesOn w (Fresh h h') r vs rows → ∃ tl, (∀ p ∈ tl, Fresh h h' p.1 p.2) ∧ LinesOn w (InLed tl) r vs rows
  | _, _, .nil => ⟨[], fun _ h => (nomatch h), .nil⟩
  | _, _, .cons (a := a) (us := us) (na := na) y c l => by
    obtain ⟨t1, f1, y1⟩ := cells_tl c
    obtain ⟨t2, f2, c2⟩ := lines_tl l
    refine ⟨(a, listOf us.toArray na) :: (t1 ++ t2), fun p hp => ?_, .cons List.mem_cons_self (y1.mono fun _ _ h => List.mem_cons_of_mem _ (List.mem_append_left _ h)) (c2.mono fun _ _ h => List.mem_cons_of_mem _ (List.mem_append_right _ h))⟩
    rcases List.mem_cons.mp hp with rfl | hp
    · exact y
    · exact (List.mem_append.mp hp).elim (f1 p) (f2 p)
theorem mat_tl {w : World} {h h' : Heap} {M md r : Addr} {tr : Bool} {rows : List (List (List Int))} (y : MatOn w (Fresh h h') M md r tr rows) : ∃ tl, (∀ p ∈ tl, Fresh h h' p.1 p.2) ∧ MatOn w (InLed tl) M md r tr rows := by
  obtain ⟨dM, D, tp, td, tt, a, b, vs, na, c, l⟩ := y
  obtain ⟨t, f, l'⟩ := lines_tl l
  refine ⟨(M, _) :: (dM, _) :: (D, _) :: t, fun p hp => ?_, dM, D, tp, td, tt, List.mem_cons_self, List.mem_cons_of_mem _ List.mem_cons_self, vs, na, List.mem_cons_of_mem _ (List.mem_cons_of_mem _ List.mem_cons_self), l'.mono fun _ _ h => List.mem_cons_of_mem _ (List.mem_cons_of_mem _ (List.mem_cons_of_mem _ h))⟩
  rcases List.mem_cons.mp hp with rfl | hp
  · exact a
  rcases List.mem_cons.mp hp with rfl | hp
  · exact b
  rcases List.mem_cons.mp hp with rfl | hp
  · exact c
  · exact f p hp

-- mcheck
section
variable {prog : Program} {w : World} {A : Around} {E : Value → Shared → Prop} {s : Shared} {l : Addr} {vs : List Value} {na : Nat} {k : Int} {u : Tok} {v : Value} {Q : Value → Shared → Prop} {value slice : PySem.Expr}
theorem sub_at (hl : HeapIs s.heap l (listOf vs.toArray na)) (h0 : 0 ≤ k) (hfit : k < 2 ^ 63) (hx : vs[k.toNat]? = some v) (h : Q v s)
    (hs : subscripted slice false (.ref l) (.int k u) = operate [.ref l, .int k u] (getItem (.ref l) (.int k u)) := by with_unfolding_all rfl) :
    wpAny (model prog w) A (subscriptTail value slice (.ref l) (.int k u)) Q E s :=
  have hL : s.heap.IsList l vs.toArray := ⟨_, hl, rfl, na, rfl⟩
  tail_any hL.typeIs slot_list_getitem.lookup (wpAny_getItem_list hL h0 hfit (by simpa using hx) h) hs
end
theorem matCheck {prog : Program} {w : World} {p : Program} {loose : List Str} {mg mb : Str → Option Value}
    {dp un : Nat} {fr : Option (List Env)} {gd : Option (List Code)} {h₀ : Heap} {s : Shared} {Q E : Value → Shared → Prop} {M D r k : Nat} {dM : Nat} {tp td tt : Tok} {md : Nat} {tr : Bool} {rows : List (List (List Int))}
    (hsub : Grow h₀ s.heap) (KX : (heapK w.params).In h₀) (T : TopRead p loose mg mb h₀)
    (hM1 : HeapIs s.heap M (instObj 333 dM)) (hM2 : HeapIs s.heap dM (dictOf [⟨PyData.keyHash w.params "parent", .str "parent" tp, .ref md⟩, ⟨PyData.keyHash w.params "_data", .str "_data" td, .ref D⟩, ⟨PyData.keyHash w.params "_transpose", .str "_transpose" tt, .bool tr⟩] 3))
    (hg : GridOn w (HeapIs s.heap) D r rows) (he : Even rows k) (hk : k ≤ 1000) (hn : 1 ≤ rows.length) (hn2 : rows.length ≤ 1000)
    (hd : dp + 1 < recursionLimit)
    (ret : ∀ s', Grow s.heap s'.heap → Same s s' → Q (.bool true) s') :
    wpAny (model prog w) (Ar dp fr gd un) (call (.ref 255) [.ref M]) Q E s := by
  obtain ⟨vs, na, hD, hl⟩ := hg
  obtain ⟨a0, us0, n0, e0, ha0, hus0⟩ := hl.at (i := 0) (by omega)
  dsimp only [HeapIs] at hM1 hM2 hD ha0
  have hlu0 : us0.length = k := by rw [hus0.length]; exact even_get he (by omega)
  refine wpAny_call ?_
  one_item
  one_place
  refine Stop.out ?_
  with_unfolding_all refine wpAny_For ?_
  one_place
  refine Stop.out ?_
  rename Fr _ _ _ _ => F2
  k_dflt (refine' for_list (σ := Unit) (its := vs) (fun _ => []) (fun _ => []) [] (fun _ _ => True) () ?hh ?hl ?hx ?hp ?hF ?hN (fun _ h => nomatch h) trivial ?_ ?_)
  case hh => rfl
  case hl => exact hD
  case hx => rfl
  case hp => rfl
  case hF => k_asm
  case hN => k_asm
  · rintro i ⟨⟩ v u s₁ I oI hi hv - S2 F2 N2 O2
    dsimp only [kstB] at F2 N2
    obtain ⟨a, us, nu, rfl, ha, hus⟩ := hl.get hv
    dsimp only [HeapIs] at ha
    have hlu : us.length = k := by rw [hus.length]; exact even_get he (by rw [← hl.length]; exact hi)
    one_place
    rename Fr _ _ _ _ => F3
    refine sub_at (F3.keep _ _ hD) (by decide) (by decide) e0 ?_
    one_place
    · rename (k : Int) ≠ (k : Int) => hne
      exact absurd rfl hne
    rename Fr _ _ _ _ => F4
    rename News _ _ _ _ => N4
    refine Stop.out (TurnG.mk () (Same.put _ _ _) F4 N4 (fun _ h => nomatch h) (fun _ h => nomatch h) (by (intro z h1 h2 h3; (try dsimp only at h2); (simp only [List.contains_cons, List.contains_nil, Bool.or_false, Bool.or_eq_false_iff, beq_eq_false_iff_ne, ne_eq] at h3); (try simp only [List.forall_mem_cons, List.not_mem_nil, false_implies, implies_true, and_true, ne_eq] at h2); first | rfl | (simp [h1, h2, h3]; done) | (simp [h1, h3]; done) | (simp [h1, h2]; done) | (simp [h1]; done))) trivial)
  · rintro ⟨⟩ u s₁ - S2 F2 N2
    dsimp only [kstB] at F2 N2
    have GK : Grow s.heap s₁.heap := F2.keep
    one_place
    exact ret _ F2.keep (((Same.put s _ _).trans S2).trans (Same.put _ _ _))

theorem matNew {prog : Program} {w : World} {p : Program} {loose : List Str} {mg mb : Str → Option Value}
    {dp un : Nat} {fr : Option (List Env)} {gd : Option (List Code)} {h₀ : Heap} {s : Shared} {Q E : Value → Shared → Prop} {D r md k : Nat} {tr : Bool} {rows : List (List (List Int))}
    (hsub : Grow h₀ s.heap) (KX : (heapK w.params).In h₀) (T : TopRead p loose mg mb h₀)
    (hg : GridOn w (HeapIs s.heap) D r rows) (he : Even rows k) (hk : k ≤ 1000) (hn : 1 ≤ rows.length) (hn2 : rows.length ≤ 1000)
    (hd : dp + 4 < recursionLimit)
    (ret : ∀ s' M dM tp td tt, Grow s.heap s'.heap → Same s s' → Fresh s.heap s'.heap M (instObj 333 dM) → Fresh s.heap s'.heap dM (dictOf [⟨PyData.keyHash w.params "parent", .str "parent" tp, .ref md⟩, ⟨PyData.keyHash w.params "_data", .str "_data" td, .ref D⟩, ⟨PyData.keyHash w.params "_transpose", .str "_transpose" tt, .bool tr⟩] 3) → Q (.ref M) s') :
    wpAny (model prog w) (Ar dp fr gd un) (call (.ref 333) [.ref md, .ref D] [(Str.ofString "transpose", .bool tr)]) Q E s := by
  have KS := KX.keeps hsub
  k_dflt (refine' wpAny_call (newK ?kn1 ?kn2 ?kn3 ?kn4 ?_); (case kn1 => exact KS); (case kn2 => k_is); (case kn3 => k_is); (case kn4 => k_is))
  intro M dM h' G hM hdM hne
  have hne2 : @Ne Nat dM M := hne
  have hsub' : Grow h₀ h' := hsub.trans G
  have KS' := KX.keeps hsub'
  have hh0 : ∀ b o, Fresh s.heap h' b o → h₀.get? b = none := fun b o f => by
    cases e : h₀.get? b with
    | none => rfl
    | some o' => have := hsub _ _ e; rw [f.2] at this; cases this
  k_dflt (refine' enterH [(M, instObj 333 dM), (dM, dictOf [] 0)] ?k1 ?k3 ?k5 (fun p hp => ?_) ?k6 ?k7 ?k8 ?k9 ?kB ?_ ?c2 ?c3 ?c4 ?c5)
  tb_start
  · rcases List.mem_cons.mp hp with rfl | hp
    · exact ⟨hM.1, hh0 _ _ hM⟩
    · rw [List.mem_singleton.mp hp]; exact ⟨hdM.1, hh0 _ _ hdM⟩
  intro g L' h₁ G1 G2 G3 G4 G5 KG TG F N
  (try dsimp only [List.map_cons, List.map_nil] at G3)
  have up : ∀ a o, HeapIs s.heap a o → HeapIs g a o := fun a o e => G3 a o (G a o e) fun hm => by
    rcases List.mem_cons.mp hm with e' | hm
    · have e3 : a = M := e'
      have e2 := hM.2; rw [← e3, e] at e2; cases e2
    · have e3 : a = dM := List.mem_singleton.mp hm
      have e2 := hdM.2; rw [← e3, e] at e2; cases e2
  one_place
  rename Fr _ _ _ _ => F2
  rename News _ _ _ _ => N2
  refine Stop.out (matCheck F2.keep KG TG (N2.get (by k_mem)) (N2.get (by k_mem)) (hg.mono fun a o e => F2.keep _ _ (up _ _ e)) he hk hn hn2 (by ktr_room) ?_)
  intro s' Gs Ss
  have F3 := F2.keeps Gs
  have N3 := N2.grown Gs
  obtain ⟨vs, na, hD, hl⟩ := hg
  one_place
  rename Fr _ _ _ _ => F4
  rename News _ _ _ _ => N4
  exact ⟨rfl, ret _ M dM _ _ _ (fun a o e => F4.keep a o (up a o e)) (((Same.put s _ _).trans Ss).trans (Same.put _ _ _)) ⟨(N4 _ List.mem_cons_self).1, hM.2⟩ ⟨(N4 _ (List.mem_cons_of_mem _ List.mem_cons_self)).1, hdM.2⟩⟩

-- mnew
theorem matrixOf {prog : Program} {w : World} {p : Program} {loose : List Str} {mg mb : Str → Option Value}
    {dp un : Nat} {fr : Option (List Env)} {gd : Option (List Code)} {h₀ : Heap} {s : Shared} {Q E : Value → Shared → Prop} {D r md k : Nat} {tr : Bool} {rows : List (List (List Int))}
    (hsub : Grow h₀ s.heap) (KX : (heapK w.params).In h₀) (T : TopRead p loose mg mb h₀)
    (hm : ModOn w (HeapIs s.heap) md r) (hg : GridOn w (HeapIs s.heap) D r rows) (he : Even rows k) (hk : k ≤ 1000) (hn : 1 ≤ rows.length) (hn2 : rows.length ≤ 1000)
    (hd : dp + 6 < recursionLimit)
    (ret : ∀ s' M dM tp td tt, Grow s.heap s'.heap → Same s s' → Fresh s.heap s'.heap M (instObj 333 dM) → Fresh s.heap s'.heap dM (dictOf [⟨PyData.keyHash w.params "parent", .str "parent" tp, .ref md⟩, ⟨PyData.keyHash w.params "_data", .str "_data" td, .ref D⟩, ⟨PyData.keyHash w.params "_transpose", .str "_transpose" tt, .bool tr⟩] 3) → Q (.ref M) s') :
    wpAny (model prog w) (Ar dp fr gd un) (call (.ref 359) [.ref md, .ref D] [(Str.ofString "transpose", .bool tr)]) Q E s := by
  obtain ⟨dm, trg, hm1, hm2⟩ := id hm
  dsimp only [HeapIs] at hm1 hm2
  have KS := KX.keeps hsub
  have TS := T.keeps hsub
  refine wpAny_call ?_
  one_item
  one_place
  rename Fr _ _ _ _ => F2
  refine Stop.out ?_
  change wpAny _ _ (call (.ref 333) [.ref md, .ref D] [(Str.ofString "transpose", .bool tr)]) _ _ _
  refine matNew F2.keep KS TS (hg.mono (grow_is F2.keep)) he hk hn hn2 (by ktr_room) ?_
  intro s' M dM tp td tt G S f1 f2
  exact ret s' M dM tp td tt (Grow.trans F2.keep G) ((Same.put s _ _).trans S) (fresh_sub f1 F2.keep) (fresh_sub f2 F2.keep)

-- mcall
theorem modCall {prog : Program} {w : World} {p : Program} {loose : List Str} {mg mb : Str → Option Value}
    {dp un : Nat} {fr : Option (List Env)} {gd : Option (List Code)} {h₀ : Heap} {s : Shared} {Q E : Value → Shared → Prop} {D r md k : Nat} {tr : Bool} {rows : List (List (List Int))} {pos : List Value} {kw : List (Str × Value)} {ps : Array Value} {mgB : Str → Option Value} {bm : Addr} {ob : Obj}
    (hsub : Grow h₀ s.heap) (KX : (heapK w.params).In h₀) (T : TopRead p loose mg mb h₀) (MB : BMod h₀ mainGlobals mgB bm ob)
    (hm : ModOn w (HeapIs h₀) md r) (hg : GridOn w (HeapIs h₀) D r rows) (he : Even rows k) (hk : k ≤ 1000) (hn : 1 ≤ rows.length) (hn2 : rows.length ≤ 1000)
    (hP : s.heap.get? 362 = some (tabObj ps)) (hP0 : h₀.get? 362 = none) (htr : TriplesOk ps.toList)
    (hb : ∀ fd oc od osl, (heapK w.params).lookup 367 = some ⟨oc, od, .func fd, osl⟩ → BindsTo s fd ⟨.ref md :: pos, kw⟩ [(Str.ofString "self", .ref md), (Str.ofString "matrix_elements", .ref D), (Str.ofString "transpose", .bool tr)])
    (hd : dp + 8 < recursionLimit)
    (ret : ∀ s' M dM tp td tt ps', (∀ b o, b ≠ 362 → s.heap.get? b = some o → s'.heap.get? b = some o) → s'.heap.get? 362 = some (tabObj ps') → TriplesOk ps'.toList → Same s s' → Fresh s.heap s'.heap M (instObj 333 dM) → Fresh s.heap s'.heap dM (dictOf [⟨PyData.keyHash w.params "parent", .str "parent" tp, .ref md⟩, ⟨PyData.keyHash w.params "_data", .str "_data" td, .ref D⟩, ⟨PyData.keyHash w.params "_transpose", .str "_transpose" tt, .bool tr⟩] 3) → Q (.ref M) s') :
    wpAny (model prog w) (Ar dp fr gd un) (call (.ref md) pos kw) Q E s := by
  obtain ⟨dm', trg', hm1, hm2⟩ := id hm
  obtain ⟨vs, na, hD, hl⟩ := id hg
  obtain ⟨a0, us0, n0, e0, ha0, hus0⟩ := hl.at (i := 0) (by omega)
  dsimp only [HeapIs] at hm1 hm2 hD ha0
  have KS := KX.keeps hsub
  refine wpAny_call ?_
  k_dflt (refine' kco_code ?k1 (instAt_is (hsub _ _ hm1) (hsub _ _ hm2)) rfl ?k4 ?k5 ?k6 ?_; (case k1 => exact KS); (case k4 => k_is); (case k5 => k_is); (case k6 => k_is); (try dsimp only))
  k_dflt (refine' enterH [(362, tabObj ps)] ?k1 ?k3 ?k5 (fun p hp => ?_) ?k6 ?k7 ?k8 ?k9 ?kB ?_ ?c2 ?c3 ?c4 ?c5)
  case k1 => k_asm
  case k3 => k_asm
  case k5 => k_asm
  case k6 => k_is
  case k7 => k_is
  case k8 => ktr_room
  case k9 => exact hb _ _ _ _ (by k_is)
  case c5 => decide
  case kB => exact locs rfl
  case c2 => exact rfl
  case c3 => exact rfl
  case c4 => exact rfl
  · rw [List.mem_singleton.mp hp]; exact ⟨hP, hP0⟩
  intro g L' h₁ G1 G2 G3 G4 G5 KG TG F N
  have gg := hg.mono (grow_is G1)
  have gm := hm.mono (grow_is G1)
  have gD := G1 _ _ hD
  have gl := hl.mono (grow_is G1)
  have ga0 := G1 _ _ ha0
  have MG := MB.keeps G1
  have CG : CodeHd g 366 362 := codeHd_of_K KG (by kernel_rfl)
  obtain ⟨dm, trg, gm1, gm2⟩ := id gm
  dsimp only [HeapIs] at gm1 gm2
  have upg : ∀ b o, b ≠ 362 → s.heap.get? b = some o → g.get? b = some o := fun b o hb e => G3 b o e fun hm => hb (List.mem_singleton.mp hm)
  clear hm hg hl hD ha0 G2 G3 G4 G5
  one_place
  refine sub_at (F.keep _ _ gD) (by decide) (by decide) e0 ?_
  one_place
  refine Stop.out ?_
  with_unfolding_all refine wpAny_For ?_
  one_place
  refine Stop.out ?_
  rename Fr _ _ _ _ => F2
  rename News _ _ _ _ => N2
  k_dflt (refine' for_list (σ := Array Value) (its := vs) (fun c => [(362, tabObj c)]) (fun _ => []) [] (fun _ c => TriplesOk c.toList) ps ?hh ?hl ?hx ?hp ?hF ?hN (fun _ h => nomatch h) htr ?_ ?_)
  case hh => rfl
  case hl => exact gD
  case hx => rfl
  case hp => rfl
  case hF => k_asm
  case hN => k_asm
  · intro i c v u s₁ I oI hi hv hc S2 F3 N3 O3
    dsimp only [kstB] at F3 N3 O3
    obtain ⟨a, us, nu, rfl, ha, hus⟩ := gl.get hv
    dsimp only [HeapIs] at ha
    one_place
    refine Stop.out ?_
    k_dflt (refine eval_Gen_G (by k_asm) MG CG TG.nolimit rfl rfl rfl (by with_unfolding_all rfl) (by decide) (by rfl) (by rfl) (by rfl) (by ktr_room) ?_ (fun _ => by rfl))
    one_place
    rename Fr _ _ _ _ => F4
    rename News _ _ _ _ => N4
    refine ⟨c, [(I, oI)], us.length, _, (fun i v => v = .bool true), rfl, F4, news_swap N4, fun p hp => ?_, hc, .inr ⟨a, us.toArray, rfl, List.size_toArray, rfl, isList_base F4 ha⟩, ?_, ?_⟩
    · rw [List.mem_singleton.mp hp]; exact Ne.symm (O3 _ List.mem_cons_self)
    · intro A' E' j v t C m₂ code hA hdp hun hj hPj Ft hxv Nt
      obtain ⟨x, rfl, dx, ax, tp', tc', hx1, hx2, hx3⟩ := hus.get (i := j) (v := v) (by simpa using hPj)
      dsimp only [HeapIs] at hx1 hx2
      (try clear F4)
      (try clear N4)
      (try clear F3)
      (try clear N3)
      (try clear F2)
      (try clear N2)
      (try clear hPj)
      one_place
      all_goals first | exact rfl | exact ⟨_, _, rfl, fun _ _ e => e⟩
    · intro a5 s₅ ps' X5 S5 F5 N5 t5
      one_place
      refine all_G (fun _ => true) X5 F5 N5 (fun j v h => h) ?_
      intro s₆ S6 F6 N6
      rw [show (List.range us.length).all (fun _ => true) = true from by simp]
      one_place
      refine Stop.out (TurnG.mk ps' ((Same.put _ _ _).trans S6) F6 (fun p hp => ?_) (fun p hp => ?_) (fun _ h => nomatch h) (by (intro z h1 h2 h3; (try dsimp only at h2); (simp only [List.contains_cons, List.contains_nil, Bool.or_false, Bool.or_eq_false_iff, beq_eq_false_iff_ne, ne_eq] at h3); (try simp only [List.forall_mem_cons, List.not_mem_nil, false_implies, implies_true, and_true, ne_eq] at h2); first | rfl | (simp [h1, h2, h3]; done) | (simp [h1, h3]; done) | (simp [h1, h2]; done) | (simp [h1]; done))) t5)
      · rcases List.mem_cons.mp hp with rfl | hp
        · exact N6 _ (List.mem_cons_of_mem _ List.mem_cons_self)
        · rw [List.mem_singleton.mp hp]; exact N6 _ List.mem_cons_self
      · rw [List.mem_singleton.mp hp]; exact O3 (362, tabObj c) List.mem_cons_self
  · intro c u s₁ hc S2 F3 N3
    dsimp only [kstB] at F3 N3
    one_place
    rename Fr _ _ _ _ => F4
    rename News _ _ _ _ => N4
    refine Stop.out ?_
    change wpAny _ _ (call (.ref 359) [.ref md, .ref D] [(Str.ofString "transpose", .bool tr)]) _ _ _
    refine matrixOf F4.keep KG TG (gm.mono (grow_is F4.keep)) (gg.mono (grow_is F4.keep)) he hk hn hn2 (by ktr_room) ?_
    intro s' M dM tp td tt G S f1 f2
    one_place
    have hP4 : _ = some (tabObj c) := (N4 _ List.mem_cons_self).1
    have nv : NoVan s.heap _ := noVan_but (wr := [362]) (fun b o hb e => F4.keep b o (upg b o (fun q => hb (by rw [q]; exact List.mem_singleton.mpr rfl)) e)) fun b hb => by rw [List.mem_singleton.mp hb]; exact ⟨_, hP4⟩
    exact ret s' M dM tp td tt c (fun b o hb e => G b o (F4.keep b o (upg b o hb e))) (G _ _ hP4) hc (((Same.put s _ _).trans S2).trans ((Same.put _ _ _).trans S)) ⟨f1.1, nv _ f1.2⟩ ⟨f2.1, nv _ f2.2⟩

-- mget
/-- the part at (i, j) as it is read -/
def partOf (tr : Bool) (rows : List (List (List Int))) (i j : Nat) : List Int := if tr then (rows.getD j []).getD i [] else (rows.getD i []).getD j []
def dimOf (tr : Bool) (rows : List (List (List Int))) : Nat × Nat := if tr then ((rows.getD 0 []).length, rows.length) else (rows.length, (rows.getD 0 []).length)
theorem matDim {prog : Program} {w : World} {p : Program} {loose : List Str} {mg mb : Str → Option Value}
    {dp un : Nat} {fr : Option (List Env)} {gd : Option (List Code)} {h₀ : Heap} {s : Shared} {Q E : Value → Shared → Prop} {M md r : Nat} {tr : Bool} {rows : List (List (List Int))}
    (hsub : Grow h₀ s.heap) (KX : (heapK w.params).In h₀) (T : TopRead p loose mg mb h₀)
    (hm : MatOn w (HeapIs s.heap) M md r tr rows) (hn : 1 ≤ rows.length) (hn2 : rows.length ≤ 1000) (hk2 : (rows.getD 0 []).length ≤ 1000)
    (hd : dp + 2 < recursionLimit)
    (ret : ∀ s' z t1 t2, Grow s.heap s'.heap → Same s s' → Fresh s.heap s'.heap z { cls := .type "tuple", data := .seq #[.int ((dimOf tr rows).1 : Int) t1, .int ((dimOf tr rows).2 : Int) t2] } → Q (.ref z) s') :
    wpAny (model prog w) (Ar dp fr gd un) (call (.ref 248) [.ref M]) Q E s := by
  obtain ⟨dM, D, tp, td, tt, hM1, hM2, vs, na, hD, hl⟩ := hm
  obtain ⟨a0, us0, n0, e0, ha0, hus0⟩ := hl.at (i := 0) (by omega)
  dsimp only [HeapIs] at hM1 hM2 hD ha0
  have hlv := hl.length
  have hlu := hus0.length
  refine wpAny_call ?_
  cases tr with
  | false =>
    one_item
    one_place
    rename Fr _ _ _ _ => F3
    refine sub_at (F3.keep _ _ hD) (by decide) (by decide) e0 ?_
    one_place
    rename Fr _ _ _ _ => F4
    rename News _ _ _ _ => N4
    exact ret _ _ _ _ F4.keep (Same.put _ _ _) (fresh_led N4 List.mem_cons_self)
  | true =>
    one_item
    one_place
    rename Fr _ _ _ _ => F3
    refine sub_at (F3.keep _ _ hD) (by decide) (by decide) e0 ?_
    one_place
    rename Fr _ _ _ _ => F4
    rename News _ _ _ _ => N4
    exact ret _ _ _ _ F4.keep (Same.put _ _ _) (fresh_led N4 List.mem_cons_self)
theorem matGet {prog : Program} {w : World} {p : Program} {loose : List Str} {mg mb : Str → Option Value}
    {dp un : Nat} {fr : Option (List Env)} {gd : Option (List Code)} {h₀ : Heap} {s : Shared} {Q E : Value → Shared → Prop} {φ : Addr → Obj → Prop} {M md r z i j : Nat} {ti tj : Tok} {tr : Bool} {rows : List (List (List Int))}
    (hsub : Grow h₀ s.heap) (KX : (heapK w.params).In h₀) (T : TopRead p loose mg mb h₀)
    (hm : MatOn w φ M md r tr rows) (hφ : ∀ a o, φ a o → s.heap.get? a = some o) (hz : HeapIs s.heap z { cls := .type "tuple", data := .seq #[.int (i : Int) ti, .int (j : Int) tj] })
    (hi : (if tr then j else i) < rows.length) (hj : (if tr then i else j) < (rows.getD (if tr then j else i) []).length) (hn2 : i ≤ 1000) (hk2 : j ≤ 1000)
    (hd : dp + 2 < recursionLimit)
    (ret : ∀ s' x, Grow s.heap s'.heap → Same s s' → PolyOn w φ x r (partOf tr rows i j) → Q (.ref x) s') :
    wpAny (model prog w) (Ar dp fr gd un) (call (.ref 284) [.ref M, .ref z]) Q E s := by
  obtain ⟨dM, D, tp, td, tt, hM1, hM2, vs, na, hD, hl⟩ := hm
  dsimp only [HeapIs] at hz
  replace hM1 := hφ _ _ hM1
  replace hM2 := hφ _ _ hM2
  replace hD := hφ _ _ hD
  refine wpAny_call ?_
  one_item
  one_place
  rename Fr _ _ _ _ => F3
  have hT : IsTup _ z _ := ⟨_, F3.keep _ _ hz, rfl, _, rfl⟩
  k_dflt (refine kia_one kitx_tuple (by k_in) ⟨_, F3.keep _ _ hz, rfl⟩ (by kit_is) (by kit_nb) ?_)
  intro _
  one_place
  refine Stop.out (PyProof.Rows.eq_int ?_)
  one_place
  · obtain rfl : tr = true := by assumption
    simp only [if_true] at hi hj
    obtain ⟨a, us, nu, e0, ha, hus⟩ := hl.at hi
    obtain ⟨x, e1, hx⟩ := hus.at hj
    rename Fr _ _ _ _ => F4
    refine sub_at (F4.keep _ _ hD) (by omega) (by omega) (by rw [Int.toNat_natCast]; exact e0) ?_
    one_place
    rename Fr _ _ _ _ => F5
    refine sub_at (F5.keep _ _ (hφ _ _ ha)) (by omega) (by omega) (by rw [Int.toNat_natCast]; exact e1) ?_
    one_place
    rename Fr _ _ _ _ => F6
    exact ret _ _ F6.keep (Same.put _ _ _) hx
  · obtain rfl : tr = false := by first | assumption | simpa using ‹¬ (tr = true)›
    simp only [Bool.false_eq_true, if_false] at hi hj
    obtain ⟨a, us, nu, e0, ha, hus⟩ := hl.at hi
    obtain ⟨x, e1, hx⟩ := hus.at hj
    rename Fr _ _ _ _ => F4
    refine sub_at (F4.keep _ _ hD) (by omega) (by omega) (by rw [Int.toNat_natCast]; exact e0) ?_
    one_place
    rename Fr _ _ _ _ => F5
    refine sub_at (F5.keep _ _ (hφ _ _ ha)) (by omega) (by omega) (by rw [Int.toNat_natCast]; exact e1) ?_
    one_place
    rename Fr _ _ _ _ => F6
    exact ret _ _ F6.keep (Same.put _ _ _) hx


-- mtrans
theorem matTrans {prog : Program} {w : World} {p : Program} {loose : List Str} {mg mb : Str → Option Value}
    {dp un : Nat} {fr : Option (List Env)} {gd : Option (List Code)} {h₀ : Heap} {s : Shared} {Q E : Value → Shared → Prop} {R : Result → Shared → Prop} {φ : Addr → Obj → Prop} {M md r k : Nat} {tr : Bool} {rows : List (List (List Int))} {ps : Array Value} {mgB : Str → Option Value} {bm : Addr} {ob : Obj}
    (hsub : Grow h₀ s.heap) (KX : (heapK w.params).In h₀) (T : TopRead p loose mg mb h₀) (MB : BMod h₀ mainGlobals mgB bm ob)
    (hm : ModOn w (HeapIs h₀) md r) (hφ : ∀ a o, φ a o → HeapIs h₀ a o) (hM : MatOn w φ M md r tr rows) (he : Even rows k) (hk : k ≤ 1000) (hn : 1 ≤ rows.length) (hn2 : rows.length ≤ 1000)
    (hP : s.heap.get? 362 = some (tabObj ps)) (hP0 : h₀.get? 362 = none) (htr : TriplesOk ps.toList)
    (hd : dp + 10 < recursionLimit)
    (ret : ∀ s' M' ps', (∀ b o, b ≠ 362 → s.heap.get? b = some o → s'.heap.get? b = some o) → s'.heap.get? 362 = some (tabObj ps') → TriplesOk ps'.toList → Same s s' → MatOn w (fun a o => φ a o ∨ Fresh s.heap s'.heap a o) M' md r (!tr) rows → R (.ok (.ret (.ref M'))) s') :
    codeAny (model prog w) (Ar dp fr gd un) (.call (.ref 262) ⟨[.ref M], []⟩) R s := by
  obtain ⟨dM, D, tp, td, tt, hM1, hM2, hgD⟩ := id hM
  replace hM1 := hφ _ _ hM1
  replace hM2 := hφ _ _ hM2
  dsimp only [HeapIs] at hM1 hM2
  k_dflt (refine' enterH [(362, tabObj ps)] ?k1 ?k3 ?k5 (fun p hp => ?_) ?k6 ?k7 ?k8 ?k9 ?kB ?_ ?c2 ?c3 ?c4 ?c5)
  tb_start
  · rw [List.mem_singleton.mp hp]; exact ⟨hP, hP0⟩
  intro g L' h₁ G1 G2 G3 G4 G5 KG TG F N
  have MG := MB.keeps G1
  have upg : ∀ b o, b ≠ 362 → s.heap.get? b = some o → g.get? b = some o := fun b o hb e => G3 b o e fun hm => hb (List.mem_singleton.mp hm)
  obtain ⟨dm, trg, gm1, gm2⟩ := hm.mono (grow_is G1)
  dsimp only [HeapIs] at gm1 gm2
  have gM1 := G1 _ _ hM1
  have gM2 := G1 _ _ hM2
  clear G2 G3 G5
  one_place
  have KS1 := KG.keeps F.keep
  refine Stop.out (modCall (D := D) (tr := !tr) F.keep KG TG MG (hm.mono (grow_is G1)) (hgD.mono fun a o e => G1 a o (hφ a o e)) he hk hn hn2 (N _ List.mem_cons_self).1 (N _ List.mem_cons_self).2.2 htr ?_ (by ktr_room) ?_)
  · refine' binds_at ?e ?h
    case e => k_is
    case h => first | exact BindsTo.of_eq rfl | exact binds_K KS1 rfl (by k_is) rfl rfl rfl
  intro s' M' dM' tp' td' tt' ps' K' P' t' S' f1 f2
  one_place
  have nv : NoVan s.heap h₁ := noVan_but (wr := [362]) (fun b o hb e => F.keep b o (upg b o (fun q => hb (by rw [q]; exact List.mem_singleton.mpr rfl)) e)) fun b hb => by rw [List.mem_singleton.mp hb]; exact ⟨_, (N _ List.mem_cons_self).1⟩
  exact ret s' M' ps' (fun b o hb e => K' b o hb (F.keep b o (upg b o hb e))) P' t' ((Same.put s _ _).trans S') ⟨dM', D, tp', td', tt', .inr ⟨f1.1, nv _ f1.2⟩, .inr ⟨f2.1, nv _ f2.2⟩, hgD.mono fun a o e => .inl e⟩

theorem matT {prog : Program} {w : World} {p : Program} {loose : List Str} {mg mb : Str → Option Value}
    {dp un : Nat} {fr : Option (List Env)} {gd : Option (List Code)} {h₀ : Heap} {s : Shared} {Q E : Value → Shared → Prop} {expr : Bool} {φ : Addr → Obj → Prop} {g : Heap} {M md r k : Nat} {tr : Bool} {rows : List (List (List Int))} {ps : Array Value} {mgB : Str → Option Value} {bm : Addr} {ob : Obj}
    (hsub : Grow h₀ s.heap) (KX : (heapK w.params).In h₀) (T : TopRead p loose mg mb h₀) (MB : BMod h₀ mainGlobals mgB bm ob) {L : Addr} {m : Str → Option Value} (F : Fr g L s.heap m) (Kg : (heapK w.params).In g)
    (hm : ModOn w (HeapIs h₀) md r) (hφ : ∀ a o, φ a o → HeapIs h₀ a o) (hM : MatOn w φ M md r tr rows) (he : Even rows k) (hk : k ≤ 1000) (hn : 1 ≤ rows.length) (hn2 : rows.length ≤ 1000)
    (hP : s.heap.get? 362 = some (tabObj ps)) (hP0 : h₀.get? 362 = none) (htr : TriplesOk ps.toList)
    (hd : dp + 12 < recursionLimit)
    (ret : ∀ s' M' ps', (∀ b o, b ≠ 362 → s.heap.get? b = some o → s'.heap.get? b = some o) → s'.heap.get? 362 = some (tabObj ps') → TriplesOk ps'.toList → Same s s' → MatOn w (fun a o => φ a o ∨ Fresh s.heap s'.heap a o) M' md r (!tr) rows → Q (.ref M') s') :
    wpAny (model prog w) (Ar dp fr gd un) (getAttr (.ref M) (Str.ofString "T") expr) Q E s := by
  obtain ⟨dM, D, tp, td, tt, hM1, hM2, hgD⟩ := id hM
  replace hM1 := hφ _ _ hM1
  replace hM2 := hφ _ _ hM2
  dsimp only [HeapIs] at hM1 hM2
  k_dflt (refine' get_prop F Kg (instAt_is (hsub _ _ hM1) (hsub _ _ hM2)) ?h1 ?h2 ?h3 ?h4 ?h5 ?h6 ?_; (case h1 => k_is); (case h2 => k_is); (case h3 => k_is); (case h4 => k_is); (case h5 => k_is); (case h6 => k_is))
  refine matTrans (un := un + 1) (Q := Q) (E := E) hsub KX T MB hm hφ hM he hk hn hn2 hP hP0 htr (by ktr_room) ?_
  intro s' M' ps' K' P' t' S' y
  exact handed_on rfl (ret s' M' ps' K' P' t' ((Same.put s s.heap (s.toks + 1)).trans S') y)

-- acc
/-- the sum of f 0, .., f (i - 1) as the program makes it -/
def accOf (q : Int) (f : Nat → List Int) : Nat → List Int
  | 0 => []
  | 1 => raddOf q (f 0)
  | k + 2 => addOf q (accOf q f (k + 1)) (f (k + 1))
theorem accOf_length {q : Int} {f : Nat → List Int} {n i : Nat} (h : ∀ k, k < i → (f k).length = n) (hi : 0 < i) : (accOf q f i).length = n := by
  induction i with
  | zero => cases hi
  | succ i ih =>
    cases i with
    | zero => rw [accOf, raddOf_length, h 0 (by omega)]
    | succ i => rw [accOf, addOf_length]; exact ih (fun k hk => h k (by omega)) (by omega)
def PolyFt (w : World) (r : Addr) (f : Nat → List Int) : Facts := fun i v φ => ∃ z, v = .ref z ∧ PolyOn w φ z r (f i)
def PolyAcc (w : World) (r : Addr) (q : Int) (f : Nat → List Int) : Facts := fun i v φ => (i = 0 ∧ ∃ t, v = .int 0 t) ∨ (0 < i ∧ ∃ z, v = .ref z ∧ PolyOn w φ z r (accOf q f i))
theorem polyFt_ref {w : World} {r : Addr} {f : Nat → List Int} : ∀ i v φ, PolyFt w r f i v φ → ∃ z, v = .ref z := fun _ _ _ h => let ⟨z, e, _⟩ := h; ⟨z, e⟩
theorem polyFt_mono {w : World} {r : Addr} {f : Nat → List Int} : ∀ i v (φ ψ : Addr → Obj → Prop), (∀ a o, φ a o → ψ a o) → PolyFt w r f i v φ → PolyFt w r f i v ψ := fun _ _ _ _ k h => let ⟨z, e, y⟩ := h; ⟨z, e, y.mono k⟩
theorem polyAcc_ref {w : World} {r : Addr} {q : Int} {f : Nat → List Int} : ∀ i v φ, PolyAcc w r q f (i + 1) v φ → ∃ z, v = .ref z := fun i _ _ h => h.elim (fun h => absurd h.1 (Nat.succ_ne_zero i)) fun h => let ⟨_, z, e, _⟩ := h; ⟨z, e⟩
theorem polyAcc_mono {w : World} {r : Addr} {q : Int} {f : Nat → List Int} : ∀ i v (φ ψ : Addr → Obj → Prop), (∀ a o, φ a o → ψ a o) → PolyAcc w r q f i v φ → PolyAcc w r q f i v ψ := fun _ _ _ _ k h => h.imp id fun ⟨h0, z, e, y⟩ => ⟨h0, z, e, y.mono k⟩
theorem accStep {prog : Program} {w : World} {p : Program} {loose : List Str} {mg mb : Str → Option Value} {h₀ : Heap} {L : Addr} {m : Str → Option Value} {A : Around} {E : Value → Shared → Prop} {t : Shared} {r n i : Nat} {q : Int} {f : Nat → List Int} {acc v : Value}
    (hA : A.handled = none) (hd : A.depth + 14 < recursionLimit) (F : Fr h₀ L t.heap m) (KX : (heapK w.params).In h₀) (T : TopRead p loose mg mb h₀) (hr : RingOn w (HeapIs h₀) r q n)
    (hq : 2 ≤ q) (hn : 1 ≤ n) (hn2 : n ≤ 4) (hf : ∀ k, k ≤ i → (f k).length = n) (ha : PolyAcc w r q f i acc (HeapIs t.heap)) (hv : PolyFt w r f i v (HeapIs t.heap)) :
    wpAny (model prog w) A (binaryOp .Add acc v) (fun y s₃ => PolyAcc w r q f (i + 1) y (Fresh t.heap s₃.heap) ∧ Same t s₃ ∧ Grow t.heap s₃.heap) E t := by
  obtain ⟨ah, dp, fr, gd, un⟩ := A
  obtain rfl : ah = none := hA
  obtain ⟨z, rfl, hz⟩ := hv
  rcases ha with ⟨rfl, tk, rfl⟩ | ⟨h0, z', rfl, hz'⟩
  · obtain ⟨dz, az, tp, tc, hz1, hz2, hz3⟩ := id hz
    k_dflt (refine' radd_K (K := heapK w.params) (C := 222) (d := dz) F KX hz1 hz2 ?h1 ?h2 ?h3 ?h4 ?h5 ?_; (case h1 => k_is); (case h2 => k_is); (case h3 => k_is); (case h4 => k_is); (case h5 => k_is))
    refine raddInt F.keep KX T hz (hr.mono (grow_is F.keep)) hq hn hn2 (hf 0 (by omega)) (by show dp + 12 < _; have : dp + 14 < recursionLimit := hd; omega) ?_
    intro s' y G S hy
    exact ⟨.inr ⟨by omega, y, rfl, hy⟩, S, G⟩
  · obtain ⟨dz, az, tp, tc, hz1, hz2, hz3⟩ := id hz'
    obtain ⟨dy, ay, tp', tc', hy1, hy2, hy3⟩ := id hz
    have hla : (accOf q f i).length = n := accOf_length (fun k hk => hf k (by omega)) h0
    k_dflt (refine' binop_K F KX (instAt_is hz1 hz2) ?h0 ?h1 ?h2 ?h3 ?_; (case h0 => exact (instAt_is hy1 hy2).type); (case h1 => k_is); (case h2 => k_is); (case h3 => k_is))
    refine addPoly F.keep KX T hz' hz (hr.mono (grow_is F.keep)) hq hn2 hla (hf i (by omega)) (by show dp + 10 < _; have : dp + 14 < recursionLimit := hd; omega) ?_
    intro s' y G S hy
    refine ⟨.inr ⟨by omega, y, rfl, ?_⟩, S, G⟩
    obtain ⟨j, rfl⟩ : ∃ j, i = j + 1 := ⟨i - 1, by omega⟩
    exact hy
/-- a part is made: its ledger as the row's own -/
theorem cell_up {g h h6 : Heap} {L P : Addr} {B tl tl6 : List (Addr × Obj)} {I C D R : Addr × Obj} {o o' : Obj} (F5 : ∀ p ∈ tl6, p.1 ≠ L) (N5 : News g L h ((P, o') :: I :: C :: D :: R :: (B ++ tl))) (N6 : News g L h6 ((P, o') :: I :: C :: D :: R :: (B ++ tl))) (g0 : Grow g h) (ht : ∀ p ∈ tl6, Fresh h h6 p.1 p.2)
    (off : ∀ p ∈ (P, o) :: (B ++ tl), p.1 ≠ I.1 ∧ p.1 ≠ C.1 ∧ p.1 ≠ D.1 ∧ p.1 ≠ R.1) (hoP : ∀ p ∈ B ++ tl, p.1 ≠ P) (hoB : ∀ p ∈ tl, ∀ b ∈ B, p.1 ≠ b.1) :
    News g L h6 (I :: C :: D :: R :: ((P, o') :: (B ++ (tl6 ++ tl)))) ∧ (∀ p ∈ (P, o') :: (B ++ (tl6 ++ tl)), p.1 ≠ I.1 ∧ p.1 ≠ C.1 ∧ p.1 ≠ D.1 ∧ p.1 ≠ R.1) ∧ (∀ p ∈ B ++ (tl6 ++ tl), p.1 ≠ P) ∧ ∀ p ∈ tl6 ++ tl, ∀ b ∈ B, p.1 ≠ b.1 := by
  have ne : ∀ p ∈ tl6, ∀ q ∈ (P, o') :: I :: C :: D :: R :: (B ++ tl), p.1 ≠ q.1 := fun p hp q hq e => by
    have := (ht p hp).2
    rw [e, (N5 q hq).1] at this; cases this
  have t6 : ∀ p ∈ tl6, h6.get? p.1 = some p.2 ∧ p.1 ≠ L ∧ g.get? p.1 = none := fun p k => ⟨(ht p k).1, F5 p k, (fresh_sub (ht p k) g0).2⟩
  have np : ∀ p ∈ tl6, p.1 ≠ I.1 ∧ p.1 ≠ C.1 ∧ p.1 ≠ D.1 ∧ p.1 ≠ R.1 := fun p h => have u := fat (ne p h); ⟨(fah u :), (fah (fat u :) :), (fah (fat (fat u :) :) :), (fah (fat (fat (fat u :) :) :) :)⟩
  have Q := fat N6
  have Q1 := fat Q
  have Q2 := fat Q1
  have Q3 := fat Q2
  have Q4 := fat Q3
  exact ⟨fa (fah Q :) (fa (fah Q1 :) (fa (fah Q2 :) (fa (fah Q3 :) (fa (fah N6 :) (fap (fal Q4 :) (fap t6 (far Q4 :))))))),
    fa (fah off :) (fap (fal (fat off :) :) (fap np (far (fat off :) :))),
    fap (fal hoP :) (fap (fun p h => (fah (ne p h) :)) (far hoP :)),
    fap (fun p h => fal (fat (fat (fat (fat (fat (ne p h) :) :) :) :) :)) hoB⟩

-- mne
theorem strKeys_of {es : Array DictEntry} (h : (es.toList.all fun e => match e.key with | .str _ _ => true | _ => false) = true) : StrKeys es := fun e he => by
  have := List.all_eq_true.mp h e (by simpa using he)
  cases hk : e.key with
  | str n t => exact ⟨n, t, rfl⟩
  | _ => rw [hk] at this; cases this
theorem ne_same_mod {prog : Program} {w : World} {A : Around} {E : Value → Shared → Prop} {s : Shared} {x d : Addr} {Q : Value → Shared → Prop} (X : (heapK w.params).In s.heap) (hx : s.heap.get? x = some (instObj 377 d)) (hu : A.units + 1 < cLine) (h : Q (.bool false) s) :
    wpAny (model prog w) A (compareOp .NotEq (.ref x) (.ref x)) Q E s := by
  have hC : s.heap.get? 377 = some _ := X _ _ (by k_is)
  have hN : s.heap.get? 376 = some _ := X _ _ (by k_is)
  obtain ⟨hh, g, d', t, os⟩ := s
  refine compareOp_ne_same PySem.F.cmp_object ⟨_, _, _, 376, _, _, _, _, _, _, _, _, _, _, _, _, _, nsFind _, hx, rfl, hC, ⟨_, _, _, hN, rfl, strKeys_of (by kernel_rfl), fun _ => rfl⟩, by kernel_rfl, by kernel_rfl⟩ hu h

-- mmul
/-- a matrix of m rows and k columns as it is read: its parts have n numbers of kk bits -/
structure MatOk (tr : Bool) (rows : List (List (List Int))) (m k n kk : Nat) : Prop where
  len : rows.length = if tr then k else m
  even : Even rows (if tr then m else k)
  m1 : 1 ≤ m
  m3 : m ≤ 3
  k1 : 1 ≤ k
  k3 : k ≤ 3
  part : ∀ row ∈ rows, ∀ c ∈ row, c.length = n ∧ Sz kk c
theorem MatOk.pos {tr : Bool} {rows : List (List (List Int))} {m k n kk : Nat} (h : MatOk tr rows m k n kk) : 1 ≤ rows.length ∧ rows.length ≤ 1000 := by
  have := h.m1; have := h.m3; have := h.k1; have := h.k3; have := h.len
  cases tr <;> simp at this <;> omega
theorem MatOk.row0 {tr : Bool} {rows : List (List (List Int))} {m k n kk : Nat} (h : MatOk tr rows m k n kk) : (rows.getD 0 []).length = if tr then m else k := even_get h.even (by have := h.pos; omega)
theorem MatOk.dim {tr : Bool} {rows : List (List (List Int))} {m k n kk : Nat} (h : MatOk tr rows m k n kk) : dimOf tr rows = (m, k) := by
  have h1 := h.len; have h2 := h.row0
  unfold dimOf
  cases tr
  · simp only [Bool.false_eq_true, if_false] at h1 h2 ⊢; rw [h1, h2]
  · simp only [if_true] at h1 h2 ⊢; rw [h1, h2]
theorem MatOk.at {tr : Bool} {rows : List (List (List Int))} {m k n kk : Nat} (h : MatOk tr rows m k n kk) {i j : Nat} (hi : i < m) (hj : j < k) :
    (if tr then j else i) < rows.length ∧ (if tr then i else j) < (rows.getD (if tr then j else i) []).length := by
  have h1 := h.len
  have h2 : (if tr then j else i) < rows.length := by rw [h1]; cases tr <;> simp [hi, hj]
  refine ⟨h2, ?_⟩
  rw [even_get h.even h2]
  cases tr <;> simp [hi, hj]
theorem MatOk.cell {tr : Bool} {rows : List (List (List Int))} {m k n kk : Nat} (h : MatOk tr rows m k n kk) {i j : Nat} (hi : i < m) (hj : j < k) : (partOf tr rows i j).length = n ∧ Sz kk (partOf tr rows i j) := by
  obtain ⟨h1, h2⟩ := h.at hi hj
  have e : partOf tr rows i j = (rows.getD (if tr then j else i) []).getD (if tr then i else j) [] := by unfold partOf; cases tr <;> rfl
  rw [e]
  have e1 : rows.getD (if tr then j else i) [] = rows[if tr then j else i] := by rw [List.getD_eq_getElem?_getD, List.getElem?_eq_getElem h1]; rfl
  have e2 : (rows.getD (if tr then j else i) []).getD (if tr then i else j) [] = (rows.getD (if tr then j else i) [])[if tr then i else j] := by rw [List.getD_eq_getElem?_getD, List.getElem?_eq_getElem h2]; rfl
  rw [e2]
  refine h.part (rows.getD (if tr then j else i) []) (by rw [e1]; exact List.getElem_mem h1) _ (List.getElem_mem h2)
theorem MatOk.turned {tr : Bool} {rows : List (List (List Int))} {m k n kk : Nat} (h : MatOk tr rows m k n kk) : MatOk (!tr) rows k m n kk :=
  ⟨by rw [h.len]; cases tr <;> rfl, by have := h.even; cases tr <;> exact this, h.k1, h.k3, h.m1, h.m3, h.part⟩
def prodAt (q : Int) (n : Nat) (fa fb : Nat → Nat → List Int) (i j k : Nat) : List Int := schoolOf q n (fa i k) (fb k j)
def prodRow (q : Int) (n inn : Nat) (fa fb : Nat → Nat → List Int) (i j : Nat) : List Int := accOf q (prodAt q n fa fb i j) inn
def prodRows (q : Int) (n inn m l : Nat) (fa fb : Nat → Nat → List Int) : List (List (List Int)) := (List.range m).map fun i => (List.range l).map fun j => prodRow q n inn fa fb i j

theorem addOf_sz {q : Int} {n kk : Nat} {c d : List Int} (hq : 2 ≤ q) (hk : Builtin.Int.intBits q ≤ kk) : Sz kk (addOf q c d) := fun z hz => by
  unfold addOf at hz
  obtain ⟨i, _, rfl⟩ := List.mem_map.mp hz
  exact Nat.le_trans (intBits_mono (Int.emod_nonneg _ (by omega)) (Int.le_of_lt (Int.emod_lt_of_pos _ (by omega)))) hk
theorem schoolOf_sz {q : Int} {n kk : Nat} {la lb : List Int} (hq : 2 ≤ q) (hk : Builtin.Int.intBits q ≤ kk) : Sz kk (schoolOf q n la lb) := fun z hz => by
  unfold schoolOf at hz
  obtain ⟨i, _, rfl⟩ := List.mem_map.mp hz
  exact Nat.le_trans (intBits_mono (Int.emod_nonneg _ (by omega)) (Int.le_of_lt (Int.emod_lt_of_pos _ (by omega)))) hk
theorem accOf_sz {q : Int} {kk : Nat} {f : Nat → List Int} (hq : 2 ≤ q) (hk : Builtin.Int.intBits q ≤ kk) : ∀ {i : Nat}, (∀ k, k < i → Sz kk (f k)) → 0 < i → Sz kk (accOf q f i)
  | 0, _, h => absurd h (Nat.lt_irrefl 0)
  | 1, h, _ => fun z hz => by
    have hz : z ∈ (f 0).set 0 (((f 0).getD 0 0 + 0) % q) := hz
    rcases List.mem_or_eq_of_mem_set hz with hz | rfl
    · exact h 0 (by omega) z hz
    · exact Nat.le_trans (intBits_mono (Int.emod_nonneg _ (by omega)) (Int.le_of_lt (Int.emod_lt_of_pos _ (by omega)))) hk
  | i + 2, h, _ => addOf_sz (n := 0) hq hk
theorem prodRows_ok {q : Int} {n inn m l kk : Nat} {fa fb : Nat → Nat → List Int} (hq : 2 ≤ q) (hk : Builtin.Int.intBits q ≤ kk) (hn : 1 ≤ n) (hi : 1 ≤ inn) (hm1 : 1 ≤ m) (hm3 : m ≤ 3) (hl1 : 1 ≤ l) (hl3 : l ≤ 3) : MatOk false (prodRows q n inn m l fa fb) m l n kk := by
  refine ⟨by simp [prodRows], fun row hr => ?_, hm1, hm3, hl1, hl3, fun row hr c hc => ?_⟩
  · unfold prodRows at hr
    obtain ⟨i, _, rfl⟩ := List.mem_map.mp hr
    simp
  · unfold prodRows at hr
    obtain ⟨i, _, rfl⟩ := List.mem_map.mp hr
    obtain ⟨j, _, rfl⟩ := List.mem_map.mp hc
    unfold prodRow
    exact ⟨accOf_length (fun k _ => schoolOf_length hn) hi, accOf_sz hq hk (fun k _ => schoolOf_sz hq hk) hi⟩
theorem prodRows_part {q : Int} {n inn m l : Nat} {fa fb : Nat → Nat → List Int} {i j : Nat} (hi : i < m) (hj : j < l) : partOf false (prodRows q n inn m l fa fb) i j = prodRow q n inn fa fb i j := by
  simp [partOf, prodRows, List.getD_eq_getElem?_getD, hi, hj]
section
local macro_rules | `(tactic| walk_at "newTuple") => `(tactic| refine Stop.mk ?_)
theorem matMul {prog : Program} {w : World} {p : Program} {loose : List Str} {mg mb : Str → Option Value}
    {dp un : Nat} {fr : Option (List Env)} {gd : Option (List Code)} {h₀ : Heap} {s : Shared} {Q E : Value → Shared → Prop} {A B md r n kk m1 inn l : Nat} {q : Int} {ta tb : Bool} {ra rb : List (List (List Int))} {ps1 ps2 : Array Value} {mgB : Str → Option Value} {bm : Addr} {ob : Obj}
    (hsub : Grow h₀ s.heap) (KX : (heapK w.params).In h₀) (T : TopRead p loose mg mb h₀) (MB : BMod h₀ mainGlobals mgB bm ob)
    (hm : ModOn w (HeapIs h₀) md r) (hr : RingOn w (HeapIs h₀) r q n) (hA : MatOn w (HeapIs h₀) A md r ta ra) (hB : MatOn w (HeapIs h₀) B md r tb rb)
    (oA : MatOk ta ra m1 inn n kk) (oB : MatOk tb rb inn l n kk) (hq : 2 ≤ q) (hn : 1 ≤ n) (hn2 : n ≤ 3) (hkk : kk + kk ≤ 134217728)
    (hP1 : s.heap.get? 362 = some (tabObj ps1)) (hP10 : h₀.get? 362 = none) (htr1 : TriplesOk ps1.toList)
    (hP2 : s.heap.get? 320 = some (tabObj ps2)) (hP20 : h₀.get? 320 = none) (htr2 : TriplesOk ps2.toList)
    (hd : dp + 30 < recursionLimit) (hu : un + 300 < cLine)
    (ret : ∀ s' M ps1 ps2, (∀ b o, b ≠ 362 → b ≠ 320 → s.heap.get? b = some o → s'.heap.get? b = some o) → s'.heap.get? 362 = some (tabObj ps1) → TriplesOk ps1.toList → s'.heap.get? 320 = some (tabObj ps2) → TriplesOk ps2.toList → Same s s' →
      MatOn w (Fresh s.heap s'.heap) M md r false (prodRows q n inn m1 l (partOf ta ra) (partOf tb rb)) → Q (.ref M) s') :
    wpAny (model prog w) (Ar dp fr gd un) (call (.ref 323) [.ref A, .ref B]) Q E s := by
  refine wpAny_call ?_
  k_dflt (refine' enterHC [(362, tabObj ps1), (320, tabObj ps2)] ?k1 ?k3 ?k5 (fun p hp => ?_) ?k6 ?k7 ?k8 ?k9 ?kB ?kD ?_ ?c2 ?c3 ?c4)
  case k1 => k_asm
  case k3 => k_asm
  case k5 => k_asm
  case k6 => k_is
  case k7 => k_is
  case k8 => ktr_room
  case k9 => exact BindsTo.of_eq rfl
  case kB => exact rfl
  case kD => decide +kernel
  case c2 => exact rfl
  case c3 => exact rfl
  case c4 => exact rfl
  · simp only [List.mem_cons, List.not_mem_nil, or_false] at hp
    rcases hp with rfl | rfl
    · exact ⟨hP1, hP10⟩
    · exact ⟨hP2, hP20⟩
  intro g L' h₁ tk cells G1 G2 G3 G4 G5 KG TG F N Y lo hi2
  obtain ⟨o1, o2, o3, o4, hE, d1, d2, d3, d4⟩ := CellsAre.four Y
  subst hE
  clear Y
  simp only [List.cons_append, List.nil_append] at N
  have lo1 : @LT.lt Nat _ 362 L' := lo _ List.mem_cons_self
  have lo2 : @LT.lt Nat _ 320 L' := lo _ (List.mem_cons_of_mem _ List.mem_cons_self)
  have upg : ∀ b o, b ≠ 362 → b ≠ 320 → s.heap.get? b = some o → g.get? b = some o := fun b o h1 h2 e => G3 b o e fun hm => by
    rcases List.mem_cons.mp hm with q | hm
    · exact h1 q
    · exact h2 (List.mem_singleton.mp hm)
  clear lo hi2 G2 G3 G5
  replace d1 : o1.data = Data.cell none := d1
  replace d2 : o2.data = Data.cell none := d2
  replace d3 : o3.data = Data.cell (some (.ref B)) := d3
  replace d4 : o4.data = Data.cell (some (.ref A)) := d4
  replace F : Fr g L' h₁ (fun _ => none) := F
  have MG := MB.keeps G1
  have CG : CodeHd g 322 320 := codeHd_of_K KG (by kernel_rfl)
  obtain ⟨dm, trg, gm1, gm2⟩ := hm.mono (grow_is G1)
  obtain ⟨dA, DA, tpA, tdA, ttA, gA1, gA2, gA3⟩ := id (hA.mono (grow_is G1))
  obtain ⟨dB, DB, tpB, tdB, ttB, gB1, gB2, gB3⟩ := id (hB.mono (grow_is G1))
  dsimp only [HeapIs] at gm1 gm2 gA1 gA2 gB1 gB2
  have un3 : ((Ar dp fr gd un).deeper (envOfC (Str.ofString "GenericMatrix.__matmul__") default L' 323 (Value.ref 322))).units + 64 < cLine := by
    show un + 3 + 64 < cLine; omega
  one_place
  rename Fr _ _ _ _ => F2
  rename News _ _ _ _ => N2
  refine Stop.out (ne_same_mod (KG.keeps F2.keep) (F2.keep _ _ gm1) (by show un + 3 + 1 < cLine; omega) ?_)
  one_place
  rename Fr _ _ _ _ => F3
  rename News _ _ _ _ => N3
  have GG : Grow g _ := F3.keep
  refine Stop.out (matDim F3.keep KG TG ((hA.mono (grow_is G1)).mono (grow_is F3.keep)) oA.pos.1 oA.pos.2 (by rw [oA.row0]; have := oA.m3; have := oA.k3; cases ta <;> simp <;> omega) (by ktr_room) ?_)
  intro s4 z4 t41 t42 G4' S4 f4
  rw [oA.dim] at f4
  dsimp only at f4
  obtain ⟨N4, O4⟩ := news_fresh F3 N3 G4' f4
  simp only [LCg.Off1, and_true] at O4
  obtain ⟨_, _, _, _, _, _⟩ := O4
  have F4 := F3.keeps G4'
  one_place
  rename Fr _ _ _ _ => F5
  rename News _ _ _ _ => N5
  refine Stop.out (matDim F5.keep KG TG ((hB.mono (grow_is G1)).mono (grow_is F5.keep)) oB.pos.1 oB.pos.2 (by rw [oB.row0]; have := oB.m3; have := oB.k3; cases tb <;> simp <;> omega) (by ktr_room) ?_)
  intro s6 z6 t61 t62 G6' S6 f6
  rw [oB.dim] at f6
  dsimp only at f6
  obtain ⟨N6, O6⟩ := news_fresh F5 N5 G6' f6
  simp only [LCg.Off1, and_true] at O6
  obtain ⟨_, _, _, _, _, _, _⟩ := O6
  have F6 := F5.keeps G6'
  one_place
  refine Stop.out (PyProof.Rows.eq_int ?_)
  rw [show ((inn : Int) == (inn : Int)) = true from by simp]
  one_place
  rename Fr _ _ _ _ => F7
  rename News _ _ _ _ => N7
  rename (_ = Data.cell (some (Value.int (inn : Int) _))) => dn
  rename (_ = Data.cell (some (Value.int (l : Int) _))) => dl
  obtain ⟨on, eon, dn⟩ := cell_pick dn
  subst eon
  obtain ⟨ol, eol, dl⟩ := cell_pick dl
  subst eol
  (try clear F)
  (try clear F2)
  (try clear N2)
  (try clear F3)
  (try clear N3)
  (try clear F4)
  (try clear N4)
  (try clear F5)
  (try clear N5)
  (try clear F6)
  (try clear N6)
  (try clear f4)
  (try clear f6)
  (try clear O4)
  (try clear O6)
  (try clear d1)
  (try clear d2)
  refine Stop.out ?_
  k_dflt (refine eval_ListComp_GC F7 (by with_unfolding_all rfl) (fun _ => rfl) (fun _ => rfl) (by rfl) (by decide) (by rfl) ?_)
  one_place
  rename IsRange _ _ _ _ _ _ _ _ => R8
  rename Fr _ _ _ _ => F8
  rename News _ _ _ _ => N8
  refine Stop.out ?_
  refine ⟨rfl, m1, (fun i ys led => TabLed 320 [(L' + 1 + 1 + 1 + 1, ol), (L' + 1 + 1 + 1, on), (L' + 1 + 1, o3), (L' + 1, o4), (362, tabObj ps1)] (fun tl => LinesOn w (InLed tl) r ys ((List.range i).map fun i => (List.range l).map fun j => prodRow q n inn (partOf ta ra) (partOf tb rb) i j)) led), _, by rw [sizeLine_eq]; have := oA.m3; omega, F8, gl_sub N8 (by ((try dsimp only [List.cons_append, List.nil_append, List.append_nil]); repeat (first | (with_reducible exact sl_refl) | (with_reducible exact sl_nil) | ((with_reducible refine sl_put ?_ ?_); focus (repeat (first | (with_reducible exact List.mem_cons_self) | (with_reducible refine List.mem_cons_of_mem _ ?_)))) | (with_reducible refine fap ?_ ?_) | (with_reducible refine sl_skip ?_) | (with_reducible exact sl_left) | (with_reducible refine sl_right ?_)))), ⟨ps2, [], rfl, htr2, ?_, (fun _ h => nomatch h), .nil⟩, _, _, _, _, _, _, rfl, R8, small_one (by decide) (by decide) (by omega) (by have := oA.m3; omega), by rw [rangeSize_nat]; omega, ?_, ?_⟩
  · exact fa (q4 lo2) (fa (q3 lo2) (fa (q2 lo2) (fa (q1 lo2) (fa (show (362 : Nat) ≠ 320 by decide) fun _ h => nomatch h))))
  · intro i ys led v I oI C oC D R oR s₁ E' hi hl hJ hP hR S9 F9 N9 off9
    obtain ⟨ps, tl, rfl, htr, hoP, hoB, hlines⟩ := hJ
    obtain ⟨tv, rfl⟩ := hP
    rw [Int.zero_add] at hR
    obtain ⟨nI, nC, nD, nR⟩ := off9 (320, tabObj ps) List.mem_cons_self
    (try clear F8)
    (try clear N8)
    (try clear R8)
    k_dflt (refine eval_ListComp_GC F9 (by with_unfolding_all rfl) (fun _ => rfl) (fun _ => rfl) (by rfl) (by decide) (by rfl) ?_)
    one_place
    rename IsRange _ _ _ _ _ _ _ _ => R10
    rename Fr _ _ _ _ => F10
    rename News _ _ _ _ => N10
    refine ⟨rfl, l, (fun j ys' led => TabLed 320 ((I, oI) :: (C, oC) :: (D, LCg.lst ys) :: (R, oR) :: ([(L' + 1 + 1 + 1 + 1, ol), (L' + 1 + 1 + 1, on), (L' + 1 + 1, o3), (L' + 1, o4), (362, tabObj ps1)] ++ tl)) (fun tl' => CellsOn w (InLed tl') r ys' ((List.range j).map fun j => prodRow q n inn (partOf ta ra) (partOf tb rb) i j)) led), _, by rw [sizeLine_eq]; have := oB.k3; omega, F10, gl_sub N10 (by ((try dsimp only [List.cons_append, List.nil_append, List.append_nil]); repeat (first | (with_reducible exact sl_refl) | (with_reducible exact sl_nil) | ((with_reducible refine sl_put ?_ ?_); focus (repeat (first | (with_reducible exact List.mem_cons_self) | (with_reducible refine List.mem_cons_of_mem _ ?_)))) | (with_reducible refine fap ?_ ?_) | (with_reducible refine sl_skip ?_) | (with_reducible exact sl_left) | (with_reducible refine sl_right ?_)))), ⟨ps, [], rfl, htr, ?_, (fun _ h => nomatch h), .nil⟩, _, _, _, _, _, _, rfl, R10, small_one (by decide) (by decide) (by omega) (by have := oB.k3; omega), by rw [rangeSize_nat]; omega, ?_, ?_⟩
    · exact fap (fa (Ne.symm nI) (fa (Ne.symm nC) (fa (Ne.symm nD) (fa (Ne.symm nR) hoP)))) fun _ h => nomatch h
    · intro j ys' led' v' I' oI' C' oC' D' R' oR' s₂ E2 hj hl' hJ' hP' hR' S11 F11 N11 of11
      obtain ⟨ps', tl', rfl, htr', hoP', hoB', hcells⟩ := hJ'
      obtain ⟨tv', rfl⟩ := hP'
      rw [Int.zero_add] at hR'
      obtain ⟨nI', nC', nD', nR'⟩ := of11 (320, tabObj ps') List.mem_cons_self
      (try clear F10)
      (try clear N10)
      (try clear R10)
      one_place
      refine Stop.out ?_
      k_dflt (refine eval_Gen_H (by k_asm) MG CG TG.nolimit rfl rfl (by with_unfolding_all rfl) (by decide) (by rfl) (by rfl) (by rfl) (by ktr_room) ?_ (fun _ => by rfl))
      one_place
      rename IsRange _ _ _ _ _ _ _ _ => R12
      rename Fr _ _ _ _ => F12
      rename News _ _ _ _ => N12
      refine ⟨ps', (I', oI') :: (C', oC') :: (D', LCg.lst ys') :: (R', oR') :: (I, oI) :: (C, oC) :: (D, LCg.lst ys) :: (R, oR) :: (L' + 1 + 1 + 1 + 1, ol) :: (L' + 1 + 1 + 1, on) :: (L' + 1 + 1, o3) :: (L' + 1, o4) :: (362, tabObj ps1) :: (tl ++ tl'), inn, PolyFt w r (prodAt q n (partOf ta ra) (partOf tb rb) i j), _, _, _, _, _, _, rfl, F12, gl_sub N12 (by ((try dsimp only [List.cons_append, List.nil_append, List.append_nil]); repeat (first | (with_reducible exact sl_refl) | (with_reducible exact sl_nil) | ((with_reducible refine sl_put ?_ ?_); focus (repeat (first | (with_reducible exact List.mem_cons_self) | (with_reducible refine List.mem_cons_of_mem _ ?_)))) | (with_reducible refine fap ?_ ?_) | (with_reducible refine sl_skip ?_) | (with_reducible exact sl_left) | (with_reducible refine sl_right ?_)))), ?_, htr', rfl, R12, small_one (by decide) (by decide) (by omega) (by have := oA.k3; omega), by rw [rangeSize_nat]; omega, polyFt_mono, ?_, ?_⟩
      · exact fa (Ne.symm nI') (fa (Ne.symm nC') (fa (Ne.symm nD') (fa (Ne.symm nR') hoP')))
      · intro A' E3 k tt t C2 m₂ code hA' hdp hun hk3 Fk hxk Nk
        rw [Int.zero_add] at hxk
        replace Nk : News g C2 t.heap [(R', oR'), (R, oR), (L' + 1 + 1, o3), (L' + 1, o4)] := gl_sub Nk (by ((try dsimp only [List.cons_append, List.nil_append, List.append_nil]); repeat (first | (with_reducible exact sl_nil) | ((with_reducible refine sl_put ?_ ?_); focus (repeat (first | (with_reducible exact List.mem_cons_self) | (with_reducible refine List.mem_cons_of_mem _ ?_)))))))
        obtain ⟨ah, dp', fr', gd', un'⟩ := A'
        obtain rfl : ah = none := hA'
        (try clear F12)
        (try clear N12)
        (try clear R12)
        (try clear F11)
        (try clear N11)
        (try clear F9)
        (try clear N9)
        (try clear F7)
        (try clear N7)
        (try clear hcells)
        (try clear hlines)
        (try clear hoP')
        (try clear hoB')
        (try clear hoP)
        (try clear hoB)
        (try clear off9)
        (try clear of11)
        refine wpAny_mono (Q := Made (PolyFt w r (prodAt q n (partOf ta ra) (partOf tb rb) i j) k) t) ?_ (fun _ _ h => h) fun _ _ e => e
        have hdp2 : dp' ≤ dp + 1 + 1 := hdp
        one_place
        rename Fr _ _ _ _ => F0a
        rename News _ _ _ _ => N0a
        refine Stop.out (newPair_G F0a N0a ?_)
        intro z0 h0 H0 F0 N0 O0
        one_place
        rename Fr _ _ _ _ => F1
        rename News _ _ _ _ => N1
        refine Stop.out ?_
        k_dflt (refine' sub_K F1 KG (instAt_is (F1.keep _ _ gA1) (F1.keep _ _ gA2)) ?h1 ?h2 ?h3 ?_; (case h1 => k_is); (case h2 => k_is); (case h3 => k_is))
        refine matGet (i := i) (j := k) F1.keep KG TG (hA.mono (grow_is G1)) F1.keep (led_is N1 List.mem_cons_self) (oA.at hi hk3).1 (oA.at hi hk3).2 (by have := oA.m3; omega) (by have := oA.k3; omega) ?_ ?_
        · show dp' + 2 < _; omega
        intro s1 x1 H1 S1 hx1
        have F2 := F1.keeps H1
        have N2 := N1.grown H1
        one_place
        rename Fr _ _ _ _ => F2a
        rename News _ _ _ _ => N2a
        refine Stop.out (newPair_G F2a N2a ?_)
        intro z2 h2 H2 F2' N2' O2
        one_place
        rename Fr _ _ _ _ => F3
        rename News _ _ _ _ => N3
        refine Stop.out ?_
        k_dflt (refine' sub_K F3 KG (instAt_is (F3.keep _ _ gB1) (F3.keep _ _ gB2)) ?h1 ?h2 ?h3 ?_; (case h1 => k_is); (case h2 => k_is); (case h3 => k_is))
        refine matGet (i := k) (j := j) F3.keep KG TG (hB.mono (grow_is G1)) F3.keep (led_is N3 List.mem_cons_self) (oB.at hk3 hj).1 (oB.at hk3 hj).2 (by have := oB.m3; omega) (by have := oB.k3; omega) ?_ ?_
        · show dp' + 2 < _; omega
        intro s3 x3 H3 S3 hx3
        have F4 := F3.keeps H3
        have N4 := N3.grown H3
        one_place
        obtain ⟨dx1, ax1, tpx1, tcx1, hx11, hx12, hx13⟩ := id hx1
        obtain ⟨dx3, ax3, tpx3, tcx3, hx31, hx32, hx33⟩ := id hx3
        rename Fr _ _ _ _ => F5
        k_dflt (refine' binop_K F5 KG (instAt_is (F5.keep _ _ hx11) (F5.keep _ _ hx12)) ?h0 ?h1 ?h2 ?h3 ?_; (case h0 => exact (instAt_is (F5.keep _ _ hx31) (F5.keep _ _ hx32)).type); (case h1 => k_is); (case h2 => k_is); (case h3 => k_is))
        have cA := oA.cell hi hk3
        have cB := oB.cell hk3 hj
        refine mulPoly F5.keep KG TG (hx1.mono (grow_is F5.keep)) (hx3.mono (grow_is F5.keep)) ((hr.mono (grow_is G1)).mono (grow_is F5.keep)) hq hn (by omega) cA.1 cB.1 (cA.2.ok cB.2 hkk) (by show dp' + 8 < _; omega) ?_
        intro s5 z5 H5 S5 hz5
        have HH : Grow t.heap s3.heap := H0.trans (H1.trans (H2.trans H3))
        exact Made.mk ⟨z5, rfl, hz5.mono fun a o f => fresh_sub f HH⟩ ((((Same.put t _ _).trans S1).trans ((Same.put _ _ _).trans S3)).trans S5) (HH.trans H5)
      · intro a5 s₅ ps'' X5 S5 F5 N5 t5
        walk1
        refine sum_HV (PolyAcc w r q (prodAt q n (partOf ta ra) (partOf tb rb) i j)) X5 rfl (by ktr_room) F5 N5 polyFt_ref polyAcc_ref polyFt_mono polyAcc_mono (fun t φ => .inl ⟨rfl, t, rfl⟩) ?_ ?_
        · intro A' E3 k v acc t hA' hdp hun hk3 hacc hv Ft Nt
          refine accStep hA' (Nat.lt_of_le_of_lt (Nat.add_le_add_right hdp 14) (by show dp + 1 + 14 < _; omega)) Ft KG TG (hr.mono (grow_is G1)) hq hn (by omega) (fun k' hk' => ?_) hacc hv
          exact schoolOf_length hn
        · intro s₆ acc S6 F6 N6 hacc
          rcases hacc with ⟨h0, _⟩ | ⟨_, z6, rfl, hz6⟩
          · exact absurd h0 (by have := oA.k1; omega)
          obtain ⟨tl6, ht6, hz6⟩ := poly_tl hz6
          obtain ⟨N7, of7, oP7, oB7⟩ := cell_up (B := (I, oI) :: (C, oC) :: (D, LCg.lst ys) :: (R, oR) :: ([(L' + 1 + 1 + 1 + 1, ol), (L' + 1 + 1 + 1, on), (L' + 1 + 1, o3), (L' + 1, o4), (362, tabObj ps1)] ++ tl)) (tl := tl') (fun p hp => fresh_ne F5 (ht6 p hp)) N5 N6 F5.keep ht6 of11 hoP' hoB'
          refine EltGC.mk _ ((Same.put _ _ _).trans S6) F6 N7 of7 ⟨ps'', _, rfl, t5, oP7, oB7, ?_⟩
          rw [List.range_succ, List.map_append]
          exact (hcells.mono fun a o h => List.mem_append_right _ h).snoc (hz6.mono fun a o h => List.mem_append_left _ h)
    · intro D' ys' led' s₃ hl' hJ' S11 F11 N11 o11 _
      obtain ⟨ps', tl', rfl, htr', hoP', hoB', hcells⟩ := hJ'
      obtain ⟨N12, of12, oP12, oB12⟩ := inner_up N11 o11 off9 hoP' hoB' hoB
      refine EltGC.mk _ (((Same.put _ _ _).trans S11)) F11 N12 of12 ⟨ps', _, rfl, htr', oP12, oB12, ?_⟩
      rw [List.range_succ, List.map_append]
      exact (hlines.mono fun a o h => List.mem_cons_of_mem _ (List.mem_append_right _ h)).snoc (na := ys'.length) List.mem_cons_self (hcells.mono fun a o h => List.mem_cons_of_mem _ (List.mem_append_left _ h))
  · intro D ys led s₃ hl hJ S9 F9 N9 o9 _
    obtain ⟨ps, tl, rfl, htr, hoP, hoB, hlines⟩ := hJ
    simp only [List.cons_append, List.nil_append] at N9 o9
    one_place
    have e362 : s₃.heap.get? 362 = some (tabObj ps1) := (N9.get (by k_mem))
    have e320 : s₃.heap.get? 320 = some (tabObj ps) := (N9.get (by k_mem))
    have g362 : g.get? 362 = none := (N9 (362, tabObj ps1) (by k_mem)).2.2
    have GH : Grow g (hideAll s₃.heap [362]) := fun b o e => hideAll_get _ (F9.keep b o e) fun hb => by rw [List.mem_singleton.mp hb, g362] at e; cases e
    have HG : Grow (hideAll s₃.heap [362]) s₃.heap := fun b o e => of_hideAll _ e
    have up : ∀ a o, s₃.heap.get? a = some o → a ≠ 362 → (hideAll s₃.heap [362]).get? a = some o := fun a o e hn => hideAll_get _ e fun hb => hn (List.mem_singleton.mp hb)
    have hDn : D ≠ 362 := Ne.symm (o9 (362, tabObj ps1) (by k_mem))
    have hgrid : GridOn w (HeapIs (hideAll s₃.heap [362])) D r (prodRows q n inn m1 l (partOf ta ra) (partOf tb rb)) :=
      ⟨ys, ys.length, up _ _ (N9 _ List.mem_cons_self).1 hDn, hlines.mono fun a o hm => up _ _ (led_is N9 (by repeat (first | exact hm | apply List.mem_cons_of_mem))) (hoB _ hm (362, tabObj ps1) (by simp))⟩
    have KS1 := KG.keeps F9.keep
    have hev : Even (prodRows q n inn m1 l (partOf ta ra) (partOf tb rb)) l := fun row hrow => by
      unfold prodRows at hrow
      obtain ⟨i, _, rfl⟩ := List.mem_map.mp hrow
      simp
    have hlen : (prodRows q n inn m1 l (partOf ta ra) (partOf tb rb)).length = m1 := by simp [prodRows]
    have hm1 := oA.m1
    have hm3 := oA.m3
    have hl3 := oB.k3
    refine Stop.out (modCall (D := D) (tr := false) HG (KG.keeps GH) (TG.keeps GH) (MG.keeps GH) ((hm.mono (grow_is G1)).mono (grow_is GH)) hgrid hev (by omega) (by omega) (by omega) e362 (hideAll_none _ List.mem_cons_self) htr1 ?_ (by ktr_room) ?_)
    · refine' binds_at ?e ?h
      case e => k_is
      case h => first | exact BindsTo.of_eq rfl | exact binds_K KS1 rfl (by k_is) rfl rfl rfl
    intro s' M dM tp td tt ps' K' P' t' S' f1 f2
    one_place
    have nv : NoVan s.heap s₃.heap := noVan_but (wr := [362, 320]) (fun b o hb e => F9.keep b o (upg b o (fun q => hb (by rw [q]; exact List.mem_cons_self)) (fun q => hb (by rw [q]; exact List.mem_cons_of_mem _ List.mem_cons_self)) e)) fun b hb => by
      rcases List.mem_cons.mp hb with rfl | hb
      · exact ⟨_, e362⟩
      · rw [List.mem_singleton.mp hb]; exact ⟨_, e320⟩
    have fr : ∀ a o, (a, o) ∈ (D, LCg.lst ys) :: tl → a ≠ 362 → a ≠ 320 → Fresh s.heap s'.heap a o := fun a o hmem h1 h2 => by
      have hN := N9 (a, o) (by
        rcases List.mem_cons.mp hmem with e | e
        · rw [e]; exact List.mem_cons_self
        · repeat (first | exact e | apply List.mem_cons_of_mem))
      refine ⟨K' a o h1 hN.1, ?_⟩
      cases e : s.heap.get? a with
      | none => rfl
      | some o' => have := upg a o' h1 h2 e; rw [hN.2.2] at this; cases this
    refine ret s' M ps' ps (fun b o h1 h2 e => K' b o h1 (F9.keep b o (upg b o h1 h2 e))) P' t' (K' _ _ (by decide) e320) htr ((((Same.put s _ _).trans S4).trans ((Same.put s4 _ _).trans S6)).trans (((Same.put s6 _ _).trans S9).trans S')) ⟨dM, D, tp, td, tt, ⟨f1.1, nv _ f1.2⟩, ⟨f2.1, nv _ f2.2⟩, ys, ys.length, fr _ _ List.mem_cons_self hDn (Ne.symm (o9 (320, tabObj ps) List.mem_cons_self)), hlines.mono fun a o hm => fr _ _ (List.mem_cons_of_mem _ hm) (hoB _ hm (362, tabObj ps1) (by simp)) (hoP (a, o) (by simp only [List.mem_append]; exact .inr hm))⟩
end

-- mdot
local macro_rules | `(tactic| walk_at "getAttr ref") => `(tactic| ((with_reducible show wpAny _ _ (getAttr (Value.ref _) (Str.ofString "T") _) _ _ _); refine Stop.mk ?_))
local macro_rules | `(tactic| walk_at "binaryOp MatMult ref") => `(tactic| refine Stop.mk ?_)
theorem modNew {prog : Program} {w : World} {p : Program} {loose : List Str} {mg mb : Str → Option Value}
    {dp un : Nat} {fr : Option (List Env)} {gd : Option (List Code)} {h₀ : Heap} {s : Shared} {Q E : Value → Shared → Prop} {r : Nat}
    (hsub : Grow h₀ s.heap) (KX : (heapK w.params).In h₀) (T : TopRead p loose mg mb h₀)
    (hd : dp + 4 < recursionLimit)
    (ret : ∀ s' md, Grow s.heap s'.heap → Same s s' → ModOn w (Fresh s.heap s'.heap) md r → Q (.ref md) s') :
    wpAny (model prog w) (Ar dp fr gd un) (call (.ref 377) [.ref r]) Q E s := by
  have KS := KX.keeps hsub
  k_dflt (refine' wpAny_call (newK ?kn1 ?kn2 ?kn3 ?kn4 ?_); (case kn1 => exact KS); (case kn2 => k_is); (case kn3 => k_is); (case kn4 => k_is))
  intro x dx h' G hx hdx hne
  have hne2 : @Ne Nat dx x := hne
  have hsub' : Grow h₀ h' := hsub.trans G
  have hh0 : ∀ b o, Fresh s.heap h' b o → h₀.get? b = none := fun b o f => by
    cases e : h₀.get? b with
    | none => rfl
    | some o' => have := hsub _ _ e; rw [f.2] at this; cases this
  k_dflt (refine' enterH [(x, instObj 377 dx), (dx, dictOf [] 0)] ?k1 ?k3 ?k5 (fun p hp => ?_) ?k6 ?k7 ?k8 ?k9 ?kB ?_ ?c2 ?c3 ?c4 ?c5)
  tb_start
  · rcases List.mem_cons.mp hp with rfl | hp
    · exact ⟨hx.1, hh0 _ _ hx⟩
    · rw [List.mem_singleton.mp hp]; exact ⟨hdx.1, hh0 _ _ hdx⟩
  intro g L' h₁ G1 G2 G3 G4 G5 KG TG F N
  (try dsimp only [List.map_cons, List.map_nil] at G3)
  have up : ∀ a o, HeapIs s.heap a o → HeapIs g a o := fun a o e => G3 a o (G a o e) fun hm => by
    rcases List.mem_cons.mp hm with e' | hm
    · have e3 : a = x := e'
      have e2 := hx.2; rw [← e3, e] at e2; cases e2
    · have e3 : a = dx := List.mem_singleton.mp hm
      have e2 := hdx.2; rw [← e3, e] at e2; cases e2
  one_place
  rename Fr _ _ _ _ => F4
  rename News _ _ _ _ => N4
  exact ⟨rfl, ret _ x (fun a o e => F4.keep a o (up a o e)) ((Same.put s _ _).trans (Same.put _ _ _)) ⟨dx, _, ⟨(N4 _ List.mem_cons_self).1, hx.2⟩, ⟨(N4 _ (List.mem_cons_of_mem _ List.mem_cons_self)).1, hdx.2⟩⟩⟩

theorem modVector {prog : Program} {w : World} {p : Program} {loose : List Str} {mg mb : Str → Option Value}
    {dp un : Nat} {fr : Option (List Env)} {gd : Option (List Code)} {h₀ : Heap} {s : Shared} {Q E : Value → Shared → Prop} {φ : Addr → Obj → Prop} {D r md : Nat} {us : List Value} {na : Nat} {row : List (List Int)}
    (hsub : Grow h₀ s.heap) (KX : (heapK w.params).In h₀) (T : TopRead p loose mg mb h₀)
    (hm : ModOn w (HeapIs s.heap) md r) (hφ : ∀ a o, φ a o → HeapIs s.heap a o) (hD : φ D (listOf us.toArray na)) (hc : CellsOn w φ r us row) (hk : row.length ≤ 1000)
    (hd : dp + 10 < recursionLimit)
    (ret : ∀ s' M, Grow s.heap s'.heap → Same s s' → MatOn w (fun a o => φ a o ∨ Fresh s.heap s'.heap a o) M md r true [row] → Q (.ref M) s') :
    wpAny (model prog w) (Ar dp fr gd un) (call (.ref 374) [.ref md, .ref D]) Q E s := by
  obtain ⟨dm, trg, hm1, hm2⟩ := id hm
  dsimp only [HeapIs] at hm1 hm2
  have hD' : s.heap.get? D = _ := hφ _ _ hD
  have KS := KX.keeps hsub
  have TS := T.keeps hsub
  refine wpAny_call ?_
  one_item
  one_place
  refine Stop.out (newList_led (by k_asm) (by k_asm) (by size_fits) ?_)
  intro D1 h1 G1 F1 N1 O1
  one_place
  rename Fr _ _ _ _ => F2
  rename News _ _ _ _ => N2
  refine Stop.out ?_
  change wpAny _ _ (call (.ref 359) [.ref md, .ref D1] [(Str.ofString "transpose", .bool true)]) _ _ _
  refine matrixOf (D := D1) (rows := [row]) F2.keep KS TS (hm.mono (grow_is F2.keep)) ⟨_, _, (N2 _ List.mem_cons_self).1, .cons (F2.keep _ _ hD') (hc.mono fun a o e => F2.keep a o (hφ a o e)) .nil⟩ (fun r' hr' => by rw [List.mem_singleton.mp hr']) hk (Nat.le_refl 1) (by show 1 ≤ 1000; decide) (by ktr_room) ?_
  intro s' M dM tp td tt G S f1 f2
  exact ret s' M (Grow.trans F2.keep G) ((Same.put s _ _).trans S) ⟨dM, D1, tp, td, tt, .inr (fresh_sub f1 F2.keep), .inr (fresh_sub f2 F2.keep), _, _, .inr ⟨G _ _ (N2 _ List.mem_cons_self).1, (N2 _ List.mem_cons_self).2.2⟩, .cons (.inl hD) (hc.mono fun a o e => .inl e) .nil⟩

theorem matDot {prog : Program} {w : World} {p : Program} {loose : List Str} {mg mb : Str → Option Value}
    {dp un : Nat} {fr : Option (List Env)} {gd : Option (List Code)} {h₀ : Heap} {s : Shared} {Q E : Value → Shared → Prop} {A B md r n kk inn : Nat} {q : Int} {ta tb : Bool} {ra rb : List (List (List Int))} {ps1 ps2 : Array Value} {mgB : Str → Option Value} {bm : Addr} {ob : Obj}
    (hsub : Grow h₀ s.heap) (KX : (heapK w.params).In h₀) (T : TopRead p loose mg mb h₀) (MB : BMod h₀ mainGlobals mgB bm ob)
    (hm : ModOn w (HeapIs h₀) md r) (hr : RingOn w (HeapIs h₀) r q n) (hA : MatOn w (HeapIs h₀) A md r ta ra) (hB : MatOn w (HeapIs h₀) B md r tb rb)
    (oA : MatOk ta ra inn 1 n kk) (oB : MatOk tb rb inn 1 n kk) (hq : 2 ≤ q) (hn : 1 ≤ n) (hn2 : n ≤ 3) (hkk : kk + kk ≤ 134217728) (hqk : Builtin.Int.intBits q ≤ kk)
    (hP1 : s.heap.get? 362 = some (tabObj ps1)) (hP10 : h₀.get? 362 = none) (htr1 : TriplesOk ps1.toList)
    (hP2 : s.heap.get? 320 = some (tabObj ps2)) (hP20 : h₀.get? 320 = none) (htr2 : TriplesOk ps2.toList)
    (hd : dp + 40 < recursionLimit) (hu : un + 400 < cLine)
    (ret : ∀ s' x ps1 ps2, (∀ b o, b ≠ 362 → b ≠ 320 → s.heap.get? b = some o → s'.heap.get? b = some o) → s'.heap.get? 362 = some (tabObj ps1) → TriplesOk ps1.toList → s'.heap.get? 320 = some (tabObj ps2) → TriplesOk ps2.toList → Same s s' →
      PolyOn w (Fresh s.heap s'.heap) x r (prodRow q n inn (partOf (!ta) ra) (partOf tb rb) 0 0) → Q (.ref x) s') :
    wpAny (model prog w) (Ar dp fr gd un) (call (.ref 330) [.ref A, .ref B]) Q E s := by
  refine wpAny_call ?_
  k_dflt (refine' enterH [(362, tabObj ps1), (320, tabObj ps2)] ?k1 ?k3 ?k5 (fun p hp => ?_) ?k6 ?k7 ?k8 ?k9 ?kB ?_ ?c2 ?c3 ?c4 ?c5)
  tb_start
  · rcases List.mem_cons.mp hp with rfl | hp
    · exact ⟨hP1, hP10⟩
    · rw [List.mem_singleton.mp hp]; exact ⟨hP2, hP20⟩
  intro g L' h₁ G1 G2 G3 G4 G5 KG TG F N
  have upg : ∀ b o, b ≠ 362 → b ≠ 320 → s.heap.get? b = some o → g.get? b = some o := fun b o h1 h2 e => G3 b o e fun hm => by
    rcases List.mem_cons.mp hm with q | hm
    · exact h1 q
    · exact h2 (List.mem_singleton.mp hm)
  clear G2 G3 G5
  have MG := MB.keeps G1
  obtain ⟨dA, DA, tpA, tdA, ttA, gA1, gA2, gA3⟩ := id (hA.mono (grow_is G1))
  obtain ⟨dB, DB, tpB, tdB, ttB, gB1, gB2, gB3⟩ := id (hB.mono (grow_is G1))
  dsimp only [HeapIs] at gA1 gA2 gB1 gB2
  one_place
  rename Fr _ _ _ _ => F2
  rename News _ _ _ _ => N2
  have n1 := N2 (362, tabObj ps1) List.mem_cons_self
  have n2 := N2 (320, tabObj ps2) (List.mem_cons_of_mem _ List.mem_cons_self)
  have kl : (if ta = true then inn else 1) ≤ 1000 := by have := oA.m3; split <;> omega
  refine Stop.out (matT F2.keep KG TG MG F2 KG (hm.mono (grow_is G1)) (φ := HeapIs g) (fun _ _ e => e) (hA.mono (grow_is G1)) oA.even kl oA.pos.1 oA.pos.2 n1.1 n1.2.2 htr1 (by ktr_room) ?_)
  intro s3 M3 ps3 K3 P3 t3 S3 y3
  obtain ⟨F3, N3⟩ := tab_turn (led' := [(362, tabObj ps3), (320, tabObj ps2)]) (ps := [362]) F2 N2 (fun b o hb e => K3 b o (fun q => hb (by rw [q]; exact List.mem_singleton.mpr rfl)) e) (fun p hp => by rw [List.mem_singleton.mp hp]; exact ⟨n1.2.2, n1.2.1⟩) (fun p hp => by
    rcases List.mem_cons.mp hp with rfl | hp
    · exact .inr ⟨P3, List.mem_singleton.mpr rfl⟩
    · rw [List.mem_singleton.mp hp]; exact .inl ⟨List.mem_cons_of_mem _ List.mem_cons_self, fun h => nomatch (List.mem_singleton.mp h : (320 : Nat) = 362)⟩)
  obtain ⟨GH, HG, up, hid⟩ := ground_at [362, 320] F3.keep (fun p hp => by
    rcases List.mem_cons.mp hp with rfl | hp
    · exact n1.2.2
    · rw [List.mem_singleton.mp hp]; exact n2.2.2)
  have y3' : MatOn w (HeapIs (hideAll s3.heap [362, 320])) M3 md r (!ta) ra := y3.mono fun a o h => h.elim (fun e => GH a o e) fun f => up a o f.1 fun hb => by
    rcases List.mem_cons.mp hb with q | hb
    · have := f.2; rw [q, n1.1] at this; cases this
    · have := f.2; rw [List.mem_singleton.mp hb, n2.1] at this; cases this
  clear n1 n2 N2 y3
  one_place
  obtain ⟨dM, DM, tpM, tdM, ttM, gM1, gM2, gM3⟩ := id y3'
  have KS := KG.keeps GH
  refine Stop.out ?_
  k_dflt (refine' binop_K (Fr.keeps F3 (fun _ _ e => e)) KG (instAt_is (HG _ _ gM1) (HG _ _ gM2)) ?h0 ?h1 ?h2 ?h3 ?_; (case h0 => exact (instAt_is (F3.keep _ _ gB1) (F3.keep _ _ gB2)).type); (case h1 => k_is); (case h2 => k_is); (case h3 => k_is))
  refine matMul HG KS (TG.keeps GH) (MG.keeps GH) ((hm.mono (grow_is G1)).mono (grow_is GH)) ((hr.mono (grow_is G1)).mono (grow_is GH)) y3' ((hB.mono (grow_is G1)).mono (grow_is GH)) oA.turned oB hq hn hn2 hkk P3 (hid _ List.mem_cons_self) t3 (N3 _ (List.mem_cons_of_mem _ List.mem_cons_self)).1 (hid _ (List.mem_cons_of_mem _ List.mem_cons_self)) htr2 (by ktr_room) (by show un + 3 + 300 < cLine; omega) ?_
  intro s5 M5 ps5 ps6 K5 P5 t5 P6 t6 S5 y5
  have G3' : Grow g s3.heap := F3.keep
  have P32 := (N3 (320, tabObj ps2) (List.mem_cons_of_mem _ List.mem_cons_self)).1
  have g1 : g.get? 362 = none ∧ 362 ≠ L' := ⟨(N3 _ List.mem_cons_self).2.2, (N3 (362, tabObj ps3) List.mem_cons_self).2.1⟩
  have g2 : g.get? 320 = none ∧ 320 ≠ L' := ⟨(N3 _ (List.mem_cons_of_mem _ List.mem_cons_self)).2.2, (N3 (320, tabObj ps2) (List.mem_cons_of_mem _ List.mem_cons_self)).2.1⟩
  have K5' : ∀ b o, b ∉ [362, 320] → s3.heap.get? b = some o → s5.heap.get? b = some o := fun b o hb e => K5 b o (fun q => hb (by rw [q]; exact List.mem_cons_self)) (fun q => hb (by rw [q]; exact List.mem_cons_of_mem _ List.mem_cons_self)) e
  have gps : ∀ p ∈ [362, 320], g.get? p = none ∧ p ≠ L' := fun p hp => by
    rcases List.mem_cons.mp hp with rfl | hp
    · exact g1
    · rw [List.mem_singleton.mp hp]; exact g2
  obtain ⟨F5, N5⟩ := tab_turn (led' := [(362, tabObj ps5), (320, tabObj ps6)]) F3 N3 K5' gps (fun p hp => by
    rcases List.mem_cons.mp hp with rfl | hp
    · exact .inr ⟨P5, List.mem_cons_self⟩
    · rw [List.mem_singleton.mp hp]; exact .inr ⟨P6, List.mem_cons_of_mem _ List.mem_cons_self⟩)
  have o5 : MatOk false (prodRows q n inn 1 1 (partOf (!ta) ra) (partOf tb rb)) 1 1 n kk := prodRows_ok hq hqk hn oA.m1 (by decide) (by decide) (by decide) (by decide)
  obtain ⟨tl5, ft5, y5⟩ := mat_tl y5
  obtain ⟨d5, D5, tp5, td5, tt5, h51, h52, h53⟩ := id y5
  have N6 : News g L' s5.heap ((M5, _) :: (d5, _) :: (tl5 ++ [(362, tabObj ps5), (320, tabObj ps6)])) := fun p hp => by
    have q : p ∈ tl5 ++ [(362, tabObj ps5), (320, tabObj ps6)] := by
      rcases List.mem_cons.mp hp with rfl | hp
      · exact List.mem_append_left _ h51
      rcases List.mem_cons.mp hp with rfl | hp
      · exact List.mem_append_left _ h52
      · exact hp
    exact (List.mem_append.mp q).elim (fun h => ⟨(ft5 p h).1, fresh_ne F3 (ft5 p h), (fresh_sub (ft5 p h) F3.keep).2⟩) (N5 p)
  (try clear N3)
  (try clear N5)
  (try clear K5)
  (try clear K5')
  (try clear y3')
  (try clear gM1)
  (try clear gM2)
  (try clear gM3)
  (try clear KS)
  (try clear up)
  (try clear hid)
  (try clear HG)
  (try clear GH)
  one_place
  rename Fr _ _ _ _ => F7
  rename News _ _ _ _ => N7
  refine Stop.out (matDim F7.keep KG TG (y5.mono fun a o hm => led_is N7 (List.mem_cons_of_mem _ (List.mem_cons_of_mem _ (List.mem_append_left _ hm)))) o5.pos.1 o5.pos.2 (by rw [o5.row0]; decide) (by ktr_room) ?_)
  intro s8 z8 t81 t82 G8 S8 f8
  rw [o5.dim] at f8
  dsimp only at f8
  obtain ⟨N8, O8⟩ := news_fresh F7 N7 G8 f8
  have F8 := F7.keeps G8
  one_place
  rename Fr _ _ _ _ => F9
  rename News _ _ _ _ => N9
  refine Stop.out (pair_eq (i := 1) (j := 1) (N9.get (by k_mem)) (N9.get (by k_mem)) (by show un + 3 + 64 < cLine; omega) ?_)
  one_place
  rename Fr _ _ _ _ => F10
  rename News _ _ _ _ => N10
  have in10 : ∀ a o, InLed tl5 a o → _ := fun a o hm => led_is N10 (by repeat (first | exact List.mem_append_left _ hm | apply List.mem_cons_of_mem))
  refine Stop.out ?_
  k_dflt (refine' sub_K F10 KG (instAt_is (N10.get (by k_mem)) (N10.get (by k_mem))) ?h1 ?h2 ?h3 ?_; (case h1 => k_is); (case h2 => k_is); (case h3 => k_is))
  refine matGet (i := 0) (j := 0) F10.keep KG TG y5 in10 (led_is N10 List.mem_cons_self) (o5.at (by decide) (by decide)).1 (o5.at (by decide) (by decide)).2 (by decide) (by decide) (by ktr_room) ?_
  intro s11 x11 H11 S11 hx11
  have F11 := F10.keeps H11
  have N11 := N10.grown H11
  have m1 : (362, tabObj ps5) ∈ tl5 ++ [(362, tabObj ps5), (320, tabObj ps6)] := List.mem_append_right _ List.mem_cons_self
  have m2 : (320, tabObj ps6) ∈ tl5 ++ [(362, tabObj ps5), (320, tabObj ps6)] := List.mem_append_right _ (List.mem_cons_of_mem _ List.mem_cons_self)
  rw [prodRows_part (by decide) (by decide)] at hx11
  refine ret s11 x11 ps5 ps6 (fun b o h1 h2 e => F11.keep b o (upg b o h1 h2 e)) (N11 _ (by repeat (first | exact m1 | apply List.mem_cons_of_mem))).1 t5 (N11 _ (by repeat (first | exact m2 | apply List.mem_cons_of_mem))).1 t6 ?_ (hx11.mono fun a o hm => ⟨H11 _ _ (in10 a o hm), ?_⟩)
  · exact (((Same.put s _ _).trans S3).trans S5).trans (((Same.put s5 _ _).trans S8).trans ((Same.put s8 _ _).trans S11))
  · have hf := (ft5 _ hm).2
    cases e : s.heap.get? a with
    | none => rfl
    | some o' =>
      by_cases h1 : a = 362
      · rw [h1, P3] at hf; cases hf
      by_cases h2 : a = 320
      · rw [h2, P32] at hf; cases hf
      rw [G3' _ _ (upg a o' h1 h2 e)] at hf; cases hf

-- kept
/-- rows of rows of ints -/
inductive RowsOn (φ : Addr → Obj → Prop) : List Value → List (List Int) → Prop where
  | nil : RowsOn φ [] []
  | cons {a : Addr} {r : List Int} {vs : List Value} {rows : List (List Int)} : IntsOn φ a r → RowsOn φ vs rows → RowsOn φ (.ref a :: vs) (r :: rows)
inductive GridsOn (φ : Addr → Obj → Prop) : List Value → List (List (List Int)) → Prop where
  | nil : GridsOn φ [] []
  | cons {a : Addr} {us : List Value} {na : Nat} {row : List (List Int)} {vs : List Value} {rows : List (List (List Int))} : φ a (listOf (List.toArray us) na) → RowsOn φ us row → GridsOn φ vs rows → GridsOn φ (.ref a :: vs) (row :: rows)
section
variable {φ ψ : Addr → Obj → Prop}
theorem RowsOn.mono (h : ∀ a o, φ a o → ψ a o) : ∀ {vs : List Value} {cs : List (List Int)}, RowsOn φ vs cs → RowsOn ψ vs cs
  | _, _, .nil => .nil
  | _, _, .cons a b => .cons (a.mono h) (b.mono h)
theorem GridsOn.mono (h : ∀ a o, φ a o → ψ a o) : ∀ {vs : List Value} {rows : List (List (List Int))}, GridsOn φ vs rows → GridsOn ψ vs rows
  | _, _, .nil => .nil
  | _, _, .cons a b c => .cons (h _ _ a) (b.mono h) (c.mono h)
theorem RowsOn.length : ∀ {vs : List Value} {cs : List (List Int)}, RowsOn φ vs cs → vs.length = cs.length
  | _, _, .nil => rfl
  | _, _, .cons _ b => by rw [List.length_cons, List.length_cons, b.length]
theorem GridsOn.length : ∀ {vs : List Value} {rows : List (List (List Int))}, GridsOn φ vs rows → vs.length = rows.length
  | _, _, .nil => rfl
  | _, _, .cons _ _ c => by rw [List.length_cons, List.length_cons, c.length]
theorem RowsOn.snoc {x : Addr} {c : List Int} (y : IntsOn φ x c) : ∀ {vs : List Value} {cs : List (List Int)}, RowsOn φ vs cs → RowsOn φ (vs ++ [.ref x]) (cs ++ [c])
  | _, _, .nil => .cons y .nil
  | _, _, .cons a b => .cons a (b.snoc y)
theorem GridsOn.snoc {a : Addr} {us : List Value} {na : Nat} {row : List (List Int)} (h1 : φ a (listOf (List.toArray us) na)) (h2 : RowsOn φ us row) : ∀ {vs : List Value} {rows : List (List (List Int))}, GridsOn φ vs rows → GridsOn φ (vs ++ [.ref a]) (rows ++ [row])
  | _, _, .nil => .cons h1 h2 .nil
  | _, _, .cons a b c => .cons a b (c.snoc h1 h2)
theorem RowsOn.get : ∀ {vs : List Value} {cs : List (List Int)}, RowsOn φ vs cs → ∀ {i : Nat} {v : Value}, vs[i]? = some v → ∃ x, v = .ref x ∧ IntsOn φ x (cs.getD i [])
  | _, _, .nil, i, v, e => by simp at e
  | _, _, .cons (a := x) a b, 0, v, e => ⟨x, by simpa using e.symm, a⟩
  | _, _, .cons a b, i + 1, v, e => by simpa using b.get (i := i) (by simpa using e)
theorem GridsOn.get : ∀ {vs : List Value} {rows : List (List (List Int))}, GridsOn φ vs rows → ∀ {i : Nat} {v : Value}, vs[i]? = some v → ∃ a us na, v = .ref a ∧ φ a (listOf (List.toArray us) na) ∧ RowsOn φ us (rows.getD i [])
  | _, _, .nil, i, v, e => by simp at e
  | _, _, .cons (a := a) (us := us) (na := na) h1 h2 c, 0, v, e => ⟨a, us, na, by simpa using e.symm, h1, h2⟩
  | _, _, .cons _ _ c, i + 1, v, e => by simpa using c.get (i := i) (by simpa using e)
theorem RowsOn.at {vs : List Value} {cs : List (List Int)} (h : RowsOn φ vs cs) {i : Nat} (hi : i < cs.length) : ∃ x, vs[i]? = some (.ref x) ∧ IntsOn φ x (cs.getD i []) := by
  have e : vs[i]? = some (vs[i]'(by rw [h.length]; exact hi)) := List.getElem?_eq_getElem _
  obtain ⟨x, e2, hx⟩ := h.get e
  exact ⟨x, by rw [e, e2], hx⟩
theorem GridsOn.at {vs : List Value} {rows : List (List (List Int))} (h : GridsOn φ vs rows) {i : Nat} (hi : i < rows.length) : ∃ a us na, vs[i]? = some (.ref a) ∧ φ a (listOf (List.toArray us) na) ∧ RowsOn φ us (rows.getD i []) := by
  have e : vs[i]? = some (vs[i]'(by rw [h.length]; exact hi)) := List.getElem?_eq_getElem _
  obtain ⟨a, us, na, e2, h1, h2⟩ := h.get e
  exact ⟨a, us, na, by rw [e, e2], h1, h2⟩
end
/-- a list of lists of lists of ints -/
def DataOn (φ : Addr → Obj → Prop) (l : Addr) (rows : List (List (List Int))) : Prop := ∃ vs na, φ l (listOf (List.toArray vs) na) ∧ GridsOn φ vs rows
theorem DataOn.mono {φ ψ : Addr → Obj → Prop} {l : Addr} {rows : List (List (List Int))} (h : ∀ a o, φ a o → ψ a o) (x : DataOn φ l rows) : DataOn ψ l rows := let ⟨vs, na, a, b⟩ := x; ⟨vs, na, h _ _ a, b.mono h⟩
theorem poly_coeffs {w : World} {φ : Addr → Obj → Prop} {x r : Addr} {c : List Int} (y : PolyOn w φ x r c) : ∃ dx a tp tc vs na, φ x (instObj 222 dx) ∧ φ dx (dictOf [⟨PyData.keyHash w.params "parent", .str "parent" tp, .ref r⟩, ⟨PyData.keyHash w.params "coeffs", .str "coeffs" tc, .ref a⟩] 2) ∧ φ a (listOf (List.toArray vs) na) ∧ IntsAre vs c := by
  obtain ⟨dx, a, tp, tc, h1, h2, vs, na, h3, h4⟩ := y
  exact ⟨dx, a, tp, tc, vs, na, h1, h2, h3, h4⟩

theorem lawKept {prog : Program} {w : World} {p : Program} {loose : List Str} {mg mb : Str → Option Value}
    {dp un : Nat} {fr : Option (List Env)} {gd : Option (List Code)} {h₀ : Heap} {s : Shared} {Q E : Value → Shared → Prop} {M md r l m k n kk : Nat} {tr : Bool} {rows grid : List (List (List Int))}
    (hsub : Grow h₀ s.heap) (KX : (heapK w.params).In h₀) (T : TopRead p loose mg mb h₀)
    (hM : MatOn w (HeapIs s.heap) M md r tr rows) (oM : MatOk tr rows m k n kk) (hg : DataOn (HeapIs s.heap) l grid) (hgl : grid.length = m) (hge : Even grid k)
    (heq : ∀ i j, i < m → j < k → partOf tr rows i j = (grid.getD i []).getD j [])
    (hd : dp + 5 < recursionLimit) (hu : un + 200 < cLine)
    (ret : ∀ s', Grow s.heap s'.heap → Same s s' → Q (.bool true) s') :
    wpAny (model prog w) (Ar dp fr gd un) (call (.ref 405) [.ref M, .ref l]) Q E s := by
  obtain ⟨vs, na, hl1, hl2⟩ := id hg
  obtain ⟨dM, D, tp, td, tt, hM1, hM2, hM3⟩ := id hM
  have hm1 := oM.m1; have hm3 := oM.m3; have hk1 := oM.k1; have hk3 := oM.k3
  obtain ⟨a0, us0, n0, e0, ha0, hus0⟩ := hl2.at (i := 0) (by omega)
  have hlu0 : us0.length = k := by rw [hus0.length]; exact even_get hge (by omega)
  have hlv : vs.length = m := by rw [hl2.length, hgl]
  dsimp only [HeapIs] at hM1 hM2 hl1 ha0
  have KS := KX.keeps hsub
  have TS := T.keeps hsub
  refine wpAny_call ?_
  one_item
  one_place
  rename Fr _ _ _ _ => F2
  rename News _ _ _ _ => N2
  refine Stop.out (matDim F2.keep KS TS (hM.mono (grow_is F2.keep)) oM.pos.1 oM.pos.2 (by rw [oM.row0]; cases tr <;> simp <;> omega) (by ktr_room) ?_)
  intro s3 z3 t31 t32 G3 S3 f3
  rw [oM.dim] at f3
  dsimp only at f3
  obtain ⟨N3, O3⟩ := news_fresh F2 N2 G3 f3
  have F3 := F2.keeps G3
  one_place
  rename Fr _ _ _ _ => F4
  refine sub_at (F4.keep _ _ hl1) (by decide) (by decide) e0 ?_
  one_place
  rename Fr _ _ _ _ => F5
  rename News _ _ _ _ => N5
  refine Stop.out (pair_ne (i := (m : Int)) (j := (k : Int)) (N5.get (by k_mem)) (N5.get (by k_mem)) (by show un + 3 + 64 < cLine; omega) ?_)
  rw [show (!((m : Int) == (m : Int) && (k : Int) == (k : Int))) = false from by simp]
  one_place
  refine Stop.out ?_
  with_unfolding_all refine wpAny_For ?_
  one_place
  refine Stop.out ?_
  rename IsRange _ _ _ _ _ _ _ _ => R6
  rename Fr _ _ _ _ => F6
  rename News _ _ _ _ => N6
  k_dflt (refine' for_range (σ := Unit) (n := m) (fun _ => []) (fun _ => []) [Str.ofString "j"] (fun _ _ => True) () ?hh ?hr ?hs ?hn ?hx ?hp ?hF ?hN (fun _ h => nomatch h) trivial ?_ ?_)
  case hh => rfl
  case hr => exact R6
  case hx => rfl
  case hp => rfl
  case hF => exact F6
  case hN => exact gl_sub N6 (fun _ h => nomatch h)
  case hs => exact small_one (by decide) (by decide) (by omega) (by omega)
  case hn => rw [rangeSize_nat]; omega
  · rintro i ⟨⟩ t u s₁ I oI hi - S7 F7 N7 O7
    dsimp only [kstB] at F7 N7 O7
    one_place
    refine Stop.out ?_
    with_unfolding_all refine wpAny_For ?_
    one_place
    rename Fr _ _ _ _ => F8
    refine sub_at (F8.keep _ _ hl1) (by decide) (by decide) e0 ?_
    one_place
    refine Stop.out ?_
    rename IsRange _ _ _ _ _ _ _ _ => R9
    rename Fr _ _ _ _ => F9
    rename News _ _ _ _ => N9
    k_dflt (refine' for_range (σ := Unit) (n := k) (fun _ => [(I, oI)]) (fun _ => []) [] (fun _ _ => True) () ?hh ?hr ?hs ?hn ?hx ?hp ?hF ?hN (fun _ h => nomatch h) trivial ?_ ?_)
    case hh => rfl
    case hr => exact R9
    case hx => rfl
    case hp => rfl
    case hF => exact F9
    case hN => exact gl_sub N9 (fun p hp => by rw [List.mem_singleton.mp hp]; simp)
    case hs => exact small_one (by decide) (by decide) (by omega) (by omega)
    case hn => rw [rangeSize_nat]; omega
    · rintro j ⟨⟩ t' u' s₂ I' oI' hj - S10 F10 N10 O10
      dsimp only [kstB] at F10 N10 O10
      rw [Int.zero_add] at F10
      obtain ⟨ar, ur, nr, er, har, hur⟩ := hl2.at (i := i) (by omega)
      obtain ⟨ac, ec, vc, nc, hvc, ivc⟩ := hur.at (i := j) (by rw [even_get hge (by omega)]; exact hj)
      dsimp only [HeapIs] at har hvc
      (try clear F6)
      (try clear N6)
      (try clear F7)
      (try clear N7)
      (try clear F8)
      (try clear F9)
      (try clear N9)
      (try clear R6)
      (try clear R9)
      one_place
      rename Fr _ _ _ _ => F11
      rename News _ _ _ _ => N11
      refine Stop.out ?_
      k_dflt (refine' sub_K F11 KS (instAt_is (F11.keep _ _ hM1) (F11.keep _ _ hM2)) ?h1 ?h2 ?h3 ?_; (case h1 => k_is); (case h2 => k_is); (case h3 => k_is))
      have hz11 := led_is N11 List.mem_cons_self
      simp only [Int.zero_add] at hz11
      refine matGet (i := i) (j := j) F11.keep KS TS hM F11.keep hz11 (oM.at hi hj).1 (oM.at hi hj).2 (by omega) (by omega) (by ktr_room) ?_
      intro s12 x12 H12 S12 hx12
      rw [heq i j hi hj] at hx12
      obtain ⟨dx, ax, tpx, tcx, vx, nx, hx1, hx2, hx3, ix⟩ := poly_coeffs hx12
      dsimp only [HeapIs] at hx1 hx2 hx3
      have F12 := F11.keeps H12
      have N12 := N11.grown H12
      one_place
      rename Fr _ _ _ _ => F13
      refine sub_at (F13.keep _ _ hl1) (by omega) (by omega) (by rw [Int.zero_add, Int.toNat_natCast]; exact er) ?_
      one_place
      rename Fr _ _ _ _ => F14
      refine sub_at (F14.keep _ _ har) (by omega) (by omega) (by rw [Int.toNat_natCast]; exact ec) ?_
      one_place
      rename Fr _ _ _ _ => F15
      rename News _ _ _ _ => N15
      refine Stop.out (ke_ne_ints (isList_base F15 hx3) (isList_base F15 hvc) ix ivc (by show un + 3 + 64 < cLine; omega) ?_)
      rw [decide_eq_true rfl]
      one_place
      rename Fr _ _ _ _ => F16
      rename News _ _ _ _ => N16
      refine Stop.out (TurnG.mk () ((Same.put _ _ _).trans (S12.trans (Same.put _ _ _))) F16 (gl_sub N16 (by ((try dsimp only [List.cons_append, List.nil_append, List.append_nil]); repeat (first | (with_reducible exact sl_nil) | ((with_reducible refine sl_put ?_ ?_); focus (repeat (first | (with_reducible exact List.mem_cons_self) | (with_reducible refine List.mem_cons_of_mem _ ?_)))))))) O10 (fun _ h => nomatch h) (by (intro z h1 h2 h3; (try dsimp only at h2); (simp only [List.contains_cons, List.contains_nil, Bool.or_false, Bool.or_eq_false_iff, beq_eq_false_iff_ne, ne_eq] at h3); (try simp only [List.forall_mem_cons, List.not_mem_nil, false_implies, implies_true, and_true, ne_eq] at h2); first | rfl | (simp [h1, h2, h3]; done) | (simp [h1, h3]; done) | (simp [h1, h2]; done) | (simp [h1]; done))) trivial)
    · rintro ⟨⟩ u' s₂ - S10 F10 N10
      dsimp only [kstB] at F10 N10
      one_place
      rename Fr _ _ _ _ => F17
      refine Stop.out (TurnG.mk () ((Same.put _ _ _).trans S10) F17 N10 (fun _ h => nomatch h) (fun _ h => nomatch h) (by (intro z h1 h2 h3; (try dsimp only at h2); (simp only [List.contains_cons, List.contains_nil, Bool.or_false, Bool.or_eq_false_iff, beq_eq_false_iff_ne, ne_eq] at h3); (try simp only [List.forall_mem_cons, List.not_mem_nil, false_implies, implies_true, and_true, ne_eq] at h2); first | rfl | (simp [h1, h2, h3]; done) | (simp [h1, h3]; done) | (simp [h1, h2]; done) | (simp [h1]; done))) trivial)
  · rintro ⟨⟩ u s₁ - S7 F7 N7
    dsimp only [kstB] at F7 N7
    have GK : Grow s.heap s₁.heap := F7.keep
    one_place
    exact ret _ GK (((Same.put s _ _).trans S3).trans ((Same.put s3 _ _).trans S7))

-- bd
def Bd (k : Nat) (x : Int) : Prop := x.natAbs < 2 ^ k
theorem Bd.mul {a b : Nat} {x y : Int} (hx : Bd a x) (hy : Bd b y) : Bd (a + b) (x * y) := by
  unfold Bd at *
  rw [Int.natAbs_mul, Nat.pow_add]
  exact Nat.mul_lt_mul'' hx hy
theorem Bd.mono {a b : Nat} {x : Int} (h : a ≤ b) (hx : Bd a x) : Bd b x := Nat.lt_of_lt_of_le hx (Nat.pow_le_pow_right (by decide) h)
open Builtin.Int in
theorem Bd.bits {k : Nat} {x : Int} (hx : Bd k x) : intBits x ≤ k := by
  unfold intBits
  by_cases h : x = 0
  · subst h; simp
  · have e : (x == 0) = false := by simp [h]
    rw [e]
    simp only [Bool.false_eq_true, if_false]
    have h1 : x.natAbs ≠ 0 := by omega
    have h2 := (Nat.log2_lt h1).mpr hx
    omega
open Builtin.Int in
theorem Bd.ok {a b : Nat} {x y : Int} (hx : Bd a x) (hy : Bd b y) (h : a + b ≤ 134217728) : IntMulOk x y := mulOk_bits hx.bits hy.bits h
theorem Bd.zero {k : Nat} : Bd k 0 := Nat.pow_pos (by decide)
theorem Bd.pow {k : Nat} {x : Int} (h : Bd k x) : ∀ e : Nat, Bd (k * e + 1) (x ^ e)
  | 0 => by unfold Bd; simp
  | e + 1 => by
    have h1 := (Bd.pow h e).mul h
    rw [Int.pow_succ]
    exact h1.mono (by rw [Nat.mul_succ]; omega)
theorem Bd.add {k : Nat} {x y : Int} (hx : Bd k x) (hy : Bd k y) : Bd (k + 1) (x + y) := by
  unfold Bd at *
  have := Int.natAbs_add_le x y
  rw [Nat.pow_succ]; omega
theorem Bd.emod {k : Nat} {x q : Int} (hq : 2 ≤ q) (h : Bd k q) : Bd k (x % q) := by
  unfold Bd at *
  have h1 := Int.emod_nonneg x (show q ≠ 0 by omega)
  have h2 := Int.emod_lt_of_pos x (show 0 < q by omega)
  omega
theorem getD_mem' {α : Type} {l : List α} {i : Nat} {d : α} (h : i < l.length) : l.getD i d ∈ l := by
  rw [List.getD_eq_getElem?_getD, List.getElem?_eq_getElem h]
  exact List.getElem_mem h
theorem pow_size {b : Int} {kb E : Nat} {e : Int} (hb : Bd kb b) (h0 : 0 ≤ e) (he : e ≤ (E : Int)) (h : kb * E ≤ 134217728) : (Builtin.Int.intBits b : Int) * e ≤ 2 ^ 27 := by
  obtain ⟨n, rfl⟩ := Int.eq_ofNat_of_zero_le h0
  have h1 : Builtin.Int.intBits b * n ≤ kb * E := Nat.mul_le_mul hb.bits (by omega)
  have h2 : ((Builtin.Int.intBits b * n : Nat) : Int) ≤ ((134217728 : Nat) : Int) := Int.ofNat_le.mpr (Nat.le_trans h1 h)
  rw [Int.natCast_mul] at h2
  exact h2

-- written
/-- one part of a matrix as a number in a base -/
def partNum (q base : Int) (row : List Int) : Nat → Int
  | 0 => 0
  | t + 1 => partNum q base row t + row.getD t 0 % q * base ^ t
def wrRow (q base start down across : Int) (rows : List (List (List Int))) (i : Nat) (acc : Int) : Nat → Int
  | 0 => acc
  | j + 1 => wrRow q base start down across rows i acc j + partNum q base ((rows.getD i []).getD j []) ((rows.getD i []).getD j []).length * base ^ (start + (i : Int) * down + (j : Int) * across).toNat
def wrAll (q base start down across : Int) (rows : List (List (List Int))) (k : Nat) : Nat → Int
  | 0 => 0
  | i + 1 => wrRow q base start down across rows i (wrAll q base start down across rows k i) k
theorem partNum_bd {q base : Int} {row : List Int} {kq kb : Nat} (hq : 2 ≤ q) (bq : Bd kq q) (bb : Bd kb base) : ∀ t : Nat, Bd (kq + kb * t + 1 + t) (partNum q base row t)
  | 0 => Bd.zero
  | t + 1 => by
    have h1 := (partNum_bd hq bq bb t (row := row)).mono (b := kq + kb * t + 1 + t) (by omega)
    have h2 := ((Bd.emod (x := row.getD t 0) hq bq).mul (bb.pow t)).mono (b := kq + kb * t + 1 + t) (by omega)
    exact (h1.add h2).mono (by rw [Nat.mul_succ]; omega)
theorem lawWritten {prog : Program} {w : World} {p : Program} {loose : List Str} {mg mb : Str → Option Value}
    {dp un : Nat} {fr : Option (List Env)} {gd : Option (List Code)} {h₀ : Heap} {s : Shared} {Q E : Value → Shared → Prop} {l m k n kq kb : Nat} {q base start down across : Int} {t1 t2 t3 t4 t5 : Tok} {grid : List (List (List Int))}
    (hsub : Grow h₀ s.heap) (KX : (heapK w.params).In h₀) (T : TopRead p loose mg mb h₀)
    (hg : DataOn (HeapIs s.heap) l grid) (hgl : grid.length = m) (hge : Even grid k) (hcl : ∀ row ∈ grid, ∀ c ∈ row, c.length = n) (hm1 : 1 ≤ m) (hm3 : m ≤ 3) (hk1 : 1 ≤ k) (hk3 : k ≤ 3) (hn3 : n ≤ 3)
    (hq : 2 ≤ q) (bq : Bd kq q) (bb : Bd kb base) (hkb : kq + kb * 10010 + 100 ≤ 134217728) (he : ∀ i j : Nat, i < m → j < k → 0 ≤ start + (i : Int) * down + (j : Int) * across ∧ start + (i : Int) * down + (j : Int) * across ≤ 10000)
    (hd : dp + 5 < recursionLimit)
    (ret : ∀ s' t, Grow s.heap s'.heap → Same s s' → Q (.int (wrAll q base start down across grid k m) t) s') :
    wpAny (model prog w) (Ar dp fr gd un) (call (.ref 412) [.ref l, .int start t1, .int down t2, .int across t3, .int base t4, .int q t5]) Q E s := by
  obtain ⟨vs, na, hl1, hl2⟩ := id hg
  obtain ⟨a0, us0, n0, e0, ha0, hus0⟩ := hl2.at (i := 0) (by omega)
  have hlu0 : us0.length = k := by rw [hus0.length]; exact even_get hge (by omega)
  have hlv : vs.length = m := by rw [hl2.length, hgl]
  dsimp only [HeapIs] at hl1 ha0
  refine wpAny_call ?_
  one_item
  one_place
  refine Stop.out ?_
  with_unfolding_all refine wpAny_For ?_
  one_place
  refine Stop.out ?_
  rename IsRange _ _ _ _ _ _ _ _ => R6
  rename Fr _ _ _ _ => F6
  rename News _ _ _ _ => N6
  k_dflt (refine' for_range (σ := Int × Tok) (n := m) (fun _ => []) (fun c => [(Str.ofString "whole", .int c.1 c.2)]) [Str.ofString "j", Str.ofString "row", Str.ofString "part", Str.ofString "at"] (fun i c => c.1 = wrAll q base start down across grid k i) ⟨0, _⟩ ?hh ?hr ?hs ?hn ?hx ?hp ?hF ?hN ?hk rfl ?_ ?_)
  case hh => rfl
  case hr => exact R6
  case hx => rfl
  case hp => rfl
  case hF => exact F6
  case hN => exact gl_sub N6 (fun _ h => nomatch h)
  case hk => (intro p hp; (try dsimp only at hp); (simp only [List.mem_cons, List.not_mem_nil, or_false] at hp); first | (rcases hp with rfl | rfl | rfl | rfl <;> first | rfl | assumption) | (rcases hp with rfl | rfl | rfl <;> first | rfl | assumption) | (rcases hp with rfl | rfl <;> first | rfl | assumption) | (subst hp; first | rfl | assumption))
  case hs => exact small_one (by decide) (by decide) (by omega) (by omega)
  case hn => rw [rangeSize_nat]; omega
  · rintro i ⟨acc, tacc⟩ t u s₁ I oI hi hacc S7 F7 N7 O7
    dsimp only [kstB] at F7 N7 O7 hacc
    one_place
    refine Stop.out ?_
    with_unfolding_all refine wpAny_For ?_
    one_place
    rename Fr _ _ _ _ => F8
    refine sub_at (F8.keep _ _ hl1) (by decide) (by decide) e0 ?_
    one_place
    refine Stop.out ?_
    rename IsRange _ _ _ _ _ _ _ _ => R9
    rename Fr _ _ _ _ => F9
    rename News _ _ _ _ => N9
    k_dflt (refine' for_range (σ := Int × Tok) (n := k) (fun _ => [(I, oI)]) (fun c => [(Str.ofString "whole", .int c.1 c.2)]) [Str.ofString "row", Str.ofString "part", Str.ofString "at"] (fun j c => c.1 = wrRow q base start down across grid i acc j) ⟨acc, tacc⟩ ?hh ?hr ?hs ?hn ?hx ?hp ?hF ?hN ?hk rfl ?_ ?_)
    case hh => rfl
    case hr => exact R9
    case hx => rfl
    case hp => rfl
    case hF => exact F9
    case hN => exact gl_sub N9 (fun p hp => by rw [List.mem_singleton.mp hp]; simp)
    case hk => (intro p hp; (try dsimp only at hp); (simp only [List.mem_cons, List.not_mem_nil, or_false] at hp); first | (rcases hp with rfl | rfl | rfl | rfl <;> first | rfl | assumption) | (rcases hp with rfl | rfl | rfl <;> first | rfl | assumption) | (rcases hp with rfl | rfl <;> first | rfl | assumption) | (subst hp; first | rfl | assumption))
    case hs => exact small_one (by decide) (by decide) (by omega) (by omega)
    case hn => rw [rangeSize_nat]; omega
    · rintro j ⟨acc2, tacc2⟩ t' u' s₂ I' oI' hj hacc2 S10 F10 N10 O10
      dsimp only [kstB] at F10 N10 O10 hacc2
      obtain ⟨ar, ur, nr, er, har, hur⟩ := hl2.at (i := i) (by omega)
      obtain ⟨ac, ec, vc, nc, hvc, ivc⟩ := hur.at (i := j) (by rw [even_get hge (by omega)]; exact hj)
      dsimp only [HeapIs] at har hvc
      have hlc : ((grid.getD i []).getD j []).length = n := hcl _ (getD_mem' (by omega)) _ (getD_mem' (by rw [even_get hge (by omega)]; exact hj))
      generalize hcell : (grid.getD i []).getD j [] = cell at *
      (try clear F6)
      (try clear N6)
      (try clear F7)
      (try clear N7)
      (try clear F8)
      (try clear F9)
      (try clear N9)
      (try clear R6)
      (try clear R9)
      one_place
      rename Fr _ _ _ _ => F13
      refine sub_at (F13.keep _ _ hl1) (by omega) (by omega) (by rw [Int.zero_add, Int.toNat_natCast]; exact er) ?_
      one_place
      rename Fr _ _ _ _ => F14
      refine sub_at (F14.keep _ _ har) (by omega) (by omega) (by rw [Int.zero_add, Int.toNat_natCast]; exact ec) ?_
      one_place
      refine Stop.out ?_
      with_unfolding_all refine wpAny_For ?_
      one_place
      refine Stop.out ?_
      rename IsRange _ _ _ _ _ _ _ _ => R15
      rename Fr _ _ _ _ => F15
      rename News _ _ _ _ => N15
      k_dflt (refine' for_range (σ := Int × Tok) (n := n) (fun _ => [(I', oI'), (I, oI)]) (fun c => [(Str.ofString "part", .int c.1 c.2)]) [] (fun t c => c.1 = partNum q base cell t) ⟨0, _⟩ ?hh ?hr ?hs ?hn ?hx ?hp ?hF ?hN ?hk rfl ?_ ?_)
      case hh => rfl
      case hr => exact R15
      case hx => rfl
      case hp => rfl
      case hF => exact F15
      case hN => exact gl_sub N15 (by ((try dsimp only [List.cons_append, List.nil_append, List.append_nil]); repeat (first | (with_reducible exact sl_nil) | ((with_reducible refine sl_put ?_ ?_); focus (repeat (first | (with_reducible exact List.mem_cons_self) | (with_reducible refine List.mem_cons_of_mem _ ?_)))))))
      case hk => (intro p hp; (try dsimp only at hp); (simp only [List.mem_cons, List.not_mem_nil, or_false] at hp); first | (rcases hp with rfl | rfl | rfl | rfl <;> first | rfl | assumption) | (rcases hp with rfl | rfl | rfl <;> first | rfl | assumption) | (rcases hp with rfl | rfl <;> first | rfl | assumption) | (subst hp; first | rfl | assumption))
      case hs => exact small_one (by decide) (by decide) (by omega) (by omega)
      case hn => rw [rangeSize_nat]; omega
      · rintro at' ⟨pa, tpa⟩ t'' u'' s₃ I'' oI'' hat hpa S16 F16 N16 O16
        dsimp only [kstB] at F16 N16 O16 hpa
        rw [Int.zero_add] at F16
        (try clear F13)
        (try clear F14)
        (try clear F15)
        (try clear N15)
        (try clear R15)
        (try clear F10)
        (try clear N10)
        one_place
        have hkb3 : kb * 3 ≤ kb * 10010 := Nat.mul_le_mul_left _ (by decide)
        have hkat : kb * at' ≤ kb * 3 := Nat.mul_le_mul_left _ (by omega)
        refine Stop.out (PyProof.Rows.pow_int (by omega) (pow_size (E := 3) bb (by omega) (by omega) (by omega)) ?_)
        rw [Int.toNat_natCast, Int.fmod_eq_emod_of_nonneg _ (by omega)]
        one_place
        refine Stop.out (mul_ok ((Bd.emod hq bq).ok (bb.pow at') (by omega)) ?_)
        one_place
        rename Fr _ _ _ _ => F18
        rename News _ _ _ _ => N18
        refine Stop.out (TurnG.mk ⟨pa + cell.getD at' 0 % q * base ^ at', _⟩ (Same.put _ _ _) F18 N18 O16 (by (intro p hp; (try dsimp only at hp); (simp only [List.mem_cons, List.not_mem_nil, or_false] at hp); first | (rcases hp with rfl | rfl | rfl | rfl <;> first | rfl | assumption) | (rcases hp with rfl | rfl | rfl <;> first | rfl | assumption) | (rcases hp with rfl | rfl <;> first | rfl | assumption) | (subst hp; first | rfl | assumption))) (by (intro z h1 h2 h3; (try dsimp only at h2); (simp only [List.contains_cons, List.contains_nil, Bool.or_false, Bool.or_eq_false_iff, beq_eq_false_iff_ne, ne_eq] at h3); (try simp only [List.forall_mem_cons, List.not_mem_nil, false_implies, implies_true, and_true, ne_eq] at h2); first | rfl | (simp [h1, h2, h3]; done) | (simp [h1, h3]; done) | (simp [h1, h2]; done) | (simp [h1]; done))) (by show _ = partNum q base cell at' + _; rw [hpa]))
      · rintro ⟨pa, tpa⟩ u'' s₃ hpa S16 F16 N16
        dsimp only [kstB] at F16 N16 hpa
        (try clear F13)
        (try clear F14)
        (try clear F15)
        (try clear N15)
        (try clear R15)
        (try clear F10)
        (try clear N10)
        have ebits := he i j hi hj
        one_place
        refine Stop.out (mul_ok (IntMulOk.of_left (intBits_le_64 (by omega) (by omega))) ?_)
        one_place
        refine Stop.out (mul_ok (IntMulOk.of_left (intBits_le_64 (by omega) (by omega))) ?_)
        one_place
        simp only [Int.zero_add]
        obtain ⟨ee, hee⟩ := Int.eq_ofNat_of_zero_le ebits.1
        have hee2 : ee ≤ 10000 := by omega
        have hk1' : kb * ee ≤ kb * 10000 := Nat.mul_le_mul_left _ hee2
        have hk2' : kb * n ≤ kb * 3 := Nat.mul_le_mul_left _ hn3
        refine Stop.out (PyProof.Rows.pow_int ebits.1 (pow_size (E := 10000) bb ebits.1 ebits.2 (by omega)) ?_)
        one_place
        refine Stop.out (mul_ok (Bd.ok (a := kq + kb * n + 1 + n) (b := kb * ee + 1) (by rw [hpa]; exact partNum_bd hq bq bb n) (by rw [hee, Int.toNat_natCast]; exact bb.pow ee) (by omega)) ?_)
        one_place
        rename Fr _ _ _ _ => F18
        rename News _ _ _ _ => N18
        refine Stop.out (TurnG.mk ⟨acc2 + pa * base ^ (start + (i : Int) * down + (j : Int) * across).toNat, _⟩ ((Same.put _ _ _).trans (S16.trans (Same.put _ _ _))) F18 N18 O10 (by (intro p hp; (try dsimp only at hp); (simp only [List.mem_cons, List.not_mem_nil, or_false] at hp); first | (rcases hp with rfl | rfl | rfl | rfl <;> first | rfl | assumption) | (rcases hp with rfl | rfl | rfl <;> first | rfl | assumption) | (rcases hp with rfl | rfl <;> first | rfl | assumption) | (subst hp; first | rfl | assumption))) (by (intro z h1 h2 h3; (try dsimp only at h2); (simp only [List.contains_cons, List.contains_nil, Bool.or_false, Bool.or_eq_false_iff, beq_eq_false_iff_ne, ne_eq] at h3); (try simp only [List.forall_mem_cons, List.not_mem_nil, false_implies, implies_true, and_true, ne_eq] at h2); first | rfl | (simp [h1, h2, h3]; done) | (simp [h1, h3]; done) | (simp [h1, h2]; done) | (simp [h1]; done))) ?_)
        show _ = wrRow q base start down across grid i acc j + _
        rw [hacc2, hpa, hcell, hlc]
    · rintro ⟨acc2, tacc2⟩ u' s₂ hacc2 S10 F10 N10
      dsimp only [kstB] at F10 N10 hacc2
      one_place
      rename Fr _ _ _ _ => F17
      refine Stop.out (TurnG.mk ⟨acc2, tacc2⟩ ((Same.put _ _ _).trans S10) F17 N10 (fun _ h => nomatch h) (by (intro p hp; (try dsimp only at hp); (simp only [List.mem_cons, List.not_mem_nil, or_false] at hp); first | (rcases hp with rfl | rfl | rfl | rfl <;> first | rfl | assumption) | (rcases hp with rfl | rfl | rfl <;> first | rfl | assumption) | (rcases hp with rfl | rfl <;> first | rfl | assumption) | (subst hp; first | rfl | assumption))) (by (intro z h1 h2 h3; (try dsimp only at h2); (simp only [List.contains_cons, List.contains_nil, Bool.or_false, Bool.or_eq_false_iff, beq_eq_false_iff_ne, ne_eq] at h3); (try simp only [List.forall_mem_cons, List.not_mem_nil, false_implies, implies_true, and_true, ne_eq] at h2); first | rfl | (simp [h1, h2, h3]; done) | (simp [h1, h3]; done) | (simp [h1, h2]; done) | (simp [h1]; done))) (by rw [hacc2, hacc]; rfl))
  · rintro ⟨acc, tacc⟩ u s₁ hacc S7 F7 N7
    dsimp only [kstB] at F7 N7 hacc
    have GK : Grow s.heap s₁.heap := F7.keep
    one_place
    rw [hacc]
    exact ret _ _ GK ((Same.put s _ _).trans S7)

-- draw
def drawBound : Int := 10 ^ 60 + 7
/-- the p-th number drawn -/
def drawOf (ns : List Int) (p : Nat) : Int :=
  if p < ns.length then (if ns.getD p 0 < 0 then 0 - (0 - ns.getD p 0) % drawBound else ns.getD p 0 % drawBound)
  else ((p : Int) * (p : Int) * 13 + (p : Int) * 29 + 5) % 101 - 40
def stateObj (sc : Addr) (p : Nat) (tk : Tok) (na : Nat) : Obj := listOf (List.toArray [.ref sc, .int (p : Int) tk]) na
theorem lawDraw {prog : Program} {w : World} {p : Program} {loose : List Str} {mg mb : Str → Option Value}
    {dp un : Nat} {fr : Option (List Env)} {gd : Option (List Code)} {h₀ : Heap} {s : Shared} {Q E : Value → Shared → Prop} {st sc pl na : Nat} {tk : Tok} {vs : List Value} {ns : List Int}
    (hsub : Grow h₀ s.heap) (KX : (heapK w.params).In h₀) (T : TopRead p loose mg mb h₀)
    (hP : s.heap.get? st = some (stateObj sc pl tk na)) (hP0 : h₀.get? st = none) (hs : h₀.IsList sc vs.toArray) (hi : IntsAre vs ns) (hlen : ns.length ≤ 63) (hp : pl ≤ 1000)
    (hd : dp + 1 < recursionLimit)
    (ret : ∀ s' t tk', (∀ b o, b ≠ st → s.heap.get? b = some o → s'.heap.get? b = some o) → s'.heap.get? st = some (stateObj sc (pl + 1) tk' na) → Same s s' → Q (.int (drawOf ns pl) t) s') :
    wpAny (model prog w) (Ar dp fr gd un) (call (.ref 388) [.ref st]) Q E s := by
  have hmul : IntMulOk (pl : Int) (pl : Int) := IntMulOk.of_left (intBits_le_64 (by omega) (by omega))
  have hmul2 : IntMulOk ((pl : Int) * (pl : Int)) 13 := IntMulOk.of_right (intBits_le_64 (by omega) (by omega))
  have hmul3 : IntMulOk (pl : Int) 29 := IntMulOk.of_right (intBits_le_64 (by omega) (by omega))
  refine wpAny_call ?_
  k_dflt (refine' enterH [(st, stateObj sc pl tk na)] ?k1 ?k3 ?k5 (fun q hq => ?_) ?k6 ?k7 ?k8 ?k9 ?kB ?_ ?c2 ?c3 ?c4 ?c5)
  tb_start
  · rw [List.mem_singleton.mp hq]; exact ⟨hP, hP0⟩
  intro g L' h₁ G1 G2 G3 G4 G5 KG TG F N
  have upg : ∀ b o, b ≠ st → s.heap.get? b = some o → g.get? b = some o := fun b o hb e => G3 b o e fun hm => hb (List.mem_singleton.mp hm)
  have gs := isl_up' hs G1
  clear G2 G3 G5
  one_place
  rename Fr _ _ _ _ => F2
  rename News _ _ _ _ => N2
  unfold stateObj at N2
  refine Stop.out (st_set F2 N2 (fun _ h => nomatch h) (by decide) (by show (1 : Int) < 2; decide) (by decide) ?_)
  intro h3 F3 N3
  have N3' : News g L' h3 [(st, stateObj sc (pl + 1) _ na)] := N3
  by_cases hlt : pl < ns.length
  · have hlt2 : ((pl : Int)) < (ns.length : Int) := by omega
    one_place
    refine Stop.out (PyProof.Rows.pow_int_small (by decide) (by decide) (by decide) ?_)
    have hpos : 0 < (10 : Int) ^ (60 : Int).toNat := Int.pow_pos (by decide)
    have hB2 : drawBound = (10 : Int) ^ (60 : Int).toNat + 7 := rfl
    generalize (10 : Int) ^ (60 : Int).toNat = B at hpos hB2 ⊢
    one_place
    · have hn : ns.getD (pl : Int).toNat 0 < 0 := by assumption
      rename Fr _ _ _ _ => F5
      rename News _ _ _ _ => N5
      rw [Int.fmod_eq_emod_of_nonneg _ (by omega)]
      have e : 0 - (0 - ns.getD (pl : Int).toNat 0) % (B + 7) = drawOf ns pl := by
        rw [Int.toNat_natCast] at hn ⊢
        unfold drawOf; rw [if_pos hlt, if_pos hn, hB2]
      rw [e]
      exact ret _ _ _ (fun b o hb e => F5.keep b o (upg b o hb e)) (N5 _ List.mem_cons_self).1 (Same.put _ _ _)
    · have hn : ¬ ns.getD (pl : Int).toNat 0 < 0 := by first | assumption | omega
      rename Fr _ _ _ _ => F5
      rename News _ _ _ _ => N5
      rw [Int.fmod_eq_emod_of_nonneg _ (by omega)]
      have e : ns.getD (pl : Int).toNat 0 % (B + 7) = drawOf ns pl := by
        rw [Int.toNat_natCast] at hn ⊢
        unfold drawOf; rw [if_pos hlt, if_neg hn, hB2]
      rw [e]
      exact ret _ _ _ (fun b o hb e => F5.keep b o (upg b o hb e)) (N5 _ List.mem_cons_self).1 (Same.put _ _ _)
  · have hlt2 : ¬ ((pl : Int)) < (ns.length : Int) := by omega
    one_place
    refine Stop.out (mul_ok hmul ?_)
    one_place
    refine Stop.out (mul_ok hmul2 ?_)
    one_place
    refine Stop.out (mul_ok hmul3 ?_)
    one_place
    rename Fr _ _ _ _ => F5
    rename News _ _ _ _ => N5
    have e : ((pl : Int) * (pl : Int) * 13 + (pl : Int) * 29 + 5).fmod 101 - 40 = drawOf ns pl := by
      unfold drawOf
      rw [if_neg hlt, Int.fmod_eq_emod_of_nonneg _ (show (0 : Int) ≤ 101 by decide)]
    have hQ : ∀ s' t, Q (.int (drawOf ns pl) t) s' → Q (.int (((pl : Int) * (pl : Int) * 13 + (pl : Int) * 29 + 5).fmod 101 - 40) t) s' := fun s' t h => by rw [e]; exact h
    exact hQ _ _ (ret _ _ _ (fun b o hb e => F5.keep b o (upg b o hb e)) (N5 _ List.mem_cons_self).1 (Same.put _ _ _))

-- compm
/-- what is told of a value by the objects that it is made of: it goes up, and few objects bear it -/
structure Borne (r : Value → (Addr → Obj → Prop) → Prop) : Prop where
  mono : ∀ v (φ ψ : Addr → Obj → Prop), (∀ a o, φ a o → ψ a o) → r v φ → r v ψ
  few : ∀ v φ, r v φ → ∃ tl : List (Addr × Obj), (∀ p ∈ tl, φ p.1 p.2) ∧ r v (InLed tl)
def KeepBut (ps : List Addr) (L : Addr) (h h' : Heap) : Prop := ∀ b o, b ∉ ps → b ≠ L → h.get? b = some o → h'.get? b = some o
theorem KeepBut.trans {ps : List Addr} {L : Addr} {a b c : Heap} (x : KeepBut ps L a b) (y : KeepBut ps L b c) : KeepBut ps L a c := fun i o h1 h2 e => y i o h1 h2 (x i o h1 h2 e)
theorem Grow.keepBut {ps : List Addr} {L : Addr} {h h' : Heap} (g : Grow h h') : KeepBut ps L h h' := fun b o _ _ e => g b o e
/-- the objects at ps stand as Ob says -/
def Turned (h₀ : Heap) (L : Addr) (ps : List Addr) (Ob : List (Addr × Obj) → Prop) (h : Heap) : Prop := ∃ T : List (Addr × Obj), T.map (·.1) = ps ∧ News h₀ L h T ∧ Ob T
/-- an element's end by what it makes; the objects at ps turn -/
structure EltM (h₀ : Heap) (L : Addr) (m : Str → Option Value) (ps : List Addr) (r : Value → (Addr → Obj → Prop) → Prop) (Ob : List (Addr × Obj) → Prop) (s₁ : Shared) (y : Value) (s₂ : Shared) : Prop where
  same : Same s₁ s₂
  fr : Fr h₀ L s₂.heap m
  keep : KeepBut ps L s₁.heap s₂.heap
  val : r y (Fresh s₁.heap s₂.heap)
  turned : Turned h₀ L ps Ob s₂.heap
/-- what a comprehension has made -/
structure CompMade (h₀ : Heap) (L : Addr) (ps : List Addr) (r : Nat → Value → (Addr → Obj → Prop) → Prop) (Ob : List (Addr × Obj) → Prop) (n : Nat) (h : Heap) (D : Addr) (ys : List Value) (h' : Heap) : Prop where
  len : ys.length = n
  items : ∀ k v, ys[k]? = some v → r k v (Fresh h h')
  list : Fresh h h' D (LCg.lst ys)
  keep : KeepBut ps L h h'
  turned : Turned h₀ L ps Ob h'
/-- all that stands beside the ground, the frame and the turning objects -/
noncomputable def beside (h₀ : Heap) (L : Addr) (ps : List Addr) (h : Heap) : List (Addr × Obj) :=
  open Classical in (List.range h.objs.size).filterMap fun a => match h.get? a with | some o => if a ≠ L ∧ h₀.get? a = none ∧ a ∉ ps then some (a, o) else none | none => none
theorem mem_beside {h₀ h : Heap} {L a : Addr} {o : Obj} {ps : List Addr} : (a, o) ∈ beside h₀ L ps h ↔ h.get? a = some o ∧ a ≠ L ∧ h₀.get? a = none ∧ a ∉ ps := by
  unfold beside
  rw [List.mem_filterMap]
  constructor
  · rintro ⟨b, _, e⟩
    cases q : h.get? b with
    | none => rw [q] at e; cases e
    | some o' =>
      rw [q] at e
      dsimp only at e
      split at e
      · rename_i hc
        cases e
        exact ⟨q, hc⟩
      · cases e
  · rintro ⟨e, hc⟩
    refine ⟨a, List.mem_range.mpr (Heap.lt_size e), ?_⟩
    rw [e]
    dsimp only
    rw [if_pos hc]
def JM (h₀ : Heap) (L : Addr) (ps : List Addr) (r : Nat → Value → (Addr → Obj → Prop) → Prop) (Ob : Nat → List (Addr × Obj) → Prop) (h : Heap) (i : Nat) (ys : List Value) (led : List (Addr × Obj)) : Prop :=
  ∃ T tl, led = T ++ (beside h₀ L ps h ++ tl) ∧ T.map (·.1) = ps ∧ Ob i T ∧ (∀ p ∈ tl, h.get? p.1 = none) ∧ ∀ k v, ys[k]? = some v → r k v (InLed tl)
theorem news_keep {h₀ h h' : Heap} {L : Addr} {ps : List Addr} {led : List (Addr × Obj)} (N : News h₀ L h led) (K : KeepBut ps L h h') (hn : ∀ p ∈ led, p.1 ∉ ps) : News h₀ L h' led := fun p hp => ⟨K _ _ (hn p hp) (N p hp).2.1 (N p hp).1, (N p hp).2⟩
theorem news_app {h₀ h : Heap} {L : Addr} {a b : List (Addr × Obj)} (x : News h₀ L h a) (y : News h₀ L h b) : News h₀ L h (a ++ b) := fun p hp => (List.mem_append.mp hp).elim (x p) (y p)
theorem snoc_of {α : Type} {ys : List α} {n : Nat} (h : ys.length = n + 1) : ∃ as a, ys = as ++ [a] := ⟨ys.dropLast, ys.getLast (fun e => by rw [e] at h; cases h), (List.dropLast_concat_getLast _).symm⟩
def IntV (z : Int) (v : Value) (_ : Addr → Obj → Prop) : Prop := ∃ t, v = .int z t
theorem borne_intV (z : Int) : Borne (IntV z) := ⟨fun _ _ _ _ h => h, fun _ _ h => ⟨[], (fun _ h => nomatch h), h⟩⟩
theorem compMade_ints {h₀ h h' : Heap} {L D : Addr} {ps : List Addr} {Ob : List (Addr × Obj) → Prop} {n : Nat} {ys : List Value} {f : Nat → Int} (z : CompMade h₀ L ps (fun i => IntV (f i)) Ob n h D ys h') : IntsAre ys ((List.range n).map f) := by
  have h1 := z.len
  have h2 := z.items
  clear z
  induction n generalizing ys with
  | zero => rw [List.length_eq_zero_iff.mp h1]; exact .nil
  | succ n ih =>
    obtain ⟨as, a, rfl⟩ := snoc_of h1
    rw [List.length_append, List.length_singleton] at h1
    obtain ⟨t, ht⟩ := h2 n a (by rw [List.getElem?_append_right (by omega), show n - as.length = 0 by omega]; rfl)
    rw [List.range_succ, List.map_append, ht]
    exact (ih (by omega) fun k v e => h2 k v (by rw [List.getElem?_append_left (List.getElem?_eq_some_iff.mp e).1]; exact e)).append (.cons _ _ .nil)
section
variable {h₀ h h₁ h₂ : Heap} {L : Addr} {m : Str → Option Value} {ps : List Addr} {r : Nat → Value → (Addr → Obj → Prop) → Prop} {Ob : Nat → List (Addr × Obj) → Prop}
theorem JM.zero {T : List (Addr × Obj)} (hT : T.map (·.1) = ps) (h0 : Ob 0 T) : JM h₀ L ps r Ob h 0 [] (T ++ beside h₀ L ps h) :=
  ⟨T, [], by rw [List.append_nil], hT, h0, (fun _ h => nomatch h), fun k v e => by simp at e⟩
theorem beside_news {T : List (Addr × Obj)} (N : News h₀ L h T) : News h₀ L h (T ++ beside h₀ L ps h) := fun p hp => by
  rcases List.mem_append.mp hp with hp | hp
  · exact N p hp
  · have := mem_beside.mp (show (p.1, p.2) ∈ _ from hp); exact ⟨this.1, this.2.1, this.2.2.1⟩
theorem keep_of_beside {h₀ h h₁ : Heap} {L : Addr} {m' : Str → Option Value} {ps : List Addr} (G : Grow h₀ h) (F₁ : Fr h₀ L h₁ m') (N : News h₀ L h₁ (beside h₀ L ps h)) : KeepBut ps L h h₁ := fun b o hb hL e => by
  cases q : h₀.get? b with
  | some o' =>
    have := G b o' q
    rw [e] at this
    rw [Option.some.inj this]
    exact F₁.keep b o' q
  | none => exact (N (b, o) (mem_beside.mpr ⟨e, hL, q, hb⟩)).1
/-- the old heap at a turn -/
theorem jm_keep {m' : Str → Option Value} {T tl : List (Addr × Obj)} (F : Fr h₀ L h m) (F₁ : Fr h₀ L h₁ m') (N : News h₀ L h₁ (T ++ (beside h₀ L ps h ++ tl))) : KeepBut ps L h h₁ :=
  keep_of_beside F.keep F₁ fun p hp => N p (List.mem_append_right _ (List.mem_append_left _ hp))
theorem fresh_back {h' : Heap} {a : Addr} {o : Obj} (F : Fr h₀ L h m) (F₁ : Grow h₀ h₁) (N : News h₀ L h (beside h₀ L [] h₁)) (f : Fresh h h' a o) : Fresh h₁ h' a o := ⟨f.1, by
  cases q : h₁.get? a with
  | none => rfl
  | some o' =>
    exfalso
    by_cases hL : a = L
    · have := F.ns
      rw [← hL] at this
      obtain ⟨_, ho, _⟩ := LCg.ns_obj this
      rw [f.2] at ho; cases ho
    · have := keep_of_beside F₁ F N a o' (fun hm => nomatch hm) hL q
      rw [f.2] at this; cases this⟩
theorem jm_old {T tl : List (Addr × Obj)} {X : List (Addr × Obj)} {a : Addr} (hT : T.map (·.1) = ps) (F : Fr h₀ L h m) (F₁ : Fr h₀ L h₁ m) (N : News h₀ L h₁ (X ++ (T ++ (beside h₀ L ps h ++ tl)))) (e : h₁.get? a = none) : h.get? a = none := by
  cases q : h.get? a with
  | none => rfl
  | some o =>
    exfalso
    by_cases hL : a = L
    · have := F₁.ns
      rw [← hL] at this
      obtain ⟨_, ho, _⟩ := LCg.ns_obj this
      rw [ho] at e; cases e
    by_cases hb : a ∈ ps
    · rw [← hT] at hb
      obtain ⟨p, hp, rfl⟩ := List.mem_map.mp hb
      rw [(N p (List.mem_append_right _ (List.mem_append_left _ hp))).1] at e; cases e
    · have := jm_keep F F₁ (fun p hp => N p (List.mem_append_right _ hp)) a o hb hL q
      rw [e] at this; cases this
/-- a turn's end: the ledger behind it -/
theorem jm_next {X T tl : List (Addr × Obj)} {s₁ s₂ : Shared} {i : Nat} {ys : List Value} {y : Value} (hb : ∀ k, Borne (r k)) (F : Fr h₀ L h m) (F₁ : Fr h₀ L s₁.heap m) (hl : ys.length = i) (hT : T.map (·.1) = ps) (N : News h₀ L s₁.heap (X ++ (T ++ (beside h₀ L ps h ++ tl))))
    (off : ∀ p ∈ T ++ (beside h₀ L ps h ++ tl), ∀ x ∈ X, p.1 ≠ x.1) (htl : ∀ p ∈ tl, h.get? p.1 = none) (hit : ∀ k v, ys[k]? = some v → r k v (InLed tl)) (hps : ∀ p ∈ ps, h.get? p ≠ none) (z : EltM h₀ L m ps (r i) (Ob (i + 1)) s₁ y s₂) :
    ∃ led', News h₀ L s₂.heap (X ++ led') ∧ (∀ p ∈ led', ∀ x ∈ X, p.1 ≠ x.1) ∧ JM h₀ L ps r Ob h (i + 1) (ys ++ [y]) led' := by
  obtain ⟨S, F₂, K, hv, T', hT', NT, hO⟩ := z
  obtain ⟨tl', f', hv'⟩ := (hb i).few _ _ hv
  have offps : ∀ x ∈ X, x.1 ∉ ps := fun x hx hm => by
    rw [← hT] at hm
    obtain ⟨p, hp, e⟩ := List.mem_map.mp hm
    exact off p (List.mem_append_left _ hp) x hx e
  refine ⟨T' ++ (beside h₀ L ps h ++ (tl ++ tl')), fun p hp => ?_, fun p hp x hx => ?_, T', tl ++ tl', rfl, hT', hO, fun p hp => ?_, fun k v e => ?_⟩
  · rcases List.mem_append.mp hp with hp | hp
    · have n := N p (List.mem_append_left _ hp)
      exact ⟨K _ _ (offps p hp) n.2.1 n.1, n.2⟩
    rcases List.mem_append.mp hp with hp | hp
    · exact NT p hp
    rcases List.mem_append.mp hp with hp | hp
    · have n := N p (List.mem_append_right _ (List.mem_append_right _ (List.mem_append_left _ hp)))
      exact ⟨K _ _ (mem_beside.mp (show (p.1, p.2) ∈ _ from hp)).2.2.2 n.2.1 n.1, n.2⟩
    rcases List.mem_append.mp hp with hp | hp
    · have n := N p (List.mem_append_right _ (List.mem_append_right _ (List.mem_append_right _ hp)))
      exact ⟨K _ _ (fun hm => hps _ hm (htl p hp)) n.2.1 n.1, n.2⟩
    · exact ⟨(f' p hp).1, fresh_ne F₁ (f' p hp), (fresh_sub (f' p hp) F₁.keep).2⟩
  · rcases List.mem_append.mp hp with hp | hp
    · intro e
      refine offps x hx ?_
      rw [← e, ← hT']
      exact List.mem_map_of_mem hp
    rcases List.mem_append.mp hp with hp | hp
    · exact off p (List.mem_append_right _ (List.mem_append_left _ hp)) x hx
    rcases List.mem_append.mp hp with hp | hp
    · exact off p (List.mem_append_right _ (List.mem_append_right _ hp)) x hx
    · intro e
      have := (f' p hp).2
      rw [e, (N x (List.mem_append_left _ hx)).1] at this
      cases this
  · rcases List.mem_append.mp hp with hp | hp
    · exact htl p hp
    · exact jm_old hT F F₁ N (f' p hp).2
  · by_cases hk : k < ys.length
    · rw [List.getElem?_append_left hk] at e
      exact (hb k).mono _ _ _ (fun a o hm => List.mem_append_left _ hm) (hit k v e)
    · have hk2 : k = i := by
        have := (List.getElem?_eq_some_iff.mp e).1
        rw [List.length_append, List.length_singleton] at this
        omega
      subst hk2
      rw [List.getElem?_append_right (by omega), hl, Nat.sub_self] at e
      simp only [List.getElem?_cons_zero, Option.some.injEq] at e
      subst e
      exact (hb k).mono _ _ _ (fun a o hm => List.mem_append_right _ hm) hv'
theorem jm_done {led : List (Addr × Obj)} {D n : Nat} {ys : List Value} {m' : Str → Option Value} (hb : ∀ k, Borne (r k)) (F : Fr h₀ L h m) (F₁ : Fr h₀ L h₁ m') (N : News h₀ L h₁ ((D, LCg.lst ys) :: led)) (hD : h.get? D = none) (hl : ys.length = n) (hJ : JM h₀ L ps r Ob h n ys led) : CompMade h₀ L ps r (Ob n) n h D ys h₁ := by
  obtain ⟨T, tl, rfl, hT, hO, htl, hit⟩ := hJ
  refine ⟨hl, fun k v e => (hb k).mono _ _ _ (fun a o hm => ?_) (hit k v e), ⟨(N _ List.mem_cons_self).1, hD⟩, fun b o hb hL e => ?_, T, hT, fun p hp => N p (List.mem_cons_of_mem _ (List.mem_append_left _ hp)), hO⟩
  · exact ⟨(N (a, o) (List.mem_cons_of_mem _ (List.mem_append_right _ (List.mem_append_right _ hm)))).1, htl _ hm⟩
  · cases q : h₀.get? b with
    | some o' =>
      have := F.keep b o' q
      rw [e] at this
      rw [Option.some.inj this]
      exact F₁.keep b o' q
    | none => exact (N (b, o) (List.mem_cons_of_mem _ (List.mem_append_right _ (List.mem_append_left _ (mem_beside.mpr ⟨e, hL, q, hb⟩))))).1
/-- what has been made since an elder heap that has but grown -/
theorem CompMade.before {h' : Heap} {D n : Nat} {ys : List Value} {O : List (Addr × Obj) → Prop} (hb : ∀ k, Borne (r k)) (F : Fr h₀ L h m) (F₁ : Grow h₀ h₁) (N : News h₀ L h (beside h₀ L [] h₁)) (z : CompMade h₀ L ps r O n h D ys h') : CompMade h₀ L ps r O n h₁ D ys h' :=
  ⟨z.len, fun k v e => (hb k).mono _ _ _ (fun _ _ f => fresh_back F F₁ N f) (z.items k v e), fresh_back F F₁ N z.list, fun b o hb hL e => z.keep b o hb hL (keep_of_beside F₁ F N b o (fun hm => nomatch hm) hL e), z.turned⟩
theorem beside_self (ps : List Addr) : News h₀ L h (beside h₀ L ps h) := fun p hp => by
  have := mem_beside.mp (show (p.1, p.2) ∈ _ from hp); exact ⟨this.1, this.2.1, this.2.2.1⟩
/-- an element's end behind a call that keeps all but ps -/
theorem EltM.call {r' : Value → (Addr → Obj → Prop) → Prop} {O : List (Addr × Obj) → Prop} {s₁ s₂ s₃ : Shared} {y : Value} (T : List (Addr × Obj)) (F₁ : Grow h₀ s₁.heap) (F : Fr h₀ L s₂.heap m) (N : News h₀ L s₂.heap (beside h₀ L [] s₁.heap)) (S : Same s₁ s₃) (K : ∀ b o, b ∉ ps → s₂.heap.get? b = some o → s₃.heap.get? b = some o) (hps : ∀ p ∈ ps, h₀.get? p = none ∧ p ≠ L)
    (hv : r' y (Fresh s₁.heap s₃.heap)) (hT : T.map (·.1) = ps) (hh : ∀ p ∈ T, s₃.heap.get? p.1 = some p.2) (hO : O T) : EltM h₀ L m ps r' O s₁ y s₃ := by
  have F₃ : Fr h₀ L s₃.heap m := ⟨F.ns.at' fun o e => K _ o (fun hb => (hps _ hb).2 rfl) e, fun b o e => K b o (fun hb => by rw [(hps b hb).1] at e; cases e) (F.keep b o e), F.above⟩
  refine ⟨S, F₃, fun b o hb hL e => K b o hb (keep_of_beside F₁ F N b o (fun hm => nomatch hm) hL e), hv, T, hT, fun p hp => ?_, hO⟩
  have hm : p.1 ∈ ps := by rw [← hT]; exact List.mem_map_of_mem hp
  exact ⟨hh p hp, (hps _ hm).2, (hps _ hm).1⟩
end
section
variable {prog : Program} {w : World} {A : Around} {env : Env} {h₀ : Heap} {L : Addr} {m : Str → Option Value} {elt : PySem.Expr} {x : Str} {scope : Scope} {cl : List (Str × Addr)} {s : Shared}
  {ps : List Addr} {Ob : Nat → List (Addr × Obj) → Prop} {T₀ : List (Addr × Obj)} {n : Nat}
/-- a comprehension's turn by what it makes -/
def TurnM (prog : Program) (w : World) (A : Around) (env : Env) (h₀ : Heap) (L : Addr) (m : Str → Option Value) (elt : PySem.Expr) (x : Str) (scope : Scope) (cl : List (Str × Addr)) (n : Nat) (P : Nat → Value → Prop) (ps : List Addr) (r : Nat → Value → (Addr → Obj → Prop) → Prop) (Ob : Nat → List (Addr × Obj) → Prop) (s : Shared) : Prop :=
  ∀ i v C oC (m₂ : Str → Option Value) s₁ T (E' : Value → Shared → Prop), i < n → P i v → T.map (·.1) = ps → Ob i T → LCg.NsObj oC m₂ → m₂ x = some v → Same s s₁ → KeepBut ps L s.heap s₁.heap → Fr h₀ L s₁.heap m → News h₀ L s₁.heap ((C, oC) :: T) → C ∉ ps →
    wpAny (model prog w) A (eval elt (compEnvC scope cl C env)) (EltM h₀ L m ps (r i) (Ob (i + 1)) s₁) E' s₁
theorem turnM_turn {r : Nat → Value → (Addr → Obj → Prop) → Prop} {P : Nat → Value → Prop} (hb : ∀ i, Borne (r i)) (F : Fr h₀ L s.heap m) (N : News h₀ L s.heap T₀) (hT₀ : T₀.map (·.1) = ps) (turn : TurnM prog w A env h₀ L m elt x scope cl n P ps r Ob s) :
    CompTurn prog w A env h₀ L m elt x scope cl n P (JM h₀ L ps r Ob s.heap) s := by
  have hps : ∀ p ∈ ps, s.heap.get? p ≠ none := fun p hp => by
    rw [← hT₀] at hp
    obtain ⟨q, hq, rfl⟩ := List.mem_map.mp hp
    rw [(N q hq).1]; exact fun e => nomatch e
  rintro i ys led v I oI C oC D m₂ s₁ E' hi hl ⟨T, tl, rfl, hT, hO, htl, hit⟩ hP hC hx S F₁ N₁ off
  have N' : News h₀ L s₁.heap ([(I, oI), (C, oC), (D, LCg.lst ys)] ++ (T ++ (beside h₀ L ps s.heap ++ tl))) := N₁
  refine wpAny_mono (turn i v C oC m₂ s₁ T E' hi hP hT hO hC hx S (jm_keep F F₁ (fun p hp => N' p (List.mem_append_right _ hp))) F₁ (fun p hp => ?_) (fun hm => ?_)) (fun y s₂ z => ?_) fun _ _ e => e
  · rcases List.mem_cons.mp hp with rfl | hp
    · exact N₁ _ (by simp)
    · exact N₁ p (by simp [hp])
  · rw [← hT] at hm
    obtain ⟨p, hp, e⟩ := List.mem_map.mp hm
    exact (off p (List.mem_append_left _ hp)).2.1 e
  · obtain ⟨led', N₂, o₂, J₂⟩ := jm_next hb F F₁ hl hT N' (fun p hp y hy => by
      have := off p hp
      simp only [List.mem_cons, List.not_mem_nil, or_false] at hy
      rcases hy with rfl | rfl | rfl
      · exact this.1
      · exact this.2.1
      · exact this.2.2) htl hit hps z
    exact EltG.mk led' z.same z.fr N₂ (fun p hp => ⟨o₂ p hp (I, oI) (by simp), o₂ p hp (C, oC) (by simp), o₂ p hp (D, LCg.lst ys) (by simp)⟩) J₂
def DoneM (h₀ : Heap) (L : Addr) (m : Str → Option Value) (ps : List Addr) (r : Nat → Value → (Addr → Obj → Prop) → Prop) (Ob : List (Addr × Obj) → Prop) (n : Nat) (s : Shared) (Fin : Value → List Value → List (Addr × Obj) → Shared → Prop) : Prop :=
  ∀ D ys led s₃, Same s s₃ → Fr h₀ L s₃.heap m → News h₀ L s₃.heap ((D, LCg.lst ys) :: led) → (∀ h' m', Fr h₀ L h' m' → News h₀ L h' ((D, LCg.lst ys) :: led) → CompMade h₀ L ps r Ob n s.heap D ys h') → Fin (.ref D) ys led s₃
theorem DoneM.eval {Q : Value → Shared → Prop} {r : Nat → Value → (Addr → Obj → Prop) → Prop} {Ob : List (Addr × Obj) → Prop} (done : ∀ D ys s₃, Same s s₃ → Fr h₀ L s₃.heap m → CompMade h₀ L ps r Ob n s.heap D ys s₃.heap → Q (.ref D) s₃) : DoneM h₀ L m ps r Ob n s (fun v _ _ s' => Q v s') :=
  fun D ys _ s₃ S F N mk => done D ys s₃ S F (mk _ _ F N)
theorem DoneM.store {Q : Flow → Shared → Prop} {y : Str} {r : Nat → Value → (Addr → Obj → Prop) → Prop} {Ob : List (Addr × Obj) → Prop} (done : ∀ D ys s₄, Same s s₄ → Fr h₀ L s₄.heap (fun z => if z = y then some (.ref D) else m z) → CompMade h₀ L ps r Ob n s.heap D ys s₄.heap → Q .next s₄) : DoneM h₀ L m ps r Ob n s (FinStore h₀ L m y Q) :=
  fun D ys led s₃ S _ _ mk D' s₄ e S' F' N' => by
    cases e
    exact done D ys s₄ (S.trans S') F' (mk _ _ F' N')
section
variable {Fin : Value → List Value → List (Addr × Obj) → Shared → Prop}
theorem CompG.makes {rg : Addr} {a b : Int} {t u v : Tok} (r : Nat → Value → (Addr → Obj → Prop) → Prop) (hb : ∀ i, Borne (r i)) (hh : A.handled = none) (F : Fr h₀ L s.heap m) (N : News h₀ L s.heap T₀) (hT₀ : T₀.map (·.1) = ps) (h0 : Ob 0 T₀)
    (hr : IsRange s.heap rg a b 1 t u v) (hsm : Builtin.Range.small a b 1 = true) (hn : Builtin.Range.rangeSize a b 1 = (n : Int)) (hsz : n ≤ sizeLine)
    (turn : TurnM prog w A env h₀ L m elt x scope cl n (fun i v => ∃ t, v = .int (a + (i : Int)) t) ps r Ob s) (done : DoneM h₀ L m ps r (Ob n) n s Fin) :
    CompG prog w A env h₀ L m elt x scope cl Fin (.ref rg) s :=
  ⟨hh, n, _, JM h₀ L ps r Ob s.heap, T₀ ++ beside h₀ L ps s.heap, hsz, F, beside_news N, .zero hT₀ h0, .inl ⟨rg, a, b, t, u, v, rfl, hr, hsm, hn, rfl⟩, turnM_turn hb F N hT₀ turn,
    fun D ys led s₃ hl hJ S₃ F₃ N₃ _ hD => done D ys led s₃ S₃ F₃ N₃ fun _ _ F₄ N₄ => jm_done hb F F₄ N₄ hD hl hJ⟩
theorem CompG.makesL {l : Addr} {vs : List Value} {na : Nat} (r : Nat → Value → (Addr → Obj → Prop) → Prop) (hb : ∀ i, Borne (r i)) (hh : A.handled = none) (F : Fr h₀ L s.heap m) (N : News h₀ L s.heap T₀) (hT₀ : T₀.map (·.1) = ps) (h0 : Ob 0 T₀)
    (hl : h₀.get? l = some (listOf vs.toArray na)) (hsz : vs.length ≤ sizeLine)
    (turn : TurnM prog w A env h₀ L m elt x scope cl vs.length (fun i v => vs.toArray[i]? = some v) ps r Ob s) (done : DoneM h₀ L m ps r (Ob vs.length) vs.length s Fin) :
    CompG prog w A env h₀ L m elt x scope cl Fin (.ref l) s :=
  ⟨hh, vs.length, _, JM h₀ L ps r Ob s.heap, T₀ ++ beside h₀ L ps s.heap, hsz, F, beside_news N, .zero hT₀ h0, .inr ⟨l, vs.toArray, rfl, List.size_toArray, rfl, .inl ⟨_, hl, rfl, na, rfl⟩⟩, turnM_turn hb F N hT₀ turn,
    fun D ys led s₃ hl hJ S₃ F₃ N₃ _ hD => done D ys led s₃ S₃ F₃ N₃ fun _ _ F₄ N₄ => jm_done hb F F₄ N₄ hD hl hJ⟩
theorem CompG.makesH {l : Addr} {vs : List Value} {na : Nat} (r : Nat → Value → (Addr → Obj → Prop) → Prop) (hb : ∀ i, Borne (r i)) (hh : A.handled = none) (F : Fr h₀ L s.heap m) (N : News h₀ L s.heap T₀) (hT₀ : T₀.map (·.1) = ps) (h0 : Ob 0 T₀)
    (hl : s.heap.get? l = some (listOf vs.toArray na)) (hL : l ≠ L) (hg : h₀.get? l = none) (hp : l ∉ ps) (hsz : vs.length ≤ sizeLine)
    (turn : TurnM prog w A env h₀ L m elt x scope cl vs.length (fun i v => vs.toArray[i]? = some v) ps r Ob s) (done : DoneM h₀ L m ps r (Ob vs.length) vs.length s Fin) :
    CompG prog w A env h₀ L m elt x scope cl Fin (.ref l) s :=
  ⟨hh, vs.length, _, JM h₀ L ps r Ob s.heap, T₀ ++ beside h₀ L ps s.heap, hsz, F, beside_news N, .zero hT₀ h0, .inr ⟨l, vs.toArray, rfl, List.size_toArray, rfl, .inr ⟨_, fun _ _ _ ⟨_, _, e, _⟩ => by rw [e]; exact List.mem_append_right _ (List.mem_append_left _ (mem_beside.mpr ⟨hl, hL, hg, hp⟩)), rfl, na, rfl⟩⟩, turnM_turn hb F N hT₀ turn,
    fun D ys led s₃ hl hJ S₃ F₃ N₃ _ hD => done D ys led s₃ S₃ F₃ N₃ fun _ _ F₄ N₄ => jm_done hb F F₄ N₄ hD hl hJ⟩
theorem CompGC.makes {rg : Addr} {a b : Int} {t u v : Tok} (r : Nat → Value → (Addr → Obj → Prop) → Prop) (hb : ∀ i, Borne (r i)) (hh : A.handled = none) (F : Fr h₀ L s.heap m) (N : News h₀ L s.heap T₀) (hT₀ : T₀.map (·.1) = ps) (h0 : Ob 0 T₀)
    (hr : IsRange s.heap rg a b 1 t u v) (hsm : Builtin.Range.small a b 1 = true) (hn : Builtin.Range.rangeSize a b 1 = (n : Int)) (hsz : n ≤ sizeLine)
    (turn : ∀ i tk C oC R oR s₁ T (E' : Value → Shared → Prop), i < n → T.map (·.1) = ps → Ob i T → oR.data = .cell (some (.int (a + (i : Int)) tk)) → Same s s₁ → KeepBut ps L s.heap s₁.heap → Fr h₀ L s₁.heap m → News h₀ L s₁.heap ((C, oC) :: (R, oR) :: T) →
      wpAny (model prog w) A (eval elt (compEnvC scope ((x, R) :: cl) C env)) (EltM h₀ L m ps (r i) (Ob (i + 1)) s₁) E' s₁) (done : DoneM h₀ L m ps r (Ob n) n s Fin) :
    CompGC prog w A env h₀ L m elt x scope cl Fin (.ref rg) s := by
  have hps : ∀ p ∈ ps, s.heap.get? p ≠ none := fun p hp => by
    rw [← hT₀] at hp
    obtain ⟨q, hq, rfl⟩ := List.mem_map.mp hp
    rw [(N q hq).1]; exact fun e => nomatch e
  refine ⟨hh, n, JM h₀ L ps r Ob s.heap, T₀ ++ beside h₀ L ps s.heap, hsz, F, beside_news N, .zero hT₀ h0, rg, a, b, t, u, v, rfl, hr, hsm, hn, ?_, fun D ys led s₃ hl hJ S₃ F₃ N₃ _ hD => done D ys led s₃ S₃ F₃ N₃ fun _ _ F₄ N₄ => jm_done hb F F₄ N₄ hD hl hJ⟩
  rintro i ys led v I oI C oC D R oR s₁ E' hi hl ⟨T, tl, rfl, hT, hO, htl, hit⟩ ⟨tk, rfl⟩ hR S F₁ N₁ off
  have N' : News h₀ L s₁.heap ([(I, oI), (C, oC), (D, LCg.lst ys), (R, oR)] ++ (T ++ (beside h₀ L ps s.heap ++ tl))) := N₁
  refine wpAny_mono (turn i tk C oC R oR s₁ T E' hi hT hO hR S (jm_keep F F₁ (fun p hp => N' p (List.mem_append_right _ hp))) F₁ (fun p hp => ?_)) (fun y s₂ z => ?_) fun _ _ e => e
  · rcases List.mem_cons.mp hp with rfl | hp
    · exact N₁ _ (by simp)
    rcases List.mem_cons.mp hp with rfl | hp
    · exact N₁ _ (by simp)
    · exact N₁ p (by simp [hp])
  · obtain ⟨led', N₂, o₂, J₂⟩ := jm_next hb F F₁ hl hT N' (fun p hp y hy => by
      have := off p hp
      simp only [List.mem_cons, List.not_mem_nil, or_false] at hy
      rcases hy with rfl | rfl | rfl | rfl
      · exact this.1
      · exact this.2.1
      · exact this.2.2.1
      · exact this.2.2.2) htl hit hps z
    exact EltGC.mk led' z.same z.fr N₂ (fun p hp => ⟨o₂ p hp (I, oI) (by simp), o₂ p hp (C, oC) (by simp), o₂ p hp (D, LCg.lst ys) (by simp), o₂ p hp (R, oR) (by simp)⟩) J₂
end
end

-- grid
/-- n numbers drawn from the p-th on; rows of them; a grid -/
def drawRow (ns : List Int) (p n : Nat) : List Int := (List.range n).map fun u => drawOf ns (p + u)
def drawRows (ns : List Int) (p cols n : Nat) : List (List Int) := (List.range cols).map fun j => drawRow ns (p + j * n) n
def drawGrid (ns : List Int) (p rows cols n : Nat) : List (List (List Int)) := (List.range rows).map fun i => drawRows ns (p + i * (cols * n)) cols n
theorem ints_few {φ : Addr → Obj → Prop} {l : Addr} {c : List Int} (y : IntsOn φ l c) : ∃ tl : List (Addr × Obj), (∀ p ∈ tl, φ p.1 p.2) ∧ IntsOn (InLed tl) l c := by
  obtain ⟨vs, na, h1, h2⟩ := y
  refine ⟨[(l, listOf vs.toArray na)], fun p hp => ?_, vs, na, List.mem_cons_self, h2⟩
  rw [List.mem_singleton.mp hp]; exact h1
theorem rows_few {φ : Addr → Obj → Prop} : ∀ {us : List Value} {rows : List (List Int)}, RowsOn φ us rows → ∃ tl : List (Addr × Obj), (∀ p ∈ tl, φ p.1 p.2) ∧ RowsOn (InLed tl) us rows
  | _, _, .nil => ⟨[], fun _ h => (nomatch h), .nil⟩
  | _, _, .cons y c => by
    obtain ⟨t1, f1, y1⟩ := ints_few y
    obtain ⟨t2, f2, c2⟩ := rows_few c
    exact ⟨t1 ++ t2, fun p hp => (List.mem_append.mp hp).elim (f1 p) (f2 p), .cons (y1.mono fun _ _ h => List.mem_append_left _ h) (c2.mono fun _ _ h => List.mem_append_right _ h)⟩
/-- a value that is a list of ints; of lists of ints -/
def IntsV (c : List Int) (v : Value) (φ : Addr → Obj → Prop) : Prop := ∃ x, v = .ref x ∧ IntsOn φ x c
def RowsV (rows : List (List Int)) (v : Value) (φ : Addr → Obj → Prop) : Prop := ∃ x us na, v = .ref x ∧ φ x (listOf (List.toArray us) na) ∧ RowsOn φ us rows
theorem borne_intsV (c : List Int) : Borne (IntsV c) := ⟨fun _ _ _ h ⟨x, e, y⟩ => ⟨x, e, y.mono h⟩, fun _ _ ⟨x, e, y⟩ => let ⟨tl, f, z⟩ := ints_few y; ⟨tl, f, x, e, z⟩⟩
theorem borne_rowsV (rows : List (List Int)) : Borne (RowsV rows) := ⟨fun _ _ _ h ⟨x, us, na, e, y, z⟩ => ⟨x, us, na, e, h _ _ y, z.mono h⟩, fun _ φ ⟨x, us, na, e, y, z⟩ => by
  obtain ⟨tl, f, z⟩ := rows_few z
  refine ⟨(x, listOf us.toArray na) :: tl, fun p hp => ?_, x, us, na, e, List.mem_cons_self, z.mono fun _ _ h => List.mem_cons_of_mem _ h⟩
  rcases List.mem_cons.mp hp with rfl | hp
  · exact y
  · exact f p hp⟩
theorem rows_of_items {φ : Addr → Obj → Prop} {f : Nat → List Int} : ∀ {n : Nat} {ys : List Value}, ys.length = n → (∀ k v, ys[k]? = some v → IntsV (f k) v φ) → RowsOn φ ys ((List.range n).map f)
  | 0, ys, h1, _ => by rw [List.length_eq_zero_iff.mp h1]; exact .nil
  | n + 1, ys, h1, h2 => by
    obtain ⟨as, a, rfl⟩ := snoc_of h1
    rw [List.length_append, List.length_singleton] at h1
    obtain ⟨x, rfl, hx⟩ := h2 n a (by rw [List.getElem?_append_right (by omega), show n - as.length = 0 by omega]; rfl)
    rw [List.range_succ, List.map_append]
    exact (rows_of_items (by omega) fun k v e => h2 k v (by rw [List.getElem?_append_left (List.getElem?_eq_some_iff.mp e).1]; exact e)).snoc hx
theorem grids_of_items {φ : Addr → Obj → Prop} {f : Nat → List (List Int)} : ∀ {n : Nat} {ys : List Value}, ys.length = n → (∀ k v, ys[k]? = some v → RowsV (f k) v φ) → GridsOn φ ys ((List.range n).map f)
  | 0, ys, h1, _ => by rw [List.length_eq_zero_iff.mp h1]; exact .nil
  | n + 1, ys, h1, h2 => by
    obtain ⟨as, a, rfl⟩ := snoc_of h1
    rw [List.length_append, List.length_singleton] at h1
    obtain ⟨x, us, na, rfl, hx, hu⟩ := h2 n a (by rw [List.getElem?_append_right (by omega), show n - as.length = 0 by omega]; rfl)
    rw [List.range_succ, List.map_append]
    exact (grids_of_items (by omega) fun k v e => h2 k v (by rw [List.getElem?_append_left (List.getElem?_eq_some_iff.mp e).1]; exact e)).snoc hx hu
theorem lawGrid {prog : Program} {w : World} {p : Program} {loose : List Str} {mg mb : Str → Option Value}
    {dp un : Nat} {fr : Option (List Env)} {gd : Option (List Code)} {h₀ : Heap} {s : Shared} {Q E : Value → Shared → Prop} {st sc pl na rows cols n : Nat} {tk tr tc tn : Tok} {vs : List Value} {ns : List Int}
    (hsub : Grow h₀ s.heap) (KX : (heapK w.params).In h₀) (T : TopRead p loose mg mb h₀)
    (hP : s.heap.get? st = some (stateObj sc pl tk na)) (hP0 : h₀.get? st = none) (hs : h₀.IsList sc vs.toArray) (hi : IntsAre vs ns) (hlen : ns.length ≤ 63) (hp : pl ≤ 500)
    (hr : rows ≤ 3) (hc : cols ≤ 3) (hn : n ≤ 3)
    (hd : dp + 3 < recursionLimit)
    (ret : ∀ s' l tk', (∀ b o, b ≠ st → s.heap.get? b = some o → s'.heap.get? b = some o) → s'.heap.get? st = some (stateObj sc (pl + rows * (cols * n)) tk' na) → Same s s' → DataOn (Fresh s.heap s'.heap) l (drawGrid ns pl rows cols n) → Q (.ref l) s') :
    wpAny (model prog w) (Ar dp fr gd un) (call (.ref 393) [.ref st, .int (rows : Int) tr, .int (cols : Int) tc, .int (n : Int) tn]) Q E s := by
  refine wpAny_call ?_
  k_dflt (refine' enterHC [(st, stateObj sc pl tk na)] ?k1 ?k3 ?k5 (fun q hq => ?_) ?k6 ?k7 ?k8 ?k9 ?kB ?kD ?_ ?c2 ?c3 ?c4)
  case k1 => k_asm
  case k3 => k_asm
  case k5 => k_asm
  case k6 => k_is
  case k7 => k_is
  case k8 => ktr_room
  case k9 => exact BindsTo.of_eq rfl
  case kB => exact rfl
  case kD => decide +kernel
  case c2 => exact rfl
  case c3 => exact rfl
  case c4 => exact rfl
  · rw [List.mem_singleton.mp hq]; exact ⟨hP, hP0⟩
  intro g L' h₁ tk2 cells G1 G2 G3 G4 G5 KG TG F N Y lo hi2
  obtain ⟨o1, o2, o3, hE, d1, d2, d3⟩ := CellsAre.three Y
  subst hE
  clear Y
  simp only [List.cons_append, List.nil_append] at N
  have lo1 : @LT.lt Nat _ st L' := lo _ List.mem_cons_self
  have upg : ∀ b o, b ≠ st → s.heap.get? b = some o → g.get? b = some o := fun b o hb e => G3 b o e fun hm => hb (List.mem_singleton.mp hm)
  have gs := isl_up' hs G1
  clear G2 G3 G5 lo hi2
  replace d1 : o1.data = Data.cell (some (.int (n : Int) tn)) := d1
  replace d2 : o2.data = Data.cell (some (.int (cols : Int) tc)) := d2
  replace d3 : o3.data = Data.cell (some (.ref st)) := d3
  have hnc : ∀ p ∈ [(L' + 1 + 1 + 1, o1), (L' + 1 + 1, o2), (L' + 1, o3)], p.1 ∉ [st] := fun p hp hm => by
    have e := List.mem_singleton.mp hm
    simp only [List.mem_cons, List.not_mem_nil, or_false] at hp
    have e' : @Eq Nat _ _ := e
    rcases hp with rfl | rfl | rfl <;> (dsimp only at e'; omega)
  have hcn : cols * n ≤ 3 * 3 := Nat.mul_le_mul hc hn
  one_place
  rename Fr _ _ _ _ => F1
  refine Stop.out ?_
  k_dflt (refine eval_ListComp_G F1 (by with_unfolding_all rfl) (by decide) (by rfl) (by decide) (by rfl) ?_)
  one_place
  rename IsRange _ _ _ _ _ _ _ _ => R8
  rename Fr _ _ _ _ => F8
  rename News _ _ _ _ => N8
  have NC := gl_sub (l' := [(L' + 1 + 1 + 1, o1), (L' + 1 + 1, o2), (L' + 1, o3)]) N8 (by ((try dsimp only [List.cons_append, List.nil_append, List.append_nil]); repeat (first | (with_reducible exact sl_nil) | ((with_reducible refine sl_put ?_ ?_); focus (repeat (first | (with_reducible exact List.mem_cons_self) | (with_reducible refine List.mem_cons_of_mem _ ?_)))))))
  have NS := gl_sub (l' := [(st, stateObj sc pl tk na)]) N8 (by ((try dsimp only [List.cons_append, List.nil_append, List.append_nil]); repeat (first | (with_reducible exact sl_nil) | ((with_reducible refine sl_put ?_ ?_); focus (repeat (first | (with_reducible exact List.mem_cons_self) | (with_reducible refine List.mem_cons_of_mem _ ?_)))))))
  clear N8
  refine Stop.out ?_
  refine (CompG.makes (ps := [st]) (T₀ := [(st, stateObj sc pl tk na)]) (Ob := fun i T => ∃ tk', T = [(st, stateObj sc (pl + i * (cols * n)) tk' na)]) (n := rows) (fun i => RowsV (drawRows ns (pl + i * (cols * n)) cols n)) (fun i => borne_rowsV _) rfl F8 NS rfl ⟨tk, by simp⟩ R8 (small_one (by decide) (by decide) (by omega) (by omega)) (by rw [rangeSize_nat]; omega) (by rw [sizeLine_eq]; omega) ?_ (DoneM.eval ?_))
  · rintro i v C oC m₂ s₁ T E' hi' ⟨t, rfl⟩ - ⟨tk3, rfl⟩ hC hx S K F9 N9 -
    have NC9 := news_keep NC K hnc
    have G9 : Grow g s₁.heap := F9.keep
    have BS := beside_self (h₀ := g) (L := L') (h := s₁.heap) []
    have N9 := news_app (news_app N9 NC9) BS
    simp only [List.cons_append, List.nil_append] at N9
    (try clear F8)
    (try clear NS)
    (try clear R8)
    (try clear hx)
    (try clear hC)
    (try clear NC9)
    k_dflt (refine eval_ListComp_G F9 (by with_unfolding_all rfl) (by decide) (by rfl) (by decide) (by rfl) ?_)
    one_place
    rename IsRange _ _ _ _ _ _ _ _ => R10
    rename Fr _ _ _ _ => F10
    rename News _ _ _ _ => N10
    have BS10 := gl_sub (l' := beside g L' [] s₁.heap) N10 (fun p hp => by repeat (first | exact hp | apply List.mem_cons_of_mem))
    have NS10 := gl_sub (l' := [(st, stateObj sc (pl + i * (cols * n)) tk3 na)]) N10 (by ((try dsimp only [List.cons_append, List.nil_append, List.append_nil]); repeat (first | (with_reducible exact sl_nil) | ((with_reducible refine sl_put ?_ ?_); focus (repeat (first | (with_reducible exact List.mem_cons_self) | (with_reducible refine List.mem_cons_of_mem _ ?_)))))))
    have NC10 := gl_sub (l' := [(L' + 1 + 1 + 1, o1), (L' + 1 + 1, o2), (L' + 1, o3)]) N10 (by ((try dsimp only [List.cons_append, List.nil_append, List.append_nil]); repeat (first | (with_reducible exact sl_nil) | ((with_reducible refine sl_put ?_ ?_); focus (repeat (first | (with_reducible exact List.mem_cons_self) | (with_reducible refine List.mem_cons_of_mem _ ?_)))))))
    clear N10
    refine Stop.out ?_
    refine (CompG.makes (ps := [st]) (T₀ := [(st, stateObj sc (pl + i * (cols * n)) tk3 na)]) (Ob := fun j T => ∃ tk', T = [(st, stateObj sc (pl + i * (cols * n) + j * n) tk' na)]) (n := cols) (fun j => IntsV (drawRow ns (pl + i * (cols * n) + j * n) n)) (fun j => borne_intsV _) rfl F10 NS10 rfl ⟨tk3, by simp⟩ R10 (small_one (by decide) (by decide) (by omega) (by omega)) (by rw [rangeSize_nat]; omega) (by rw [sizeLine_eq]; omega) ?_ (DoneM.eval ?_))
    · rintro j v C2 oC2 m3 s₂ T2 E3 hj' ⟨t2, rfl⟩ - ⟨tk4, rfl⟩ hC2 hx2 S2 K2 F11 N11 -
      have NC11 := news_keep NC10 K2 hnc
      clear BS10
      have G11 : Grow g s₂.heap := F11.keep
      have BS2 := beside_self (h₀ := g) (L := L') (h := s₂.heap) []
      have N11 := news_app (news_app N11 NC11) BS2
      simp only [List.cons_append, List.nil_append] at N11
      (try clear F10)
      (try clear NS10)
      (try clear NC10)
      (try clear R10)
      (try clear hx2)
      (try clear hC2)
      (try clear NC11)
      (try clear N9)
      (try clear F9)
      k_dflt (refine eval_ListComp_G F11 (by with_unfolding_all rfl) (by decide) (by rfl) (by decide) (by rfl) ?_)
      one_place
      rename IsRange _ _ _ _ _ _ _ _ => R12
      rename Fr _ _ _ _ => F12
      rename News _ _ _ _ => N12
      have BS12 := gl_sub (l' := beside g L' [] s₂.heap) N12 (fun p hp => by repeat (first | exact hp | apply List.mem_cons_of_mem))
      have NS12 := gl_sub (l' := [(st, stateObj sc (pl + i * (cols * n) + j * n) tk4 na)]) N12 (by ((try dsimp only [List.cons_append, List.nil_append, List.append_nil]); repeat (first | (with_reducible exact sl_nil) | ((with_reducible refine sl_put ?_ ?_); focus (repeat (first | (with_reducible exact List.mem_cons_self) | (with_reducible refine List.mem_cons_of_mem _ ?_)))))))
      have NC12 := gl_sub (l' := [(L' + 1 + 1 + 1, o1), (L' + 1 + 1, o2), (L' + 1, o3)]) N12 (by ((try dsimp only [List.cons_append, List.nil_append, List.append_nil]); repeat (first | (with_reducible exact sl_nil) | ((with_reducible refine sl_put ?_ ?_); focus (repeat (first | (with_reducible exact List.mem_cons_self) | (with_reducible refine List.mem_cons_of_mem _ ?_)))))))
      clear N12
      refine Stop.out ?_
      refine (CompG.makes (ps := [st]) (T₀ := [(st, stateObj sc (pl + i * (cols * n) + j * n) tk4 na)]) (Ob := fun u T => ∃ tk', T = [(st, stateObj sc (pl + i * (cols * n) + j * n + u) tk' na)]) (n := n) (fun u => IntV (drawOf ns (pl + i * (cols * n) + j * n + u))) (fun u => borne_intV _) rfl F12 NS12 rfl ⟨tk4, by simp⟩ R12 (small_one (by decide) (by decide) (by omega) (by omega)) (by rw [rangeSize_nat]; omega) (by rw [sizeLine_eq]; omega) ?_ (DoneM.eval ?_))
      · rintro u v C3 oC3 m4 s₃ T3 E4 hu' ⟨t3, rfl⟩ - ⟨tk5, rfl⟩ hC3 hx3 S3 K3 F13 N13 -
        have NC13 := news_keep NC12 K3 hnc
        clear BS12
        have FT : Grow g s₃.heap := F13.keep
        have hij : i * (cols * n) ≤ 3 * 9 := Nat.mul_le_mul (by omega) hcn
        have hjn : j * n ≤ 3 * 3 := Nat.mul_le_mul (by omega) hn
        have BS3 := beside_self (h₀ := g) (L := L') (h := s₃.heap) []
        have N13 := news_app (news_app N13 NC13) BS3
        simp only [List.cons_append, List.nil_append] at N13
        (try clear F12)
        (try clear NS12)
        (try clear NC12)
        (try clear R12)
        (try clear hx3)
        (try clear hC3)
        (try clear NC13)
        (try clear N11)
        (try clear F11)
        one_place
        rename Fr _ _ _ _ => F14
        rename News _ _ _ _ => N14
        have BS14 := gl_sub (l' := beside g L' [] s₃.heap) N14 (fun p hp => by repeat (first | exact hp | apply List.mem_cons_of_mem))
        have st0 := N14 (st, stateObj sc (pl + i * (cols * n) + j * n + u) tk5 na) (by k_mem)
        refine Stop.out (lawDraw F14.keep KG TG st0.1 st0.2.2 gs hi hlen (by omega) (by ktr_room) ?_)
        intro s₄ t4 tk6 K4 P4 S4
        one_place
        refine EltM.call [(st, stateObj sc (pl + i * (cols * n) + j * n + u + 1) tk6 na)] FT F14 BS14 ((Same.put _ _ _).trans S4) (fun b o hb e => K4 b o (fun q => hb (List.mem_singleton.mpr q)) e) (fun p hp => by rw [List.mem_singleton.mp hp]; exact ⟨st0.2.2, st0.2.1⟩) ⟨_, rfl⟩ rfl (fun p hp => by rw [List.mem_singleton.mp hp]; exact P4) ⟨_, by rw [Nat.add_assoc]⟩
      · intro D ys s₄ S4 F14 z
        refine EltM.mk ((Same.put _ _ _).trans S4) F14 (z.before (fun _ => borne_intV _) F12 G11 BS12).keep ⟨D, rfl, ys, ys.length, (z.before (fun _ => borne_intV _) F12 G11 BS12).list, compMade_ints z⟩ ?_
        have := z.turned
        rw [show pl + i * (cols * n) + (j + 1) * n = pl + i * (cols * n) + j * n + n by rw [Nat.succ_mul]; omega]
        exact this
    · intro D ys s₃ S3 F11 z
      have z2 := z.before (fun _ => borne_intsV _) F10 G9 BS10
      refine EltM.mk ((Same.put _ _ _).trans S3) F11 z2.keep ⟨D, ys, ys.length, rfl, z2.list, rows_of_items z2.len z2.items⟩ ?_
      rw [show pl + (i + 1) * (cols * n) = pl + i * (cols * n) + cols * n by rw [Nat.succ_mul]; omega]
      exact z.turned
  · intro D ys s₂ S2 F9 z
    one_place
    obtain ⟨T, -, NT, tk', rfl⟩ := z.turned
    have st0 := NS _ List.mem_cons_self
    have stn := NT _ List.mem_cons_self
    have nv : NoVan s.heap _ := noVan_but (wr := [st]) (fun b o hb e => F8.keep b o (upg b o (fun q => hb (by rw [q]; exact List.mem_singleton.mpr rfl)) e)) fun b hb => by rw [List.mem_singleton.mp hb]; exact ⟨_, st0.1⟩
    exact ret _ D tk' (fun b o hb e => F9.keep b o (upg b o hb e)) stn.1 ((Same.put s _ _).trans S2) ⟨ys, ys.length, ⟨z.list.1, nv _ z.list.2⟩, (grids_of_items z.len z.items).mono fun a o f => ⟨f.1, nv _ f.2⟩⟩

-- stored
/-- how a grid is stored, as it reads or crosswise -/
def storedRows (tr : Bool) (grid : List (List (List Int))) (k : Nat) : List (List (List Int)) := if tr then (List.range k).map (fun j => grid.map fun line => line.getD j []) else grid
def PolyV (w : World) (r : Addr) (c : List Int) (v : Value) (φ : Addr → Obj → Prop) : Prop := ∃ x, v = .ref x ∧ PolyOn w φ x r c
def CellsV (w : World) (r : Addr) (row : List (List Int)) (v : Value) (φ : Addr → Obj → Prop) : Prop := ∃ x us na, v = .ref x ∧ φ x (listOf (List.toArray us) na) ∧ CellsOn w φ r us row
theorem poly_few {w : World} {φ : Addr → Obj → Prop} {z r : Addr} {c : List Int} (y : PolyOn w φ z r c) : ∃ tl : List (Addr × Obj), (∀ p ∈ tl, φ p.1 p.2) ∧ PolyOn w (InLed tl) z r c := by
  obtain ⟨dx, a, tp, tc, h1, h2, h3⟩ := y
  obtain ⟨tl, f, h4⟩ := ints_few h3
  refine ⟨(z, _) :: (dx, _) :: tl, ?_, dx, a, tp, tc, List.mem_cons_self, List.mem_cons_of_mem _ List.mem_cons_self, h4.mono fun _ _ h => List.mem_cons_of_mem _ (List.mem_cons_of_mem _ h)⟩
  intro p hp
  rcases List.mem_cons.mp hp with rfl | hp
  · exact h1
  rcases List.mem_cons.mp hp with rfl | hp
  · exact h2
  · exact f p hp
theorem cells_few {w : World} {φ : Addr → Obj → Prop} {r : Addr} : ∀ {us : List Value} {row : List (List Int)}, CellsOn w φ r us row → ∃ tl : List (Addr × Obj), (∀ p ∈ tl, φ p.1 p.2) ∧ CellsOn w (InLed tl) r us row
  | _, _, .nil => ⟨[], fun _ h => (nomatch h), .nil⟩
  | _, _, .cons y c => by
    obtain ⟨t1, f1, y1⟩ := poly_few y
    obtain ⟨t2, f2, c2⟩ := cells_few c
    exact ⟨t1 ++ t2, fun p hp => (List.mem_append.mp hp).elim (f1 p) (f2 p), .cons (y1.mono fun _ _ h => List.mem_append_left _ h) (c2.mono fun _ _ h => List.mem_append_right _ h)⟩
theorem borne_polyV (w : World) (r : Addr) (c : List Int) : Borne (PolyV w r c) := ⟨fun _ _ _ h ⟨x, e, y⟩ => ⟨x, e, y.mono h⟩, fun _ _ ⟨x, e, y⟩ => let ⟨tl, f, z⟩ := poly_few y; ⟨tl, f, x, e, z⟩⟩
theorem borne_cellsV (w : World) (r : Addr) (row : List (List Int)) : Borne (CellsV w r row) := ⟨fun _ _ _ h ⟨x, us, na, e, y, z⟩ => ⟨x, us, na, e, h _ _ y, z.mono h⟩, fun _ φ ⟨x, us, na, e, y, z⟩ => by
  obtain ⟨tl, f, z⟩ := cells_few z
  refine ⟨(x, listOf us.toArray na) :: tl, fun p hp => ?_, x, us, na, e, List.mem_cons_self, z.mono fun _ _ h => List.mem_cons_of_mem _ h⟩
  rcases List.mem_cons.mp hp with rfl | hp
  · exact y
  · exact f p hp⟩
theorem cells_of_items {w : World} {φ : Addr → Obj → Prop} {r : Addr} {f : Nat → List Int} : ∀ {n : Nat} {ys : List Value}, ys.length = n → (∀ k v, ys[k]? = some v → PolyV w r (f k) v φ) → CellsOn w φ r ys ((List.range n).map f)
  | 0, ys, h1, _ => by rw [List.length_eq_zero_iff.mp h1]; exact .nil
  | n + 1, ys, h1, h2 => by
    obtain ⟨as, a, rfl⟩ := snoc_of h1
    rw [List.length_append, List.length_singleton] at h1
    obtain ⟨x, rfl, hx⟩ := h2 n a (by rw [List.getElem?_append_right (by omega), show n - as.length = 0 by omega]; rfl)
    rw [List.range_succ, List.map_append]
    exact (cells_of_items (by omega) fun k v e => h2 k v (by rw [List.getElem?_append_left (List.getElem?_eq_some_iff.mp e).1]; exact e)).snoc hx
theorem lines_of_items {w : World} {φ : Addr → Obj → Prop} {r : Addr} {f : Nat → List (List Int)} : ∀ {n : Nat} {ys : List Value}, ys.length = n → (∀ k v, ys[k]? = some v → CellsV w r (f k) v φ) → LinesOn w φ r ys ((List.range n).map f)
  | 0, ys, h1, _ => by rw [List.length_eq_zero_iff.mp h1]; exact .nil
  | n + 1, ys, h1, h2 => by
    obtain ⟨as, a, rfl⟩ := snoc_of h1
    rw [List.length_append, List.length_singleton] at h1
    obtain ⟨x, us, na, rfl, hx, hu⟩ := h2 n a (by rw [List.getElem?_append_right (by omega), show n - as.length = 0 by omega]; rfl)
    rw [List.range_succ, List.map_append]
    exact (lines_of_items (by omega) fun k v e => h2 k v (by rw [List.getElem?_append_left (List.getElem?_eq_some_iff.mp e).1]; exact e)).snoc hx hu
theorem map_range_get {α β : Type} (f : α → β) (d : α) (l : List α) : (List.range l.length).map (fun i => f (l.getD i d)) = l.map f := by
  apply List.ext_getElem
  · simp
  · intro i h1 h2
    have h3 : i < l.length := by simpa using h1
    simp [List.getD_eq_getElem?_getD, h3]
theorem grid_made {w : World} {g h h' : Heap} {L D r n : Nat} {ps : List Addr} {Ob : List (Addr × Obj) → Prop} {ys : List Value} {f : Nat → List (List Int)} (z : CompMade g L ps (fun i => CellsV w r (f i)) Ob n h D ys h') : GridOn w (Fresh h h') D r ((List.range n).map f) := ⟨ys, ys.length, z.list, lines_of_items z.len z.items⟩
theorem stored_even {tr : Bool} {grid : List (List (List Int))} {k : Nat} (h : Even grid k) : Even (storedRows tr grid k) (if tr then grid.length else k) := by
  cases tr
  · exact h
  · intro row hr
    obtain ⟨j, _, rfl⟩ := List.mem_map.mp (show row ∈ (List.range k).map (fun j => grid.map fun line => line.getD j []) from hr)
    simp
theorem stored_len {tr : Bool} {grid : List (List (List Int))} {k : Nat} : (storedRows tr grid k).length = if tr then k else grid.length := by cases tr <;> simp [storedRows]
theorem kco_callKW {M : Model} {A : Around} {E : Value → Shared → Prop} {s : Shared} {K : Frag} {env : Env} {pos : Pos} {x C : Addr} {ox : Obj} {od : Option Obj} {first : List Value} {Q : Value → Shared → Prop} {e : PySem.Expr} {rest : List PySem.Expr} {kws : List Keyword} (hd : ox.data = .plain) (hall : (backToKw pos (keywordEach kws env)).all (·.1.isSome) = true)
    (h : wpAny M A (spliced (backTo pos (starEach (e :: rest) env))) (fun vs s₁ => wpAny M A (evalAll ((backToKw pos (keywordEach kws env)).map (·.2)))
      (fun ks s₂ => kco_P K x C ox od s₂.heap ∧ wpAny M A (call (.ref x) (first ++ vs) (((backToKw pos (keywordEach kws env)).filterMap (·.1)).zip ks)) Q E s₂) E s₁) E s)
    (hplain : ((backTo pos (starEach (e :: rest) env)).any (·.1) || (backToKw pos (keywordEach kws env)).any (·.1.isNone)) = false := by rfl) (he : starEach (e :: rest) env = (false, eval e env) :: starEach rest env := by rfl) :
    wpAny M A (callWith pos (.ref x) first (backTo pos (starEach (e :: rest) env)) (backToKw pos (keywordEach kws env))) Q E s :=
  kco_callWith_of hplain hd (evalArgs_kw2 hall h he)
theorem lawStored {prog : Program} {w : World} {p : Program} {loose : List Str} {mg mb : Str → Option Value}
    {dp un : Nat} {fr : Option (List Env)} {gd : Option (List Code)} {h₀ : Heap} {s : Shared} {Q E : Value → Shared → Prop} {md r l m k n : Nat} {q : Int} {tr : Bool} {grid : List (List (List Int))} {ps : Array Value} {mgB : Str → Option Value} {bm : Addr} {ob : Obj}
    (hsub : Grow h₀ s.heap) (KX : (heapK w.params).In h₀) (T : TopRead p loose mg mb h₀) (MB : BMod h₀ mainGlobals mgB bm ob)
    (hm : ModOn w (HeapIs h₀) md r) (hr : RingOn w (HeapIs h₀) r q n) (hg : DataOn (HeapIs h₀) l grid) (hgl : grid.length = m) (hge : Even grid k) (hcl : ∀ row ∈ grid, ∀ c ∈ row, c.length = n) (hm1 : 1 ≤ m) (hm3 : m ≤ 3) (hk1 : 1 ≤ k) (hk3 : k ≤ 3) (hn3 : n ≤ 3)
    (hP : s.heap.get? 362 = some (tabObj ps)) (hP0 : h₀.get? 362 = none) (htr : TriplesOk ps.toList)
    (hd : dp + 20 < recursionLimit)
    (ret : ∀ s' M ps', (∀ b o, b ≠ 362 → s.heap.get? b = some o → s'.heap.get? b = some o) → s'.heap.get? 362 = some (tabObj ps') → TriplesOk ps'.toList → Same s s' → MatOn w (Fresh s.heap s'.heap) M md r tr (storedRows tr grid k) → Q (.ref M) s') :
    wpAny (model prog w) (Ar dp fr gd un) (call (.ref 398) [.ref md, .ref r, .ref l, .bool tr]) Q E s := by
  obtain ⟨vs, na, hl1, hl2⟩ := id hg
  obtain ⟨a0, us0, n0, e0, ha0, hus0⟩ := hl2.at (i := 0) (by omega)
  have hlu0 : us0.length = k := by rw [hus0.length]; exact even_get hge (by omega)
  have hlv : vs.length = m := by rw [hl2.length, hgl]
  dsimp only [HeapIs] at hl1 ha0
  refine wpAny_call ?_
  k_dflt (refine' enterHC [(362, tabObj ps)] ?k1 ?k3 ?k5 (fun p hp => ?_) ?k6 ?k7 ?k8 ?k9 ?kB ?kD ?_ ?c2 ?c3 ?c4)
  case k1 => k_asm
  case k3 => k_asm
  case k5 => k_asm
  case k6 => k_is
  case k7 => k_is
  case k8 => ktr_room
  case k9 => exact BindsTo.of_eq rfl
  case kB => exact rfl
  case kD => decide +kernel
  case c2 => exact rfl
  case c3 => exact rfl
  case c4 => exact rfl
  · rw [List.mem_singleton.mp hp]; exact ⟨hP, hP0⟩
  intro g L' h₁ tk cells G1 G2 G3 G4 G5 KG TG F N Y lo hi2
  obtain ⟨o1, o2, hE, d1, d2⟩ := CellsAre.two Y
  subst hE
  clear Y
  simp only [List.cons_append, List.nil_append] at N
  have lo1 : @LT.lt Nat _ 362 L' := lo _ List.mem_cons_self
  have upg : ∀ b o, b ≠ 362 → s.heap.get? b = some o → g.get? b = some o := fun b o hb e => G3 b o e fun hm => hb (List.mem_singleton.mp hm)
  have MG := MB.keeps G1
  have hl1' := G1 _ _ hl1
  have ha0' := G1 _ _ ha0
  obtain ⟨dm, trg, gm1, gm2⟩ := hm.mono (grow_is G1)
  obtain ⟨dr, tq, tn, tqv, tnv, gr1, gr2⟩ := id (hr.mono (grow_is G1))
  dsimp only [HeapIs] at gm1 gm2 gr1 gr2
  clear G2 G3 G5 lo hi2
  replace d1 : o1.data = Data.cell (some (.ref l)) := d1
  replace d2 : o2.data = Data.cell (some (.ref r)) := d2
  have e362 := N (362, tabObj ps) (by k_mem)
  cases tr with
  | true =>
    one_place
    rename Fr _ _ _ _ => F1
    refine Stop.out ?_
    k_dflt (refine assign_ListComp_GC F1 rfl (by with_unfolding_all rfl) (by with_unfolding_all rfl) (fun _ => rfl) (fun _ => rfl) (by rfl) (by decide) (by rfl) (by rfl) (by rfl) ?_)
    one_place
    rename Fr _ _ _ _ => F2
    refine sub_at (F2.keep _ _ hl1') (by decide) (by decide) e0 ?_
    one_place
    rename IsRange _ _ _ _ _ _ _ _ => R8
    rename Fr _ _ _ _ => F8
    rename News _ _ _ _ => N8
    (try refine Stop.out ?_)
    refine (CompGC.makes (ps := []) (T₀ := []) (Ob := fun _ T => T = []) (n := k) (fun j => CellsV w r (grid.map fun line => line.getD j [])) (fun j => borne_cellsV _ _ _) rfl F8 (fun _ h => nomatch h) rfl rfl R8 (small_one (by decide) (by decide) (by omega) (by omega)) (by rw [rangeSize_nat]; omega) (by rw [sizeLine_eq]; omega) ?_ (DoneM.store ?_))
    · rintro j tj C oC R oR s₁ T E' hj - rfl hR S K F9 N9
      have G9 : Grow g s₁.heap := F9.keep
      rw [Int.zero_add] at hR
      replace N9 := news_app (news_app N9 (news_keep N8 K (fun _ _ h => nomatch h))) (beside_self (h₀ := g) (L := L') (h := s₁.heap) [])
      simp only [List.cons_append, List.nil_append] at N9
      (try clear F8)
      (try clear N8)
      (try clear R8)
      k_dflt (refine eval_ListComp_G F9 (by with_unfolding_all rfl) (by decide) (by rfl) (by decide) (by rfl) ?_)
      one_place
      rename Fr _ _ _ _ => F10
      rename News _ _ _ _ => N10
      (try refine Stop.out ?_)
      refine (CompG.makesL (ps := []) (T₀ := []) (Ob := fun _ T => T = []) (vs := vs) (fun i => PolyV w r ((grid.getD i []).getD j [])) (fun i => borne_polyV _ _ _) rfl F10 (fun _ h => nomatch h) rfl rfl hl1' (by rw [sizeLine_eq]; omega) ?_ (DoneM.eval ?_))
      · rintro i v C2 oC2 m2 s₂ T2 E2 hi hv - rfl hC2 hx2 S2 K2 F11 N11 -
        obtain ⟨ai, ui, ni, rfl, hai, hui⟩ := hl2.get (by simpa using hv)
        replace hai := G1 _ _ hai
        obtain ⟨xi, exi, hxi⟩ := hui.at (i := j) (by rw [even_get hge (by omega)]; omega)
        have G11 : Grow g s₂.heap := F11.keep
        replace N11 := news_app (news_app N11 (gl_sub (l' := [(R, oR), (L' + 1 + 1, o1), (L' + 1, o2)]) (news_keep N10 K2 (fun _ _ h => nomatch h)) (by ((try dsimp only [List.cons_append, List.nil_append, List.append_nil]); repeat (first | (with_reducible exact sl_nil) | ((with_reducible refine sl_put ?_ ?_); focus (repeat (first | (with_reducible exact List.mem_cons_self) | (with_reducible refine List.mem_cons_of_mem _ ?_))))))))) (beside_self (h₀ := g) (L := L') (h := s₂.heap) [])
        simp only [List.cons_append, List.nil_append] at N11
        (try clear F10)
        (try clear N10)
        (try clear F9)
        (try clear N9)
        one_place
        rename Fr _ _ _ _ => F12
        refine sub_at (F12.keep _ _ hai) (by omega) (by omega) (by rw [Int.toNat_natCast]; exact exi) ?_
        one_place
        rename Fr _ _ _ _ => F13
        rename News _ _ _ _ => N13
        obtain ⟨vx, nx, hvx, ivx⟩ := hxi
        refine list_copyK F13 N13 ⟨_, F13.keep _ _ (G1 _ _ hvx), rfl, _, rfl⟩ (fun D cD h3 F14 N14 l1 => ?_) (by rw [List.size_toArray, ivx.length, sizeLine_eq, hcl _ (getD_mem' (by omega)) _ (getD_mem' (by rw [even_get hge (by omega)]; omega))]; omega)
        have l2 : ∀ q ∈ beside g L' [] s₂.heap, q.1 < D := fun q hq => l1 q (by repeat (first | exact hq | apply List.mem_cons_of_mem))
        clear l1 N13 F13
        one_place
        rename Fr _ _ _ _ => F15
        rename News _ _ _ _ => N15
        have hlc : ((grid.getD i []).getD j []).length = n := hcl _ (getD_mem' (by omega)) _ (getD_mem' (by rw [even_get hge (by omega)]; omega))
        have nD := N15 _ List.mem_cons_self
        have BS := gl_sub (l' := beside g L' [] s₂.heap) N15 (fun p hp => by repeat (first | exact hp | apply List.mem_cons_of_mem))
        have fD : s₂.heap.get? D = none := by
          cases q : s₂.heap.get? D with
          | none => rfl
          | some o => exact absurd (l2 (D, o) (mem_beside.mpr ⟨q, nD.2.1, nD.2.2, fun hm => nomatch hm⟩)) (Nat.lt_irrefl D)
        refine Stop.out (ringList F15.keep KG TG ((hr.mono (grow_is G1)).mono (grow_is F15.keep)) ⟨vx, _, nD.1, ivx⟩ hlc (by omega) (by ktr_room) ?_)
        intro s₄ x dx tp tc G4 S4 f1 f2
        one_place
        exact EltM.call [] G11 F15 BS ((Same.put _ _ _).trans S4) (fun b o _ e => G4 b o e) (fun p hp => nomatch hp) ⟨x, rfl, dx, D, tp, tc, fresh_back F15 G11 BS f1, fresh_back F15 G11 BS f2, vx, _, ⟨G4 _ _ nD.1, fD⟩, ivx⟩ rfl (fun p hp => nomatch hp) rfl
      · intro D ys s₃ S3 F11 z
        replace z := z.before (fun _ => borne_polyV _ _ _) F10 G9 (gl_sub N10 (fun p hp => by repeat (first | exact hp | apply List.mem_cons_of_mem)))
        refine EltM.mk ((Same.put _ _ _).trans S3) F11 z.keep ⟨D, ys, ys.length, rfl, z.list, ?_⟩ z.turned
        have := cells_of_items z.len z.items
        rw [hlv, ← hgl] at this
        rw [map_range_get (fun line => List.getD line j []) [] grid] at this
        exact this
    · intro D ys s₂ S2 F9 z
      have t8 := (N8 (362, tabObj ps) (by k_mem)).1
      have K8 : Grow g _ := F8.keep
      one_place
      k_dflt (refine' kco_callKW (K := heapK w.params) (C := 377) (ox := instObj 377 dm) (od := some (dictOf [⟨PyData.keyHash w.params "ring", .str "ring" trg, .ref r⟩] 1)) ?k1 ?k2 ?_; (case k1 => rfl); (case k2 => rfl))
      one_place
      have hg9 : GridOn w (Fresh _ s₂.heap) D r (storedRows true grid k) := grid_made z
      rename Fr _ _ _ _ => F10
      rename News _ _ _ _ => N10
      have e9 : s₂.heap.get? 362 = some (tabObj ps) := z.keep _ _ (fun hm => nomatch hm) e362.2.1 t8
      have nv : NoVan s.heap _ := noVan_but (wr := [362]) (fun b o hb e => K8 b o (upg b o (fun q => hb (by rw [q]; exact List.mem_singleton.mpr rfl)) e)) fun b hb => by rw [List.mem_singleton.mp hb]; exact ⟨_, t8⟩
      have ne : ∀ a o, Fresh _ s₂.heap a o → a ≠ 362 := fun a o f q => by
        have := f.2; rw [q, t8] at this; cases this
      refine Stop.out ?_
      obtain ⟨GH, HG, up, hid⟩ := ground_at [362] F10.keep (fun p hp => by rw [List.mem_singleton.mp hp]; exact e362.2.2)
      have KS1 := KG.keeps F10.keep
      refine modCall (D := D) (tr := true) (rows := storedRows true grid k) HG (KG.keeps GH) (TG.keeps GH) (MG.keeps GH) ((hm.mono (grow_is G1)).mono (grow_is GH)) (hg9.mono fun a o f => up a o f.1 fun hb => ne a o f (List.mem_singleton.mp hb)) (stored_even hge) (by first | (simp; omega) | simp) (by rw [stored_len]; first | (simp; omega) | simp) (by rw [stored_len]; first | (simp; omega) | simp) e9 (hid _ List.mem_cons_self) htr ?_ (by ktr_room) ?_
      · refine' binds_at ?e ?h
        case e => k_is
        case h => first | exact BindsTo.of_eq rfl | exact binds_K KS1 rfl (by k_is) rfl rfl rfl
      intro s' M dM tp td tt ps' K' P' t' S' f1 f2
      one_place
      have nv2 : NoVan s.heap s₂.heap := noVan_but (wr := [362]) (fun b o hb e => F10.keep b o (upg b o (fun q => hb (by rw [q]; exact List.mem_singleton.mpr rfl)) e)) fun b hb => by rw [List.mem_singleton.mp hb]; exact ⟨_, e9⟩
      exact ret s' M ps' (fun b o hb e => K' b o hb (F10.keep b o (upg b o hb e))) P' t' ((Same.put s _ _).trans (S2.trans S')) ⟨dM, D, tp, td, tt, ⟨f1.1, nv2 _ f1.2⟩, ⟨f2.1, nv2 _ f2.2⟩, hg9.mono fun a o f => ⟨K' a o (ne a o f) f.1, nv _ f.2⟩⟩
  | false =>
    one_place
    rename Fr _ _ _ _ => F1
    refine Stop.out ?_
    k_dflt (refine eval_ListComp_G F1 (by with_unfolding_all rfl) (by decide) (by rfl) (by decide) (by rfl) ?_)
    one_place
    rename Fr _ _ _ _ => F8
    rename News _ _ _ _ => N8
    refine Stop.out ?_
    refine (CompG.makesL (ps := []) (T₀ := []) (Ob := fun _ T => T = []) (vs := vs) (fun i => CellsV w r (grid.getD i [])) (fun i => borne_cellsV _ _ _) rfl F8 (fun _ h => nomatch h) rfl rfl hl1' (by rw [sizeLine_eq]; omega) ?_ (DoneM.eval ?_))
    · rintro i v C oC m1 s₁ T E' hi hv - rfl hC hx S K F9 N9 -
      obtain ⟨ai, ui, ni, rfl, hai, hui⟩ := hl2.get (by simpa using hv)
      have hul : ui.length = k := by rw [hui.length]; exact even_get hge (by omega)
      replace hai := G1 _ _ hai
      have G9 : Grow g s₁.heap := F9.keep
      replace N9 := news_app (news_app N9 (news_keep N8 K (fun _ _ h => nomatch h))) (beside_self (h₀ := g) (L := L') (h := s₁.heap) [])
      simp only [List.cons_append, List.nil_append] at N9
      (try clear F8)
      (try clear N8)
      k_dflt (refine eval_ListComp_G F9 (by with_unfolding_all rfl) (by decide) (by rfl) (by decide) (by rfl) ?_)
      one_place
      rename Fr _ _ _ _ => F10
      rename News _ _ _ _ => N10
      (try refine Stop.out ?_)
      refine (CompG.makesL (ps := []) (T₀ := []) (Ob := fun _ T => T = []) (vs := ui) (fun j => PolyV w r ((grid.getD i []).getD j [])) (fun j => borne_polyV _ _ _) rfl F10 (fun _ h => nomatch h) rfl rfl hai (by rw [sizeLine_eq]; omega) ?_ (DoneM.eval ?_))
      · rintro j v C2 oC2 m2 s₂ T2 E2 hj hv2 - rfl hC2 hx2 S2 K2 F11 N11 -
        obtain ⟨xi, rfl, hxi⟩ := hui.get (by simpa using hv2)
        have G11 : Grow g s₂.heap := F11.keep
        replace N11 := news_app (news_app N11 (gl_sub (l' := [(L' + 1 + 1, o1), (L' + 1, o2)]) (news_keep N10 K2 (fun _ _ h => nomatch h)) (by ((try dsimp only [List.cons_append, List.nil_append, List.append_nil]); repeat (first | (with_reducible exact sl_nil) | ((with_reducible refine sl_put ?_ ?_); focus (repeat (first | (with_reducible exact List.mem_cons_self) | (with_reducible refine List.mem_cons_of_mem _ ?_))))))))) (beside_self (h₀ := g) (L := L') (h := s₂.heap) [])
        simp only [List.cons_append, List.nil_append] at N11
        (try clear F10)
        (try clear N10)
        (try clear F9)
        (try clear N9)
        one_place
        rename Fr _ _ _ _ => F13
        rename News _ _ _ _ => N13
        obtain ⟨vx, nx, hvx, ivx⟩ := hxi
        refine list_copyK F13 N13 ⟨_, F13.keep _ _ (G1 _ _ hvx), rfl, _, rfl⟩ (fun D cD h3 F14 N14 l1 => ?_) (by rw [List.size_toArray, ivx.length, sizeLine_eq, hcl _ (getD_mem' (by omega)) _ (getD_mem' (by rw [even_get hge (by omega)]; omega))]; omega)
        have l2 : ∀ q ∈ beside g L' [] s₂.heap, q.1 < D := fun q hq => l1 q (by repeat (first | exact hq | apply List.mem_cons_of_mem))
        clear l1 N13 F13
        one_place
        rename Fr _ _ _ _ => F15
        rename News _ _ _ _ => N15
        have hlc : ((grid.getD i []).getD j []).length = n := hcl _ (getD_mem' (by omega)) _ (getD_mem' (by rw [even_get hge (by omega)]; omega))
        have nD := N15 _ List.mem_cons_self
        have BS := gl_sub (l' := beside g L' [] s₂.heap) N15 (fun p hp => by repeat (first | exact hp | apply List.mem_cons_of_mem))
        have fD : s₂.heap.get? D = none := by
          cases q : s₂.heap.get? D with
          | none => rfl
          | some o => exact absurd (l2 (D, o) (mem_beside.mpr ⟨q, nD.2.1, nD.2.2, fun hm => nomatch hm⟩)) (Nat.lt_irrefl D)
        refine Stop.out (ringList F15.keep KG TG ((hr.mono (grow_is G1)).mono (grow_is F15.keep)) ⟨vx, _, nD.1, ivx⟩ hlc (by omega) (by ktr_room) ?_)
        intro s₄ x dx tp tc G4 S4 f1 f2
        one_place
        exact EltM.call [] G11 F15 BS ((Same.put _ _ _).trans S4) (fun b o _ e => G4 b o e) (fun p hp => nomatch hp) ⟨x, rfl, dx, D, tp, tc, fresh_back F15 G11 BS f1, fresh_back F15 G11 BS f2, vx, _, ⟨G4 _ _ nD.1, fD⟩, ivx⟩ rfl (fun p hp => nomatch hp) rfl
      · intro D ys s₃ S3 F11 z
        replace z := z.before (fun _ => borne_polyV _ _ _) F10 G9 (gl_sub N10 (fun p hp => by repeat (first | exact hp | apply List.mem_cons_of_mem)))
        refine EltM.mk ((Same.put _ _ _).trans S3) F11 z.keep ⟨D, ys, ys.length, rfl, z.list, ?_⟩ z.turned
        have := cells_of_items z.len z.items
        rw [hui.length, map_range_get (fun c => c) [] (grid.getD i []), List.map_id'] at this
        exact this
    · intro D ys s₂ S2 F9 z
      have t8 := (N8 (362, tabObj ps) (by k_mem)).1
      have K8 : Grow g _ := F8.keep
      one_place
      have hg9 := grid_made z
      rw [hl2.length, map_range_get (fun row => row) [] grid, List.map_id'] at hg9
      change GridOn w (Fresh _ s₂.heap) D r (storedRows false grid k) at hg9
      rename Fr _ _ _ _ => F10
      rename News _ _ _ _ => N10
      have e9 : s₂.heap.get? 362 = some (tabObj ps) := z.keep _ _ (fun hm => nomatch hm) e362.2.1 t8
      have nv : NoVan s.heap _ := noVan_but (wr := [362]) (fun b o hb e => K8 b o (upg b o (fun q => hb (by rw [q]; exact List.mem_singleton.mpr rfl)) e)) fun b hb => by rw [List.mem_singleton.mp hb]; exact ⟨_, t8⟩
      have ne : ∀ a o, Fresh _ s₂.heap a o → a ≠ 362 := fun a o f q => by
        have := f.2; rw [q, t8] at this; cases this
      refine Stop.out ?_
      obtain ⟨GH, HG, up, hid⟩ := ground_at [362] F10.keep (fun p hp => by rw [List.mem_singleton.mp hp]; exact e362.2.2)
      have KS1 := KG.keeps F10.keep
      refine modCall (D := D) (tr := false) (rows := storedRows false grid k) HG (KG.keeps GH) (TG.keeps GH) (MG.keeps GH) ((hm.mono (grow_is G1)).mono (grow_is GH)) (hg9.mono fun a o f => up a o f.1 fun hb => ne a o f (List.mem_singleton.mp hb)) (stored_even hge) (by first | (simp; omega) | simp) (by rw [stored_len]; first | (simp; omega) | simp) (by rw [stored_len]; first | (simp; omega) | simp) e9 (hid _ List.mem_cons_self) htr ?_ (by ktr_room) ?_
      · refine' binds_at ?e ?h
        case e => k_is
        case h => first | exact BindsTo.of_eq rfl | exact binds_K KS1 rfl (by k_is) rfl rfl rfl
      intro s' M dM tp td tt ps' K' P' t' S' f1 f2
      one_place
      have nv2 : NoVan s.heap s₂.heap := noVan_but (wr := [362]) (fun b o hb e => F10.keep b o (upg b o (fun q => hb (by rw [q]; exact List.mem_singleton.mpr rfl)) e)) fun b hb => by rw [List.mem_singleton.mp hb]; exact ⟨_, e9⟩
      exact ret s' M ps' (fun b o hb e => K' b o hb (F10.keep b o (upg b o hb e))) P' t' ((Same.put s _ _).trans (S2.trans S')) ⟨dM, D, tp, td, tt, ⟨f1.1, nv2 _ f1.2⟩, ⟨f2.1, nv2 _ f2.2⟩, hg9.mono fun a o f => ⟨K' a o (ne a o f) f.1, nv _ f.2⟩⟩

-- fi
/-- what a name's value is told to be, by the objects that bear it -/
structure VP where
  P : Value → (Addr → Obj → Prop) → Prop
  mono : ∀ v (φ ψ : Addr → Obj → Prop), (∀ a o, φ a o → ψ a o) → P v φ → P v ψ
def vInt (z : Int) : VP := ⟨fun v _ => ∃ t, v = .int z t, fun _ _ _ _ h => h⟩
def vRef (a : Addr) : VP := ⟨fun v _ => v = .ref a, fun _ _ _ _ h => h⟩
def vData (rows : List (List (List Int))) : VP := ⟨fun v φ => ∃ l, v = .ref l ∧ DataOn φ l rows, fun _ _ _ k h => let ⟨l, e, d⟩ := h; ⟨l, e, d.mono k⟩⟩
/-- an object that stands beside a frame, its cells and the turning objects -/
def Std (L nc : Nat) (ps : List Addr) (h : Heap) (a : Nat) (o : Obj) : Prop := h.get? a = some o ∧ (a < L ∨ L + nc < a) ∧ a ∉ ps
/-- a def's frame: its place, its cells, what turns -/
structure FrC (env : Env) (g : Heap) (L nc : Nat) (ps : List Addr) : Prop where
  loc : env.locals = L
  fn : env.scope.kind = .function
  gl : env.globals = mainGlobals
  ab : g.objs.size ≤ L
  ps : ∀ b : Nat, b ∈ ps → g.get? b = none ∧ (b < L ∨ L + nc < b)
/-- the state of a def under way: its names' values, the turning objects -/
structure FI (g : Heap) (L nc : Nat) (ps : List Addr) (Tb : Heap → Prop) (ls : List (Str × VP)) (cs : List (Nat × VP)) (m : Str → Option Value) (s₀ s : Shared) : Prop where
  same : Same s₀ s
  fr : Fr g L s.heap m
  loc : ∀ p ∈ ls, ∃ v, m p.1 = some v ∧ p.2.P v (Std L nc ps s.heap)
  cel : ∀ p ∈ cs, 1 ≤ p.1 ∧ p.1 ≤ nc ∧ ∃ v o, s.heap.get? (L + p.1) = some o ∧ o.data = .cell (some v) ∧ p.2.P v (Std L nc ps s.heap)
  all : ∀ k : Nat, k < nc → ∃ o v, s.heap.get? (L + 1 + k) = some o ∧ o.data = .cell v
  alive : ∀ b ∈ ps, ∃ o, s.heap.get? b = some o
  tabs : Tb s.heap
theorem Same.put' {a s : Shared} (x : Same a s) (h : Heap) : Same a { s with heap := h } := ⟨x.1, x.2⟩
/-- an expression that is read off and changes nothing but the tokens -/
def Pure (M : Model) (A : Around) (env : Env) (h : Heap) (e : PySem.Expr) (v : Value) : Prop := ∀ (E Q : Value → Shared → Prop) (s : Shared), s.heap = h → (∀ tk, Q v { s with toks := tk }) → wpAny M A (eval e env) Q E s
def PureZ (M : Model) (A : Around) (env : Env) (h : Heap) (e : PySem.Expr) (z : Int) : Prop := ∀ (E Q : Value → Shared → Prop) (s : Shared), s.heap = h → (∀ t tk, Q (.int z t) { s with toks := tk }) → wpAny M A (eval e env) Q E s
def PureA (M : Model) (A : Around) (env : Env) (h : Heap) (pos : Pos) (es : List PySem.Expr) (vs : List Value) : Prop := ∀ (E : Value → Shared → Prop) (Q : List Value → Shared → Prop) (s : Shared), s.heap = h → (∀ tk, Q vs { s with toks := tk }) → wpAny M A (spliced (backTo pos (starEach es env))) Q E s
/-- a statement's end; an expression's -/
def FN (g : Heap) (L nc : Nat) (ps : List Addr) (Tb : Heap → Prop) (ls : List (Str × VP)) (cs : List (Nat × VP)) (s₀ : Shared) (f : Flow) (s : Shared) : Prop := f = .next ∧ ∃ m, FI g L nc ps Tb ls cs m s₀ s
def FE (g : Heap) (L nc : Nat) (ps : List Addr) (Tb : Heap → Prop) (ls : List (Str × VP)) (cs : List (Nat × VP)) (m : Str → Option Value) (s₀ : Shared) (P : VP) (v : Value) (s : Shared) : Prop := FI g L nc ps Tb ls cs m s₀ s ∧ P.P v (Std L nc ps s.heap)
section
variable {w : World} {p : Program} {loose : List Str} {mg mb : Str → Option Value} {env : Env} {g h h' : Heap} {L nc : Nat} {ps : List Addr} {Tb Tb' : Heap → Prop} {ls ls' : List (Str × VP)} {cs cs' : List (Nat × VP)} {m : Str → Option Value} {s₀ s s' : Shared} {M : Model} {A : Around} {E : Value → Shared → Prop} {x : Str} {pos : Pos}
theorem FrC.off (C : FrC env g L nc ps) : ∀ b ∈ ps, g.get? b = none ∧ b ≠ L := fun b hb => ⟨(C.ps b hb).1, fun e => by have e' : @Eq Nat _ _ := e; have := (C.ps b hb).2; omega⟩
theorem std_keep (K : KeepBut ps L h h') : ∀ a o, Std L nc ps h a o → Std L nc ps h' a o := fun a o x => ⟨K a o x.2.2 (by rcases x.2.1 with q | q <;> (intro e; have e' : @Eq Nat _ _ := e; omega)) x.1, x.2⟩
/-- all but the turning objects stand: the state stands -/
theorem FI.keep (C : FrC env g L nc ps) (I : FI g L nc ps Tb ls cs m s₀ s) (F : Fr g L s'.heap m) (K : KeepBut ps L s.heap s'.heap) (S : Same s s') (al : ∀ b ∈ ps, ∃ o, s'.heap.get? b = some o) (ht : Tb' s'.heap) : FI g L nc ps Tb' ls cs m s₀ s' := by
  have hc : ∀ k : Nat, 1 ≤ k → k ≤ nc → ∀ o, s.heap.get? (L + k) = some o → s'.heap.get? (L + k) = some o := fun k h1 h2 o e => K _ o (fun hm => by have := (C.ps _ hm).2; omega) (fun e => by have e' : @Eq Nat _ _ := e; omega) e
  refine ⟨I.same.trans S, F, fun p hp => let ⟨v, a, b⟩ := I.loc p hp; ⟨v, a, p.2.mono _ _ _ (std_keep K) b⟩, fun p hp => ?_, fun k hk => ?_, al, ht⟩
  · obtain ⟨h1, h2, v, o, a, b, c⟩ := I.cel p hp
    exact ⟨h1, h2, v, o, hc _ h1 h2 o a, b, p.2.mono _ _ _ (std_keep K) c⟩
  · obtain ⟨o, v, a, b⟩ := I.all k hk
    refine ⟨o, v, ?_, b⟩
    have := hc (1 + k) (by omega) (by omega) o
    rw [← Nat.add_assoc] at this
    exact this a
theorem FI.call (C : FrC env g L nc ps) (I : FI g L nc ps Tb ls cs m s₀ s) (K : ∀ b o, b ∉ ps → s.heap.get? b = some o → s'.heap.get? b = some o) (S : Same s s') (al : ∀ b ∈ ps, ∃ o, s'.heap.get? b = some o) (ht : Tb' s'.heap) : FI g L nc ps Tb' ls cs m s₀ s' :=
  I.keep C ⟨I.fr.ns.at' fun o e => K _ o (fun hb => (C.off _ hb).2 rfl) e, fun b o e => K b o (fun hb => by rw [(C.off b hb).1] at e; cases e) (I.fr.keep b o e), I.fr.above⟩ (fun b o h1 _ e => K b o h1 e) S al ht
theorem FI.std (I : FI g L nc ps Tb ls cs m s₀ s) : ∀ (a : Nat) o, Fresh s.heap h' a o → Std L nc ps h' a o := fun a o f => by
  refine ⟨f.1, ?_, fun hm => ?_⟩
  · by_cases q : a < L ∨ L + nc < a
    · exact q
    exfalso
    by_cases q0 : a = L
    · obtain ⟨_, _, _, h1, _⟩ := I.fr.ns
      have := f.2; rw [q0, h1] at this; cases this
    · obtain ⟨o', v, h1, _⟩ := I.all (a - (L + 1)) (by have q0' : ¬ (@Eq Nat a L) := q0; omega)
      have e : L + 1 + (a - (L + 1)) = a := by have q0' : ¬ (@Eq Nat a L) := q0; omega
      rw [e] at h1
      have := f.2; rw [h1] at this; cases this
  · obtain ⟨o', e⟩ := I.alive _ hm
    have := f.2; rw [e] at this; cases this
/-- the ground for a call -/
theorem FI.ground (C : FrC env g L nc ps) (I : FI g L nc ps Tb ls cs m s₀ s) : Grow g (hideAll s.heap ps) ∧ Grow (hideAll s.heap ps) s.heap ∧ (∀ a o, Std L nc ps s.heap a o → HeapIs (hideAll s.heap ps) a o) ∧ ∀ b ∈ ps, (hideAll s.heap ps).get? b = none := by
  obtain ⟨a, b, c, d⟩ := ground_at ps (fun b o e => I.fr.keep b o e) (fun b hb => (C.off b hb).1)
  exact ⟨a, b, fun x o h => c x o h.1 h.2.2, d⟩
theorem FI.tok (I : FI g L nc ps Tb ls cs m s₀ s) {s' : Shared} (h1 : s'.heap = s.heap) (h2 : s'.gens = s.gens) (h3 : s'.os = s.os) : FI g L nc ps Tb ls cs m s₀ s' := by
  obtain ⟨hp, gs, d, tk, os⟩ := s
  obtain ⟨hp', gs', d', tk', os'⟩ := s'
  cases h1; cases h2; cases h3
  exact ⟨⟨I.same.1, I.same.2⟩, I.fr, I.loc, I.cel, I.all, I.alive, I.tabs⟩
theorem FI.sub (I : FI g L nc ps Tb ls cs m s₀ s) (h1 : ∀ p ∈ ls', p ∈ ls) (h2 : ∀ p ∈ cs', p ∈ cs) : FI g L nc ps Tb ls' cs' m s₀ s := ⟨I.same, I.fr, fun p hp => I.loc p (h1 p hp), fun p hp => I.cel p (h2 p hp), I.all, I.alive, I.tabs⟩
/-- a name of the frame's is stored (it may hold a value already) -/
theorem FI.put {v : Value} {tk : Nat} (P : VP) (C : FrC env g L nc ps) (I : FI g L nc ps Tb ls cs m s₀ s) (hn : h'.Ns L (fun y => if y = x then some v else m y)) (hs : Heap.SameBut L s.heap h') (hv : P.P v (Std L nc ps s.heap)) (hx : (ls.all fun p => p.1 != x) = true) (hT : ∀ h h', (∀ b ∈ ps, h'.get? b = h.get? b) → Tb h → Tb h') :
    FI g L nc ps Tb ((x, P) :: ls) cs (fun y => if y = x then some v else m y) s₀ { s with heap := h', toks := tk } := by
  have up : ∀ a o, a ≠ L → s.heap.get? a = some o → h'.get? a = some o := fun a o hL e => (hs.2 a hL).trans e
  have us : ∀ a o, Std L nc ps s.heap a o → Std L nc ps h' a o := fun a o h => ⟨up a o (by rcases h.2.1 with h | h <;> (intro e; have e' : @Eq Nat _ _ := e; omega)) h.1, h.2⟩
  refine ⟨I.same.putR _ _, I.fr.set hn hs, fun p hp => ?_, fun p hp => ?_, fun k hk => ?_, fun b hb => ?_, hT _ _ (fun b hb => hs.2 b (C.off b hb).2) I.tabs⟩
  · rcases List.mem_cons.mp hp with rfl | hp
    · exact ⟨v, by simp, P.mono _ _ _ us hv⟩
    · obtain ⟨u, a, b⟩ := I.loc p hp
      have : p.1 ≠ x := by simpa using List.all_eq_true.mp hx p hp
      exact ⟨u, by rw [if_neg this]; exact a, p.2.mono _ _ _ us b⟩
  · obtain ⟨h1, h2, u, o, a, b, c⟩ := I.cel p hp
    exact ⟨h1, h2, u, o, up _ o (fun e => by have e' : @Eq Nat _ _ := e; omega) a, b, p.2.mono _ _ _ us c⟩
  · obtain ⟨o, u, a, b⟩ := I.all k hk
    exact ⟨o, u, up _ o (fun e => by have e' : @Eq Nat _ _ := e; omega) a, b⟩
  · obtain ⟨o, e⟩ := I.alive b hb
    exact ⟨o, up _ o (C.off b hb).2 e⟩
/-- a name of the cells' is stored -/
theorem FI.putC {k : Nat} {v : Value} (P : VP) (C : FrC env g L nc ps) (I : FI g L nc ps Tb ls cs m s₀ s) (hc : h'.IsCell (L + k) (some v)) (hs : Heap.SameBut (L + k) s.heap h') (hv : P.P v (Std L nc ps s.heap)) (h1 : 1 ≤ k) (h7 : k ≤ nc) (hx : (cs.all fun p => p.1 != k) = true) (hT : ∀ h h', (∀ b ∈ ps, h'.get? b = h.get? b) → Tb h → Tb h') :
    FI g L nc ps Tb ls ((k, P) :: cs) m s₀ { s with heap := h' } := by
  have up : ∀ a o, a ≠ L + k → s.heap.get? a = some o → h'.get? a = some o := fun a o hL e => (hs.2 a hL).trans e
  have us : ∀ a o, Std L nc ps s.heap a o → Std L nc ps h' a o := fun a o h => ⟨up a o (by rcases h.2.1 with h | h <;> (intro e; have e' : @Eq Nat _ _ := e; omega)) h.1, h.2⟩
  have hps : ∀ b : Nat, b ∈ ps → b ≠ L + k := fun b hb e => by have := (C.ps b hb).2; omega
  obtain ⟨oc, hoc, hod⟩ := hc
  refine ⟨I.same.put' h', I.fr.change hs (fun e => by have e' : @Eq Nat _ _ := e; omega) (Heap.get?_none_of_le (Nat.le_trans C.ab (Nat.le_add_right _ _))), fun p hp => ?_, fun p hp => ?_, fun j hj => ?_, fun b hb => ?_, hT _ _ (fun b hb => hs.2 b (hps b hb)) I.tabs⟩
  · obtain ⟨u, a, b⟩ := I.loc p hp
    exact ⟨u, a, p.2.mono _ _ _ us b⟩
  · rcases List.mem_cons.mp hp with rfl | hp
    · exact ⟨h1, h7, v, oc, hoc, hod, P.mono _ _ _ us hv⟩
    · obtain ⟨q1, q2, u, o, a, b, c⟩ := I.cel p hp
      have : p.1 ≠ k := by simpa using List.all_eq_true.mp hx p hp
      exact ⟨q1, q2, u, o, up _ o (fun e => this (by have e' : @Eq Nat _ _ := e; omega)) a, b, p.2.mono _ _ _ us c⟩
  · by_cases e : 1 + j = k
    · exact ⟨oc, _, by rw [Nat.add_assoc, e]; exact hoc, hod⟩
    · obtain ⟨o, u, a, b⟩ := I.all j hj
      exact ⟨o, u, up _ o (fun e' => by have e' : @Eq Nat _ _ := e'; omega) a, b⟩
  · obtain ⟨o, e⟩ := I.alive b hb
    exact ⟨o, up _ o (hps b hb) e⟩
def Stays (ps : List Addr) (Tb : Heap → Prop) : Prop := ∀ h h', (∀ b ∈ ps, h'.get? b = h.get? b) → Tb h → Tb h'
/-- a statement that stores a name -/
theorem fi_localJ {e : PySem.Expr} {px : Pos} {J : Shared → Prop} (C : FrC env g L nc ps) (hT : Stays ps Tb') (hk : env.kindOf x = some .local) (hs : swapsWith e (some (.Name x px)) pos.line env = pure false) (hx : (ls.all fun p => p.1 != x) = true)
    (h : wpAny M A (eval e env) (fun v s₁ => ∃ P, FI g L nc ps Tb' ls cs m s₀ s₁ ∧ P.P v (Std L nc ps s₁.heap) ∧ ∀ s' m', FI g L nc ps Tb' ((x, P) :: ls) cs m' s₀ s' → J s') E s) : wpAny M A (exec (.Assign [.Name x px] e pos) env) (fun f s' => f = .next ∧ J s') E s := by
  refine wpAny_Assign_Name (wpAny_mono h (fun v s₁ h₁ => ?_) fun _ _ e => e) hs
  obtain ⟨P, I, hv, hJ⟩ := h₁
  refine wpAny_storeName_local (m := m) hk (by rw [C.loc]; exact I.fr.ns) (fun h' hn hsb => ?_) (by rw [C.fn]; rfl)
  rw [C.loc] at hn hsb
  exact ⟨rfl, hJ _ _ (I.put P C hn hsb hv hx hT)⟩
theorem fi_local {e : PySem.Expr} {px : Pos} (P : VP) (C : FrC env g L nc ps) (hT : Stays ps Tb') (hk : env.kindOf x = some .local) (hs : swapsWith e (some (.Name x px)) pos.line env = pure false) (hx : (ls.all fun p => p.1 != x) = true)
    (h : wpAny M A (eval e env) (FE g L nc ps Tb' ls cs m s₀ P) E s) : wpAny M A (exec (.Assign [.Name x px] e pos) env) (FN g L nc ps Tb' ((x, P) :: ls) cs s₀) E s :=
  fi_localJ C hT hk hs hx (wpAny_mono h (fun _ _ h => ⟨P, h.1, h.2, fun _ m' I => ⟨m', I⟩⟩) fun _ _ e => e)
theorem fi_cell {k : Nat} {e : PySem.Expr} {px : Pos} (P : VP) (C : FrC env g L nc ps) (hT : Stays ps Tb') (hk : env.kindOf x = some .cell) (hc : env.cells.lookup x = some (L + k)) (hs : swapsWith e (some (.Name x px)) pos.line env = pure false) (h1 : 1 ≤ k) (h7 : k ≤ nc) (hx : (cs.all fun p => p.1 != k) = true)
    (h : wpAny M A (eval e env) (FE g L nc ps Tb' ls cs m s₀ P) E s) : wpAny M A (exec (.Assign [.Name x px] e pos) env) (FN g L nc ps Tb' ls ((k, P) :: cs) s₀) E s := by
  refine wpAny_Assign_Name (wpAny_mono h (fun v s₁ h₁ => ?_) fun _ _ e => e) hs
  obtain ⟨I, hv⟩ := h₁
  obtain ⟨o, u, h3, h4⟩ := I.all (k - 1) (by omega)
  rw [show L + 1 + (k - 1) = L + k by omega] at h3
  exact wpAny_storeName_cell C.fn hk hc ⟨o, h3, h4⟩ fun h' hc' hs' => ⟨rfl, _, I.putC P C hc' hs' hv h1 h7 hx hT⟩
theorem execs_next {st : Stmt} {rest : List Stmt} {Q : Flow → Shared → Prop} {J : Shared → Prop} (h1 : wpAny M A (exec st env) (fun f s' => f = .next ∧ J s') E s) (h2 : ∀ s', J s' → wpAny M A (execs rest env) Q E s') : wpAny M A (execs (st :: rest) env) Q E s :=
  wpAny_execs_cons (wpAny_mono h1 (fun f s' h => by obtain ⟨rfl, hj⟩ := h; exact h2 s' hj) fun _ _ e => e)
theorem PureA.nil : PureA M A env h pos [] [] := fun _ _ s _ hq => args_nil (hq s.toks)
theorem PureA.cons {e : PySem.Expr} {es : List PySem.Expr} {v : Value} {us : List Value} (h1 : Pure M A env h e v) (h2 : PureA M A env h pos es us) (he : starEach (e :: es) env = (false, eval e env) :: starEach es env := by rfl) : PureA M A env h pos (e :: es) (v :: us) := fun E Q s hs hq => by
  rw [he]
  refine spliced_cons ?_
  show wpAny M A (eval e env) _ _ _
  exact h1 _ _ s hs fun tk => h2 _ _ _ hs fun tk' => hq tk'
theorem pure_loc {P : VP} (C : FrC env g L nc ps) (I : FI g L nc ps Tb ls cs m s₀ s) (hm : (x, P) ∈ ls) (hx : env.kindOf x = some .local) (hd : (x == ("__debug__" : Str)) = false := by decide) : ∃ v, P.P v (Std L nc ps s.heap) ∧ Pure M A env s.heap (.Name x pos) v := by
  obtain ⟨v, hv, hP⟩ := I.loc _ hm
  exact ⟨v, hP, fun E Q s' hs h => wpAny_Name (wpAny_loadName_local C.fn hx (by rw [hs, C.loc]; exact I.fr.ns) hv (h s'.toks)) hd⟩
theorem pure_cel {k : Nat} {P : VP} (C : FrC env g L nc ps) (I : FI g L nc ps Tb ls cs m s₀ s) (hm : (k, P) ∈ cs) (hx : env.kindOf x = some .cell) (hc : env.cells.lookup x = some (L + k)) (hd : (x == ("__debug__" : Str)) = false := by decide) : ∃ v, P.P v (Std L nc ps s.heap) ∧ Pure M A env s.heap (.Name x pos) v := by
  obtain ⟨_, _, v, o, h1, h2, hP⟩ := I.cel _ hm
  exact ⟨v, hP, fun E Q s' hs h => wpAny_Name (wpAny_loadName_cell C.fn hx hc ⟨o, by rw [hs]; exact h1, h2⟩ (h s'.toks)) hd⟩
theorem pure_glob {K : Frag} {v : Value} (C : FrC env g L nc ps) (I : FI g L nc ps Tb ls cs m s₀ s) (X : K.In g) (T : TopRead p loose mg mb g) (e : nsIn K mainGlobals x = some (some v)) (hx : env.kindOf x = some .globalImplicit) (hd : (x == ("__debug__" : Str)) = false := by decide) : Pure M A env s.heap (.Name x pos) v :=
  fun _ _ s' hs h => Name_function_global C.fn hx (loadGlobal_global (env := env) (by rw [hs, C.gl]; exact T.g.keeps I.fr.keep) (mg_of X T.g e) (h s'.toks)) hd
theorem ev_call {K : Frag} {fe e : PySem.Expr} {es : List PySem.Expr} {us : List Value} {a : Addr} {E Q : Value → Shared → Prop} (I : FI g L nc ps Tb ls cs m s₀ s) (X : K.In g) (hk : keepIn K (.ref a) = true) (hf : Pure M A env s.heap fe (.ref a)) (ha : PureA M A env s.heap pos (e :: es) us) (h : ∀ s', FI g L nc ps Tb ls cs m s₀ s' → s'.heap = s.heap → wpAny M A (call (.ref a) us) Q E s')
    (h1 : eval (.Call fe (e :: es) [] pos) env = (do callWith pos (← eval fe env) [] (backTo pos (starEach (e :: es) env)) (backToKw pos (keywordEach [] env))) := by rfl) (he : starEach (e :: es) env = (false, eval e env) :: starEach es env := by rfl) (hp : (backTo pos (starEach es env)).any (·.1) = false := by rfl) : wpAny M A (eval (.Call fe (e :: es) [] pos) env) Q E s := by
  refine Call_ (hf _ _ s rfl fun tk => ?_) h1
  exact callWith_K (h₀ := g) X hk (ha _ _ _ rfl fun tk' => ⟨X.keeps I.fr.keep, h _ (I.tok rfl rfl rfl) rfl⟩) he hp
theorem PureZ.const {z : Int} {k : Nat} : PureZ M A env h (.Constant (.int z) k pos) z := fun _ _ s _ hq => wpAny_Constant_int (hq s.toks _)
theorem PureZ.of {e : PySem.Expr} {z : Int} {t : Tok} (x : Pure M A env h e (.int z t)) : PureZ M A env h e z := fun _ _ s hs hq => x _ _ s hs fun tk => hq t tk
theorem PureZ.fe {e : PySem.Expr} {z : Int} (I : FI g L nc ps Tb ls cs m s₀ s) (x : PureZ M A env s.heap e z) : wpAny M A (eval e env) (FE g L nc ps Tb ls cs m s₀ (vInt z)) E s := x _ _ s rfl fun t _ => ⟨I.tok rfl rfl rfl, t, rfl⟩
theorem pureZ_loc {z : Int} (C : FrC env g L nc ps) (I : FI g L nc ps Tb ls cs m s₀ s) (hm : (x, vInt z) ∈ ls) (hx : env.kindOf x = some .local) (hd : (x == ("__debug__" : Str)) = false := by decide) : PureZ M A env s.heap (.Name x pos) z := by
  obtain ⟨v, ⟨t, rfl⟩, hv⟩ := pure_loc (M := M) (A := A) (pos := pos) C I hm hx hd
  exact .of hv
end
section
variable {prog : Program} {w : World} {A : Around} {env : Env} {h : Heap} {l r : PySem.Expr} {pos : Pos} {a b : Int}
theorem PureZ.bin {op : Operator} {c : Int} (h1 : PureZ (model prog w) A env h l a) (h2 : PureZ (model prog w) A env h r b) (ho : ∀ (Q E : Value → Shared → Prop) (s : Shared) t u, Q (.int c s.toks) { s with toks := s.toks + 1 } → wpAny (model prog w) A (binaryOp op (.int a t) (.int b u)) Q E s) : PureZ (model prog w) A env h (.BinOp l op r pos) c :=
  fun _ _ s hs hq => wpAny_BinOp (h1 _ _ s hs fun t tk => h2 _ _ _ hs fun t' tk' => ho _ _ _ _ _ (hq _ _))
theorem PureZ.mul (h1 : PureZ (model prog w) A env h l a) (h2 : PureZ (model prog w) A env h r b) (ok : IntMulOk a b) : PureZ (model prog w) A env h (.BinOp l .Mult r pos) (a * b) := h1.bin h2 fun _ _ _ _ _ q => mul_ok ok q
theorem PureZ.add (h1 : PureZ (model prog w) A env h l a) (h2 : PureZ (model prog w) A env h r b) : PureZ (model prog w) A env h (.BinOp l .Add r pos) (a + b) := h1.bin h2 fun _ _ _ _ _ q => add_int q
theorem PureZ.sub (h1 : PureZ (model prog w) A env h l a) (h2 : PureZ (model prog w) A env h r b) : PureZ (model prog w) A env h (.BinOp l .Sub r pos) (a - b) := h1.bin h2 fun _ _ _ _ _ q => sub_int q
theorem PureZ.mod (h1 : PureZ (model prog w) A env h l a) (h2 : PureZ (model prog w) A env h r b) (hb : 0 < b) : PureZ (model prog w) A env h (.BinOp l .Mod r pos) (a % b) := h1.bin h2 fun _ _ _ _ _ q => mod_int' (by omega) (by rw [Int.fmod_eq_emod_of_nonneg _ (by omega)]; exact q)
theorem PureZ.div (h1 : PureZ (model prog w) A env h l a) (h2 : PureZ (model prog w) A env h r b) (hb : 0 < b) (hp : ∀ s : Shared, s.heap = h → (Builtin.divisionGoesByPylong a b = false ∨ PySem.PylongRoom (model prog w) A s)) : PureZ (model prog w) A env h (.BinOp l .FloorDiv r pos) (a / b) :=
  fun _ _ s hs hq => wpAny_BinOp (h1 _ _ s hs fun t tk => h2 _ _ _ hs fun t' tk' => floordiv_int (by omega) (by rw [Int.fdiv_eq_ediv_of_nonneg _ (by omega)]; exact hq _ _) (hp _ hs))
theorem PureZ.pow {n : Nat} (h1 : PureZ (model prog w) A env h l a) (h2 : PureZ (model prog w) A env h r (n : Int)) (ok : (Builtin.Int.intBits a : Int) * n ≤ 2 ^ 27) : PureZ (model prog w) A env h (.BinOp l .Pow r pos) (a ^ n) := h1.bin h2 fun _ _ _ _ _ q => PyProof.Rows.pow_int (by omega) ok (by rw [Int.toNat_natCast]; exact q)
end

-- lawi
noncomputable def lawSt (k : Nat) : Stmt := ((stBody (topSt 14))[k]?).getD (.Pass default)
noncomputable def lawEnv (L : Nat) : Env := envOfC (Str.ofString "law") (stScope (topSt 14)) L 422 (.ref 421)
def vBools (bs : List Bool) : VP := ⟨fun v φ => ∃ l na, v = .ref l ∧ φ l (listOf (List.toArray (bs.map Value.bool)) na), fun _ _ _ k h => let ⟨l, na, e, d⟩ := h; ⟨l, na, e, k _ _ d⟩⟩
def vRing (w : World) (r : Addr) (q : Int) (n : Nat) : VP := ⟨fun v φ => v = .ref r ∧ RingOn w φ r q n, fun _ _ _ k h => ⟨h.1, h.2.mono k⟩⟩
def vMod (w : World) (md r : Addr) : VP := ⟨fun v φ => v = .ref md ∧ ModOn w φ md r, fun _ _ _ k h => ⟨h.1, h.2.mono k⟩⟩
def vMat (w : World) (md r : Addr) (tr : Bool) (rows : List (List (List Int))) : VP := ⟨fun v φ => ∃ M, v = .ref M ∧ MatOn w φ M md r tr rows, fun _ _ _ k h => let ⟨l, e, d⟩ := h; ⟨l, e, d.mono k⟩⟩
abbrev lps (st : Nat) : List Addr := [st, 362, 320]
/-- the draws' list, the two tables -/
def LTb (st sc na pl : Nat) (h : Heap) : Prop := ∃ tk ps1 ps2, TriplesOk (Array.toList ps1) ∧ TriplesOk (Array.toList ps2) ∧ h.get? st = some (stateObj sc pl tk na) ∧ h.get? 362 = some (tabObj ps1) ∧ h.get? 320 = some (tabObj ps2)
theorem LTb.stays {st sc na pl : Nat} : Stays (lps st) (LTb st sc na pl) := fun h h' k ⟨tk, ps1, ps2, h1, h2, h3, h4, h5⟩ => ⟨tk, ps1, ps2, h1, h2, (k _ (by simp [lps])).trans h3, (k _ (by simp [lps])).trans h4, (k _ (by simp [lps])).trans h5⟩
theorem LTb.alive {st sc na pl : Nat} {h : Heap} (x : LTb st sc na pl h) : ∀ b ∈ lps st, ∃ o, h.get? b = some o := fun b hb => by
  obtain ⟨tk, ps1, ps2, h1, h2, h3, h4, h5⟩ := x
  rcases List.mem_cons.mp hb with rfl | hb
  · exact ⟨_, h3⟩
  rcases List.mem_cons.mp hb with rfl | hb
  · exact ⟨_, h4⟩
  · rw [List.mem_singleton.mp hb]; exact ⟨_, h5⟩
structure LawC (w : World) (p : Program) (loose : List Str) (mg mb : Str → Option Value) (dp un : Nat) (fr : Option (List Env)) (g : Heap) (L st sc : Nat) (vs : List Value) (ns : List Int) (mgB : Str → Option Value) (bm : Addr) (ob : Obj) : Prop where
  KG : (heapK w.params).In g
  TG : TopRead p loose mg mb g
  MG : BMod g mainGlobals mgB bm ob
  NS : g.NoSeer
  frs : ∃ l, fr = some l
  gs : g.IsList sc vs.toArray
  hi : IntsAre vs ns
  hlen : ns.length ≤ 63
  hd : dp + 120 < recursionLimit
  hu : un + 600 < cLine
  fc : FrC (lawEnv L) g L 7 (lps st)
  st1 : g.get? st = none
  ne : (st : Nat) ≠ 362 ∧ st ≠ 320
/-- the law's state -/
abbrev LawI (g : Heap) (L st sc na pl : Nat) (ls : List (Str × VP)) (cs : List (Nat × VP)) (m : Str → Option Value) (s₀ s : Shared) : Prop := FI g L 7 (lps st) (LTb st sc na pl) ls cs m s₀ s
abbrev LawE (g : Heap) (L st sc na pl : Nat) (ls : List (Str × VP)) (cs : List (Nat × VP)) (m : Str → Option Value) (s₀ : Shared) (P : VP) (v : Value) (s : Shared) : Prop := FE g L 7 (lps st) (LTb st sc na pl) ls cs m s₀ P v s
abbrev LStd (L st : Nat) (h : Heap) (a : Nat) (o : Obj) : Prop := Std L 7 (lps st) h a o
section
variable {w : World} {p : Program} {loose : List Str} {mg mb : Str → Option Value} {dp un : Nat} {fr : Option (List Env)} {g : Heap} {L st sc na pl pl' : Nat} {vs : List Value} {ns : List Int} {mgB : Str → Option Value} {bm : Addr} {ob : Obj} {ls : List (Str × VP)} {cs : List (Nat × VP)} {m : Str → Option Value} {s₀ s s' : Shared}
/-- the list of the draws has turned -/
theorem FI.draw {tk : Tok} (C : LawC w p loose mg mb dp un fr g L st sc vs ns mgB bm ob) (I : LawI g L st sc na pl ls cs m s₀ s) (K : ∀ b o, b ≠ st → s.heap.get? b = some o → s'.heap.get? b = some o) (P : s'.heap.get? st = some (stateObj sc pl' tk na)) (S : Same s s') : LawI g L st sc na pl' ls cs m s₀ s' := by
  obtain ⟨_, ps1, ps2, h1, h2, h3, h4, h5⟩ := I.tabs
  have t : LTb st sc na pl' s'.heap := ⟨tk, ps1, ps2, h1, h2, P, K _ _ (fun e => C.ne.1 e.symm) h4, K _ _ (fun e => C.ne.2 e.symm) h5⟩
  exact I.call C.fc (fun b o hb e => K b o (fun q => hb (by rw [q]; exact List.mem_cons_self)) e) S t.alive t
/-- the tables have turned -/
theorem FI.turn {ps1 ps2 : Array Value} (C : LawC w p loose mg mb dp un fr g L st sc vs ns mgB bm ob) (I : LawI g L st sc na pl ls cs m s₀ s) (K : ∀ b o, b ≠ 362 → b ≠ 320 → s.heap.get? b = some o → s'.heap.get? b = some o) (P1 : s'.heap.get? 362 = some (tabObj ps1)) (h1 : TriplesOk ps1.toList) (P2 : s'.heap.get? 320 = some (tabObj ps2)) (h2 : TriplesOk ps2.toList) (S : Same s s') : LawI g L st sc na pl ls cs m s₀ s' := by
  obtain ⟨tk, _, _, _, _, h3, _, _⟩ := I.tabs
  have t : LTb st sc na pl s'.heap := ⟨tk, ps1, ps2, h1, h2, K _ _ C.ne.1 C.ne.2 h3, P1, P2⟩
  exact I.call C.fc (fun b o hb e => K b o (fun q => hb (by rw [q]; simp [lps])) (fun q => hb (by rw [q]; simp [lps])) e) S t.alive t
theorem FI.grow {env : Env} {nc : Nat} {ps : List Addr} {Tb : Heap → Prop} (C : FrC env g L nc ps) (hT : Stays ps Tb) (I : FI g L nc ps Tb ls cs m s₀ s) (G : Grow s.heap s'.heap) (S : Same s s') : FI g L nc ps Tb ls cs m s₀ s' :=
  I.call C (fun b o _ e => G b o e) S (fun b hb => let ⟨o, e⟩ := I.alive b hb; ⟨o, G b o e⟩) (hT _ _ (fun b hb => by obtain ⟨o, e⟩ := I.alive b hb; rw [e, G b o e]) I.tabs)
end

-- fil
section
variable {prog : Program} {w : World} {p : Program} {loose : List Str} {mg mb : Str → Option Value} {env : Env} {g h h' : Heap} {L nc : Nat} {ps : List Addr} {Tb : Heap → Prop} {ls : List (Str × VP)} {cs : List (Nat × VP)} {m : Str → Option Value} {s₀ s s' : Shared} {A : Around} {E : Value → Shared → Prop} {x : Str} {pos : Pos} {K : Frag}
theorem pure_built {M : Model} {v : Value} (C : FrC env g L nc ps) (I : FI g L nc ps Tb ls cs m s₀ s) (X : K.In g) (T : TopRead p loose mg mb g) (e : nsIn K mainGlobals x = some none) (hv : bootBuiltins x = some v) (hn : x ≠ "__name__") (hb : env.builtins = builtinsNs) (hx : env.kindOf x = some .globalImplicit) (hd : (x == ("__debug__" : Str)) = false := by decide) : Pure M A env s.heap (.Name x pos) v :=
  fun _ _ s' hs h => Name_function_global C.fn hx (loadGlobal_builtin (env := env) (by rw [hs, C.gl]; exact T.g.keeps I.fr.keep) (mg_none_of X T.g e) (by rw [hs, hb]; exact T.b.keeps I.fr.keep) ((T.builtins x hn).trans hv) (h s'.toks)) hd
theorem PureZ.len {fe e : PySem.Expr} {l na k : Nat} {us : List Value} (hf : Pure (model prog w) A env h fe (.builtin "len")) (he : Pure (model prog w) A env h e (.ref l)) (hl : HeapIs h l (listOf us.toArray na)) (hk : us.length = k) (hfit : k ≤ 1000)
    (h1 : eval (.Call fe [e] [] pos) env = (do callWith pos (← eval fe env) [] (backTo pos (starEach [e] env)) (backToKw pos (keywordEach [] env))) := by rfl) (hs : starEach [e] env = (false, eval e env) :: starEach [] env := by rfl) : PureZ (model prog w) A env h (.Call fe [e] [] pos) (k : Int) := fun E Q s hh hq => by
  refine Call_ (hf _ _ s hh fun tk => callWith_builtin1 ?_ hs) h1
  refine (PureA.cons he PureA.nil hs) _ _ _ hh fun tk' => ?_
  have e2 : us.toArray.size = k := by rw [List.size_toArray, hk]
  exact len_list ⟨_, by show Heap.get? s.heap l = _; rw [hh]; exact hl, rfl, na, rfl⟩ (by rw [e2]; omega) (by rw [e2]; exact hq _ _)
theorem pure_item {e : PySem.Expr} {l na : Nat} {us : List Value} {k : Nat} {v : Value} {p2 p3 : Pos} (h1 : Pure (model prog w) A env h e (.ref l)) (hl : HeapIs h l (listOf us.toArray na)) (hk : k ≤ 1000) (hx : us[k]? = some v) : Pure (model prog w) A env h (.Subscript e (.Constant (.int k) 0 p2) p3) v :=
  fun _ _ s hs hq => Subscript_ (h1 _ _ s hs fun tk => wpAny_Constant_int (sub_at (by show Heap.get? s.heap l = _; rw [hs]; exact hl) (by omega) (by omega) (by rw [Int.toNat_natCast]; exact hx) (hq _)))
theorem PureZ.eq {M : Model} {e : PySem.Expr} {z z' : Int} (x : PureZ M A env h e z) (hz : z = z') : PureZ M A env h e z' := hz ▸ x
/-- «range(e)» -/
theorem ev_range {fe e : PySem.Expr} {n : Int} {Q : Value → Shared → Prop} (I : FI g L nc ps Tb ls cs m s₀ s) (hf : Pure (model prog w) A env s.heap fe (.type "range")) (he : PureZ (model prog w) A env s.heap e n)
    (ret : ∀ r s' t u v, Grow s.heap s'.heap → FI g L nc ps Tb ls cs m s₀ s' → IsRange s'.heap r 0 n 1 t u v → Q (.ref r) s') (C : FrC env g L nc ps) (hT : Stays ps Tb)
    (h1 : eval (.Call fe [e] [] pos) env = (do callWith pos (← eval fe env) [] (backTo pos (starEach [e] env)) (backToKw pos (keywordEach [] env))) := by rfl) (hs : starEach [e] env = (false, eval e env) :: starEach [] env := by rfl) : wpAny (model prog w) A (eval (.Call fe [e] [] pos) env) Q E s := by
  refine Call_ (hf _ _ s rfl fun tk => Pv.callWith_type1 ?_ hs) h1
  rw [hs]
  refine spliced_cons ?_
  show wpAny _ _ (eval e env) _ _ _
  refine he _ _ _ rfl fun t tk' => args_nil ?_
  have I' : FI g L nc ps Tb ls cs m s₀ { s with toks := tk' } := I.tok rfl rfl rfl
  refine range1_rows I'.fr News.nil fun h' tk2 t₁ u₁ v₁ hr _ _ G => ?_
  exact ret _ _ _ _ _ G ((I'.grow C hT (s' := { s with heap := h', toks := tk' }) G (Same.put _ _ _)).tok rfl rfl rfl) hr
theorem FI.into {I : Addr} {oI : Obj} (C : FrC env g L nc ps) (J : FI g L nc ps Tb ls cs m s₀ s) (hI : s.heap.get? I = none) (F : Fr g L s'.heap m) (G : Grow s.heap s'.heap) (S : Same s s') (e : s'.heap.get? I = some oI) (hT : Stays ps Tb) : FI g L nc (I :: ps) (fun h => Tb h ∧ h.get? I = some oI) ls cs m s₀ s' := by
  have J' := J.grow C hT G S
  have up : ∀ a o, Std L nc ps s.heap a o → Std L nc (I :: ps) s'.heap a o := fun a o h => ⟨G a o h.1, h.2.1, fun hm => by
    rcases List.mem_cons.mp hm with q | hm
    · have := h.1; rw [q, hI] at this; cases this
    · exact h.2.2 hm⟩
  refine ⟨J'.same, J'.fr, fun p hp => ?_, fun p hp => ?_, J'.all, fun b hb => ?_, J'.tabs, e⟩
  · obtain ⟨v, a, b⟩ := J.loc p hp; exact ⟨v, a, p.2.mono _ _ _ up b⟩
  · obtain ⟨h1, h2, v, o, a, b, c⟩ := J.cel p hp; exact ⟨h1, h2, v, o, G _ _ a, b, p.2.mono _ _ _ up c⟩
  · rcases List.mem_cons.mp hb with rfl | hb
    · exact ⟨_, e⟩
    · exact J'.alive b hb
theorem FI.outOf {I : Addr} {oI : Obj} (J : FI g L nc (I :: ps) (fun h => Tb h ∧ h.get? I = some oI) ls cs m s₀ s) : FI g L nc ps Tb ls cs m s₀ s := by
  have up : ∀ a o, Std L nc (I :: ps) s.heap a o → Std L nc ps s.heap a o := fun a o h => ⟨h.1, h.2.1, fun hm => h.2.2 (List.mem_cons_of_mem _ hm)⟩
  exact ⟨J.same, J.fr, fun p hp => let ⟨v, a, b⟩ := J.loc p hp; ⟨v, a, p.2.mono _ _ _ up b⟩, fun p hp => let ⟨h1, h2, v, o, a, b, c⟩ := J.cel p hp; ⟨h1, h2, v, o, a, b, p.2.mono _ _ _ up c⟩, J.all, fun b hb => J.alive b (List.mem_cons_of_mem _ hb), J.tabs.1⟩
/-- the iterator has moved -/
theorem FI.moved {I : Addr} {oI oI' : Obj} {tk : Nat} (C : FrC env g L nc (I :: ps)) (hI : I ∉ ps) (J : FI g L nc (I :: ps) (fun h => Tb h ∧ h.get? I = some oI) ls cs m s₀ s) (K : ∀ b o, b ∉ [I] → s.heap.get? b = some o → h'.get? b = some o) (e : h'.get? I = some oI') (hT : Stays ps Tb) : FI g L nc (I :: ps) (fun h => Tb h ∧ h.get? I = some oI') ls cs m s₀ { s with heap := h', toks := tk } := by
  have k : ∀ b ∈ ps, h'.get? b = s.heap.get? b := fun b hb => by
    obtain ⟨o, e⟩ := J.alive b (List.mem_cons_of_mem _ hb)
    rw [e]; exact K b o (fun hm => hI (by rw [← List.mem_singleton.mp hm]; exact hb)) e
  refine J.call C (fun b o hb e => K b o (fun hm => hb (by rw [List.mem_singleton.mp hm]; exact List.mem_cons_self)) e) (Same.put _ _ _) (fun b hb => ?_) ⟨hT _ _ k J.tabs.1, e⟩
  rcases List.mem_cons.mp hb with rfl | hb
  · exact ⟨_, e⟩
  · obtain ⟨o, q⟩ := J.alive b (List.mem_cons_of_mem _ hb); exact ⟨o, (k b hb).trans q⟩
theorem Stays.cons {I : Addr} {oI : Obj} (hT : Stays ps Tb) : Stays (I :: ps) (fun h => Tb h ∧ h.get? I = some oI) := fun _ _ k x => ⟨hT _ _ (fun b hb => k b (List.mem_cons_of_mem _ hb)) x.1, (k _ List.mem_cons_self).trans x.2⟩
/-- behind the loop -/
theorem FI.leave {I : Addr} {oI : Obj} {tk : Nat} (C : FrC env g L nc (I :: ps)) (hI : I ∉ ps) (J : FI g L nc (I :: ps) (fun h => Tb h ∧ h.get? I = some oI) ls cs m s₀ s) (K : ∀ b o, b ∉ [I] → s.heap.get? b = some o → h'.get? b = some o) (hT : Stays ps Tb) : FI g L nc ps Tb ls cs m s₀ { s with heap := h', toks := tk } := by
  have k : ∀ b ∈ ps, h'.get? b = s.heap.get? b := fun b hb => by
    obtain ⟨o, e⟩ := J.alive b (List.mem_cons_of_mem _ hb)
    rw [e]; exact K b o (fun hm => hI (by rw [← List.mem_singleton.mp hm]; exact hb)) e
  have up : ∀ a o, Std L nc (I :: ps) s.heap a o → Std L nc ps h' a o := fun a o h => ⟨K a o (fun hm => h.2.2 (by rw [List.mem_singleton.mp hm]; exact List.mem_cons_self)) h.1, h.2.1, fun hm => h.2.2 (List.mem_cons_of_mem _ hm)⟩
  have cI : ∀ k : Nat, k ≤ nc → (L + k : Nat) ∉ [I] := fun k hk hm => by have := (C.ps I List.mem_cons_self).2; have e := List.mem_singleton.mp hm; have e' : @Eq Nat _ _ := e; omega
  refine ⟨J.same.trans (Same.put _ _ _), ⟨J.fr.ns.at' fun o e => K _ o (by have := cI 0 (Nat.zero_le _); simpa using this) e, fun b o e => K b o (fun hm => by rw [List.mem_singleton.mp hm, (C.ps I List.mem_cons_self).1] at e; cases e) (J.fr.keep b o e), J.fr.above⟩, fun p hp => ?_, fun p hp => ?_, fun j hj => ?_, fun b hb => ?_, hT _ _ k J.tabs.1⟩
  · obtain ⟨v, a, b⟩ := J.loc p hp; exact ⟨v, a, p.2.mono _ _ _ up b⟩
  · obtain ⟨h1, h2, v, o, a, b, c⟩ := J.cel p hp; exact ⟨h1, h2, v, o, K _ _ (cI _ h2) a, b, p.2.mono _ _ _ up c⟩
  · obtain ⟨o, v, a, b⟩ := J.all j hj; exact ⟨o, v, K _ _ (by have := cI (1 + j) (by omega); rwa [← Nat.add_assoc] at this) a, b⟩
  · obtain ⟨o, q⟩ := J.alive b (List.mem_cons_of_mem _ hb); exact ⟨o, (k b hb).trans q⟩
/-- a for over a range, by its frame's states -/
theorem fi_for {σ : Type} {fe e : PySem.Expr} {n : Nat} {px p1 : Pos} {body : List Stmt} {Q : Flow → Shared → Prop} (Tbs : Nat → σ → Heap → Prop) (lss : Nat → σ → List (Str × VP)) (c₀ : σ) (C : FrC env g L nc ps) (hT : ∀ i c, Stays ps (Tbs i c)) (hk : env.kindOf x = some .local) (hh : A.handled = none) (hE : PassesOwn (model prog w) A env E)
    (J : FI g L nc ps (Tbs 0 c₀) (lss 0 c₀) cs m s₀ s) (hf : Pure (model prog w) A env s.heap fe (.type "range")) (he : PureZ (model prog w) A env s.heap e (n : Int)) (hn : n ≤ 1000) (hx : ∀ i c, ((lss i c).all fun p => p.1 != x) = true)
    (turn : ∀ I oI i c m s', I ∉ ps → FrC env g L nc (I :: ps) → Stays (I :: ps) (fun h => Tbs i c h ∧ h.get? I = some oI) → i < n → FI g L nc (I :: ps) (fun h => Tbs i c h ∧ h.get? I = some oI) ((x, vInt i) :: lss i c) cs m s₀ s' →
      wpAny (model prog w) A (execs body env) (fun f s₃ => f = .next ∧ ∃ c' m', FI g L nc (I :: ps) (fun h => Tbs (i + 1) c' h ∧ h.get? I = some oI) (lss (i + 1) c') cs m' s₀ s₃) E s')
    (done : ∀ c m s', FI g L nc ps (Tbs n c) (lss n c) cs m s₀ s' → Q .next s')
    (hs : ∀ x, foldedSetIterable (.Call fe [e] [] p1) env x = pure x := by intro _; rfl)
    (h1 : eval (.Call fe [e] [] p1) env = (do callWith p1 (← eval fe env) [] (backTo p1 (starEach [e] env)) (backToKw p1 (keywordEach [] env))) := by rfl) (hse : starEach [e] env = (false, eval e env) :: starEach [] env := by rfl) :
    wpAny (model prog w) A (exec (.For (.Name x px) (.Call fe [e] [] p1) body [] pos) env) Q E s := by
  refine wpAny_For ?_ hs
  refine ev_range J hf he (fun r s1 t u v G J1 hr => ?_) C (hT 0 c₀) h1 hse
  refine wpAny_pyIter_range hr (small_one (by decide) (by decide) (by omega) (by omega)) ?_
  rw [rangeSize_nat, show ((((n : Int) - 0).toNat : Nat) : Int) = (n : Int) by omega]
  generalize hoI : ({ cls := .type "range_iterator", data := .fields #[rawInt 0, rawInt (n : Int), rawInt 1] } : Obj) = oI0
  have up : ∀ b o, s1.heap.get? b = some o → (s1.heap.push oI0).get? b = some o := fun b o e => Heap.get?_push_of_some _ e
  have hI2 : (s1.heap.push oI0).get? s1.heap.objs.size = some oI0 := Heap.get?_push_size _ (by rw [← hoI]; rfl)
  generalize hI : s1.heap.objs.size = I at hI2 ⊢
  have hIn : s1.heap.get? I = none := by rw [← hI]; exact Heap.get?_none_of_le (Nat.le_refl _)
  have hIp : I ∉ ps := fun hm => by obtain ⟨o, e⟩ := J1.alive I hm; rw [hIn] at e; cases e
  have C' : FrC env g L nc (I :: ps) := ⟨C.loc, C.fn, C.gl, C.ab, fun b hb => by
    rcases List.mem_cons.mp hb with rfl | hb
    · refine ⟨?_, ?_⟩
      · cases q : g.get? b with
        | none => rfl
        | some o => have := J1.fr.keep b o q; rw [hIn] at this; cases this
      · by_cases q : b < L ∨ L + nc < b
        · exact q
        exfalso
        by_cases q0 : b = L
        · obtain ⟨_, _, _, h1, _⟩ := J1.fr.ns
          rw [q0, h1] at hIn; cases hIn
        · obtain ⟨o', v, h1, _⟩ := J1.all (b - (L + 1)) (by have q0' : ¬ (@Eq Nat b L) := q0; omega)
          have e : L + 1 + (b - (L + 1)) = b := by have q0' : ¬ (@Eq Nat b L) := q0; omega
          rw [e, hIn] at h1; cases h1
    · exact C.ps b hb⟩
  have W := LCg.range_walks (prog := prog) (w := w) (I := I) hh 0 n
  have J2 := J1.into (s' := { s1 with heap := s1.heap.push oI0 }) C hIn (J1.fr.keeps up) up (Same.put s1 _ s1.toks) hI2 (hT 0 c₀)
  refine codeAny_forLoop (fun k s' => ∃ i c m' oI, IsRangeIter s'.heap I (0 + (i : Nat) * 1) ((n : Int) - (i : Nat)) 1 ∧ FI g L nc (I :: ps) (fun h => Tbs i c h ∧ h.get? I = some oI) (lss i c) cs m' s₀ s' ∧ i ≤ n ∧ k = n + 1 - i) ?_ (n + 1)
    ⟨0, c₀, m, oI0, by subst hoI; simpa [IsRangeIter] using hI2, J2, Nat.zero_le _, rfl⟩
  rintro k s' ⟨i, c, m', oI, hst', J', hi, rfl⟩
  by_cases hlt : i < n
  · refine W.item i _ _ _ hlt hst' fun v h₁ tk₁ hP hst₁ hk₁ => ?_
    obtain ⟨tv, rfl⟩ := hP
    obtain ⟨oI', eI'⟩ : ∃ o, h₁.get? I = some o := ⟨_, hst₁⟩
    have J3 := J'.moved (tk := tk₁) C' hIp hk₁ eI' (hT i c)
    refine wpAny_assign_Name (wpAny_storeName_local (m := m') hk (by rw [C.loc]; exact J3.fr.ns) (fun h₂ hn₂ hs₂ => ?_) (by rw [C.fn]; rfl))
    rw [C.loc] at hn₂ hs₂
    have J4 := J3.put (vInt i) C' hn₂ hs₂ ⟨tv, by rw [Int.zero_add]⟩ (hx i c) (Stays.cons (hT i c)) (tk := tk₁ + 1)
    refine wpAny_mono (turn I oI' i c _ _ hIp C' (Stays.cons (hT i c)) hlt J4) (fun f s₃ h₃ => ?_) fun e s₃ h₃ => hE e s₃ h₃
    obtain ⟨rfl, c', m2, J5⟩ := h₃
    refine ⟨n + 1 - (i + 1), by omega, i + 1, c', m2, oI', ?_, J5, hlt, rfl⟩
    have e5 := J5.tabs.2
    have e4 := J4.tabs.2
    refine W.frame _ _ _ hst₁ fun b hb o e => ?_
    rw [List.mem_singleton.mp hb] at e ⊢
    rw [eI'] at e
    exact Option.some.inj e ▸ e5
  · obtain rfl : i = n := by omega
    refine W.done _ _ _ hst' fun h₁ tk₁ hk₁ => wpAny_execs_nil ?_
    exact done c m' _ (J'.leave C' hIp hk₁ (hT i c))
end

-- fis
section
variable {prog : Program} {w : World} {p : Program} {loose : List Str} {mg mb : Str → Option Value} {env : Env} {g h h' : Heap} {L nc : Nat} {ps : List Addr} {Tb : Heap → Prop} {ls : List (Str × VP)} {cs : List (Nat × VP)} {m : Str → Option Value} {s₀ s s' : Shared} {A : Around} {E : Value → Shared → Prop} {x : Str} {pos : Pos}
theorem FrC.cons {I : Addr} (C : FrC env g L nc ps) (J : FI g L nc ps Tb ls cs m s₀ s) (hIn : s.heap.get? I = none) : FrC env g L nc (I :: ps) := ⟨C.loc, C.fn, C.gl, C.ab, fun b hb => by
  rcases List.mem_cons.mp hb with rfl | hb
  · refine ⟨?_, ?_⟩
    · cases q : g.get? b with
      | none => rfl
      | some o => have := J.fr.keep b o q; rw [hIn] at this; cases this
    · by_cases q : b < L ∨ L + nc < b
      · exact q
      exfalso
      by_cases q0 : b = L
      · obtain ⟨_, _, _, h1, _⟩ := J.fr.ns
        rw [q0, h1] at hIn; cases hIn
      · obtain ⟨o', v, h1, _⟩ := J.all (b - (L + 1)) (by have q0' : ¬ (@Eq Nat b L) := q0; omega)
        have e : L + 1 + (b - (L + 1)) = b := by have q0' : ¬ (@Eq Nat b L) := q0; omega
        rw [e, hIn] at h1; cases h1
  · exact C.ps b hb⟩
/-- a new object at D, held by the name x: D turns from now on -/
theorem FI.stored {D : Addr} {oD : Obj} (C : FrC env g L nc ps) (J : FI g L nc ps Tb ls cs m s₀ s) (hD : s.heap.get? D = none) (F : Fr g L s'.heap (fun z => if z = x then some (.ref D) else m z)) (K : KeepBut [] L s.heap s'.heap) (S : Same s s') (e : s'.heap.get? D = some oD) (hT : Stays ps Tb) (hx : (ls.all fun p => p.1 != x) = true) :
    FI g L nc (D :: ps) (fun h => Tb h ∧ h.get? D = some oD) ((x, vRef D) :: ls) cs (fun z => if z = x then some (.ref D) else m z) s₀ s' := by
  have k : ∀ b ∈ ps, s'.heap.get? b = s.heap.get? b := fun b hb => by
    obtain ⟨o, q⟩ := J.alive b hb
    rw [q]; exact K b o (fun hm => nomatch hm) (C.off b hb).2 q
  have up : ∀ a o, Std L nc ps s.heap a o → Std L nc (D :: ps) s'.heap a o := fun a o h => ⟨K a o (fun hm => nomatch hm) (by rcases h.2.1 with q | q <;> (intro e; have e' : @Eq Nat _ _ := e; omega)) h.1, h.2.1, fun hm => by
    rcases List.mem_cons.mp hm with q | hm
    · have := h.1; rw [q, hD] at this; cases this
    · exact h.2.2 hm⟩
  refine ⟨J.same.trans S, F, fun p hp => ?_, fun p hp => ?_, fun j hj => ?_, fun b hb => ?_, hT _ _ k J.tabs, e⟩
  · rcases List.mem_cons.mp hp with rfl | hp
    · exact ⟨_, by simp, rfl⟩
    · obtain ⟨v, a, b⟩ := J.loc p hp
      have : p.1 ≠ x := by simpa using List.all_eq_true.mp hx p hp
      exact ⟨v, by rw [if_neg this]; exact a, p.2.mono _ _ _ up b⟩
  · obtain ⟨h1, h2, v, o, a, b, c⟩ := J.cel p hp
    exact ⟨h1, h2, v, o, K _ _ (fun hm => nomatch hm) (fun e => by have e' : @Eq Nat _ _ := e; omega) a, b, p.2.mono _ _ _ up c⟩
  · obtain ⟨o, v, a, b⟩ := J.all j hj
    exact ⟨o, v, K _ _ (fun hm => nomatch hm) (fun e => by have e' : @Eq Nat _ _ := e; omega) a, b⟩
  · rcases List.mem_cons.mp hb with rfl | hb
    · exact ⟨_, e⟩
    · obtain ⟨o, q⟩ := J.alive b hb; exact ⟨o, (k b hb).trans q⟩
/-- what the list at D holds is changed -/
theorem FI.change {D : Addr} {oD oD' : Obj} (C : FrC env g L nc (D :: ps)) (hD : D ∉ ps) (J : FI g L nc (D :: ps) (fun h => Tb h ∧ h.get? D = some oD) ls cs m s₀ s) (hs : Heap.SameBut D s.heap h') (e : h'.get? D = some oD') (hT : Stays ps Tb) {tk : Nat} : FI g L nc (D :: ps) (fun h => Tb h ∧ h.get? D = some oD') ls cs m s₀ { s with heap := h', toks := tk } :=
  J.moved C hD (fun b o hb e => (hs.2 b (fun q => hb (by rw [q]; exact List.mem_singleton.mpr rfl))).trans e) e hT
/-- «x = []» -/
theorem fi_newlist {px p1 : Pos} (C : FrC env g L nc ps) (J : FI g L nc ps Tb ls cs m s₀ s) (hT : Stays ps Tb) (hk : env.kindOf x = some .local) (hx : (ls.all fun p => p.1 != x) = true) (hs : swapsWith (.List [] p1) (some (.Name x px)) pos.line env = pure false := by rfl) :
    wpAny (model prog w) A (exec (.Assign [.Name x px] (.List [] p1) pos) env) (fun f s' => f = .next ∧ ∃ D m', D ∉ ps ∧ FrC env g L nc (D :: ps) ∧ FI g L nc (D :: ps) (fun h => Tb h ∧ h.get? D = some (listOf (List.toArray []) 0)) ((x, vRef D) :: ls) cs m' s₀ s') E s := by
  refine wpAny_Assign_Name (List_ (args_nil (wpAny_newObj_type ?_ (by show ([] : List Value).toArray.size ≤ sizeLine; rw [sizeLine_eq]; decide)))) hs
  have hD : s.heap.get? s.heap.objs.size = none := Heap.get?_none_of_le (Nat.le_refl _)
  have F1 : Fr g L (s.heap.push _) m := J.fr.push { cls := .type "list", data := .seq #[] }
  refine wpAny_storeName_local (m := m) hk (by rw [C.loc]; exact F1.ns) (fun h' hn hsb => ?_) (by rw [C.fn]; rfl)
  rw [C.loc] at hn hsb
  have hDL : s.heap.objs.size ≠ L := Nat.ne_of_gt J.fr.ns.lt
  have J' := J.stored (s' := { s with heap := h', toks := s.toks + 1 }) (D := s.heap.objs.size) (oD := listOf (List.toArray []) 0) C hD (F1.set hn hsb) (fun b o _ hL e => (hsb.2 b hL).trans (Heap.get?_push_of_some _ e)) (Same.put _ _ _) ((hsb.2 _ hDL).trans (Heap.get?_push_size _ rfl)) hT hx
  have hm : s.heap.objs.size ∉ ps := fun hm => by obtain ⟨o, e⟩ := J.alive _ hm; rw [hD] at e; cases e
  exact ⟨rfl, s.heap.objs.size, _, hm, C.cons J hD, J'⟩
/-- «x //= e» -/
theorem fi_aug_div {e : PySem.Expr} {px : Pos} {a b : Int} (C : FrC env g L nc ps) (J : FI g L nc ps Tb ((x, vInt a) :: ls) cs m s₀ s) (hT : Stays ps Tb) (hk : env.kindOf x = some .local) (hx : (ls.all fun p => p.1 != x) = true) (z : PureZ (model prog w) A env s.heap e b) (hb : 0 < b) (hp : ∀ s' : Shared, s'.heap = s.heap → (Builtin.divisionGoesByPylong a b = false ∨ PySem.PylongRoom (model prog w) A s')) :
    wpAny (model prog w) A (exec (.AugAssign (.Name x px) .FloorDiv e pos) env) (FN g L nc ps Tb ((x, vInt (a / b)) :: ls) cs s₀) E s := by
  obtain ⟨v, hv, t, rfl⟩ := J.loc (x, vInt a) List.mem_cons_self
  refine wpAny_AugAssign_Name (wpAny_loadName_local C.fn hk (by rw [C.loc]; exact J.fr.ns) hv (z _ _ s rfl fun t2 tk2 => ifloordiv_int (by omega) ?_ (hp _ rfl)))
  rw [Int.fdiv_eq_ediv_of_nonneg _ (by omega)]
  have J1 : FI g L nc ps Tb ls cs m s₀ s := J.sub (fun p hp => List.mem_cons_of_mem _ hp) (fun p hp => hp)
  refine wpAny_storeName_local (m := m) hk (by rw [C.loc]; exact J.fr.ns) (fun h' hn hsb => ?_) (by rw [C.fn]; rfl)
  rw [C.loc] at hn hsb
  exact ⟨rfl, _, (J1.put (tk := 0) (vInt (a / b)) C hn hsb ⟨_, rfl⟩ hx hT).tok rfl rfl rfl⟩
/-- «if a == b: .. else: ..» -/
theorem fi_if_eq {e1 e2 : PySem.Expr} {p1 : Pos} {b1 b2 : List Stmt} {a b : Int} {Q : Flow → Shared → Prop} (J : FI g L nc ps Tb ls cs m s₀ s) (z1 : PureZ (model prog w) A env s.heap e1 a) (z2 : PureZ (model prog w) A env s.heap e2 b) (hm : behindInMarks .Eq e2 = false)
    (h1 : a = b → ∀ s', FI g L nc ps Tb ls cs m s₀ s' → wpAny (model prog w) A (execs b1 env) Q E s') (h2 : a ≠ b → ∀ s', FI g L nc ps Tb ls cs m s₀ s' → wpAny (model prog w) A (execs b2 env) Q E s') : wpAny (model prog w) A (exec (.If (.Compare e1 [.Eq] [e2] p1) b1 b2 pos) env) Q E s := by
  refine wpAny_If (wpAny_isTrue_Compare1 (z1 _ _ s rfl fun t tk => z2 _ _ _ rfl fun t2 tk2 => PyProof.Rows.eq_int ?_) hm)
  refine wpAny_truthy_bool ?_
  have J' : FI g L nc ps Tb ls cs m s₀ { s with toks := tk2 } := J.tok rfl rfl rfl
  by_cases h : a = b
  · simp only [h, beq_self_eq_true, if_true]
    exact h1 h _ J'
  · have e : (a == b) = false := by simpa using h
    simp only [e, Bool.false_eq_true, if_false]
    exact h2 h _ J'
theorem FI.setAt {D : Addr} {na : Nat} {us : List Value} {k : Nat} {v : Value} (C : FrC env g L nc (D :: ps)) (hD : D ∉ ps) (J : FI g L nc (D :: ps) (fun h => Tb h ∧ h.get? D = some (listOf us.toArray na)) ls cs m s₀ s) (hT : Stays ps Tb) :
    FI g L nc (D :: ps) (fun h => Tb h ∧ h.get? D = some (listOf (us.set k v).toArray na)) ls cs m s₀ { s with heap := s.heap.update D (Obj.mapSeq (·.setIfInBounds (k : Int).toNat v)) } := by
  refine (J.change (tk := s.toks) C hD (Heap.SameBut.update ..) ((Heap.get?_update_self _ J.tabs.2 rfl).trans (congrArg some ?_)) hT)
  have e : us.toArray.setIfInBounds k v = (us.set k v).toArray := by
    apply Array.toList_inj.mp
    simp
  rw [Int.toNat_natCast]
  simp [Obj.mapSeq, W.listOf, e]
/-- «x[i] += e», «x[i] -= e» -/
theorem fi_item {oe ie e : PySem.Expr} {p1 : Pos} {op : Operator} {D : Addr} {na : Nat} {us : List Value} {c : List Int} {k : Nat} {d z' : Int} (C : FrC env g L nc (D :: ps)) (hD : D ∉ ps) (J : FI g L nc (D :: ps) (fun h => Tb h ∧ h.get? D = some (listOf us.toArray na)) ls cs m s₀ s) (hT : Stays ps Tb)
    (h1 : Pure (model prog w) A env s.heap oe (.ref D)) (h2 : PureZ (model prog w) A env s.heap ie (k : Int)) (h3 : PureZ (model prog w) A env s.heap e d) (hi : IntsAre us c) (hk : k < c.length) (hk2 : k ≤ 1000) (ho : ∀ (Q E : Value → Shared → Prop) (s : Shared) t u, Q (.int z' s.toks) { s with toks := s.toks + 1 } → wpAny (model prog w) A (inplaceOp op (.int (c.getD k 0) t) (.int d u)) Q E s)
    (hi' : ∀ ov iv new, augStore ie ov iv new = (do holding [new, ov, iv] (setItem ov iv new); release [new, ov, iv] []; pure .next) := by intros; rfl) :
    wpAny (model prog w) A (exec (.AugAssign (.Subscript oe ie p1) op e pos) env) (fun f s' => f = .next ∧ ∃ us', IntsAre us' (c.set k z') ∧ FI g L nc (D :: ps) (fun h => Tb h ∧ h.get? D = some (listOf us'.toArray na)) ls cs m s₀ s') E s := by
  have hl := J.tabs.2
  obtain ⟨t0, e0⟩ := hi.get k (c.getD k 0) (by rw [List.getD_eq_getElem?_getD, List.getElem?_eq_getElem hk]; rfl)
  refine wpAny_AugAssign_SubscriptAny (h1 _ _ s rfl fun tk => h2 _ _ _ rfl fun t1 tk1 => wpAny_getItem_list (k := (k : Int)) ⟨_, hl, rfl, _, rfl⟩ (by omega) (by omega) (x := .int (c.getD k 0) t0) (by rw [Int.toNat_natCast, List.getElem?_toArray]; exact e0) (h3 _ _ _ rfl fun t2 tk2 => ho _ _ _ _ _ ?_)) hi'
  have J' : FI g L nc (D :: ps) (fun h => Tb h ∧ h.get? D = some (listOf us.toArray na)) ls cs m s₀ { s with toks := tk2 + 1 } := J.tok rfl rfl rfl
  have hus : us.length = c.length := hi.length
  refine ki_setAt hl (by omega) (by omega) (by rw [List.size_toArray]; omega) ?_
  exact ⟨rfl, _, ints_set hi k, J'.setAt C hD hT⟩
theorem FI.conv {ps' : List Addr} {Tb' : Heap → Prop} (J : FI g L nc ps Tb ls cs m s₀ s) (hp : ∀ b, b ∈ ps' ↔ b ∈ ps) (ht : Tb s.heap → Tb' s.heap) : FI g L nc ps' Tb' ls cs m s₀ s := by
  have up : ∀ a o, Std L nc ps s.heap a o → Std L nc ps' s.heap a o := fun a o h => ⟨h.1, h.2.1, fun hm => h.2.2 ((hp a).mp hm)⟩
  exact ⟨J.same, J.fr, fun p hp => let ⟨v, a, b⟩ := J.loc p hp; ⟨v, a, p.2.mono _ _ _ up b⟩, fun p hp => let ⟨h1, h2, v, o, a, b, c⟩ := J.cel p hp; ⟨h1, h2, v, o, a, b, p.2.mono _ _ _ up c⟩, J.all, fun b hb => J.alive b ((hp b).mp hb), ht J.tabs⟩
/-- «x.append(e)» -/
theorem fi_append {oe e : PySem.Expr} {ap cp : Pos} {D : Addr} {na : Nat} {us : List Value} (P : VP) (C : FrC env g L nc (D :: ps)) (hD : D ∉ ps) (J : FI g L nc (D :: ps) (fun h => Tb h ∧ h.get? D = some (listOf us.toArray na)) ls cs m s₀ s) (hT : Stays ps Tb)
    (h1 : Pure (model prog w) A env s.heap oe (.ref D)) (h2 : ∀ s', FI g L nc (D :: ps) (fun h => Tb h ∧ h.get? D = some (listOf us.toArray na)) ls cs m s₀ s' → wpAny (model prog w) A (eval e env) (FE g L nc (D :: ps) (fun h => Tb h ∧ h.get? D = some (listOf us.toArray na)) ls cs m s₀ P) E s') (hsz : us.length ≤ 1000)
    (hi : interactive env = false := by rfl) (hsw : swapsWith (.Call (.Attribute oe (Str.ofString "append") ap) [e] [] cp) none pos.line env = pure false := by rfl) (he : starEach [e] env = (false, eval e env) :: starEach [] env := by rfl)
    {pl : Sem Bool} (hc : eval (.Call (.Attribute oe (Str.ofString "append") ap) [e] [] cp) env = (do
      let ov ← eval oe env
      standAt ap.atName
      let (f, first) ← holding [ov] (getMethod ov (Str.ofString "append") pl)
      callWith cp f first (backTo cp (starEach [e] env)) []) := by rfl) :
    wpAny (model prog w) A (exec (.Expr (.Call (.Attribute oe (Str.ofString "append") ap) [e] [] cp) pos) env) (fun f s' => f = .next ∧ ∃ v, P.P v (Std L nc (D :: ps) s'.heap) ∧ FI g L nc (D :: ps) (fun h => Tb h ∧ h.get? D = some (listOf (us ++ [v]).toArray (na + 1))) ls cs m s₀ s') E s := by
  refine wpAny_Expr (MethodCall_ (pl := pl) (h1 _ _ s rfl fun tk => Calls.getMethod_list_append J.tabs.2 rfl rfl (callWith_method1 ?_ he)) hc) hi hsw
  rw [he]
  refine spliced_cons ?_
  show wpAny _ _ (eval e env) _ _ _
  refine wpAny_mono (h2 _ (J.tok rfl rfl rfl)) (fun v s1 h => args_nil ?_) fun _ _ e => e
  obtain ⟨J1, hv⟩ := h
  refine append_at J1.tabs.2 (fun h' hs hh => ?_) (by rw [List.size_toArray, sizeLine_eq]; omega)
  have J2 := J1.change (tk := s1.toks) C hD hs hh hT
  have e : ({ cls := .type "list", data := .seq (us.toArray.push v) (na + 1) } : Obj) = listOf (us ++ [v]).toArray (na + 1) := by simp [W.listOf]
  rw [e] at J2
  exact ⟨rfl, v, P.mono _ _ _ (std_keep fun b o hb hL e => (hs.2 b (fun q => hb (by rw [q]; exact List.mem_cons_self))).trans e) hv, J2⟩
end

-- lawx
section
variable {prog : Program} {w : World} {p : Program} {loose : List Str} {mg mb : Str → Option Value} {dp un : Nat} {fr : Option (List Env)} {gd : Option (List Code)} {g : Heap} {L st sc na pl pl' : Nat} {vs : List Value} {ns : List Int} {mgB : Str → Option Value} {bm : Addr} {ob : Obj} {ls : List (Str × VP)} {cs : List (Nat × VP)} {m : Str → Option Value} {s₀ s : Shared} {E : Value → Shared → Prop}
theorem law_draw {dp' un' : Nat} {fr' : Option (List Env)} {gd' : Option (List Code)} {Q : Value → Shared → Prop} (C : LawC w p loose mg mb dp un fr g L st sc vs ns mgB bm ob) (I : LawI g L st sc na pl ls cs m s₀ s) (hp : pl ≤ 1000) (hd : dp' ≤ dp + 20)
    (ret : ∀ s' t, LawI g L st sc na (pl + 1) ls cs m s₀ s' → Q (.int (drawOf ns pl) t) s') : wpAny (model prog w) (Ar dp' fr' gd' un') (call (.ref 388) [.ref st]) Q E s := by
  obtain ⟨tk, ps1, ps2, h1, h2, h3, _⟩ := I.tabs
  have hd' := C.hd
  exact lawDraw I.fr.keep C.KG C.TG h3 C.st1 C.gs C.hi C.hlen hp (by omega) fun s' t tk' K P S => ret s' t (I.draw C K P S)
end

-- law2
def qOf (ns : List Int) : Int := 2 + (if drawOf ns 0 - 9 < 0 then -(drawOf ns 0 - 9) else drawOf ns 0 - 9)
def smallOf (ns : List Int) (i : Nat) (k : Int) : Nat := (1 + drawOf ns i % k).toNat
theorem smallOf_eq (ns : List Int) (i : Nat) {k : Int} (hk : 0 < k) : ((smallOf ns i k : Nat) : Int) = 1 + drawOf ns i % k := by
  have := Int.emod_nonneg (drawOf ns i) (show k ≠ 0 by omega)
  unfold smallOf; omega
section
variable {prog : Program} {w : World} {p : Program} {loose : List Str} {mg mb : Str → Option Value} {dp un : Nat} {fr : Option (List Env)} {gd : Option (List Code)} {g : Heap} {L st sc na pl : Nat} {vs : List Value} {ns : List Int} {mgB : Str → Option Value} {bm : Addr} {ob : Obj} {ls : List (Str × VP)} {cs : List (Nat × VP)} {m : Str → Option Value} {s₀ s : Shared} {E : Value → Shared → Prop}
theorem ev_draw {p1 p2 p3 : Pos} {Q : Value → Shared → Prop} (C : LawC w p loose mg mb dp un fr g L st sc vs ns mgB bm ob) (I : LawI g L st sc na pl ls cs m s₀ s) (hst : (1, vRef st) ∈ cs) (hp : pl ≤ 1000) (ret : ∀ s' t, LawI g L st sc na (pl + 1) ls cs m s₀ s' → Q (.int (drawOf ns pl) t) s') :
    wpAny (model prog w) ((Ar dp fr gd un).deeper (lawEnv L)) (eval (.Call (.Name (Str.ofString "_law_draw") p1) [.Name (Str.ofString "state") p2] [] p3) (lawEnv L)) Q E s := by
  obtain ⟨v, rfl, hv⟩ := pure_cel (M := model prog w) (A := (Ar dp fr gd un).deeper (lawEnv L)) (env := lawEnv L) (x := Str.ofString "state") (pos := p2) C.fc I hst rfl rfl
  exact ev_call I C.KG (by k_is) (pure_glob C.fc I C.KG C.TG (v := .ref 388) (by k_is) rfl) (PureA.cons hv PureA.nil) fun s' I' _ => law_draw C I' hp (by show dp + 1 ≤ _; omega) ret
theorem ev_small {k : Int} {p1 p2 p3 p4 p5 p6 p7 : Pos} (C : LawC w p loose mg mb dp un fr g L st sc vs ns mgB bm ob) (I : LawI g L st sc na pl ls cs m s₀ s) (hst : (1, vRef st) ∈ cs) (hp : pl ≤ 1000) (hk : 0 < k) :
    wpAny (model prog w) ((Ar dp fr gd un).deeper (lawEnv L)) (eval (.BinOp (.Constant (.int 1) 0 p1) .Add (.BinOp (.Call (.Name (Str.ofString "_law_draw") p2) [.Name (Str.ofString "state") p3] [] p4) .Mod (.Constant (.int k) 0 p5) p6) p7) (lawEnv L)) (LawE g L st sc na (pl + 1) ls cs m s₀ (vInt (smallOf ns pl k))) E s := by
  rw [smallOf_eq ns pl hk]
  have hk0 : k ≠ 0 := by omega
  refine wpAny_BinOp ?_
  walk1
  refine wpAny_BinOp ?_
  refine ev_draw C (I.tok rfl rfl rfl) hst hp fun s' t I2 => ?_
  one_place
  rw [Int.fmod_eq_emod_of_nonneg _ (by omega)]
  exact ⟨I2.tok rfl rfl rfl, _, rfl⟩
theorem st_q (C : LawC w p loose mg mb dp un fr g L st sc vs ns mgB bm ob) (I : LawI g L st sc na 0 [] [(1, vRef st)] m s₀ s) :
    wpAny (model prog w) ((Ar dp fr gd un).deeper (lawEnv L)) (exec (lawSt 1) (lawEnv L)) (FN g L 7 (lps st) (LTb st sc na 1) [(Str.ofString "q", vInt (qOf ns))] [(1, vRef st)] s₀) E s := by
  have F := I.fr
  have KG := C.KG
  have TG := C.TG
  refine fi_local (m := m) (x := Str.ofString "q") (vInt (qOf ns)) C.fc LTb.stays rfl rfl rfl ?_
  unfold lawEnv
  (conv in (occs := *) (stScope _) => all_goals whnf)
  iterate 6 walk1
  refine wpAny_BinOp (ev_draw C (I.tok rfl rfl rfl) List.mem_cons_self (by decide) fun s' t I2 => ?_)
  clear F
  one_place
  exact ⟨I2.tok rfl rfl rfl, _, rfl⟩
theorem st_n (C : LawC w p loose mg mb dp un fr g L st sc vs ns mgB bm ob) (I : LawI g L st sc na 1 [(Str.ofString "q", vInt (qOf ns))] [(1, vRef st)] m s₀ s) :
    wpAny (model prog w) ((Ar dp fr gd un).deeper (lawEnv L)) (exec (lawSt 2) (lawEnv L)) (FN g L 7 (lps st) (LTb st sc na 2) [(Str.ofString "n", vInt (smallOf ns 1 3)), (Str.ofString "q", vInt (qOf ns))] [(1, vRef st)] s₀) E s :=
  fi_local (m := m) (x := Str.ofString "n") (vInt (smallOf ns 1 3)) C.fc LTb.stays rfl rfl rfl (ev_small C I List.mem_cons_self (by decide) (by decide))
end

-- law3
def modOf (ns : List Int) (i z : Nat) : Nat := (drawOf ns i % (z : Int)).toNat
section
variable {prog : Program} {w : World} {p : Program} {loose : List Str} {mg mb : Str → Option Value} {dp un : Nat} {fr : Option (List Env)} {gd : Option (List Code)} {g : Heap} {L st sc na pl : Nat} {vs : List Value} {ns : List Int} {mgB : Str → Option Value} {bm : Addr} {ob : Obj} {ls : List (Str × VP)} {cs : List (Nat × VP)} {m : Str → Option Value} {s₀ s : Shared} {E : Value → Shared → Prop}
theorem modOf_eq (ns : List Int) (i : Nat) {z : Nat} (hz : 0 < z) : ((modOf ns i z : Nat) : Int) = drawOf ns i % (z : Int) := by
  have := Int.emod_nonneg (drawOf ns i) (show (z : Int) ≠ 0 by omega)
  unfold modOf; omega
theorem modOf_lt (ns : List Int) (i : Nat) {z : Nat} (hz : 0 < z) : modOf ns i z < z := by
  have := Int.emod_lt_of_pos (drawOf ns i) (show (0 : Int) < (z : Int) by omega)
  have := modOf_eq ns i hz
  omega
theorem ev_mod {x : Str} {z : Nat} {p1 p2 p3 p4 p5 : Pos} (C : LawC w p loose mg mb dp un fr g L st sc vs ns mgB bm ob) (I : LawI g L st sc na pl ls cs m s₀ s) (hst : (1, vRef st) ∈ cs) (hp : pl ≤ 1000) (hz : 0 < z)
    (hx : ∀ s', LawI g L st sc na (pl + 1) ls cs m s₀ s' → ∃ v, (vInt z).P v (LStd L st s'.heap) ∧ Pure (model prog w) ((Ar dp fr gd un).deeper (lawEnv L)) (lawEnv L) s'.heap (.Name x p4) v) :
    wpAny (model prog w) ((Ar dp fr gd un).deeper (lawEnv L)) (eval (.BinOp (.Call (.Name (Str.ofString "_law_draw") p1) [.Name (Str.ofString "state") p2] [] p3) .Mod (.Name x p4) p5) (lawEnv L)) (LawE g L st sc na (pl + 1) ls cs m s₀ (vInt (modOf ns pl z))) E s := by
  rw [modOf_eq ns pl hz]
  refine wpAny_BinOp (ev_draw C I hst hp fun s' t I2 => ?_)
  obtain ⟨v, ⟨t2, rfl⟩, hv⟩ := hx s' I2
  refine hv _ _ s' rfl fun tk => ?_
  have hz0 : (z : Int) ≠ 0 := by omega
  one_place
  rw [Int.fmod_eq_emod_of_nonneg _ (by omega)]
  exact ⟨I2.tok rfl rfl rfl, _, rfl⟩
theorem ev_grid {x1 x2 : Str} {r c n : Nat} {p1 p2 p3 p4 p5 p6 : Pos} (C : LawC w p loose mg mb dp un fr g L st sc vs ns mgB bm ob) (I : LawI g L st sc na pl ls cs m s₀ s) (hst : (1, vRef st) ∈ cs) (hnm : (Str.ofString "n", vInt n) ∈ ls) (hp : pl ≤ 500) (hr : r ≤ 3) (hc : c ≤ 3) (hn : n ≤ 3)
    (h1 : ∃ v, (vInt r).P v (LStd L st s.heap) ∧ Pure (model prog w) ((Ar dp fr gd un).deeper (lawEnv L)) (lawEnv L) s.heap (.Name x1 p3) v) (h2 : ∃ v, (vInt c).P v (LStd L st s.heap) ∧ Pure (model prog w) ((Ar dp fr gd un).deeper (lawEnv L)) (lawEnv L) s.heap (.Name x2 p4) v) :
    wpAny (model prog w) ((Ar dp fr gd un).deeper (lawEnv L)) (eval (.Call (.Name (Str.ofString "_law_grid") p1) [.Name (Str.ofString "state") p2, .Name x1 p3, .Name x2 p4, .Name (Str.ofString "n") p5] [] p6) (lawEnv L)) (LawE g L st sc na (pl + r * (c * n)) ls cs m s₀ (vData (drawGrid ns pl r c n))) E s := by
  obtain ⟨v, rfl, hv⟩ := pure_cel (M := model prog w) (A := (Ar dp fr gd un).deeper (lawEnv L)) (env := lawEnv L) (x := Str.ofString "state") (pos := p2) C.fc I hst rfl rfl
  obtain ⟨v1, ⟨t1, rfl⟩, h1⟩ := h1
  obtain ⟨v2, ⟨t2, rfl⟩, h2⟩ := h2
  obtain ⟨v3, ⟨t3, rfl⟩, h3⟩ := pure_loc (M := model prog w) (A := (Ar dp fr gd un).deeper (lawEnv L)) (env := lawEnv L) (x := Str.ofString "n") (pos := p5) C.fc I hnm rfl
  refine ev_call I C.KG (by k_is) (pure_glob C.fc I C.KG C.TG (v := .ref 393) (by k_is) rfl) (PureA.cons hv (PureA.cons h1 (PureA.cons h2 (PureA.cons h3 PureA.nil)))) fun s' I' _ => ?_
  obtain ⟨tk, _, _, _, _, q, _⟩ := I'.tabs
  have hd := C.hd
  exact lawGrid I'.fr.keep C.KG C.TG q C.st1 C.gs C.hi C.hlen hp hr hc hn (by show dp + 1 + 3 < _; omega) fun s2 l tk' K P S D => ⟨I'.draw C K P S, l, rfl, D.mono I'.std⟩
theorem ev_ring {n : Nat} {q : Int} {p1 p2 p3 p4 : Pos} {Q : Value → Shared → Prop} (C : LawC w p loose mg mb dp un fr g L st sc vs ns mgB bm ob) (I : LawI g L st sc na pl ls cs m s₀ s) (hnm : (Str.ofString "n", vInt n) ∈ ls) (hqm : (Str.ofString "q", vInt q) ∈ ls)
    (ret : ∀ r s', LawI g L st sc na pl ls cs m s₀ s' → RingOn w (LStd L st s'.heap) r q n → Q (.ref r) s') :
    wpAny (model prog w) ((Ar dp fr gd un).deeper (lawEnv L)) (eval (.Call (.Name (Str.ofString "GenericPolynomialRing") p1) [.Name (Str.ofString "q") p2, .Name (Str.ofString "n") p3] [] p4) (lawEnv L)) Q E s := by
  obtain ⟨v1, ⟨t1, rfl⟩, h1⟩ := pure_loc (M := model prog w) (A := (Ar dp fr gd un).deeper (lawEnv L)) (env := lawEnv L) (x := Str.ofString "q") (pos := p2) C.fc I hqm rfl
  obtain ⟨v3, ⟨t3, rfl⟩, h3⟩ := pure_loc (M := model prog w) (A := (Ar dp fr gd un).deeper (lawEnv L)) (env := lawEnv L) (x := Str.ofString "n") (pos := p3) C.fc I hnm rfl
  have hd := C.hd
  exact ev_call I C.KG (by k_is) (pure_glob C.fc I C.KG C.TG (v := .ref 59) (by k_is) rfl) (PureA.cons h1 (PureA.cons h3 PureA.nil)) fun s' I' _ => ringNew I'.fr.keep C.KG C.TG (by show dp + 1 + 4 < _; omega) fun s2 r G S R => ret r s2 (I'.grow C.fc LTb.stays G S) (R.mono I'.std)
theorem ev_module {r : Nat} {P : VP} {p1 p2 p3 : Pos} {Q : Value → Shared → Prop} (C : LawC w p loose mg mb dp un fr g L st sc vs ns mgB bm ob) (I : LawI g L st sc na pl ls cs m s₀ s) (hm : (Str.ofString "ring", P) ∈ ls) (hP : ∀ v φ, P.P v φ → v = .ref r)
    (ret : ∀ md s', LawI g L st sc na pl ls cs m s₀ s' → ModOn w (LStd L st s'.heap) md r → Q (.ref md) s') :
    wpAny (model prog w) ((Ar dp fr gd un).deeper (lawEnv L)) (eval (.Call (.Name (Str.ofString "GenericModule") p1) [.Name (Str.ofString "ring") p2] [] p3) (lawEnv L)) Q E s := by
  obtain ⟨v1, e1, h1⟩ := pure_loc (M := model prog w) (A := (Ar dp fr gd un).deeper (lawEnv L)) (env := lawEnv L) (x := Str.ofString "ring") (pos := p2) C.fc I hm rfl
  obtain rfl := hP _ _ e1
  have hd := C.hd
  exact ev_call I C.KG (by k_is) (pure_glob C.fc I C.KG C.TG (v := .ref 377) (by k_is) rfl) (PureA.cons h1 PureA.nil) fun s' I' _ => modNew I'.fr.keep C.KG C.TG (by show dp + 1 + 4 < _; omega) fun s2 md G S R => ret md s2 (I'.grow C.fc LTb.stays G S) (R.mono I'.std)
theorem ev_stored {x : Str} {r md mm k n j : Nat} {q : Int} {grid : List (List (List Int))} {bs : List Bool} {p1 p2 p3 p4 p5 p6 p7 p8 : Pos} (C : LawC w p loose mg mb dp un fr g L st sc vs ns mgB bm ob) (I : LawI g L st sc na pl ls cs m s₀ s)
    (hrm : (Str.ofString "ring", vRing w r q n) ∈ ls) (hmm : (Str.ofString "module", vMod w md r) ∈ ls) (htm : (Str.ofString "turns", vBools bs) ∈ ls) (hgm : (x, vData grid) ∈ ls) (hx : (lawEnv L).kindOf x = some .local) (hxd : (x == ("__debug__" : Str)) = false)
    (hgl : grid.length = mm) (hge : Even grid k) (hcl : ∀ row ∈ grid, ∀ c ∈ row, c.length = n) (hm1 : 1 ≤ mm) (hm3 : mm ≤ 3) (hk1 : 1 ≤ k) (hk3 : k ≤ 3) (hn3 : n ≤ 3) (hj : j < bs.length) (hj2 : j ≤ 1000) :
    wpAny (model prog w) ((Ar dp fr gd un).deeper (lawEnv L)) (eval (.Call (.Name (Str.ofString "_law_stored") p1) [.Name (Str.ofString "module") p2, .Name (Str.ofString "ring") p3, .Name x p4, .Subscript (.Name (Str.ofString "turns") p5) (.Constant (.int j) 0 p6) p7] [] p8) (lawEnv L)) (LawE g L st sc na pl ls cs m s₀ (vMat w md r (bs.getD j false) (storedRows (bs.getD j false) grid k))) E s := by
  obtain ⟨v1, ⟨rfl, R⟩, h1⟩ := pure_loc (M := model prog w) (A := (Ar dp fr gd un).deeper (lawEnv L)) (env := lawEnv L) (x := Str.ofString "ring") (pos := p3) C.fc I hrm rfl
  obtain ⟨v2, ⟨rfl, Md⟩, h2⟩ := pure_loc (M := model prog w) (A := (Ar dp fr gd un).deeper (lawEnv L)) (env := lawEnv L) (x := Str.ofString "module") (pos := p2) C.fc I hmm rfl
  obtain ⟨v3, ⟨lb, nb, rfl, hlb⟩, h3⟩ := pure_loc (M := model prog w) (A := (Ar dp fr gd un).deeper (lawEnv L)) (env := lawEnv L) (x := Str.ofString "turns") (pos := p5) C.fc I htm rfl
  obtain ⟨v4, ⟨lg, rfl, D⟩, h4⟩ := pure_loc (M := model prog w) (A := (Ar dp fr gd un).deeper (lawEnv L)) (env := lawEnv L) (x := x) (pos := p4) C.fc I hgm hx hxd
  have h5 := pure_item (p2 := p6) (p3 := p7) (k := j) (v := .bool (bs.getD j false)) h3 hlb.1 hj2 (by rw [List.getElem?_map, List.getElem?_eq_getElem hj, List.getD_eq_getElem?_getD, List.getElem?_eq_getElem hj]; rfl)
  have hd := C.hd
  refine ev_call I C.KG (by k_is) (pure_glob C.fc I C.KG C.TG (v := .ref 398) (by k_is) rfl) (PureA.cons h2 (PureA.cons h1 (PureA.cons h4 (PureA.cons h5 PureA.nil)))) fun s' I' e => ?_
  rw [← e] at R Md D
  obtain ⟨G1, G2, up, hid⟩ := I'.ground C.fc
  obtain ⟨tk, ps1, ps2, t1, t2, q, q1, q2⟩ := I'.tabs
  refine lawStored G2 (C.KG.keeps G1) (C.TG.keeps G1) (C.MG.keeps G1) (Md.mono up) (R.mono up) (D.mono up) hgl hge hcl hm1 hm3 hk1 hk3 hn3 q1 (hid _ (List.mem_cons_of_mem _ List.mem_cons_self)) t1 (by show dp + 1 + 20 < _; omega) fun s2 M ps' K P T S Y => ?_
  exact ⟨I'.turn C (fun b o h _ e => K b o h e) P T (K _ _ (fun e => nomatch (show (320 : Nat) = 362 from e)) q2) t2 S, M, rfl, Y.mono I'.std⟩
end

-- read1
noncomputable def rdEnv (L : Nat) : Env := envOfC (Str.ofString "_law_read") (stScope (topSt 13)) L 417 (.ref 416)
structure RdC (w : World) (p : Program) (loose : List Str) (mg mb : Str → Option Value) (dp un : Nat) (fr : Option (List Env)) (g : Heap) (L : Nat) : Prop where
  KG : (heapK w.params).In g
  TG : TopRead p loose mg mb g
  NS : g.NoSeer
  frs : ∃ l, fr = some l
  hd : dp + 110 < recursionLimit
  fc : FrC (rdEnv L) g L 1 []
abbrev RdI (g : Heap) (L : Nat) (ls : List (Str × VP)) (q : Int) (m : Str → Option Value) (s₀ s : Shared) : Prop := FI g L 1 [] (fun _ => True) ls [(1, vInt q)] m s₀ s
theorem true_stays {ps : List Addr} : Stays ps (fun _ => True) := fun _ _ _ _ => trivial
section
variable {prog : Program} {w : World} {p : Program} {loose : List Str} {mg mb : Str → Option Value} {dp un : Nat} {fr : Option (List Env)} {gd : Option (List Code)} {g : Heap} {L : Nat} {ls : List (Str × VP)} {q : Int} {m : Str → Option Value} {s₀ s : Shared} {E : Value → Shared → Prop}
/-- a statement that reckons -/
theorem rd_z {x : Str} {e : PySem.Expr} {px pos : Pos} {z : Int} (C : RdC w p loose mg mb dp un fr g L) (I : RdI g L ls q m s₀ s) (hk : (rdEnv L).kindOf x = some .local) (hs : swapsWith e (some (.Name x px)) pos.line (rdEnv L) = pure false) (hx : (ls.all fun p => p.1 != x) = true)
    (h : PureZ (model prog w) ((Ar dp fr gd un).deeper (rdEnv L)) (rdEnv L) s.heap e z) : wpAny (model prog w) ((Ar dp fr gd un).deeper (rdEnv L)) (exec (.Assign [.Name x px] e pos) (rdEnv L)) (FN g L 1 [] (fun _ => True) ((x, vInt z) :: ls) [(1, vInt q)] s₀) E s :=
  fi_local (vInt z) C.fc true_stays hk hs hx (h.fe I)
theorem rd_len {x : Str} {p1 p2 p3 : Pos} {rows : List (List (List Int))} (C : RdC w p loose mg mb dp un fr g L) (I : RdI g L ls q m s₀ s) (hm : (x, vData rows) ∈ ls) (hk : (rdEnv L).kindOf x = some .local) (hd : (x == ("__debug__" : Str)) = false) (hr : rows.length ≤ 1000) :
    PureZ (model prog w) ((Ar dp fr gd un).deeper (rdEnv L)) (rdEnv L) s.heap (.Call (.Name (Str.ofString "len") p1) [.Name x p2] [] p3) (rows.length : Int) := by
  obtain ⟨v, ⟨l, rfl, vs, na, hl, hv⟩, h1⟩ := pure_loc (M := model prog w) (A := (Ar dp fr gd un).deeper (rdEnv L)) (pos := p2) C.fc I hm hk hd
  exact PureZ.len (pure_built C.fc I C.KG C.TG (by k_is) (by boot_by_name) (by decide) rfl rfl) h1 hl.1 hv.length hr
theorem rd_len0 {x : Str} {p1 p2 p3 p4 p5 : Pos} {rows : List (List (List Int))} {k : Nat} (C : RdC w p loose mg mb dp un fr g L) (I : RdI g L ls q m s₀ s) (hm : (x, vData rows) ∈ ls) (hk : (rdEnv L).kindOf x = some .local) (hd : (x == ("__debug__" : Str)) = false) (hr : 1 ≤ rows.length) (he : Even rows k) (hk3 : k ≤ 1000) :
    PureZ (model prog w) ((Ar dp fr gd un).deeper (rdEnv L)) (rdEnv L) s.heap (.Call (.Name (Str.ofString "len") p1) [.Subscript (.Name x p2) (.Constant (.int 0) 0 p4) p5] [] p3) (k : Int) := by
  obtain ⟨v, ⟨l, rfl, vs, na, hl, hv⟩, h1⟩ := pure_loc (M := model prog w) (A := (Ar dp fr gd un).deeper (rdEnv L)) (pos := p2) C.fc I hm hk hd
  obtain ⟨a0, us0, n0, e0, ha0, hus0⟩ := hv.at (i := 0) (by omega)
  exact PureZ.len (pure_built C.fc I C.KG C.TG (by k_is) (by boot_by_name) (by decide) rfl rfl) (pure_item (k := 0) h1 hl.1 (by decide) e0) ha0.1 (by rw [hus0.length]; exact even_get he (by omega)) hk3
end

-- read2
/-- the base, the places of the digits -/
def rdBase (q : Int) (high inner other wide n : Nat) : Int := q ^ 3 * ((high : Int) * inner * n) * ((inner : Int) * other * n) * ((other : Int) * wide * n) + 1
def rdFine (n : Nat) : Nat := 3 * n - 2
def rdCoarse (n other : Nat) : Nat := rdFine n * (2 * other - 1)
def rdRight (n other inner : Nat) : Nat := rdCoarse n other * (2 * inner - 1)
theorem small_ok {a b : Int} (h1 : 0 ≤ a) (h2 : a ≤ 1000000) : IntMulOk a b := IntMulOk.of_left (intBits_le_64 (by omega) (by omega))
theorem Bd.nat {k a : Nat} (h : a < 2 ^ k) : Bd k (a : Int) := by unfold Bd; simpa using h
theorem place_eq {s i c j f : Nat} (hi : i ≤ s) : (s : Int) * c + (i : Int) * (0 - (c : Int)) + (j : Int) * f = (((s - i) * c + j * f : Nat) : Int) := by
  rw [Int.natCast_add, Int.natCast_mul, Int.natCast_mul, Int.natCast_sub hi, Int.sub_mul, Int.mul_sub, Int.mul_zero, Int.zero_sub, ← Int.sub_eq_add_neg]
theorem place_one {i c j f : Nat} : (0 : Int) + (i : Int) * (c : Int) + (j : Int) * f = ((i * c + j * f : Nat) : Int) := by
  rw [Int.natCast_add, Int.natCast_mul, Int.natCast_mul, Int.zero_add]
theorem place_le {a b c d : Nat} (ha : a ≤ 3) (hb : b ≤ 1000) (hc : c ≤ 3) (hd : d ≤ 1000) : a * b + c * d ≤ 6000 := by
  have := Nat.mul_le_mul ha hb; have := Nat.mul_le_mul hc hd; omega
theorem rdFine_le {n : Nat} (h : n ≤ 3) : rdFine n ≤ 7 := by unfold rdFine; omega
theorem rdCoarse_le {n other : Nat} (h : n ≤ 3) (o : other ≤ 3) : rdCoarse n other ≤ 35 := Nat.mul_le_mul (rdFine_le h) (by omega : 2 * other - 1 ≤ 5)
theorem rdRight_le {n other inner : Nat} (h : n ≤ 3) (o : other ≤ 3) (i : inner ≤ 3) : rdRight n other inner ≤ 175 := Nat.mul_le_mul (rdCoarse_le h o) (by omega : 2 * inner - 1 ≤ 5)
theorem wrRow_bd {q base start down across acc : Int} {rows : List (List (List Int))} {i K : Nat} (hacc : Bd K acc) : ∀ {k : Nat}, (∀ j, j < k → Bd K (partNum q base ((rows.getD i []).getD j []) ((rows.getD i []).getD j []).length * base ^ (start + (i : Int) * down + (j : Int) * across).toNat)) → Bd (K + k) (wrRow q base start down across rows i acc k)
  | 0, _ => hacc
  | k + 1, h => by
    have h1 := wrRow_bd hacc (k := k) fun j hj => h j (by omega)
    exact (h1.add ((h k (by omega)).mono (by omega))).mono (by omega)
theorem wrAll_bd {q base start down across : Int} {rows : List (List (List Int))} {k K : Nat} : ∀ {m : Nat}, (∀ i j, i < m → j < k → Bd K (partNum q base ((rows.getD i []).getD j []) ((rows.getD i []).getD j []).length * base ^ (start + (i : Int) * down + (j : Int) * across).toNat)) → Bd (K + m * k) (wrAll q base start down across rows k m)
  | 0, _ => Bd.zero
  | m + 1, h => by
    have h1 := wrAll_bd (m := m) fun i j hi hj => h i j (by omega) hj
    have h2 := wrRow_bd (i := m) h1 (k := k) fun j hj => (h m j (by omega) hj).mono (by omega)
    rw [Nat.succ_mul, ← Nat.add_assoc]
    exact h2
/-- a written number's size -/
theorem written_bd {q base start down across : Int} {rows : List (List (List Int))} {m k n : Nat} (hq : 2 ≤ q) (bq : Bd 210 q) (bb : Bd 650 base) (hl : rows.length = m) (he : Even rows k) (hc : ∀ row ∈ rows, ∀ x ∈ row, x.length = n) (hn : n ≤ 3) (hm : m ≤ 3) (hk : k ≤ 3) (hp : ∀ i j : Nat, i < m → j < k → start + (i : Int) * down + (j : Int) * across ≤ 6000) : Bd 4000000 (wrAll q base start down across rows k m) := by
  refine (wrAll_bd (K := 3999000) (m := m) fun i j hi hj => ?_).mono (by have := Nat.mul_le_mul hm hk; omega)
  have e : ((rows.getD i []).getD j []).length = n := hc _ (getD_mem' (by omega)) _ (getD_mem' (by rw [even_get he (by omega)]; exact hj))
  rw [e]
  have h1 := partNum_bd (row := (rows.getD i []).getD j []) hq bq bb n
  have h2 := bb.pow (start + (i : Int) * down + (j : Int) * across).toNat
  have h3 := hp i j hi hj
  exact (h1.mul h2).mono (by omega)
theorem pred_cast {k : Nat} (h : 1 ≤ k) : (2 : Int) * (k : Int) - 1 = ((2 * k - 1 : Nat) : Int) := by omega
section
variable {prog : Program} {w : World} {p : Program} {loose : List Str} {mg mb : Str → Option Value} {dp un : Nat} {fr : Option (List Env)} {gd : Option (List Code)} {g : Heap} {L : Nat} {ls : List (Str × VP)} {q : Int} {m : Str → Option Value} {s₀ s : Shared} {E : Value → Shared → Prop}
theorem rd_n {x : Str} {z : Int} {pos : Pos} (C : RdC w p loose mg mb dp un fr g L) (I : RdI g L ls q m s₀ s) (hm : (x, vInt z) ∈ ls) (hk : (rdEnv L).kindOf x = some .local) (hd : (x == ("__debug__" : Str)) = false := by decide) : PureZ (model prog w) ((Ar dp fr gd un).deeper (rdEnv L)) (rdEnv L) s.heap (.Name x pos) z := pureZ_loc C.fc I hm hk hd
theorem rd_q {pos : Pos} (C : RdC w p loose mg mb dp un fr g L) (I : RdI g L ls q m s₀ s) : PureZ (model prog w) ((Ar dp fr gd un).deeper (rdEnv L)) (rdEnv L) s.heap (.Name (Str.ofString "q") pos) q := by
  obtain ⟨v, ⟨t, rfl⟩, hv⟩ := pure_cel (M := model prog w) (A := (Ar dp fr gd un).deeper (rdEnv L)) (x := Str.ofString "q") (pos := pos) C.fc I List.mem_cons_self rfl rfl
  exact .of hv
theorem ev_written {x : Str} {e1 e2 e3 e4 e5 : PySem.Expr} {p1 p2 p3 : Pos} {rows : List (List (List Int))} {rm k n : Nat} {start down across base : Int} (C : RdC w p loose mg mb dp un fr g L) (I : RdI g L ls q m s₀ s) (hm : (x, vData rows) ∈ ls) (hk : (rdEnv L).kindOf x = some .local) (hd : (x == ("__debug__" : Str)) = false)
    (z1 : PureZ (model prog w) ((Ar dp fr gd un).deeper (rdEnv L)) (rdEnv L) s.heap e1 start) (z2 : PureZ (model prog w) ((Ar dp fr gd un).deeper (rdEnv L)) (rdEnv L) s.heap e2 down) (z3 : PureZ (model prog w) ((Ar dp fr gd un).deeper (rdEnv L)) (rdEnv L) s.heap e3 across) (z4 : PureZ (model prog w) ((Ar dp fr gd un).deeper (rdEnv L)) (rdEnv L) s.heap e4 base) (z5 : PureZ (model prog w) ((Ar dp fr gd un).deeper (rdEnv L)) (rdEnv L) s.heap e5 q)
    (hgl : rows.length = rm) (hge : Even rows k) (hcl : ∀ row ∈ rows, ∀ c ∈ row, c.length = n) (hm1 : 1 ≤ rm) (hm3 : rm ≤ 3) (hk1 : 1 ≤ k) (hk3 : k ≤ 3) (hn3 : n ≤ 3)
    (hq : 2 ≤ q) (bq : Bd 210 q) (bb : Bd 650 base) (he : ∀ i j : Nat, i < rm → j < k → 0 ≤ start + (i : Int) * down + (j : Int) * across ∧ start + (i : Int) * down + (j : Int) * across ≤ 6000)
    (hse : starEach [.Name x p2, e1, e2, e3, e4, e5] (rdEnv L) = [(false, eval (.Name x p2) (rdEnv L)), (false, eval e1 (rdEnv L)), (false, eval e2 (rdEnv L)), (false, eval e3 (rdEnv L)), (false, eval e4 (rdEnv L)), (false, eval e5 (rdEnv L))] := by rfl) :
    wpAny (model prog w) ((Ar dp fr gd un).deeper (rdEnv L)) (eval (.Call (.Name (Str.ofString "_law_written") p1) [.Name x p2, e1, e2, e3, e4, e5] [] p3) (rdEnv L)) (FE g L 1 [] (fun _ => True) ls [(1, vInt q)] m s₀ (vInt (wrAll q base start down across rows k rm))) E s := by
  obtain ⟨v, ⟨l, rfl, D⟩, h1⟩ := pure_loc (M := model prog w) (A := (Ar dp fr gd un).deeper (rdEnv L)) (pos := p2) C.fc I hm hk hd
  have hdp := C.hd
  have hf : Pure (model prog w) ((Ar dp fr gd un).deeper (rdEnv L)) (rdEnv L) s.heap (.Name (Str.ofString "_law_written") p1) (.ref 412) := pure_glob C.fc I C.KG C.TG (by k_is) rfl
  refine Call_ (hf _ _ s rfl fun tk => ?_)
  refine callWith_of (by rw [hse]; rfl) (keeps_K (K := heapK w.params) (by k_is)) ?_
  rw [hse]
  refine evalArgs_plain (spliced_cons (h1 _ _ _ rfl fun tk0 => spliced_cons (z1 _ _ _ rfl fun t1 tk1 => spliced_cons (z2 _ _ _ rfl fun t2 tk2 => spliced_cons (z3 _ _ _ rfl fun t3 tk3 => spliced_cons (z4 _ _ _ rfl fun t4 tk4 => spliced_cons (z5 _ _ _ rfl fun t5 tk5 => spliced_nil ⟨C.KG.keeps I.fr.keep, ?_⟩)))))))
  have I' : RdI g L ls q m s₀ { s with toks := tk5 } := I.tok rfl rfl rfl
  refine lawWritten I'.fr.keep C.KG C.TG (D.mono fun a o h => h.1) hgl hge hcl hm1 hm3 hk1 hk3 hn3 hq bq bb (by decide) (fun i j hi hj => ⟨(he i j hi hj).1, Int.le_trans (he i j hi hj).2 (by decide)⟩) (by show dp + 1 + 5 < _; omega) fun s' t G S => ?_
  exact ⟨(I'.grow C.fc true_stays (s' := s') G S), t, rfl⟩
end

-- read3
def rdOne (q : Int) (a : List (List (List Int))) (high inner other wide n : Nat) : Int := wrAll q (rdBase q high inner other wide n) 0 ((rdRight n other inner * wide : Nat) : Int) ((rdCoarse n other : Nat) : Int) a inner high
def rdTwo (q : Int) (b : List (List (List Int))) (high inner other wide n : Nat) : Int := wrAll q (rdBase q high inner other wide n) (((inner - 1 : Nat) : Int) * ((rdCoarse n other : Nat) : Int)) (0 - ((rdCoarse n other : Nat) : Int)) ((rdFine n : Nat) : Int) b other inner
def rdThree (q : Int) (c : List (List (List Int))) (high inner other wide n : Nat) : Int := wrAll q (rdBase q high inner other wide n) (((other - 1 : Nat) : Int) * ((rdFine n : Nat) : Int)) (0 - ((rdFine n : Nat) : Int)) ((rdRight n other inner : Nat) : Int) c wide other
def rdRest (q : Int) (a b c : List (List (List Int))) (high inner other wide n : Nat) : Int :=
  rdOne q a high inner other wide n * rdTwo q b high inner other wide n * rdThree q c high inner other wide n / rdBase q high inner other wide n ^ ((inner - 1) * rdCoarse n other + (other - 1) * rdFine n)
theorem pred1 {k : Nat} (h : 1 ≤ k) : (k : Int) - 1 = ((k - 1 : Nat) : Int) := by omega
theorem rdBase_bd {q : Int} {high inner other wide n : Nat} (bq : Bd 210 q) (h : high ≤ 3) (i : inner ≤ 3) (o : other ≤ 3) (w : wide ≤ 3) (hn : n ≤ 3) : Bd 650 (rdBase q high inner other wide n) := by
  have bh : Bd 2 (high : Int) := .nat (by omega)
  have bi : Bd 2 (inner : Int) := .nat (by omega)
  have bo : Bd 2 (other : Int) := .nat (by omega)
  have bw : Bd 2 (wide : Int) := .nat (by omega)
  have bn : Bd 2 (n : Int) := .nat (by omega)
  exact (((((bq.pow 3).mul ((bh.mul bi).mul bn)).mul ((bi.mul bo).mul bn)).mul ((bo.mul bw).mul bn)).add (Bd.nat (a := 1) (k := 649) (by decide))).mono (by decide)
theorem rdBase_pos {q : Int} {high inner other wide n : Nat} (hq : 0 ≤ q) : 0 < rdBase q high inner other wide n := by
  unfold rdBase
  have h : ∀ x y z : Nat, 0 ≤ (x : Int) * y * z := fun x y z => Int.mul_nonneg (Int.mul_nonneg (by omega) (by omega)) (by omega)
  have p3 : 0 ≤ q ^ 3 := Int.pow_nonneg hq
  have := Int.mul_nonneg (Int.mul_nonneg (Int.mul_nonneg p3 (h high inner n)) (h inner other n)) (h other wide n)
  omega
section
variable {prog : Program} {w : World} {p : Program} {loose : List Str} {mg mb : Str → Option Value} {dp un : Nat} {fr : Option (List Env)} {gd : Option (List Code)} {g : Heap} {L : Nat} {ls : List (Str × VP)} {q : Int} {m : Str → Option Value} {s₀ s : Shared} {E : Value → Shared → Prop}
theorem rd_room (C : RdC w p loose mg mb dp un fr g L) (hpt : prog.given.tree = none) (hk : ∀ b o, g.get? b = some o → s.heap.get? b = some o) : PySem.PylongRoom (model prog w) ((Ar dp fr gd un).deeper (rdEnv L)) s := by
  obtain ⟨l, hl⟩ := C.frs
  have hd := C.hd
  exact PySem.PylongRoom.of (C.TG.nolimit.keeps hk) (by show dp + 1 + 100 < _; omega) (PySem.SeerAt.of (C.NS.keeps hk) hpt (PySem.Around.frames_deeper hl) rfl rfl rfl rfl)
theorem rdHead {a b c : List (List (List Int))} {high inner other wide n : Nat} {Q : Flow → Shared → Prop} (C : RdC w p loose mg mb dp un fr g L) (hpt : prog.given.tree = none)
    (I : RdI g L [((Str.ofString "n"), vInt n), ((Str.ofString "c"), vData c), ((Str.ofString "b"), vData b), ((Str.ofString "a"), vData a)] q m s₀ s)
    (ha : a.length = high) (hb : b.length = inner) (hc : c.length = other) (hea : Even a inner) (heb : Even b other) (hec : Even c wide) (hca : ∀ row ∈ a, ∀ x ∈ row, x.length = n) (hcb : ∀ row ∈ b, ∀ x ∈ row, x.length = n) (hcc : ∀ row ∈ c, ∀ x ∈ row, x.length = n)
    (h1 : 1 ≤ high) (h2 : high ≤ 2) (i1 : 1 ≤ inner) (i2 : inner ≤ 3) (o1 : 1 ≤ other) (o2 : other ≤ 3) (w1 : 1 ≤ wide) (w2 : wide ≤ 2) (n1 : 1 ≤ n) (n2 : n ≤ 3) (hq : 2 ≤ q) (bq : Bd 210 q)
    (ret : ∀ s' m', RdI g L [((Str.ofString "span"), vInt (rdBase q high inner other wide n ^ rdFine n)), ((Str.ofString "step"), vInt (rdBase q high inner other wide n ^ rdRight n other inner)), ((Str.ofString "rest"), vInt (rdRest q a b c high inner other wide n)), ((Str.ofString "three"), vInt (rdThree q c high inner other wide n)), ((Str.ofString "two"), vInt (rdTwo q b high inner other wide n)), ((Str.ofString "one"), vInt (rdOne q a high inner other wide n)), ((Str.ofString "below"), vInt ((rdRight n other inner * wide : Nat))), ((Str.ofString "right"), vInt ((rdRight n other inner : Nat))), ((Str.ofString "coarse"), vInt ((rdCoarse n other : Nat))), ((Str.ofString "fine"), vInt ((rdFine n : Nat))), ((Str.ofString "base"), vInt (rdBase q high inner other wide n)), ((Str.ofString "wide"), vInt (wide)), ((Str.ofString "other"), vInt (other)), ((Str.ofString "inner"), vInt (inner)), ((Str.ofString "high"), vInt (high)), ((Str.ofString "n"), vInt n), ((Str.ofString "c"), vData c), ((Str.ofString "b"), vData b), ((Str.ofString "a"), vData a)] q m' s₀ s' → wpAny (model prog w) ((Ar dp fr gd un).deeper (rdEnv L)) (execs ((stBody (topSt 13)).drop 15) (rdEnv L)) Q E s') :
    wpAny (model prog w) ((Ar dp fr gd un).deeper (rdEnv L)) (execs (stBody (topSt 13)) (rdEnv L)) Q E s := by
  have bh : Bd 2 (high : Int) := .nat (by omega)
  have bi : Bd 2 (inner : Int) := .nat (by omega)
  have bo : Bd 2 (other : Int) := .nat (by omega)
  have bw : Bd 2 (wide : Int) := .nat (by omega)
  have bn : Bd 2 (n : Int) := .nat (by omega)
  have b3 := bq.pow 3
  have okp : (Builtin.Int.intBits q : Int) * (3 : Nat) ≤ 2 ^ 27 := pow_size (E := 3) bq (by decide) (by decide) (by decide)
  have fle := rdFine_le n2
  have cle := rdCoarse_le n2 o2
  have rle := rdRight_le n2 o2 i2
  have rwle : rdRight n other inner * wide ≤ 1000 := Nat.le_trans (Nat.mul_le_mul rle w2) (by decide)
  have xle : (inner - 1) * rdCoarse n other + (other - 1) * rdFine n ≤ 6000 := place_le (by omega) (by omega) (by omega) (by omega)
  have bb0 : Bd 650 (rdBase q high inner other wide n) := rdBase_bd bq (by omega) (by omega) (by omega) (by omega) (by omega)
  have powok : ∀ k : Nat, k ≤ 6000 → (Builtin.Int.intBits (rdBase q high inner other wide n) : Int) * k ≤ 2 ^ 27 := fun k hk => pow_size (E := 6000) bb0 (by omega) (by omega) (by decide)
  have hb0 : 0 < rdBase q high inner other wide n := rdBase_pos (by omega)
  have b1 : Bd 4000000 (rdOne q a high inner other wide n) := written_bd hq bq bb0 ha hea hca n2 (by omega) i2 fun i j hi hj => by rw [place_one]; exact Int.ofNat_le.mpr (place_le (by omega) rwle (by omega) (by omega))
  have b2 : Bd 4000000 (rdTwo q b high inner other wide n) := written_bd hq bq bb0 hb heb hcb n2 (by omega) o2 fun i j hi hj => by rw [place_eq (by omega)]; exact Int.ofNat_le.mpr (place_le (by omega) (by omega) (by omega) (by omega))
  have b4 : Bd 4000000 (rdThree q c high inner other wide n) := written_bd hq bq bb0 hc hec hcc n2 (by omega) (by omega) fun i j hi hj => by rw [place_eq (by omega)]; exact Int.ofNat_le.mpr (place_le (by omega) (by omega) (by omega) (by omega))
  have room : ∀ s' : Shared, (∀ b o, g.get? b = some o → s'.heap.get? b = some o) → PySem.PylongRoom (model prog w) ((Ar dp fr gd un).deeper (rdEnv L)) s' := fun s' hk => rd_room C hpt hk
  refine execs_next (J := fun s' => ∃ m, RdI g L [((Str.ofString "high"), vInt (high)), ((Str.ofString "n"), vInt n), ((Str.ofString "c"), vData c), ((Str.ofString "b"), vData b), ((Str.ofString "a"), vData a)] q m s₀ s') (rd_z (x := (Str.ofString "high")) (z := high) C I rfl rfl rfl ((rd_len C I (.tail _ (.tail _ (.tail _ (.head _)))) rfl rfl (by omega)).eq (by rw [ha]))) ?_
  rintro s1 ⟨m1, I1⟩
  refine execs_next (J := fun s' => ∃ m, RdI g L [((Str.ofString "inner"), vInt (inner)), ((Str.ofString "high"), vInt (high)), ((Str.ofString "n"), vInt n), ((Str.ofString "c"), vData c), ((Str.ofString "b"), vData b), ((Str.ofString "a"), vData a)] q m s₀ s') (rd_z (x := (Str.ofString "inner")) (z := inner) C I1 rfl rfl rfl ((rd_len C I1 (.tail _ (.tail _ (.tail _ (.head _)))) rfl rfl (by omega)).eq (by rw [hb]))) ?_
  rintro s2 ⟨m2, I2⟩
  clear I1
  refine execs_next (J := fun s' => ∃ m, RdI g L [((Str.ofString "other"), vInt (other)), ((Str.ofString "inner"), vInt (inner)), ((Str.ofString "high"), vInt (high)), ((Str.ofString "n"), vInt n), ((Str.ofString "c"), vData c), ((Str.ofString "b"), vData b), ((Str.ofString "a"), vData a)] q m s₀ s') (rd_z (x := (Str.ofString "other")) (z := other) C I2 rfl rfl rfl ((rd_len C I2 (.tail _ (.tail _ (.tail _ (.head _)))) rfl rfl (by omega)).eq (by rw [hc]))) ?_
  rintro s3 ⟨m3, I3⟩
  clear I2
  refine execs_next (J := fun s' => ∃ m, RdI g L [((Str.ofString "wide"), vInt (wide)), ((Str.ofString "other"), vInt (other)), ((Str.ofString "inner"), vInt (inner)), ((Str.ofString "high"), vInt (high)), ((Str.ofString "n"), vInt n), ((Str.ofString "c"), vData c), ((Str.ofString "b"), vData b), ((Str.ofString "a"), vData a)] q m s₀ s') (rd_z (x := (Str.ofString "wide")) (z := wide) C I3 rfl rfl rfl (rd_len0 C I3 (.tail _ (.tail _ (.tail _ (.tail _ (.head _))))) rfl rfl (by omega) hec (by omega))) ?_
  rintro s4 ⟨m4, I4⟩
  clear I3
  refine execs_next (J := fun s' => ∃ m, RdI g L [((Str.ofString "base"), vInt (rdBase q high inner other wide n)), ((Str.ofString "wide"), vInt (wide)), ((Str.ofString "other"), vInt (other)), ((Str.ofString "inner"), vInt (inner)), ((Str.ofString "high"), vInt (high)), ((Str.ofString "n"), vInt n), ((Str.ofString "c"), vData c), ((Str.ofString "b"), vData b), ((Str.ofString "a"), vData a)] q m s₀ s') (rd_z (x := (Str.ofString "base")) (z := rdBase q high inner other wide n) C I4 rfl rfl rfl (.add (.mul (.mul (.mul (.pow (n := 3) (rd_q C I4) .const okp) (.mul (.mul (rd_n C I4 (.tail _ (.tail _ (.tail _ (.head _)))) rfl) (rd_n C I4 (.tail _ (.tail _ (.head _))) rfl) (Bd.ok bh bi (by decide))) (rd_n C I4 (.tail _ (.tail _ (.tail _ (.tail _ (.head _))))) rfl) (Bd.ok (bh.mul bi) bn (by decide))) (Bd.ok b3 ((bh.mul bi).mul bn) (by decide))) (.mul (.mul (rd_n C I4 (.tail _ (.tail _ (.head _))) rfl) (rd_n C I4 (.tail _ (.head _)) rfl) (Bd.ok bi bo (by decide))) (rd_n C I4 (.tail _ (.tail _ (.tail _ (.tail _ (.head _))))) rfl) (Bd.ok (bi.mul bo) bn (by decide))) (Bd.ok (b3.mul ((bh.mul bi).mul bn)) ((bi.mul bo).mul bn) (by decide))) (.mul (.mul (rd_n C I4 (.tail _ (.head _)) rfl) (rd_n C I4 (.head _) rfl) (Bd.ok bo bw (by decide))) (rd_n C I4 (.tail _ (.tail _ (.tail _ (.tail _ (.head _))))) rfl) (Bd.ok (bo.mul bw) bn (by decide))) (Bd.ok ((b3.mul ((bh.mul bi).mul bn)).mul ((bi.mul bo).mul bn)) ((bo.mul bw).mul bn) (by decide))) .const)) ?_
  rintro s5 ⟨m5, I5⟩
  clear I4
  have bb := bb0
  refine execs_next (J := fun s' => ∃ m, RdI g L [((Str.ofString "fine"), vInt ((rdFine n : Nat))), ((Str.ofString "base"), vInt (rdBase q high inner other wide n)), ((Str.ofString "wide"), vInt (wide)), ((Str.ofString "other"), vInt (other)), ((Str.ofString "inner"), vInt (inner)), ((Str.ofString "high"), vInt (high)), ((Str.ofString "n"), vInt n), ((Str.ofString "c"), vData c), ((Str.ofString "b"), vData b), ((Str.ofString "a"), vData a)] q m s₀ s') (rd_z (x := (Str.ofString "fine")) (z := (rdFine n : Nat)) C I5 rfl rfl rfl ((PureZ.sub (.mul (.const (z := 3)) (rd_n C I5 (.tail _ (.tail _ (.tail _ (.tail _ (.tail _ (.head _)))))) rfl) (small_ok (by decide) (by decide))) (.const (z := 2))).eq (by unfold rdFine; omega))) ?_
  rintro s6 ⟨m6, I6⟩
  clear I5
  refine execs_next (J := fun s' => ∃ m, RdI g L [((Str.ofString "coarse"), vInt ((rdCoarse n other : Nat))), ((Str.ofString "fine"), vInt ((rdFine n : Nat))), ((Str.ofString "base"), vInt (rdBase q high inner other wide n)), ((Str.ofString "wide"), vInt (wide)), ((Str.ofString "other"), vInt (other)), ((Str.ofString "inner"), vInt (inner)), ((Str.ofString "high"), vInt (high)), ((Str.ofString "n"), vInt n), ((Str.ofString "c"), vData c), ((Str.ofString "b"), vData b), ((Str.ofString "a"), vData a)] q m s₀ s') (rd_z (x := (Str.ofString "coarse")) (z := (rdCoarse n other : Nat)) C I6 rfl rfl rfl ((PureZ.mul (rd_n C I6 (.head _) rfl) (.sub (.mul (.const (z := 2)) (rd_n C I6 (.tail _ (.tail _ (.tail _ (.head _)))) rfl) (small_ok (by decide) (by decide))) (.const (z := 1))) (small_ok (by omega) (by omega))).eq (by rw [pred_cast o1]; unfold rdCoarse; rw [Int.natCast_mul]))) ?_
  rintro s7 ⟨m7, I7⟩
  clear I6
  refine execs_next (J := fun s' => ∃ m, RdI g L [((Str.ofString "right"), vInt ((rdRight n other inner : Nat))), ((Str.ofString "coarse"), vInt ((rdCoarse n other : Nat))), ((Str.ofString "fine"), vInt ((rdFine n : Nat))), ((Str.ofString "base"), vInt (rdBase q high inner other wide n)), ((Str.ofString "wide"), vInt (wide)), ((Str.ofString "other"), vInt (other)), ((Str.ofString "inner"), vInt (inner)), ((Str.ofString "high"), vInt (high)), ((Str.ofString "n"), vInt n), ((Str.ofString "c"), vData c), ((Str.ofString "b"), vData b), ((Str.ofString "a"), vData a)] q m s₀ s') (rd_z (x := (Str.ofString "right")) (z := (rdRight n other inner : Nat)) C I7 rfl rfl rfl ((PureZ.mul (rd_n C I7 (.head _) rfl) (.sub (.mul (.const (z := 2)) (rd_n C I7 (.tail _ (.tail _ (.tail _ (.tail _ (.tail _ (.head _)))))) rfl) (small_ok (by decide) (by decide))) (.const (z := 1))) (small_ok (by omega) (by omega))).eq (by rw [pred_cast i1]; unfold rdRight; rw [Int.natCast_mul]))) ?_
  rintro s8 ⟨m8, I8⟩
  clear I7
  refine execs_next (J := fun s' => ∃ m, RdI g L [((Str.ofString "below"), vInt ((rdRight n other inner * wide : Nat))), ((Str.ofString "right"), vInt ((rdRight n other inner : Nat))), ((Str.ofString "coarse"), vInt ((rdCoarse n other : Nat))), ((Str.ofString "fine"), vInt ((rdFine n : Nat))), ((Str.ofString "base"), vInt (rdBase q high inner other wide n)), ((Str.ofString "wide"), vInt (wide)), ((Str.ofString "other"), vInt (other)), ((Str.ofString "inner"), vInt (inner)), ((Str.ofString "high"), vInt (high)), ((Str.ofString "n"), vInt n), ((Str.ofString "c"), vData c), ((Str.ofString "b"), vData b), ((Str.ofString "a"), vData a)] q m s₀ s') (rd_z (x := (Str.ofString "below")) (z := (rdRight n other inner * wide : Nat)) C I8 rfl rfl rfl ((PureZ.mul (rd_n C I8 (.head _) rfl) (rd_n C I8 (.tail _ (.tail _ (.tail _ (.tail _ (.head _))))) rfl) (small_ok (by omega) (by omega))).eq (by rw [Int.natCast_mul]))) ?_
  rintro s9 ⟨m9, I9⟩
  clear I8
  refine execs_next (J := fun s' => ∃ m, RdI g L [((Str.ofString "one"), vInt (rdOne q a high inner other wide n)), ((Str.ofString "below"), vInt ((rdRight n other inner * wide : Nat))), ((Str.ofString "right"), vInt ((rdRight n other inner : Nat))), ((Str.ofString "coarse"), vInt ((rdCoarse n other : Nat))), ((Str.ofString "fine"), vInt ((rdFine n : Nat))), ((Str.ofString "base"), vInt (rdBase q high inner other wide n)), ((Str.ofString "wide"), vInt (wide)), ((Str.ofString "other"), vInt (other)), ((Str.ofString "inner"), vInt (inner)), ((Str.ofString "high"), vInt (high)), ((Str.ofString "n"), vInt n), ((Str.ofString "c"), vData c), ((Str.ofString "b"), vData b), ((Str.ofString "a"), vData a)] q m s₀ s') (fi_local (m := m9) (x := (Str.ofString "one")) (vInt (rdOne q a high inner other wide n)) C.fc true_stays rfl rfl rfl (ev_written C I9 (.tail _ (.tail _ (.tail _ (.tail _ (.tail _ (.tail _ (.tail _ (.tail _ (.tail _ (.tail _ (.tail _ (.tail _ (.head _))))))))))))) rfl rfl (.const (z := 0)) (rd_n C I9 (.head _) rfl) (rd_n C I9 (.tail _ (.tail _ (.head _))) rfl) (rd_n C I9 (.tail _ (.tail _ (.tail _ (.tail _ (.head _))))) rfl) (rd_q C I9) ha hea hca h1 (by omega) i1 i2 n2 hq bq bb (fun i j hi hj => by rw [place_one]; exact ⟨by omega, Int.ofNat_le.mpr (place_le (by omega) rwle (by omega) (by omega))⟩))) ?_
  rintro s10 ⟨m10, I10⟩
  clear I9
  refine execs_next (J := fun s' => ∃ m, RdI g L [((Str.ofString "two"), vInt (rdTwo q b high inner other wide n)), ((Str.ofString "one"), vInt (rdOne q a high inner other wide n)), ((Str.ofString "below"), vInt ((rdRight n other inner * wide : Nat))), ((Str.ofString "right"), vInt ((rdRight n other inner : Nat))), ((Str.ofString "coarse"), vInt ((rdCoarse n other : Nat))), ((Str.ofString "fine"), vInt ((rdFine n : Nat))), ((Str.ofString "base"), vInt (rdBase q high inner other wide n)), ((Str.ofString "wide"), vInt (wide)), ((Str.ofString "other"), vInt (other)), ((Str.ofString "inner"), vInt (inner)), ((Str.ofString "high"), vInt (high)), ((Str.ofString "n"), vInt n), ((Str.ofString "c"), vData c), ((Str.ofString "b"), vData b), ((Str.ofString "a"), vData a)] q m s₀ s') (fi_local (m := m10) (x := (Str.ofString "two")) (vInt (rdTwo q b high inner other wide n)) C.fc true_stays rfl rfl rfl (ev_written C I10 (.tail _ (.tail _ (.tail _ (.tail _ (.tail _ (.tail _ (.tail _ (.tail _ (.tail _ (.tail _ (.tail _ (.tail _ (.head _))))))))))))) rfl rfl ((PureZ.mul (.sub (rd_n C I10 (.tail _ (.tail _ (.tail _ (.tail _ (.tail _ (.tail _ (.tail _ (.tail _ (.head _))))))))) rfl) (.const (z := 1))) (rd_n C I10 (.tail _ (.tail _ (.tail _ (.head _)))) rfl) (small_ok (by omega) (by omega))).eq (by rw [pred1 i1])) (.sub (.const (z := 0)) (rd_n C I10 (.tail _ (.tail _ (.tail _ (.head _)))) rfl)) (rd_n C I10 (.tail _ (.tail _ (.tail _ (.tail _ (.head _))))) rfl) (rd_n C I10 (.tail _ (.tail _ (.tail _ (.tail _ (.tail _ (.head _)))))) rfl) (rd_q C I10) hb heb hcb i1 i2 o1 o2 n2 hq bq bb (fun i j hi hj => by rw [place_eq (by omega)]; exact ⟨by omega, Int.ofNat_le.mpr (place_le (by omega) (by omega) (by omega) (by omega))⟩))) ?_
  rintro s11 ⟨m11, I11⟩
  clear I10
  refine execs_next (J := fun s' => ∃ m, RdI g L [((Str.ofString "three"), vInt (rdThree q c high inner other wide n)), ((Str.ofString "two"), vInt (rdTwo q b high inner other wide n)), ((Str.ofString "one"), vInt (rdOne q a high inner other wide n)), ((Str.ofString "below"), vInt ((rdRight n other inner * wide : Nat))), ((Str.ofString "right"), vInt ((rdRight n other inner : Nat))), ((Str.ofString "coarse"), vInt ((rdCoarse n other : Nat))), ((Str.ofString "fine"), vInt ((rdFine n : Nat))), ((Str.ofString "base"), vInt (rdBase q high inner other wide n)), ((Str.ofString "wide"), vInt (wide)), ((Str.ofString "other"), vInt (other)), ((Str.ofString "inner"), vInt (inner)), ((Str.ofString "high"), vInt (high)), ((Str.ofString "n"), vInt n), ((Str.ofString "c"), vData c), ((Str.ofString "b"), vData b), ((Str.ofString "a"), vData a)] q m s₀ s') (fi_local (m := m11) (x := (Str.ofString "three")) (vInt (rdThree q c high inner other wide n)) C.fc true_stays rfl rfl rfl (ev_written C I11 (.tail _ (.tail _ (.tail _ (.tail _ (.tail _ (.tail _ (.tail _ (.tail _ (.tail _ (.tail _ (.tail _ (.tail _ (.head _))))))))))))) rfl rfl ((PureZ.mul (.sub (rd_n C I11 (.tail _ (.tail _ (.tail _ (.tail _ (.tail _ (.tail _ (.tail _ (.tail _ (.head _))))))))) rfl) (.const (z := 1))) (rd_n C I11 (.tail _ (.tail _ (.tail _ (.tail _ (.tail _ (.head _)))))) rfl) (small_ok (by omega) (by omega))).eq (by rw [pred1 o1])) (.sub (.const (z := 0)) (rd_n C I11 (.tail _ (.tail _ (.tail _ (.tail _ (.tail _ (.head _)))))) rfl)) (rd_n C I11 (.tail _ (.tail _ (.tail _ (.head _)))) rfl) (rd_n C I11 (.tail _ (.tail _ (.tail _ (.tail _ (.tail _ (.tail _ (.head _))))))) rfl) (rd_q C I11) hc hec hcc o1 o2 w1 (by omega) n2 hq bq bb (fun i j hi hj => by rw [place_eq (by omega)]; exact ⟨by omega, Int.ofNat_le.mpr (place_le (by omega) (by omega) (by omega) (by omega))⟩))) ?_
  rintro s12 ⟨m12, I12⟩
  clear I11
  refine execs_next (J := fun s' => ∃ m, RdI g L [((Str.ofString "rest"), vInt (rdRest q a b c high inner other wide n)), ((Str.ofString "three"), vInt (rdThree q c high inner other wide n)), ((Str.ofString "two"), vInt (rdTwo q b high inner other wide n)), ((Str.ofString "one"), vInt (rdOne q a high inner other wide n)), ((Str.ofString "below"), vInt ((rdRight n other inner * wide : Nat))), ((Str.ofString "right"), vInt ((rdRight n other inner : Nat))), ((Str.ofString "coarse"), vInt ((rdCoarse n other : Nat))), ((Str.ofString "fine"), vInt ((rdFine n : Nat))), ((Str.ofString "base"), vInt (rdBase q high inner other wide n)), ((Str.ofString "wide"), vInt (wide)), ((Str.ofString "other"), vInt (other)), ((Str.ofString "inner"), vInt (inner)), ((Str.ofString "high"), vInt (high)), ((Str.ofString "n"), vInt n), ((Str.ofString "c"), vData c), ((Str.ofString "b"), vData b), ((Str.ofString "a"), vData a)] q m s₀ s') (rd_z (x := (Str.ofString "rest")) (z := rdRest q a b c high inner other wide n) C I12 rfl rfl rfl (.div (.mul (.mul (rd_n C I12 (.tail _ (.tail _ (.head _))) rfl) (rd_n C I12 (.tail _ (.head _)) rfl) (Bd.ok b1 b2 (by decide))) (rd_n C I12 (.head _) rfl) (Bd.ok (b1.mul b2) b4 (by decide))) (.pow (rd_n C I12 (.tail _ (.tail _ (.tail _ (.tail _ (.tail _ (.tail _ (.tail _ (.head _)))))))) rfl) ((PureZ.add (.mul (.sub (rd_n C I12 (.tail _ (.tail _ (.tail _ (.tail _ (.tail _ (.tail _ (.tail _ (.tail _ (.tail _ (.tail _ (.head _))))))))))) rfl) (.const (z := 1))) (rd_n C I12 (.tail _ (.tail _ (.tail _ (.tail _ (.tail _ (.head _)))))) rfl) (small_ok (by omega) (by omega))) (.mul (.sub (rd_n C I12 (.tail _ (.tail _ (.tail _ (.tail _ (.tail _ (.tail _ (.tail _ (.tail _ (.tail _ (.head _)))))))))) rfl) (.const (z := 1))) (rd_n C I12 (.tail _ (.tail _ (.tail _ (.tail _ (.tail _ (.tail _ (.head _))))))) rfl) (small_ok (by omega) (by omega)))).eq (by rw [pred1 i1, pred1 o1, ← Int.natCast_mul, ← Int.natCast_mul, ← Int.natCast_add])) (powok _ (by omega))) (Int.pow_pos hb0) (fun s' hs' => .inr (room s' (by rw [hs']; exact I12.fr.keep))))) ?_
  rintro s13 ⟨m13, I13⟩
  clear I12
  refine execs_next (J := fun s' => ∃ m, RdI g L [((Str.ofString "step"), vInt (rdBase q high inner other wide n ^ rdRight n other inner)), ((Str.ofString "rest"), vInt (rdRest q a b c high inner other wide n)), ((Str.ofString "three"), vInt (rdThree q c high inner other wide n)), ((Str.ofString "two"), vInt (rdTwo q b high inner other wide n)), ((Str.ofString "one"), vInt (rdOne q a high inner other wide n)), ((Str.ofString "below"), vInt ((rdRight n other inner * wide : Nat))), ((Str.ofString "right"), vInt ((rdRight n other inner : Nat))), ((Str.ofString "coarse"), vInt ((rdCoarse n other : Nat))), ((Str.ofString "fine"), vInt ((rdFine n : Nat))), ((Str.ofString "base"), vInt (rdBase q high inner other wide n)), ((Str.ofString "wide"), vInt (wide)), ((Str.ofString "other"), vInt (other)), ((Str.ofString "inner"), vInt (inner)), ((Str.ofString "high"), vInt (high)), ((Str.ofString "n"), vInt n), ((Str.ofString "c"), vData c), ((Str.ofString "b"), vData b), ((Str.ofString "a"), vData a)] q m s₀ s') (rd_z (x := (Str.ofString "step")) (z := rdBase q high inner other wide n ^ rdRight n other inner) C I13 rfl rfl rfl (.pow (rd_n C I13 (.tail _ (.tail _ (.tail _ (.tail _ (.tail _ (.tail _ (.tail _ (.tail _ (.head _))))))))) rfl) (rd_n C I13 (.tail _ (.tail _ (.tail _ (.tail _ (.tail _ (.head _)))))) rfl) (powok _ (by omega)))) ?_
  rintro s14 ⟨m14, I14⟩
  clear I13
  refine execs_next (J := fun s' => ∃ m, RdI g L [((Str.ofString "span"), vInt (rdBase q high inner other wide n ^ rdFine n)), ((Str.ofString "step"), vInt (rdBase q high inner other wide n ^ rdRight n other inner)), ((Str.ofString "rest"), vInt (rdRest q a b c high inner other wide n)), ((Str.ofString "three"), vInt (rdThree q c high inner other wide n)), ((Str.ofString "two"), vInt (rdTwo q b high inner other wide n)), ((Str.ofString "one"), vInt (rdOne q a high inner other wide n)), ((Str.ofString "below"), vInt ((rdRight n other inner * wide : Nat))), ((Str.ofString "right"), vInt ((rdRight n other inner : Nat))), ((Str.ofString "coarse"), vInt ((rdCoarse n other : Nat))), ((Str.ofString "fine"), vInt ((rdFine n : Nat))), ((Str.ofString "base"), vInt (rdBase q high inner other wide n)), ((Str.ofString "wide"), vInt (wide)), ((Str.ofString "other"), vInt (other)), ((Str.ofString "inner"), vInt (inner)), ((Str.ofString "high"), vInt (high)), ((Str.ofString "n"), vInt n), ((Str.ofString "c"), vData c), ((Str.ofString "b"), vData b), ((Str.ofString "a"), vData a)] q m s₀ s') (rd_z (x := (Str.ofString "span")) (z := rdBase q high inner other wide n ^ rdFine n) C I14 rfl rfl rfl (.pow (rd_n C I14 (.tail _ (.tail _ (.tail _ (.tail _ (.tail _ (.tail _ (.tail _ (.tail _ (.tail _ (.head _)))))))))) rfl) (rd_n C I14 (.tail _ (.tail _ (.tail _ (.tail _ (.tail _ (.tail _ (.tail _ (.tail _ (.head _))))))))) rfl) (powok _ (by omega)))) ?_
  rintro s15 ⟨m15, I15⟩
  clear I14
  exact ret s15 m15 I15
end

-- read4
/-- the parts that are read off a piece's digits -/
def rdTot (n : Nat) (base piece : Int) : Nat → List Int
  | 0 => (List.range n).map fun _ => 0
  | t + 1 => (rdTot n base piece t).set (t % n) (if t / n % 2 = 0 then (rdTot n base piece t).getD (t % n) 0 + piece / base ^ t % base else (rdTot n base piece t).getD (t % n) 0 - piece / base ^ t % base)
theorem rdTot_length {n : Nat} {base piece : Int} : ∀ t, (rdTot n base piece t).length = n
  | 0 => by simp [rdTot]
  | t + 1 => by rw [rdTot, List.length_set, rdTot_length t]
def rdCell (q : Int) (n : Nat) (base piece : Int) : List Int := (rdTot n base piece (rdFine n)).map fun c => c % q
def rdShift (R step : Int) : Nat → Int
  | 0 => R
  | k + 1 => rdShift R step k / step
def rdRow (q : Int) (n : Nat) (base R step span : Int) (wide i : Nat) : List (List Int) := (List.range wide).map fun j => rdCell q n base (rdShift R step (i * wide + j) % span)
def rdTable (q : Int) (n : Nat) (base R step span : Int) (wide high : Nat) : List (List (List Int)) := (List.range high).map fun i => rdRow q n base R step span wide i
theorem FrC.conv {env : Env} {g : Heap} {L nc : Nat} {ps ps' : List Addr} (C : FrC env g L nc ps) (hp : ∀ b, b ∈ ps' ↔ b ∈ ps) : FrC env g L nc ps' := ⟨C.loc, C.fn, C.gl, C.ab, fun b hb => C.ps b ((hp b).mp hb)⟩
theorem mem_swap {a b : Addr} {ps : List Addr} : ∀ c, c ∈ a :: b :: ps ↔ c ∈ b :: a :: ps := fun c => by simp only [List.mem_cons]; constructor <;> (rintro (h | h | h) <;> simp [h])
theorem Stays.const {ps : List Addr} {Tb : Heap → Prop} {a : Prop} (h : Stays ps Tb) : Stays ps (fun x => Tb x ∧ a) := fun _ _ k x => ⟨h _ _ k x.1, x.2⟩
section
variable {prog : Program} {w : World} {p : Program} {loose : List Str} {mg mb : Str → Option Value} {dp un : Nat} {fr : Option (List Env)} {gd : Option (List Code)} {g : Heap} {L : Nat} {ls : List (Str × VP)} {q : Int} {m : Str → Option Value} {s₀ s : Shared} {ps : List Addr} {Tb : Heap → Prop}
theorem rd_at {n D na : Nat} {base piece : Int} {us : List Value} {p1 p2 p3 p4 p5 p6 p7 p8 p9 pa pb pc pd pe pf pg ph pi pj pk pl pm pn po pp pq pr pt pu pv px py pz qa qb qc : Pos} (C : RdC w p loose mg mb dp un fr g L) (hpt : prog.given.tree = none) (C1 : FrC (rdEnv L) g L 1 (D :: ps)) (hD : D ∉ ps) (hT : Stays ps Tb)
    (J : FI g L 1 (D :: ps) (fun h => Tb h ∧ h.get? D = some (listOf us.toArray na)) ls [(1, vInt q)] m s₀ s) (hi : IntsAre us (rdTot n base piece 0))
    (k1 : (Str.ofString "total", vRef D) ∈ ls) (k2 : (Str.ofString "piece", vInt piece) ∈ ls) (k3 : (Str.ofString "base", vInt base) ∈ ls) (k4 : (Str.ofString "n", vInt n) ∈ ls) (k5 : (Str.ofString "fine", vInt (rdFine n : Nat)) ∈ ls)
    (x1 : (ls.all fun p => p.1 != Str.ofString "at") = true) (x2 : (ls.all fun p => p.1 != Str.ofString "digit") = true) (n1 : 1 ≤ n) (n2 : n ≤ 3) (hb : 0 < base) (bb : Bd 650 base) :
    wpAny (model prog w) ((Ar dp fr gd un).deeper (rdEnv L)) (exec (.For (.Name (Str.ofString "at") p1) (.Call (.Name (Str.ofString "range") p2) [.Name (Str.ofString "fine") p3] [] p4)
      [.Assign [.Name (Str.ofString "digit") p5] (.BinOp (.BinOp (.Name (Str.ofString "piece") p6) .FloorDiv (.BinOp (.Name (Str.ofString "base") p7) .Pow (.Name (Str.ofString "at") p8) p9) pa) .Mod (.Name (Str.ofString "base") pb) pc) pd,
       .If (.Compare (.BinOp (.BinOp (.Name (Str.ofString "at") pe) .FloorDiv (.Name (Str.ofString "n") pf) pg) .Mod (.Constant (.int 2) 0 ph) pi) [.Eq] [.Constant (.int 0) 0 pj] pk)
         [.AugAssign (.Subscript (.Name (Str.ofString "total") pl) (.BinOp (.Name (Str.ofString "at") pm) .Mod (.Name (Str.ofString "n") pn) po) pp) .Add (.Name (Str.ofString "digit") pq) pr]
         [.AugAssign (.Subscript (.Name (Str.ofString "total") pt) (.BinOp (.Name (Str.ofString "at") pu) .Mod (.Name (Str.ofString "n") pv) px) py) .Sub (.Name (Str.ofString "digit") pz) qa] qb] [] qc) (rdEnv L))
      (fun f s' => f = .next ∧ ∃ us' m', IntsAre us' (rdTot n base piece (rdFine n)) ∧ FI g L 1 (D :: ps) (fun h => Tb h ∧ h.get? D = some (listOf us'.toArray na)) ls [(1, vInt q)] m' s₀ s') (fun _ _ => False) s := by
  have fle := rdFine_le n2
  have powok : ∀ k : Nat, k ≤ 6000 → (Builtin.Int.intBits base : Int) * k ≤ 2 ^ 27 := fun k hk => pow_size (E := 6000) bb (by omega) (by omega) (by decide)
  refine fi_for (σ := List Value) (n := rdFine n) (fun t us h => (Tb h ∧ IntsAre us (rdTot n base piece t)) ∧ h.get? D = some (listOf us.toArray na)) (fun _ _ => ls) us C1 (fun t c => (Stays.const hT).cons) rfl rfl (by passes_own)
    (J.conv (fun _ => Iff.rfl) fun h => ⟨⟨h.1, hi⟩, h.2⟩) (pure_built C1 J C.KG C.TG (by k_is) (by boot_by_name) (by decide) rfl rfl) (pureZ_loc C1 J k5 rfl) (by omega) (fun _ _ => x1) ?_ ?_
  · intro I oI t c m1 s1 hID C2 hT2 ht J1
    have room : ∀ s' : Shared, s'.heap = s1.heap → PySem.PylongRoom (model prog w) ((Ar dp fr gd un).deeper (rdEnv L)) s' := fun s' hk => rd_room C hpt (by rw [hk]; exact J1.fr.keep)
    refine execs_next (J := fun s' => ∃ m, FI g L 1 (I :: D :: ps) (fun h => ((Tb h ∧ IntsAre c (rdTot n base piece t)) ∧ h.get? D = some (listOf c.toArray na)) ∧ h.get? I = some oI) ((Str.ofString "digit", vInt (piece / base ^ t % base)) :: (Str.ofString "at", vInt t) :: ls) [(1, vInt q)] m s₀ s')
      (fi_local (m := m1) (x := Str.ofString "digit") (vInt (piece / base ^ t % base)) C2 hT2 rfl rfl (by rw [List.all_cons, x2]; rfl)
        (PureZ.fe J1 (.mod (.div (pureZ_loc C2 J1 (.tail _ k2) rfl) (.pow (pureZ_loc C2 J1 (.tail _ k3) rfl) (pureZ_loc C2 J1 (.head _) rfl) (powok _ (by omega))) (Int.pow_pos hb) (fun s' hs' => .inr (room s' hs'))) (pureZ_loc C2 J1 (.tail _ k3) rfl) hb))) ?_
    rintro s2 ⟨m2, J2⟩
    clear J1 room
    have hI : D ∉ I :: ps := fun hm => (List.mem_cons.mp hm).elim (fun e => hID (by rw [e]; exact List.mem_cons_self)) hD
    have C3 := C2.conv (ps' := D :: I :: ps) mem_swap
    have hlen : t % n < (rdTot n base piece t).length := by rw [rdTot_length]; exact Nat.mod_lt _ (by omega)
    have hmod : t % n ≤ 1000 := Nat.le_trans (Nat.le_of_lt (Nat.mod_lt _ (by omega : 0 < n))) (by omega)
    refine wpAny_execs_cons (wpAny_mono (Q := fun f s' => f = .next ∧ ∃ c' m', FI g L 1 (I :: D :: ps) (fun h => ((Tb h ∧ IntsAre c' (rdTot n base piece (t + 1))) ∧ h.get? D = some (listOf c'.toArray na)) ∧ h.get? I = some oI) ls [(1, vInt q)] m' s₀ s') ?_ (fun f s' h => by obtain ⟨rfl, h⟩ := h; exact wpAny_execs_nil ⟨rfl, h⟩) fun _ _ e => e)
    have fin : ∀ z s3 us' m3, IntsAre us' ((rdTot n base piece t).set (t % n) z) → rdTot n base piece (t + 1) = (rdTot n base piece t).set (t % n) z → FI g L 1 (D :: I :: ps) (fun h => ((Tb h ∧ IntsAre c (rdTot n base piece t)) ∧ h.get? I = some oI) ∧ h.get? D = some (listOf us'.toArray na)) ((Str.ofString "digit", vInt (piece / base ^ t % base)) :: (Str.ofString "at", vInt t) :: ls) [(1, vInt q)] m3 s₀ s3 → ∃ c' m', FI g L 1 (I :: D :: ps) (fun h => ((Tb h ∧ IntsAre c' (rdTot n base piece (t + 1))) ∧ h.get? D = some (listOf c'.toArray na)) ∧ h.get? I = some oI) ls [(1, vInt q)] m' s₀ s3 :=
      fun z s3 us' m3 hu he J3 => ⟨us', m3, (J3.sub (fun p hp => List.mem_cons_of_mem _ (List.mem_cons_of_mem _ hp)) (fun p hp => hp)).conv mem_swap fun h => ⟨⟨⟨h.1.1.1, he ▸ hu⟩, h.2⟩, h.1.2⟩⟩
    refine fi_if_eq J2 (a := ((t / n % 2 : Nat) : Int)) (b := 0) ((PureZ.mod (.div (pureZ_loc C2 J2 (.tail _ (.head _)) rfl) (pureZ_loc C2 J2 (.tail _ (.tail _ k4)) rfl) (by omega) (fun s' _ => .inl (PyProof.noPylong_small (by omega)))) (.const (z := 2)) (by decide)).eq (by rw [Int.natCast_emod, Int.natCast_ediv]; rfl)) (.const (z := 0)) rfl (fun he s3 J3 => ?_) (fun hne s3 J3 => ?_)
    · refine wpAny_execs_cons (wpAny_mono (fi_item (k := t % n) (c := rdTot n base piece t) (d := piece / base ^ t % base) (z' := (rdTot n base piece t).getD (t % n) 0 + piece / base ^ t % base) C3 hI (J3.conv (Tb' := fun h => ((Tb h ∧ IntsAre c (rdTot n base piece t)) ∧ h.get? I = some oI) ∧ h.get? D = some (listOf c.toArray na)) mem_swap fun h => ⟨⟨h.1.1, h.2⟩, h.1.2⟩) ((Stays.const hT).cons) ?_ ((PureZ.mod (pureZ_loc C2 J3 (.tail _ (.head _)) rfl) (pureZ_loc C2 J3 (.tail _ (.tail _ k4)) rfl) (by omega)).eq (by rw [Int.natCast_emod])) (pureZ_loc C2 J3 (.head _) rfl) J3.tabs.1.1.2 hlen hmod (fun _ _ _ _ _ h => iadd_int h)) (fun f s' h => by
        obtain ⟨rfl, us', hu, J4⟩ := h
        exact wpAny_execs_nil ⟨rfl, fin _ _ _ _ hu (by rw [rdTot, if_pos (by omega)]) J4⟩) fun _ _ e => e)
      obtain ⟨v, rfl, hv⟩ := pure_loc (M := model prog w) (A := (Ar dp fr gd un).deeper (rdEnv L)) (pos := pl) C2 J3 (.tail _ (.tail _ k1)) rfl
      exact hv
    · refine wpAny_execs_cons (wpAny_mono (fi_item (k := t % n) (c := rdTot n base piece t) (d := piece / base ^ t % base) (z' := (rdTot n base piece t).getD (t % n) 0 - piece / base ^ t % base) C3 hI (J3.conv (Tb' := fun h => ((Tb h ∧ IntsAre c (rdTot n base piece t)) ∧ h.get? I = some oI) ∧ h.get? D = some (listOf c.toArray na)) mem_swap fun h => ⟨⟨h.1.1, h.2⟩, h.1.2⟩) ((Stays.const hT).cons) ?_ ((PureZ.mod (pureZ_loc C2 J3 (.tail _ (.head _)) rfl) (pureZ_loc C2 J3 (.tail _ (.tail _ k4)) rfl) (by omega)).eq (by rw [Int.natCast_emod])) (pureZ_loc C2 J3 (.head _) rfl) J3.tabs.1.1.2 hlen hmod (fun _ _ _ _ _ h => isub_int h)) (fun f s' h => by
        obtain ⟨rfl, us', hu, J4⟩ := h
        exact wpAny_execs_nil ⟨rfl, fin _ _ _ _ hu (by rw [rdTot, if_neg (by omega)]) J4⟩) fun _ _ e => e)
      obtain ⟨v, rfl, hv⟩ := pure_loc (M := model prog w) (A := (Ar dp fr gd un).deeper (rdEnv L)) (pos := pt) C2 J3 (.tail _ (.tail _ k1)) rfl
      exact hv
  · intro c m1 s1 J1
    exact ⟨rfl, c, m1, J1.tabs.1.2, J1.conv (fun _ => Iff.rfl) fun h => ⟨h.1.1, h.2⟩⟩
end

-- read5
structure ScOk (env : Env) (sc : Scope) (x : Str) (cl : List (Str × Addr)) : Prop where
  clos : closureFor sc env = pure cl
  cell : ∀ z ∈ sc.names, z.2 ≠ .cell
  kind : sc.kind = .function
  names : ∀ z ∈ sc.names, z.2 = .local → sc.names.lookup z.1 = some .local
  own : sc.names.lookup x = some .local
/-- told of objects that are newer than the ground -/
def Newer (g : Heap) (φ : Addr → Obj → Prop) (a : Addr) (o : Obj) : Prop := φ a o ∧ g.get? a = none
theorem Newer.mono {g : Heap} {φ ψ : Addr → Obj → Prop} (h : ∀ a o, φ a o → ψ a o) : ∀ a o, Newer g φ a o → Newer g ψ a o := fun a o x => ⟨h a o x.1, x.2⟩
def vInts (g : Heap) (c : List Int) : VP := ⟨fun v φ => ∃ x, v = .ref x ∧ IntsOn (Newer g φ) x c, fun _ _ _ k h => let ⟨x, e, y⟩ := h; ⟨x, e, y.mono (Newer.mono k)⟩⟩
/-- a list that is being made: its place, what it holds -/
def vLine (g : Heap) (D : Addr) (us : List Value) (rows : List (List Int)) : VP := ⟨fun v φ => v = .ref D ∧ RowsOn (Newer g φ) us rows, fun _ _ _ k h => ⟨h.1, h.2.mono (Newer.mono k)⟩⟩
def vRows (g : Heap) (rows : List (List Int)) : VP := ⟨fun v φ => RowsV rows v (Newer g φ), fun _ _ _ k h => (borne_rowsV rows).mono _ _ _ (Newer.mono k) h⟩
def vTabl (g : Heap) (D : Addr) (us : List Value) (rows : List (List (List Int))) : VP := ⟨fun v φ => v = .ref D ∧ GridsOn (Newer g φ) us rows, fun _ _ _ k h => ⟨h.1, h.2.mono (Newer.mono k)⟩⟩
section
variable {prog : Program} {w : World} {p : Program} {loose : List Str} {mg mb : Str → Option Value} {dp un : Nat} {fr : Option (List Env)} {gd : Option (List Code)} {env : Env} {g h h' : Heap} {L nc : Nat} {ps : List Addr} {Tb : Heap → Prop} {ls : List (Str × VP)} {cs : List (Nat × VP)} {q : Int} {m : Str → Option Value} {s₀ s s' : Shared} {A : Around} {E : Value → Shared → Prop} {x y : Str} {pos px py : Pos} {sc : Scope} {cl : List (Str × Addr)}
theorem FI.kept (C : FrC env g L nc ps) (J : FI g L nc ps Tb ls cs m s₀ s) (hT : Stays ps Tb) (F : Fr g L s'.heap m) (K : KeepBut [] L s.heap s'.heap) (S : Same s s') : FI g L nc ps Tb ls cs m s₀ s' := by
  have k : ∀ b ∈ ps, s'.heap.get? b = s.heap.get? b := fun b hb => by
    obtain ⟨o, q⟩ := J.alive b hb
    rw [q]; exact K b o (fun hm => nomatch hm) (C.off b hb).2 q
  exact J.keep C F (fun b o _ hL e => K b o (fun hm => nomatch hm) hL e) S (fun b hb => by obtain ⟨o, q⟩ := J.alive b hb; exact ⟨o, (k b hb).trans q⟩) (hT _ _ k J.tabs)
/-- «x = [0 for _ in range(n)]» -/
theorem fi_zeros {fe e : PySem.Expr} {n kc : Nat} {pc pr spos : Pos} (C : FrC env g L nc ps) (J : FI g L nc ps Tb ls cs m s₀ s) (hT : Stays ps Tb) (O : ScOk env sc y cl) (hh : A.handled = none) (hk : env.kindOf x = some .local) (hx : (ls.all fun p => p.1 != x) = true)
    (hsw : swapsWith (.ListComp (.Constant (.int 0) kc pc) [⟨.Name y py, .Call fe [e] [] pr, [], 0⟩] sc pos) (some (.Name x px)) spos.line env = pure true) (hf : Pure (model prog w) A env s.heap fe (.type "range")) (he : PureZ (model prog w) A env s.heap e (n : Int)) (hn : n ≤ 1000)
    (hs : ∀ z, foldedSetIterable (.Call fe [e] [] pr) env z = pure z := by intro _; rfl) (h1 : eval (.Call fe [e] [] pr) env = (do callWith pr (← eval fe env) [] (backTo pr (starEach [e] env)) (backToKw pr (keywordEach [] env))) := by rfl) (hse : starEach [e] env = (false, eval e env) :: starEach [] env := by rfl) :
    wpAny (model prog w) A (exec (.Assign [.Name x px] (.ListComp (.Constant (.int 0) kc pc) [⟨.Name y py, .Call fe [e] [] pr, [], 0⟩] sc pos) spos) env) (fun f s' => f = .next ∧ ∃ D us m', D ∉ ps ∧ FrC env g L nc (D :: ps) ∧ IntsAre us ((List.range n).map fun _ => 0) ∧ FI g L nc (D :: ps) (fun h => Tb h ∧ h.get? D = some (listOf us.toArray us.length)) ((x, vRef D) :: ls) cs m' s₀ s') E s := by
  refine assign_ListComp_G J.fr C.loc hsw O.clos O.cell O.kind O.names O.own hk (by rw [C.fn]; rfl) ?_ hs
  refine ev_range J hf he (fun r s1 t u v G J1 hr => ?_) C hT h1 hse
  refine CompG.makes (ps := []) (T₀ := []) (Ob := fun _ T => T = []) (n := n) (fun _ => IntV 0) (fun _ => borne_intV 0) hh J1.fr News.nil rfl rfl hr (small_one (by decide) (by decide) (by omega) (by omega)) (by rw [rangeSize_nat]; omega) (by rw [sizeLine_eq]; omega) ?_ (DoneM.store ?_)
  · rintro i v D1 oC m1 s2 T E' hi _ _ rfl _ _ _ K F _ _
    exact wpAny_Constant_int ⟨Same.put _ _ _, F, fun b o _ _ e => e, ⟨_, rfl⟩, [], rfl, News.nil, rfl⟩
  · intro D ys s4 S4 F4 z
    have hD := z.list.2
    have J2 := J1.stored (x := x) C hD F4 z.keep S4 z.list.1 hT hx
    have hm : D ∉ ps := fun hm => by obtain ⟨o, e⟩ := J1.alive _ hm; rw [hD] at e; cases e
    exact ⟨rfl, D, ys, _, hm, C.cons J1 hD, compMade_ints z, J2⟩
/-- «[y % q for y in l]», q a cell -/
theorem fi_mods {le : PySem.Expr} {l na : Nat} {us : List Value} {c : List Int} {z : Str} {kz : Nat} {p1 p2 p3 : Pos} (C : FrC env g L nc ps) (J : FI g L nc ps Tb ls cs m s₀ s) (hT : Stays ps Tb) (O : ScOk env sc y cl) (hh : A.handled = none) (hl : Pure (model prog w) A env s.heap le (.ref l)) (ho : s.heap.get? l = some (listOf us.toArray na)) (hlL : l ≠ L) (hlg : g.get? l = none) (hi : IntsAre us c) (hn : c.length ≤ 1000)
    (hq : (kz, vInt q) ∈ cs) (hz : cl.lookup z = some (L + kz)) (hzk : ∀ C1, (compEnvC sc cl C1 env).kindOf z = some .cell) (hyk : ∀ C1, (compEnvC sc cl C1 env).kindOf y = some .local) (hd1 : (z == ("__debug__" : Str)) = false) (hd3 : (y == ("__debug__" : Str)) = false) (hq0 : 0 < q)
    (hs : ∀ x, foldedSetIterable le env x = pure x := by intro _; rfl) :
    wpAny (model prog w) A (eval (.ListComp (.BinOp (.Name y p1) .Mod (.Name z p2) p3) [⟨.Name y py, le, [], 0⟩] sc pos) env) (FE g L nc ps Tb ls cs m s₀ (vInts g (c.map fun i => i % q))) E s := by
  refine eval_ListComp_G J.fr O.clos O.cell O.kind O.names O.own (hl _ _ s rfl fun tk => ?_) hs
  have J1 : FI g L nc ps Tb ls cs m s₀ { s with toks := tk } := J.tok rfl rfl rfl
  refine CompG.makesH (ps := []) (T₀ := []) (Ob := fun _ T => T = []) (vs := us) (fun i => IntV (c.getD i 0 % q)) (fun _ => borne_intV _) hh J1.fr News.nil rfl rfl ho hlL hlg (fun hm => nomatch hm) (by rw [hi.length, sizeLine_eq]; omega) ?_ (DoneM.eval ?_)
  · rintro i v D1 oC m1 s2 T E' hlt hv _ rfl hC hy S2 K F N _
    obtain ⟨t0, e0⟩ := hi.get i (c.getD i 0) (by rw [List.getD_eq_getElem?_getD, List.getElem?_eq_getElem (by rw [← hi.length]; exact hlt)]; rfl)
    rw [List.getElem?_toArray, e0] at hv
    obtain rfl := Option.some.inj hv
    obtain ⟨_, hk2, v2, o2, h1, h2, t2, rfl⟩ := J1.cel _ hq
    have h1' := K _ o2 (fun hm => nomatch hm) (fun e => by have e' : @Eq Nat _ _ := e; have := (J1.cel _ hq).1; omega) h1
    have kf : (compEnvC sc cl D1 env).scope.kind = .function := O.kind
    refine wpAny_BinOp (wpAny_Name (wpAny_loadName_local kf (hyk D1) (hC.ns (N _ List.mem_cons_self).1) hy ?_) hd3)
    refine wpAny_Name (wpAny_loadName_cell kf (hzk D1) hz ⟨o2, h1', h2⟩ ?_) hd1
    refine mod_int' (by omega) ?_
    rw [Int.fmod_eq_emod_of_nonneg _ (by omega)]
    exact ⟨Same.put _ _ _, F, fun b o _ _ e => e, ⟨_, rfl⟩, [], rfl, News.nil, rfl⟩
  · intro D ys s3 S3 F3 zz
    refine ⟨J1.kept C hT F3 zz.keep S3, D, rfl, ys, ys.length, ⟨J1.std _ _ zz.list, (fresh_sub zz.list J1.fr.keep).2⟩, ?_⟩
    have := compMade_ints zz
    rw [hi.length, map_range_get (fun i => i % q) 0 c] at this
    exact this
theorem FI.respec {P P' : VP} (J : FI g L nc ps Tb ((x, P) :: ls) cs m s₀ s) (hP : ∀ v, P.P v (Std L nc ps s.heap) → P'.P v (Std L nc ps s.heap)) : FI g L nc ps Tb ((x, P') :: ls) cs m s₀ s :=
  ⟨J.same, J.fr, fun p hp => by
    rcases List.mem_cons.mp hp with rfl | hp
    · obtain ⟨v, a, b⟩ := J.loc _ List.mem_cons_self; exact ⟨v, a, hP v b⟩
    · exact J.loc p (List.mem_cons_of_mem _ hp), J.cel, J.all, J.alive, J.tabs⟩
/-- the object at D turns no longer -/
theorem FI.freeze {D : Addr} {oD : Obj} {P P' : VP} (C : FrC env g L nc (D :: ps)) (hD : D ∉ ps) (J : FI g L nc (D :: ps) (fun h => Tb h ∧ h.get? D = some oD) ((x, P) :: ls) cs m s₀ s) (hP : ∀ v (φ : Addr → Obj → Prop), P.P v φ → Newer g φ D oD → P'.P v φ) : FI g L nc ps Tb ((x, P') :: ls) cs m s₀ s :=
  (FI.outOf J).respec fun v hv => hP v _ hv ⟨⟨J.tabs.2, (C.ps D List.mem_cons_self).2, hD⟩, (C.ps D List.mem_cons_self).1⟩
end

-- read6
section
variable {prog : Program} {w : World} {p : Program} {loose : List Str} {mg mb : Str → Option Value} {dp un : Nat} {fr : Option (List Env)} {gd : Option (List Code)} {g : Heap} {L : Nat} {ls : List (Str × VP)} {q : Int} {m : Str → Option Value} {s₀ s : Shared} {ps : List Addr} {Tb : Heap → Prop} {sc1 sc2 : Scope} {cl1 cl2 : List (Str × Addr)}
theorem all_cons {x y : Str} {P : VP} {l : List (Str × VP)} (h : (l.all fun p => p.1 != x) = true) (hy : (y != x) = true) : ((((y, P) :: l).all fun p => p.1 != x)) = true := by rw [List.all_cons, h]; simpa using hy
theorem rd_row {n wide k0 Ln : Nat} {base R step span : Int} {p1 p2 p3 p4 p5 p6 p7 p8 p9 p10 p11 p12 p13 p14 p15 p16 p17 p18 p19 p20 p21 p22 p23 p24 p25 p26 p27 p28 p29 p30 p31 p32 p33 p34 p35 p36 p37 p38 p39 p40 p41 p42 p43 p44 p45 p46 p47 p48 p49 p50 p51 p52 p53 p54 p55 p56 p57 p58 p59 p60 p61 p62 p63 p64 p65 p66 p67 : Pos} (C : RdC w p loose mg mb dp un fr g L) (hpt : prog.given.tree = none) (C1 : FrC (rdEnv L) g L 1 (Ln :: ps)) (hLn : Ln ∉ ps) (hT : Stays ps Tb)
    (O1 : ScOk (rdEnv L) sc1 (Str.ofString "_") cl1) (O2 : ScOk (rdEnv L) sc2 (Str.ofString "value") cl2) (hz : cl2.lookup (Str.ofString "q") = some (L + 1)) (hzk : ∀ C1, (compEnvC sc2 cl2 C1 (rdEnv L)).kindOf (Str.ofString "q") = some .cell) (hyk : ∀ C1, (compEnvC sc2 cl2 C1 (rdEnv L)).kindOf (Str.ofString "value") = some .local)
    (hsw1 : swapsWith (.ListComp (.Constant (.int 0) 0 p14) [⟨.Name (Str.ofString "_") p18, (.Call (.Name (Str.ofString "range") p16) [(.Name (Str.ofString "n") p15)] [] p17), [], 0⟩] sc1 p19) (some (.Name (Str.ofString "total") p13)) p20.line (rdEnv L) = pure true) {pl1 : Sem Bool} (hc1 : eval (.Call (.Attribute (.Name (Str.ofString "line") p63) (Str.ofString "append") p64) [(.ListComp (.BinOp (.Name (Str.ofString "value") p57) .Mod (.Name (Str.ofString "q") p58) p59) [⟨.Name (Str.ofString "value") p61, (.Name (Str.ofString "total") p60), [], 0⟩] sc2 p62)] [] p65) (rdEnv L) = (do let ov ← eval (.Name (Str.ofString "line") p63) (rdEnv L); standAt (p64).atName; let (f, first) ← holding [ov] (getMethod ov (Str.ofString "append") pl1); callWith p65 f first (backTo p65 (starEach [(.ListComp (.BinOp (.Name (Str.ofString "value") p57) .Mod (.Name (Str.ofString "q") p58) p59) [⟨.Name (Str.ofString "value") p61, (.Name (Str.ofString "total") p60), [], 0⟩] sc2 p62)] (rdEnv L))) []))
    (J : FI g L 1 (Ln :: ps) (fun h => Tb h ∧ h.get? Ln = some (listOf (List.toArray []) 0)) ((Str.ofString "line", vRef Ln) :: (Str.ofString "rest", vInt (rdShift R step k0)) :: ls) [(1, vInt q)] m s₀ s)
    (k3 : (Str.ofString "base", vInt base) ∈ ls) (k4 : (Str.ofString "n", vInt n) ∈ ls) (k5 : (Str.ofString "fine", vInt (rdFine n : Nat)) ∈ ls) (k6 : (Str.ofString "step", vInt step) ∈ ls) (k7 : (Str.ofString "span", vInt span) ∈ ls) (k8 : (Str.ofString "wide", vInt wide) ∈ ls) (x_rest : (ls.all fun p => p.1 != Str.ofString "rest") = true) (x_line : (ls.all fun p => p.1 != Str.ofString "line") = true) (x_j : (ls.all fun p => p.1 != Str.ofString "j") = true) (x_piece : (ls.all fun p => p.1 != Str.ofString "piece") = true) (x_total : (ls.all fun p => p.1 != Str.ofString "total") = true) (x_at : (ls.all fun p => p.1 != Str.ofString "at") = true) (x_digit : (ls.all fun p => p.1 != Str.ofString "digit") = true) (n1 : 1 ≤ n) (n2 : n ≤ 3) (w2 : wide ≤ 3) (hb : 0 < base) (bb : Bd 650 base) (hq : 0 < q) (hst : 0 < step) (hsp : 0 < span) :
    wpAny (model prog w) ((Ar dp fr gd un).deeper (rdEnv L)) (exec (.For (.Name (Str.ofString "j") p1) (.Call (.Name (Str.ofString "range") p3) [(.Name (Str.ofString "wide") p2)] [] p4) [.Assign [.Name (Str.ofString "piece") p8] (.BinOp (.Name (Str.ofString "rest") p5) .Mod (.Name (Str.ofString "span") p6) p7) p9, .AugAssign (.Name (Str.ofString "rest") p10) .FloorDiv (.Name (Str.ofString "step") p11) p12, .Assign [.Name (Str.ofString "total") p13] (.ListComp (.Constant (.int 0) 0 p14) [⟨.Name (Str.ofString "_") p18, (.Call (.Name (Str.ofString "range") p16) [(.Name (Str.ofString "n") p15)] [] p17), [], 0⟩] sc1 p19) p20, .For (.Name (Str.ofString "at") p21) (.Call (.Name (Str.ofString "range") p23) [(.Name (Str.ofString "fine") p22)] [] p24) [.Assign [.Name (Str.ofString "digit") p32] (.BinOp (.BinOp (.Name (Str.ofString "piece") p25) .FloorDiv (.BinOp (.Name (Str.ofString "base") p26) .Pow (.Name (Str.ofString "at") p27) p28) p29) .Mod (.Name (Str.ofString "base") p30) p31) p33, .If (.Compare (.BinOp (.BinOp (.Name (Str.ofString "at") p34) .FloorDiv (.Name (Str.ofString "n") p35) p36) .Mod (.Constant (.int 2) 0 p37) p38) [.Eq] [(.Constant (.int 0) 0 p39)] p40) [.AugAssign (.Subscript (.Name (Str.ofString "total") p41) (.BinOp (.Name (Str.ofString "at") p42) .Mod (.Name (Str.ofString "n") p43) p44) p45) .Add (.Name (Str.ofString "digit") p46) p47] [.AugAssign (.Subscript (.Name (Str.ofString "total") p48) (.BinOp (.Name (Str.ofString "at") p49) .Mod (.Name (Str.ofString "n") p50) p51) p52) .Sub (.Name (Str.ofString "digit") p53) p54] p55] [] p56, .Expr (.Call (.Attribute (.Name (Str.ofString "line") p63) (Str.ofString "append") p64) [(.ListComp (.BinOp (.Name (Str.ofString "value") p57) .Mod (.Name (Str.ofString "q") p58) p59) [⟨.Name (Str.ofString "value") p61, (.Name (Str.ofString "total") p60), [], 0⟩] sc2 p62)] [] p65) p66] [] p67) (rdEnv L))
      (fun f s' => f = .next ∧ ∃ us nu m', FI g L 1 (Ln :: ps) (fun h => Tb h ∧ h.get? Ln = some (listOf (List.toArray us) nu)) ((Str.ofString "line", vLine g Ln us ((List.range wide).map fun j => rdCell q n base (rdShift R step (k0 + j) % span))) :: (Str.ofString "rest", vInt (rdShift R step (k0 + wide))) :: ls) [(1, vInt q)] m' s₀ s') (fun _ _ => False) s := by
  refine fi_for (σ := List Value × Nat) (n := wide) (fun j c h => Tb h ∧ h.get? Ln = some (listOf c.1.toArray c.2)) (fun j c => (Str.ofString "line", vLine g Ln c.1 ((List.range j).map fun j => rdCell q n base (rdShift R step (k0 + j) % span))) :: (Str.ofString "rest", vInt (rdShift R step (k0 + j))) :: ls) ([], 0) C1 (fun t c => hT.cons) rfl rfl (by passes_own)
    (J.respec fun v e => ⟨e, .nil⟩) (pure_built C1 J C.KG C.TG (by k_is) (by boot_by_name) (by decide) rfl rfl) (pureZ_loc C1 J (.tail _ (.tail _ k8)) rfl) (by omega) (fun _ _ => all_cons (all_cons x_j (by decide)) (by decide)) ?_ ?_
  · rintro I oI j ⟨us, nu⟩ m1 s1 hIL C2 hT2 hj J1
    have room : ∀ s' : Shared, s'.heap = s1.heap → PySem.PylongRoom (model prog w) ((Ar dp fr gd un).deeper (rdEnv L)) s' := fun s' hk => rd_room C hpt (by rw [hk]; exact J1.fr.keep)
    refine execs_next (fi_local (m := m1) (ls := (Str.ofString "j", vInt j) :: (Str.ofString "line", vLine g Ln us ((List.range j).map fun j => rdCell q n base (rdShift R step (k0 + j) % span))) :: (Str.ofString "rest", vInt (rdShift R step (k0 + j))) :: ls) (x := Str.ofString "piece") (vInt (rdShift R step (k0 + j) % span)) C2 hT2 rfl rfl (all_cons (all_cons (all_cons x_piece (by decide)) (by decide)) (by decide)) (PureZ.fe J1 (.mod (pureZ_loc C2 J1 (.tail _ (.tail _ (.head _))) rfl) (pureZ_loc C2 J1 (.tail _ (.tail _ (.tail _ k7))) rfl) hsp))) ?_
    rintro s2 ⟨m2, J2⟩
    clear J1 room
    have room : ∀ s' : Shared, s'.heap = s2.heap → PySem.PylongRoom (model prog w) ((Ar dp fr gd un).deeper (rdEnv L)) s' := fun s' hk => rd_room C hpt (by rw [hk]; exact J2.fr.keep)
    have J2' := J2.sub (ls' := (Str.ofString "rest", vInt (rdShift R step (k0 + j))) :: (Str.ofString "piece", vInt (rdShift R step (k0 + j) % span)) :: (Str.ofString "line", vLine g Ln us ((List.range j).map fun j => rdCell q n base (rdShift R step (k0 + j) % span))) :: ls) (fun p hp => by
      rcases List.mem_cons.mp hp with rfl | hp
      · exact .tail _ (.tail _ (.tail _ (.head _)))
      rcases List.mem_cons.mp hp with rfl | hp
      · exact .head _
      rcases List.mem_cons.mp hp with rfl | hp
      · exact .tail _ (.tail _ (.head _))
      · exact .tail _ (.tail _ (.tail _ (.tail _ hp)))) (fun p hp => hp)
    refine execs_next (fi_aug_div (x := Str.ofString "rest") C2 J2' hT2 rfl (all_cons (all_cons x_rest (by decide)) (by decide)) (pureZ_loc C2 J2' (.tail _ (.tail _ (.tail _ k6))) rfl) hst (fun s' hs' => .inr (room s' hs'))) ?_
    rintro s3 ⟨m3, J3⟩
    clear J2 J2' room
    refine execs_next (fi_zeros (x := Str.ofString "total") (n := n) C2 J3 hT2 O1 rfl rfl (all_cons (all_cons (all_cons x_total (by decide)) (by decide)) (by decide)) hsw1 (pure_built C2 J3 C.KG C.TG (by k_is) (by boot_by_name) (by decide) rfl rfl) (pureZ_loc C2 J3 (.tail _ (.tail _ (.tail _ k4))) rfl) (by omega)) ?_
    rintro s4 ⟨D, us4, m4, hDp, C4, hi4, J4⟩
    clear J3
    refine execs_next (rd_at C hpt C4 hDp hT2 J4 hi4 (.head _) (.tail _ (.tail _ (.head _))) (.tail _ (.tail _ (.tail _ (.tail _ k3)))) (.tail _ (.tail _ (.tail _ (.tail _ k4)))) (.tail _ (.tail _ (.tail _ (.tail _ k5)))) (all_cons (all_cons (all_cons (all_cons x_at (by decide)) (by decide)) (by decide)) (by decide)) (all_cons (all_cons (all_cons (all_cons x_digit (by decide)) (by decide)) (by decide)) (by decide)) n1 n2 hb bb) ?_
    rintro s5 ⟨us5, m5, hi5, J5⟩
    clear J4
    have perm : ∀ b, b ∈ Ln :: D :: I :: ps ↔ b ∈ D :: I :: Ln :: ps := fun b => by simp only [List.mem_cons]; constructor <;> (rintro (h | h | h | h) <;> simp [h])
    have hLd : Ln ∉ D :: I :: ps := fun hm => by
      rcases List.mem_cons.mp hm with e | hm
      · exact hDp (by rw [← e]; exact .tail _ (.head _))
      rcases List.mem_cons.mp hm with e | hm
      · exact hIL (by rw [← e]; exact .head _)
      · exact hLn hm
    have C5 := C4.conv (ps' := Ln :: D :: I :: ps) perm
    have J6 := J5.conv (ps' := Ln :: D :: I :: ps) (Tb' := fun h => ((Tb h ∧ h.get? I = some oI) ∧ h.get? D = some (listOf us5.toArray us4.length)) ∧ h.get? Ln = some (listOf us.toArray nu)) perm fun h => ⟨⟨⟨h.1.1.1, h.1.2⟩, h.2⟩, h.1.1.2⟩
    clear J5
    obtain ⟨v, ⟨rfl, hrows⟩, hv⟩ := pure_loc (M := model prog w) (A := (Ar dp fr gd un).deeper (rdEnv L)) (x := Str.ofString "line") C5 J6 (.tail _ (.tail _ (.tail _ (.head _)))) rfl
    have hul : us.length = j := by rw [hrows.length]; simp
    refine wpAny_execs_cons (wpAny_mono (fi_append (vInts g (rdCell q n base (rdShift R step (k0 + j) % span))) C5 hLd J6 ((hT.cons).cons) hv (fun s' J' => ?_) (by omega) (pl := pl1) (hc := hc1)) (fun f s' h => ?_) fun _ _ e => e)
    · obtain ⟨v', rfl, hv'⟩ := pure_loc (M := model prog w) (A := (Ar dp fr gd un).deeper (rdEnv L)) (x := Str.ofString "total") C5 J' (.head _) rfl
      exact fi_mods C5 J' ((hT.cons).cons.cons) O2 rfl hv' J'.tabs.1.2 (C5.off D (.tail _ (.head _))).2 (C5.off D (.tail _ (.head _))).1 hi5 (by rw [rdTot_length]; omega) List.mem_cons_self hz hzk hyk rfl rfl hq
    · obtain ⟨rfl, v, hv6, J7⟩ := h
      refine wpAny_execs_nil ⟨rfl, (us ++ [v], nu + 1), m5, ?_⟩
      have J8 := (J7.conv (ps' := D :: I :: Ln :: ps) (Tb' := fun h => ((Tb h ∧ h.get? Ln = some (listOf (us ++ [v]).toArray (nu + 1))) ∧ h.get? I = some oI) ∧ h.get? D = some (listOf us5.toArray us4.length)) (fun b => (perm b).symm) fun h => ⟨⟨⟨h.1.1.1, h.2⟩, h.1.1.2⟩, h.1.2⟩).outOf
      have J9 := (J8.sub (ls' := (Str.ofString "line", vLine g Ln us ((List.range j).map fun j => rdCell q n base (rdShift R step (k0 + j) % span))) :: (Str.ofString "rest", vInt (rdShift R step (k0 + j) / step)) :: ls) (fun p hp => by
        rcases List.mem_cons.mp hp with rfl | hp
        · exact .tail _ (.tail _ (.tail _ (.head _)))
        rcases List.mem_cons.mp hp with rfl | hp
        · exact .tail _ (.head _)
        · exact .tail _ (.tail _ (.tail _ (.tail _ hp)))) (fun p hp => hp)).respec (P' := vLine g Ln (us ++ [v]) ((List.range (j + 1)).map fun j => rdCell q n base (rdShift R step (k0 + j) % span))) (fun u hu => by
          obtain ⟨rfl, hr⟩ := hu
          obtain ⟨y, rfl, hy⟩ := hv6
          refine ⟨rfl, ?_⟩
          rw [List.range_succ, List.map_append]
          exact hr.snoc (hy.mono (Newer.mono fun a o h => ⟨h.1, h.2.1, fun hm => h.2.2 ((perm a).mpr (.tail _ hm))⟩)))
      exact J9
  · rintro ⟨us, nu⟩ m1 s1 J1
    exact ⟨rfl, us, nu, m1, J1⟩
theorem rd_tab {n wide high T : Nat} {base R step span : Int} {p1 p2 p3 p4 p5 p6 p7 p8 p9 p10 p11 p12 p13 p14 p15 p16 p17 p18 p19 p20 p21 p22 p23 p24 p25 p26 p27 p28 p29 p30 p31 p32 p33 p34 p35 p36 p37 p38 p39 p40 p41 p42 p43 p44 p45 p46 p47 p48 p49 p50 p51 p52 p53 p54 p55 p56 p57 p58 p59 p60 p61 p62 p63 p64 p65 p66 p67 p68 p69 p70 p71 p72 p73 p74 p75 p76 p77 p78 p79 p80 : Pos} (C : RdC w p loose mg mb dp un fr g L) (hpt : prog.given.tree = none) (C1 : FrC (rdEnv L) g L 1 (T :: ps)) (hTp : T ∉ ps) (hT : Stays ps Tb)
    (O1 : ScOk (rdEnv L) sc1 (Str.ofString "_") cl1) (O2 : ScOk (rdEnv L) sc2 (Str.ofString "value") cl2) (hz : cl2.lookup (Str.ofString "q") = some (L + 1)) (hzk : ∀ C1, (compEnvC sc2 cl2 C1 (rdEnv L)).kindOf (Str.ofString "q") = some .cell) (hyk : ∀ C1, (compEnvC sc2 cl2 C1 (rdEnv L)).kindOf (Str.ofString "value") = some .local)
    (hsw2 : swapsWith (.ListComp (.Constant (.int 0) 0 p21) [⟨.Name (Str.ofString "_") p25, (.Call (.Name (Str.ofString "range") p23) [(.Name (Str.ofString "n") p22)] [] p24), [], 0⟩] sc1 p26) (some (.Name (Str.ofString "total") p20)) p27.line (rdEnv L) = pure true) {pl1 pl2 : Sem Bool} (hc2 : eval (.Call (.Attribute (.Name (Str.ofString "line") p70) (Str.ofString "append") p71) [(.ListComp (.BinOp (.Name (Str.ofString "value") p64) .Mod (.Name (Str.ofString "q") p65) p66) [⟨.Name (Str.ofString "value") p68, (.Name (Str.ofString "total") p67), [], 0⟩] sc2 p69)] [] p72) (rdEnv L) = (do let ov ← eval (.Name (Str.ofString "line") p70) (rdEnv L); standAt (p71).atName; let (f, first) ← holding [ov] (getMethod ov (Str.ofString "append") pl1); callWith p72 f first (backTo p72 (starEach [(.ListComp (.BinOp (.Name (Str.ofString "value") p64) .Mod (.Name (Str.ofString "q") p65) p66) [⟨.Name (Str.ofString "value") p68, (.Name (Str.ofString "total") p67), [], 0⟩] sc2 p69)] (rdEnv L))) [])) (hc3 : eval (.Call (.Attribute (.Name (Str.ofString "table") p76) (Str.ofString "append") p77) [(.Name (Str.ofString "line") p75)] [] p78) (rdEnv L) = (do let ov ← eval (.Name (Str.ofString "table") p76) (rdEnv L); standAt (p77).atName; let (f, first) ← holding [ov] (getMethod ov (Str.ofString "append") pl2); callWith p78 f first (backTo p78 (starEach [(.Name (Str.ofString "line") p75)] (rdEnv L))) []))
    (J : FI g L 1 (T :: ps) (fun h => Tb h ∧ h.get? T = some (listOf (List.toArray []) 0)) ((Str.ofString "table", vRef T) :: (Str.ofString "rest", vInt (rdShift R step 0)) :: ls) [(1, vInt q)] m s₀ s)
    (k3 : (Str.ofString "base", vInt base) ∈ ls) (k4 : (Str.ofString "n", vInt n) ∈ ls) (k5 : (Str.ofString "fine", vInt (rdFine n : Nat)) ∈ ls) (k6 : (Str.ofString "step", vInt step) ∈ ls) (k7 : (Str.ofString "span", vInt span) ∈ ls) (k8 : (Str.ofString "wide", vInt wide) ∈ ls) (k9 : (Str.ofString "high", vInt high) ∈ ls) (x_rest : (ls.all fun p => p.1 != Str.ofString "rest") = true) (x_line : (ls.all fun p => p.1 != Str.ofString "line") = true) (x_j : (ls.all fun p => p.1 != Str.ofString "j") = true) (x_piece : (ls.all fun p => p.1 != Str.ofString "piece") = true) (x_total : (ls.all fun p => p.1 != Str.ofString "total") = true) (x_at : (ls.all fun p => p.1 != Str.ofString "at") = true) (x_digit : (ls.all fun p => p.1 != Str.ofString "digit") = true) (x_i : (ls.all fun p => p.1 != Str.ofString "i") = true) (x_table : (ls.all fun p => p.1 != Str.ofString "table") = true) (n1 : 1 ≤ n) (n2 : n ≤ 3) (w2 : wide ≤ 3) (h2 : high ≤ 3) (hb : 0 < base) (bb : Bd 650 base) (hq : 0 < q) (hst : 0 < step) (hsp : 0 < span) :
    wpAny (model prog w) ((Ar dp fr gd un).deeper (rdEnv L)) (exec (.For (.Name (Str.ofString "i") p1) (.Call (.Name (Str.ofString "range") p3) [(.Name (Str.ofString "high") p2)] [] p4) [.Assign [.Name (Str.ofString "line") p6] (.List [] p5) p7, .For (.Name (Str.ofString "j") p8) (.Call (.Name (Str.ofString "range") p10) [(.Name (Str.ofString "wide") p9)] [] p11) [.Assign [.Name (Str.ofString "piece") p15] (.BinOp (.Name (Str.ofString "rest") p12) .Mod (.Name (Str.ofString "span") p13) p14) p16, .AugAssign (.Name (Str.ofString "rest") p17) .FloorDiv (.Name (Str.ofString "step") p18) p19, .Assign [.Name (Str.ofString "total") p20] (.ListComp (.Constant (.int 0) 0 p21) [⟨.Name (Str.ofString "_") p25, (.Call (.Name (Str.ofString "range") p23) [(.Name (Str.ofString "n") p22)] [] p24), [], 0⟩] sc1 p26) p27, .For (.Name (Str.ofString "at") p28) (.Call (.Name (Str.ofString "range") p30) [(.Name (Str.ofString "fine") p29)] [] p31) [.Assign [.Name (Str.ofString "digit") p39] (.BinOp (.BinOp (.Name (Str.ofString "piece") p32) .FloorDiv (.BinOp (.Name (Str.ofString "base") p33) .Pow (.Name (Str.ofString "at") p34) p35) p36) .Mod (.Name (Str.ofString "base") p37) p38) p40, .If (.Compare (.BinOp (.BinOp (.Name (Str.ofString "at") p41) .FloorDiv (.Name (Str.ofString "n") p42) p43) .Mod (.Constant (.int 2) 0 p44) p45) [.Eq] [(.Constant (.int 0) 0 p46)] p47) [.AugAssign (.Subscript (.Name (Str.ofString "total") p48) (.BinOp (.Name (Str.ofString "at") p49) .Mod (.Name (Str.ofString "n") p50) p51) p52) .Add (.Name (Str.ofString "digit") p53) p54] [.AugAssign (.Subscript (.Name (Str.ofString "total") p55) (.BinOp (.Name (Str.ofString "at") p56) .Mod (.Name (Str.ofString "n") p57) p58) p59) .Sub (.Name (Str.ofString "digit") p60) p61] p62] [] p63, .Expr (.Call (.Attribute (.Name (Str.ofString "line") p70) (Str.ofString "append") p71) [(.ListComp (.BinOp (.Name (Str.ofString "value") p64) .Mod (.Name (Str.ofString "q") p65) p66) [⟨.Name (Str.ofString "value") p68, (.Name (Str.ofString "total") p67), [], 0⟩] sc2 p69)] [] p72) p73] [] p74, .Expr (.Call (.Attribute (.Name (Str.ofString "table") p76) (Str.ofString "append") p77) [(.Name (Str.ofString "line") p75)] [] p78) p79] [] p80) (rdEnv L))
      (fun f s' => f = .next ∧ ∃ us nu m', FI g L 1 (T :: ps) (fun h => Tb h ∧ h.get? T = some (listOf (List.toArray us) nu)) ((Str.ofString "table", vTabl g T us (rdTable q n base R step span wide high)) :: (Str.ofString "rest", vInt (rdShift R step (high * wide))) :: ls) [(1, vInt q)] m' s₀ s') (fun _ _ => False) s := by
  refine fi_for (σ := List Value × Nat) (n := high) (fun j c h => Tb h ∧ h.get? T = some (listOf c.1.toArray c.2)) (fun i c => (Str.ofString "table", vTabl g T c.1 ((List.range i).map (rdRow q n base R step span wide))) :: (Str.ofString "rest", vInt (rdShift R step (i * wide))) :: ls) ([], 0) C1 (fun t c => hT.cons) rfl rfl (by passes_own)
    (by rw [Nat.zero_mul]; exact J.respec fun v e => ⟨e, .nil⟩) (pure_built C1 J C.KG C.TG (by k_is) (by boot_by_name) (by decide) rfl rfl) (pureZ_loc C1 J (.tail _ (.tail _ k9)) rfl) (by omega) (fun _ _ => all_cons (all_cons x_i (by decide)) (by decide)) ?_ ?_
  · rintro I oI i ⟨us, nu⟩ m1 s1 hIT C2 hT2 hi J1
    refine execs_next (fi_newlist (x := Str.ofString "line") C2 J1 hT2 rfl (all_cons (all_cons (all_cons x_line (by decide)) (by decide)) (by decide))) ?_
    rintro s2 ⟨Ln, m2, hLn, C3, J2⟩
    clear J1
    refine execs_next (rd_row (k0 := i * wide) (R := R) (ls := (Str.ofString "table", vTabl g T us ((List.range i).map (rdRow q n base R step span wide))) :: ls) C hpt C3 hLn hT2 O1 O2 hz hzk hyk hsw2 (pl1 := pl1) hc2 (J2.sub (fun p hp => by
      rcases List.mem_cons.mp hp with rfl | hp
      · exact .head _
      rcases List.mem_cons.mp hp with rfl | hp
      · exact .tail _ (.tail _ (.tail _ (.head _)))
      rcases List.mem_cons.mp hp with rfl | hp
      · exact .tail _ (.tail _ (.head _))
      · exact .tail _ (.tail _ (.tail _ (.tail _ hp)))) (fun p hp => hp)) (.tail _ k3) (.tail _ k4) (.tail _ k5) (.tail _ k6) (.tail _ k7) (.tail _ k8) (all_cons x_rest (by decide)) (all_cons x_line (by decide)) (all_cons x_j (by decide)) (all_cons x_piece (by decide)) (all_cons x_total (by decide)) (all_cons x_at (by decide)) (all_cons x_digit (by decide)) n1 n2 w2 hb bb hq hst hsp) ?_
    rintro s3 ⟨us3, nu3, m3, J3⟩
    clear J2
    have J4 := J3.freeze (P' := vRows g (rdRow q n base R step span wide i)) C3 hLn (fun v φ h1 h2 => ⟨Ln, us3, nu3, h1.1, h2, h1.2⟩)
    clear J3
    have hTI : T ∉ I :: ps := fun hm => (List.mem_cons.mp hm).elim (fun e => hIT (by rw [e]; exact List.mem_cons_self)) hTp
    have C5 := C2.conv (ps' := T :: I :: ps) mem_swap
    have J5 := J4.conv (ps' := T :: I :: ps) (Tb' := fun h => (Tb h ∧ h.get? I = some oI) ∧ h.get? T = some (listOf us.toArray nu)) mem_swap fun h => ⟨⟨h.1.1, h.2⟩, h.1.2⟩
    clear J4
    obtain ⟨v, ⟨rfl, hrows⟩, hv⟩ := pure_loc (M := model prog w) (A := (Ar dp fr gd un).deeper (rdEnv L)) (x := Str.ofString "table") C5 J5 (.tail _ (.tail _ (.head _))) rfl
    have hul : us.length = i := by rw [hrows.length]; simp
    refine wpAny_execs_cons (wpAny_mono (fi_append (vRows g (rdRow q n base R step span wide i)) C5 hTI J5 hT.cons hv (fun s' J' => ?_) (by omega) (pl := pl2) (hc := hc3)) (fun f s' h => ?_) fun _ _ e => e)
    · obtain ⟨v', hP, hv'⟩ := pure_loc (M := model prog w) (A := (Ar dp fr gd un).deeper (rdEnv L)) (x := Str.ofString "line") C5 J' (.head _) rfl
      exact hv' _ _ _ rfl fun tk => ⟨J'.tok rfl rfl rfl, hP⟩
    · obtain ⟨rfl, v, hv6, J7⟩ := h
      refine wpAny_execs_nil ⟨rfl, (us ++ [v], nu + 1), m3, ?_⟩
      have J8 := (J7.sub (ls' := (Str.ofString "table", vTabl g T us ((List.range i).map (rdRow q n base R step span wide))) :: (Str.ofString "rest", vInt (rdShift R step (i * wide + wide))) :: ls) (fun p hp => by
        rcases List.mem_cons.mp hp with rfl | hp
        · exact .tail _ (.tail _ (.head _))
        rcases List.mem_cons.mp hp with rfl | hp
        · exact .tail _ (.head _)
        · exact .tail _ (.tail _ (.tail _ hp))) (fun p hp => hp)).respec (P' := vTabl g T (us ++ [v]) ((List.range (i + 1)).map (rdRow q n base R step span wide))) (fun u hu => by
          obtain ⟨rfl, hr⟩ := hu
          obtain ⟨y, uy, ny, rfl, hy, hy2⟩ := hv6
          refine ⟨rfl, ?_⟩
          rw [List.range_succ, List.map_append]
          exact hr.snoc hy hy2)
      rw [Nat.succ_mul]
      exact J8.conv (ps' := I :: T :: ps) mem_swap fun h => ⟨⟨h.1.1, h.2⟩, h.1.2⟩
  · rintro ⟨us, nu⟩ m1 s1 J1
    exact ⟨rfl, us, nu, m1, J1⟩
end

-- read7
/-- what the read gives -/
def readOf (q : Int) (a b c : List (List (List Int))) (high inner other wide n : Nat) : List (List (List Int)) :=
  rdTable q n (rdBase q high inner other wide n) (rdRest q a b c high inner other wide n) (rdBase q high inner other wide n ^ rdRight n other inner) (rdBase q high inner other wide n ^ rdFine n) wide high
def vDataN (g : Heap) (rows : List (List (List Int))) : VP := ⟨fun v φ => ∃ l, v = .ref l ∧ DataOn (Newer g φ) l rows, fun _ _ _ k h => let ⟨l, e, d⟩ := h; ⟨l, e, d.mono (Newer.mono k)⟩⟩
section
variable {prog : Program} {w : World} {p : Program} {loose : List Str} {mg mb : Str → Option Value} {dp un : Nat} {fr : Option (List Env)} {gd : Option (List Code)} {g : Heap} {L : Nat} {ls : List (Str × VP)} {q : Int} {m : Str → Option Value} {s₀ s : Shared}
theorem rdLoops {n wide high inner other : Nat} {a b c : List (List (List Int))} (C : RdC w p loose mg mb dp un fr g L) (hpt : prog.given.tree = none)
    (J : RdI g L [(Str.ofString "rest", vInt (rdRest q a b c high inner other wide n)), (Str.ofString "span", vInt (rdBase q high inner other wide n ^ rdFine n)), (Str.ofString "step", vInt (rdBase q high inner other wide n ^ rdRight n other inner)), (Str.ofString "fine", vInt (rdFine n : Nat)), (Str.ofString "base", vInt (rdBase q high inner other wide n)), (Str.ofString "wide", vInt wide), (Str.ofString "high", vInt high), (Str.ofString "n", vInt n)] q m s₀ s)
    (n1 : 1 ≤ n) (n2 : n ≤ 3) (h2 : high ≤ 3) (i2 : inner ≤ 3) (o2 : other ≤ 3) (w2 : wide ≤ 3) (hq : 2 ≤ q) (bq : Bd 210 q) :
    wpAny (model prog w) ((Ar dp fr gd un).deeper (rdEnv L)) (execs ((stBody (topSt 13)).drop 15) (rdEnv L)) (fun f s' => ∃ T m', f = .ret (.ref T) ∧ Fr g L s'.heap m' ∧ Same s₀ s' ∧ DataOn (Newer g (HeapIs s'.heap)) T (readOf q a b c high inner other wide n)) (fun _ _ => False) s := by
  have hb0 : 0 < rdBase q high inner other wide n := rdBase_pos (by omega)
  refine execs_next (fi_newlist (x := Str.ofString "table") C.fc J true_stays rfl rfl) ?_
  rintro s1 ⟨T, m1, hTp, C1, J1⟩
  refine execs_next (rd_tab (n := n) (wide := wide) (high := high) (R := rdRest q a b c high inner other wide n) (sc1 := _) (sc2 := _) (cl1 := _) (cl2 := _) C hpt C1 hTp true_stays ⟨by with_unfolding_all rfl, by decide, rfl, by decide, rfl⟩ ⟨by with_unfolding_all rfl, by decide, rfl, by decide, rfl⟩ rfl (fun _ => by with_unfolding_all rfl) (fun _ => by with_unfolding_all rfl) (by with_unfolding_all rfl) (by with_unfolding_all rfl) (by with_unfolding_all rfl) J1 (.tail _ (.tail _ (.tail _ (.head _)))) (.tail _ (.tail _ (.tail _ (.tail _ (.tail _ (.tail _ (.head _))))))) (.tail _ (.tail _ (.head _))) (.tail _ (.head _)) (.head _) (.tail _ (.tail _ (.tail _ (.tail _ (.head _))))) (.tail _ (.tail _ (.tail _ (.tail _ (.tail _ (.head _)))))) rfl rfl rfl rfl rfl rfl rfl rfl rfl n1 n2 w2 h2 hb0 (rdBase_bd bq h2 i2 o2 w2 n2) (by omega) (Int.pow_pos hb0) (Int.pow_pos hb0)) ?_
  rintro s2 ⟨us, nu, m2, J2⟩
  clear J1
  have J3 := J2.freeze (P' := vDataN g (readOf q a b c high inner other wide n)) C1 hTp (fun v φ h1 h2 => ⟨T, h1.1, us, nu, h2, h1.2⟩)
  obtain ⟨v, ⟨l, rfl, D⟩, hv⟩ := pure_loc (M := model prog w) (A := (Ar dp fr gd un).deeper (rdEnv L)) (x := Str.ofString "table") C.fc J3 (.head _) rfl
  refine wpAny_execs_cons (wpAny_Return_some (hv _ _ _ rfl fun tk => ?_))
  have J4 : RdI g L _ q m2 s₀ { s2 with toks := tk } := J3.tok rfl rfl rfl
  exact ⟨l, m2, rfl, J4.fr, J4.same, D.mono (Newer.mono fun a o h => h.1)⟩
end
theorem lawRead {prog : Program} {w : World} {p : Program} {loose : List Str} {mg mb : Str → Option Value}
    {dp un : Nat} {fr : Option (List Env)} {gd : Option (List Code)} {h₀ : Heap} {s : Shared} {Q E : Value → Shared → Prop} {la lb lc high inner other wide n : Nat} {q : Int} {tq tn : Tok} {a b c : List (List (List Int))}
    (hsub : Grow h₀ s.heap) (KX : (heapK w.params).In h₀) (T : TopRead p loose mg mb h₀) (hpt : prog.given.tree = none) (NS : h₀.NoSeer) (hfr : ∃ l, fr = some l)
    (Da : DataOn (HeapIs s.heap) la a) (Db : DataOn (HeapIs s.heap) lb b) (Dc : DataOn (HeapIs s.heap) lc c)
    (ha : a.length = high) (hb : b.length = inner) (hc : c.length = other) (hea : Even a inner) (heb : Even b other) (hec : Even c wide) (hca : ∀ row ∈ a, ∀ x ∈ row, x.length = n) (hcb : ∀ row ∈ b, ∀ x ∈ row, x.length = n) (hcc : ∀ row ∈ c, ∀ x ∈ row, x.length = n)
    (h1 : 1 ≤ high) (h2 : high ≤ 2) (i1 : 1 ≤ inner) (i2 : inner ≤ 3) (o1 : 1 ≤ other) (o2 : other ≤ 3) (w1 : 1 ≤ wide) (w2 : wide ≤ 2) (n1 : 1 ≤ n) (n2 : n ≤ 3) (hq : 2 ≤ q) (bq : Bd 210 q)
    (hd : dp + 110 < recursionLimit)
    (ret : ∀ s' l, Grow s.heap s'.heap → Same s s' → DataOn (Fresh s.heap s'.heap) l (readOf q a b c high inner other wide n) → Q (.ref l) s') :
    wpAny (model prog w) (Ar dp fr gd un) (call (.ref 417) [.ref la, .ref lb, .ref lc, .int q tq, .int (n : Int) tn]) Q E s := by
  refine wpAny_call ?_
  k_dflt (refine' enterC ?k1 ?k3 ?k5 ?k6 ?k7 ?k8 ?k9 ?kB ?kD ?_ ?c2 ?c3 ?c4)
  case k1 => k_asm
  case k3 => k_asm
  case k5 => k_asm
  case k6 => k_is
  case k7 => k_is
  case k8 => ktr_room
  case k9 => exact BindsTo.of_eq rfl
  case kB => exact rfl
  case kD => decide +kernel
  case c2 => exact rfl
  case c3 => exact rfl
  case c4 => exact rfl
  intro L' h₁ tk cells KG TG F N Y
  obtain ⟨o1', hE, d1⟩ := CellsAre.one Y
  subst hE
  clear Y
  replace d1 : o1'.data = Data.cell (some (.int q tq)) := d1
  have C : RdC w p loose mg mb dp un fr s.heap L' := ⟨KG, TG, NS.keeps hsub, hfr, hd, ⟨rfl, rfl, rfl, F.above, fun _ h => nomatch h⟩⟩
  have std : ∀ a o, HeapIs s.heap a o → Std L' 1 [] h₁ a o := fun a o e => ⟨F.keep a o e, .inl (Nat.lt_of_lt_of_le (Heap.lt_size e) F.above), fun h => nomatch h⟩
  have n1' := N _ List.mem_cons_self
  refine wpAny_mono (Q := fun f s' => ∃ T m', f = .ret (.ref T) ∧ Fr s.heap L' s'.heap m' ∧ Same s s' ∧ DataOn (Newer s.heap (HeapIs s'.heap)) T (readOf q a b c high inner other wide n)) ?_ (fun f s' h => ?_) fun _ _ e => e
  · refine rdHead (prog := prog) (w := w) (p := p) (loose := loose) (mg := mg) (mb := mb) (dp := dp) (un := un) (fr := fr) (gd := gd) (g := s.heap) (L := L') (q := q) (m := _) (s₀ := s) C hpt ⟨Same.put _ _ _, F, fun x hx => ?_, fun x hx => ?_, fun k hk => ?_, (fun _ h => nomatch h), trivial⟩ ha hb hc hea heb hec hca hcb hcc h1 h2 i1 i2 o1 o2 w1 w2 n1 n2 hq bq fun s1 m1 J1 => ?_
    · revert x
      exact fa ⟨.int n tn, rfl, tn, rfl⟩ (fa ⟨.ref lc, rfl, lc, rfl, Dc.mono std⟩ (fa ⟨.ref lb, rfl, lb, rfl, Db.mono std⟩ (fa ⟨.ref la, rfl, la, rfl, Da.mono std⟩ fun _ h => nomatch h)))
    · rw [List.mem_singleton.mp hx]
      exact ⟨Nat.le_refl 1, Nat.le_refl 1, .int q tq, o1', n1'.1, d1, tq, rfl⟩
    · obtain rfl : k = 0 := by omega
      exact ⟨o1', _, n1'.1, d1⟩
    · exact rdLoops C hpt (J1.sub (by ((try dsimp only [List.cons_append, List.nil_append, List.append_nil]); repeat (first | (with_reducible exact sl_nil) | ((with_reducible refine sl_put ?_ ?_); focus (repeat (first | (with_reducible exact List.mem_cons_self) | (with_reducible refine List.mem_cons_of_mem _ ?_))))))) (fun _ h => h)) n1 n2 (by omega) i2 o2 (by omega) hq bq
  · obtain ⟨T, m', rfl, F', S', D⟩ := h
    exact ret s' T F'.keep S' (D.mono fun a o h => ⟨h.1, h.2⟩)

-- law4
section
variable {prog : Program} {w : World} {p : Program} {loose : List Str} {mg mb : Str → Option Value} {dp un : Nat} {fr : Option (List Env)} {gd : Option (List Code)} {g : Heap} {L st sc na pl : Nat} {vs : List Value} {ns : List Int} {mgB : Str → Option Value} {bm : Addr} {ob : Obj} {ls : List (Str × VP)} {cs : List (Nat × VP)} {m : Str → Option Value} {s₀ s : Shared} {E : Value → Shared → Prop}
theorem turn_std {h h' : Heap} (C : LawC w p loose mg mb dp un fr g L st sc vs ns mgB bm ob) (K : ∀ b o, b ≠ 362 → b ≠ 320 → h.get? b = some o → h'.get? b = some o) : ∀ a o, LStd L st h a o → LStd L st h' a o :=
  std_keep (nc := 7) fun b o hb _ e => K b o (fun q => hb (by rw [q]; simp [lps])) (fun q => hb (by rw [q]; simp [lps])) e
theorem law_matmul {A B md r n kk m1 inn l : Nat} {q : Int} {ta tb : Bool} {ra rb : List (List (List Int))} {Q : Value → Shared → Prop} (C : LawC w p loose mg mb dp un fr g L st sc vs ns mgB bm ob) (I : LawI g L st sc na pl ls cs m s₀ s)
    (hm : ModOn w (LStd L st s.heap) md r) (hr : RingOn w (LStd L st s.heap) r q n) (hA : MatOn w (LStd L st s.heap) A md r ta ra) (hB : MatOn w (LStd L st s.heap) B md r tb rb)
    (oA : MatOk ta ra m1 inn n kk) (oB : MatOk tb rb inn l n kk) (hq : 2 ≤ q) (hn : 1 ≤ n) (hn2 : n ≤ 3) (hkk : kk + kk ≤ 134217728)
    (ret : ∀ M s', LawI g L st sc na pl ls cs m s₀ s' → (∀ a o, LStd L st s.heap a o → LStd L st s'.heap a o) → MatOn w (LStd L st s'.heap) M md r false (prodRows q n inn m1 l (partOf ta ra) (partOf tb rb)) → Q (.ref M) s') :
    wpAny (model prog w) ((Ar dp fr gd un).deeper (lawEnv L)) (binaryOp .MatMult (.ref A) (.ref B)) Q E s := by
  obtain ⟨GH, HG, up, hid⟩ := I.ground C.fc
  obtain ⟨tk, ps1, ps2, t1, t2, q0, q1, q2⟩ := I.tabs
  have yA := hA.mono up
  have yB := hB.mono up
  obtain ⟨dM, DM, tpM, tdM, ttM, gM1, gM2, gM3⟩ := id yA
  obtain ⟨dB, DB, tpB, tdB, ttB, gB1, gB2, gB3⟩ := id yB
  have hd := C.hd
  have hu := C.hu
  k_dflt (refine' binop_K I.fr C.KG (instAt_is (HG _ _ gM1) (HG _ _ gM2)) ?h0 ?h1 ?h2 ?h3 ?_; (case h0 => exact (instAt_is (HG _ _ gB1) (HG _ _ gB2)).type); (case h1 => k_is); (case h2 => k_is); (case h3 => k_is))
  refine matMul HG (C.KG.keeps GH) (C.TG.keeps GH) (C.MG.keeps GH) (hm.mono up) (hr.mono up) yA yB oA oB hq hn hn2 hkk q1 (hid _ (by simp [lps])) t1 q2 (hid _ (by simp [lps])) t2 (by show dp + 1 + 30 < _; omega) (by show un + 3 + 300 < cLine; omega) ?_
  intro s5 M5 ps5 ps6 K5 P5 t5 P6 t6 S5 y5
  exact ret M5 s5 (I.turn C K5 P5 t5 P6 t6 S5) (turn_std C K5) (y5.mono I.std)
theorem law_T {M md r k : Nat} {tr e : Bool} {rows : List (List (List Int))} {Q : Value → Shared → Prop} (C : LawC w p loose mg mb dp un fr g L st sc vs ns mgB bm ob) (I : LawI g L st sc na pl ls cs m s₀ s)
    (hm : ModOn w (LStd L st s.heap) md r) (hM : MatOn w (LStd L st s.heap) M md r tr rows) (he : Even rows k) (hk : k ≤ 1000) (hn : 1 ≤ rows.length) (hn2 : rows.length ≤ 1000)
    (ret : ∀ M s', LawI g L st sc na pl ls cs m s₀ s' → (∀ a o, LStd L st s.heap a o → LStd L st s'.heap a o) → MatOn w (LStd L st s'.heap) M md r (!tr) rows → Q (.ref M) s') :
    wpAny (model prog w) ((Ar dp fr gd un).deeper (lawEnv L)) (getAttr (.ref M) (Str.ofString "T") e) Q E s := by
  obtain ⟨GH, HG, up, hid⟩ := I.ground C.fc
  obtain ⟨tk, ps1, ps2, t1, t2, q0, q1, q2⟩ := I.tabs
  have hd := C.hd
  refine matT HG (C.KG.keeps GH) (C.TG.keeps GH) (C.MG.keeps GH) I.fr C.KG (hm.mono up) up hM he hk hn hn2 q1 (hid _ (by simp [lps])) t1 (by show dp + 1 + 12 < _; omega) ?_
  intro s' M' ps' K P T S y
  have K' : ∀ b o, b ≠ 362 → b ≠ 320 → s.heap.get? b = some o → s'.heap.get? b = some o := fun b o h _ e => K b o h e
  exact ret M' s' (I.turn C K' P T (K _ _ (fun e => nomatch (show (320 : Nat) = 362 from e)) q2) t2 S) (turn_std C K') (y.mono fun a o h => h.elim (turn_std C K' a o) (I.std a o))
/-- the call of _law_kept upon a made matrix and a grid -/
theorem ev_kept {e ge : PySem.Expr} {p1 p2 : Pos} {Q : Value → Shared → Prop} {md r mm k n kk : Nat} {grid : List (List (List Int))} (C : LawC w p loose mg mb dp un fr g L st sc vs ns mgB bm ob) (I : LawI g L st sc na pl ls cs m s₀ s)
    (he : ∀ s, LawI g L st sc na pl ls cs m s₀ s → wpAny (model prog w) ((Ar dp fr gd un).deeper (lawEnv L)) (eval e (lawEnv L)) (fun v s₁ => LawI g L st sc na pl ls cs m s₀ s₁ ∧ ∃ M tr rows, v = .ref M ∧ MatOn w (LStd L st s₁.heap) M md r tr rows ∧ MatOk tr rows mm k n kk ∧ ∀ i j, i < mm → j < k → partOf tr rows i j = (grid.getD i []).getD j []) E s)
    (hg : ∀ s₁, LawI g L st sc na pl ls cs m s₀ s₁ → ∃ v, (vData grid).P v (LStd L st s₁.heap) ∧ Pure (model prog w) ((Ar dp fr gd un).deeper (lawEnv L)) (lawEnv L) s₁.heap ge v) (hgl : grid.length = mm) (hge : Even grid k)
    (ret : ∀ s', LawI g L st sc na pl ls cs m s₀ s' → Q (.bool true) s')
    (hse : starEach [e, ge] (lawEnv L) = [(false, eval e (lawEnv L)), (false, eval ge (lawEnv L))] := by rfl) :
    wpAny (model prog w) ((Ar dp fr gd un).deeper (lawEnv L)) (eval (.Call (.Name (Str.ofString "_law_kept") p1) [e, ge] [] p2) (lawEnv L)) Q E s := by
  have hf : Pure (model prog w) ((Ar dp fr gd un).deeper (lawEnv L)) (lawEnv L) s.heap (.Name (Str.ofString "_law_kept") p1) (.ref 405) := pure_glob C.fc I C.KG C.TG (by k_is) rfl
  have hd := C.hd
  have hu := C.hu
  refine Call_ (hf _ _ s rfl fun tk => ?_)
  refine callWith_of (by rw [hse]; rfl) (keeps_K (K := heapK w.params) (by k_is)) ?_
  rw [hse]
  refine evalArgs_plain (spliced_cons ?_)
  show wpAny _ _ (eval e (lawEnv L)) _ _ _
  refine wpAny_mono (he _ (I.tok rfl rfl rfl)) (fun v s1 h => ?_) fun _ _ e => e
  obtain ⟨I1, M, tr, rows, rfl, hM, oM, heq⟩ := h
  obtain ⟨v2, ⟨l, rfl, D⟩, hv2⟩ := hg s1 I1
  refine spliced_cons ?_
  show wpAny _ _ (eval ge (lawEnv L)) _ _ _
  refine hv2 _ _ _ rfl fun tk2 => spliced_nil ⟨C.KG.keeps I1.fr.keep, ?_⟩
  have I2 : LawI g L st sc na pl ls cs m s₀ { s1 with toks := tk2 } := I1.tok rfl rfl rfl
  exact lawKept I2.fr.keep C.KG C.TG (hM.mono fun a o h => h.1) oM (D.mono fun a o h => h.1) hgl hge heq (by show dp + 1 + 5 < _; omega) (by show un + 3 + 200 < cLine; omega) fun s' G S => ret s' (I2.grow C.fc LTb.stays G S)
/-- «if not _law_kept(..): ..» -/
theorem law_if_kept {e ge : PySem.Expr} {p1 p2 p3 p4 : Pos} {body : List Stmt} {md r mm k n kk : Nat} {grid : List (List (List Int))} (C : LawC w p loose mg mb dp un fr g L st sc vs ns mgB bm ob) (I : LawI g L st sc na pl ls cs m s₀ s)
    (he : ∀ s, LawI g L st sc na pl ls cs m s₀ s → wpAny (model prog w) ((Ar dp fr gd un).deeper (lawEnv L)) (eval e (lawEnv L)) (fun v s₁ => LawI g L st sc na pl ls cs m s₀ s₁ ∧ ∃ M tr rows, v = .ref M ∧ MatOn w (LStd L st s₁.heap) M md r tr rows ∧ MatOk tr rows mm k n kk ∧ ∀ i j, i < mm → j < k → partOf tr rows i j = (grid.getD i []).getD j []) E s)
    (hg : ∀ s₁, LawI g L st sc na pl ls cs m s₀ s₁ → ∃ v, (vData grid).P v (LStd L st s₁.heap) ∧ Pure (model prog w) ((Ar dp fr gd un).deeper (lawEnv L)) (lawEnv L) s₁.heap ge v) (hgl : grid.length = mm) (hge : Even grid k)
    (hse : starEach [e, ge] (lawEnv L) = [(false, eval e (lawEnv L)), (false, eval ge (lawEnv L))] := by rfl) :
    wpAny (model prog w) ((Ar dp fr gd un).deeper (lawEnv L)) (exec (.If (.UnaryOp .Not (.Call (.Name (Str.ofString "_law_kept") p1) [e, ge] [] p2) p3) body [] p4) (lawEnv L)) (FN g L 7 (lps st) (LTb st sc na pl) ls cs s₀) E s := by
  refine wpAny_If (isTrue_not (isTrue_plain (ev_kept C I he hg hgl hge (fun s' I' => wpAny_truthy_bool ?_) hse)))
  simp only [Bool.not_true, Bool.false_eq_true, if_false]
  exact wpAny_execs_nil ⟨rfl, m, I'⟩
end

-- law5
def turnsOf (ns : List Int) (p k : Nat) : List Bool := (List.range k).map fun i => decide (drawOf ns (p + i) % 2 = 1)
section
variable {w : World} {p : Program} {loose : List Str} {mg mb : Str → Option Value} {env env' : Env} {g h : Heap} {L nc : Nat} {ps : List Addr} {Tb Tb' : Heap → Prop} {ls : List (Str × VP)} {cs : List (Nat × VP)} {m : Str → Option Value} {s₀ s s' : Shared} {M : Model} {A : Around} {x : Str} {pos : Pos}
/-- names read inside a comprehension -/
theorem pure_celG {k : Nat} {P : VP} (hf : env'.scope.kind = .function) (I : FI g L nc ps Tb ls cs m s₀ s) (hm : (k, P) ∈ cs) (hx : env'.kindOf x = some .cell) (hc : env'.cells.lookup x = some (L + k)) (hd : (x == ("__debug__" : Str)) = false := by decide) : ∃ v, P.P v (Std L nc ps s.heap) ∧ Pure M A env' s.heap (.Name x pos) v := by
  obtain ⟨_, _, v, o, h1, h2, hP⟩ := I.cel _ hm
  exact ⟨v, hP, fun E Q s' hs h => wpAny_Name (wpAny_loadName_cell hf hx hc ⟨o, by rw [hs]; exact h1, h2⟩ (h s'.toks)) hd⟩
theorem pure_globG {K : Frag} {v : Value} (hf : env'.scope.kind = .function) (hg : env'.globals = mainGlobals) (I : FI g L nc ps Tb ls cs m s₀ s) (X : K.In g) (T : TopRead p loose mg mb g) (e : nsIn K mainGlobals x = some (some v)) (hx : env'.kindOf x = some .globalImplicit) (hd : (x == ("__debug__" : Str)) = false := by decide) : Pure M A env' s.heap (.Name x pos) v :=
  fun _ _ s' hs h => Name_function_global hf hx (loadGlobal_global (env := env') (by rw [hs, hg]; exact T.g.keeps I.fr.keep) (mg_of X T.g e) (h s'.toks)) hd
theorem pure_locG {oC : Obj} {m2 : Str → Option Value} {v : Value} (hf : env'.scope.kind = .function) (hC : LCg.NsObj oC m2) (e : h.get? env'.locals = some oC) (hy : m2 x = some v) (hx : env'.kindOf x = some .local) (hd : (x == ("__debug__" : Str)) = false := by decide) : Pure M A env' h (.Name x pos) v :=
  fun _ _ s' hs hq => wpAny_Name (wpAny_loadName_local hf hx (hC.ns (by rw [hs]; exact e)) hy (hq _)) hd
theorem FI.now (I : FI g L nc ps Tb ls cs m s₀ s) : FI g L nc ps Tb ls cs m s s := ⟨Same.put s s.heap s.toks, I.fr, I.loc, I.cel, I.all, I.alive, I.tabs⟩
theorem FI.inner {ps0 : List Addr} (C : FrC env g L nc ps) (I : FI g L nc ps Tb ls cs m s₀ s) (hp : ∀ b ∈ ps0, b ∈ ps) (F : Fr g L s'.heap m) (K : KeepBut ps0 L s.heap s'.heap) (S : Same s s') (al : ∀ b ∈ ps, ∃ o, s'.heap.get? b = some o) (ht : Tb' s'.heap) : FI g L nc ps Tb' ls cs m s' s' :=
  (I.keep C F (fun b o h1 h2 e => K b o (fun hm => h1 (hp b hm)) h2 e) S al ht).now
/-- a name holds what has been made -/
theorem FI.made {ps0 : List Addr} {v : Value} (P : VP) (C : FrC env g L nc ps) (I : FI g L nc ps Tb ls cs m s₀ s) (hp : ∀ b ∈ ps0, b ∈ ps) (F : Fr g L s'.heap (fun z => if z = x then some v else m z)) (K : KeepBut ps0 L s.heap s'.heap) (S : Same s s') (al : ∀ b ∈ ps, ∃ o, s'.heap.get? b = some o) (ht : Tb' s'.heap) (hx : (ls.all fun p => p.1 != x) = true) (hv : P.P v (Std L nc ps s'.heap)) :
    FI g L nc ps Tb' ((x, P) :: ls) cs (fun z => if z = x then some v else m z) s₀ s' := by
  have K' : KeepBut ps L s.heap s'.heap := fun b o h1 h2 e => K b o (fun hm => h1 (hp b hm)) h2 e
  have hc : ∀ k : Nat, 1 ≤ k → k ≤ nc → ∀ o, s.heap.get? (L + k) = some o → s'.heap.get? (L + k) = some o := fun k h1 h2 o e => K' _ o (fun hm => by have := (C.ps _ hm).2; omega) (fun e => by have e' : @Eq Nat _ _ := e; omega) e
  refine ⟨I.same.trans S, F, fun p hp => ?_, fun p hp => ?_, fun k hk => ?_, al, ht⟩
  · rcases List.mem_cons.mp hp with rfl | hp
    · exact ⟨v, by simp, hv⟩
    · obtain ⟨u, a, b⟩ := I.loc p hp
      have : p.1 ≠ x := by simpa using List.all_eq_true.mp hx p hp
      exact ⟨u, by rw [if_neg this]; exact a, p.2.mono _ _ _ (std_keep K') b⟩
  · obtain ⟨h1, h2, v, o, a, b, c⟩ := I.cel p hp
    exact ⟨h1, h2, v, o, hc _ h1 h2 o a, b, p.2.mono _ _ _ (std_keep K') c⟩
  · obtain ⟨o, v, a, b⟩ := I.all k hk
    refine ⟨o, v, ?_, b⟩
    have := hc (1 + k) (by omega) (by omega) o
    rw [← Nat.add_assoc] at this
    exact this a
end
theorem compMade_bools {h₀ h h' : Heap} {L D : Addr} {ps : List Addr} {Ob : List (Addr × Obj) → Prop} {n : Nat} {ys : List Value} {f : Nat → Bool} (z : CompMade h₀ L ps (fun i v _ => v = .bool (f i)) Ob n h D ys h') : ys = ((List.range n).map f).map Value.bool := by
  refine List.ext_getElem (by rw [z.len]; simp) fun i h1 h2 => ?_
  rw [z.items i _ (List.getElem?_eq_getElem h1)]
  simp
section
variable {prog : Program} {w : World} {p : Program} {loose : List Str} {mg mb : Str → Option Value} {dp un : Nat} {fr : Option (List Env)} {gd : Option (List Code)} {g : Heap} {L st sc na pl : Nat} {vs : List Value} {ns : List Int} {mgB : Str → Option Value} {bm : Addr} {ob : Obj} {ls : List (Str × VP)} {cs : List (Nat × VP)} {m : Str → Option Value} {s₀ s s' : Shared} {E : Value → Shared → Prop}
theorem law_off (C : LawC w p loose mg mb dp un fr g L st sc vs ns mgB bm ob) : (∀ b ∈ [st], b ∈ lps st) ∧ st ≠ L ∧ (362 ∉ [st]) ∧ (320 ∉ [st]) ∧ (362 ≠ L) ∧ (320 ≠ L) :=
  ⟨fun b hb => by rw [List.mem_singleton.mp hb]; exact List.mem_cons_self, (C.fc.off st List.mem_cons_self).2, fun hm => C.ne.1 (List.mem_singleton.mp hm).symm, fun hm => C.ne.2 (List.mem_singleton.mp hm).symm, (C.fc.off _ (by simp [lps])).2, (C.fc.off _ (by simp [lps])).2⟩
/-- the state behind a comprehension's turns that draw -/
theorem law_tabs {pl' : Nat} {tk : Tok} (C : LawC w p loose mg mb dp un fr g L st sc vs ns mgB bm ob) (I : LawI g L st sc na pl ls cs m s₀ s) (K : KeepBut [st] L s.heap s'.heap) (P : s'.heap.get? st = some (stateObj sc pl' tk na)) : LTb st sc na pl' s'.heap := by
  obtain ⟨_, ps1, ps2, h1, h2, _, h4, h5⟩ := I.tabs
  obtain ⟨_, _, n1, n2, n3, n4⟩ := law_off C
  exact ⟨tk, ps1, ps2, h1, h2, P, K _ _ n1 n3 h4, K _ _ n2 n4 h5⟩
theorem st_turnsG {sc' : Scope} {cl : List (Str × Addr)} {y : Str} {px py p1 p2 p3 p4 p5 p6 p7 pr1 pr2 pr3 pos spos : Pos} {k4 k6 kr : Nat} (C : LawC w p loose mg mb dp un fr g L st sc vs ns mgB bm ob) (I : LawI g L st sc na pl ls cs m s₀ s) (hst : (1, vRef st) ∈ cs) (hp : pl ≤ 900) (hx : (ls.all fun p => p.1 != Str.ofString "turns") = true)
    (O : ScOk (lawEnv L) sc' y cl) (hsw : swapsWith (.ListComp (.Compare (.BinOp (.Call (.Name (Str.ofString "_law_draw") p1) [.Name (Str.ofString "state") p2] [] p3) .Mod (.Constant (.int 2) k4 p4) p5) [.Eq] [.Constant (.int 1) k6 p6] p7) [⟨.Name y py, .Call (.Name (Str.ofString "range") pr1) [.Constant (.int 3) kr pr2] [] pr3, [], 0⟩] sc' pos) (some (.Name (Str.ofString "turns") px)) spos.line (lawEnv L) = pure true)
    (hz : cl.lookup (Str.ofString "state") = some (L + 1)) (hzk : ∀ C1, (compEnvC sc' cl C1 (lawEnv L)).kindOf (Str.ofString "state") = some .cell) (hgk : ∀ C1, (compEnvC sc' cl C1 (lawEnv L)).kindOf (Str.ofString "_law_draw") = some .globalImplicit) :
    wpAny (model prog w) ((Ar dp fr gd un).deeper (lawEnv L)) (exec (.Assign [.Name (Str.ofString "turns") px] (.ListComp (.Compare (.BinOp (.Call (.Name (Str.ofString "_law_draw") p1) [.Name (Str.ofString "state") p2] [] p3) .Mod (.Constant (.int 2) k4 p4) p5) [.Eq] [.Constant (.int 1) k6 p6] p7) [⟨.Name y py, .Call (.Name (Str.ofString "range") pr1) [.Constant (.int 3) kr pr2] [] pr3, [], 0⟩] sc' pos) spos) (lawEnv L))
      (FN g L 7 (lps st) (LTb st sc na (pl + 3)) ((Str.ofString "turns", vBools (turnsOf ns pl 3)) :: ls) cs s₀) E s := by
  obtain ⟨hin, hsL, n1, n2, n3, n4⟩ := law_off C
  have hd := C.hd
  refine assign_ListComp_G I.fr C.fc.loc hsw O.clos O.cell O.kind O.names O.own rfl rfl ?_ (fun _ => rfl)
  refine ev_range I (pure_built C.fc I C.KG C.TG (by k_is) (by boot_by_name) (by decide) rfl rfl) PureZ.const (fun r s1 t u v G J1 hr => ?_) C.fc LTb.stays
  obtain ⟨tk0, ps1, ps2, t1, t2, q0, q1, q2⟩ := J1.tabs
  refine CompG.makes (ps := [st]) (T₀ := [(st, stateObj sc pl tk0 na)]) (Ob := fun i T => ∃ tk', T = [(st, stateObj sc (pl + i) tk' na)]) (n := 3) (fun i v _ => v = .bool (decide (drawOf ns (pl + i) % 2 = 1))) (fun i => ⟨fun _ _ _ _ h => h, fun _ _ h => ⟨[], (fun _ h => nomatch h), h⟩⟩) rfl J1.fr (fun p hp => by rw [List.mem_singleton.mp hp]; exact ⟨q0, hsL, C.st1⟩) rfl ⟨tk0, rfl⟩ hr (small_one (by decide) (by decide) (by decide) (by decide)) rfl (by rw [sizeLine_eq]; omega) ?_ (DoneM.store ?_)
  · rintro i v D1 oC m1 s2 T E' hi _ _ ⟨tk', rfl⟩ hC hy S2 K F N hD1
    have P2 : s2.heap.get? st = some (stateObj sc (pl + i) tk' na) := (N (st, _) (List.mem_cons_of_mem _ List.mem_cons_self)).1
    have ht2 := law_tabs C J1 K P2
    have J2 : LawI g L st sc na (pl + i) ls cs m s2 s2 := J1.inner C.fc hin F K S2 ht2.alive ht2
    obtain ⟨v2, rfl, hv⟩ := pure_celG (M := model prog w) (A := (Ar dp fr gd un).deeper (lawEnv L)) (env' := compEnvC sc' cl D1 (lawEnv L)) (x := Str.ofString "state") (pos := p2) O.kind J2 hst (hzk D1) hz
    refine wpAny_Compare1 (wpAny_BinOp ?_)
    refine ev_call J2 C.KG (by k_is) (pure_globG (env' := compEnvC sc' cl D1 (lawEnv L)) O.kind rfl J2 C.KG C.TG (v := .ref 388) (by k_is) (hgk D1)) (PureA.cons hv PureA.nil) fun s3 J3 e3 => ?_
    obtain ⟨tk3, _, _, _, _, q3, _, _⟩ := J3.tabs
    refine lawDraw J3.fr.keep C.KG C.TG q3 C.st1 C.gs C.hi C.hlen (by omega) (by show dp + 1 + 1 < _; omega) fun s4 t4 tk4 K4 P4 S4 => ?_
    have J4 := J3.draw C K4 P4 S4
    refine wpAny_Constant_int ?_
    refine mod_int' (by decide) ?_
    refine wpAny_Constant_int ?_
    refine PyProof.Rows.eq_int ?_
    rw [Int.fmod_eq_emod_of_nonneg _ (by decide)]
    refine ⟨(J4.tok rfl rfl rfl : LawI g L st sc na (pl + i + 1) ls cs m s2 _).same, J4.fr, fun b o hb hL e => K4 b o (fun q => hb (List.mem_singleton.mpr q)) (by rw [e3]; exact e), ?_, [(st, stateObj sc (pl + i + 1) tk4 na)], rfl, fun p hp => ?_, ⟨tk4, rfl⟩⟩
    · by_cases h : drawOf ns (pl + i) % 2 = 1 <;> simp [h]
    · rw [List.mem_singleton.mp hp]; exact ⟨P4, hsL, C.st1⟩
  · intro D ys s4 S4 F4 z
    obtain ⟨T, _, NT, tk', rfl⟩ := z.turned
    have P4 := (NT _ List.mem_cons_self).1
    have ht := law_tabs C J1 z.keep P4
    have hv := compMade_bools z
    refine ⟨rfl, _, J1.made (vBools (turnsOf ns pl 3)) C.fc hin F4 z.keep S4 ht.alive ht hx ⟨D, ys.length, rfl, ?_⟩⟩
    have hl := J1.std D _ z.list
    rw [hv] at hl ⊢
    exact hl
theorem st_turns (C : LawC w p loose mg mb dp un fr g L st sc vs ns mgB bm ob) (I : LawI g L st sc na 6 ls cs m s₀ s) (hst : (1, vRef st) ∈ cs) (hx : (ls.all fun p => p.1 != Str.ofString "turns") = true) :
    wpAny (model prog w) ((Ar dp fr gd un).deeper (lawEnv L)) (exec (lawSt 7) (lawEnv L)) (FN g L 7 (lps st) (LTb st sc na 9) ((Str.ofString "turns", vBools (turnsOf ns 6 3)) :: ls) cs s₀) E s :=
  st_turnsG C I hst (by decide) hx ⟨by with_unfolding_all rfl, by decide, rfl, by decide, rfl⟩ (by with_unfolding_all rfl) (by with_unfolding_all rfl) (fun _ => by with_unfolding_all rfl) (fun _ => by with_unfolding_all rfl)
end

-- law6
/-- an expression's end at the law's level, by the heap that it began with -/
abbrev LawEM (g : Heap) (L st sc na pl : Nat) (ls : List (Str × VP)) (cs : List (Nat × VP)) (m : Str → Option Value) (s₀ : Shared) (h : Heap) (P : VP) (v : Value) (s : Shared) : Prop := LawI g L st sc na pl ls cs m s₀ s ∧ (∀ a o, LStd L st h a o → LStd L st s.heap a o) ∧ P.P v (LStd L st s.heap)
section
variable {prog : Program} {w : World} {p : Program} {loose : List Str} {mg mb : Str → Option Value} {dp un : Nat} {fr : Option (List Env)} {gd : Option (List Code)} {g : Heap} {L st sc na pl : Nat} {vs : List Value} {ns : List Int} {mgB : Str → Option Value} {bm : Addr} {ob : Obj} {ls : List (Str × VP)} {cs : List (Nat × VP)} {m : Str → Option Value} {s₀ s s' : Shared} {E : Value → Shared → Prop}
theorem em_pure {e : PySem.Expr} {P : VP} (I : LawI g L st sc na pl ls cs m s₀ s) (h : ∃ v, P.P v (LStd L st s.heap) ∧ Pure (model prog w) ((Ar dp fr gd un).deeper (lawEnv L)) (lawEnv L) s.heap e v) : wpAny (model prog w) ((Ar dp fr gd un).deeper (lawEnv L)) (eval e (lawEnv L)) (LawEM g L st sc na pl ls cs m s₀ s.heap P) E s := by
  obtain ⟨v, hP, hv⟩ := h
  exact hv _ _ s rfl fun tk => ⟨I.tok rfl rfl rfl, fun _ _ h => h, hP⟩
theorem law_mod {md r : Nat} {q : Int} {n : Nat} (I : LawI g L st sc na pl ls cs m s₀ s) (hmm : (Str.ofString "module", vMod w md r) ∈ ls) (hrm : (Str.ofString "ring", vRing w r q n) ∈ ls) : ModOn w (LStd L st s.heap) md r ∧ RingOn w (LStd L st s.heap) r q n := by
  obtain ⟨v1, _, _, h1⟩ := I.loc _ hmm
  obtain ⟨v2, _, _, h2⟩ := I.loc _ hrm
  exact ⟨h1, h2⟩
theorem em_mul {le re : PySem.Expr} {pos : Pos} {md r n kk m1 inn l : Nat} {q : Int} {ta tb : Bool} {ra rb : List (List (List Int))} (C : LawC w p loose mg mb dp un fr g L st sc vs ns mgB bm ob)
    (hmm : (Str.ofString "module", vMod w md r) ∈ ls) (hrm : (Str.ofString "ring", vRing w r q n) ∈ ls)
    (hl : wpAny (model prog w) ((Ar dp fr gd un).deeper (lawEnv L)) (eval le (lawEnv L)) (LawEM g L st sc na pl ls cs m s₀ s.heap (vMat w md r ta ra)) E s)
    (hr : ∀ s₁, LawI g L st sc na pl ls cs m s₀ s₁ → wpAny (model prog w) ((Ar dp fr gd un).deeper (lawEnv L)) (eval re (lawEnv L)) (LawEM g L st sc na pl ls cs m s₀ s₁.heap (vMat w md r tb rb)) E s₁)
    (oA : MatOk ta ra m1 inn n kk) (oB : MatOk tb rb inn l n kk) (hq : 2 ≤ q) (hn : 1 ≤ n) (hn2 : n ≤ 3) (hkk : kk + kk ≤ 134217728) :
    wpAny (model prog w) ((Ar dp fr gd un).deeper (lawEnv L)) (eval (.BinOp le .MatMult re pos) (lawEnv L)) (LawEM g L st sc na pl ls cs m s₀ s.heap (vMat w md r false (prodRows q n inn m1 l (partOf ta ra) (partOf tb rb)))) E s := by
  refine wpAny_BinOp (wpAny_mono hl (fun v s1 h => ?_) fun _ _ e => e)
  obtain ⟨I1, k1, A, rfl, hA⟩ := h
  refine wpAny_mono (hr s1 I1) (fun v s2 h => ?_) fun _ _ e => e
  obtain ⟨I2, k2, B, rfl, hB⟩ := h
  obtain ⟨h1, h2⟩ := law_mod I2 hmm hrm
  exact law_matmul C I2 h1 h2 (hA.mono k2) hB oA oB hq hn hn2 hkk fun M s3 I3 k3 y => ⟨I3, fun a o h => k3 a o (k2 a o (k1 a o h)), M, rfl, y⟩
theorem em_T {e : PySem.Expr} {pos : Pos} {md r n k : Nat} {q : Int} {tr : Bool} {rows : List (List (List Int))} (C : LawC w p loose mg mb dp un fr g L st sc vs ns mgB bm ob)
    (hmm : (Str.ofString "module", vMod w md r) ∈ ls) (hrm : (Str.ofString "ring", vRing w r q n) ∈ ls)
    (h : wpAny (model prog w) ((Ar dp fr gd un).deeper (lawEnv L)) (eval e (lawEnv L)) (LawEM g L st sc na pl ls cs m s₀ s.heap (vMat w md r tr rows)) E s)
    (he : Even rows k) (hk : k ≤ 1000) (hn : 1 ≤ rows.length) (hn2 : rows.length ≤ 1000)
    (hx : eval (.Attribute e (Str.ofString "T") pos) (lawEnv L) = (do
      let o ← eval e (lawEnv L)
      standAt pos.atName
      let r ← holding [o] (getAttr o (Str.ofString "T") true)
      letTemporaryGo e o r
      pure r) := by with_unfolding_all rfl) :
    wpAny (model prog w) ((Ar dp fr gd un).deeper (lawEnv L)) (eval (.Attribute e (Str.ofString "T") pos) (lawEnv L)) (LawEM g L st sc na pl ls cs m s₀ s.heap (vMat w md r (!tr) rows)) E s := by
  refine Attribute_any_ (wpAny_mono h (fun v s1 h => ?_) fun _ _ e => e) hx
  obtain ⟨I1, k1, M, rfl, hM⟩ := h
  exact law_T C I1 (law_mod I1 hmm hrm).1 hM he hk hn hn2 fun M' s2 I2 k2 y => ⟨I2, fun a o h => k2 a o (k1 a o h), M', rfl, y⟩
theorem st_kept {e ge : PySem.Expr} {p1 p2 p3 p4 : Pos} {body : List Stmt} {md r mm k n kk : Nat} {tr : Bool} {rows grid : List (List (List Int))} (C : LawC w p loose mg mb dp un fr g L st sc vs ns mgB bm ob) (I : LawI g L st sc na pl ls cs m s₀ s)
    (he : ∀ s, LawI g L st sc na pl ls cs m s₀ s → wpAny (model prog w) ((Ar dp fr gd un).deeper (lawEnv L)) (eval e (lawEnv L)) (LawEM g L st sc na pl ls cs m s₀ s.heap (vMat w md r tr rows)) E s) (oM : MatOk tr rows mm k n kk) (heq : ∀ i j, i < mm → j < k → partOf tr rows i j = (grid.getD i []).getD j [])
    (hg : ∀ s₁, LawI g L st sc na pl ls cs m s₀ s₁ → ∃ v, (vData grid).P v (LStd L st s₁.heap) ∧ Pure (model prog w) ((Ar dp fr gd un).deeper (lawEnv L)) (lawEnv L) s₁.heap ge v) (hgl : grid.length = mm) (hge : Even grid k)
    (hse : starEach [e, ge] (lawEnv L) = [(false, eval e (lawEnv L)), (false, eval ge (lawEnv L))] := by rfl) :
    wpAny (model prog w) ((Ar dp fr gd un).deeper (lawEnv L)) (exec (.If (.UnaryOp .Not (.Call (.Name (Str.ofString "_law_kept") p1) [e, ge] [] p2) p3) body [] p4) (lawEnv L)) (FN g L 7 (lps st) (LTb st sc na pl) ls cs s₀) E s :=
  law_if_kept C I (fun s I => wpAny_mono (he s I) (fun v s1 h => by
    obtain ⟨I1, _, M, rfl, hM⟩ := h
    exact ⟨I1, M, tr, rows, rfl, hM, oM, heq⟩) fun _ _ e => e) hg hgl hge hse
/-- the read's call -/
theorem ev_read {high inner other wide n : Nat} {q : Int} {a b c : List (List (List Int))} {p1 p2 p3 p4 p5 p6 p7 : Pos} (C : LawC w p loose mg mb dp un fr g L st sc vs ns mgB bm ob) (hpt : prog.given.tree = none) (I : LawI g L st sc na pl ls cs m s₀ s)
    (ham : (Str.ofString "a", vData a) ∈ ls) (hbm : (Str.ofString "b", vData b) ∈ ls) (hcm : (Str.ofString "c", vData c) ∈ ls) (hqm : (Str.ofString "q", vInt q) ∈ ls) (hnm : (Str.ofString "n", vInt n) ∈ ls)
    (ha : a.length = high) (hb : b.length = inner) (hc : c.length = other) (hea : Even a inner) (heb : Even b other) (hec : Even c wide) (hca : ∀ row ∈ a, ∀ x ∈ row, x.length = n) (hcb : ∀ row ∈ b, ∀ x ∈ row, x.length = n) (hcc : ∀ row ∈ c, ∀ x ∈ row, x.length = n)
    (h1 : 1 ≤ high) (h2 : high ≤ 2) (i1 : 1 ≤ inner) (i2 : inner ≤ 3) (o1 : 1 ≤ other) (o2 : other ≤ 3) (w1 : 1 ≤ wide) (w2 : wide ≤ 2) (n1 : 1 ≤ n) (n2 : n ≤ 3) (hq : 2 ≤ q) (bq : Bd 210 q) :
    wpAny (model prog w) ((Ar dp fr gd un).deeper (lawEnv L)) (eval (.Call (.Name (Str.ofString "_law_read") p1) [.Name (Str.ofString "a") p2, .Name (Str.ofString "b") p3, .Name (Str.ofString "c") p4, .Name (Str.ofString "q") p5, .Name (Str.ofString "n") p6] [] p7) (lawEnv L)) (LawE g L st sc na pl ls cs m s₀ (vData (readOf q a b c high inner other wide n))) E s := by
  obtain ⟨va, ⟨la, rfl, Da⟩, ha'⟩ := pure_loc (M := model prog w) (A := (Ar dp fr gd un).deeper (lawEnv L)) (env := lawEnv L) (x := Str.ofString "a") (pos := p2) C.fc I ham rfl
  obtain ⟨vb, ⟨lb, rfl, Db⟩, hb'⟩ := pure_loc (M := model prog w) (A := (Ar dp fr gd un).deeper (lawEnv L)) (env := lawEnv L) (x := Str.ofString "b") (pos := p3) C.fc I hbm rfl
  obtain ⟨vc, ⟨lc, rfl, Dc⟩, hc'⟩ := pure_loc (M := model prog w) (A := (Ar dp fr gd un).deeper (lawEnv L)) (env := lawEnv L) (x := Str.ofString "c") (pos := p4) C.fc I hcm rfl
  obtain ⟨vq, ⟨tq, rfl⟩, hq'⟩ := pure_loc (M := model prog w) (A := (Ar dp fr gd un).deeper (lawEnv L)) (env := lawEnv L) (x := Str.ofString "q") (pos := p5) C.fc I hqm rfl
  obtain ⟨vn, ⟨tn, rfl⟩, hn'⟩ := pure_loc (M := model prog w) (A := (Ar dp fr gd un).deeper (lawEnv L)) (env := lawEnv L) (x := Str.ofString "n") (pos := p6) C.fc I hnm rfl
  have hd := C.hd
  refine ev_call I C.KG (by k_is) (pure_glob C.fc I C.KG C.TG (v := .ref 417) (by k_is) rfl) (PureA.cons ha' (PureA.cons hb' (PureA.cons hc' (PureA.cons hq' (PureA.cons hn' PureA.nil))))) fun s' I' e => ?_
  rw [← e] at Da Db Dc
  exact lawRead I'.fr.keep C.KG C.TG hpt C.NS (by obtain ⟨l, e⟩ := C.frs; rw [show (Ar dp fr gd un).frames = fr from rfl, e]; exact ⟨_, rfl⟩) (Da.mono fun a o h => h.1) (Db.mono fun a o h => h.1) (Dc.mono fun a o h => h.1) ha hb hc hea heb hec hca hcb hcc h1 h2 i1 i2 o1 o2 w1 w2 n1 n2 hq bq (by show dp + 1 + 110 < _; omega) fun s2 l G S D => ⟨I'.grow C.fc LTb.stays G S, l, rfl, D.mono I'.std⟩
end

-- law7
/-- the table, turned over -/
def crossOf (t : List (List (List Int))) (high wide : Nat) : List (List (List Int)) := (List.range wide).map fun j => (List.range high).map fun i => (t.getD i []).getD j []
section
variable {p : Program} {loose : List Str} {mg mb : Str → Option Value} {env' : Env} {h g : Heap} {M : Model} {A : Around} {x : Str} {pos : Pos}
theorem pure_cellA {a : Addr} {o : Obj} {v : Value} (hf : env'.scope.kind = .function) (hx : env'.kindOf x = some .cell) (hc : env'.cells.lookup x = some a) (h1 : h.get? a = some o) (h2 : o.data = .cell (some v)) (hd : (x == ("__debug__" : Str)) = false := by decide) : Pure M A env' h (.Name x pos) v :=
  fun E Q s' hs hq => wpAny_Name (wpAny_loadName_cell hf hx hc ⟨o, by rw [hs]; exact h1, h2⟩ (hq s'.toks)) hd
theorem pure_builtA {K : Frag} {v : Value} (hf : env'.scope.kind = .function) (hgl : env'.globals = mainGlobals) (hb : env'.builtins = builtinsNs) (G : Grow g h) (X : K.In g) (T : TopRead p loose mg mb g) (e : nsIn K mainGlobals x = some none) (hv : bootBuiltins x = some v) (hn : x ≠ "__name__") (hx : env'.kindOf x = some .globalImplicit) (hd : (x == ("__debug__" : Str)) = false := by decide) : Pure M A env' h (.Name x pos) v :=
  fun _ _ s' hs hq => Name_function_global hf hx (loadGlobal_builtin (env := env') (by rw [hs, hgl]; exact T.g.keeps G) (mg_none_of X T.g e) (by rw [hs, hb]; exact T.b.keeps G) ((T.builtins x hn).trans hv) (hq s'.toks)) hd
end
section
variable {prog : Program} {w : World} {A : Around} {env' : Env} {g h : Heap} {L : Addr} {m : Str → Option Value} {s : Shared} {E : Value → Shared → Prop} {pos : Pos}
theorem ev_rangeA {fe e : PySem.Expr} {n : Int} {Q : Value → Shared → Prop} (F : Fr g L s.heap m) (hf : Pure (model prog w) A env' s.heap fe (.type "range")) (he : PureZ (model prog w) A env' s.heap e n)
    (ret : ∀ r s' t u v, Grow s.heap s'.heap → Same s s' → Fr g L s'.heap m → IsRange s'.heap r 0 n 1 t u v → Q (.ref r) s')
    (h1 : eval (.Call fe [e] [] pos) env' = (do callWith pos (← eval fe env') [] (backTo pos (starEach [e] env')) (backToKw pos (keywordEach [] env'))) := by rfl) (hs : starEach [e] env' = (false, eval e env') :: starEach [] env' := by rfl) : wpAny (model prog w) A (eval (.Call fe [e] [] pos) env') Q E s := by
  refine Call_ (hf _ _ s rfl fun tk => Pv.callWith_type1 ?_ hs) h1
  rw [hs]
  refine spliced_cons ?_
  show wpAny _ _ (eval e env') _ _ _
  refine he _ _ _ rfl fun t tk' => args_nil ?_
  refine range1_rows (s := { s with toks := tk' }) F News.nil fun h' tk2 t₁ u₁ v₁ hr F' _ G => ?_
  exact ret _ _ _ _ _ G (Same.put s _ _) F' hr
theorem pure_at {e : PySem.Expr} {y : Str} {py : Pos} {l na : Nat} {us : List Value} {k : Nat} {v : Value} {p3 : Pos} (h1 : Pure (model prog w) A env' h e (.ref l)) (h2 : PureZ (model prog w) A env' h (.Name y py) (k : Int)) (hl : HeapIs h l (listOf us.toArray na)) (hk : k ≤ 1000) (hx : us[k]? = some v) : Pure (model prog w) A env' h (.Subscript e (.Name y py) p3) v :=
  fun _ _ s hs hq => Subscript_ (h1 _ _ s hs fun tk => h2 _ _ _ hs fun t tk2 => sub_at (by show Heap.get? s.heap l = _; rw [hs]; exact hl) (by omega) (by omega) (by rw [Int.toNat_natCast]; exact hx) (hq _))
end
/-- an element of a comprehension: a list that is told elsewhere; a new row of such -/
def IntsAt (ψ : Addr → Obj → Prop) (c : List Int) (v : Value) (_ : Addr → Obj → Prop) : Prop := ∃ x, v = .ref x ∧ IntsOn ψ x c
def RowsAt (ψ : Addr → Obj → Prop) (rows : List (List Int)) (v : Value) (φ : Addr → Obj → Prop) : Prop := ∃ x us na, v = .ref x ∧ φ x (listOf (List.toArray us) na) ∧ RowsOn ψ us rows
theorem borne_intsAt (ψ : Addr → Obj → Prop) (c : List Int) : Borne (IntsAt ψ c) := ⟨fun _ _ _ _ h => h, fun _ _ h => ⟨[], (fun _ h => nomatch h), h⟩⟩
theorem borne_rowsAt (ψ : Addr → Obj → Prop) (rows : List (List Int)) : Borne (RowsAt ψ rows) := ⟨fun _ _ _ h ⟨x, us, na, e, y, z⟩ => ⟨x, us, na, e, h _ _ y, z⟩, fun _ φ ⟨x, us, na, e, y, z⟩ => ⟨[(x, listOf us.toArray na)], fun p hp => by rw [List.mem_singleton.mp hp]; exact y, x, us, na, e, List.mem_cons_self, z⟩⟩
section
variable {prog : Program} {w : World} {p : Program} {loose : List Str} {mg mb : Str → Option Value} {dp un : Nat} {fr : Option (List Env)} {gd : Option (List Code)} {g : Heap} {L st sc na pl : Nat} {vs : List Value} {ns : List Int} {mgB : Str → Option Value} {bm : Addr} {ob : Obj} {ls : List (Str × VP)} {cs : List (Nat × VP)} {m : Str → Option Value} {s₀ s s' : Shared} {E : Value → Shared → Prop}
theorem st_crossedG {sc1 sc2 : Scope} {cl1 : List (Str × Addr)} {cl2 : Addr → List (Str × Addr)} {t : List (List (List Int))} {high wide : Nat} {px pi pj p1 p2 p3 p4 p5 q1 q2 q3 q4 q5 q6 pos1 pos2 spos : Pos} (C : LawC w p loose mg mb dp un fr g L st sc vs ns mgB bm ob) (I : LawI g L st sc na pl ls cs m s₀ s) (ht : (6, vData t) ∈ cs) (hh : (2, vInt high) ∈ cs) (hwm : (Str.ofString "wide", vInt wide) ∈ ls) (h2 : high ≤ 1000) (w2 : wide ≤ 1000) (htl : t.length = high) (hte : Even t wide) (hx : (ls.all fun p => p.1 != Str.ofString "crossed") = true)
    (hsw : swapsWith (.ListComp (.ListComp (.Subscript (.Subscript (.Name (Str.ofString "table") p1) (.Name (Str.ofString "i") p2) p3) (.Name (Str.ofString "j") p4) p5) [⟨.Name (Str.ofString "i") pi, .Call (.Name (Str.ofString "range") q1) [.Name (Str.ofString "high") q2] [] q3, [], 0⟩] sc2 pos2) [⟨.Name (Str.ofString "j") pj, .Call (.Name (Str.ofString "range") q4) [.Name (Str.ofString "wide") q5] [] q6, [], 0⟩] sc1 pos1) (some (.Name (Str.ofString "crossed") px)) spos.line (lawEnv L) = pure true)
    (hclos : closureFor sc1 (lawEnv L) = pure cl1) (hone : ∀ n, cellsFrom n sc1.names cl1 = (Str.ofString "j", n) :: cl1) (hpush : ∀ h, pushCells h sc1.names = h.push oneCell) (hkind : sc1.kind = .function) (hnames : ∀ z ∈ sc1.names, z.2 = .local → sc1.names.lookup z.1 = some .local) (hx1 : (relabel sc1 (lawEnv L)).names.lookup (Str.ofString "j") = some .cell)
    (hrk : ∀ C1 R, (compEnvC sc1 ((Str.ofString "j", R) :: cl1) C1 (lawEnv L)).kindOf (Str.ofString "range") = some .globalImplicit) (hhk : ∀ C1 R, (compEnvC sc1 ((Str.ofString "j", R) :: cl1) C1 (lawEnv L)).kindOf (Str.ofString "high") = some .cell) (hhz : ∀ R, List.lookup (Str.ofString "high") ((Str.ofString "j", R) :: cl1) = some (L + 2))
    (O : ∀ C1 R, ScOk (compEnvC sc1 ((Str.ofString "j", R) :: cl1) C1 (lawEnv L)) sc2 (Str.ofString "i") (cl2 R))
    (hjz : ∀ R, (cl2 R).lookup (Str.ofString "j") = some R) (htz : ∀ R, (cl2 R).lookup (Str.ofString "table") = some (L + 6))
    (hk : ∀ C1 C2 R, (compEnvC sc2 (cl2 R) C2 (compEnvC sc1 ((Str.ofString "j", R) :: cl1) C1 (lawEnv L))).kindOf (Str.ofString "table") = some .cell ∧ (compEnvC sc2 (cl2 R) C2 (compEnvC sc1 ((Str.ofString "j", R) :: cl1) C1 (lawEnv L))).kindOf (Str.ofString "j") = some .cell ∧ (compEnvC sc2 (cl2 R) C2 (compEnvC sc1 ((Str.ofString "j", R) :: cl1) C1 (lawEnv L))).kindOf (Str.ofString "i") = some .local) :
    wpAny (model prog w) ((Ar dp fr gd un).deeper (lawEnv L)) (exec (.Assign [.Name (Str.ofString "crossed") px] (.ListComp (.ListComp (.Subscript (.Subscript (.Name (Str.ofString "table") p1) (.Name (Str.ofString "i") p2) p3) (.Name (Str.ofString "j") p4) p5) [⟨.Name (Str.ofString "i") pi, .Call (.Name (Str.ofString "range") q1) [.Name (Str.ofString "high") q2] [] q3, [], 0⟩] sc2 pos2) [⟨.Name (Str.ofString "j") pj, .Call (.Name (Str.ofString "range") q4) [.Name (Str.ofString "wide") q5] [] q6, [], 0⟩] sc1 pos1) spos) (lawEnv L))
      (FN g L 7 (lps st) (LTb st sc na pl) ((Str.ofString "crossed", vData (crossOf t high wide)) :: ls) cs s₀) E s := by
  refine assign_ListComp_GC I.fr C.fc.loc hsw hclos hone hpush hkind hnames hx1 rfl rfl ?_ (fun _ => rfl)
  refine ev_range I (pure_built C.fc I C.KG C.TG (by k_is) (by boot_by_name) (by decide) rfl rfl) (pureZ_loc C.fc I hwm rfl) (fun r s1 t1 u v G J1 hr => ?_) C.fc LTb.stays
  obtain ⟨_, _, v6, o6, h6, d6, lt, rfl, vt, nt, hT, D6⟩ := J1.cel _ ht
  obtain ⟨_, _, v2, o2, h2', d2, t2, rfl⟩ := J1.cel _ hh
  have hcell : ∀ {h' : Heap} {k : Nat} {o : Obj}, 1 ≤ k → KeepBut [] L s1.heap h' → s1.heap.get? (L + k) = some o → h'.get? (L + k) = some o := fun hk K e => K _ _ (fun hm => nomatch hm) (fun e => by have e' : @Eq Nat _ _ := e; omega) e
  have up : ∀ {h' : Heap}, KeepBut [] L s1.heap h' → ∀ a o, LStd L st s1.heap a o → h'.get? a = some o := fun K a o e => K a o (fun hm => nomatch hm) (by rcases e.2.1 with q | q <;> (intro e; have e' : @Eq Nat _ _ := e; omega)) e.1
  refine CompGC.makes (ps := []) (T₀ := []) (Ob := fun _ T => T = []) (n := wide) (fun j => RowsAt (LStd L st s1.heap) ((List.range high).map fun i => (t.getD i []).getD j [])) (fun j => borne_rowsAt _ _) rfl J1.fr News.nil rfl rfl hr (small_one (by decide) (by decide) (by omega) (by omega)) (by rw [rangeSize_nat]; omega) (by rw [sizeLine_eq]; omega) ?_ (DoneM.store ?_)
  · rintro j tk C1 oC R oR s2 T E' hj _ rfl hR S2 K F N
    have hRs : s2.heap.get? R = some oR := (N (R, oR) (List.mem_cons_of_mem _ List.mem_cons_self)).1
    have hRL : R ≠ L := (N (R, oR) (List.mem_cons_of_mem _ List.mem_cons_self)).2.1
    have O' := O C1 R
    refine eval_ListComp_G F O'.clos O'.cell O'.kind O'.names O'.own ?_ (fun _ => rfl)
    refine ev_rangeA F (pure_builtA hkind rfl rfl F.keep C.KG C.TG (by k_is) (by boot_by_name) (by decide) (hrk C1 R)) (PureZ.of (pure_cellA (a := L + 2) hkind (hhk C1 R) (hhz R) (hcell (by decide) K h2') d2)) fun r3 s3 t3 u3 v3 G3 S3 F3 hr3 => ?_
    have K3 : KeepBut [] L s1.heap s3.heap := K.trans G3.keepBut
    refine CompG.makes (ps := []) (T₀ := []) (Ob := fun _ T => T = []) (n := high) (fun i => IntsAt (LStd L st s1.heap) ((t.getD i []).getD j [])) (fun i => borne_intsAt _ _) rfl F3 News.nil rfl rfl hr3 (small_one (by decide) (by decide) (by omega) (by omega)) (by rw [rangeSize_nat]; omega) (by rw [sizeLine_eq]; omega) ?_ (DoneM.eval ?_)
    · rintro i v C2 oC2 m2 s4 T E4 hi ⟨tv, rfl⟩ _ rfl hC2 hy S4 K4 F4 N4 _
      have K5 := K3.trans K4
      have hR4 : s4.heap.get? R = some oR := K4 _ _ (fun hm => nomatch hm) hRL (G3 _ _ hRs)
      obtain ⟨e1, e2, e3⟩ := hk C1 C2 R
      obtain ⟨x1, us1, n1, hx1, hl1, hr1⟩ := D6.at (i := i) (by omega)
      obtain ⟨x2, hx2, hi2⟩ := hr1.at (i := j) (by rw [even_get hte (by omega)]; exact hj)
      have z1 : Pure (model prog w) ((Ar dp fr gd un).deeper (lawEnv L)) (compEnvC sc2 (cl2 R) C2 (compEnvC sc1 ((Str.ofString "j", R) :: cl1) C1 (lawEnv L))) s4.heap (.Name (Str.ofString "table") p1) (.ref lt) := pure_cellA (a := L + 6) O'.kind e1 (htz R) (hcell (by decide) K5 h6) d6
      have z2 : PureZ (model prog w) ((Ar dp fr gd un).deeper (lawEnv L)) (compEnvC sc2 (cl2 R) C2 (compEnvC sc1 ((Str.ofString "j", R) :: cl1) C1 (lawEnv L))) s4.heap (.Name (Str.ofString "i") p2) (i : Int) := by
        have := PureZ.of (pure_locG (M := model prog w) (A := (Ar dp fr gd un).deeper (lawEnv L)) (env' := compEnvC sc2 (cl2 R) C2 (compEnvC sc1 ((Str.ofString "j", R) :: cl1) C1 (lawEnv L))) (pos := p2) O'.kind hC2 (N4 _ List.mem_cons_self).1 hy e3)
        rwa [Int.zero_add] at this
      have z3 : PureZ (model prog w) ((Ar dp fr gd un).deeper (lawEnv L)) (compEnvC sc2 (cl2 R) C2 (compEnvC sc1 ((Str.ofString "j", R) :: cl1) C1 (lawEnv L))) s4.heap (.Name (Str.ofString "j") p4) (j : Int) := by
        have := PureZ.of (pure_cellA (M := model prog w) (A := (Ar dp fr gd un).deeper (lawEnv L)) (env' := compEnvC sc2 (cl2 R) C2 (compEnvC sc1 ((Str.ofString "j", R) :: cl1) C1 (lawEnv L))) (pos := p4) (a := R) O'.kind e2 (hjz R) hR4 hR)
        rwa [Int.zero_add] at this
      refine pure_at (pure_at z1 z2 (up K5 _ _ hT) (by omega) hx1) z3 (up K5 _ _ hl1) (by omega) hx2 _ _ _ rfl fun tk => ?_
      exact ⟨Same.put _ _ _, F4, fun b o _ _ e => e, ⟨x2, rfl, hi2⟩, [], rfl, News.nil, rfl⟩
    · intro D ys s4 S4 F4 z
      refine ⟨S3.trans S4, F4, G3.keepBut.trans z.keep, ⟨D, ys, ys.length, rfl, fresh_sub z.list G3, ?_⟩, z.turned⟩
      exact rows_of_items z.len z.items
  · intro D ys s4 S4 F4 z
    have k : ∀ b ∈ lps st, ∃ o, s4.heap.get? b = some o := fun b hb => by
      obtain ⟨o, e⟩ := J1.alive b hb
      exact ⟨o, z.keep b o (fun hm => nomatch hm) (C.fc.off b hb).2 e⟩
    have J2 : LTb st sc na pl s4.heap := LTb.stays _ _ (fun b hb => by obtain ⟨o, e⟩ := J1.alive b hb; rw [e]; exact z.keep b o (fun hm => nomatch hm) (C.fc.off b hb).2 e) J1.tabs
    refine ⟨rfl, _, J1.made (ps0 := []) (vData (crossOf t high wide)) C.fc (fun _ h => nomatch h) F4 z.keep S4 k J2 hx ⟨D, rfl, ys, ys.length, J1.std _ _ z.list, ?_⟩⟩
    refine grids_of_items z.len fun j v e => ?_
    obtain ⟨x, us, na', rfl, h1, h3⟩ := z.items j v e
    exact ⟨x, us, na', rfl, J1.std _ _ h1, h3.mono (std_keep fun b o hb hL e => z.keep b o (fun hm => nomatch hm) hL e)⟩
theorem st_crossed {t : List (List (List Int))} {high wide : Nat} (C : LawC w p loose mg mb dp un fr g L st sc vs ns mgB bm ob) (I : LawI g L st sc na pl ls cs m s₀ s) (ht : (6, vData t) ∈ cs) (hh : (2, vInt high) ∈ cs) (hwm : (Str.ofString "wide", vInt wide) ∈ ls) (h2 : high ≤ 1000) (w2 : wide ≤ 1000) (htl : t.length = high) (hte : Even t wide) (hx : (ls.all fun p => p.1 != Str.ofString "crossed") = true) :
    wpAny (model prog w) ((Ar dp fr gd un).deeper (lawEnv L)) (exec (lawSt 22) (lawEnv L)) (FN g L 7 (lps st) (LTb st sc na pl) ((Str.ofString "crossed", vData (crossOf t high wide)) :: ls) cs s₀) E s :=
  st_crossedG (cl1 := _) (cl2 := fun R => _) C I ht hh hwm h2 w2 htl hte hx (by with_unfolding_all rfl) (by with_unfolding_all rfl) (fun _ => rfl) (fun _ => rfl) rfl (by decide) rfl (fun _ _ => by with_unfolding_all rfl) (fun _ _ => by with_unfolding_all rfl) (fun _ => by with_unfolding_all rfl) (fun _ _ => ⟨by with_unfolding_all rfl, by decide, rfl, by decide, rfl⟩) (fun _ => by with_unfolding_all rfl) (fun _ => by with_unfolding_all rfl) (fun _ _ _ => ⟨by with_unfolding_all rfl, by with_unfolding_all rfl, by with_unfolding_all rfl⟩)
end

-- law8
/-- an element of a comprehension: a polynomial that is told elsewhere -/
def PolyAt (w : World) (ψ : Addr → Obj → Prop) (r : Addr) (c : List Int) (v : Value) (_ : Addr → Obj → Prop) : Prop := ∃ x, v = .ref x ∧ PolyOn w ψ x r c
theorem borne_polyAt (w : World) (ψ : Addr → Obj → Prop) (r : Addr) (c : List Int) : Borne (PolyAt w ψ r c) := ⟨fun _ _ _ _ h => h, fun _ _ h => ⟨[], (fun _ h => nomatch h), h⟩⟩
section
variable {prog : Program} {w : World} {p : Program} {loose : List Str} {mg mb : Str → Option Value} {dp un : Nat} {fr : Option (List Env)} {gd : Option (List Code)} {g : Heap} {L st sc na pl : Nat} {vs : List Value} {ns : List Int} {mgB : Str → Option Value} {bm : Addr} {ob : Obj} {ls : List (Str × VP)} {cs : List (Nat × VP)} {m : Str → Option Value} {s₀ s s' : Shared} {E : Value → Shared → Prop}
theorem law_mod1 {md r : Nat} (I : LawI g L st sc na pl ls cs m s₀ s) (hmm : (Str.ofString "module", vMod w md r) ∈ ls) : ModOn w (LStd L st s.heap) md r := by
  obtain ⟨v1, _, _, h1⟩ := I.loc _ hmm
  exact h1
/-- a vector of them -/
theorem ev_vector {sc' : Scope} {cl : List (Str × Addr)} {x : Str} {kx : Nat} {e1 e2 : PySem.Expr} {md r inner mm k n kk : Nat} {tr : Bool} {rows : List (List (List Int))} {ix jx : Nat → Nat} {p1 p2 p3 p4 pk q1 q2 q3 pos pt pv : Pos} {kt : Nat} (C : LawC w p loose mg mb dp un fr g L st sc vs ns mgB bm ob) (I : LawI g L st sc na pl ls cs m s₀ s)
    (hmm : (Str.ofString "module", vMod w md r) ∈ ls) (him : (Str.ofString "inner", vInt inner) ∈ ls) (hxm : (kx, vMat w md r tr rows) ∈ cs) (oM : MatOk tr rows mm k n kk) (hi2 : inner ≤ 1000) (hij : ∀ i, i < inner → ix i < mm ∧ jx i < k)
    (O : ScOk (lawEnv L) sc' (Str.ofString "k") cl) (hz : cl.lookup x = some (L + kx)) (hzk : ∀ C1, (compEnvC sc' cl C1 (lawEnv L)).kindOf x = some .cell) (hkk : ∀ C1, (compEnvC sc' cl C1 (lawEnv L)).kindOf (Str.ofString "k") = some .local) (hxd : (x == ("__debug__" : Str)) = false)
    (hix : ∀ (s2 : Shared) (i : Nat) C1, LawI g L st sc na pl ls cs m s2 s2 → i < inner → (∀ pos, ∃ tv, Pure (model prog w) ((Ar dp fr gd un).deeper (lawEnv L)) (compEnvC sc' cl C1 (lawEnv L)) s2.heap (.Name (Str.ofString "k") pos) (.int i tv)) →
      ∃ ta tb, Pure (model prog w) ((Ar dp fr gd un).deeper (lawEnv L)) (compEnvC sc' cl C1 (lawEnv L)) s2.heap e1 (.int (ix i) ta) ∧ Pure (model prog w) ((Ar dp fr gd un).deeper (lawEnv L)) (compEnvC sc' cl C1 (lawEnv L)) s2.heap e2 (.int (jx i) tb))
    (he1 : ∀ C1, starEach [e1, e2] (compEnvC sc' cl C1 (lawEnv L)) = [(false, eval e1 (compEnvC sc' cl C1 (lawEnv L))), (false, eval e2 (compEnvC sc' cl C1 (lawEnv L)))])
    {plb : Sem Bool} (hc : eval (.Call (.Attribute (.Name (Str.ofString "module") p1) (Str.ofString "vector") p2) [.ListComp (.Subscript (.Name x p3) (.Tuple [e1, e2] kt pt) p4) [⟨.Name (Str.ofString "k") pk, .Call (.Name (Str.ofString "range") q1) [.Name (Str.ofString "inner") q2] [] q3, [], 0⟩] sc' pos] [] pv) (lawEnv L) = (do
      let ov ← eval (.Name (Str.ofString "module") p1) (lawEnv L)
      standAt p2.atName
      let (f, first) ← holding [ov] (getMethod ov (Str.ofString "vector") plb)
      callWith pv f first (backTo pv (starEach [.ListComp (.Subscript (.Name x p3) (.Tuple [e1, e2] kt pt) p4) [⟨.Name (Str.ofString "k") pk, .Call (.Name (Str.ofString "range") q1) [.Name (Str.ofString "inner") q2] [] q3, [], 0⟩] sc' pos] (lawEnv L))) [])) :
    wpAny (model prog w) ((Ar dp fr gd un).deeper (lawEnv L)) (eval (.Call (.Attribute (.Name (Str.ofString "module") p1) (Str.ofString "vector") p2) [.ListComp (.Subscript (.Name x p3) (.Tuple [e1, e2] kt pt) p4) [⟨.Name (Str.ofString "k") pk, .Call (.Name (Str.ofString "range") q1) [.Name (Str.ofString "inner") q2] [] q3, [], 0⟩] sc' pos] [] pv) (lawEnv L))
      (LawE g L st sc na pl ls cs m s₀ (vMat w md r true [(List.range inner).map fun i => partOf tr rows (ix i) (jx i)])) E s := by
  have hd := C.hd
  obtain ⟨v1, ⟨rfl, Md⟩, h1⟩ := pure_loc (M := model prog w) (A := (Ar dp fr gd un).deeper (lawEnv L)) (env := lawEnv L) (x := Str.ofString "module") (pos := p1) C.fc I hmm rfl
  refine MethodCall_ (h1 _ _ s rfl fun tk => ?_) hc
  have I1 : LawI g L st sc na pl ls cs m s₀ { s with toks := tk } := I.tok rfl rfl rfl
  obtain ⟨dm, trg, hm1, hm2⟩ := id Md
  k_dflt (refine' method_inst (f := 374) I1.fr C.KG (instAt_is hm1.1 hm2.1) ?h1 ?h2 ?h3 ?h4 ?_; (case h1 => k_is); (case h2 => k_is); (case h3 => k_is); (case h4 => rfl))
  refine callWith_K (h₀ := g) C.KG (by k_is) (spliced_cons ?_)
  show wpAny _ _ (eval (.ListComp _ _ _ _) (lawEnv L)) _ _ _
  refine eval_ListComp_G I1.fr O.clos O.cell O.kind O.names O.own ?_ (fun _ => rfl)
  refine ev_range I1 (pure_built C.fc I1 C.KG C.TG (by k_is) (by boot_by_name) (by decide) rfl rfl) (pureZ_loc C.fc I1 him rfl) (fun r' s1 t1 u v G J1 hr => ?_) C.fc LTb.stays
  obtain ⟨_, _, vx, ox, hox, dox, Mx, rfl, hMx⟩ := J1.cel _ hxm
  have up : ∀ {h' : Heap}, KeepBut [] L s1.heap h' → ∀ a o, LStd L st s1.heap a o → h'.get? a = some o := fun K a o e => K a o (fun hm => nomatch hm) (by rcases e.2.1 with q | q <;> (intro e; have e' : @Eq Nat _ _ := e; omega)) e.1
  have alive : ∀ {h' : Heap}, KeepBut [] L s1.heap h' → (∀ b ∈ lps st, ∃ o, h'.get? b = some o) ∧ LTb st sc na pl h' := fun K => by
    have k : ∀ b ∈ lps st, _ = s1.heap.get? b := fun b hb => by
      obtain ⟨o, e⟩ := J1.alive b hb
      exact (K b o (fun hm => nomatch hm) (C.fc.off b hb).2 e).trans e.symm
    exact ⟨fun b hb => by obtain ⟨o, e⟩ := J1.alive b hb; exact ⟨o, (k b hb).trans e⟩, LTb.stays _ _ k J1.tabs⟩
  refine CompG.makes (ps := []) (T₀ := []) (Ob := fun _ T => T = []) (n := inner) (fun i => PolyAt w (LStd L st s1.heap) r (partOf tr rows (ix i) (jx i))) (fun j => borne_polyAt _ _ _ _) rfl J1.fr News.nil rfl rfl hr (small_one (by decide) (by decide) (by omega) (by omega)) (by rw [rangeSize_nat]; omega) (by rw [sizeLine_eq]; omega) ?_ (DoneM.eval ?_)
  · rintro i v C1 oC m2 s2 T E' hi ⟨tv, rfl⟩ _ rfl hC hy S2 K F N _
    have al := alive K
    have J2 : LawI g L st sc na pl ls cs m s2 s2 := J1.inner (ps0 := []) C.fc (fun _ h => nomatch h) F K S2 al.1 al.2
    obtain ⟨ta, tb, z1, z2⟩ := hix s2 i C1 J2 hi (fun pos => ⟨tv, by
      have := pure_locG (M := model prog w) (A := (Ar dp fr gd un).deeper (lawEnv L)) (env' := compEnvC sc' cl C1 (lawEnv L)) (pos := pos) O.kind hC (N _ List.mem_cons_self).1 hy (hkk C1)
      rwa [Int.zero_add] at this⟩)
    have z0 : Pure (model prog w) ((Ar dp fr gd un).deeper (lawEnv L)) (compEnvC sc' cl C1 (lawEnv L)) s2.heap (.Name x p3) (.ref Mx) := pure_cellA (a := L + kx) O.kind (hzk C1) hz (K _ _ (fun hm => nomatch hm) (fun e => by have := (J1.cel _ hxm).1; have e' : @Eq Nat _ _ := e; dsimp only at this; omega) hox) dox hxd
    refine Subscript_ (z0 _ _ s2 rfl fun tk0 => Tuple_ ?_)
    rw [he1]
    refine spliced_cons ?_
    show wpAny _ _ (eval e1 _) _ _ _
    refine z1 _ _ _ rfl fun tk1 => spliced_cons ?_
    show wpAny _ _ (eval e2 _) _ _ _
    refine z2 _ _ _ rfl fun tk2 => spliced_nil ?_
    refine newPair_G (s := { s2 with toks := tk2 }) F News.nil ?_
    intro D h3 G3 F3 N3 _
    obtain ⟨dM, Dm, tp, td, tt, gM1, gM2, gM3⟩ := id hMx
    have K3 : KeepBut [] L s1.heap h3 := K.trans (Grow.keepBut G3)
    k_dflt (refine' sub_K F3 C.KG (instAt_is (up K3 _ _ gM1) (up K3 _ _ gM2)) ?h1 ?h2 ?h3 ?_; (case h1 => k_is); (case h2 => k_is); (case h3 => k_is))
    refine matGet (i := ix i) (j := jx i) F3.keep C.KG C.TG hMx (up K3) (led_is N3 List.mem_cons_self) (oM.at (hij i hi).1 (hij i hi).2).1 (oM.at (hij i hi).1 (hij i hi).2).2 (by have := oM.m3; have := (hij i hi).1; omega) (by have := oM.k3; have := (hij i hi).2; omega) (by show dp + 1 + 2 < _; omega) ?_
    intro s4 x4 G4 S4 hx4
    exact ⟨(Same.put s2 _ _).trans S4, F3.keeps G4, (Grow.keepBut G3).trans G4.keepBut, ⟨x4, rfl, hx4⟩, [], rfl, News.nil, rfl⟩
  · intro D ys s4 S4 F4 z
    have al := alive z.keep
    have J4 : LawI g L st sc na pl ls cs m s₀ s4 := J1.keep C.fc F4 (fun b o h1 h2 e => z.keep b o (fun hm => nomatch hm) h2 e) S4 al.1 al.2
    refine spliced_nil ⟨C.KG.keeps J4.fr.keep, ?_⟩
    have Md4 := (law_mod1 J4 hmm)
    have hc4 : CellsOn w (LStd L st s4.heap) r ys ((List.range inner).map fun i => partOf tr rows (ix i) (jx i)) := (cells_of_items (φ := LStd L st s1.heap) z.len fun k v e => z.items k v e).mono (std_keep fun b o hb hL e => z.keep b o (fun hm => nomatch hm) hL e)
    exact modVector J4.fr.keep C.KG C.TG (Md4.mono fun a o h => h.1) (fun a o h => h.1) (J1.std _ _ z.list) hc4 (by simp; omega) (by show dp + 1 + 10 < _; omega) fun s5 M5 G5 S5 y => ⟨J4.grow C.fc LTb.stays G5 S5, M5, rfl, y.mono fun a o h => h.elim (fun h => ⟨G5 _ _ h.1, h.2⟩) (J4.std a o)⟩
end

-- law9
section
variable {prog : Program} {w : World} {p : Program} {loose : List Str} {mg mb : Str → Option Value} {dp un : Nat} {fr : Option (List Env)} {gd : Option (List Code)} {g : Heap} {L st sc na pl : Nat} {vs : List Value} {ns : List Int} {mgB : Str → Option Value} {bm : Addr} {ob : Obj} {ls : List (Str × VP)} {cs : List (Nat × VP)} {m : Str → Option Value} {s₀ s s' : Shared} {E : Value → Shared → Prop}
theorem ix_cell {env' : Env} {k i : Nat} {x : Str} {pos : Pos} (hf : env'.scope.kind = .function) (J : LawI g L st sc na pl ls cs m s₀ s) (h : (k, vInt i) ∈ cs) (hx : env'.kindOf x = some .cell) (hc : env'.cells.lookup x = some (L + k)) (hd : (x == ("__debug__" : Str)) = false := by decide) : ∃ t, Pure (model prog w) ((Ar dp fr gd un).deeper (lawEnv L)) env' s.heap (.Name x pos) (.int i t) := by
  obtain ⟨v, ⟨t, rfl⟩, hv⟩ := pure_celG (M := model prog w) (A := (Ar dp fr gd un).deeper (lawEnv L)) (pos := pos) hf J h hx hc hd
  exact ⟨t, hv⟩
theorem ix_both {M : Model} {A : Around} {env' : Env} {h : Heap} {e1 e2 : PySem.Expr} {a b : Int} (h1 : ∃ t, Pure M A env' h e1 (.int a t)) (h2 : ∃ t, Pure M A env' h e2 (.int b t)) : ∃ ta tb, Pure M A env' h e1 (.int a ta) ∧ Pure M A env' h e2 (.int b tb) := by
  obtain ⟨t1, h1⟩ := h1
  obtain ⟨t2, h2⟩ := h2
  exact ⟨t1, t2, h1, h2⟩
theorem st_row {md r inner mm k n kk i : Nat} {tr : Bool} {rows : List (List (List Int))} (C : LawC w p loose mg mb dp un fr g L st sc vs ns mgB bm ob) (I : LawI g L st sc na pl ls cs m s₀ s) (hx : (ls.all fun p => p.1 != Str.ofString "row") = true)
    (hmm : (Str.ofString "module", vMod w md r) ∈ ls) (him : (Str.ofString "inner", vInt inner) ∈ ls) (hxm : (5, vMat w md r tr rows) ∈ cs) (har : (3, vInt i) ∈ cs) (oM : MatOk tr rows mm k n kk) (hi2 : inner ≤ 1000) (hij : i < mm) (hk : inner ≤ k) :
    wpAny (model prog w) ((Ar dp fr gd un).deeper (lawEnv L)) (exec (lawSt 24) (lawEnv L)) (FN g L 7 (lps st) (LTb st sc na pl) ((Str.ofString "row", vMat w md r true [(List.range inner).map fun j => partOf tr rows i j]) :: ls) cs s₀) E s :=
  fi_local (m := m) (x := Str.ofString "row") _ C.fc LTb.stays rfl (by with_unfolding_all rfl) hx
    (ev_vector (ix := fun _ => i) (jx := fun j => j) (cl := _) C I hmm him hxm oM hi2 (fun j h => ⟨hij, Nat.lt_of_lt_of_le h hk⟩) ⟨by with_unfolding_all rfl, by decide, rfl, by decide, rfl⟩ (by with_unfolding_all rfl) (fun _ => by with_unfolding_all rfl) (fun _ => by with_unfolding_all rfl) (by decide) (fun s2 j C1 J hj hk => ix_both (ix_cell rfl J har (by with_unfolding_all rfl) (by with_unfolding_all rfl)) (hk _)) (fun _ => by rfl) (by with_unfolding_all rfl))
theorem st_column {md r inner mm k n kk i : Nat} {tr : Bool} {rows : List (List (List Int))} (C : LawC w p loose mg mb dp un fr g L st sc vs ns mgB bm ob) (I : LawI g L st sc na pl ls cs m s₀ s) (hx : (ls.all fun p => p.1 != Str.ofString "column") = true)
    (hmm : (Str.ofString "module", vMod w md r) ∈ ls) (him : (Str.ofString "inner", vInt inner) ∈ ls) (hxm : (7, vMat w md r tr rows) ∈ cs) (har : (4, vInt i) ∈ cs) (oM : MatOk tr rows mm k n kk) (hi2 : inner ≤ 1000) (hij : i < k) (hk : inner ≤ mm) :
    wpAny (model prog w) ((Ar dp fr gd un).deeper (lawEnv L)) (exec (lawSt 25) (lawEnv L)) (FN g L 7 (lps st) (LTb st sc na pl) ((Str.ofString "column", vMat w md r true [(List.range inner).map fun j => partOf tr rows j i]) :: ls) cs s₀) E s :=
  fi_local (m := m) (x := Str.ofString "column") _ C.fc LTb.stays rfl (by with_unfolding_all rfl) hx
    (ev_vector (ix := fun j => j) (jx := fun _ => i) (cl := _) C I hmm him hxm oM hi2 (fun j h => ⟨Nat.lt_of_lt_of_le h hk, hij⟩) ⟨by with_unfolding_all rfl, by decide, rfl, by decide, rfl⟩ (by with_unfolding_all rfl) (fun _ => by with_unfolding_all rfl) (fun _ => by with_unfolding_all rfl) (by decide) (fun s2 j C1 J hj hk => ix_both (hk _) (ix_cell rfl J har (by with_unfolding_all rfl) (by with_unfolding_all rfl))) (fun _ => by rfl) (by with_unfolding_all rfl))
end

-- law10
section
variable {prog : Program} {w : World} {p : Program} {loose : List Str} {mg mb : Str → Option Value} {dp un : Nat} {fr : Option (List Env)} {gd : Option (List Code)} {g : Heap} {L st sc na pl : Nat} {vs : List Value} {ns : List Int} {mgB : Str → Option Value} {bm : Addr} {ob : Obj} {ls : List (Str × VP)} {cs : List (Nat × VP)} {m : Str → Option Value} {s₀ s s' : Shared} {E : Value → Shared → Prop}
/-- «row.dot(column)» -/
theorem ev_dot {md r inner n kk : Nat} {q : Int} {ra rb : List (List (List Int))} {p1 p2 p3 p4 : Pos} {Q : Value → Shared → Prop} (C : LawC w p loose mg mb dp un fr g L st sc vs ns mgB bm ob) (I : LawI g L st sc na pl ls cs m s₀ s)
    (hmm : (Str.ofString "module", vMod w md r) ∈ ls) (hrm : (Str.ofString "ring", vRing w r q n) ∈ ls) (h1 : (Str.ofString "row", vMat w md r true ra) ∈ ls) (h2 : (Str.ofString "column", vMat w md r true rb) ∈ ls)
    (oA : MatOk true ra inner 1 n kk) (oB : MatOk true rb inner 1 n kk) (hq : 2 ≤ q) (hn : 1 ≤ n) (hn2 : n ≤ 3) (hkk : kk + kk ≤ 134217728) (hqk : Builtin.Int.intBits q ≤ kk)
    (ret : ∀ x s', LawI g L st sc na pl ls cs m s₀ s' → PolyOn w (LStd L st s'.heap) x r (prodRow q n inner (partOf (!true) ra) (partOf true rb) 0 0) → Q (.ref x) s')
    {plb : Sem Bool} (hc : eval (.Call (.Attribute (.Name (Str.ofString "row") p1) (Str.ofString "dot") p2) [.Name (Str.ofString "column") p3] [] p4) (lawEnv L) = (do
      let ov ← eval (.Name (Str.ofString "row") p1) (lawEnv L)
      standAt p2.atName
      let (f, first) ← holding [ov] (getMethod ov (Str.ofString "dot") plb)
      callWith p4 f first (backTo p4 (starEach [.Name (Str.ofString "column") p3] (lawEnv L))) [])) :
    wpAny (model prog w) ((Ar dp fr gd un).deeper (lawEnv L)) (eval (.Call (.Attribute (.Name (Str.ofString "row") p1) (Str.ofString "dot") p2) [.Name (Str.ofString "column") p3] [] p4) (lawEnv L)) Q E s := by
  have hd := C.hd
  have hu := C.hu
  obtain ⟨v1, ⟨M1, rfl, hM1⟩, z1⟩ := pure_loc (M := model prog w) (A := (Ar dp fr gd un).deeper (lawEnv L)) (env := lawEnv L) (x := Str.ofString "row") (pos := p1) C.fc I h1 rfl
  obtain ⟨v2, ⟨M2, rfl, hM2⟩, z2⟩ := pure_loc (M := model prog w) (A := (Ar dp fr gd un).deeper (lawEnv L)) (env := lawEnv L) (x := Str.ofString "column") (pos := p3) C.fc I h2 rfl
  refine MethodCall_ (z1 _ _ s rfl fun tk => ?_) hc
  have I1 : LawI g L st sc na pl ls cs m s₀ { s with toks := tk } := I.tok rfl rfl rfl
  obtain ⟨dM, Dm, tp, td, tt, gM1, gM2, gM3⟩ := id hM1
  k_dflt (refine' method_inst (f := 330) I1.fr C.KG (instAt_is gM1.1 gM2.1) ?h1 ?h2 ?h3 ?h4 ?_; (case h1 => k_is); (case h2 => k_is); (case h3 => k_is); (case h4 => rfl))
  refine callWith_K (h₀ := g) C.KG (by k_is) (spliced_cons ?_)
  show wpAny _ _ (eval (.Name _ _) (lawEnv L)) _ _ _
  refine z2 _ _ _ rfl fun tk2 => spliced_nil ⟨C.KG.keeps I1.fr.keep, ?_⟩
  have I2 : LawI g L st sc na pl ls cs m s₀ { s with toks := tk2 } := I.tok rfl rfl rfl
  obtain ⟨GH, HG, up, hid⟩ := I2.ground C.fc
  obtain ⟨tk', ps1, ps2, t1, t2, q0, q1, q2⟩ := I2.tabs
  obtain ⟨y1, y2⟩ := law_mod I2 hmm hrm
  refine matDot HG (C.KG.keeps GH) (C.TG.keeps GH) (C.MG.keeps GH) (y1.mono up) (y2.mono up) (hM1.mono up) (hM2.mono up) oA oB hq hn hn2 hkk hqk q1 (hid _ (by simp [lps])) t1 q2 (hid _ (by simp [lps])) t2 (by show dp + 1 + 40 < _; omega) (by show un + 3 + 400 < cLine; omega) ?_
  intro s5 x5 ps5 ps6 K5 P5 t5 P6 t6 S5 y5
  exact ret x5 s5 (I2.turn C K5 P5 t5 P6 t6 S5) (y5.mono I2.std)
/-- «if row.dot(column).coeffs != table[at_row][at_col]: ..» -/
theorem st_dotG {md r inner n kk i j high wide : Nat} {q : Int} {ra rb t : List (List (List Int))} {p1 p2 p3 p4 p5 p6 p7 p8 p9 p10 p11 p12 : Pos} {body : List Stmt} (C : LawC w p loose mg mb dp un fr g L st sc vs ns mgB bm ob) (I : LawI g L st sc na pl ls cs m s₀ s)
    (hmm : (Str.ofString "module", vMod w md r) ∈ ls) (hrm : (Str.ofString "ring", vRing w r q n) ∈ ls) (h1 : (Str.ofString "row", vMat w md r true ra) ∈ ls) (h2 : (Str.ofString "column", vMat w md r true rb) ∈ ls) (ht : (6, vData t) ∈ cs) (hi : (3, vInt i) ∈ cs) (hj : (4, vInt j) ∈ cs)
    (oA : MatOk true ra inner 1 n kk) (oB : MatOk true rb inner 1 n kk) (hq : 2 ≤ q) (hn : 1 ≤ n) (hn2 : n ≤ 3) (hkk : kk + kk ≤ 134217728) (hqk : Builtin.Int.intBits q ≤ kk)
    (htl : t.length = high) (hte : Even t wide) (hil : i < high) (hjl : j < wide) (h3 : high ≤ 1000) (h4 : wide ≤ 1000) (heq : prodRow q n inner (partOf (!true) ra) (partOf true rb) 0 0 = (t.getD i []).getD j [])
    {plb : Sem Bool} (hc : eval (.Call (.Attribute (.Name (Str.ofString "row") p1) (Str.ofString "dot") p2) [.Name (Str.ofString "column") p3] [] p4) (lawEnv L) = (do
      let ov ← eval (.Name (Str.ofString "row") p1) (lawEnv L)
      standAt p2.atName
      let (f, first) ← holding [ov] (getMethod ov (Str.ofString "dot") plb)
      callWith p4 f first (backTo p4 (starEach [.Name (Str.ofString "column") p3] (lawEnv L))) [])) :
    wpAny (model prog w) ((Ar dp fr gd un).deeper (lawEnv L)) (exec (.If (.Compare (.Attribute (.Call (.Attribute (.Name (Str.ofString "row") p1) (Str.ofString "dot") p2) [.Name (Str.ofString "column") p3] [] p4) (Str.ofString "coeffs") p5) [.NotEq] [.Subscript (.Subscript (.Name (Str.ofString "table") p6) (.Name (Str.ofString "at_row") p7) p8) (.Name (Str.ofString "at_col") p9) p10] p11) body [] p12) (lawEnv L)) (FN g L 7 (lps st) (LTb st sc na pl) ls cs s₀) E s := by
  have hu := C.hu
  refine wpAny_If (wpAny_isTrue_Compare1 (Attribute_any_ (ev_dot C I hmm hrm h1 h2 oA oB hq hn hn2 hkk hqk (fun x s1 I1 y => ?_) hc)))
  rw [heq] at y
  obtain ⟨dx, ax, tpx, tcx, vx, nx, hx1, hx2, hx3, ix⟩ := poly_coeffs y
  k_dflt (refine' get_own I1.fr C.KG (instAt_is hx1.1 hx2.1) ?k4 ?k5 ?k6 ?k7 ?k8 ?k9 ?_; (case k4 => k_is); (case k5 => k_is); (case k6 => k_is); (case k7 => k_is); (case k8 => k_get); (case k9 => k_handed))
  have I2 : LawI g L st sc na pl ls cs m s₀ { s1 with toks := s1.toks + 1 } := I1.tok rfl rfl rfl
  obtain ⟨v6, ⟨lt, rfl, vt, nt, hT, D6⟩, z6⟩ := pure_cel (M := model prog w) (A := (Ar dp fr gd un).deeper (lawEnv L)) (env := lawEnv L) (x := Str.ofString "table") (pos := p6) C.fc I2 ht rfl rfl
  obtain ⟨vi, ⟨ti, rfl⟩, zi⟩ := pure_cel (M := model prog w) (A := (Ar dp fr gd un).deeper (lawEnv L)) (env := lawEnv L) (x := Str.ofString "at_row") (pos := p7) C.fc I2 hi rfl rfl
  obtain ⟨vj, ⟨tj, rfl⟩, zj⟩ := pure_cel (M := model prog w) (A := (Ar dp fr gd un).deeper (lawEnv L)) (env := lawEnv L) (x := Str.ofString "at_col") (pos := p9) C.fc I2 hj rfl rfl
  obtain ⟨x1, us1, n1, hx1', hl1, hr1⟩ := D6.at (i := i) (by omega)
  obtain ⟨x2, hx2', vy, ny, hi2, iy⟩ := hr1.at (i := j) (by rw [even_get hte (by omega)]; exact hjl)
  refine pure_at (pure_at z6 (PureZ.of zi) hT.1 (by omega) hx1') (PureZ.of zj) hl1.1 (by omega) hx2' _ _ _ rfl fun tk => ?_
  have I3 : LawI g L st sc na pl ls cs m s₀ { s1 with toks := tk } := I1.tok rfl rfl rfl
  refine ke_ne_ints ⟨_, hx3.1, rfl, _, rfl⟩ ⟨_, hi2.1, rfl, _, rfl⟩ ix iy (by show un + 3 + 64 < cLine; omega) ?_
  refine wpAny_truthy_bool ?_
  rw [decide_eq_true rfl]
  exact wpAny_execs_nil ⟨rfl, m, I3⟩
theorem st_dot {md r inner n kk i j high wide : Nat} {q : Int} {ra rb t : List (List (List Int))} (C : LawC w p loose mg mb dp un fr g L st sc vs ns mgB bm ob) (I : LawI g L st sc na pl ls cs m s₀ s)
    (hmm : (Str.ofString "module", vMod w md r) ∈ ls) (hrm : (Str.ofString "ring", vRing w r q n) ∈ ls) (h1 : (Str.ofString "row", vMat w md r true ra) ∈ ls) (h2 : (Str.ofString "column", vMat w md r true rb) ∈ ls) (ht : (6, vData t) ∈ cs) (hi : (3, vInt i) ∈ cs) (hj : (4, vInt j) ∈ cs)
    (oA : MatOk true ra inner 1 n kk) (oB : MatOk true rb inner 1 n kk) (hq : 2 ≤ q) (hn : 1 ≤ n) (hn2 : n ≤ 3) (hkk : kk + kk ≤ 134217728) (hqk : Builtin.Int.intBits q ≤ kk)
    (htl : t.length = high) (hte : Even t wide) (hil : i < high) (hjl : j < wide) (h3 : high ≤ 1000) (h4 : wide ≤ 1000) (heq : prodRow q n inner (partOf (!true) ra) (partOf true rb) 0 0 = (t.getD i []).getD j []) :
    wpAny (model prog w) ((Ar dp fr gd un).deeper (lawEnv L)) (exec (lawSt 26) (lawEnv L)) (FN g L 7 (lps st) (LTb st sc na pl) ls cs s₀) E s :=
  st_dotG C I hmm hrm h1 h2 ht hi hj oA oB hq hn hn2 hkk hqk htl hte hil hjl h3 h4 heq (by with_unfolding_all rfl)
/-- «return _law_kept(..) and _law_kept(..) and _law_kept(..)» -/
theorem st_return {k1 k2 k3 : PySem.Expr} {p1 p2 : Pos} {J : Shared → Prop} (I : J s) (h : ∀ k ∈ [k1, k2, k3], ∀ s, J s → ∀ Q : Value → Shared → Prop, (∀ s', J s' → Q (.bool true) s') → wpAny (model prog w) ((Ar dp fr gd un).deeper (lawEnv L)) (eval k (lawEnv L)) Q E s) :
    wpAny (model prog w) ((Ar dp fr gd un).deeper (lawEnv L)) (exec (.Return (some (.BoolOp .And [k1, k2, k3] p1)) p2) (lawEnv L)) (fun f s' => f = .ret (.bool true) ∧ J s') E s := by
  refine wpAny_Return_some (BoolOp_and (h k1 (by simp) s I _ fun s1 I1 => wpAny_truthy_bool ?_))
  rw [if_pos rfl]
  refine BoolOp_and (h k2 (by simp) s1 I1 _ fun s2 I2 => wpAny_truthy_bool ?_)
  rw [if_pos rfl]
  exact BoolOp_one (h k3 (by simp) s2 I2 _ fun s3 I3 => ⟨rfl, I3⟩)
end

-- law11
/-- what the law's numbers are, and what is true of them -/
structure LawOk (q : Int) (n high inner other wide : Nat) (t0 t1 t2 : Bool) (a b c : List (List (List Int))) (ar ac kk : Nat) : Prop where
  q2 : 2 ≤ q
  bq : Bd 210 q
  n1 : 1 ≤ n
  n3 : n ≤ 3
  h1 : 1 ≤ high
  h2 : high ≤ 2
  i1 : 1 ≤ inner
  i3 : inner ≤ 3
  o1 : 1 ≤ other
  o3 : other ≤ 3
  w1 : 1 ≤ wide
  w2 : wide ≤ 2
  la : a.length = high
  lb : b.length = inner
  lc : c.length = other
  ea : Even a inner
  eb : Even b other
  ec : Even c wide
  ca : ∀ row ∈ a, ∀ x ∈ row, x.length = n
  cb : ∀ row ∈ b, ∀ x ∈ row, x.length = n
  cc : ∀ row ∈ c, ∀ x ∈ row, x.length = n
  sz : kk + kk ≤ 134217728
  qk : Builtin.Int.intBits q ≤ kk
  oa : MatOk t0 (storedRows t0 a inner) high inner n kk
  ob : MatOk t1 (storedRows t1 b other) inner other n kk
  oc : MatOk t2 (storedRows t2 c wide) other wide n kk
  pa : ∀ i j, i < high → j < inner → partOf t0 (storedRows t0 a inner) i j = (a.getD i []).getD j []
  pb : ∀ i j, i < inner → j < other → partOf t1 (storedRows t1 b other) i j = (b.getD i []).getD j []
  pc : ∀ i j, i < other → j < wide → partOf t2 (storedRows t2 c wide) i j = (c.getD i []).getD j []
  lt : (readOf q a b c high inner other wide n).length = high
  et : Even (readOf q a b c high inner other wide n) wide
  p1 : ∀ i j, i < high → j < wide → prodRow q n other (partOf false (prodRows q n inner high other (partOf t0 (storedRows t0 a inner)) (partOf t1 (storedRows t1 b other)))) (partOf t2 (storedRows t2 c wide)) i j = ((readOf q a b c high inner other wide n).getD i []).getD j []
  p2 : ∀ i j, i < high → j < wide → prodRow q n inner (partOf t0 (storedRows t0 a inner)) (partOf false (prodRows q n other inner wide (partOf t1 (storedRows t1 b other)) (partOf t2 (storedRows t2 c wide)))) i j = ((readOf q a b c high inner other wide n).getD i []).getD j []
  p3 : ∀ i j, i < wide → j < high → prodRow q n inner (partOf false (prodRows q n other wide inner (partOf (!t2) (storedRows t2 c wide)) (partOf (!t1) (storedRows t1 b other)))) (partOf (!t0) (storedRows t0 a inner)) i j = ((readOf q a b c high inner other wide n).getD j []).getD i []
  p4 : prodRow q n inner (partOf (!true) [(List.range inner).map fun k => partOf t0 (storedRows t0 a inner) ar k]) (partOf true [(List.range inner).map fun k => partOf false (prodRows q n other inner wide (partOf t1 (storedRows t1 b other)) (partOf t2 (storedRows t2 c wide))) k ac]) 0 0 = ((readOf q a b c high inner other wide n).getD ar []).getD ac []
  har : ar < high
  hac : ac < wide
theorem vec_ok {f : Nat → List Int} {inner n kk : Nat} (h1 : 1 ≤ inner) (h3 : inner ≤ 3) (h : ∀ k, k < inner → (f k).length = n ∧ Sz kk (f k)) : MatOk true [(List.range inner).map f] inner 1 n kk := by
  refine ⟨rfl, fun row hr => ?_, h1, h3, Nat.le_refl 1, by decide, fun row hr c hc => ?_⟩
  · rw [List.mem_singleton.mp hr]; simp
  · rw [List.mem_singleton.mp hr] at hc
    obtain ⟨k, hk, rfl⟩ := List.mem_map.mp hc
    exact h k (List.mem_range.mp hk)
theorem crossOf_get {t : List (List (List Int))} {high wide j i : Nat} (hj : j < wide) (hi : i < high) : ((crossOf t high wide).getD j []).getD i [] = (t.getD i []).getD j [] := by
  simp [crossOf, List.getD_eq_getElem?_getD, hi, hj]
theorem crossOf_even {t : List (List (List Int))} {high wide : Nat} : (crossOf t high wide).length = wide ∧ Even (crossOf t high wide) high := by
  refine ⟨by simp [crossOf], fun row hr => ?_⟩
  obtain ⟨i, _, rfl⟩ := List.mem_map.mp hr
  simp
section
variable {prog : Program} {w : World} {p : Program} {loose : List Str} {mg mb : Str → Option Value} {dp un : Nat} {fr : Option (List Env)} {gd : Option (List Code)} {g : Heap} {L st sc na pl : Nat} {vs : List Value} {ns : List Int} {mgB : Str → Option Value} {bm : Addr} {ob : Obj} {m : Str → Option Value} {s₀ s : Shared} {E : Value → Shared → Prop}
theorem lawTail {q : Int} {n high inner other wide kk : Nat} {bs : List Bool} {a b c : List (List (List Int))} (C : LawC w p loose mg mb dp un fr g L st sc vs ns mgB bm ob) (hpt : prog.given.tree = none) (hbs : 2 < bs.length) (hp : pl ≤ 900)
    (H : LawOk q n high inner other wide (bs.getD 0 false) (bs.getD 1 false) (bs.getD 2 false) a b c (modOf ns pl high) (modOf ns (pl + 1) wide) kk)
    (I : LawI g L st sc na pl [(Str.ofString "c", vData c), (Str.ofString "b", vData b), (Str.ofString "a", vData a), (Str.ofString "turns", vBools bs), (Str.ofString "wide", vInt wide), (Str.ofString "other", vInt other), (Str.ofString "inner", vInt inner), (Str.ofString "n", vInt n), (Str.ofString "q", vInt q)] [(2, vInt high), (1, vRef st)] m s₀ s) :
    wpAny (model prog w) ((Ar dp fr gd un).deeper (lawEnv L)) (execs ((stBody (topSt 14)).drop 11) (lawEnv L)) (fun f s' => f = .ret (.bool true) ∧ ∃ ls cs m', LawI g L st sc na (pl + 2) ls cs m' s₀ s') E s := by
  refine execs_next (fi_cell (m := m) (k := 3) (vInt (modOf ns pl high)) C.fc LTb.stays rfl rfl rfl (by decide) (by decide) rfl (ev_mod C I (.tail _ (.head _)) (by omega) (by have := H.h1; omega) (fun s' J => pure_cel (M := model prog w) (A := (Ar dp fr gd un).deeper (lawEnv L)) (env := lawEnv L) C.fc J (.head _) rfl rfl))) ?_
  rintro s1 ⟨m1, I1⟩
  refine execs_next (fi_cell (m := m1) (k := 4) (vInt (modOf ns (pl + 1) wide)) C.fc LTb.stays rfl rfl rfl (by decide) (by decide) rfl (ev_mod C I1 (.tail _ (.tail _ (.head _))) (by omega) (by have := H.w1; omega) (fun s' J => pure_loc (M := model prog w) (A := (Ar dp fr gd un).deeper (lawEnv L)) (env := lawEnv L) C.fc J (.tail _ (.tail _ (.tail _ (.tail _ (.head _))))) rfl))) ?_
  rintro s2 ⟨m2, I2⟩
  clear I1
  refine execs_next (fi_localJ (m := m2) (Tb' := LTb st sc na (pl + 2)) (ls := [(Str.ofString "c", vData c), (Str.ofString "b", vData b), (Str.ofString "a", vData a), (Str.ofString "turns", vBools bs), (Str.ofString "wide", vInt wide), (Str.ofString "other", vInt other), (Str.ofString "inner", vInt inner), (Str.ofString "n", vInt n), (Str.ofString "q", vInt q)]) (cs := [(4, vInt (modOf ns (pl + 1) wide)), (3, vInt (modOf ns pl high)), (2, vInt high), (1, vRef st)]) (s₀ := s₀) (J := fun s' => ∃ r m', LawI g L st sc na (pl + 2) ((Str.ofString "ring", vRing w r q n) :: [(Str.ofString "c", vData c), (Str.ofString "b", vData b), (Str.ofString "a", vData a), (Str.ofString "turns", vBools bs), (Str.ofString "wide", vInt wide), (Str.ofString "other", vInt other), (Str.ofString "inner", vInt inner), (Str.ofString "n", vInt n), (Str.ofString "q", vInt q)]) [(4, vInt (modOf ns (pl + 1) wide)), (3, vInt (modOf ns pl high)), (2, vInt high), (1, vRef st)] m' s₀ s') C.fc LTb.stays rfl rfl rfl (ev_ring C I2 (.tail _ (.tail _ (.tail _ (.tail _ (.tail _ (.tail _ (.tail _ (.head _)))))))) (.tail _ (.tail _ (.tail _ (.tail _ (.tail _ (.tail _ (.tail _ (.tail _ (.head _))))))))) (fun r s' J R => ⟨vRing w r q n, J, ⟨rfl, R⟩, fun s2 m2 J2 => ⟨r, m2, J2⟩⟩))) ?_
  rintro s3 ⟨r, m3, I3⟩
  clear I2
  refine execs_next (fi_localJ (m := m3) (Tb' := LTb st sc na (pl + 2)) (ls := [(Str.ofString "ring", vRing w r q n), (Str.ofString "c", vData c), (Str.ofString "b", vData b), (Str.ofString "a", vData a), (Str.ofString "turns", vBools bs), (Str.ofString "wide", vInt wide), (Str.ofString "other", vInt other), (Str.ofString "inner", vInt inner), (Str.ofString "n", vInt n), (Str.ofString "q", vInt q)]) (cs := [(4, vInt (modOf ns (pl + 1) wide)), (3, vInt (modOf ns pl high)), (2, vInt high), (1, vRef st)]) (s₀ := s₀) (J := fun s' => ∃ md m', LawI g L st sc na (pl + 2) ((Str.ofString "module", vMod w md r) :: [(Str.ofString "ring", vRing w r q n), (Str.ofString "c", vData c), (Str.ofString "b", vData b), (Str.ofString "a", vData a), (Str.ofString "turns", vBools bs), (Str.ofString "wide", vInt wide), (Str.ofString "other", vInt other), (Str.ofString "inner", vInt inner), (Str.ofString "n", vInt n), (Str.ofString "q", vInt q)]) [(4, vInt (modOf ns (pl + 1) wide)), (3, vInt (modOf ns pl high)), (2, vInt high), (1, vRef st)] m' s₀ s') C.fc LTb.stays rfl rfl rfl (ev_module C I3 (.head _) (fun v φ h => h.1) (fun md s' J R => ⟨vMod w md r, J, ⟨rfl, R⟩, fun s2 m2 J2 => ⟨md, m2, J2⟩⟩))) ?_
  rintro s4 ⟨md, m4, I4⟩
  clear I3
  refine execs_next (fi_cell (m := m4) (k := 5) (vMat w md r (bs.getD 0 false) (storedRows (bs.getD 0 false) a inner)) C.fc LTb.stays rfl rfl rfl (by decide) (by decide) rfl (ev_stored (j := 0) C I4 (.tail _ (.head _)) (.head _) (.tail _ (.tail _ (.tail _ (.tail _ (.tail _ (.head _)))))) (.tail _ (.tail _ (.tail _ (.tail _ (.head _))))) rfl (by decide) H.la H.ea H.ca (by have := H.h1; omega) (by have := H.h2; omega) (by have := H.i1; omega) (by have := H.i3; omega) H.n3 (by omega) (by decide))) ?_
  rintro s5 ⟨m5, I5⟩
  clear I4
  refine execs_next (fi_local (m := m5) (x := Str.ofString "second") (vMat w md r (bs.getD 1 false) (storedRows (bs.getD 1 false) b other)) C.fc LTb.stays rfl rfl rfl (ev_stored (j := 1) C I5 (.tail _ (.head _)) (.head _) (.tail _ (.tail _ (.tail _ (.tail _ (.tail _ (.head _)))))) (.tail _ (.tail _ (.tail _ (.head _)))) rfl (by decide) H.lb H.eb H.cb (by have := H.i1; omega) (by have := H.i3; omega) (by have := H.o1; omega) (by have := H.o3; omega) H.n3 (by omega) (by decide))) ?_
  rintro s6 ⟨m6, I6⟩
  clear I5
  refine execs_next (fi_local (m := m6) (x := Str.ofString "third") (vMat w md r (bs.getD 2 false) (storedRows (bs.getD 2 false) c wide)) C.fc LTb.stays rfl rfl rfl (ev_stored (j := 2) C I6 (.tail _ (.tail _ (.head _))) (.tail _ (.head _)) (.tail _ (.tail _ (.tail _ (.tail _ (.tail _ (.tail _ (.head _))))))) (.tail _ (.tail _ (.tail _ (.head _)))) rfl (by decide) H.lc H.ec H.cc (by have := H.o1; omega) (by have := H.o3; omega) (by have := H.w1; omega) (by have := H.w2; omega) H.n3 (by omega) (by decide))) ?_
  rintro s7 ⟨m7, I7⟩
  clear I6
  refine execs_next (fi_cell (m := m7) (k := 6) (vData (readOf q a b c high inner other wide n)) C.fc LTb.stays rfl rfl rfl (by decide) (by decide) rfl (ev_read C hpt I7 (.tail _ (.tail _ (.tail _ (.tail _ (.tail _ (.tail _ (.head _))))))) (.tail _ (.tail _ (.tail _ (.tail _ (.tail _ (.head _)))))) (.tail _ (.tail _ (.tail _ (.tail _ (.head _))))) (.tail _ (.tail _ (.tail _ (.tail _ (.tail _ (.tail _ (.tail _ (.tail _ (.tail _ (.tail _ (.tail _ (.tail _ (.head _))))))))))))) (.tail _ (.tail _ (.tail _ (.tail _ (.tail _ (.tail _ (.tail _ (.tail _ (.tail _ (.tail _ (.tail _ (.head _)))))))))))) H.la H.lb H.lc H.ea H.eb H.ec H.ca H.cb H.cc H.h1 H.h2 H.i1 H.i3 H.o1 H.o3 H.w1 H.w2 H.n1 H.n3 H.q2 H.bq)) ?_
  rintro s8 ⟨m8, I8⟩
  clear I7
  refine execs_next (fi_cell (m := m8) (k := 7) (vMat w md r false (prodRows q n other inner wide (partOf (bs.getD 1 false) (storedRows (bs.getD 1 false) b other)) (partOf (bs.getD 2 false) (storedRows (bs.getD 2 false) c wide)))) C.fc LTb.stays rfl rfl rfl (by decide) (by decide) rfl (wpAny_mono (em_mul C (.tail _ (.tail _ (.head _))) (.tail _ (.tail _ (.tail _ (.head _)))) (em_pure I8 (pure_loc (M := model prog w) (A := (Ar dp fr gd un).deeper (lawEnv L)) (env := lawEnv L) C.fc I8 (.tail _ (.head _)) rfl)) (fun _ J => em_pure J (pure_loc (M := model prog w) (A := (Ar dp fr gd un).deeper (lawEnv L)) (env := lawEnv L) C.fc J (.head _) rfl)) H.ob H.oc H.q2 H.n1 H.n3 H.sz) (fun _ _ h => ⟨h.1, h.2.2⟩) fun _ _ e => e)) ?_
  rintro s9 ⟨m9, I9⟩
  clear I8
  refine execs_next (st_kept C I9 (fun _ K => em_mul C (.tail _ (.tail _ (.head _))) (.tail _ (.tail _ (.tail _ (.head _)))) (em_mul C (.tail _ (.tail _ (.head _))) (.tail _ (.tail _ (.tail _ (.head _)))) (em_pure K (pure_cel (M := model prog w) (A := (Ar dp fr gd un).deeper (lawEnv L)) (env := lawEnv L) C.fc K (.tail _ (.tail _ (.head _))) rfl rfl)) (fun _ J => em_pure J (pure_loc (M := model prog w) (A := (Ar dp fr gd un).deeper (lawEnv L)) (env := lawEnv L) C.fc J (.tail _ (.head _)) rfl)) H.oa H.ob H.q2 H.n1 H.n3 H.sz) (fun _ J => em_pure J (pure_loc (M := model prog w) (A := (Ar dp fr gd un).deeper (lawEnv L)) (env := lawEnv L) C.fc J (.head _) rfl)) (prodRows_ok H.q2 H.qk H.n1 H.i1 H.h1 (by have := H.h2; omega) H.o1 (by have := H.o3; omega)) H.oc H.q2 H.n1 H.n3 H.sz) (prodRows_ok H.q2 H.qk H.n1 H.o1 H.h1 (by have := H.h2; omega) H.w1 (by have := H.w2; omega)) (fun i j hi hj => (prodRows_part hi hj).trans (H.p1 i j hi hj)) (fun _ J => pure_cel (M := model prog w) (A := (Ar dp fr gd un).deeper (lawEnv L)) (env := lawEnv L) C.fc J (.tail _ (.head _)) rfl rfl) H.lt H.et) ?_
  rintro s10 ⟨m10, I10⟩
  clear I9
  refine execs_next (st_kept C I10 (fun _ K => em_mul C (.tail _ (.tail _ (.head _))) (.tail _ (.tail _ (.tail _ (.head _)))) (em_pure K (pure_cel (M := model prog w) (A := (Ar dp fr gd un).deeper (lawEnv L)) (env := lawEnv L) C.fc K (.tail _ (.tail _ (.head _))) rfl rfl)) (fun _ J => em_pure J (pure_cel (M := model prog w) (A := (Ar dp fr gd un).deeper (lawEnv L)) (env := lawEnv L) C.fc J (.head _) rfl rfl)) H.oa (prodRows_ok H.q2 H.qk H.n1 H.o1 H.i1 (by have := H.i3; omega) H.w1 (by have := H.w2; omega)) H.q2 H.n1 H.n3 H.sz) (prodRows_ok H.q2 H.qk H.n1 H.i1 H.h1 (by have := H.h2; omega) H.w1 (by have := H.w2; omega)) (fun i j hi hj => (prodRows_part hi hj).trans (H.p2 i j hi hj)) (fun _ J => pure_cel (M := model prog w) (A := (Ar dp fr gd un).deeper (lawEnv L)) (env := lawEnv L) C.fc J (.tail _ (.head _)) rfl rfl) H.lt H.et) ?_
  rintro s11 ⟨m11, I11⟩
  clear I10
  refine execs_next (st_crossed C I11 (.tail _ (.head _)) (.tail _ (.tail _ (.tail _ (.tail _ (.tail _ (.head _)))))) (.tail _ (.tail _ (.tail _ (.tail _ (.tail _ (.tail _ (.tail _ (.tail _ (.head _))))))))) (by have := H.h2; omega) (by have := H.w2; omega) H.lt H.et rfl) ?_
  rintro s12 ⟨m12, I12⟩
  clear I11
  refine execs_next (st_kept C I12 (fun _ K => em_mul C (.tail _ (.tail _ (.tail _ (.head _)))) (.tail _ (.tail _ (.tail _ (.tail _ (.head _))))) (em_mul C (.tail _ (.tail _ (.tail _ (.head _)))) (.tail _ (.tail _ (.tail _ (.tail _ (.head _))))) (em_T C (.tail _ (.tail _ (.tail _ (.head _)))) (.tail _ (.tail _ (.tail _ (.tail _ (.head _))))) (em_pure K (pure_loc (M := model prog w) (A := (Ar dp fr gd un).deeper (lawEnv L)) (env := lawEnv L) C.fc K (.tail _ (.head _)) rfl)) H.oc.even (by split <;> (have := H.oc.m3; have := H.oc.k3; omega)) H.oc.pos.1 H.oc.pos.2) (fun _ J => em_T C (.tail _ (.tail _ (.tail _ (.head _)))) (.tail _ (.tail _ (.tail _ (.tail _ (.head _))))) (em_pure J (pure_loc (M := model prog w) (A := (Ar dp fr gd un).deeper (lawEnv L)) (env := lawEnv L) C.fc J (.tail _ (.tail _ (.head _))) rfl)) H.ob.even (by split <;> (have := H.ob.m3; have := H.ob.k3; omega)) H.ob.pos.1 H.ob.pos.2) H.oc.turned H.ob.turned H.q2 H.n1 H.n3 H.sz) (fun _ J => em_T C (.tail _ (.tail _ (.tail _ (.head _)))) (.tail _ (.tail _ (.tail _ (.tail _ (.head _))))) (em_pure J (pure_cel (M := model prog w) (A := (Ar dp fr gd un).deeper (lawEnv L)) (env := lawEnv L) C.fc J (.tail _ (.tail _ (.head _))) rfl rfl)) H.oa.even (by split <;> (have := H.oa.m3; have := H.oa.k3; omega)) H.oa.pos.1 H.oa.pos.2) (prodRows_ok H.q2 H.qk H.n1 H.o1 H.w1 (by have := H.w2; omega) H.i1 (by have := H.i3; omega)) H.oa.turned H.q2 H.n1 H.n3 H.sz) (prodRows_ok H.q2 H.qk H.n1 H.i1 H.w1 (by have := H.w2; omega) H.h1 (by have := H.h2; omega)) (fun i j hi hj => ((prodRows_part hi hj).trans (H.p3 i j hi hj)).trans (crossOf_get hi hj).symm) (fun _ J => pure_loc (M := model prog w) (A := (Ar dp fr gd un).deeper (lawEnv L)) (env := lawEnv L) C.fc J (.head _) rfl) crossOf_even.1 crossOf_even.2) ?_
  rintro s13 ⟨m13, I13⟩
  clear I12
  refine execs_next (st_row C I13 rfl (.tail _ (.tail _ (.tail _ (.head _)))) (.tail _ (.tail _ (.tail _ (.tail _ (.tail _ (.tail _ (.tail _ (.tail _ (.tail _ (.tail _ (.tail _ (.head _)))))))))))) (.tail _ (.tail _ (.head _))) (.tail _ (.tail _ (.tail _ (.tail _ (.head _))))) H.oa (by have := H.i3; omega) H.har (Nat.le_refl _)) ?_
  rintro s14 ⟨m14, I14⟩
  clear I13
  refine execs_next (st_column C I14 rfl (.tail _ (.tail _ (.tail _ (.tail _ (.head _))))) (.tail _ (.tail _ (.tail _ (.tail _ (.tail _ (.tail _ (.tail _ (.tail _ (.tail _ (.tail _ (.tail _ (.tail _ (.head _))))))))))))) (.head _) (.tail _ (.tail _ (.tail _ (.head _)))) (prodRows_ok H.q2 H.qk H.n1 H.o1 H.i1 (by have := H.i3; omega) H.w1 (by have := H.w2; omega)) (by have := H.i3; omega) H.hac (Nat.le_refl _)) ?_
  rintro s15 ⟨m15, I15⟩
  clear I14
  refine execs_next (st_dot C I15 (.tail _ (.tail _ (.tail _ (.tail _ (.tail _ (.head _)))))) (.tail _ (.tail _ (.tail _ (.tail _ (.tail _ (.tail _ (.head _))))))) (.tail _ (.head _)) (.head _) (.tail _ (.head _)) (.tail _ (.tail _ (.tail _ (.tail _ (.head _))))) (.tail _ (.tail _ (.tail _ (.head _)))) (vec_ok H.i1 H.i3 fun k hk => H.oa.cell H.har hk) (vec_ok H.i1 H.i3 fun k hk => ((prodRows_ok H.q2 H.qk H.n1 H.o1 H.i1 (by have := H.i3; omega) H.w1 (by have := H.w2; omega)) : MatOk false (prodRows q n other inner wide (partOf (bs.getD 1 false) (storedRows (bs.getD 1 false) b other)) (partOf (bs.getD 2 false) (storedRows (bs.getD 2 false) c wide))) inner wide n kk).cell hk H.hac) H.q2 H.n1 H.n3 H.sz H.qk H.lt H.et H.har H.hac (by have := H.h2; omega) (by have := H.w2; omega) H.p4) ?_
  rintro s16 ⟨m16, I16⟩
  clear I15
  refine wpAny_execs_cons (wpAny_mono (st_return (J := fun s' => LawI g L st sc na (pl + 2) _ _ m16 s₀ s') I16 ?_) (fun f s' h => ?_) fun _ _ e => e)
  · intro k hk s J Q ret
    simp only [List.mem_cons, List.not_mem_nil, or_false] at hk
    rcases hk with rfl | rfl | rfl
    · exact ev_kept C J (fun s K => wpAny_mono (em_pure K (pure_cel (M := model prog w) (A := (Ar dp fr gd un).deeper (lawEnv L)) (env := lawEnv L) C.fc K (.tail _ (.tail _ (.head _))) rfl rfl)) (fun v s1 h => by
        obtain ⟨I1, _, M, rfl, hM⟩ := h
        exact ⟨I1, M, _, _, rfl, hM, H.oa, H.pa⟩) fun _ _ e => e) (fun _ K => pure_loc (M := model prog w) (A := (Ar dp fr gd un).deeper (lawEnv L)) (env := lawEnv L) C.fc K (.tail _ (.tail _ (.tail _ (.tail _ (.tail _ (.tail _ (.tail _ (.tail _ (.tail _ (.head _)))))))))) rfl) H.la H.ea ret
    · exact ev_kept C J (fun s K => wpAny_mono (em_pure K (pure_loc (M := model prog w) (A := (Ar dp fr gd un).deeper (lawEnv L)) (env := lawEnv L) C.fc K (.tail _ (.tail _ (.tail _ (.tail _ (.head _))))) rfl)) (fun v s1 h => by
        obtain ⟨I1, _, M, rfl, hM⟩ := h
        exact ⟨I1, M, _, _, rfl, hM, H.ob, H.pb⟩) fun _ _ e => e) (fun _ K => pure_loc (M := model prog w) (A := (Ar dp fr gd un).deeper (lawEnv L)) (env := lawEnv L) C.fc K (.tail _ (.tail _ (.tail _ (.tail _ (.tail _ (.tail _ (.tail _ (.tail _ (.head _))))))))) rfl) H.lb H.eb ret
    · exact ev_kept C J (fun s K => wpAny_mono (em_pure K (pure_loc (M := model prog w) (A := (Ar dp fr gd un).deeper (lawEnv L)) (env := lawEnv L) C.fc K (.tail _ (.tail _ (.tail _ (.head _)))) rfl)) (fun v s1 h => by
        obtain ⟨I1, _, M, rfl, hM⟩ := h
        exact ⟨I1, M, _, _, rfl, hM, H.oc, H.pc⟩) fun _ _ e => e) (fun _ K => pure_loc (M := model prog w) (A := (Ar dp fr gd un).deeper (lawEnv L)) (env := lawEnv L) C.fc K (.tail _ (.tail _ (.tail _ (.tail _ (.tail _ (.tail _ (.tail _ (.head _)))))))) rfl) H.lc H.ec ret
  · obtain ⟨rfl, J⟩ := h
    exact ⟨rfl, _, _, _, J⟩
end

-- law12
/-- the law's numbers by what is drawn -/
abbrev nOf (ns : List Int) : Nat := smallOf ns 1 3
abbrev hiOf (ns : List Int) : Nat := smallOf ns 2 2
abbrev inOf (ns : List Int) : Nat := smallOf ns 3 3
abbrev otOf (ns : List Int) : Nat := smallOf ns 4 3
abbrev wiOf (ns : List Int) : Nat := smallOf ns 5 2
abbrev pB (ns : List Int) : Nat := 9 + hiOf ns * (inOf ns * nOf ns)
abbrev pC (ns : List Int) : Nat := pB ns + inOf ns * (otOf ns * nOf ns)
abbrev pR (ns : List Int) : Nat := pC ns + otOf ns * (wiOf ns * nOf ns)
abbrev gA (ns : List Int) : List (List (List Int)) := drawGrid ns 9 (hiOf ns) (inOf ns) (nOf ns)
abbrev gB (ns : List Int) : List (List (List Int)) := drawGrid ns (pB ns) (inOf ns) (otOf ns) (nOf ns)
abbrev gC (ns : List Int) : List (List (List Int)) := drawGrid ns (pC ns) (otOf ns) (wiOf ns) (nOf ns)
/-- all that the plain law must show -/
def LawAll (ns : List Int) : Prop := ∃ kk, LawOk (qOf ns) (nOf ns) (hiOf ns) (inOf ns) (otOf ns) (wiOf ns) ((turnsOf ns 6 3).getD 0 false) ((turnsOf ns 6 3).getD 1 false) ((turnsOf ns 6 3).getD 2 false) (gA ns) (gB ns) (gC ns) (modOf ns (pR ns) (hiOf ns)) (modOf ns (pR ns + 1) (wiOf ns)) kk
section
variable {prog : Program} {w : World} {p : Program} {loose : List Str} {mg mb : Str → Option Value} {dp un : Nat} {fr : Option (List Env)} {gd : Option (List Code)} {g : Heap} {L st sc na pl : Nat} {vs : List Value} {ns : List Int} {mgB : Str → Option Value} {bm : Addr} {ob : Obj} {m : Str → Option Value} {s₀ s : Shared} {E : Value → Shared → Prop}
theorem lawHead (C : LawC w p loose mg mb dp un fr g L st sc vs ns mgB bm ob) (hpt : prog.given.tree = none) (HA : LawAll ns) (I : LawI g L st sc na 0 [] [(1, vRef st)] m s₀ s) :
    wpAny (model prog w) ((Ar dp fr gd un).deeper (lawEnv L)) (execs ((stBody (topSt 14)).drop 1) (lawEnv L)) (fun f s' => f = .ret (.bool true) ∧ ∃ pl' ls cs m', LawI g L st sc na pl' ls cs m' s₀ s') E s := by
  obtain ⟨kk, H⟩ := HA
  have b1 : hiOf ns * (inOf ns * nOf ns) ≤ 2 * (3 * 3) := Nat.mul_le_mul H.h2 (Nat.mul_le_mul H.i3 H.n3)
  have b2 : inOf ns * (otOf ns * nOf ns) ≤ 3 * (3 * 3) := Nat.mul_le_mul H.i3 (Nat.mul_le_mul H.o3 H.n3)
  have b3 : otOf ns * (wiOf ns * nOf ns) ≤ 3 * (2 * 3) := Nat.mul_le_mul H.o3 (Nat.mul_le_mul H.w2 H.n3)
  have l1 : pB ns ≤ 27 := by show 9 + hiOf ns * (inOf ns * nOf ns) ≤ 27; omega
  have l2 : pC ns ≤ 54 := by show pB ns + inOf ns * (otOf ns * nOf ns) ≤ 54; omega
  have l3 : pR ns ≤ 72 := by show pC ns + otOf ns * (wiOf ns * nOf ns) ≤ 72; omega
  have hh3 : hiOf ns ≤ 3 := by have := H.h2; omega
  have hw3 : wiOf ns ≤ 3 := by have := H.w2; omega
  refine execs_next (st_q C I) ?_
  rintro s1 ⟨m1, I1⟩
  refine execs_next (st_n C I1) ?_
  rintro s2 ⟨m2, I2⟩
  clear I1
  refine execs_next (fi_cell (m := m2) (k := 2) (vInt (hiOf ns)) C.fc LTb.stays rfl rfl rfl (by decide) (by decide) rfl (ev_small (k := 2) C I2 (.head _) (by decide) (by decide))) ?_
  rintro s3 ⟨m3, I3⟩
  clear I2
  refine execs_next (fi_local (m := m3) (x := Str.ofString "inner") (vInt (inOf ns)) C.fc LTb.stays rfl rfl rfl (ev_small (k := 3) C I3 (.tail _ (.head _)) (by decide) (by decide))) ?_
  rintro s4 ⟨m4, I4⟩
  clear I3
  refine execs_next (fi_local (m := m4) (x := Str.ofString "other") (vInt (otOf ns)) C.fc LTb.stays rfl rfl rfl (ev_small (k := 3) C I4 (.tail _ (.head _)) (by decide) (by decide))) ?_
  rintro s5 ⟨m5, I5⟩
  clear I4
  refine execs_next (fi_local (m := m5) (x := Str.ofString "wide") (vInt (wiOf ns)) C.fc LTb.stays rfl rfl rfl (ev_small (k := 2) C I5 (.tail _ (.head _)) (by decide) (by decide))) ?_
  rintro s6 ⟨m6, I6⟩
  clear I5
  refine execs_next (st_turns C I6 (.tail _ (.head _)) rfl) ?_
  rintro s7 ⟨m7, I7⟩
  clear I6
  refine execs_next (fi_local (m := m7) (x := Str.ofString "a") (vData (gA ns)) C.fc LTb.stays rfl rfl rfl (ev_grid C I7 (.tail _ (.head _)) (.tail _ (.tail _ (.tail _ (.tail _ (.head _))))) (by decide) hh3 H.i3 H.n3 (pure_cel (M := model prog w) (A := (Ar dp fr gd un).deeper (lawEnv L)) (env := lawEnv L) C.fc I7 (.head _) rfl rfl) (pure_loc (M := model prog w) (A := (Ar dp fr gd un).deeper (lawEnv L)) (env := lawEnv L) C.fc I7 (.tail _ (.tail _ (.tail _ (.head _)))) rfl))) ?_
  rintro s8 ⟨m8, I8⟩
  clear I7
  refine execs_next (fi_local (m := m8) (x := Str.ofString "b") (vData (gB ns)) C.fc LTb.stays rfl rfl rfl (ev_grid C I8 (.tail _ (.head _)) (.tail _ (.tail _ (.tail _ (.tail _ (.tail _ (.head _)))))) (by omega) H.i3 H.o3 H.n3 (pure_loc (M := model prog w) (A := (Ar dp fr gd un).deeper (lawEnv L)) (env := lawEnv L) C.fc I8 (.tail _ (.tail _ (.tail _ (.tail _ (.head _))))) rfl) (pure_loc (M := model prog w) (A := (Ar dp fr gd un).deeper (lawEnv L)) (env := lawEnv L) C.fc I8 (.tail _ (.tail _ (.tail _ (.head _)))) rfl))) ?_
  rintro s9 ⟨m9, I9⟩
  clear I8
  refine execs_next (fi_local (m := m9) (x := Str.ofString "c") (vData (gC ns)) C.fc LTb.stays rfl rfl rfl (ev_grid C I9 (.tail _ (.head _)) (.tail _ (.tail _ (.tail _ (.tail _ (.tail _ (.tail _ (.head _))))))) (by omega) H.o3 hw3 H.n3 (pure_loc (M := model prog w) (A := (Ar dp fr gd un).deeper (lawEnv L)) (env := lawEnv L) C.fc I9 (.tail _ (.tail _ (.tail _ (.tail _ (.head _))))) rfl) (pure_loc (M := model prog w) (A := (Ar dp fr gd un).deeper (lawEnv L)) (env := lawEnv L) C.fc I9 (.tail _ (.tail _ (.tail _ (.head _)))) rfl))) ?_
  rintro s10 ⟨m10, I10⟩
  clear I9
  refine wpAny_mono (lawTail C hpt (bs := turnsOf ns 6 3) (by simp [turnsOf]) (by omega) H I10) (fun f s' h => ?_) fun _ _ e => e
  obtain ⟨h1, ls, cs, m', h2⟩ := h
  exact ⟨h1, _, ls, cs, m', h2⟩
end

-- law13
/-- the tables alone -/
def LT0 (h : Heap) : Prop := ∃ ps1 ps2, TriplesOk (Array.toList ps1) ∧ TriplesOk (Array.toList ps2) ∧ h.get? 362 = some (tabObj ps1) ∧ h.get? 320 = some (tabObj ps2)
theorem LT0.stays : Stays [362, 320] LT0 := fun _ _ k ⟨ps1, ps2, h1, h2, h4, h5⟩ => ⟨ps1, ps2, h1, h2, (k _ (by simp)).trans h4, (k _ (by simp)).trans h5⟩
section
variable {prog : Program} {w : World} {A : Around} {g : Heap} {L sc : Nat} {m : Str → Option Value} {s₀ s : Shared} {E : Value → Shared → Prop}
/-- «state = [script, 0]» -/
theorem st_stateG {px p1 p2 p3 spos : Pos} {k3 : Nat} (C : FrC (lawEnv L) g L 7 [362, 320]) (I : FI g L 7 [362, 320] LT0 [(Str.ofString "script", vRef sc)] [] m s₀ s) (hs : swapsWith (.List [.Name (Str.ofString "script") p1, .Constant (.int 0) k3 p2] p3) (some (.Name (Str.ofString "state") px)) spos.line (lawEnv L) = pure false)
    (he : starEach [.Name (Str.ofString "script") p1, .Constant (.int 0) k3 p2] (lawEnv L) = [(false, eval (.Name (Str.ofString "script") p1) (lawEnv L)), (false, eval (.Constant (.int 0) k3 p2) (lawEnv L))]) :
    wpAny (model prog w) A (exec (.Assign [.Name (Str.ofString "state") px] (.List [.Name (Str.ofString "script") p1, .Constant (.int 0) k3 p2] p3) spos) (lawEnv L))
      (fun f s' => f = .next ∧ ∃ st na m', FrC (lawEnv L) g L 7 (lps st) ∧ (st ≠ 362 ∧ st ≠ 320) ∧ LawI g L st sc na 0 [] [(1, vRef st)] m' s₀ s') E s := by
  obtain ⟨v, rfl, hv⟩ := pure_loc (M := model prog w) (A := A) (env := lawEnv L) (x := Str.ofString "script") (pos := p1) C I (.head _) rfl
  refine wpAny_Assign_Name (List_ ?_) hs
  rw [he]
  refine spliced_cons ?_
  show wpAny _ _ (eval (.Name _ _) (lawEnv L)) _ _ _
  refine hv _ _ s rfl fun tk => spliced_cons ?_
  show wpAny _ _ (eval (.Constant (.int 0) k3 p2) (lawEnv L)) _ _ _
  refine wpAny_Constant_int (spliced_nil (wpAny_newObj_type ?_ (by show (2 : Nat) ≤ sizeLine; rw [sizeLine_eq]; decide)))
  generalize ht : ({ s with toks := tk } : Shared).toks = t0
  have hD : s.heap.get? s.heap.objs.size = none := Heap.get?_none_of_le (Nat.le_refl _)
  have C' := C.cons I hD
  have J1 := I.into (oI := stateObj sc 0 t0 0) (s' := { s with heap := s.heap.push (stateObj sc 0 t0 0) }) C hD (I.fr.push _) (grow_push _ _) (Same.put s _ s.toks) (Heap.get?_push_size _ rfl) LT0.stays
  obtain ⟨o, u, h3, h4⟩ := J1.all 0 (by decide)
  refine wpAny_storeName_cell (c := L + 1) C.fn rfl rfl ⟨o, h3, h4⟩ fun h' hc' hs' => ⟨rfl, s.heap.objs.size, 0, m, C', ⟨fun q => ?_, fun q => ?_⟩, ?_⟩
  · obtain ⟨o, e⟩ := I.alive 362 (by simp); rw [← q, hD] at e; cases e
  · obtain ⟨o, e⟩ := I.alive 320 (by simp); rw [← q, hD] at e; cases e
  · have J2 := J1.putC (k := 1) (v := .ref s.heap.objs.size) (vRef s.heap.objs.size) C' hc' hs' rfl (by decide) (by decide) rfl (Stays.cons LT0.stays)
    have J3 : LawI g L s.heap.objs.size sc 0 0 [(Str.ofString "script", vRef sc)] [(1, vRef s.heap.objs.size)] m s₀ _ := J2.conv (fun _ => Iff.rfl) fun ⟨⟨ps1, ps2, t1, t2, q1, q2⟩, q0⟩ => ⟨t0, ps1, ps2, t1, t2, q0, q1, q2⟩
    exact (J3.sub (ls' := []) (fun _ h => nomatch h) (fun _ h => h)).tok rfl rfl rfl
theorem st_state (C : FrC (lawEnv L) g L 7 [362, 320]) (I : FI g L 7 [362, 320] LT0 [(Str.ofString "script", vRef sc)] [] m s₀ s) :
    wpAny (model prog w) A (exec (lawSt 0) (lawEnv L)) (fun f s' => f = .next ∧ ∃ st na m', FrC (lawEnv L) g L 7 (lps st) ∧ (st ≠ 362 ∧ st ≠ 320) ∧ LawI g L st sc na 0 [] [(1, vRef st)] m' s₀ s') E s :=
  st_stateG C I (by rfl) (by rfl)
end
theorem lawRun {prog : Program} {w : World} {p : Program} {loose : List Str} {mg mb : Str → Option Value}
    {dp un : Nat} {fr : Option (List Env)} {gd : Option (List Code)} {h₀ : Heap} {s : Shared} {Q E : Value → Shared → Prop} {l : Nat} {vs : List Value} {ns : List Int} {mgB : Str → Option Value} {bm : Addr} {ob : Obj} {ps1 ps2 : Array Value}
    (hsub : Grow h₀ s.heap) (KX : (heapK w.params).In h₀) (T : TopRead p loose mg mb h₀) (MB : BMod h₀ mainGlobals mgB bm ob) (NS : h₀.NoSeer) (hfr : ∃ l, fr = some l) (hpt : prog.given.tree = none)
    (hl : h₀.IsList l vs.toArray) (hi : IntsAre vs ns) (hlen : ns.length ≤ 63) (HA : LawAll ns)
    (hP1 : s.heap.get? 362 = some (tabObj ps1)) (hP10 : h₀.get? 362 = none) (htr1 : TriplesOk ps1.toList)
    (hP2 : s.heap.get? 320 = some (tabObj ps2)) (hP20 : h₀.get? 320 = none) (htr2 : TriplesOk ps2.toList)
    (hd : dp + 120 < recursionLimit) (hu : un + 600 < cLine)
    (ret : ∀ s' ps1 ps2, Grow h₀ s'.heap → (∀ b o, b ≠ 362 → b ≠ 320 → s.heap.get? b = some o → s'.heap.get? b = some o) → s'.heap.get? 362 = some (tabObj ps1) → s'.heap.get? 320 = some (tabObj ps2) → Same s s' → Q (.bool true) s') :
    wpAny (model prog w) (Ar dp fr gd un) (call (.ref 422) [.ref l]) Q E s := by
  refine wpAny_call ?_
  k_dflt (refine' enterHC [(362, tabObj ps1), (320, tabObj ps2)] ?k1 ?k3 ?k5 (fun q hq => ?_) ?k6 ?k7 ?k8 ?k9 ?kB ?kD ?_ ?c2 ?c3 ?c4)
  case k1 => k_asm
  case k3 => k_asm
  case k5 => k_asm
  case k6 => k_is
  case k7 => k_is
  case k8 => ktr_room
  case k9 => exact BindsTo.of_eq rfl
  case kB => exact rfl
  case kD => decide +kernel
  case c2 => exact rfl
  case c3 => exact rfl
  case c4 => exact rfl
  · rcases List.mem_cons.mp hq with rfl | hq
    · exact ⟨hP1, hP10⟩
    · rw [List.mem_singleton.mp hq]; exact ⟨hP2, hP20⟩
  intro g L' h₁ tk cells G1 G2 G3 G4 G5 KG TG F N Y lo hi2
  obtain ⟨o1, o2, o3, o4, o5, o6, o7, hE, d1, d2, d3, d4, d5, d6, d7⟩ := PyProof.Rows.kc_seven Y
  subst hE
  clear Y
  have C0 : FrC (lawEnv L') g L' 7 [362, 320] := ⟨rfl, rfl, rfl, F.above, fun b hb => by
    rcases List.mem_cons.mp hb with rfl | hb
    · exact ⟨G4 _ List.mem_cons_self, .inl (lo _ List.mem_cons_self)⟩
    · rw [List.mem_singleton.mp hb]; exact ⟨G4 _ (List.mem_cons_of_mem _ List.mem_cons_self), .inl (lo _ (List.mem_cons_of_mem _ List.mem_cons_self))⟩⟩
  have n1 := (N (362, tabObj ps1) (by simp)).1
  have n2 := (N (320, tabObj ps2) (by simp)).1
  have I0 : FI g L' 7 [362, 320] LT0 [(Str.ofString "script", vRef l)] [] _ s { s with heap := h₁, toks := tk } := ⟨Same.put _ _ _, F, fun x hx => by rw [List.mem_singleton.mp hx]; exact ⟨.ref l, rfl, rfl⟩, (fun _ h => nomatch h), fun k hk => by
      have : k = 0 ∨ k = 1 ∨ k = 2 ∨ k = 3 ∨ k = 4 ∨ k = 5 ∨ k = 6 := by omega
      rcases this with rfl | rfl | rfl | rfl | rfl | rfl | rfl
      · exact ⟨_, _, (N _ (List.mem_append_left _ (.tail _ (.tail _ (.tail _ (.tail _ (.tail _ (.tail _ (.head _))))))))).1, d7⟩
      · exact ⟨_, _, (N _ (List.mem_append_left _ (.tail _ (.tail _ (.tail _ (.tail _ (.tail _ (.head _)))))))).1, d6⟩
      · exact ⟨_, _, (N _ (List.mem_append_left _ (.tail _ (.tail _ (.tail _ (.tail _ (.head _))))))).1, d5⟩
      · exact ⟨_, _, (N _ (List.mem_append_left _ (.tail _ (.tail _ (.tail _ (.head _)))))).1, d4⟩
      · exact ⟨_, _, (N _ (List.mem_append_left _ (.tail _ (.tail _ (.head _))))).1, d3⟩
      · exact ⟨_, _, (N _ (List.mem_append_left _ (.tail _ (.head _)))).1, d2⟩
      · exact ⟨_, _, (N _ (List.mem_append_left _ (.head _))).1, d1⟩, fun b hb => by
      rcases List.mem_cons.mp hb with rfl | hb
      · exact ⟨_, n1⟩
      · rw [List.mem_singleton.mp hb]; exact ⟨_, n2⟩, ps1, ps2, htr1, htr2, n1, n2⟩
  refine execs_next (st_state C0 I0) ?_
  rintro s1 ⟨st, na, m1, fc, ne, I1⟩
  have C : LawC w p loose mg mb dp un fr g L' st l vs ns mgB bm ob := ⟨KG, TG, MB.keeps G1, NS.keeps G1, hfr, isl_up' hl G1, hi, hlen, hd, hu, fc, (fc.ps st List.mem_cons_self).1, ne⟩
  refine wpAny_mono (lawHead C hpt HA I1) (fun f s' h => ?_) fun _ _ e => e
  obtain ⟨rfl, pl', ls, cs, m', J⟩ := h
  obtain ⟨tk', ps1', ps2', t1, t2, q0, q1, q2⟩ := J.tabs
  exact ret s' ps1' ps2' (G1.trans J.fr.keep) (fun b o h1 h2 e => J.fr.keep b o (G3 b o e fun hm => by
    rcases List.mem_cons.mp hm with q | hm
    · exact h1 q
    · exact h2 (List.mem_singleton.mp hm))) q1 q2 J.same

-- mathm
-- finite sums
def sm : Nat → (Nat → Int) → Int
  | 0, _ => 0
  | n + 1, f => sm n f + f n
theorem sm_congr {f g : Nat → Int} : ∀ {n : Nat}, (∀ i, i < n → f i = g i) → sm n f = sm n g
  | 0, _ => rfl
  | n + 1, h => by rw [sm, sm, sm_congr fun i hi => h i (by omega), h n (by omega)]
theorem sm_zero : ∀ {n : Nat} {f : Nat → Int}, (∀ i, i < n → f i = 0) → sm n f = 0
  | 0, _, _ => rfl
  | n + 1, f, h => by rw [sm, sm_zero fun i hi => h i (by omega), h n (by omega), Int.add_zero]
theorem sm_only {f : Nat → Int} {i : Nat} : ∀ {n : Nat}, i < n → (∀ j, j < n → j ≠ i → f j = 0) → sm n f = f i
  | n + 1, hi, h => by
    rw [sm]
    by_cases e : i = n
    · subst e
      rw [sm_zero fun j hj => h j (by omega) (by omega), Int.zero_add]
    · rw [sm_only (by omega) fun j hj hne => h j (by omega) hne, h n (by omega) (by omega), Int.add_zero]
theorem sm_add {f g : Nat → Int} : ∀ n : Nat, sm n (fun i => f i + g i) = sm n f + sm n g
  | 0 => rfl
  | n + 1 => by rw [sm, sm, sm, sm_add n]; omega
theorem sm_mul {f : Nat → Int} (c : Int) : ∀ n : Nat, sm n (fun i => c * f i) = c * sm n f
  | 0 => by simp [sm]
  | n + 1 => by rw [sm, sm, sm_mul c n, Int.mul_add]
theorem sm_mulr {f : Nat → Int} (c : Int) : ∀ n : Nat, sm n (fun i => f i * c) = sm n f * c
  | 0 => by simp [sm]
  | n + 1 => by rw [sm, sm, sm_mulr c n, Int.add_mul]
theorem sm_comm {f : Nat → Nat → Int} (k : Nat) : ∀ n : Nat, sm n (fun i => sm k (fun j => f i j)) = sm k (fun j => sm n (fun i => f i j))
  | 0 => (sm_zero fun _ _ => rfl).symm
  | n + 1 => by rw [sm, sm_comm k n, ← sm_add]; exact sm_congr fun _ _ => rfl
theorem sm_mod {q : Int} {f g : Nat → Int} : ∀ {n : Nat}, (∀ i, i < n → f i % q = g i % q) → sm n f % q = sm n g % q
  | 0, _ => rfl
  | n + 1, h => by rw [sm, sm, Int.add_emod, sm_mod fun i hi => h i (by omega), h n (by omega), ← Int.add_emod]
theorem sm_le {f : Nat → Int} {M : Int} : ∀ {n : Nat}, (∀ i, i < n → f i ≤ M) → sm n f ≤ (n : Int) * M
  | 0, _ => by simp [sm]
  | n + 1, h => by
    have h1 := sm_le (n := n) fun i hi => h i (by omega)
    have h2 := h n (by omega)
    rw [sm, Int.natCast_succ, Int.add_mul, Int.one_mul]
    omega
theorem sm_nonneg {f : Nat → Int} : ∀ {n : Nat}, (∀ i, i < n → 0 ≤ f i) → 0 ≤ sm n f
  | 0, _ => Int.le_refl 0
  | n + 1, h => by
    have h1 := sm_nonneg (n := n) fun i hi => h i (by omega)
    have h2 := h n (by omega)
    rw [sm]; omega
theorem sum_l {m : Nat} {f : Nat → Int} {y z : Int} : sm m f * y * z = sm m fun i => f i * y * z := by rw [sm_mulr (f := fun i => f i * y), sm_mulr]
theorem sum_m {m : Nat} {f : Nat → Int} {x z : Int} : x * sm m f * z = sm m fun i => x * f i * z := by rw [sm_mulr (f := fun i => x * f i), sm_mul]
theorem sum_r {m : Nat} {f : Nat → Int} {x : Int} : x * sm m f = sm m fun i => x * f i := (sm_mul _ _).symm
-- the digits of a number that is a sum of terms
inductive Dig (B : Int) : Int → (Nat → Int) → Int → Prop
  | zero : Dig B 0 (fun _ => 0) 0
  | term (c : Int) (e : Nat) (hc : 0 ≤ c) : Dig B (c * B ^ e) (fun s => if s = e then c else 0) c
  | add {N M : Int} {d f : Nat → Int} {t u : Int} : Dig B N d t → Dig B M f u → Dig B (N + M) (fun s => d s + f s) (t + u)
theorem Dig.sum {B : Int} {N t : Nat → Int} {d : Nat → Nat → Int} : ∀ {n : Nat}, (∀ i, i < n → Dig B (N i) (d i) (t i)) → Dig B (sm n N) (fun s => sm n fun i => d i s) (sm n t)
  | 0, _ => .zero
  | n + 1, h => (Dig.sum fun i hi => h i (by omega)).add (h n (by omega))
theorem Dig.parts {B : Int} (hB : 0 < B) {N t : Int} {d : Nat → Int} (x : Dig B N d t) (s : Nat) : ∃ lo hi, N = lo + B ^ s * (d s + B * hi) ∧ 0 ≤ lo ∧ lo * B ≤ t * B ^ s ∧ 0 ≤ d s ∧ d s ≤ t := by
  have hp : ∀ k : Nat, 0 < B ^ k := fun k => Int.pow_pos hB
  induction x with
  | zero => exact ⟨0, 0, by simp, by simp, by simp, by simp, by simp⟩
  | term c e hc =>
    by_cases h1 : s = e
    · subst h1
      have := hp s
      refine ⟨0, 0, by simp [Int.mul_comm], Int.le_refl 0, ?_, by simp [hc], by simp⟩
      rw [Int.zero_mul]
      exact Int.mul_nonneg hc (Int.le_of_lt this)
    by_cases h2 : e < s
    · refine ⟨c * B ^ e, 0, by simp [h1], Int.mul_nonneg hc (Int.le_of_lt (hp e)), ?_, by simp [h1], by simp [h1, hc]⟩
      obtain ⟨k, rfl⟩ : ∃ k, s = e + 1 + k := ⟨s - (e + 1), by omega⟩
      rw [Int.pow_add, Int.pow_succ, Int.mul_assoc, ← Int.mul_assoc c]
      rw [← Int.mul_assoc]
      have h3 : 1 ≤ B ^ k := hp k
      have h4 : 0 ≤ c * (B ^ e * B) := Int.mul_nonneg hc (Int.mul_nonneg (Int.le_of_lt (hp e)) (Int.le_of_lt hB))
      have := Int.mul_le_mul_of_nonneg_left h3 h4
      rw [Int.mul_one] at this
      simpa [Int.mul_assoc] using this
    · obtain ⟨k, rfl⟩ : ∃ k, e = s + 1 + k := ⟨e - (s + 1), by omega⟩
      refine ⟨0, c * B ^ k, ?_, Int.le_refl 0, ?_, by simp [h1], by simp [h1, hc]⟩
      · dsimp only; rw [if_neg h1, Int.pow_add, Int.pow_succ]; grind
      · rw [Int.zero_mul]; exact Int.mul_nonneg hc (Int.le_of_lt (hp s))
  | add _ _ ih1 ih2 =>
    obtain ⟨l1, h1, e1, a1, b1, c1, d1⟩ := ih1
    obtain ⟨l2, h2, e2, a2, b2, c2, d2⟩ := ih2
    refine ⟨l1 + l2, h1 + h2, ?_, by omega, ?_, ?_, ?_⟩
    · rw [e1, e2]; grind
    · rw [Int.add_mul, Int.add_mul]; omega
    · dsimp only; omega
    · dsimp only; omega
theorem Dig.at {B : Int} (hB : 0 < B) {N t : Int} {d : Nat → Int} (x : Dig B N d t) (ht : t < B) (s : Nat) : N / B ^ s % B = d s := by
  obtain ⟨lo, hi, e, a, b, c, d'⟩ := x.parts hB s
  have hp : 0 < B ^ s := Int.pow_pos hB
  have hl : lo < B ^ s := by
    have h1 : t * B ^ s < B * B ^ s := Int.mul_lt_mul_of_pos_right ht hp
    have h2 : lo * B < B ^ s * B := by rw [Int.mul_comm (B ^ s)]; omega
    exact Int.lt_of_mul_lt_mul_right h2 (Int.le_of_lt hB)
  rw [e, Int.add_mul_ediv_left _ _ (by omega), Int.ediv_eq_zero_of_lt a hl, Int.zero_add, Int.add_mul_emod_self_left]
  exact Int.emod_eq_of_lt c (by omega)
theorem digit_cut {B : Int} (hB : 0 < B) (x : Int) {f a : Nat} (ha : a < f) : x % B ^ f / B ^ a % B = x / B ^ a % B := by
  obtain ⟨k, rfl⟩ : ∃ k, f = a + (k + 1) := ⟨f - (a + 1), by omega⟩
  have hp : 0 < B ^ a := Int.pow_pos hB
  have e : x = x % B ^ (a + (k + 1)) + B ^ a * (B ^ (k + 1) * (x / B ^ (a + (k + 1)))) := by
    rw [← Int.mul_assoc, ← Int.pow_add, Int.emod_add_mul_ediv]
  have : x / B ^ a = x % B ^ (a + (k + 1)) / B ^ a + B * (B ^ k * (x / B ^ (a + (k + 1)))) := by
    conv => lhs; rw [e]
    rw [Int.add_mul_ediv_left _ _ (by omega), Int.pow_succ, Int.mul_comm (B ^ k), Int.mul_assoc]
  rw [this, Int.add_mul_emod_self_left]
theorem div_div {B : Int} (hB : 0 < B) (x : Int) (a b : Nat) : x / B ^ a / B ^ b = x / B ^ (a + b) := by
  rw [Int.ediv_ediv_of_nonneg (Int.le_of_lt (Int.pow_pos hB)), ← Int.pow_add]
-- polynomials modulo X^n + 1, n ≤ 3
def sgn (n e t : Nat) : Int := if e % n = t then (if e / n % 2 = 0 then 1 else -1) else 0
def pmul (n : Nat) (x y : Nat → Int) (t : Nat) : Int := sm n fun u => sm n fun v => sgn n (u + v) t * (x u * y v)
def ptri (n : Nat) (x y z : Nat → Int) (t : Nat) : Int := sm n fun u => sm n fun v => sm n fun w => sgn n (u + v + w) t * (x u * y v * z w)
def conv (n : Nat) (x y z : Nat → Int) (a : Nat) : Int := sm n fun u => sm n fun v => sm n fun w => if u + v + w = a then x u * y v * z w else 0
def peval (n : Nat) (x : Nat → Int) (B : Int) : Int := sm n fun u => x u * B ^ u
theorem sgn_sum {n e f t : Nat} (hn : 1 ≤ n) (h3 : n ≤ 3) (ht : t < n) (he : e < 2 * n) (hf : f < n) : (sm n fun k => sgn n (k + f) t * sgn n e k) = sgn n (e + f) t := by
  have h : ∀ n, n < 4 → ∀ t, t < n → ∀ e, e < 2 * n → ∀ f, f < n → (sm n fun k => sgn n (k + f) t * sgn n e k) = sgn n (e + f) t := by decide +kernel
  exact h n (by omega) t ht e he f hf
theorem pmul_left {n t : Nat} (hn : 1 ≤ n) (h3 : n ≤ 3) (ht : t < n) (x y z : Nat → Int) : pmul n (pmul n x y) z t = ptri n x y z t := by
  have e : pmul n (pmul n x y) z t = sm n fun k => sm n fun u => sm n fun v => sm n fun w => sgn n (k + w) t * sgn n (u + v) k * (x u * y v * z w) :=
    sm_congr fun k _ => (sm_congr fun w _ => by
      show sgn n (k + w) t * ((sm n fun u => sm n fun v => sgn n (u + v) k * (x u * y v)) * z w) = sm n fun u => sm n fun v => sgn n (k + w) t * sgn n (u + v) k * (x u * y v * z w)
      rw [← sm_mulr, ← sm_mul]
      refine sm_congr fun u _ => ?_
      rw [← sm_mulr, ← sm_mul]
      exact sm_congr fun v _ => by rw [Int.mul_assoc (sgn n (k + w) t), Int.mul_assoc (sgn n (u + v) k)]).trans ((sm_comm n n).trans (sm_congr fun u _ => sm_comm n n))
  rw [e, sm_comm]
  refine sm_congr fun u hu => ?_
  rw [sm_comm]
  refine sm_congr fun v hv => ?_
  rw [sm_comm]
  refine sm_congr fun w hw => ?_
  rw [sm_mulr, sgn_sum hn h3 ht (by omega) hw]
theorem pmul_comm {n t : Nat} (x y : Nat → Int) : pmul n x y t = pmul n y x t := by
  unfold pmul
  rw [sm_comm]
  exact sm_congr fun u _ => sm_congr fun v _ => by rw [Nat.add_comm v u, Int.mul_comm (x v)]
theorem mod_mul {a b a' b' q : Int} (h1 : a % q = a' % q) (h2 : b % q = b' % q) : a * b % q = a' * b' % q := by
  rw [Int.mul_emod, h1, h2, ← Int.mul_emod]
theorem pmul_congr {n t : Nat} {q : Int} {x y x' y' : Nat → Int} (hx : ∀ u, u < n → x u % q = x' u % q) (hy : ∀ u, u < n → y u % q = y' u % q) : pmul n x y t % q = pmul n x' y' t % q :=
  sm_mod fun u hu => sm_mod fun v hv => mod_mul rfl (mod_mul (hx u hu) (hy v hv))
theorem pmul_sum {n t k : Nat} {x : Nat → Nat → Int} {y : Nat → Int} : pmul n (fun u => sm k fun i => x i u) y t = sm k fun i => pmul n (x i) y t :=
  (sm_congr fun u _ => (sm_congr fun v _ => (by rw [sm_mul, sm_mulr] : sgn n (u + v) t * ((sm k fun i => x i u) * y v) = sm k fun i => sgn n (u + v) t * (x i u * y v))).trans (sm_comm _ _)).trans (sm_comm _ _)
theorem ptri_congr {n t : Nat} {q : Int} {x y z x' y' z' : Nat → Int} (hx : ∀ u, u < n → x u % q = x' u % q) (hy : ∀ u, u < n → y u % q = y' u % q) (hz : ∀ u, u < n → z u % q = z' u % q) : ptri n x y z t % q = ptri n x' y' z' t % q :=
  sm_mod fun u hu => sm_mod fun v hv => sm_mod fun w hw => mod_mul rfl (mod_mul (mod_mul (hx u hu) (hy v hv)) (hz w hw))
theorem conv_swap {n m : Nat} (hm : 3 * n - 2 ≤ m) (g : Nat → Int) (x y z : Nat → Int) : (sm m fun a => g a * conv n x y z a) = sm n fun u => sm n fun v => sm n fun w => g (u + v + w) * (x u * y v * z w) := by
  have e : (sm m fun a => g a * conv n x y z a) = sm m fun a => sm n fun u => sm n fun v => sm n fun w => g a * (if u + v + w = a then x u * y v * z w else 0) :=
    sm_congr fun a _ => by
      rw [conv, ← sm_mul]
      refine sm_congr fun u _ => ?_
      rw [← sm_mul]
      exact sm_congr fun v _ => (sm_mul _ _).symm
  rw [e, sm_comm]
  refine sm_congr fun u hu => ?_
  rw [sm_comm]
  refine sm_congr fun v hv => ?_
  rw [sm_comm]
  refine sm_congr fun w hw => ?_
  rw [sm_only (i := u + v + w) (by omega) fun a _ hne => by rw [if_neg (Ne.symm hne), Int.mul_zero], if_pos rfl]
theorem conv_tri {n t : Nat} (x y z : Nat → Int) : (sm (3 * n - 2) fun a => sgn n a t * conv n x y z a) = ptri n x y z t := conv_swap (Nat.le_refl _) (fun a => sgn n a t) x y z
theorem conv_eval {n : Nat} (x y z : Nat → Int) (B : Int) : (sm (3 * n - 2) fun a => conv n x y z a * B ^ a) = peval n x B * peval n y B * peval n z B := by
  rw [sm_congr (g := fun a => B ^ a * conv n x y z a) fun a _ => Int.mul_comm .., conv_swap (Nat.le_refl _)]
  unfold peval
  refine Eq.symm (sum_l.trans (sm_congr fun u _ => sum_m.trans (sm_congr fun v _ => sum_r.trans (sm_congr fun w _ => ?_))))
  rw [Int.pow_add, Int.pow_add]
  simp only [Int.mul_comm, Int.mul_left_comm, Int.mul_assoc]
theorem conv_nonneg {n a : Nat} {x y z : Nat → Int} (hx : ∀ u, 0 ≤ x u) (hy : ∀ u, 0 ≤ y u) (hz : ∀ u, 0 ≤ z u) : 0 ≤ conv n x y z a :=
  sm_nonneg fun u _ => sm_nonneg fun v _ => sm_nonneg fun w _ => by
    split
    · exact Int.mul_nonneg (Int.mul_nonneg (hx u) (hy v)) (hz w)
    · exact Int.le_refl 0

-- mathb
theorem radix {m a b a' b' : Nat} (h : a + m * b = a' + m * b') (h1 : a < m) (h2 : a' < m) : a = a' ∧ b = b' := by
  have e1 := congrArg (· % m) h
  simp only [Nat.add_mul_mod_self_left, Nat.mod_eq_of_lt h1, Nat.mod_eq_of_lt h2] at e1
  subst e1
  exact ⟨rfl, Nat.eq_of_mul_eq_mul_left (by omega : 0 < m) (Nat.add_left_cancel h)⟩
/-- the place of a product of three parts -/
def expo (f O I wide inner other i k k' l l' j : Nat) : Nat := (i * (f * O * I * wide) + k * (f * O)) + ((inner - 1 - k') * (f * O) + l * f) + ((other - 1 - l') * f + j * (f * O * I))
theorem expo_form (f O I wide inner other i k k' l l' j a : Nat) : a + expo f O I wide inner other i k k' l l' j = a + f * ((l + (other - 1 - l')) + O * ((k + (inner - 1 - k')) + I * (j + wide * i))) := by
  unfold expo
  generalize inner - 1 - k' = x
  generalize other - 1 - l' = y
  grind
/-- where the digits of a part of the answer stand -/
def spot (f O I wide inner other i j a : Nat) : Nat := ((inner - 1) * (f * O) + (other - 1) * f) + f * O * I * (i * wide + j) + a
theorem spot_form (f O I wide inner other i j a : Nat) : spot f O I wide inner other i j a = a + f * ((other - 1) + O * ((inner - 1) + I * (j + wide * i))) := by
  unfold spot
  generalize inner - 1 = x
  generalize other - 1 = y
  grind
theorem dg1 {o l : Nat} (h : l < o) : o - 1 < 2 * o - 1 := by omega
theorem dg2 {o l l' : Nat} (h : l < o) (h' : l' < o) : l + (o - 1 - l') < 2 * o - 1 := by omega
theorem dg3 {o l l' : Nat} (h' : l' < o) (e : o - 1 = l + (o - 1 - l')) : l' = l := by omega
theorem dg4 {o l : Nat} (h : l < o) : l + (o - 1 - l) = o - 1 := Nat.add_sub_of_le (Nat.le_sub_one_of_lt h)
theorem spot_iff {f wide inner other i k k' l l' j i' j' a a' : Nat} (ha : a < f) (ha' : a' < f) (hk : k < inner) (hk' : k' < inner) (hl : l < other) (hl' : l' < other) (hj : j < wide) (hj' : j' < wide) :
    spot f (2 * other - 1) (2 * inner - 1) wide inner other i j a = a' + expo f (2 * other - 1) (2 * inner - 1) wide inner other i' k k' l l' j' ↔ i' = i ∧ k' = k ∧ l' = l ∧ j' = j ∧ a' = a := by
  rw [spot_form, expo_form]
  constructor
  · intro h
    obtain ⟨h1, h⟩ := radix h ha ha'
    obtain ⟨h2, h⟩ := radix h (dg1 hl) (dg2 hl hl')
    obtain ⟨h3, h⟩ := radix h (dg1 hk) (dg2 hk hk')
    obtain ⟨h4, h⟩ := radix h hj hj'
    exact ⟨h.symm, dg3 hk' h3, dg3 hl' h2, h4.symm, h1.symm⟩
  · rintro ⟨rfl, rfl, rfl, rfl, rfl⟩
    rw [dg4 hl', dg4 hk']
section
variable {B q : Int} {n high inner other wide f O I : Nat} {a b c : Nat → Nat → Nat → Int}
/-- the product of the three numbers -/
def three (B : Int) (n high inner other wide f O I : Nat) (a b c : Nat → Nat → Nat → Int) : Int :=
  (sm high fun i => sm inner fun k => peval n (a i k) B * B ^ (i * (f * O * I * wide) + k * (f * O))) * (sm inner fun k => sm other fun l => peval n (b k l) B * B ^ ((inner - 1 - k) * (f * O) + l * f)) * (sm other fun l => sm wide fun j => peval n (c l j) B * B ^ ((other - 1 - l) * f + j * (f * O * I)))
theorem three_dig (ha : ∀ i k u, 0 ≤ a i k u) (hb : ∀ i k u, 0 ≤ b i k u) (hc : ∀ i k u, 0 ≤ c i k u) :
    Dig B (three B n high inner other wide f O I a b c)
      (fun s => sm high fun i => sm inner fun k => sm inner fun k' => sm other fun l => sm other fun l' => sm wide fun j => sm (3 * n - 2) fun t => if s = t + expo f O I wide inner other i k k' l l' j then conv n (a i k) (b k' l) (c l' j) t else 0)
      (sm high fun i => sm inner fun k => sm inner fun k' => sm other fun l => sm other fun l' => sm wide fun j => peval n (a i k) 1 * peval n (b k' l) 1 * peval n (c l' j) 1) := by
  have e : three B n high inner other wide f O I a b c = sm high fun i => sm inner fun k => sm inner fun k' => sm other fun l => sm other fun l' => sm wide fun j => sm (3 * n - 2) fun t => conv n (a i k) (b k' l) (c l' j) t * B ^ (t + expo f O I wide inner other i k k' l l' j) := by
    unfold three
    refine sum_l.trans (sm_congr fun i _ => sum_l.trans (sm_congr fun k _ => sum_m.trans (sm_congr fun k' _ => sum_m.trans (sm_congr fun l _ => sum_r.trans (sm_congr fun l' _ => sum_r.trans (sm_congr fun j _ => ?_))))))
    rw [sm_congr (g := fun t => conv n (a i k) (b k' l) (c l' j) t * B ^ t * B ^ expo f O I wide inner other i k k' l l' j) fun t _ => by rw [Int.pow_add, Int.mul_assoc], sm_mulr, conv_eval]
    unfold expo
    generalize i * (f * O * I * wide) + k * (f * O) = e1
    generalize (inner - 1 - k') * (f * O) + l * f = e2
    generalize (other - 1 - l') * f + j * (f * O * I) = e3
    rw [Int.pow_add, Int.pow_add]
    grind
  rw [e]
  refine Dig.sum fun i _ => Dig.sum fun k _ => Dig.sum fun k' _ => Dig.sum fun l _ => Dig.sum fun l' _ => Dig.sum fun j _ => ?_
  have h := conv_eval (n := n) (a i k) (b k' l) (c l' j) 1
  rw [← h]
  refine Dig.sum fun t _ => ?_
  rw [Int.one_pow, Int.mul_one]
  exact .term _ _ (conv_nonneg (ha i k) (hb k' l) (hc l' j))
theorem spot_digit {i j t : Nat} (hi : i < high) (hj : j < wide) (ht : t < 3 * n - 2) :
    (sm high fun i' => sm inner fun k => sm inner fun k' => sm other fun l => sm other fun l' => sm wide fun j' => sm (3 * n - 2) fun t' => if spot (3 * n - 2) (2 * other - 1) (2 * inner - 1) wide inner other i j t = t' + expo (3 * n - 2) (2 * other - 1) (2 * inner - 1) wide inner other i' k k' l l' j' then conv n (a i' k) (b k' l) (c l' j') t' else 0)
      = sm inner fun k => sm other fun l => conv n (a i k) (b k l) (c l j) t := by
  rw [sm_only hi fun i' _ hne => sm_zero fun k hk => sm_zero fun k' hk' => sm_zero fun l hl => sm_zero fun l' hl' => sm_zero fun j' hj' => sm_zero fun t' ht' => if_neg fun h => hne ((spot_iff ht ht' hk hk' hl hl' hj hj').mp h).1]
  refine sm_congr fun k hk => ?_
  rw [sm_only hk fun k' hk' hne => sm_zero fun l hl => sm_zero fun l' hl' => sm_zero fun j' hj' => sm_zero fun t' ht' => if_neg fun h => hne ((spot_iff ht ht' hk hk' hl hl' hj hj').mp h).2.1]
  refine sm_congr fun l hl => ?_
  rw [sm_only hl fun l' hl' hne => sm_zero fun j' hj' => sm_zero fun t' ht' => if_neg fun h => hne ((spot_iff ht ht' hk hk hl hl' hj hj').mp h).2.2.1]
  rw [sm_only hj fun j' hj' hne => sm_zero fun t' ht' => if_neg fun h => hne ((spot_iff ht ht' hk hk hl hl hj hj').mp h).2.2.2.1]
  rw [sm_only ht fun t' ht' hne => if_neg fun h => hne ((spot_iff ht ht' hk hk hl hl hj hj).mp h).2.2.2.2]
  exact if_pos ((spot_iff ht ht hk hk hl hl hj hj).mpr ⟨rfl, rfl, rfl, rfl, rfl⟩)
theorem peval_one {x : Nat → Int} (hx : ∀ u, 0 ≤ x u) (hq : ∀ u, x u ≤ q) : 0 ≤ peval n x 1 ∧ peval n x 1 ≤ n * q := by
  unfold peval
  constructor
  · exact sm_nonneg fun u _ => by rw [Int.one_pow, Int.mul_one]; exact hx u
  · exact sm_le fun u _ => by rw [Int.one_pow, Int.mul_one]; exact hq u
theorem three_tot (hq : 0 ≤ q) (ha : ∀ i k u, 0 ≤ a i k u ∧ a i k u ≤ q) (hb : ∀ i k u, 0 ≤ b i k u ∧ b i k u ≤ q) (hc : ∀ i k u, 0 ≤ c i k u ∧ c i k u ≤ q) :
    (sm high fun i => sm inner fun k => sm inner fun k' => sm other fun l => sm other fun l' => sm wide fun j => peval n (a i k) 1 * peval n (b k' l) 1 * peval n (c l' j) 1) ≤ q ^ 3 * ((high : Int) * inner * n) * ((inner : Int) * other * n) * ((other : Int) * wide * n) := by
  have h : ∀ i k k' l l' j, peval n (a i k) 1 * peval n (b k' l) 1 * peval n (c l' j) 1 ≤ (n * q) * (n * q) * (n * q) := fun i k k' l l' j => by
    obtain ⟨a1, a2⟩ := peval_one (n := n) (q := q) (fun u => (ha i k u).1) fun u => (ha i k u).2
    obtain ⟨b1, b2⟩ := peval_one (n := n) (q := q) (fun u => (hb k' l u).1) fun u => (hb k' l u).2
    obtain ⟨c1, c2⟩ := peval_one (n := n) (q := q) (fun u => (hc l' j u).1) fun u => (hc l' j u).2
    have hz : 0 ≤ (n : Int) * q := Int.mul_nonneg (by omega) hq
    exact Int.mul_le_mul (Int.mul_le_mul a2 b2 b1 hz) c2 c1 (Int.mul_nonneg hz hz)
  refine Int.le_trans (sm_le fun i _ => sm_le fun k _ => sm_le fun k' _ => sm_le fun l _ => sm_le fun l' _ => sm_le fun j _ => h i k k' l l' j) (Int.le_of_eq ?_)
  grind
end

-- mathc
theorem ptri_rot {n t : Nat} (x y z : Nat → Int) : ptri n y z x t = ptri n x y z t := by
  unfold ptri
  refine (sm_congr fun u _ => sm_comm n n).trans ((sm_comm n n).trans (sm_congr fun w _ => sm_congr fun u _ => sm_congr fun v _ => ?_))
  rw [show u + v + w = w + u + v by omega, Int.mul_comm (y u * z v), Int.mul_assoc (x w)]
theorem pmul_right {n t : Nat} (hn : 1 ≤ n) (h3 : n ≤ 3) (ht : t < n) (x y z : Nat → Int) : pmul n x (pmul n y z) t = ptri n x y z t := by
  rw [pmul_comm, pmul_left hn h3 ht, ptri_rot]
def co (l : List Int) (u : Nat) : Int := l.getD u 0
theorem len1 {l : List Int} (h : l.length = 1) : l = [co l 0] := by
  match l, h with
  | [a], _ => rfl
theorem len2 {l : List Int} (h : l.length = 2) : l = [co l 0, co l 1] := by
  match l, h with
  | [a, b], _ => rfl
theorem len3 {l : List Int} (h : l.length = 3) : l = [co l 0, co l 1, co l 2] := by
  match l, h with
  | [a, b, c], _ => rfl
theorem co_ext {x y : List Int} {n : Nat} (hx : x.length = n) (hy : y.length = n) (h : ∀ t, t < n → co x t = co y t) : x = y := by
  refine List.ext_getElem (by rw [hx, hy]) fun i h1 h2 => ?_
  have := h i (by omega)
  simpa [co, List.getD_eq_getElem?_getD, h1, h2] using this
-- explicit forms
theorem sraw1 (a e : Int) : schoolRaw [a] [e] 1 = [a*e] := by
  simp [schoolRaw, rowOut, rowIn, addAt, List.range, List.range.loop]
theorem sraw2 (a b e f : Int) : schoolRaw [a,b] [e,f] 2 = [a*e - b*f, a*f + b*e] := by
  simp [schoolRaw, rowOut, rowIn, backOut, backIn, addAt, List.range, List.range.loop]
  grind
theorem sraw3 (a b c e f g : Int) : schoolRaw [a,b,c] [e,f,g] 3 = [a*e - b*g - c*f, a*f + b*e - c*g, a*g + b*f + c*e] := by
  simp [schoolRaw, rowOut, rowIn, backOut, backIn, addAt, List.range, List.range.loop]
  grind
theorem school_co {n t : Nat} {q : Int} {x y : List Int} (hn : 1 ≤ n) (h3 : n ≤ 3) (ht : t < n) (hx : x.length = n) (hy : y.length = n) : co (schoolOf q n x y) t = pmul n (co x) (co y) t % q := by
  have : n = 1 ∨ n = 2 ∨ n = 3 := by omega
  rcases this with rfl | rfl | rfl
  · obtain rfl : t = 0 := by omega
    rw [schoolOf]
    conv => lhs; rw [len1 hx, len1 hy, sraw1]
    simp [co, pmul, sm, sgn]
  · rw [schoolOf]
    conv => lhs; rw [len2 hx, len2 hy, sraw2]
    have : t = 0 ∨ t = 1 := by omega
    rcases this with rfl | rfl <;> simp [co, pmul, sm, sgn] <;> (congr 1 <;> grind)
  · rw [schoolOf]
    conv => lhs; rw [len3 hx, len3 hy, sraw3]
    have : t = 0 ∨ t = 1 ∨ t = 2 := by omega
    rcases this with rfl | rfl | rfl <;> simp [co, pmul, sm, sgn] <;> (congr 1 <;> grind)
theorem acc_co {q : Int} {f : Nat → List Int} {n t : Nat} (ht : t < n) (h0 : co (f 0) t % q = co (f 0) t) : ∀ {k : Nat}, (∀ i, i < k + 1 → (f i).length = n) → co (accOf q f (k + 1)) t = (sm (k + 1) fun i => co (f i) t) % q
  | 0, h => by
    show co (raddOf q (f 0)) t = _
    rw [sm, sm, Int.zero_add, h0]
    by_cases e : t = 0
    · subst e
      simp only [raddOf, co, Int.add_zero] at h0 ⊢
      rw [List.getD_eq_getElem?_getD, List.getElem?_set_self (by rw [h 0 (by omega)]; exact ht)]
      simpa using h0
    · simp [raddOf, co, List.getD_eq_getElem?_getD, List.getElem?_set_ne (Ne.symm e)]
  | k + 1, h => by
    have hl : (accOf q f (k + 1)).length = n := accOf_length (fun i hi => h i (by omega)) (by omega)
    show co (addOf q (accOf q f (k + 1)) (f (k + 1))) t = _
    rw [sm, Int.add_emod, ← acc_co ht h0 (k := k) fun i hi => h i (by omega)]
    have e1 : co (addOf q (accOf q f (k + 1)) (f (k + 1))) t = (co (accOf q f (k + 1)) t + co (f (k + 1)) t) % q := by
      simp [addOf, co, List.getD_eq_getElem?_getD, hl, ht]
    rw [e1]
    conv => rhs; rw [Int.add_emod, Int.emod_emod, ← Int.add_emod]
theorem prod_co {q : Int} {n inn i j t : Nat} {fa fb : Nat → Nat → List Int} (hn : 1 ≤ n) (h3 : n ≤ 3) (ht : t < n) (hi : 1 ≤ inn) (ha : ∀ k, k < inn → (fa i k).length = n) (hb : ∀ k, k < inn → (fb k j).length = n) :
    co (prodRow q n inn fa fb i j) t = (sm inn fun k => pmul n (co (fa i k)) (co (fb k j)) t) % q := by
  obtain ⟨m, rfl⟩ : ∃ m, inn = m + 1 := ⟨inn - 1, by omega⟩
  have hs : ∀ k, k < m + 1 → co (prodAt q n fa fb i j k) t = pmul n (co (fa i k)) (co (fb k j)) t % q := fun k hk => school_co hn h3 ht (ha k hk) (hb k hk)
  have hlen : ∀ k, k < m + 1 → (prodAt q n fa fb i j k).length = n := fun k hk => by
    have e : n = 1 ∨ n = 2 ∨ n = 3 := by omega
    have h1 := ha k hk
    have h2 := hb k hk
    unfold prodAt schoolOf
    rcases e with rfl | rfl | rfl
    · rw [len1 h1, len1 h2, sraw1]; rfl
    · rw [len2 h1, len2 h2, sraw2]; rfl
    · rw [len3 h1, len3 h2, sraw3]; rfl
  unfold prodRow
  rw [acc_co ht (by rw [hs 0 (by omega), Int.emod_emod]) hlen]
  exact sm_mod fun k hk => by rw [hs k hk, Int.emod_emod]
theorem prod_len {q : Int} {n inn i j : Nat} {fa fb : Nat → Nat → List Int} (hn : 1 ≤ n) (h3 : n ≤ 3) (hi : 1 ≤ inn) (ha : ∀ k, k < inn → (fa i k).length = n) (hb : ∀ k, k < inn → (fb k j).length = n) : (prodRow q n inn fa fb i j).length = n := by
  unfold prodRow
  refine accOf_length (fun k hk => ?_) (by omega)
  have e : n = 1 ∨ n = 2 ∨ n = 3 := by omega
  have h1 := ha k hk
  have h2 := hb k hk
  unfold prodAt schoolOf
  rcases e with rfl | rfl | rfl
  · rw [len1 h1, len1 h2, sraw1]; rfl
  · rw [len2 h1, len2 h2, sraw2]; rfl
  · rw [len3 h1, len3 h2, sraw3]; rfl
-- the read's numbers
theorem tot_co {n t : Nat} {base piece : Int} (hn : 1 ≤ n) (ht : t < n) : ∀ T : Nat, co (rdTot n base piece T) t = sm T fun e => sgn n e t * (piece / base ^ e % base)
  | 0 => by simp [rdTot, co, sm, List.getD_eq_getElem?_getD, ht]
  | T + 1 => by
    have hl := rdTot_length (n := n) (base := base) (piece := piece) T
    have hm : T % n < n := Nat.mod_lt _ (by omega)
    rw [sm, ← tot_co hn ht T, rdTot]
    by_cases e : T % n = t
    · rw [e]
      unfold co
      rw [List.getD_eq_getElem?_getD, List.getElem?_set_self (by rw [hl]; exact ht)]
      unfold sgn
      rw [if_pos e]
      by_cases e2 : T / n % 2 = 0 <;> simp [e2] <;> omega
    · unfold co sgn
      rw [List.getD_eq_getElem?_getD, List.getElem?_set_ne e, if_neg e, ← List.getD_eq_getElem?_getD]
      simp
theorem part_sum {q base : Int} {row : List Int} : ∀ T : Nat, partNum q base row T = sm T fun t => co row t % q * base ^ t
  | 0 => rfl
  | T + 1 => by rw [partNum, part_sum T, sm]; rfl
theorem wrRow_sum {q base start down across : Int} {rows : List (List (List Int))} {i : Nat} {acc : Int} {E : Nat → Nat} {n : Nat} : ∀ {k : Nat}, (∀ j, j < k → ((rows.getD i []).getD j []).length = n) → (∀ j, j < k → (start + (i : Int) * down + (j : Int) * across).toNat = E j) →
      wrRow q base start down across rows i acc k = acc + sm k fun j => peval n (fun u => co ((rows.getD i []).getD j []) u % q) base * base ^ E j
  | 0, _, _ => by simp [wrRow, sm]
  | k + 1, h1, h2 => by
    rw [wrRow, wrRow_sum (fun j hj => h1 j (by omega)) (fun j hj => h2 j (by omega)), sm, h2 k (by omega), h1 k (by omega), part_sum]
    exact Int.add_assoc _ _ _
theorem wrAll_sum {q base start down across : Int} {rows : List (List (List Int))} {k n : Nat} {E : Nat → Nat → Nat} : ∀ {r : Nat}, (∀ i j, i < r → j < k → ((rows.getD i []).getD j []).length = n) → (∀ i j, i < r → j < k → (start + (i : Int) * down + (j : Int) * across).toNat = E i j) →
      wrAll q base start down across rows k r = sm r fun i => sm k fun j => peval n (fun u => co ((rows.getD i []).getD j []) u % q) base * base ^ E i j
  | 0, _, _ => rfl
  | r + 1, h1, h2 => by
    rw [wrAll, wrRow_sum (E := E r) (fun j hj => h1 r j (by omega) hj) (fun j hj => h2 r j (by omega) hj), wrAll_sum (fun i j hi hj => h1 i j (by omega) hj) (fun i j hi hj => h2 i j (by omega) hj), sm]
theorem shift_eq {B : Int} (hB : 0 < B) (R : Int) (r : Nat) : ∀ m : Nat, rdShift R (B ^ r) m = R / B ^ (r * m)
  | 0 => by simp [rdShift]
  | m + 1 => by rw [rdShift, shift_eq hB R r m, div_div hB, Nat.mul_succ]

-- mathd
theorem cell_len {g : List (List (List Int))} {r c n i j : Nat} (hl : g.length = r) (he : Even g c) (hc : ∀ row ∈ g, ∀ x ∈ row, x.length = n) (hi : i < r) (hj : j < c) : ((g.getD i []).getD j []).length = n := by
  have h1 := even_get he (i := i) (by omega)
  have e1 : g.getD i [] = g[i]'(by omega) := by rw [List.getD_eq_getElem?_getD, List.getElem?_eq_getElem (by omega)]; rfl
  have e2 : (g.getD i []).getD j [] = (g.getD i [])[j]'(by omega) := by rw [List.getD_eq_getElem?_getD, List.getElem?_eq_getElem (by omega)]; rfl
  rw [e2]
  exact hc _ (by rw [e1]; exact List.getElem_mem _) _ (List.getElem_mem _)
abbrev cl (g : List (List (List Int))) (i j : Nat) : List Int := (g.getD i []).getD j []
/-- a part of the answer, coefficient by coefficient -/
def want (q : Int) (n inner other : Nat) (a b c : List (List (List Int))) (i j t : Nat) : Int := (sm inner fun k => sm other fun l => ptri n (co (cl a i k)) (co (cl b k l)) (co (cl c l j)) t) % q
section
variable {q : Int} {n high inner other wide : Nat} {a b c : List (List (List Int))}
theorem rdRest_three (i1 : 1 ≤ inner) (o1 : 1 ≤ other) (la : a.length = high) (lb : b.length = inner) (lc : c.length = other) (ea : Even a inner) (eb : Even b other) (ec : Even c wide) (ca : ∀ row ∈ a, ∀ x ∈ row, x.length = n) (cb : ∀ row ∈ b, ∀ x ∈ row, x.length = n) (cc : ∀ row ∈ c, ∀ x ∈ row, x.length = n) :
    rdOne q a high inner other wide n * rdTwo q b high inner other wide n * rdThree q c high inner other wide n
      = three (rdBase q high inner other wide n) n high inner other wide (rdFine n) (2 * other - 1) (2 * inner - 1) (fun i k u => co (cl a i k) u % q) (fun i k u => co (cl b i k) u % q) (fun i k u => co (cl c i k) u % q) := by
  unfold rdOne rdTwo rdThree three
  rw [wrAll_sum (E := fun i k => i * (rdFine n * (2 * other - 1) * (2 * inner - 1) * wide) + k * (rdFine n * (2 * other - 1))) (fun i j hi hj => cell_len la ea ca hi hj) (fun i j _ _ => by rw [place_one, Int.toNat_natCast]; rfl),
    wrAll_sum (E := fun k l => (inner - 1 - k) * (rdFine n * (2 * other - 1)) + l * rdFine n) (fun i j hi hj => cell_len lb eb cb hi hj) (fun i j hi _ => by rw [place_eq (by omega), Int.toNat_natCast]; rfl),
    wrAll_sum (E := fun l j => (other - 1 - l) * rdFine n + j * (rdFine n * (2 * other - 1) * (2 * inner - 1))) (fun i j hi hj => cell_len lc ec cc hi hj) (fun i j hi _ => by rw [place_eq (by omega), Int.toNat_natCast]; rfl)]
theorem read_at {i j : Nat} (hi : i < high) (hj : j < wide) : cl (readOf q a b c high inner other wide n) i j = rdCell q n (rdBase q high inner other wide n) (rdShift (rdRest q a b c high inner other wide n) (rdBase q high inner other wide n ^ rdRight n other inner) (i * wide + j) % rdBase q high inner other wide n ^ rdFine n) := by
  simp [cl, readOf, rdTable, rdRow, List.getD_eq_getElem?_getD, hi, hj]
theorem read_len {i j : Nat} (hi : i < high) (hj : j < wide) : (cl (readOf q a b c high inner other wide n) i j).length = n := by
  rw [read_at hi hj]; simp [rdCell, rdTot_length]
theorem read_co {i j t : Nat} (hq : 2 ≤ q) (n1 : 1 ≤ n) (n3 : n ≤ 3) (i1 : 1 ≤ inner) (o1 : 1 ≤ other) (la : a.length = high) (lb : b.length = inner) (lc : c.length = other) (ea : Even a inner) (eb : Even b other) (ec : Even c wide) (ca : ∀ row ∈ a, ∀ x ∈ row, x.length = n) (cb : ∀ row ∈ b, ∀ x ∈ row, x.length = n) (cc : ∀ row ∈ c, ∀ x ∈ row, x.length = n)
    (hi : i < high) (hj : j < wide) (ht : t < n) : co (cl (readOf q a b c high inner other wide n) i j) t = want q n inner other a b c i j t := by
  have hB : 0 < rdBase q high inner other wide n := rdBase_pos (by omega)
  have hm : ∀ z : Int, 0 ≤ z % q ∧ z % q ≤ q := fun z => ⟨Int.emod_nonneg _ (by omega), Int.le_of_lt (Int.emod_lt_of_pos _ (by omega))⟩
  have hd : ∀ e, e < 3 * n - 2 → rdShift (rdRest q a b c high inner other wide n) (rdBase q high inner other wide n ^ rdRight n other inner) (i * wide + j) % rdBase q high inner other wide n ^ rdFine n / rdBase q high inner other wide n ^ e % rdBase q high inner other wide n
      = sm inner fun k => sm other fun l => conv n (fun u => co (cl a i k) u % q) (fun u => co (cl b k l) u % q) (fun u => co (cl c l j) u % q) e := fun e he => by
    rw [digit_cut hB _ (show e < rdFine n from he), shift_eq hB, rdRest, rdRest_three i1 o1 la lb lc ea eb ec ca cb cc, div_div hB, div_div hB, ← Nat.add_assoc]
    have x := three_dig (B := rdBase q high inner other wide n) (n := n) (high := high) (inner := inner) (other := other) (wide := wide) (f := rdFine n) (O := 2 * other - 1) (I := 2 * inner - 1) (a := fun i k u => co (cl a i k) u % q) (b := fun i k u => co (cl b i k) u % q) (c := fun i k u => co (cl c i k) u % q) (fun _ _ _ => (hm _).1) (fun _ _ _ => (hm _).1) (fun _ _ _ => (hm _).1)
    have tot := three_tot (n := n) (high := high) (inner := inner) (other := other) (wide := wide) (q := q) (a := fun i k u => co (cl a i k) u % q) (b := fun i k u => co (cl b i k) u % q) (c := fun i k u => co (cl c i k) u % q) (by omega) (fun _ _ _ => hm _) (fun _ _ _ => hm _) (fun _ _ _ => hm _)
    have y := x.at hB (Int.lt_add_one_of_le tot) (spot (rdFine n) (2 * other - 1) (2 * inner - 1) wide inner other i j e)
    exact y.trans (spot_digit hi hj he)
  rw [read_at hi hj]
  have e1 : ∀ p, co (rdCell q n (rdBase q high inner other wide n) p) t = co (rdTot n (rdBase q high inner other wide n) p (rdFine n)) t % q := fun p => by
    have := rdTot_length (n := n) (base := rdBase q high inner other wide n) (piece := p) (rdFine n)
    simp [rdCell, co, List.getD_eq_getElem?_getD, this, ht]
  rw [e1, tot_co n1 ht]
  unfold want
  rw [show rdFine n = 3 * n - 2 from rfl, sm_congr (g := fun e => sm inner fun k => sm other fun l => sgn n e t * conv n (fun u => co (cl a i k) u % q) (fun u => co (cl b k l) u % q) (fun u => co (cl c l j) u % q) e) fun e he => by
    rw [show rdFine n = 3 * n - 2 from rfl] at hd
    rw [hd e he, ← sm_mul]
    exact sm_congr fun k _ => (sm_mul _ _).symm]
  rw [sm_comm]
  refine sm_mod fun k _ => ?_
  rw [sm_comm]
  refine sm_mod fun l _ => ?_
  rw [conv_tri]
  exact ptri_congr (fun _ _ => Int.emod_emod ..) (fun _ _ => Int.emod_emod ..) (fun _ _ => Int.emod_emod ..)
-- the products
variable {fa fb fc : Nat → Nat → List Int} {i j t : Nat}
theorem left_co (n1 : 1 ≤ n) (n3 : n ≤ 3) (i1 : 1 ≤ inner) (o1 : 1 ≤ other) (hi : i < high) (ht : t < n) (ha : ∀ k, k < inner → (fa i k).length = n) (hb : ∀ k l, k < inner → l < other → (fb k l).length = n) (hc : ∀ l, l < other → (fc l j).length = n) :
    co (prodRow q n other (partOf false (prodRows q n inner high other fa fb)) fc i j) t = (sm inner fun k => sm other fun l => ptri n (co (fa i k)) (co (fb k l)) (co (fc l j)) t) % q := by
  have hp : ∀ l, l < other → partOf false (prodRows q n inner high other fa fb) i l = prodRow q n inner fa fb i l := fun l hl => prodRows_part hi hl
  rw [prod_co n1 n3 ht o1 (fun l hl => by rw [hp l hl]; exact prod_len n1 n3 i1 ha fun k hk => hb k l hk hl) hc, sm_comm]
  refine sm_mod fun l hl => ?_
  rw [hp l hl, pmul_congr (x' := fun u => sm inner fun k => pmul n (co (fa i k)) (co (fb k l)) u) (y' := co (fc l j)) (fun u hu => by rw [prod_co n1 n3 hu i1 ha fun k hk => hb k l hk hl, Int.emod_emod]) (fun _ _ => rfl), pmul_sum]
  rw [sm_congr fun k _ => pmul_left n1 n3 ht _ _ _]
theorem right_co (n1 : 1 ≤ n) (n3 : n ≤ 3) (i1 : 1 ≤ inner) (o1 : 1 ≤ other) (hj : j < wide) (ht : t < n) (ha : ∀ k, k < inner → (fa i k).length = n) (hb : ∀ k l, k < inner → l < other → (fb k l).length = n) (hc : ∀ l, l < other → (fc l j).length = n) :
    co (prodRow q n inner fa (partOf false (prodRows q n other inner wide fb fc)) i j) t = (sm inner fun k => sm other fun l => ptri n (co (fa i k)) (co (fb k l)) (co (fc l j)) t) % q := by
  have hp : ∀ k, k < inner → partOf false (prodRows q n other inner wide fb fc) k j = prodRow q n other fb fc k j := fun k hk => prodRows_part hk hj
  rw [prod_co n1 n3 ht i1 ha (fun k hk => by rw [hp k hk]; exact prod_len n1 n3 o1 (fun l hl => hb k l hk hl) hc)]
  refine sm_mod fun k hk => ?_
  rw [hp k hk, pmul_congr (x' := co (fa i k)) (y' := fun u => sm other fun l => pmul n (co (fb k l)) (co (fc l j)) u) (fun _ _ => rfl) (fun u hu => by rw [prod_co n1 n3 hu o1 (fun l hl => hb k l hk hl) hc, Int.emod_emod]), pmul_comm, pmul_sum]
  rw [sm_congr fun l _ => (pmul_comm _ _).trans (pmul_right n1 n3 ht _ _ _)]
theorem cross_co (n1 : 1 ≤ n) (n3 : n ≤ 3) (i1 : 1 ≤ inner) (o1 : 1 ≤ other) (hi : i < wide) (ht : t < n) (ha : ∀ k, k < inner → (fa k j).length = n) (hb : ∀ k l, k < inner → l < other → (fb l k).length = n) (hc : ∀ l, l < other → (fc i l).length = n) :
    co (prodRow q n inner (partOf false (prodRows q n other wide inner fc fb)) fa i j) t = (sm inner fun k => sm other fun l => ptri n (co (fa k j)) (co (fb l k)) (co (fc i l)) t) % q := by
  have hp : ∀ k, k < inner → partOf false (prodRows q n other wide inner fc fb) i k = prodRow q n other fc fb i k := fun k hk => prodRows_part hi hk
  rw [prod_co n1 n3 ht i1 (fun k hk => by rw [hp k hk]; exact prod_len n1 n3 o1 hc fun l hl => hb k l hk hl) ha]
  refine sm_mod fun k hk => ?_
  rw [hp k hk, pmul_congr (x' := fun u => sm other fun l => pmul n (co (fc i l)) (co (fb l k)) u) (y' := co (fa k j)) (fun u hu => by rw [prod_co n1 n3 hu o1 hc fun l hl => hb k l hk hl, Int.emod_emod]) (fun _ _ => rfl), pmul_sum]
  have e : ∀ l, pmul n (pmul n (co (fc i l)) (co (fb l k))) (co (fa k j)) t = ptri n (co (fa k j)) (co (fb l k)) (co (fc i l)) t := fun l => by
    rw [pmul_comm, show pmul n (co (fc i l)) (co (fb l k)) = pmul n (co (fb l k)) (co (fc i l)) from funext fun _ => pmul_comm _ _, pmul_right n1 n3 ht]
  rw [sm_congr fun l _ => e l]
end

-- mathe
theorem part_not {tr : Bool} {rows : List (List (List Int))} {i j : Nat} : partOf (!tr) rows i j = partOf tr rows j i := by cases tr <;> rfl
theorem stored_part {tr : Bool} {g : List (List (List Int))} {r k i j : Nat} (hl : g.length = r) (he : Even g k) (hi : i < r) (hj : j < k) : partOf tr (storedRows tr g k) i j = cl g i j := by
  cases tr
  · rfl
  · have := even_get he (i := i) (by omega)
    simp [partOf, storedRows, cl, List.getD_eq_getElem?_getD, hj, show i < g.length by omega]
theorem stored_ok {tr : Bool} {g : List (List (List Int))} {r k n kk : Nat} (hl : g.length = r) (he : Even g k) (hc : ∀ row ∈ g, ∀ x ∈ row, x.length = n) (hs : ∀ row ∈ g, ∀ x ∈ row, Sz kk x) (r1 : 1 ≤ r) (r3 : r ≤ 3) (k1 : 1 ≤ k) (k3 : k ≤ 3) : MatOk tr (storedRows tr g k) r k n kk := by
  cases tr
  · exact ⟨hl, he, r1, r3, k1, k3, fun row hr c h => ⟨hc row hr c h, hs row hr c h⟩⟩
  · refine ⟨by simp [storedRows], fun row hr => ?_, r1, r3, k1, k3, fun row hr c h => ?_⟩
    · simp only [storedRows, if_true, List.mem_map] at hr
      obtain ⟨j, _, rfl⟩ := hr
      simp [hl]
    · simp only [storedRows, if_true, List.mem_map] at hr
      obtain ⟨j, hj, rfl⟩ := hr
      obtain ⟨line, hline, rfl⟩ := List.mem_map.mp h
      have hj' := List.mem_range.mp hj
      have e := he line hline
      have e2 : line.getD j [] = line[j]'(by omega) := by rw [List.getD_eq_getElem?_getD, List.getElem?_eq_getElem (by omega)]; rfl
      rw [e2]
      exact ⟨hc _ hline _ (List.getElem_mem _), hs _ hline _ (List.getElem_mem _)⟩
theorem grid_all {ns : List Int} {p r c n : Nat} : (drawGrid ns p r c n).length = r ∧ Even (drawGrid ns p r c n) c ∧ (∀ row ∈ drawGrid ns p r c n, ∀ x ∈ row, x.length = n) ∧ ∀ row ∈ drawGrid ns p r c n, ∀ x ∈ row, ∀ z ∈ x, ∃ i, z = drawOf ns i := by
  refine ⟨by simp [drawGrid], fun row hr => ?_, fun row hr x hx => ?_, fun row hr x hx z hz => ?_⟩
  · obtain ⟨i, _, rfl⟩ := List.mem_map.mp hr
    simp [drawRows]
  · obtain ⟨i, _, rfl⟩ := List.mem_map.mp hr
    obtain ⟨j, _, rfl⟩ := List.mem_map.mp hx
    simp [drawRow]
  · obtain ⟨i, _, rfl⟩ := List.mem_map.mp hr
    obtain ⟨j, _, rfl⟩ := List.mem_map.mp hx
    obtain ⟨u, _, rfl⟩ := List.mem_map.mp hz
    exact ⟨_, rfl⟩
theorem draw_abs (ns : List Int) {p : Nat} : (drawOf ns p).natAbs < 2 ^ 200 + 150 := by
  have hB : (0 : Int) < drawBound ∧ drawBound < 2 ^ 200 := by unfold drawBound; decide
  have e2 : ((2 : Int) ^ 200) = ((2 ^ 200 : Nat) : Int) := by decide +kernel
  generalize (2 : Nat) ^ 200 = X at *
  rw [e2] at hB
  unfold drawOf
  split
  · split
    · have h1 := Int.emod_nonneg (0 - ns.getD p 0) (show drawBound ≠ 0 by omega)
      have h2 := Int.emod_lt_of_pos (0 - ns.getD p 0) hB.1
      omega
    · have h1 := Int.emod_nonneg (ns.getD p 0) (show drawBound ≠ 0 by omega)
      have h2 := Int.emod_lt_of_pos (ns.getD p 0) hB.1
      omega
  · have h1 := Int.emod_nonneg ((p : Int) * p * 13 + p * 29 + 5) (show (101 : Int) ≠ 0 by decide)
    have h2 := Int.emod_lt_of_pos ((p : Int) * p * 13 + p * 29 + 5) (show (0 : Int) < 101 by decide)
    omega
theorem draw_bd (ns : List Int) (p : Nat) : Bd 201 (drawOf ns p) := by
  have := draw_abs ns (p := p)
  have e : (2 : Nat) ^ 200 + 150 < 2 ^ 201 := by decide +kernel
  unfold Bd
  omega
theorem q_bd (ns : List Int) : 2 ≤ qOf ns ∧ Bd 210 (qOf ns) := by
  have := draw_abs ns (p := 0)
  have e : (2 : Nat) ^ 200 + 200 < 2 ^ 210 := by decide +kernel
  unfold qOf Bd
  generalize (2 : Nat) ^ 210 = Y at *
  generalize (2 : Nat) ^ 200 = X at *
  constructor
  · split <;> omega
  · split <;> omega
theorem small_le (ns : List Int) (i : Nat) {k : Nat} (hk : 0 < k) : 1 ≤ smallOf ns i k ∧ smallOf ns i k ≤ k := by
  have h1 := smallOf_eq ns i (k := (k : Int)) (by omega)
  have h2 := Int.emod_nonneg (drawOf ns i) (show (k : Int) ≠ 0 by omega)
  have h3 := Int.emod_lt_of_pos (drawOf ns i) (show (0 : Int) < k by omega)
  omega
theorem acc_congr {q : Int} {f f' : Nat → List Int} : ∀ {k : Nat}, (∀ i, i < k → f i = f' i) → accOf q f k = accOf q f' k
  | 0, _ => rfl
  | 1, h => by show raddOf q (f 0) = raddOf q (f' 0); rw [h 0 (by omega)]
  | k + 2, h => by
    show addOf q (accOf q f (k + 1)) (f (k + 1)) = addOf q (accOf q f' (k + 1)) (f' (k + 1))
    rw [acc_congr (k := k + 1) fun i hi => h i (by omega), h (k + 1) (by omega)]
theorem prod_congr {q : Int} {n inn i j i' j' : Nat} {fa fb fa' fb' : Nat → Nat → List Int} (ha : ∀ k, k < inn → fa i k = fa' i' k) (hb : ∀ k, k < inn → fb k j = fb' k j') : prodRow q n inn fa fb i j = prodRow q n inn fa' fb' i' j' :=
  acc_congr fun k hk => by unfold prodAt; rw [ha k hk, hb k hk]
theorem law_ok {q : Int} {n high inner other wide ar ac kk : Nat} {t0 t1 t2 : Bool} {a b c : List (List (List Int))} (q2 : 2 ≤ q) (bq : Bd 210 q) (n1 : 1 ≤ n) (n3 : n ≤ 3) (h1 : 1 ≤ high) (h2 : high ≤ 2) (i1 : 1 ≤ inner) (i3 : inner ≤ 3) (o1 : 1 ≤ other) (o3 : other ≤ 3) (w1 : 1 ≤ wide) (w2 : wide ≤ 2)
    (la : a.length = high) (lb : b.length = inner) (lc : c.length = other) (ea : Even a inner) (eb : Even b other) (ec : Even c wide) (ca : ∀ row ∈ a, ∀ x ∈ row, x.length = n) (cb : ∀ row ∈ b, ∀ x ∈ row, x.length = n) (cc : ∀ row ∈ c, ∀ x ∈ row, x.length = n)
    (sa : ∀ row ∈ a, ∀ x ∈ row, Sz kk x) (sb : ∀ row ∈ b, ∀ x ∈ row, Sz kk x) (sc : ∀ row ∈ c, ∀ x ∈ row, Sz kk x) (sz : kk + kk ≤ 134217728) (qk : Builtin.Int.intBits q ≤ kk) (har : ar < high) (hac : ac < wide) : LawOk q n high inner other wide t0 t1 t2 a b c ar ac kk := by
  have oa : MatOk t0 (storedRows t0 a inner) high inner n kk := stored_ok la ea ca sa h1 (by omega) i1 i3
  have ob : MatOk t1 (storedRows t1 b other) inner other n kk := stored_ok lb eb cb sb i1 i3 o1 o3
  have oc : MatOk t2 (storedRows t2 c wide) other wide n kk := stored_ok lc ec cc sc o1 o3 w1 (by omega)
  have pa : ∀ i j, i < high → j < inner → partOf t0 (storedRows t0 a inner) i j = cl a i j := fun i j hi hj => stored_part la ea hi hj
  have pb : ∀ i j, i < inner → j < other → partOf t1 (storedRows t1 b other) i j = cl b i j := fun i j hi hj => stored_part lb eb hi hj
  have pc : ∀ i j, i < other → j < wide → partOf t2 (storedRows t2 c wide) i j = cl c i j := fun i j hi hj => stored_part lc ec hi hj
  have R : ∀ i j, i < high → j < wide → ∀ t, t < n → co (cl (readOf q a b c high inner other wide n) i j) t = want q n inner other a b c i j t := fun i j hi hj t ht => read_co q2 n1 n3 i1 o1 la lb lc ea eb ec ca cb cc hi hj ht
  have W : ∀ {i j t : Nat} {x y z : Nat → Nat → List Int}, i < high → j < wide → (∀ k, k < inner → x i k = cl a i k) → (∀ k l, k < inner → l < other → y k l = cl b k l) → (∀ l, l < other → z l j = cl c l j) → (sm inner fun k => sm other fun l => ptri n (co (x i k)) (co (y k l)) (co (z l j)) t) % q = want q n inner other a b c i j t := fun hi hj hx hy hz => by
    unfold want
    rw [sm_congr fun k hk => sm_congr fun l hl => by rw [hx k hk, hy k l hk hl, hz l hl]]
  have p2 : ∀ i j, i < high → j < wide → prodRow q n inner (partOf t0 (storedRows t0 a inner)) (partOf false (prodRows q n other inner wide (partOf t1 (storedRows t1 b other)) (partOf t2 (storedRows t2 c wide)))) i j = cl (readOf q a b c high inner other wide n) i j := fun i j hi hj => by
    have xa : ∀ k, k < inner → (partOf t0 (storedRows t0 a inner) i k).length = n := fun k hk => (oa.cell hi hk).1
    have xb : ∀ k l, k < inner → l < other → (partOf t1 (storedRows t1 b other) k l).length = n := fun k l hk hl => (ob.cell hk hl).1
    have xc : ∀ l, l < other → (partOf t2 (storedRows t2 c wide) l j).length = n := fun l hl => (oc.cell hl hj).1
    refine co_ext (prod_len n1 n3 i1 xa fun k hk => ?_) (read_len hi hj) fun t ht => ?_
    · rw [prodRows_part hk hj]; exact prod_len n1 n3 o1 (fun l hl => xb k l hk hl) xc
    · rw [R i j hi hj t ht, right_co n1 n3 i1 o1 hj ht xa xb xc]
      exact W hi hj (fun k hk => pa i k hi hk) (fun k l hk hl => pb k l hk hl) fun l hl => pc l j hl hj
  refine ⟨q2, bq, n1, n3, h1, h2, i1, i3, o1, o3, w1, w2, la, lb, lc, ea, eb, ec, ca, cb, cc, sz, qk, oa, ob, oc, pa, pb, pc, by simp [readOf, rdTable], fun row hr => ?_, fun i j hi hj => ?_, p2, fun i j hi hj => ?_, ?_, har, hac⟩
  · simp only [readOf, rdTable, List.mem_map] at hr
    obtain ⟨i, _, rfl⟩ := hr
    simp [rdRow]
  · have xa : ∀ k, k < inner → (partOf t0 (storedRows t0 a inner) i k).length = n := fun k hk => (oa.cell hi hk).1
    have xb : ∀ k l, k < inner → l < other → (partOf t1 (storedRows t1 b other) k l).length = n := fun k l hk hl => (ob.cell hk hl).1
    have xc : ∀ l, l < other → (partOf t2 (storedRows t2 c wide) l j).length = n := fun l hl => (oc.cell hl hj).1
    refine co_ext (prod_len n1 n3 o1 (fun l hl => ?_) xc) (read_len hi hj) fun t ht => ?_
    · rw [prodRows_part hi hl]; exact prod_len n1 n3 i1 xa fun k hk => xb k l hk hl
    · rw [R i j hi hj t ht, left_co n1 n3 i1 o1 hi ht xa xb xc]
      exact W hi hj (fun k hk => pa i k hi hk) (fun k l hk hl => pb k l hk hl) fun l hl => pc l j hl hj
  · have xa : ∀ k, k < inner → (partOf (!t0) (storedRows t0 a inner) k j).length = n := fun k hk => by rw [part_not]; exact (oa.cell hj hk).1
    have xb : ∀ k l, k < inner → l < other → (partOf (!t1) (storedRows t1 b other) l k).length = n := fun k l hk hl => by rw [part_not]; exact (ob.cell hk hl).1
    have xc : ∀ l, l < other → (partOf (!t2) (storedRows t2 c wide) i l).length = n := fun l hl => by rw [part_not]; exact (oc.cell hl hi).1
    refine co_ext (prod_len n1 n3 i1 (fun k hk => ?_) xa) (read_len hj hi) fun t ht => ?_
    · rw [prodRows_part hi hk]; exact prod_len n1 n3 o1 xc fun l hl => xb k l hk hl
    · rw [R j i hj hi t ht, cross_co n1 n3 i1 o1 hi ht xa xb xc]
      exact W (x := fun j k => partOf (!t0) (storedRows t0 a inner) k j) (y := fun k l => partOf (!t1) (storedRows t1 b other) l k) (z := fun l i => partOf (!t2) (storedRows t2 c wide) i l) hj hi (fun k hk => part_not.trans (pa j k hj hk)) (fun k l hk hl => part_not.trans (pb k l hk hl)) fun l hl => part_not.trans (pc l i hl hi)
  · refine (prod_congr (i' := ar) (j' := ac) (fun k hk => ?_) (fun k hk => ?_)).trans (p2 ar ac har hac)
    · simp [partOf, List.getD_eq_getElem?_getD, hk]
    · simp [partOf, List.getD_eq_getElem?_getD, hk]
theorem lawAll (ns : List Int) : LawAll ns := by
  obtain ⟨q2, bq⟩ := q_bd ns
  obtain ⟨n1, n3⟩ := small_le ns 1 (k := 3) (by decide)
  obtain ⟨h1, h2⟩ := small_le ns 2 (k := 2) (by decide)
  obtain ⟨i1, i3⟩ := small_le ns 3 (k := 3) (by decide)
  obtain ⟨o1, o3⟩ := small_le ns 4 (k := 3) (by decide)
  obtain ⟨w1, w2⟩ := small_le ns 5 (k := 2) (by decide)
  have S : ∀ {p r c n : Nat}, ∀ row ∈ drawGrid ns p r c n, ∀ x ∈ row, Sz 210 x := fun row hr x hx z hz => by
    obtain ⟨i, rfl⟩ := grid_all.2.2.2 row hr x hx z hz
    exact Nat.le_trans (draw_bd ns i).bits (by decide)
  exact ⟨210, law_ok q2 bq n1 n3 h1 h2 i1 i3 o1 o3 w1 w2 grid_all.1 grid_all.1 grid_all.1 grid_all.2.1 grid_all.2.1 grid_all.2.1 grid_all.2.2.1 grid_all.2.2.1 grid_all.2.2.1 S S S (by decide) bq.bits (modOf_lt ns _ h1) (modOf_lt ns _ w1)⟩

-- fin05
theorem good_fin {c : ClaimW} {cl : Str → Option Addr} {mean : ExcName → Option Value} {args : List WData} {s₁ s' : Shared} {tabs : List (Addr × Addr)} (hT : TabsAt tabs s₁.heap) (hg : s₁.gens = #[])
    (hr : ∀ x, c.raises args x = false) (hp : c.post args (.bool true) args = true) (G : Grow (ghostOf s₁.heap tabs) s'.heap) (hgr : ∀ q ∈ tabs, ∃ ps, s'.heap.get? q.2 = some (tabObj ps)) (S : Same s₁ s') : GoodWG c cl mean args s₁ (.ok (.ret (.bool true))) s' := by
  refine ⟨.inl ⟨.bool true, .bool true, [], rfl, hr, .bool true, hp, fun _ => ⟨List.nodup_nil, fun _ h => nomatch h⟩⟩, ⟨fun b o e => ?_, fun b o e => ?_⟩, S.1, S.2.1 (.of_eq hg)⟩
  · by_cases hb : b ∈ tabs.map (·.2)
    · obtain ⟨q, hq, rfl⟩ := List.mem_map.mp hb
      have e2 := (hT q hq).2
      rw [e] at e2
      obtain ⟨ps, hP⟩ := hgr q hq
      obtain rfl := Option.some.inj e2
      exact .inr (.inl ⟨((hT q hq).1.tab (hT q hq).2).isCodeTable, rfl, #[], ps, rfl, by rw [Array.empty_append]; exact hP⟩)
    · exact .inl (G b o (ghost_ne e hb))
  · by_cases hb : b ∈ tabs.map (·.2)
    · obtain ⟨q, hq, rfl⟩ := List.mem_map.mp hb
      obtain ⟨ps, hP⟩ := hgr q hq
      exact ⟨_, hP⟩
    · exact ⟨o, G b o (ghost_ne e hb)⟩
theorem post_ok (l : OpenLaw) (args : List WData) : l.row.claim.post args (.bool true) args = true := by
  unfold RowW.claim
  dsimp only
  rw [Bool.and_eq_true]
  refine ⟨?_, ?_⟩
  · show WShape.has [] (.bool true) .bool = true
    simp [WShape.has, WShape.arms]
  · show WTm.holds [] (.eq .res (.lit (.bool true))) _ = true
    simp [WTm.holds, WTm.value]
    simp [W.same]
theorem ghost_seer {h : Heap} {tabs : List (Addr × Addr)} (hT : TabsAt tabs h) (x : h.NoSeer) (h1 : cStatics ∉ tabs.map (·.2)) (h2 : sysModules ∉ tabs.map (·.2)) (h3 : builtinsNs ∉ tabs.map (·.2)) (h4 : mainGlobals ∉ tabs.map (·.2)) : (ghostOf h tabs).NoSeer where
  statics := let ⟨mc, a, b⟩ := x.statics; ⟨mc, a.at' fun o e => hideAll_get _ e h1, b⟩
  mods := let ⟨mc, a, b⟩ := x.mods; ⟨mc, a.at' fun o e => hideAll_get _ e h2, b⟩
  imp := let ⟨mc, a, b⟩ := x.imp; ⟨mc, a.at' fun o e => hideAll_get _ e h3, b⟩
  main := by
    obtain ⟨mg, bm, ob, a, b, c, d, e⟩ := x.main
    refine ⟨mg, bm, ob, a.at' fun o e => hideAll_get _ e h4, b, hideAll_get _ c fun hm => ?_, d, e⟩
    obtain ⟨q, hq, rfl⟩ := List.mem_map.mp hm
    have e2 := (hT q hq).2
    rw [c] at e2
    obtain rfl := Option.some.inj e2
    cases d

end
end Mine
theorem PySem.Challenge.cw_ye0001_05_holds : PySem.Challenge.rw_ye0001_05.Holds := by
  refine Mine.headC.2 ⟨?_⟩
  intro said
  intro w s₀ s₁ mg mb G Y fa o pm cd doc dV kV ho hd hcd hD hmg hg args vals as hpre hlay hrd hwl hlo
  have KX := km_in_of Y
  have hT8 := km_tabs_of Y
  refine Ground.open G ?_
  intro T B D TE TW
  have hT9 : TabsAt [(366, 362), (322, 320)] _ := List.forall_mem_cons.mpr ⟨⟨codeHd_of_K (c := 366) (P := 362) KX (by kernel_rfl), hT8 362 (by simp)⟩, List.forall_mem_cons.mpr ⟨⟨codeHd_of_K (c := 322) (P := 320) KX (by kernel_rfl), hT8 320 (by simp)⟩, fun _ h => nomatch h⟩⟩
  have hfa := (mg_of (n := Str.ofString "law") (v := .ref 422) KX T.g (by kernel_rfl))
  obtain rfl : fa = 422 := Value.ref.inj (Option.some.inj (hmg.symm.trans hfa))
  have NS := T.seer (by decide +kernel)
  clear Y G hT8 B D TE TW ho hd hcd hD hfa hmg
  wrow_args hpre hlay hrd hwl hlo
  rename IntsAre _ _ => hI
  rename Heap.IsList _ _ _ => hL
  have T' := ghost_top hT9 T
  obtain ⟨bm, ob, M'⟩ := bmod_of_top T'
  refine Mine.lawRun (dp := callerA.depth) (un := callerA.units) (fun b ob e => of_hideAll _ e) (ghost_K hT9 KX (by kernel_rfl)) (topRead_of T') M' (Mine.ghost_seer hT9 NS (by decide) (by decide) (by decide) (by decide)) ⟨_, rfl⟩ rfl (ghost_list hT9 hL) hI (by omega) (Mine.lawAll _) (hT9 (366, 362) (by simp)).2 (hideAll_none _ (by simp)) trivial (hT9 (322, 320) (by simp)).2 (hideAll_none _ (by simp)) trivial (by decide) (by decide) ?_
  intro s' ps1 ps2 G1 _ e1 e2 S
  refine Mine.good_fin hT9 hg (fun _ => rfl) (Mine.post_ok _ _) G1 (fun q hq => ?_) S
  simp only [List.mem_cons, List.not_mem_nil, or_false] at hq
  rcases hq with rfl | rfl
  · exact ⟨_, e1⟩
  · exact ⟨_, e2⟩

