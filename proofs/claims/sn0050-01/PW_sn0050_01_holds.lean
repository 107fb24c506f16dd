import PyProof.Rows.All
import Wide.All
import OpenK.AllK
import Wide.FinOn
import PyProof.NeKinds
import PySem.Challenge.RW_sn0050_01
set_option Elab.async false
set_option maxRecDepth 100000
/-! part TOP2 -/
section
open PySem PySem.W PySem.W.X PyProof.Rows
set_option maxRecDepth 100000
set_option maxHeartbeats 0
namespace Mine
local macro_rules | `(tactic| k_head) => `(tactic| z_head)
open_top hd for PySem.Challenge.rw_sn0050_01
end Mine
end
/-! part HK -/
section
open PySem PySem.W PySem.W.X PySem.Calls PyProof.Rows
set_option maxRecDepth 100000
set_option maxHeartbeats 0
set_option linter.unusedVariables false
namespace Mine
/-- the top's objects, without the three code tables that grow -/
noncomputable def KK (P : Params) : Frag := (hd.heap_267 P).filter fun p => !(p.1 == 40 || p.1 == 47 || p.1 == 217)

/-- the whole machine state over heap and tokens -/
abbrev at' (S : Shared) (h : Heap) (t : Nat) : Shared := ⟨h, S.gens, S.drawn, t, S.os⟩
abbrev kwName : Str := ⟨#[110, 97, 109, 101]⟩
def hourC : List Nat := [97, 98, 99, 100, 101, 102, 103, 104, 105, 106, 107, 108]
def persC : List Nat := [46, 48, 49, 50, 51, 97, 98, 99]
theorem pers48 {k : Nat} (h : k < 4) : 48 + k ∈ persC := by
  match k, h with
  | 0, _ | 1, _ | 2, _ | 3, _ => decide
theorem pa {i : Nat} (h : i % 2 = 0) : ¬(i + 1) % 2 = 0 := by rw [Nat.add_mod, h]; decide
theorem pb {i : Nat} (h : ¬i % 2 = 0) : (i + 1) % 2 = 0 := by rw [Nat.add_mod, Nat.mod_two_ne_zero.mp h]
theorem pc {j : Nat} (h : ¬j = 0) : (j - 1) % 2 = (j + 1) % 2 := by
  cases j with
  | zero => exact absurd rfl h
  | succ j => exact (Nat.add_mod_right j 2).symm
theorem pc2 {j : Nat} (h : ¬j = 0) : (j + 1) % 2 = (j - 1) % 2 := (pc h).symm
theorem pe2 {j : Nat} (h : ¬j = 0) : j - 1 + 1 = j := Nat.succ_pred_eq_of_ne_zero h
theorem pe {j : Nat} (h : ¬j % 2 = 0) : j - 1 + 1 = j := pe2 fun e => h (by rw [e])
theorem pd {j : Nat} (h : ¬j % 2 = 0) : (j - 1) % 2 = 0 := by
  rw [pc fun e => h (by rw [e])]; exact pb h
theorem pe3 {i j : Nat} (h : i < j) : j - 1 + 1 = j := pe2 (Nat.ne_zero_of_lt h)
theorem pf {i : Nat} : (i + 2) % 2 = i % 2 := Nat.add_mod_right i 2
theorem pg {a b : Nat} (h : ¬a % 2 = 0) (h2 : ¬b % 2 = 0) : a % 2 = b % 2 := by
  rw [Nat.mod_two_ne_zero.mp h, Nat.mod_two_ne_zero.mp h2]
theorem pg2 {a b : Nat} (h : a % 2 = 0) (h2 : b % 2 = 0) : a % 2 = b % 2 := h.trans h2.symm
theorem ph {i j : Nat} (h : (i + 1) % 2 = j % 2) (h2 : i + 1 < j) : i % 2 = (j - 1) % 2 := by
  rw [pc (Nat.ne_zero_of_lt h2), Nat.add_mod, ← h, ← Nat.add_mod]; exact pf.symm
theorem pi1 {i j n : Nat} (h : i < j) (h2 : j ≤ n) : j - 1 < n := Nat.lt_of_lt_of_le (Nat.pred_lt (Nat.ne_zero_of_lt h)) h2
theorem pi2 {j n : Nat} (h : j ≤ n) : j - 1 ≤ n := Nat.le_trans (Nat.sub_le j 1) h
theorem nm1 {a R m mid : Nat} (h : R - a ≤ m + 1) (b : mid < R) (c : a < mid) : mid - a ≤ m :=
  Nat.le_of_lt_succ (Nat.lt_of_lt_of_le (Nat.sub_lt_sub_right (Nat.le_of_lt c) b) h)
theorem nm2 {a R m mid : Nat} (h : R - a ≤ m + 1) (b : a < mid) (c : mid < R) : R - mid ≤ m :=
  Nat.le_of_lt_succ (Nat.lt_of_lt_of_le (Nat.sub_lt_sub_left (Nat.lt_trans b c) b) h)
theorem nm3 {a b c : Nat} (h1 : a < b) (h2 : b < c) : c - b + (b - a) = c - a := Nat.sub_add_sub_cancel (Nat.le_of_lt h2) (Nat.le_of_lt h1)
theorem nm4 {a R mid : Nat} (h : a < R) (h1 : ¬a + 1 = R) (e : (a + R) / 2 = mid) : a < mid := by
  rw [← e]
  exact (Nat.le_div_iff_mul_le (by decide)).mpr (by rw [Nat.mul_two, Nat.succ_add, Nat.add_succ]; exact Nat.add_lt_add_left (Nat.lt_of_le_of_ne h h1) a)
theorem nm5 {a R mid : Nat} (h : a < R) (e : (a + R) / 2 = mid) : mid < R := by
  rw [← e]
  exact (Nat.div_lt_iff_lt_mul (by decide)).mpr (by rw [Nat.mul_two]; exact Nat.add_lt_add_right h R)
theorem nm6 {a b c : Nat} (h1 : a ≤ b) (h2 : b ≤ c) : c - a = b - a + (c - b) := by
  rw [Nat.add_comm]; exact (Nat.sub_add_sub_cancel h2 h1).symm
theorem nm8 {L k s : Nat} (h : L - s = k + 1) : L - (s + 1) = k := by rw [Nat.sub_add_eq, h]; rfl
theorem nm7 {k d p : Nat} (h : p = d + (k + 1)) : p - d = p - (d + 1) + 1 := by
  have e : p - d = k + 1 := by rw [h]; exact Nat.add_sub_cancel_left _ _
  rw [e, nm8 e]
theorem nm9 {e n d : Nat} (h : e ≤ n) : min e n - d = e - d := by rw [Nat.min_eq_left h]
theorem sm2 {a b x y n : Nat} (h : a ≤ x) (k : b ≤ y) (e : x + y ≤ n) : a + b ≤ n := Nat.le_trans (Nat.add_le_add h k) e
theorem sml {a b x y n : Nat} (h : a ≤ x) (k : b ≤ y) (e : x + y < n) : a + b < n := Nat.lt_of_le_of_lt (Nat.add_le_add h k) e
theorem toN1 {z r : Int} (h : 0 ≤ z) (k : 0 ≤ r) : (z + 16 * r).toNat = z.toNat + 16 * r.toNat := by
  match z, r, h, k with
  | .ofNat a, .ofNat b, _, _ => rfl
theorem toN2 {z : Int} (h : 0 ≤ z) : z / 15 % 3 = ((z.toNat / 15 % 3 : Nat) : Int) := by
  match z, h with
  | .ofNat a, _ => rfl
theorem toN3 {z : Int} (h : 0 ≤ z) : z % 15 + 1 = ((z.toNat % 15 + 1 : Nat) : Int) := by
  match z, h with
  | .ofNat a, _ => rfl
theorem toN4 {z : Int} (h : 0 ≤ z) (k : z < 16) : max z 0 % 16 = z := by
  rw [Int.max_eq_left h, Int.emod_eq_of_lt h k]
theorem dv1 {z r : Int} (h : 0 ≤ z) (k : z < 16) : (z.toNat + 16 * r.toNat) / 16 = r.toNat := by
  rw [Nat.add_mul_div_left _ _ (by decide), Nat.div_eq_of_lt ((Int.toNat_lt h).mpr k), Nat.zero_add]
theorem q3 {n i m : Nat} (hm : m = n - i) (h : i < n) : n - (i + 1) < m := by
  rw [hm]; exact Nat.sub_lt_sub_left h (Nat.lt_succ_self i)
theorem q4 {n i : Nat} (h : i < n) : n - (i + 1) < n - i := q3 rfl h
theorem q5 {n i : Nat} (h : i < n) : n + 1 - (i + 1) < n + 1 - i := q4 (Nat.lt_succ_of_lt h)
theorem fm1 {R mid Lo n : Nat} (h : n ≤ 16) (k : R ≤ n) (j : Lo < mid) : R - mid ≤ 15 :=
  Nat.le_trans (Nat.sub_le_sub_right (Nat.le_trans k h) mid) (Nat.sub_le_sub_left (Nat.zero_lt_of_lt j) 16)
theorem sl1 {s d k n e : Nat} (hk : s - d < k + 1) (f1 : d ≤ e) (f2 : e < n) (f3 : n ≤ s) : s - n < k :=
  Nat.lt_of_lt_of_le (Nat.sub_lt_sub_left (Nat.lt_of_lt_of_le (Nat.lt_of_le_of_lt f1 f2) f3) (Nat.lt_of_le_of_lt f1 f2)) (Nat.le_of_lt_succ hk)
theorem mi1 {L M n R : Nat} (h1 : L ≤ M) (h2 : M ≤ R) (h3 : R ≤ n) : min L n + (M - L) = M := by
  rw [Nat.min_eq_left (Nat.le_trans h1 (Nat.le_trans h2 h3)), Nat.add_sub_of_le h1]
theorem mi2 {L M n R : Nat} (h1 : L ≤ M) (h2 : M ≤ R) (h3 : R ≤ n) : M + (R - (min L n + (M - L))) = R := by
  rw [mi1 h1 h2 h3, Nat.add_sub_of_le h2]
theorem mi3 {L n R : Nat} (h1 : L ≤ R) (h2 : R ≤ n) : min L n + (R - L + (n - R)) = n := by
  rw [← Nat.add_assoc, mi1 h1 h2 (Nat.le_refl _), Nat.add_sub_of_le h2]
theorem mi4 {L M n R : Nat} (h1 : L ≤ M) (h2 : M ≤ R) (h3 : R ≤ n) : M ≤ min L n + (M - L) := Nat.le_of_eq (mi1 h1 h2 h3).symm
theorem mi5 {L M n R : Nat} (h1 : L ≤ M) (h2 : M ≤ R) (h3 : R ≤ n) : min L n + (M - L) ≤ R := by rw [mi1 h1 h2 h3]; exact h2
theorem mi6 {L M n R : Nat} (h1 : L ≤ M) (h2 : M ≤ R) (h3 : R ≤ n) : min L n + (M - L) ≤ M := Nat.le_of_eq (mi1 h1 h2 h3)
theorem bs1 {hi lo mid k : Nat} (hk : hi - lo = k) (h1 : lo ≤ mid) (h2 : mid < hi) : hi - (mid + 1) < k := by
  rw [← hk]; exact Nat.sub_lt_sub_left (Nat.lt_of_le_of_lt h1 h2) (Nat.lt_succ_of_le h1)
theorem bs2 {hi lo mid k : Nat} (hk : hi - lo = k) (h1 : lo ≤ mid) (h2 : mid < hi) : mid - lo < k := by
  rw [← hk]; exact Nat.sub_lt_sub_right h1 h2
theorem bs3 {hi lo : Nat} (h : lo < hi) : lo ≤ (lo + hi) / 2 :=
  (Nat.le_div_iff_mul_le (by decide)).mpr (by rw [Nat.mul_two]; exact Nat.add_le_add_left (Nat.le_of_lt h) lo)
theorem bs4 {hi lo : Nat} (h : lo < hi) : (lo + hi) / 2 < hi := nm5 h rfl
theorem tc4 {k : Nat} (h : k < 4) : 48 + k = 48 ∨ 48 + k = 49 ∨ 48 + k = 50 ∨ 48 + k = 51 := by
  match k, h with
  | 0, _ | 1, _ | 2, _ | 3, _ => decide
theorem tc5 {x : Nat} (h : x = 48 ∨ x = 49 ∨ x = 50 ∨ x = 51) : x = 48 + (x - 48) := by
  rcases h with rfl | rfl | rfl | rfl <;> rfl
theorem tc6 {x : Nat} (h : x = 48 ∨ x = 49 ∨ x = 50 ∨ x = 51) : 48 ≤ x ∧ x < 52 := by
  rcases h with rfl | rfl | rfl | rfl <;> decide
theorem tc7 {x : Nat} (h : x = 48 ∨ x = 49 ∨ x = 50 ∨ x = 51) : x - 48 < 4 := by
  rcases h with rfl | rfl | rfl | rfl <;> decide
theorem cA {c : Nat} (h : c = 46 ∨ c = 97 ∨ c = 98 ∨ c = 99) : c ≠ 13 ∧ c ≠ 10 := by
  rcases h with rfl | rfl | rfl | rfl <;> decide
theorem cB {c : Nat} (h : c = 46 ∨ c = 97 ∨ c = 98 ∨ c = 99) : c < 128 := by
  rcases h with rfl | rfl | rfl | rfl <;> decide
theorem dm4 {i j : Nat} (h : j < 4) : (4 * i + j) / 4 = i ∧ (4 * i + j) % 4 = j := by
  rw [Nat.mul_add_div (by decide), Nat.mul_add_mod, Nat.div_eq_of_lt h, Nat.mod_eq_of_lt h]; exact ⟨rfl, rfl⟩
theorem dm4d {i j : Nat} (h : j < 4) : (4 * i + j) / 4 = i := (dm4 h).1
theorem dm4m {i j : Nat} (h : j < 4) : (4 * i + j) % 4 = j := (dm4 h).2
theorem dm5 {c k g : Nat} (h : c / 4 = k) (e : g = c % 4) : 4 * k + g = c := by rw [← h, e]; exact Nat.div_add_mod c 4
theorem dm7 {c k g : Nat} (hr : ¬c / 4 = k) (b : g < 4) (h : 4 * k + g = c) : False := hr (by rw [← h, dm4d b])
theorem dm8 {c k e : Nat} (hr : c % 4 = k) (b : e = 48 + c / 4) : 4 * (e - 48) + k = c := by
  rw [b, Nat.add_sub_cancel_left]; exact dm5 rfl hr.symm
theorem dm9 {c k e : Nat} (hk : k < 4) (t : 48 ≤ e) (b : 4 * (e - 48) + k = c) : e = 48 + c / 4 := by
  rw [← b, dm4d hk, Nat.add_sub_of_le t]
theorem dm10 {c k e : Nat} (hk : k < 4) (hr : ¬c % 4 = k) (b : 4 * (e - 48) + k = c) : False := hr (by rw [← b, dm4m hk])
theorem m16 {k n : Nat} (h : n = 16) (hk : k < 4) : min (4 * (k : Int)).toNat n = 4 * k := by
  rw [h]; match k, hk with
  | 0, _ | 1, _ | 2, _ | 3, _ => rfl
theorem m16b {k : Nat} (hk : k < 4) : min (4 * (k : Int)).toNat 16 = 4 * k := m16 rfl hk
theorem m16c {k : Nat} (hk : k < 4) : min (4 * (k : Int) + 4).toNat 16 = 4 * k + 4 := by
  match k, hk with
  | 0, _ | 1, _ | 2, _ | 3, _ => rfl
theorem subc {a b : Nat} (h : a ≤ b) : (b : Int) - a = ((b - a : Nat) : Int) := (Int.ofNat_sub h).symm
theorem subc2 {a b : Nat} (h : a < b) : (b : Int) - a = ((b - a : Nat) : Int) := subc (Nat.le_of_lt h)
theorem subc4 {a b : Nat} (h : a < b) : ((b : Int) - a) * 4 = ((4 * (b - a) : Nat) : Int) := by
  rw [subc2 h, Int.mul_comm]; rfl
theorem c4 {a b n : Nat} (h : b < n) (k : n ≤ 16) : ((4 * (b - a) : Nat) : Int) ≤ 1000000 :=
  Int.ofNat_le.mpr (Nat.le_trans (Nat.mul_le_mul_left 4 (Nat.le_trans (Nat.sub_le b a) (Nat.le_of_lt (Nat.lt_of_lt_of_le h k)))) (by decide))
theorem c4b {a b R n : Nat} (h : b < R) (j : R ≤ n) (k : n ≤ 16) : ((4 * (b - a) : Nat) : Int) ≤ 1000000 := c4 (Nat.lt_of_lt_of_le h j) k
theorem gm1 {x y z i j : Nat} (hij : i ≤ j + 1) (e : ¬i = j + 1) (h1 : x + (j - i) ≤ y) (h2 : y < z) : x + (j + 1 - i) ≤ z := by
  rw [Nat.succ_sub (Nat.le_of_lt_succ (Nat.lt_of_le_of_ne hij e))]; exact Nat.lt_of_le_of_lt h1 h2
theorem ci3 {i : Nat} : ((i + 1 : Nat) : Int) - 1 = i := Int.add_sub_cancel (i : Int) 1
theorem ci4 {i : Nat} : (((i + 1 : Nat) : Int) - 1) % 2 = ((i % 2 : Nat) : Int) := by rw [ci3]; rfl
theorem ci5 {i : Nat} : ((i % 2 : Nat) : Int) < 2 ^ 63 := Int.lt_trans (Int.ofNat_lt.mpr (Nat.mod_lt i (by decide))) (by decide)
theorem ci6 {i : Nat} : ((i / 15 % 3 : Nat) : Int) < 2 ^ 63 := Int.lt_trans (Int.ofNat_lt.mpr (Nat.mod_lt _ (by decide))) (by decide)
theorem ci7 {i n : Nat} (h : i < n) (k : n ≤ 1000) : (i : Int) < 2 ^ 63 := Int.lt_trans (Int.ofNat_lt.mpr (Nat.lt_of_lt_of_le h k)) (by decide)
theorem ci8 {i n m : Nat} (h : i < n) (e : n = m) (k : m ≤ 12) : (i : Int) < 2 ^ 63 := ci7 h (e ▸ Nat.le_trans k (by decide))
theorem ci9 {i n : Nat} (h : i + 1 ≤ n) (k : n ≤ 100) : (i : Int) < 2 ^ 63 := ci7 h (Nat.le_trans k (by decide))
theorem ci10 {i n : Nat} (h : i < n) (k : n ≤ 1000) : ((i + 1 : Nat) : Int) < 2 ^ 63 := Int.lt_of_le_of_lt (Int.ofNat_le.mpr (Nat.le_trans h k)) (by decide)
theorem ci11 {i n m : Nat} (h : i < n) (e : n = m) (k : m ≤ 12) : 97 + (i : Int) ≤ 1114111 :=
  Int.ofNat_le (m := 97 + i) (n := 1114111) |>.mpr (Nat.le_trans (Nat.add_le_add_left (Nat.le_of_lt (Nat.lt_of_lt_of_le h (e ▸ k))) 97) (by decide))
theorem ci12 {i n m : Nat} (h : i ≤ n) (e : n = m) (k : m ≤ 12) : 97 + (i : Int) ≤ 1114111 :=
  Int.ofNat_le (m := 97 + i) (n := 1114111) |>.mpr (Nat.le_trans (Nat.add_le_add_left (Nat.le_trans h (e ▸ k)) 97) (by decide))
theorem ci13 {n : Nat} : -2 ^ 62 ≤ (n : Int) := Int.le_trans (by decide) (Int.natCast_nonneg n)
theorem ci15 {n : Nat} (h : ¬n = 0) : 1 < ((n + 1 : Nat) : Int) := Int.ofNat_lt.mpr (Nat.succ_lt_succ (Nat.pos_of_ne_zero h))
theorem n24 {n : Nat} (h : n = 2 ∨ n = 4) : (n : Int) < 2 ^ 64 := by rcases h with rfl | rfl <;> decide
theorem oc0 {p k T y : Nat} (hk : p + k = T + 1) (hl : T = p + y) : k = y + 1 := by
  rw [hl, Nat.add_assoc] at hk; exact Nat.add_left_cancel hk
theorem oc1 {p k T y : Nat} (hk : p + k = T + 1) (hl : T = p + y) : k = k - 1 + 1 := by rw [oc0 hk hl]; rfl
theorem oc2 {p k T y : Nat} (hk : p + k = T + 1) (hl : T = p + 2 + y) : k = k - 2 + 1 + 1 := by
  have e := oc0 hk (hl.trans (Nat.add_assoc _ _ _)); rw [e, Nat.add_comm 2 y]; rfl
theorem oc3 {p k T y : Nat} (hk : p + k = T + 1) (hl : T = p + 2 + y) : p + 2 + (k - 2) = T + 1 := by
  rw [← hk, Nat.add_assoc]; congr 1; rw [Nat.add_comm]; exact (oc2 hk hl).symm
theorem oc4 {p k T : Nat} (hk : p + k = T + 1) (h : k = k - 1 + 1) : p + 1 + (k - 1) = T + 1 := by
  rw [← hk, Nat.add_assoc, Nat.add_comm 1, ← h]
theorem pi3 {j n : Nat} (h : j ≤ n) (k : ¬j % 2 = 0) : j - 1 < n := Nat.lt_of_lt_of_le (Nat.pred_lt fun e => k (by rw [show j = 0 from e])) h
theorem pk {j : Nat} (h1 : 0 < j) (h : j % 2 = 0) : ¬(j - 1) % 2 = 0 := by
  rw [pc (Nat.ne_of_gt h1)]; exact pa h
theorem dq16 {b : Nat} (h : b ≤ 64) : (b + 4 - 1) / 4 ≤ 16 := Nat.le_of_lt_succ (Nat.div_lt_of_lt_mul (Nat.lt_of_le_of_lt (Nat.add_le_add_right h 3) (by decide)))
theorem dq64 {b : Nat} (h : b ≤ 64) : (b + 4 - 1) / 4 ≤ 64 := Nat.le_trans (dq16 h) (by decide)
theorem dq642 {b : Nat} (h : b ≤ 64) : (b + 2 - 1) / 2 ≤ 64 := Nat.le_of_lt_succ (Nat.div_lt_of_lt_mul (Nat.lt_of_le_of_lt (Nat.add_le_add_right h 1) (by decide)))
theorem du2 {b n : Nat} (h : 0 < n) : (b : Int) + n - 1 = ((b + n - 1 : Nat) : Int) := (Int.ofNat_sub (Nat.le_trans h (Nat.le_add_left n b))).symm
theorem kq1 {k n : Nat} (hk : k ≤ n) : k - 4 ≤ n - 4 := Nat.sub_le_sub_right hk 4
theorem kq2 {k n T : Nat} (h : n < 4 * (T + 1)) (hk : k ≤ n) (hk4 : ¬k ≤ 4) : n - 4 < 4 * T :=
  Nat.sub_lt_left_of_lt_add (Nat.le_of_lt (Nat.lt_of_lt_of_le (Nat.lt_of_not_le hk4) hk)) (by rw [Nat.add_comm]; exact h)
theorem kq3 {k : Nat} (hk4 : ¬k ≤ 4) : k = 4 + (k - 4) := (Nat.add_sub_of_le (Nat.le_of_lt (Nat.lt_of_not_le hk4))).symm
theorem kq4 {i k : Nat} (h : i < k) : k = i + (k - i) := (Nat.add_sub_of_le (Nat.le_of_lt h)).symm
theorem r4 {o k : Nat} (h : o < 4) (hk : k < 4) : 4 * o + k < 16 :=
  Nat.lt_of_lt_of_le (Nat.add_lt_add_left hk (4 * o)) (Nat.mul_le_mul_left 4 h)
theorem hs1 {e m : Nat} (h : 97 ≤ e) (k : e < 97 + m) : e - 97 < m := Nat.sub_lt_left_of_lt_add h k
theorem mm1 {i n : Nat} (h : i ≤ n) : min i n + 1 = i + 1 := by rw [Nat.min_eq_left h]
theorem ne1 {i m : Nat} (h : i < m + 1) (h1 : ¬i = m) (h2 : ¬i + 1 = m) : i + 1 < m := Nat.lt_of_le_of_ne (Nat.lt_of_le_of_ne (Nat.le_of_lt_succ h) h1) h2
theorem sa1 {s L : Nat} (hs : s ≤ L) (hl : ¬s = L) : s ≤ L ∧ ¬L - s = 0 := ⟨hs, Nat.sub_ne_zero_of_lt (Nat.lt_of_le_of_ne hs hl)⟩
theorem sa2 {s L : Nat} (hs : s ≤ L) : L < s + (L + 1 - s) := by rw [Nat.add_sub_of_le (Nat.le_succ_of_le hs)]; exact Nat.lt_succ_self L
theorem sa3 {s L q : Nat} (hk : L - s = 0) (h : s ≤ q) (this : q < L) : False := absurd hk (Nat.sub_ne_zero_of_lt (Nat.lt_of_le_of_lt h this))
theorem sa4 {s L : Nat} {p : Prop} (hk : L - s = 0) (h : s < L) : p := absurd hk (Nat.sub_ne_zero_of_lt h)
theorem m15 {z : Nat} : z % 15 + 1 < 16 ∧ 1 ≤ z % 15 + 1 := ⟨Nat.succ_lt_succ (Nat.mod_lt z (by decide)), Nat.succ_le_succ (Nat.zero_le _)⟩
theorem lsz {i n : Nat} (h : i < n) (k : n ≤ 1000) : i + 1 + 1 ≤ 16777216 := Nat.le_trans (Nat.succ_le_succ (Nat.le_trans h k)) (by decide)
theorem s16 {c : Nat} (h : c ≤ 16) : 16 - (c : Int) = ((16 - c : Nat) : Int) := subc h
theorem h97 {m Δ : Nat} (h : m < Δ) : 97 ≤ 97 + m ∧ 97 + m < 97 + Δ := ⟨Nat.le_add_right _ _, Nat.add_lt_add_left h 97⟩
theorem as1 {a n : Nat} (h0 : 0 < n) (h : a ≤ n - 1) : a < n := Nat.lt_of_le_of_lt h (Nat.pred_lt (Nat.ne_of_gt h0))
theorem ld1 {l d n : Nat} (h : l ≤ 2 * d) (k : d ≤ n) (j : n ≤ 400) : l ≤ 1000 := Nat.le_trans h (Nat.le_trans (Nat.mul_le_mul_left 2 (Nat.le_trans k j)) (by decide))
theorem ld2 {l l1 d n : Nat} (a : l1 ≤ l + 1) (h : l ≤ 2 * d) (k : d ≤ n) (j : n ≤ 400) : l1 ≤ 1000 := Nat.le_trans a (Nat.le_trans (Nat.succ_le_succ (Nat.le_trans h (Nat.mul_le_mul_left 2 (Nat.le_trans k j)))) (by decide))
theorem ld3 {l l1 d s e : Nat} (a : l1 ≤ l + 1) (h : l ≤ 2 * d) (f1 : d ≤ s) (f2 : s < e) : l1 + 1 ≤ 2 * e :=
  Nat.le_trans (Nat.succ_le_succ (Nat.le_trans a (Nat.succ_le_succ h))) (Nat.mul_le_mul_left 2 (Nat.lt_of_le_of_lt f1 f2) : 2 * (d + 1) ≤ 2 * e)
theorem ld4 {s s1 d e n r : Nat} (a : s1 ≤ s + (e - d)) (h : s ≤ 11 * d) (f1 : d ≤ e) (f2 : e < n) (k : r ≤ 10) : s1 + (r + 0) ≤ 11 * n := by omega
theorem ld5 {s d n : Nat} (h : s ≤ 11 * d) (k : d ≤ n) (j : n ≤ 400) : s + (n - d) ≤ 10000 :=
  Nat.le_trans (Nat.add_le_add (Nat.le_trans h (Nat.mul_le_mul_left 11 (Nat.le_trans k j))) (Nat.le_trans (Nat.sub_le n d) j)) (by decide)
theorem ld6 {d e n : Nat} (h : e ≤ n) (j : n ≤ 400) : e - d ≤ 16777216 := Nat.le_trans (Nat.sub_le e d) (Nat.le_trans h (Nat.le_trans j (by decide)))
theorem un1 {u n : Nat} (h : u + 12 * (n + 1) < 9900) : u + 3 + 12 * n < 9900 := Nat.lt_of_le_of_lt (by rw [Nat.mul_succ, Nat.add_assoc, Nat.add_comm 3]; exact Nat.add_le_add_left (Nat.add_le_add_left (by decide) _) u) h
theorem np1 {c k : Nat} (h2 : ¬c < k) (h3 : ¬c = k) : ¬c < k + 1 := fun h => h2 (Nat.lt_of_le_of_ne (Nat.le_of_lt_succ h) h3)
theorem hourGe : ∀ v ∈ hourC, 97 ≤ v := by decide
theorem hourC_of {h Δ : Nat} (hd : Δ ≤ 12) (h1 : 97 ≤ h ∧ h < 97 + Δ) : h ∈ hourC := by
  have z : ∀ i, i < 12 → 97 + i ∈ hourC := by decide
  have := z (h - 97) (Nat.lt_of_lt_of_le (Nat.sub_lt_left_of_lt_add h1.1 h1.2) hd)
  rwa [Nat.add_sub_of_le h1.1] at this
end Mine
end
/-! part H0 -/
section
open PySem PySem.W PySem.Calls PyProof.Rows
set_option maxRecDepth 100000
set_option maxHeartbeats 4000000
namespace Mine

/-! The abstract heap: what is known at an address: an object, a plain list's items, a frame's locals, a word on the object. -/
def locMap (ns : List Str) (vs : List (Option Value)) (x : Str) : Option Value := ((ns.zip vs).lookup x).join
inductive Item where
  | obj (o : Obj)
  | lst (vs : List Value)
  | loc (ns : List Str) (vs : List (Option Value))
  | any (P : Obj → Prop)
abbrev HM := Addr → Option Item
def Item.At (h : Heap) (a : Addr) : Item → Prop
  | .obj o => h.get? a = some o
  | .lst vs => h.PlainList a vs.toArray
  | .loc ns vs => h.Ns a (locMap ns vs)
  | .any P => ∃ o, h.get? a = some o ∧ P o
def Own (H : HM) (h : Heap) : Prop := ∀ a i, H a = some i → i.At h a
def upd (H : HM) (a : Addr) (i : Item) : HM := fun b => if b = a then some i else H b
theorem upd_same {H : HM} {a : Addr} {i : Item} : upd H a i a = some i := if_pos rfl
theorem upd_ne {H : HM} {a b : Addr} {i : Item} (h : b ≠ a) : upd H a i b = H b := if_neg h
theorem nn {H : HM} {a b : Addr} {i : Item} (e : H a = some i) (h : H b = none) : a ≠ b := fun z => by
  rw [z, h] at e; cases e
theorem upd_old {H : HM} {a q : Addr} {i j : Item} (hq : H q = none) (ha : H a = some i) : upd H q j a = some i := by
  rw [upd_ne (by rintro rfl; rw [hq] at ha; cases ha)]; exact ha
theorem upd_off {H : HM} {a q : Addr} {j : Item} (ha : H a = none) (n : a ≠ q) : upd H q j a = none := by rw [upd_ne n]; exact ha
theorem upd_upd {H : HM} {a : Addr} {i j : Item} : upd (upd H a i) a j = upd H a j := by
  funext b; unfold upd; split <;> rfl
theorem upd_swap {H : HM} {a b : Addr} {i j : Item} (n : a ≠ b) : upd (upd H a i) b j = upd (upd H b j) a i := by
  funext c; unfold upd
  by_cases h1 : c = a
  · subst h1; simp [n]
  · simp [h1]
def Sub (X H : HM) : Prop := ∀ a i, X a = some i → H a = some i
theorem Sub.refl {H : HM} : Sub H H := fun _ _ e => e
theorem Sub.trans {X Y Z : HM} (x : Sub X Y) (y : Sub Y Z) : Sub X Z := fun a i e => y a i (x a i e)
theorem Sub.new {H : HM} {q : Addr} {j : Item} (hq : H q = none) : Sub H (upd H q j) := fun _ _ e => upd_old hq e
theorem Sub.upd {X H : HM} {q : Addr} {j : Item} (s : Sub X H) : Sub (upd X q j) (upd H q j) := fun a i e => by
  unfold Mine.upd at e ⊢
  split at e
  · rename_i z; rw [if_pos z]; exact e
  · rename_i z; rw [if_neg z]; exact s a i e
theorem Item.At.there {h : Heap} {a : Addr} {i : Item} (x : i.At h a) : ∃ o, h.get? a = some o := by
  cases i with
  | obj o => exact ⟨o, x⟩
  | lst vs => obtain ⟨n, e⟩ := x; exact ⟨_, e⟩
  | loc ns vs => obtain ⟨o, _, _, e, _⟩ := x; exact ⟨o, e⟩
  | any P => obtain ⟨o, e, _⟩ := x; exact ⟨o, e⟩
theorem Item.At.keeps {h h' : Heap} {a : Addr} {i : Item} (x : i.At h a) (k : ∀ o, h.get? a = some o → h'.get? a = some o) : i.At h' a := by
  cases i with
  | obj o => exact k o x
  | lst vs => obtain ⟨n, e⟩ := x; exact ⟨n, k _ e⟩
  | loc ns vs => obtain ⟨o, es, ep, e, r⟩ := x; exact ⟨o, es, ep, k o e, r⟩
  | any P => obtain ⟨o, e, p⟩ := x; exact ⟨o, k o e, p⟩
theorem Own.lt {H : HM} {h : Heap} (O : Own H h) {a : Addr} {i : Item} (e : H a = some i) : a < h.objs.size := by
  obtain ⟨o, q⟩ := (O a i e).there
  exact Heap.lt_size q
theorem Own.fresh {H : HM} {h : Heap} (O : Own H h) : H h.objs.size = none := by
  cases e : H h.objs.size with
  | none => rfl
  | some i => exact absurd (O.lt e) (Nat.lt_irrefl _)

structure St (B H : HM) (h : Heap) : Prop where
  base : Own B h
  own : Own H h
  dis : ∀ a i, H a = some i → B a = none
theorem St.keeps {B H : HM} {h h' : Heap} (s : St B H h) (k : ∀ a o, h.get? a = some o → h'.get? a = some o) : St B H h' :=
  ⟨fun a i e => (s.base a i e).keeps (k a), fun a i e => (s.own a i e).keeps (k a), s.dis⟩
theorem St.weaken {B H H' : HM} {h : Heap} (s : St B H h) (k : ∀ a i, H' a = some i → H a = some i) : St B H' h :=
  ⟨s.base, fun a i e => s.own a i (k a i e), fun a i e => s.dis a i (k a i e)⟩
/-- a new object at a new address -/
theorem St.put {B H : HM} {h h' : Heap} {q : Addr} {i : Item} (s : St B H h) (k : ∀ a o, a ≠ q → h.get? a = some o → h'.get? a = some o) (hq : i.At h' q) (hB : B q = none) : St B (upd H q i) h' := by
  refine ⟨fun a j e => (s.base a j e).keeps (k a · (fun z => by subst z; rw [hB] at e; cases e)), fun a j e => ?_, fun a j e => ?_⟩
  · by_cases hz : a = q
    · subst hz; rw [upd_same] at e; cases e; exact hq
    · rw [upd_ne hz] at e; exact (s.own a j e).keeps (k a · hz)
  · by_cases hz : a = q
    · subst hz; exact hB
    · rw [upd_ne hz] at e; exact s.dis a j e

abbrev PM (w : World) : Model := model PySem.Challenge.rw_sn0050_01.row.prog w

/-- room for n frames more -/
structure Room (A : Around) (n : Nat) : Prop where
  depth : A.depth + n < 1000
  units : A.units + 12 * n < 9900
  hand : A.handled = none
theorem Room.deeper {A : Around} {n : Nat} {env : Env} (r : Room A (n + 1)) : Room (A.deeper env) n := ⟨by have := r.depth; show A.depth + 1 + n < 1000; omega, by have := r.units; show A.units + 3 + 12 * n < 9900; (exact Mine.un1 this), r.hand⟩
theorem Room.mono {A : Around} {n m : Nat} (r : Room A n) (h : m ≤ n) : Room A m := ⟨by have := r.depth; (exact Nat.lt_of_le_of_lt (Nat.add_le_add_left h _) this), by have := r.units; (exact sml (Nat.le_refl _) (Nat.mul_le_mul_left _ h) this), r.hand⟩
theorem Room.d {A : Around} {n : Nat} (r : Room A n) : A.depth < recursionLimit := by have := r.depth; show A.depth < 1000; (exact Nat.lt_of_lt_of_le (Nat.lt_sub_of_add_lt this) (Nat.sub_le _ _))
theorem Room.u {A : Around} {n : Nat} (r : Room A n) : A.units < cLine := by have := r.units; show A.units < 9900; (exact Nat.lt_of_lt_of_le (Nat.lt_sub_of_add_lt this) (Nat.sub_le _ _))

/-- a tree's weakest precondition over abstract states -/
def PostG {σ α : Type} (S : Shared) (J : σ → Heap → Prop) (Q : α → σ → Prop) (v : α) (s' : Shared) : Prop := ∃ h' t' x', s' = at' S h' t' ∧ J x' h' ∧ Q v x'
def wpG {σ α : Type} (w : World) (S : Shared) (J : σ → Heap → Prop) (A : Around) (t : Sem α) (Q : α → σ → Prop) (x : σ) : Prop :=
  ∀ h tk, J x h → wpAny (PM w) A t (PostG S J Q) (fun _ _ => False) (at' S h tk)
def codeG {σ : Type} (w : World) (S : Shared) (J : σ → Heap → Prop) (A : Around) (c : Code) (Q : Result → σ → Prop) (x : σ) : Prop :=
  ∀ h tk, J x h → codeAny (PM w) A c (PostG S J Q) (at' S h tk)
section
variable {w : World} {S : Shared} {A : Around} {σ α β : Type} {J : σ → Heap → Prop} {x : σ}

theorem wpG_mono {t : Sem α} {Q Q' : α → σ → Prop} (y : wpG w S J A t Q x) (k : ∀ v x', Q v x' → Q' v x') : wpG w S J A t Q' x :=
  fun h tk s => wpAny_mono (y h tk s) (fun v _ ⟨h', t', x', e, s2, q⟩ => ⟨h', t', x', e, s2, k v x' q⟩) fun _ _ e => e
theorem wpG_from {t : Sem α} {Q : α → σ → Prop} {x' : σ} (y : wpG w S J A t Q x') (k : ∀ h, J x h → J x' h) : wpG w S J A t Q x :=
  fun h tk s => y h tk (k h s)
theorem wpG_pure {a : α} {Q : α → σ → Prop} (q : Q a x) : wpG w S J A (pure a) Q x := fun h tk s => wpAny_pure ⟨h, tk, x, rfl, s, q⟩
theorem wpG_bind {m : Sem α} {f : α → Sem β} {Q : β → σ → Prop} (y : wpG w S J A m (fun a x' => wpG w S J A (f a) Q x') x) : wpG w S J A (m >>= f) Q x :=
  fun h tk s => wpAny_bind (wpAny_mono (y h tk s) (fun _ _ ⟨h', t', _, e, s2, q⟩ => by subst e; exact q h' t' s2) fun _ _ e => e)
theorem wpG_eq {m m' : Sem α} {Q : α → σ → Prop} (e : m = m') (y : wpG w S J A m' Q x) : wpG w S J A m Q x := by rw [e]; exact y
theorem wpG_holding {vs : List Value} {m : Sem α} {Q : α → σ → Prop} (y : wpG w S J A m Q x) : wpG w S J A (holding vs m) Q x :=
  fun h tk s => wpAny_holding (y h tk s)
theorem wpG_standAt {p : Pos} {Q : Unit → σ → Prop} (q : Q () x) : wpG w S J A (standAt p) Q x := fun h tk s => wpAny_standAt ⟨h, tk, x, rfl, s, q⟩
theorem wpG_rule {p : String} {Q : Unit → σ → Prop} (q : Q () x) : wpG w S J A (rule p) Q x := fun h tk s => wpAny_rule ⟨h, tk, x, rfl, s, q⟩
theorem wpG_point {Q : Unit → σ → Prop} (q : Q () x) : wpG w S J A point Q x := fun h tk s => wpAny_point ⟨h, tk, x, rfl, s, q⟩
theorem wpG_ite {c : Prop} [Decidable c] {a b : Sem α} {Q : α → σ → Prop} (y : if c then wpG w S J A a Q x else wpG w S J A b Q x) : wpG w S J A (if c then a else b) Q x := by
  split at y <;> simp_all
theorem wpG_onRaise {m : Sem α} {k : Value → Sem Unit} {Q : α → σ → Prop} (y : wpG w S J A m Q x) : wpG w S J A (m.onRaise k) Q x :=
  fun h tk s => wpAny_onRaise (wpAny_mono (y h tk s) (fun _ _ q => q) fun _ _ e => e.elim)
theorem wpG_call {f : Value} {pos : List Value} {kw : List (Str × Value)} {Q : Value → σ → Prop}
    (y : codeG w S J A (.call f ⟨pos, kw⟩) (fun r x' => ∃ v, r = .ok (.ret v) ∧ Q v x') x) : wpG w S J A (call f pos kw) Q x :=
  fun h tk s => wpAny_call (codeAny_mono (y h tk s) fun r _ ⟨h', t', x', e, s2, v, er, q⟩ => by subst er; exact ⟨h', t', x', e, s2, q⟩)
theorem codeG_mono {c : Code} {Q Q' : Result → σ → Prop} (y : codeG w S J A c Q x) (k : ∀ r x', Q r x' → Q' r x') : codeG w S J A c Q' x :=
  fun h tk s => codeAny_mono (y h tk s) fun r _ ⟨h', t', x', e, s2, q⟩ => ⟨h', t', x', e, s2, k r x' q⟩
theorem codeG_from {c : Code} {Q : Result → σ → Prop} {x' : σ} (y : codeG w S J A c Q x') (k : ∀ h, J x h → J x' h) : codeG w S J A c Q x :=
  fun h tk s => y h tk (k h s)
/-- from a tree's post over abstract states to the primitives' posts -/
theorem lift {m : Sem α} {R : α → σ → Prop} {R' : α → Shared → Prop} {h : Heap} {tk : Nat} (y : wpG w S J A m R x) (s : J x h)
    (k : ∀ a x1 h1 t1, R a x1 → J x1 h1 → R' a (at' S h1 t1)) : wpAny (PM w) A m R' (fun _ _ => False) (at' S h tk) :=
  wpAny_mono (y h tk s) (fun a _ ⟨h1, t1, x1, e, s1, q⟩ => by subst e; exact k a x1 h1 t1 q s1) fun _ _ e => e
theorem liftC {c : Code} {R : Result → σ → Prop} {R' : Result → Shared → Prop} {h : Heap} {tk : Nat} (y : codeG w S J A c R x) (s : J x h)
    (k : ∀ a x1 h1 t1, R a x1 → J x1 h1 → R' a (at' S h1 t1)) : codeAny (PM w) A c R' (at' S h tk) :=
  codeAny_mono (y h tk s) fun a _ ⟨h1, t1, x1, e, s1, q⟩ => by subst e; exact k a x1 h1 t1 q s1
theorem wpG_operate {vs : List Value} {m : Sem Value} {Q : Value → σ → Prop} (y : wpG w S J A m Q x) : wpG w S J A (operate vs m) Q x :=
  fun h tk s Γ p hΓ => by rw [Sem.wp_operate]; exact y h tk s Γ p hΓ
theorem wpG_release {vs keep : List Value} {Q : Unit → σ → Prop} (q : Q () x) : wpG w S J A (release vs keep) Q x :=
  fun h tk s Γ p hΓ => by rw [Sem.wp_release]; exact ⟨h, tk, x, rfl, s, q⟩
theorem wpG_fresh {Q : Tok → σ → Prop} (q : ∀ t, Q t x) : wpG w S J A fresh Q x := fun h tk s => wpAny_fresh ⟨h, tk + 1, x, rfl, s, q tk⟩
theorem wpG_mkInt {i : Int} {Q : Value → σ → Prop} (q : ∀ t, Q (.int i t) x) : wpG w S J A (mkInt i) Q x := fun h tk s => wpAny_mkInt ⟨h, tk + 1, x, rfl, s, q tk⟩
theorem wpG_mkText {y : Str} {Q : Value → σ → Prop} (q : ∀ t, Q (.str y t) x) : wpG w S J A (mkText y) Q x := fun h tk s => wpAny_mkText ⟨h, tk + 1, x, rfl, s, q tk⟩
theorem wpG_mkStr {y : Str} {Q : Value → σ → Prop} (hx : y.length ≤ sizeLine) (q : ∀ t, Q (.str y t) x) : wpG w S J A (mkStr y) Q x := fun h tk s => wpAny_mkStr ⟨h, tk + 1, x, rfl, s, q tk⟩ hx
theorem looksG {t : Sem α} {r : α} {Q : α → σ → Prop} (y : ∀ h, J x h → Looks (PM w) h t r) (q : Q r x) : wpG w S J A t Q x :=
  fun h tk s => Looks.here (y h s) ⟨h, tk, x, rfl, s, q⟩

/-! constants, plain forms -/
variable {env : Env} {k : Nat} {pos : Pos}
theorem e_name {n : Str} {Q : Value → σ → Prop} (hd : (n == ("__debug__" : Str)) = false) (q : wpG w S J A (loadName env n) Q x) : wpG w S J A (eval (.Name n pos) env) Q x := by
  rw [eval_Name env n pos hd]
  exact wpG_bind (wpG_standAt q)
theorem e_none {Q : Value → σ → Prop} (q : Q .none x) : wpG w S J A (eval (.Constant .none k pos) env) Q x := wpG_pure q
theorem e_bool {b : Bool} {Q : Value → σ → Prop} (q : Q (.bool b) x) : wpG w S J A (eval (.Constant (.bool b) k pos) env) Q x := wpG_pure q
theorem e_int {i : Int} {Q : Value → σ → Prop} (q : ∀ t, Q (.int i t) x) : wpG w S J A (eval (.Constant (.int i) k pos) env) Q x := wpG_mkInt q
theorem e_str {y : Str} {Q : Value → σ → Prop} (q : ∀ t, Q (.str y t) x) : wpG w S J A (eval (.Constant (.str y) k pos) env) Q x := wpG_mkText q
theorem e_bin {l r : Expr} {op : Operator} {Q : Value → σ → Prop} (y : wpG w S J A (eval l env) (fun a x1 => wpG w S J A (eval r env) (fun b x2 => wpG w S J A (binaryOp op a b) Q x2) x1) x) :
    wpG w S J A (eval (.BinOp l op r pos) env) Q x :=
  wpG_bind (wpG_mono y fun _ _ y => wpG_bind (wpG_holding (wpG_mono y fun _ _ z => wpG_bind (wpG_standAt (wpG_operate z)))))
theorem e_cmp {l r : Expr} {op : CmpOp} {Q : Value → σ → Prop} (y : wpG w S J A (eval l env) (fun a x1 => wpG w S J A (eval r env) (fun b x2 => wpG w S J A (compareOp op a b) Q x2) x1) x)
    (hm : behindInMarks op r = false := by with_unfolding_all rfl) : wpG w S J A (eval (.Compare l [op] [r] pos) env) Q x := by
  rw [eval_Compare1, markedBehindIn_of_false hm]
  exact wpG_bind (wpG_mono y fun _ _ y => wpG_bind (wpG_holding (wpG_mono y fun _ _ z => wpG_bind (wpG_standAt (wpG_operate z)))))
theorem t_cmp {l r : Expr} {op : CmpOp} {whole : Sem Value} {Q : Bool → σ → Prop} (y : wpG w S J A (eval l env) (fun a x1 => wpG w S J A (eval r env) (fun b x2 => wpG w S J A (compareOp op a b) (fun c x3 => wpG w S J A (truthy c) Q x3) x2) x1) x)
    (hm : behindInMarks op r = false := by with_unfolding_all rfl) : wpG w S J A (isTrue (.Compare l [op] [r] pos) env whole) Q x := by
  rw [isTrue_Compare1, markedBehindIn_of_false hm]
  exact wpG_bind (wpG_mono y fun _ _ y => wpG_bind (wpG_holding (wpG_mono y fun _ _ z => wpG_bind (wpG_standAt (wpG_bind (wpG_operate (wpG_mono z fun _ _ u => wpG_holding u)))))))
theorem t_bool {b : Bool} {Q : Bool → σ → Prop} (q : Q b x) : wpG w S J A (truthy (.bool b)) Q x := fun h tk s => wpAny_truthy_bool ⟨h, tk, x, rfl, s, q⟩
theorem t_none {Q : Bool → σ → Prop} (q : Q false x) : wpG w S J A (truthy .none) Q x := wpG_eq (m' := pure false) rfl (wpG_pure q)
theorem t_value {e : Expr} {whole : Sem Value} {Q : Bool → σ → Prop} (y : wpG w S J A whole (fun v x1 => wpG w S J A (truthy v) Q x1) x)
    (he : isTrue e env whole = (do let v ← whole; standAt e.pos; holding [v] (truthy v)) := by rfl) : wpG w S J A (isTrue e env whole) Q x := by
  rw [he]
  exact wpG_bind (wpG_mono y fun _ _ z => wpG_bind (wpG_standAt (wpG_holding z)))
theorem x_nil {Q : Flow → σ → Prop} (q : Q .next x) : wpG w S J A (execs [] env) Q x := wpG_pure q
abbrev seqQ (w : World) (S : Shared) (J : σ → Heap → Prop) (A : Around) (rest : List Stmt) (env : Env) (Q : Flow → σ → Prop) : Flow → σ → Prop := fun f x1 => match f with | .next => wpG w S J A (execs rest env) Q x1 | f => Q f x1
theorem x_cons {st : Stmt} {rest : List Stmt} {Q : Flow → σ → Prop} (y : wpG w S J A (exec st env) (seqQ w S J A rest env Q) x) : wpG w S J A (execs (st :: rest) env) Q x := by
  rw [execs_cons]
  refine wpG_bind (wpG_mono y fun f x1 y => ?_)
  cases f with
  | next => exact y
  | brk => exact wpG_pure y
  | cont => exact wpG_pure y
  | ret v => exact wpG_pure y
theorem x_expr {e : Expr} {Q : Flow → σ → Prop} (y : wpG w S J A (eval e env) (fun _ => Q .next) x) (hi : interactive env = false := by rfl) (hs : swapsWith e none pos.line env = pure false := by rfl) : wpG w S J A (exec (.Expr e pos) env) Q x := fun h tk s =>
  wpAny_Expr_any (lift y s fun _ x1 h1 t1 q s1 => ⟨h1, t1, x1, rfl, s1, q⟩) hi hs
theorem x_assign {n : Str} {p : Pos} {e : Expr} {Q : Flow → σ → Prop} (y : wpG w S J A (eval e env) (fun v x1 => wpG w S J A (storeName env n v) (fun _ => Q .next) x1) x) (hs : swapsWith e (some (.Name n p)) pos.line env = pure false := by rfl) :
    wpG w S J A (exec (.Assign [.Name n p] e pos) env) Q x := fun h tk s => wpAny_Assign_Name (lift y s fun _ x1 h1 t1 q s1 => q h1 t1 s1) hs
theorem x_return {e : Expr} {Q : Flow → σ → Prop} (y : wpG w S J A (eval e env) (fun v => Q (.ret v)) x) : wpG w S J A (exec (.Return (some e) pos) env) Q x := by
  rw [exec_Return_some]
  exact wpG_bind (wpG_standAt (wpG_bind (wpG_mono y fun _ _ q => wpG_pure q)))
theorem x_if {t : Expr} {b o : List Stmt} {Q : Flow → σ → Prop} (y : wpG w S J A (isTrue t env (eval t env)) (fun c x1 => if c then wpG w S J A (execs b env) Q x1 else wpG w S J A (execs o env) Q x1) x) : wpG w S J A (exec (.If t b o pos) env) Q x := by
  rw [exec_If]
  refine wpG_bind (wpG_standAt (wpG_bind (wpG_mono y fun c x1 y => ?_)))
  cases c <;> exact y
theorem e_ifexp {t b o : Expr} {Q : Value → σ → Prop} (y : wpG w S J A (isTrue t env (eval t env)) (fun c x1 => if c then wpG w S J A (eval b env) Q x1 else wpG w S J A (eval o env) Q x1) x) : wpG w S J A (eval (.IfExp t b o pos) env) Q x := fun h tk s =>
  wpAny_IfExp (lift y s fun c x1 h1 t1 q s1 => by cases c <;> exact q h1 t1 s1)
/-! calls -/
theorem s_nil {Q : List Value → σ → Prop} (q : Q [] x) : wpG w S J A (spliced []) Q x := wpG_pure q
theorem s_cons {m : Sem Value} {rest : List (Bool × Sem Value)} {Q : List Value → σ → Prop} (y : wpG w S J A m (fun v x1 => wpG w S J A (spliced rest) (fun vs => Q (v :: vs)) x1) x) : wpG w S J A (spliced ((false, m) :: rest)) Q x := fun h tk s =>
  spliced_cons (lift y s fun v x1 h1 t1 q s1 => lift q s1 fun vs x2 h2 t2 q2 s2 => ⟨h2, t2, x2, rfl, s2, q2⟩)
theorem a_pos {f : Value} {m : Sem Value} {rest : List (Bool × Sem Value)} {Q : Args → σ → Prop} (y : wpG w S J A (spliced ((false, m) :: rest)) (fun vs x1 => Q ⟨vs, []⟩ x1) x) : wpG w S J A (evalArgs f true ((false, m) :: rest) []) Q x := fun h tk s =>
  evalArgs_plain (lift y s fun vs x1 h1 t1 q s1 => ⟨h1, t1, x1, rfl, s1, q⟩)
theorem a_nil {f : Value} {Q : Args → σ → Prop} (q : Q ⟨[], []⟩ x) : wpG w S J A (evalArgs f true [] []) Q x := fun h tk s => evalArgs_nil3 ⟨h, tk, x, rfl, s, q⟩
def Keep (w : World) (J : σ → Heap → Prop) (f : Value) (x : σ) : Prop := ∀ h, J x h → ∃ k, (k = Keeper.frame ∨ k = Keeper.machine ∨ k = Keeper.boundFrame) ∧ Looks (PM w) h (keeperOf f) k
theorem Keep.builtin {id : String} : Keep w J (.builtin id) x := fun _ _ => ⟨.machine, .inr (.inl rfl), Looks.of_pure rfl⟩
theorem Keep.type {n : String} : Keep w J (.type n) x := fun _ _ => ⟨.machine, .inr (.inl rfl), Looks.of_pure rfl⟩
theorem c_with {f : Value} {first : List Value} {args : List (Bool × Sem Value)} {kws : List (Option Str × Sem Value)} {Q : Value → σ → Prop} (hplain : (args.any (·.1) || kws.any (·.1.isNone)) = false)
    (y : wpG w S J A (evalArgs f true args kws) (fun a x1 => Keep w J f x1 ∧ wpG w S J A (call f (first ++ a.pos) a.kw) Q x1) x) : wpG w S J A (callWith pos f first args kws) Q x := by
  unfold callWith
  refine wpG_bind (wpG_holding (wpG_mono y fun a x1 z => wpG_bind (wpG_standAt ?_)))
  obtain ⟨K, z⟩ := z
  simp only [hplain]
  intro h tk s
  obtain ⟨k, hk', L⟩ := K h s
  refine wpAny_bind (L.here ?_)
  have tail : ∀ {t : Sem Value}, wpG w S J A t Q x1 → wpAny (PM w) A (t >>= fun r => holding [r] point >>= fun _ => pure r) (PostG S J Q) (fun _ _ => False) (at' S h tk) :=
    fun ht => wpAny_bind (wpAny_mono (ht h tk s) (fun r s₂ hr => wpAny_bind (wpAny_holding (wpAny_point (wpAny_pure hr)))) fun _ _ x => x)
  have marked (mk : Value) : wpG w S J A (callMarked mk f (first ++ a.pos) a.kw) Q x1 := fun h tk s => by unfold callMarked; exact Calls.wpAny_keep (z h tk s)
  rcases hk' with rfl | rfl | rfl <;> dsimp only <;> first | exact tail z | (split <;> first | exact tail z | exact tail (marked _))
theorem e_call {f : Expr} {args : List Expr} {kws : List Keyword} {Q : Value → σ → Prop} (y : wpG w S J A (eval f env) (fun fv x1 => wpG w S J A (callWith pos fv [] (backTo pos (starEach args env)) (backToKw pos (keywordEach kws env))) Q x1) x)
    (he : eval (.Call f args kws pos) env = (do callWith pos (← eval f env) [] (backTo pos (starEach args env)) (backToKw pos (keywordEach kws env))) := by rfl) : wpG w S J A (eval (.Call f args kws pos) env) Q x := by
  rw [he]; exact wpG_bind y
theorem e_meth {o : Expr} {n : Str} {ap : Pos} {args : List Expr} {kws : List Keyword} {pl : Sem Bool} {Q : Value → σ → Prop}
    (he : eval (.Call (.Attribute o n ap) args kws pos) env = (do
      let ov ← eval o env
      standAt ap.atName
      let (f, first) ← holding [ov] (getMethod ov n pl)
      callWith pos f first (backTo pos (starEach args env)) (backToKw pos (keywordEach kws env))))
    (y : wpG w S J A (eval o env) (fun ov x1 => wpG w S J A (getMethod ov n pl) (fun fx x2 => wpG w S J A (callWith pos fx.1 fx.2 (backTo pos (starEach args env)) (backToKw pos (keywordEach kws env))) Q x2) x1) x) : wpG w S J A (eval (.Call (.Attribute o n ap) args kws pos) env) Q x := by
  rw [he]
  exact wpG_bind (wpG_mono y fun _ _ y => wpG_bind (wpG_standAt (wpG_bind (wpG_holding y))))
end
end Mine
end
/-! part H1 -/
section
open PySem PySem.W PySem.Calls PyProof.Rows
set_option maxRecDepth 100000
set_option maxHeartbeats 4000000
set_option linter.unusedVariables false
namespace Mine

theorem locMap_get : ∀ {ns : List Str} {vs : List (Option Value)} {i : Nat} {x : Str} {v : Option Value}, ns.Nodup → ns[i]? = some x → vs[i]? = some v → locMap ns vs x = v
  | [], _, _, _, _, _, h, _ => by cases h
  | _ :: _, [], i, _, _, _, _, h => by simp at h
  | n :: ns, u :: vs, 0, x, v, _, h1, h2 => by
    simp at h1 h2; subst h1; subst h2
    simp [locMap]
  | n :: ns, u :: vs, i + 1, x, v, nd, h1, h2 => by
    simp at h1 h2
    have hne : (x == n) = false := by
      rw [beq_eq_false_iff_ne]
      rintro rfl
      exact (List.nodup_cons.mp nd).1 (List.mem_of_getElem? h1)
    have := locMap_get (List.nodup_cons.mp nd).2 h1 h2
    unfold locMap at this ⊢
    rw [List.zip_cons_cons, List.lookup_cons, hne]
    exact this
theorem locMap_set : ∀ {ns : List Str} {vs : List (Option Value)} {i : Nat} {x : Str} {v : Option Value}, ns.Nodup → ns[i]? = some x → i < vs.length → ∀ y, locMap ns (vs.set i v) y = if y = x then v else locMap ns vs y
  | [], _, _, _, _, _, h, _, _ => by cases h
  | _ :: _, [], i, _, _, _, _, h, _ => by simp at h
  | n :: ns, u :: vs, 0, x, v, nd, h1, _, y => by
    simp at h1; subst h1
    unfold locMap
    rw [List.set_cons_zero, List.zip_cons_cons, List.zip_cons_cons, List.lookup_cons, List.lookup_cons]
    by_cases hy : y = n
    · subst hy; simp
    · have : (y == n) = false := beq_eq_false_iff_ne.mpr hy
      rw [this, if_neg hy]
  | n :: ns, u :: vs, i + 1, x, v, nd, h1, h2, y => by
    simp at h1 h2
    have hne : x ≠ n := by
      rintro rfl
      exact (List.nodup_cons.mp nd).1 (List.mem_of_getElem? h1)
    have := locMap_set (v := v) (List.nodup_cons.mp nd).2 h1 h2 y
    unfold locMap at this ⊢
    rw [List.set_cons_succ, List.zip_cons_cons, List.zip_cons_cons, List.lookup_cons, List.lookup_cons]
    by_cases hy : y = n
    · subst hy
      have : ¬ y = x := fun e => hne e.symm
      simp [this]
    · have : (y == n) = false := beq_eq_false_iff_ne.mpr hy
      rw [this]; assumption

/-- a function's plain locals, in one order -/
structure Lcl (cs : Scope) (ns : List Str) : Prop where
  kind : cs.kind = .function
  nd : ns.Nodup
  loc : ∀ x ∈ ns, cs.names.lookup x = some .local
  dbg : ∀ x ∈ ns, (x == ("__debug__" : Str)) = false

/-- an env that runs a function's body (or a comprehension within it), its locals at L -/
structure Fn (env : Env) (L : Addr) (ns : List Str) : Prop where
  locals : env.locals = L
  globals : env.globals = mainGlobals
  builtins : env.builtins = builtinsNs
  lcl : Lcl env.scope ns
/-- what the program's top gives -/
structure BaseOk (w : World) (B : HM) : Prop where
  kin : ∀ h, Own B h → (KK w.params).In h
  top : ∃ mg mb, (∀ h, Own B h → h.Ns mainGlobals mg ∧ h.Ns builtinsNs mb ∧ h.NoLimit) ∧ (∀ x : Str, x ≠ "__name__" → mb x = bootBuiltins x) ∧ ∀ h, Own B h → ∀ P, B P = none → h.BuiltinsAt mg P
  mods : B sysModules ≠ none

/-! a function's frame: its plain locals and the abstract heap -/
structure StF (B : HM) (L : Addr) (ns : List Str) (x : List (Option Value) × HM) (h : Heap) : Prop where
  st : St B x.2 h
  loc : h.Ns L (locMap ns x.1)
  off : x.2 L = none
  offB : B L = none
abbrev Fst := List (Option Value) × HM
section
variable {w : World} {S : Shared} {B : HM} {A : Around} {H : HM} {α β : Type}
theorem St.push {h : Heap} (s : St B H h) {o : Obj} (hf : o.isFreed = false) : St B (upd H h.objs.size (.obj o)) (h.push o) :=
  s.put (i := .obj o) (fun _ _ _ e => Heap.get?_push_of_some _ e) (Heap.get?_push_size _ hf) s.base.fresh
theorem St.pushL {h : Heap} (s : St B H h) {vs : List Value} : St B (upd H h.objs.size (.lst vs)) (h.push { cls := .type "list", data := .seq vs.toArray }) :=
  s.put (i := .lst vs) (fun _ _ _ e => Heap.get?_push_of_some _ e) ⟨0, Heap.get?_push_size _ rfl⟩ s.base.fresh
abbrev tupO (vs : List Value) : Obj := ⟨.type "tuple", none, .seq vs.toArray 0, #[]⟩

section
variable {cn : Str} {cs : Scope} {L a : Addr} {cd : Value} {cl : List (Str × Addr)} {ns : List Str} {vs : List (Option Value)} {n : Str} {pos : Pos} {v : Value}
/-- a heap that keeps all and has one new thing -/
theorem StF.new {h h' : Heap} {i : Item} (s : StF B L ns (vs, H) h) (k : ∀ b o, h.get? b = some o → h'.get? b = some o) (hi : i.At h' h.objs.size) : StF B L ns (vs, upd H h.objs.size i) h' :=
  ⟨s.st.put (fun b o _ e => k b o e) hi s.st.base.fresh, s.loc.keeps k, upd_off s.off (Nat.ne_of_lt s.loc.lt), s.offB⟩
theorem StF.keeps {h h' : Heap} {x : Fst} (s : StF B L ns x h) (k : ∀ b o, h.get? b = some o → h'.get? b = some o) : StF B L ns x h' := ⟨s.st.keeps k, s.loc.keeps k, s.off, s.offB⟩
theorem StF.set {h h' : Heap} {b : Addr} {i j : Item} (s : StF B L ns (vs, H) h) (hb : H b = some j) (hs : Heap.SameBut b h h') (hi : i.At h' b) : StF B L ns (vs, upd H b i) h' := by
  have n : L ≠ b := fun z => by subst z; have := s.off; simp only at this; rw [hb] at this; cases this
  exact ⟨s.st.put (fun c o hc e => (hs.2 c hc).trans e) hi (s.st.dis b _ hb), s.loc.sameBut hs n, upd_off s.off n, s.offB⟩
theorem StF.weaken {h : Heap} {H' : HM} (s : StF B L ns (vs, H) h) (k : Sub H' H) : StF B L ns (vs, H') h := by
  refine ⟨s.st.weaken k, s.loc, ?_, s.offB⟩
  cases e : H' L with
  | none => exact e
  | some i => have := s.off; simp only at this; rw [k L i e] at this; cases this
theorem wpF_weaken {t : Sem α} {Q : α → Fst → Prop} {H' : HM} (y : wpG w S (StF B L ns) A t Q (vs, H')) (k : Sub H' H) : wpG w S (StF B L ns) A t Q (vs, H) :=
  wpG_from y fun h s => s.weaken k
theorem f_newList {us : List Value} {Q : Value → Fst → Prop} (hz : us.length ≤ sizeLine)
    (q : ∀ b, H b = none → B b = none → Q (.ref b) (vs, upd H b (.lst us))) : wpG w S (StF B L ns) A (newList us) Q (vs, H) := fun h tk s =>
  wpAny_newList ⟨_, tk, _, rfl, s.new (i := .lst us) (fun _ _ e => Heap.get?_push_of_some _ e) ⟨0, Heap.get?_push_size _ rfl⟩, q _ s.st.own.fresh s.st.base.fresh⟩ hz
theorem f_newTuple {us : List Value} {Q : Value → Fst → Prop} (hz : us.length ≤ sizeLine)
    (q : ∀ b, H b = none → B b = none → Q (.ref b) (vs, upd H b (.obj (tupO us)))) : wpG w S (StF B L ns) A (newTuple us) Q (vs, H) := fun h tk s =>
  wpAny_newTuple ⟨_, tk, _, rfl, s.new (i := .obj (tupO us)) (fun _ _ e => Heap.get?_push_of_some _ e) (Heap.get?_push_size _ rfl), q _ s.st.own.fresh s.st.base.fresh⟩ hz
theorem n_local {env : Env} {Q : Value → Fst → Prop} (l : Fn env L ns) (i : Nat) (hi : ns[i]? = some n) (hv : vs[i]? = some (some v)) (q : Q v (vs, H)) : wpG w S (StF B L ns) A (loadName env n) Q (vs, H) := fun h tk s =>
  wpAny_loadName_local l.lcl.kind (l.lcl.loc n (List.mem_of_getElem? hi)) (by rw [l.locals]; exact s.loc) (locMap_get l.lcl.nd hi hv) ⟨h, tk, _, rfl, s, q⟩
theorem f_local {env : Env} {Q : Value → Fst → Prop} (l : Fn env L ns) (i : Nat) (hi : ns[i]? = some n) (hv : vs[i]? = some (some v)) (q : Q v (vs, H)) : wpG w S (StF B L ns) A (eval (.Name n pos) env) Q (vs, H) :=
  e_name (l.lcl.dbg n (List.mem_of_getElem? hi)) (n_local l i hi hv q)
theorem StF.store {h h' : Heap} {i : Nat} (s : StF B L ns (vs, H) h) (l : Lcl cs ns) (hi : ns[i]? = some n) (hv : i < vs.length) (hn : h'.Ns L (fun y => if y = n then some v else locMap ns vs y)) (hs : Heap.SameBut L h h') : StF B L ns (vs.set i (some v), H) h' := by
  have offB := s.offB
  have off := s.off
  refine ⟨⟨fun b j e => (s.st.base b j e).keeps fun o e2 => (hs.2 b fun z => ?_).trans e2, fun b j e => (s.st.own b j e).keeps fun o e2 => (hs.2 b fun z => ?_).trans e2, s.st.dis⟩, ?_, off, offB⟩
  · rw [← z, e] at offB; cases offB
  · simp only at off e; rw [← z, e] at off; cases off
  · obtain ⟨o, es, ep, e1, e2, e3, e4⟩ := hn
    exact ⟨o, es, ep, e1, e2, e3, fun y => (e4 y).trans (locMap_set (v := some v) l.nd hi hv y).symm⟩
theorem f_store {env : Env} {Q : Unit → Fst → Prop} (l : Fn env L ns) (i : Nat) (hi : ns[i]? = some n) (hv : i < vs.length) (q : Q () (vs.set i (some v), H)) : wpG w S (StF B L ns) A (storeName env n v) Q (vs, H) := fun h tk s =>
  wpAny_storeName_local (l.lcl.loc n (List.mem_of_getElem? hi)) (by rw [l.locals]; exact s.loc) (fun h' hn hs => by
    rw [l.locals] at hn hs
    exact ⟨h', tk + 1, (vs.set i (some v), H), rfl, s.store l.lcl hi hv hn hs, q⟩)
    (by rw [l.lcl.kind]; rfl)
theorem f_global {env : Env} {Q : Value → Fst → Prop} (b : BaseOk w B) (l : Fn env L ns) (e : nsIn (KK w.params) mainGlobals n = some (some v)) (hx : env.scope.names.lookup n = some .globalImplicit) (hd : (n == ("__debug__" : Str)) = false) (q : Q v (vs, H)) :
    wpG w S (StF B L ns) A (eval (.Name n pos) env) Q (vs, H) := fun h tk s => by
  obtain ⟨mg, mb, t, _⟩ := b.top
  exact Name_function_global l.lcl.kind hx (loadGlobal_global (by rw [l.globals]; exact (t h s.st.base).1) (mg_of (b.kin h s.st.base) (t h s.st.base).1 e) ⟨h, tk, _, rfl, s, q⟩) hd
theorem f_builtin {env : Env} {Q : Value → Fst → Prop} (b : BaseOk w B) (l : Fn env L ns) (e : nsIn (KK w.params) mainGlobals n = some none) (hv : bootBuiltins n = some v) (hn : n ≠ "__name__") (hx : env.scope.names.lookup n = some .globalImplicit) (hd : (n == ("__debug__" : Str)) = false) (q : Q v (vs, H)) :
    wpG w S (StF B L ns) A (eval (.Name n pos) env) Q (vs, H) := fun h tk s => by
  obtain ⟨mg, mb, t, t2, _⟩ := b.top
  exact Name_function_global l.lcl.kind hx (loadGlobal_builtin (by rw [l.globals]; exact (t h s.st.base).1) (mg_none_of (b.kin h s.st.base) (t h s.st.base).1 e) (by rw [l.builtins]; exact (t h s.st.base).2.1) ((t2 n hn).trans hv) ⟨h, tk, _, rfl, s, q⟩) hd

/-- a code run from a frame: its contract over the heap with the frame laid in -/
theorem f_code {c : Code} {Q : Result → Fst → Prop}
    (y : H L = none → codeG w S (St B) A c (fun r H1 => ∃ H2, Sub (upd H2 L (.loc ns vs)) H1 ∧ H2 L = none ∧ Q r (vs, H2)) (upd H L (.loc ns vs))) : codeG w S (StF B L ns) A c Q (vs, H) := fun h tk s =>
  liftC (y s.off) (x := upd H L (.loc ns vs)) (s.st.put (i := .loc ns vs) (fun _ _ _ e => e) s.loc s.offB) fun r H1 h1 t1 q s1 => by
    obtain ⟨H2, k, n, q⟩ := q
    have s2 := s1.weaken k
    exact ⟨h1, t1, (vs, H2), rfl, ⟨s2.weaken (Sub.new n), s2.own L _ upd_same, n, s.offB⟩, q⟩
/-- how a contract's end is handed back: nothing changed; one thing new; one thing changed -/
theorem back0 {Q : Result → Fst → Prop} {r : Result} (hL : H L = none) (q : Q r (vs, H)) : ∃ H2, Sub (upd H2 L (.loc ns vs)) (upd H L (.loc ns vs)) ∧ H2 L = none ∧ Q r (vs, H2) := ⟨H, Sub.refl, hL, q⟩
theorem back1 {Q : Result → Fst → Prop} {r : Result} {b : Addr} {i : Item} (hL : H L = none) (hb : L ≠ b) (q : Q r (vs, upd H b i)) : ∃ H2, Sub (upd H2 L (.loc ns vs)) (upd (upd H L (.loc ns vs)) b i) ∧ H2 L = none ∧ Q r (vs, H2) :=
  ⟨upd H b i, by rw [upd_swap hb]; exact Sub.refl, upd_off hL hb, q⟩
theorem back2 {Q : Result → Fst → Prop} {r : Result} {b c : Addr} {i j : Item} (hL : H L = none) (hb : L ≠ b) (hc : L ≠ c) (q : Q r (vs, upd (upd H b i) c j)) :
    ∃ H2, Sub (upd H2 L (.loc ns vs)) (upd (upd (upd H L (.loc ns vs)) b i) c j) ∧ H2 L = none ∧ Q r (vs, H2) :=
  ⟨upd (upd H b i) c j, by rw [upd_swap hb, upd_swap hc]; exact Sub.refl, upd_off (upd_off hL hb) hc, q⟩
theorem ne_loc {H : HM} {b : Addr} {i : Item} (hb : upd H L i b = none) : L ≠ b := by first | exact nn hb (upd_same) | exact Ne.symm (nn hb (upd_same)) | exact nn (upd_same) hb | exact Ne.symm (nn (upd_same) hb) | (rintro rfl; rw [upd_same] at hb; cases hb)
theorem ne_had {H : HM} {b : Addr} {i : Item} (hL : H L = none) (hb : H b = some i) : L ≠ b := by first | exact nn hb (hL) | exact Ne.symm (nn hb (hL)) | exact nn (hL) hb | exact Ne.symm (nn (hL) hb) | (rintro rfl; rw [hL] at hb; cases hb)
end

def retOf : Flow → Value
  | .ret v => v
  | _ => .none
theorem lookup_rev : ∀ {l : List (Str × Value)} {y : Str}, (l.map (·.1)).Nodup → l.reverse.lookup y = l.lookup y
  | [], _, _ => rfl
  | (k, v) :: r, y, nd => by
    rw [List.map_cons, List.nodup_cons] at nd
    rw [List.reverse_cons, List.lookup_append, lookup_rev nd.2, List.lookup_cons, List.lookup_cons]
    by_cases h : y = k
    · subst h
      have : r.lookup y = none := by
        rw [List.lookup_eq_none_iff]
        intro p hp
        have : y ≠ p.1 := fun e => nd.1 (List.mem_map.mpr ⟨p, hp, e.symm⟩)
        simpa using this
      rw [this]; simp
    · have : (y == k) = false := beq_eq_false_iff_ne.mpr h
      rw [this]; simp
def vals (ns : List Str) (us : List Value) : List (Option Value) := us.map some ++ List.replicate (ns.length - us.length) none
theorem locMap_vals : ∀ {ns : List Str} {us : List Value} {y : Str}, us.length ≤ ns.length → locMap ns (vals ns us) y = ((ns.take us.length).zip us).lookup y
  | [], us, y, h => by
    have : us = [] := List.length_eq_zero_iff.mp (Nat.le_zero.mp h)
    subst this; rfl
  | n :: ns, [], y, _ => by
    show locMap (n :: ns) (List.replicate (ns.length + 1 - 0) none) y = none
    have : ∀ (ns : List Str) k, ns.length ≤ k → locMap ns (List.replicate k none) y = none := by
      intro ns
      induction ns with
      | nil => intro _ _; rfl
      | cons n r ih =>
        intro k hk
        cases k with
        | zero => simp at hk
        | succ k =>
          show (((n, none) :: (r.zip (List.replicate k none))).lookup y).join = none
          rw [List.lookup_cons]
          cases y == n <;> first | rfl | exact ih k (by simpa using hk)
    exact this _ _ (by simp)
  | n :: ns, u :: us, y, h => by
    have ih := locMap_vals (ns := ns) (us := us) (y := y) (by simpa using h)
    have e : vals (n :: ns) (u :: us) = some u :: vals ns us := by simp [vals]
    rw [e]
    show (((n, some u) :: (ns.zip (vals ns us))).lookup y).join = (((n, u) :: ((ns.take us.length).zip us))).lookup y
    rw [List.lookup_cons, List.lookup_cons]
    cases y == n <;> first | rfl | exact ih
theorem zip_keys {ns : List Str} {us : List Value} (h : us.length ≤ ns.length) : ((ns.take us.length).zip us).map (·.1) = ns.take us.length := by
  rw [List.map_fst_zip]; simp; (exact Nat.min_le_left _ _)
/-- entering a function of the program's top, that keeps no cells -/
theorem enter {f : Addr} {fname qual : Str} {params : Arguments} {body : List Stmt} {cs : Scope} {dV kV doc pm cdv ct oc : Value} {an od : Option Addr} {osl : Array (Option Value)} {args : Args} {ns : List Str} {Q : Result → HM → Prop}
    {n : Nat} (b : BaseOk w B) (hA : Room A (n + 1)) (o : Obj) (us : List Value) (ho : (KK w.params).lookup f = some o) (hfd : o = ⟨oc, od, .func (fnOf fname qual params body cs dV kV doc pm an cdv ct), osl⟩) (hcd : codeIn (KK w.params) cdv qual = true)
    (l : Lcl cs ns) (hbind : ∀ s : Shared, (KK w.params).In s.heap → BindsTo s (fnOf fname qual params body cs dV kV doc pm an cdv ct) args ((ns.take us.length).zip us)) (hus : us.length ≤ ns.length)
    (hco : cs.isCoroutine = false) (hgen : cs.isGenerator = false) (hcell : ∀ x ∈ cs.names, x.2 ≠ .cell)
    (y : ∀ A' L env, Room A' n → Fn env L ns → env.scope = cs → wpG w S (StF B L ns) A' (execs body env) (fun fl x1 => Q (.ok (.ret (retOf fl))) x1.2) (vals ns us, H)) :
    codeG w S (St B) A (.call (.ref f) args) Q H := fun h tk s => by
  have X := b.kin h s.base
  obtain ⟨mg, mb, t, _⟩ := b.top
  have hk := zip_keys hus
  have nd : (((ns.take us.length).zip us).map (·.1)).Nodup := by rw [hk]; exact List.Nodup.sublist (List.take_sublist _ _) l.nd
  refine codeAny_call_def hA.d (X _ _ ho) (by rw [hfd]) (t h s.base).2.2 (codeRec_of X hcd) rfl (hbind _ X) hcell (fun p hp => l.loc _ (List.mem_of_mem_take (by rw [← hk]; exact List.mem_map_of_mem hp))) (fun h₁ hn hkp => ?_) hco hgen l.kind
  have s1 : StF B h.objs.size ns (vals ns us, H) h₁ := ⟨s.keeps hkp, by
    obtain ⟨o, es, ep, e1, e2, e3, e4⟩ := hn
    exact ⟨o, es, ep, e1, e2, e3, fun y => (e4 y).trans ((lookup_rev nd).trans (locMap_vals hus).symm)⟩, s.own.fresh, s.base.fresh⟩
  refine wpAny_mono (y _ h.objs.size (envX qual cs h.objs.size f cdv []) hA.deeper ⟨rfl, rfl, rfl, l⟩ rfl h₁ _ s1) (fun fl s' ⟨h', t', x', e, s2, q⟩ => ?_) fun _ _ e => e.elim
  subst e
  exact ⟨h', t', x'.2, rfl, s2.st, by cases fl <;> exact q⟩
end
end Mine
end
/-! part H2 -/
section
open PySem PySem.W PySem.Calls PyProof.Rows
set_option maxRecDepth 100000
set_option maxHeartbeats 4000000
set_option linter.unusedVariables false
namespace Mine
noncomputable abbrev KF (w : World) : Frag := KK w.params
abbrev sHeaders : Str := ⟨#[95, 104, 101, 97, 100, 101, 114, 115]⟩
abbrev hdrD (hsh : Int) (tk : Tok) (lx : Addr) : Obj := dictOf [⟨hsh, .str sHeaders tk, .ref lx⟩] 1
/-- a Headers object at x whose list stands at lx -/
def Hdr (H : HM) (x lx : Addr) : Prop := ∃ dx hsh tk, H x = some (.obj (instObj 211 dx)) ∧ H dx = some (.obj (hdrD hsh tk lx))
theorem Hdr.mono {H H' : HM} {x lx : Addr} (d : Hdr H x lx) (k : Sub H H') : Hdr H' x lx :=
  let ⟨dx, hsh, tk, a, b⟩ := d; ⟨dx, hsh, tk, k _ _ a, k _ _ b⟩
theorem Hdr.lst {H : HM} {x lx l : Addr} {vs us : List Value} (d : Hdr H x lx) (hl : H l = some (.lst vs)) : Hdr (upd H l (.lst us)) x lx := by
  obtain ⟨dx, hsh, tk, a, b⟩ := d
  refine ⟨dx, hsh, tk, (upd_ne ?_).trans a, (upd_ne ?_).trans b⟩
  · rintro rfl; rw [a] at hl; cases hl
  · rintro rfl; rw [b] at hl; cases hl
section
variable {w : World} {S : Shared} {B : HM} {A : Around} {H : HM} {L : Addr} {ns : List Str} {vs : List (Option Value)} {x lx : Addr}
theorem hdr_inst {h : Heap} (d : Hdr H x lx) (s : St B H h) : ∃ dx hsh tk, InstAt h x (instObj 211 dx) 211 (some (hdrD hsh tk lx)) := by
  obtain ⟨dx, hsh, tk, a, b⟩ := d
  exact ⟨dx, hsh, tk, ⟨s.own x _ a, rfl, rfl, s.own dx _ b⟩⟩
theorem g_headers {expr : Bool} {Q : Value → Fst → Prop} (b : BaseOk w B) (d : Hdr H x lx) (q : Q (.ref lx) (vs, H)) : wpG w S (StF B L ns) A (getAttr (.ref x) sHeaders expr) Q (vs, H) := fun h tk s => by
  obtain ⟨dx, hsh, tk', I⟩ := hdr_inst d s.st
  refine get_value (b.kin h s.st.base) I (by kernel_rfl) (findObj_own (attr := none) (by kernel_rfl) (by kernel_rfl) (by kernel_rfl) ?_) (by rfl) ⟨h, _, _, rfl, s, q⟩
  rw [lookIn_dict]
  simp [getL, Value.isStr]
theorem g_meth {f : Addr} {n : Str} {pl : Sem Bool} {Q : Value × List Value → Fst → Prop} (b : BaseOk w B) (d : Hdr H x lx) (hf : findIn (KF w) (.ref 211) n = some (some (.ref f))) (ht : typeIn (KF w) (.ref f) = some (.type "function")) (hn : (sHeaders == n) = false)
    (q : Q (.ref f, [.ref x]) (vs, H)) : wpG w S (StF B L ns) A (getMethod (.ref x) n pl) Q (vs, H) := fun h tk s => by
  obtain ⟨dx, hsh, tk', I⟩ := hdr_inst d s.st
  refine method_fn (b.kin h s.st.base) I (by kernel_rfl) (by kernel_rfl) hf ht ?_ ⟨h, _, _, rfl, s, q⟩
  show (lookIn n (hdrD hsh tk' lx)).map _ = _
  rw [lookIn_dict]
  simp [getL, Value.isStr, hn, DictEntry.refKey]
/-- calling a function: its contract -/
theorem f_fn {f : Value} {pos : List Value} {kw : List (Str × Value)} {Q : Value → Fst → Prop}
    (y : H L = none → codeG w S (St B) A (.call f ⟨pos, kw⟩) (fun r H1 => ∃ H2, Sub (upd H2 L (.loc ns vs)) H1 ∧ H2 L = none ∧ ∃ v, r = .ok (.ret v) ∧ Q v (vs, H2)) (upd H L (.loc ns vs))) : wpG w S (StF B L ns) A (call f pos kw) Q (vs, H) :=
  wpG_call (f_code y)
theorem Keep.fn {f : Addr} {y : Fst} (b : BaseOk w B) (hk : keepIn (KF w) (.ref f) = true) : Keep w (StF B L ns) (.ref f) y := fun h s => keeps_K hk h (b.kin h s.st.base)
end
end Mine
end
/-! part H3 -/
section
open PySem PySem.W PySem.Calls PyProof.Rows
set_option maxRecDepth 100000
set_option maxHeartbeats 4000000
set_option linter.unusedVariables false
namespace Mine

/-! iterators -/
def itL (l : Addr) (i : Nat) : Item := .any fun o => o.cls = .type "list_iterator" ∧ o.data = .fields #[.ref l, .int i 0]
def itR (x left step : Int) : Item := .obj { cls := .type "range_iterator", dict := none, data := .fields #[rawInt x, rawInt left, rawInt step], slots := #[] }
def itS (y : Str) (t : Tok) (i : Nat) : Item := .any fun o => o.cls = .type "str_ascii_iterator" ∧ o.data = .fields #[.str y t, .int i 0]
def era (H : HM) (a : Addr) : HM := fun b => if b = a then none else H b
theorem era_ne {H : HM} {a b : Addr} (n : b ≠ a) : era H a b = H b := if_neg n
theorem era_sub {H : HM} {a : Addr} : Sub (era H a) H := fun b i e => by unfold era at e; split at e <;> first | cases e | exact e
theorem era_new {H : HM} {a : Addr} {i : Item} (h : H a = none) : era (upd H a i) a = H := by
  funext b; unfold era upd
  by_cases z : b = a
  · subst z; simp [h]
  · simp [z]
/-- what a loop asks of an iterator: n items, the i-th by P, its own object itm, the rest of the heap by pre -/
structure Iter (w : World) (S : Shared) (B : HM) (A : Around) (L : Addr) (ns : List Str) (I : Addr) (n : Nat) (P : Nat → Value → Prop) (itm : Nat → Item) (pre : HM → Prop) : Prop where
  nxt : ∀ i vs H (Q : Option Value → Fst → Prop), i < n → H I = some (itm i) → pre H → (∀ v, P i v → Q (some v) (vs, upd H I (itm (i + 1)))) → wpG w S (StF B L ns) A (pyNext (.ref I)) Q (vs, H)
  fin : ∀ vs H (Q : Option Value → Fst → Prop), H I = some (itm n) → pre H → Q none (vs, era H I) → wpG w S (StF B L ns) A (pyNext (.ref I)) Q (vs, H)
  self : ∀ i vs H (Q : Value → Fst → Prop), H I = some (itm i) → Q (.ref I) (vs, H) → wpG w S (StF B L ns) A (pyIter (.ref I)) Q (vs, H)
  go : ∀ i vs H (Q : Unit → Fst → Prop) target v, i ≤ n → H I = some (itm i) → Q () (vs, H) → (match target with | .Tuple .. | .List .. => ∃ a, v = .ref a | _ => True) → wpG w S (StF B L ns) A (letOwnedTupleGo target (.ref I) v) Q (vs, H)
section
variable {w : World} {S : Shared} {B : HM} {A : Around} {H : HM} {L : Addr} {ns : List Str} {vs : List (Option Value)} {I l : Addr}
theorem StF.era {h h' : Heap} {b : Addr} {j : Item} (s : StF B L ns (vs, H) h) (hb : H b = some j) (hs : Heap.ExtBut b h h') : StF B L ns (vs, Mine.era H b) h' := by
  have nB := s.st.dis b _ hb
  have n : L ≠ b := fun z => by subst z; have := s.off; simp only at this; rw [hb] at this; cases this
  refine ⟨⟨fun a i e => (s.st.base a i e).keeps fun o e2 => hs a o (fun z => by subst z; rw [nB] at e; cases e) e2, fun a i e => ?_, fun a i e => s.st.dis a i (era_sub a i e)⟩, s.loc.extBut hs n, ?_, s.offB⟩
  · by_cases z : a = b
    · subst z; simp [Mine.era] at e
    · exact (s.st.own a i (era_sub a i e)).keeps fun o e2 => hs a o z e2
  · show Mine.era H b L = none
    unfold Mine.era; rw [if_neg n]; exact s.off
theorem go_other {target : Expr} {v : Value} {o : Obj} {Q : Unit → Fst → Prop} {T : String} {us : Array Value} (ho : ∀ h, St B H h → ∃ o, h.get? I = some o ∧ o.cls = .type T ∧ o.data = .fields us)
    (hT : ["enumerate", "zip", "dict_itemiterator", "dict_reverseitemiterator", "odict_iterator", "itertools.zip_longest", "itertools.pairwise"].contains T = false) (q : Q () (vs, H)) : wpG w S (StF B L ns) A (letOwnedTupleGo target (.ref I) v) Q (vs, H) := by
  unfold letOwnedTupleGo
  split
  all_goals first
    | exact wpG_pure q
    | (split
       · rename_i e
         intro h tk s
         obtain ⟨o, ho, hc, hd⟩ := ho h s.st
         injection e with e1 e2
         injection e1 with e1
         subst e1
         refine wpAny_bind (wpAny_load ho ?_)
         rw [hc, hd]
         simp only [hT, Bool.false_and, Bool.false_eq_true, if_false]
         exact wpAny_pure ⟨h, tk, _, rfl, s, q⟩
       · exact wpG_pure q)
theorem iter_list (hh : A.handled = none) (items : List Value) (hne : I ≠ l) : Iter w S B A L ns I items.length (fun i v => items[i]? = some v) (itL l) (fun H => H l = some (.lst items)) where
  nxt := fun i vs H Q hi hI hl q h tk s => by
    obtain ⟨o, ho, hc, hd⟩ := s.st.own I _ hI
    obtain ⟨v, hv⟩ : ∃ v, items[i]? = some v := ⟨items[i], List.getElem?_eq_getElem hi⟩
    have hL := Heap.PlainList.isList (s.st.own l _ hl)
    refine wpAny_pyNext_list_item ⟨o, ho, hc, hd⟩ hL (by simpa using hv) fun h' hit hs => ⟨h', tk, (vs, upd H I (itL l (i + 1))), rfl, s.set hI hs ?_, q v hv⟩
    exact hit
  fin := fun vs H Q hI hl q h tk s => by
    obtain ⟨o, ho, hc, hd⟩ := s.st.own I _ hI
    have hL := Heap.PlainList.isList (s.st.own l _ hl)
    exact wpAny_pyNext_list_end hh ⟨o, ho, hc, hd⟩ hL (by simp) fun h' hs => ⟨h', tk, (vs, era H I), rfl, s.era hI hs, q⟩
  self := fun i vs H Q hI q h tk s => by
    obtain ⟨o, ho, hc, hd⟩ := s.st.own I _ hI
    exact wpAny_pyIter_listiter ⟨o, ho, hc, hd⟩ ⟨h, tk, _, rfl, s, q⟩
  go := fun i vs H Q target v _ hI q _ => go_other (T := "list_iterator") (o := default) (fun h s => s.own I _ hI) (by decide +kernel) q
theorem iter_range (hh : A.handled = none) (a c : Int) (n : Nat) : Iter w S B A L ns I n (fun i v => ∃ t, v = .int (a + i * c) t) (fun i => itR (a + i * c) (n - i) c) (fun _ => True) where
  nxt := fun i vs H Q hi hI _ q h tk s => by
    have ho : IsRangeIter h I _ _ _ := s.st.own I _ hI
    refine wpAny_pyNext_range_item ho (by omega) fun h' hit hs => ⟨h', tk + 1, (vs, upd H I (itR (a + ((i + 1 : Nat) : Int) * c) (n - ((i + 1 : Nat) : Int)) c)), rfl, s.set hI hs ?_, q _ ⟨_, rfl⟩⟩
    have e1 : a + ((i + 1 : Nat) : Int) * c = a + i * c + c := by rw [Int.natCast_add, Int.add_mul]; omega
    have e2 : (n : Int) - ((i + 1 : Nat) : Int) = n - i - 1 := by omega
    rw [e1, e2]
    exact hit
  fin := fun vs H Q hI _ q h tk s => by
    have ho : IsRangeIter h I _ _ _ := s.st.own I _ hI
    exact wpAny_pyNext_range_end hh ho (by omega) fun h' hs => ⟨h', tk, (vs, era H I), rfl, s.era hI hs, q⟩
  self := fun i vs H Q hI q h tk s => by
    have ho : IsRangeIter h I _ _ _ := s.st.own I _ hI
    exact wpAny_pyIter_rangeiter ho ⟨h, tk, _, rfl, s, q⟩
  go := fun i vs H Q target v _ hI q _ => go_other (T := "range_iterator") (o := default) (fun h s => ⟨_, s.own I _ hI, rfl, rfl⟩) (by decide +kernel) q
theorem iter_str (hh : A.handled = none) (y : Str) (t : Tok) : Iter w S B A L ns I y.cps.size (fun i v => ∃ c u, y.cps[i]? = some c ∧ v = .str ⟨#[c]⟩ u) (itS y t) (fun _ => True) where
  nxt := fun i vs H Q hi hI _ q h tk s => by
    obtain ⟨o, ho, hc, hd⟩ := s.st.own I _ hI
    obtain ⟨c, hcc⟩ : ∃ c, y.cps[i]? = some c := ⟨y.cps[i], Array.getElem?_eq_getElem hi⟩
    refine wpAny_pyNext_ascii_item ⟨o, ho, hc, hd⟩ hcc fun h' hit hs => ⟨h', tk + 1, (vs, upd H I (itS y t (i + 1))), rfl, s.set hI hs ?_, q _ ⟨c, tk, hcc, rfl⟩⟩
    exact hit
  fin := fun vs H Q hI _ q h tk s => by
    obtain ⟨o, ho, hc, hd⟩ := s.st.own I _ hI
    exact wpAny_pyNext_ascii_end hh ⟨o, ho, hc, hd⟩ (by simp) fun h' hs => ⟨h', tk, (vs, era H I), rfl, s.era hI hs, q⟩
  self := fun i vs H Q hI q h tk s => by
    obtain ⟨o, ho, hc, hd⟩ := s.st.own I _ hI
    exact wpAny_pyIter_striter_ascii ⟨o, ho, hc, hd⟩ ⟨h, tk, _, rfl, s, q⟩
  go := fun i vs H Q target v _ hI q _ => go_other (T := "str_ascii_iterator") (o := default) (fun h s => s.own I _ hI) (by decide +kernel) q

abbrev turnQ (Inv : Nat → Fst → Prop) (Q : Result → Fst → Prop) (i : Nat) : Flow → Fst → Prop := fun f x2 => match f with
  | .next | .cont => ∃ Y, Inv (i + 1) (x2.1, Y) ∧ Sub Y x2.2
  | .brk => Q (.ok .next) x2
  | .ret v => Q (.ok (.ret v)) x2
abbrev bodyQ (w : World) (S : Shared) (B : HM) (L : Addr) (ns : List Str) (A : Around) (body : List Stmt) (env : Env) (Q : Flow → Fst → Prop) : Unit → Fst → Prop := fun _ x1 => wpG w S (StF B L ns) A (execs body env) Q x1
/-- a for over an iterator, by what holds between the turns -/
theorem code_for {target : Expr} {body : List Stmt} {env : Env} {n : Nat} {P : Nat → Value → Prop} {itm : Nat → Item} {pre : HM → Prop} {Q : Result → Fst → Prop} (W : Iter w S B A L ns I n P itm pre) (Inv : Nat → Fst → Prop)
    (hI : ∀ i x, Inv i x → x.2 I = some (itm i) ∧ pre x.2)
    (ht : ∀ i v, P i v → match target with | .Tuple .. | .List .. => ∃ a, v = .ref a | _ => True)
    (turn : ∀ i v us X, i < n → P i v → Inv i (us, X) → wpG w S (StF B L ns) A (assign target env v) (bodyQ w S B L ns A body env (turnQ Inv Q i)) (us, upd X I (itm (i + 1))))
    (done : ∀ us X, Inv n (us, X) → Q (.ok .next) (us, era X I))
    {us : List (Option Value)} {X : HM} (start : Inv 0 (us, X)) : codeG w S (StF B L ns) A (.forLoop target (.ref I) body [] env) Q (us, X) := fun h₀ tk₀ s₀ => by
  refine codeAny_loop' rfl (fun m s' => ∃ i us X h tk, s' = at' S h tk ∧ StF B L ns (us, X) h ∧ Inv i (us, X) ∧ i ≤ n ∧ m = n - i) ?_ n ⟨0, us, X, h₀, tk₀, rfl, s₀, start, Nat.zero_le _, rfl⟩
  rintro m s' ⟨i, us, X, h, tk, rfl, s, hJ, hi, rfl⟩
  show wpAny _ _ ((forTurn target (.ref I) body [] env).onRaise (fun x => do noteFrame x env; theTreesLotGoes x)) _ _ _
  refine wpAny_noted (wpAny_mono (Q := fun fin s' => match fin with
        | .done f => PostG S (StF B L ns) Q (.ok f) s'
        | .again c' => (c' = .forLoop target (.ref I) body [] env ∧ ∃ m, m < n - i ∧ (∃ i us X h tk, s' = at' S h tk ∧ StF B L ns (us, X) h ∧ Inv i (us, X) ∧ i ≤ n ∧ m = n - i)) ∨ (c'.quiet = true ∧ codeAny (PM w) A c' (PostG S (StF B L ns) Q) s')) (E := fun _ _ => False) ?_ (fun _ _ q => q) fun _ _ e => e.elim)
  simp only [forTurn]
  refine wpAny_bind (wpAny_standAt (wpAny_bind (wpAny_onRaise (wpAny_mono (E := fun _ _ => False) (Q := fun r s1 => match r with
    | none => ∃ h1 t1, s1 = at' S h1 t1 ∧ i = n ∧ StF B L ns (us, era X I) h1
    | some v => ∃ h1 t1, s1 = at' S h1 t1 ∧ i < n ∧ P i v ∧ StF B L ns (us, upd X I (itm (i + 1))) h1) ?_ (fun r s1 hr => ?_) fun _ _ e => e.elim))))
  · by_cases hin : i < n
    · refine wpAny_mono (W.nxt i us X (fun r x1 => match r with | none => False | some v => P i v ∧ x1 = (us, upd X I (itm (i + 1)))) hin (hI _ _ hJ).1 (hI _ _ hJ).2 (fun v hv => ⟨hv, rfl⟩) h tk s) (fun r s1 hr => ?_) fun _ _ e => e
      obtain ⟨h1, t1, x1, e, s1', q⟩ := hr
      cases r with
      | none => exact q.elim
      | some v => obtain ⟨hv, rfl⟩ := q; exact ⟨h1, t1, e, hin, hv, s1'⟩
    · have hin : i = n := by exact Nat.le_antisymm hi (Nat.le_of_not_lt hin)
      subst hin
      refine wpAny_mono (W.fin us X (fun r x1 => r = none ∧ x1 = (us, era X I)) (hI _ _ hJ).1 (hI _ _ hJ).2 ⟨rfl, rfl⟩ h tk s) (fun r s1 hr => ?_) fun _ _ e => e
      obtain ⟨h1, t1, x1, e, s1', rfl, rfl⟩ := hr
      exact ⟨h1, t1, e, rfl, s1'⟩
  · cases r with
    | none =>
      obtain ⟨h1, t1, rfl, rfl, s1'⟩ := hr
      exact wpAny_pure (.inr ⟨rfl, codeAny_block (wpAny_execs_nil ⟨h1, t1, _, rfl, s1', done us X hJ⟩)⟩)
    | some v =>
      obtain ⟨h1, t1, rfl, hin, hv, s1'⟩ := hr
      refine wpAny_bind (lift (W.go (i + 1) us _ (fun _ x1 => x1 = (us, upd X I (itm (i + 1)))) target v hin upd_same rfl (ht i v hv)) s1' fun _ x1 h2 t2 e s2 => ?_)
      subst e
      refine wpAny_bind (lift (turn i v us X hin hv hJ) s2 fun _ x3 h3 t3 q3 s3 => ?_)
      refine wpAny_bind (lift q3 s3 fun f x4 h4 t4 q4 s4 => ?_)
      have nx : (∃ Y, Inv (i + 1) (x4.1, Y) ∧ Sub Y x4.2) → ∃ m, m < n - i ∧ (∃ i us X h tk, at' S h4 t4 = at' S h tk ∧ StF B L ns (us, X) h ∧ Inv i (us, X) ∧ i ≤ n ∧ m = n - i) := fun ⟨Y, hY, k⟩ =>
        ⟨n - (i + 1), by exact Mine.q4 hin, i + 1, x4.1, Y, h4, t4, rfl, StF.weaken (vs := x4.1) (H := x4.2) s4 k, hY, hin, rfl⟩
      cases f with
      | next => exact wpAny_pure (.inl ⟨rfl, nx q4⟩)
      | cont => exact wpAny_pure (.inl ⟨rfl, nx q4⟩)
      | brk => exact wpAny_pure ⟨h4, t4, x4, rfl, s4, q4⟩
      | ret v => exact wpAny_pure ⟨h4, t4, x4, rfl, s4, q4⟩
end
end Mine
end
/-! part H4 -/
section
open PySem PySem.W PySem.Calls PyProof.Rows
set_option maxRecDepth 100000
set_option maxHeartbeats 4000000
set_option linter.unusedVariables false
namespace Mine
section
variable {w : World} {S : Shared} {B : HM} {A : Around} {H : HM} {L : Addr} {ns : List Str} {vs : List (Option Value)} {I l D : Addr}

/-! list.append -/
theorem f_append {y : Value} {us : List Value} {Q : Value → Fst → Prop} (hD : H D = some (.lst us)) (hz : us.length ≤ sizeLine) (q : Q .none (vs, upd H D (.lst (us ++ [y])))) : wpG w S (StF B L ns) A (call (.builtin "list.append") [.ref D, y]) Q (vs, H) := fun h tk s => by
  refine wpAny_list_append_plain (s.st.own D _ hD) (fun h' hp hs => ⟨h', tk, (vs, upd H D (.lst (us ++ [y]))), rfl, s.set hD hs ?_, q⟩) (by simpa using hz)
  have e : (us ++ [y]).toArray = us.toArray.push y := by simp
  show h'.PlainList D _
  rw [e]; exact hp

/-! a list comprehension -/
def testsOf (ifs : List Expr) (env : Env) : Sem Bool := forIn ifs true fun c r => if r = true then do let ok ← isTrue c env (eval c env); pure (ForInStep.yield ok) else pure (ForInStep.yield r)
theorem tests_nil {σ : Type} {J : σ → Heap → Prop} {x : σ} {env : Env} {Q : Bool → σ → Prop} (q : Q true x) : wpG w S J A (testsOf [] env) Q x := wpG_pure q
theorem tests_one {σ : Type} {J : σ → Heap → Prop} {x : σ} {env : Env} {c : Expr} {Q : Bool → σ → Prop} (y : wpG w S J A (isTrue c env (eval c env)) Q x) : wpG w S J A (testsOf [c] env) Q x := by
  unfold testsOf
  simp only [List.forIn_cons, List.forIn_nil, if_true]
  exact wpG_bind (wpG_bind (wpG_mono y fun _ _ q => wpG_pure (wpG_pure q)))

def Hc (H0 : HM) (I D : Addr) (itm : Nat → Item) (i : Nat) (ys : List Value) : HM := upd (upd H0 I (itm i)) D (.lst ys)
section
variable {C : Addr} {cns : List Str} {cenv : Env} {elt target iter : Expr} {ifs : List Expr} {scope : Scope} {pos : Pos} {n : Nat} {P : Nat → Value → Prop} {itm : Nat → Item} {pre : HM → Prop} {H0 : HM}
/-- what is left of a turn behind its tests -/
abbrev tookQ (w : World) (S : Shared) (B : HM) (A : Around) (C : Addr) (cns : List Str) (D : Addr) (elt : Expr) (cenv : Env) (Inv : Nat → List Value → HM → Prop) (i : Nat) (ys : List Value) : Bool → Fst → Prop := fun ok x2 =>
  if ok = true then wpG w S (StF B C cns) A (eval elt cenv) (fun y x3 => ∃ Y, Inv (i + 1) (ys ++ [y]) (upd Y D (.lst (ys ++ [y]))) ∧ x3.1.length = cns.length ∧ Y D = some (.lst ys) ∧ Sub Y x3.2) x2
  else ∃ Y, Inv (i + 1) ys Y ∧ x2.1.length = cns.length ∧ Sub Y x2.2
theorem code_compX {Q : Result → Fst → Prop} (W : Iter w S B A C cns I n P itm pre) (Inv : Nat → List Value → HM → Prop)
    (hInv : ∀ i ys X, Inv i ys X → X I = some (itm i) ∧ X D = some (.lst ys) ∧ pre X ∧ ys.length ≤ i) (hID : I ≠ D) (hn : n ≤ sizeLine)
    (ht : ∀ i v, P i v → match target with | .Tuple .. | .List .. => ∃ a, v = .ref a | _ => True)
    (turn : ∀ i v ys cvs X, i < n → P i v → Inv i ys X → cvs.length = cns.length → wpG w S (StF B C cns) A (assign target cenv v) (fun _ x1 => wpG w S (StF B C cns) A (testsOf ifs cenv) (tookQ w S B A C cns D elt cenv Inv i ys) x1) (cvs, upd X I (itm (i + 1))))
    (done : ∀ ys us X, Inv n ys X → Q (.ok .next) (us, era X I))
    {us : List (Option Value)} {ys0 : List Value} {X0 : HM} (hus : us.length = cns.length) (start : Inv 0 ys0 X0) :
    codeG w S (StF B C cns) A (.compLoop (.ListComp elt [⟨target, iter, ifs, 0⟩] scope pos) 0 (.ref I) (.ref D) cenv) Q (us, X0) := fun h₀ tk₀ s₀ => by
  refine codeAny_loop rfl (fun m s' => ∃ i us ys X h tk, s' = at' S h tk ∧ StF B C cns (us, X) h ∧ Inv i ys X ∧ us.length = cns.length ∧ i ≤ n ∧ m = n + 1 - i) ?_ (n + 1) ⟨0, us, ys0, X0, h₀, tk₀, rfl, s₀, start, hus, Nat.zero_le _, rfl⟩
  rintro m s' ⟨i, us, ys, X, h, tk, rfl, s, hJ, hul, hi, rfl⟩
  obtain ⟨hcI, hcD, hpre, hlen⟩ := hInv _ _ _ hJ
  show wpAny _ A ((compTurn (.ListComp elt [⟨target, iter, ifs, 0⟩] scope pos) 0 (.ref I) (.ref D) cenv).onRaise (fun x => do noteFrame x cenv; theTreesLotGoes x)) _ _ _
  refine wpAny_noted (wpAny_mono (Q := fun fin s' => match fin with
        | .done f => PostG S (StF B C cns) Q (.ok f) s'
        | .again c' => c' = .compLoop (.ListComp elt [⟨target, iter, ifs, 0⟩] scope pos) 0 (.ref I) (.ref D) cenv ∧ ∃ m, m < n + 1 - i ∧ (∃ i us ys X h tk, s' = at' S h tk ∧ StF B C cns (us, X) h ∧ Inv i ys X ∧ us.length = cns.length ∧ i ≤ n ∧ m = n + 1 - i)) (E := fun _ _ => False) ?_ (fun _ _ q => q) fun _ _ e => e.elim)
  rw [compTurn_list]
  refine wpAny_bind (wpAny_standAt (wpAny_bind (wpAny_mono (E := fun _ _ => False) (Q := fun r s1 => match r with
    | none => ∃ h1 t1, s1 = at' S h1 t1 ∧ i = n ∧ StF B C cns (us, era X I) h1
    | some v => ∃ h1 t1, s1 = at' S h1 t1 ∧ i < n ∧ P i v ∧ StF B C cns (us, upd X I (itm (i + 1))) h1) ?_ (fun r s1 hr => ?_) fun _ _ e => e.elim)))
  · by_cases hin : i < n
    · refine wpAny_mono (W.nxt i us _ (fun r x1 => match r with | none => False | some v => P i v ∧ x1 = (us, upd X I (itm (i + 1)))) hin hcI hpre (fun v hv => ⟨hv, rfl⟩) h tk s) (fun r s1 hr => ?_) fun _ _ e => e
      obtain ⟨h1, t1, x1, e, s1', q⟩ := hr
      cases r with
      | none => exact q.elim
      | some v => obtain ⟨hv, rfl⟩ := q; exact ⟨h1, t1, e, hin, hv, s1'⟩
    · have hin : i = n := by exact Nat.le_antisymm hi (Nat.le_of_not_lt hin)
      subst hin
      refine wpAny_mono (W.fin us _ (fun r x1 => r = none ∧ x1 = (us, era X I)) hcI hpre ⟨rfl, rfl⟩ h tk s) (fun r s1 hr => ?_) fun _ _ e => e
      obtain ⟨h1, t1, x1, e, s1', rfl, rfl⟩ := hr
      exact ⟨h1, t1, e, rfl, s1'⟩
  · cases r with
    | none =>
      obtain ⟨h1, t1, rfl, rfl, s1'⟩ := hr
      exact wpAny_pure ⟨h1, t1, _, rfl, s1', done ys us X hJ⟩
    | some v =>
      obtain ⟨h1, t1, rfl, hin, hv, s1'⟩ := hr
      refine wpAny_bind (lift (W.go (i + 1) us _ (fun _ x1 => x1 = (us, upd X I (itm (i + 1)))) target v hin upd_same rfl (ht i v hv)) s1' fun _ x1 h2 t2 e s2 => ?_)
      subst e
      refine wpAny_bind (lift (turn i v ys us X hin hv hJ hul) s2 fun _ x3 h3 t3 q3 s3 => ?_)
      refine wpAny_bind (m := testsOf ifs cenv) (lift q3 s3 fun ok x4 h4 t4 q4 s4 => ?_)
      cases ok with
      | false =>
        obtain ⟨Y, hJ', hl', k⟩ := q4
        exact wpAny_pure ⟨rfl, n + 1 - (i + 1), by exact Mine.q5 hin, i + 1, x4.1, ys, Y, h4, t4, rfl, StF.weaken (vs := x4.1) (H := x4.2) s4 k, hJ', hl', hin, rfl⟩
      | true =>
      simp only [if_true]
      refine wpAny_bind (wpAny_bind (lift (show wpG w S (StF B C cns) A (eval elt cenv) _ x4 from q4) s4 fun y x5 h5 t5 q5 s5 => ?_))
      obtain ⟨Y, hJ', hl', hYD, k⟩ := q5
      have hys : ys.length ≤ sizeLine := Nat.le_trans hlen (Nat.le_trans hi hn)
      refine wpAny_bind (lift (f_append (vs := x5.1) (H := x5.2) (Q := fun _ x6 => x6 = (x5.1, upd x5.2 D (.lst (ys ++ [y])))) (k D _ hYD) hys rfl) s5 fun _ x6 h6 t6 e6 s6 => ?_)
      subst e6
      exact wpAny_pure (wpAny_pure ⟨rfl, n + 1 - (i + 1), by exact Mine.q5 hin, i + 1, x5.1, ys ++ [y], _, h6, t6, rfl, StF.weaken (vs := x5.1) (H := upd x5.2 D (.lst (ys ++ [y]))) s6 (Sub.upd k), hJ', hl', hin, rfl⟩)
theorem locMap_none : ∀ (ns : List Str) (y : Str), locMap ns (ns.map fun _ => none) y = none
  | [], _ => rfl
  | c :: r, y => by
    show (((c, none) :: (r.zip (r.map fun _ => none))).lookup y).join = none
    rw [List.lookup_cons]
    cases y == c <;> first | rfl | exact locMap_none r y
/-- what is shown behind the pyIter of a comprehension's source -/
structure CompGo (w : World) (S : Shared) (B : HM) (A : Around) (L : Addr) (ns : List Str) (env : Env) (scope : Scope) (cl : List (Str × Addr)) (cns : List Str) (elt target : Expr) (ifs : List Expr) (Q : Value → Fst → Prop)
    (I : Addr) (vs1 : List (Option Value)) (H1 : HM) (n : Nat) (P : Nat → Value → Prop) (itm : Nat → Item) (pre : HM → Prop) (Inv : Nat → List Value → Prop) : Prop where
  W : ∀ C, Iter w S B A C cns I n P itm pre
  pre : ∀ X, Sub H1 X → pre X
  len : ∀ i ys, Inv i ys → ys.length ≤ i
  size : n ≤ sizeLine
  ht : ∀ i v, P i v → match target with | .Tuple .. | .List .. => ∃ a, v = .ref a | _ => True
  start : Inv 0 []
  turn : ∀ D C, H1 D = none → B D = none → D ≠ I → H1 L = none → L ≠ D → L ≠ I → Fn (compEnvC scope cl C env) C cns → ∀ i v ys cvs, i < n → P i v → Inv i ys → cvs.length = cns.length →
    wpG w S (StF B C cns) A (assign target (compEnvC scope cl C env) v) (fun _ x1 => wpG w S (StF B C cns) A (testsOf ifs (compEnvC scope cl C env)) (fun ok x2 =>
      if ok = true then wpG w S (StF B C cns) A (eval elt (compEnvC scope cl C env)) (fun y x3 => Inv (i + 1) (ys ++ [y]) ∧ x3.1.length = cns.length ∧ Sub (Hc (upd H1 L (.loc ns vs1)) I D itm (i + 1) ys) x3.2) x2
      else Inv (i + 1) ys ∧ x2.1.length = cns.length ∧ Sub (Hc (upd H1 L (.loc ns vs1)) I D itm (i + 1) ys) x2.2) x1) (cvs, Hc (upd H1 L (.loc ns vs1)) I D itm (i + 1) ys)
  done : ∀ D ys, H1 D = none → B D = none → Inv n ys → Q (.ref D) (vs1, upd H1 D (.lst ys))
structure CompGoX (w : World) (S : Shared) (B : HM) (A : Around) (L : Addr) (ns : List Str) (env : Env) (scope : Scope) (cl : List (Str × Addr)) (cns : List Str) (elt target : Expr) (ifs : List Expr) (Q : Value → Fst → Prop)
    (I : Addr) (vs1 : List (Option Value)) (H1 : HM) (n : Nat) (P : Nat → Value → Prop) (itm : Nat → Item) (pre : HM → Prop) : Prop where
  W : ∀ C, Iter w S B A C cns I n P itm pre
  size : n ≤ sizeLine
  ht : ∀ i v, P i v → match target with | .Tuple .. | .List .. => ∃ a, v = .ref a | _ => True
  go : ∀ D C, H1 D = none → B D = none → D ≠ I → H1 L = none → L ≠ D → L ≠ I → Fn (compEnvC scope cl C env) C cns → ∃ Inv : Nat → List Value → HM → Prop,
    (∀ i ys X, Inv i ys X → X I = some (itm i) ∧ X D = some (.lst ys) ∧ X L = some (.loc ns vs1) ∧ pre X ∧ ys.length ≤ i) ∧
    Inv 0 [] (Hc (upd H1 L (.loc ns vs1)) I D itm 0 []) ∧
    (∀ i v ys cvs X, i < n → P i v → Inv i ys X → cvs.length = cns.length → wpG w S (StF B C cns) A (assign target (compEnvC scope cl C env) v) (fun _ x1 => wpG w S (StF B C cns) A (testsOf ifs (compEnvC scope cl C env)) (tookQ w S B A C cns D elt (compEnvC scope cl C env) Inv i ys) x1) (cvs, upd X I (itm (i + 1)))) ∧
    (∀ ys X, Inv n ys X → Q (.ref D) (vs1, era (era X I) L))
variable {env : Env} {cl : List (Str × Addr)} {Q : Value → Fst → Prop} {vs1 : List (Option Value)} {H1 : HM} {Inv : Nat → List Value → Prop}
theorem comp_blockX {h : Heap} {tk : Nat} (l : Fn env L ns) (hcell : ∀ y ∈ scope.names, y.2 ≠ .cell) (hkind : scope.kind = .function) (lc : Lcl (relabel scope env) cns)
    (G : CompGoX w S B A L ns env scope cl cns elt target ifs Q I vs1 H1 n P itm pre) (hI : H1 I = none) (s : StF B L ns (vs1, upd H1 I (itm 0)) h) :
    wpAny (PM w) A (newList []) (fun acc s₃ => wpAny (PM w) A (newFunctionEnv scope env.globals cl [] env.qual none .none (some env)) (fun cenv s₄ =>
      codeAny (PM w) A (.compStart (.ListComp elt [⟨target, iter, ifs, 0⟩] scope pos) 0 (.ref I) acc { cenv with scope := relabel scope env }) (fun r s' => ∃ m, s'.heap.Ns cenv.locals m ∧ ∃ f, r = .ok f ∧ ∃ Z h5 t5, s' = at' S h5 t5 ∧ Z cenv.locals = none ∧ B cenv.locals = none ∧ cenv.locals ≠ L ∧ Q acc (vs1, Z) ∧ ∀ h', Heap.SameBut cenv.locals h5 h' → StF B L ns (vs1, Z) h') s₄) (fun _ _ => False) s₃) (fun _ _ => False) (at' S h tk) := by
  refine wpAny_newList (wpAny_newFunctionEnv hcell (by intro y hy; simp at hy) (fun h₁ hns₁ hsb₁ => ?_) hkind) (by simp)
  dsimp only at hns₁ hsb₁ ⊢
  have hL1 : H1 L = none := by
    have := s.off; simp only at this
    cases e : H1 L with
    | none => rfl
    | some i => rw [upd_old hI e] at this; cases this
  have hLI : L ≠ I := by rintro rfl; have := s.off; simp only [upd_same] at this; cases this
  have hD1 : upd H1 I (itm 0) h.objs.size = none := s.st.own.fresh
  have hDI : h.objs.size ≠ I := by intro z; rw [z, upd_same] at hD1; cases hD1
  have hD : H1 h.objs.size = none := by rw [upd_ne hDI] at hD1; exact hD1
  have hBD := s.st.base.fresh
  have hLD : L ≠ h.objs.size := Nat.ne_of_lt s.loc.lt
  have sA : St B (upd (upd (upd H1 I (itm 0)) L (.loc ns vs1)) h.objs.size (.lst [])) (h.push { cls := .type "list", data := .seq ([] : List Value).toArray }) :=
    St.pushL (s.st.put (i := .loc ns vs1) (fun _ _ _ e => e) s.loc s.offB)
  generalize hH2 : h.push { cls := .type "list", data := .seq ([] : List Value).toArray } = h2 at hns₁ hsb₁ sA
  have eA : upd (upd (upd H1 I (itm 0)) L (.loc ns vs1)) h.objs.size (.lst []) = Hc (upd H1 L (.loc ns vs1)) I h.objs.size itm 0 [] := by
    unfold Hc; rw [upd_swap (Ne.symm hLI)]
  rw [eA] at sA
  have old : ∀ b o, h2.get? b = some o → h₁.get? b = some o := fun b o e => hsb₁.extBut b o (Nat.ne_of_lt (Heap.lt_size e)) (Heap.get?_push_of_some _ e)
  have sC : StF B h2.objs.size cns (cns.map fun _ => none, Hc (upd H1 L (.loc ns vs1)) I h.objs.size itm 0 []) h₁ := by
    refine ⟨sA.keeps old, ?_, sA.own.fresh, sA.base.fresh⟩
    obtain ⟨o, es, ep, e1, e2, e3, e4⟩ := hns₁
    refine ⟨o, es, ep, e1, e2, e3, fun y => (e4 y).trans ?_⟩
    show none = locMap cns (cns.map fun _ => none) y
    exact (locMap_none cns y).symm
  have fc : Fn (compEnvC scope cl h2.objs.size env) h2.objs.size cns := ⟨rfl, l.globals, l.builtins, lc⟩
  obtain ⟨Inv, g1, g2, g3, g4⟩ := G.go h.objs.size h2.objs.size hD hBD hDI hL1 hLD hLI fc
  have loop : codeG w S (StF B h2.objs.size cns) A (.compLoop (.ListComp elt [⟨target, iter, ifs, 0⟩] scope pos) 0 (.ref I) (.ref h.objs.size) (compEnvC scope cl h2.objs.size env))
      (fun r x => r = .ok .next ∧ ∃ ys us X, Inv n ys X ∧ x = (us, era X I)) (cns.map fun _ => none, Hc (upd H1 L (.loc ns vs1)) I h.objs.size itm 0 []) :=
    code_compX (G.W _) Inv (fun i ys X hJ => let ⟨a, b, c, d, e⟩ := g1 i ys X hJ; ⟨a, b, d, e⟩) (Ne.symm hDI) G.size G.ht g3 (fun ys us X hJ => ⟨rfl, ys, us, X, hJ, rfl⟩) (by simp) g2
  have fin : ∀ h9 tk', StF B h2.objs.size cns (cns.map fun _ => none, Hc (upd H1 L (.loc ns vs1)) I h.objs.size itm 0 []) h9 → codeAny (PM w) A (.compLoop (.ListComp elt [⟨target, iter, ifs, 0⟩] scope pos) 0 (.ref I) (.ref h.objs.size) (compEnvC scope cl h2.objs.size env))
      (fun r s' => ∃ m, s'.heap.Ns h2.objs.size m ∧ ∃ f, r = .ok f ∧ ∃ Z h5 t5, s' = at' S h5 t5 ∧ Z h2.objs.size = none ∧ B h2.objs.size = none ∧ h2.objs.size ≠ L ∧ Q (.ref h.objs.size) (vs1, Z) ∧ ∀ h', Heap.SameBut h2.objs.size h5 h' → StF B L ns (vs1, Z) h') (at' S h9 tk') := fun h9 tk' sC =>
    liftC loop sC fun r x h5 t5 q5 s5 => by
      obtain ⟨rfl, ys, us, X, hJ, rfl⟩ := q5
      obtain ⟨gI, gD, gL, _, _⟩ := g1 _ _ _ hJ
      have offC := s5.off
      have offBC := s5.offB
      simp only at offC
      have hCL : h2.objs.size ≠ L := by
        rintro z
        rw [z] at offC
        unfold era at offC
        rw [if_neg hLI, gL] at offC
        cases offC
      refine ⟨_, s5.loc, _, rfl, era (era X I) L, h5, t5, rfl, (show era (era X I) L h2.objs.size = none from (if_neg hCL).trans offC), offBC, hCL, g4 ys X hJ, fun h' hs' => ?_⟩
      have s6 : St B (era X I) h' :=
        ⟨fun a j e => (s5.st.base a j e).keeps fun o e2 => (hs'.2 a (by first | exact nn e (offBC) | exact Ne.symm (nn e (offBC)) | exact nn (offBC) e | exact Ne.symm (nn (offBC) e) | (rintro rfl; rw [offBC] at e; cases e))).trans e2,
         fun a j e => (s5.st.own a j e).keeps fun o e2 => (hs'.2 a (by rintro rfl; have e' : era _ I _ = some j := e; rw [offC] at e'; cases e')).trans e2, s5.st.dis⟩
      have e1 : era X I L = some (.loc ns vs1) := (era_ne hLI).trans gL
      refine ⟨s6.weaken fun a j e => ?_, s6.own L _ e1, if_pos rfl, s.offB⟩
      replace e : era (era X I) L a = some j := e
      by_cases z : a = L
      · rw [z, show era (era X I) L L = none from if_pos rfl] at e; cases e
      · rw [show era (era X I) L a = era X I a from if_neg z] at e; exact e
  refine codeAny_compStart_list (fin _ _ sC) ?_
  refine wpAny_mono ((G.W h2.objs.size).self 0 _ _ (fun v x => v = .ref I ∧ x = (cns.map fun _ => none, Hc (upd H1 L (.loc ns vs1)) I h.objs.size itm 0 [])) ?_ ⟨rfl, rfl⟩ h₁ _ sC) (fun v s' ⟨h', t', x', e, s2, ev, ex⟩ => ?_) fun _ _ e => e.elim
  · unfold Hc; exact (upd_ne (Ne.symm hDI)).trans upd_same
  · subst e ev ex
    exact fin _ _ s2
theorem CompGo.toX {Q : Value → Fst → Prop} {vs1 : List (Option Value)} {H1 : HM} {Inv : Nat → List Value → Prop} (G : CompGo w S B A L ns env scope cl cns elt target ifs Q I vs1 H1 n P itm pre Inv) (hI : H1 I = none) : CompGoX w S B A L ns env scope cl cns elt target ifs Q I vs1 H1 n P itm pre := by
  refine ⟨G.W, G.size, G.ht, fun D C hD hBD hDI hL hLD hLI fc => ⟨fun i ys X => Inv i ys ∧ X = Hc (upd H1 L (.loc ns vs1)) I D itm i ys, ?_, ⟨G.start, rfl⟩, ?_, ?_⟩⟩
  · rintro i ys X ⟨hJ, rfl⟩
    refine ⟨(upd_ne (Ne.symm hDI)).trans upd_same, upd_same, (upd_ne hLD).trans ((upd_ne hLI).trans upd_same), G.pre _ fun a j e => ?_, G.len _ _ hJ⟩
    exact (upd_ne (by first | exact nn e (hD) | exact Ne.symm (nn e (hD)) | exact nn (hD) e | exact Ne.symm (nn (hD) e) | (rintro rfl; rw [hD] at e; cases e))).trans ((upd_ne (by first | exact nn e (hI) | exact Ne.symm (nn e (hI)) | exact nn (hI) e | exact Ne.symm (nn (hI) e) | (rintro rfl; rw [hI] at e; cases e))).trans ((upd_ne (by first | exact nn e (hL) | exact Ne.symm (nn e (hL)) | exact nn (hL) e | exact Ne.symm (nn (hL) e) | (rintro rfl; rw [hL] at e; cases e))).trans e))
  · rintro i v ys cvs X hi hv ⟨hJ, rfl⟩ hc
    rw [show upd (Hc (upd H1 L (.loc ns vs1)) I D itm i ys) I (itm (i + 1)) = Hc (upd H1 L (.loc ns vs1)) I D itm (i + 1) ys from by unfold Hc; rw [upd_swap hDI, upd_upd]]
    refine wpG_mono (G.turn D C hD hBD hDI hL hLD hLI fc i v ys cvs hi hv hJ hc) fun _ x1 q1 => wpG_mono q1 fun ok x2 q2 => ?_
    cases ok with
    | true => exact wpG_mono (show wpG w S (StF B C cns) A _ _ x2 from q2) fun y x3 ⟨a, b, c⟩ => ⟨_, ⟨a, upd_upd⟩, b, upd_same, c⟩
    | false =>
      obtain ⟨a, b, c⟩ := (show _ ∧ _ ∧ _ from q2)
      exact ⟨_, ⟨a, rfl⟩, b, c⟩
  · rintro ys X ⟨hJ, rfl⟩
    rw [show era (era (Hc (upd H1 L (.loc ns vs1)) I D itm n ys) I) L = upd H1 D (.lst ys) from ?_]
    · exact G.done D ys hD hBD hJ
    · funext a
      unfold era Hc
      by_cases zL : a = L
      · rw [if_pos zL, zL, upd_ne hLD, hL]
      · rw [if_neg zL]
        by_cases zI : a = I
        · rw [if_pos zI, zI, upd_ne (Ne.symm hDI), hI]
        · rw [if_neg zI]
          by_cases zD : a = D
          · rw [zD, upd_same, upd_same]
          · rw [upd_ne zD, upd_ne zI, upd_ne zL, upd_ne zD]
theorem e_compX {x : Fst} (l : Fn env L ns) (hclos : closureFor scope env = pure cl) (hcell : ∀ y ∈ scope.names, y.2 ≠ .cell) (hkind : scope.kind = .function) (hnames : ∀ y ∈ scope.names, y.2 = .local → scope.names.lookup y.1 = some .local)
    (lc : Lcl (relabel scope env) cns)
    (y : wpG w S (StF B L ns) A (eval iter env) (fun xv x1 => wpG w S (StF B L ns) A (pyIter xv) (fun it x2 => ∃ I vs1 H1 n P itm pre, it = .ref I ∧ x2 = (vs1, upd H1 I (itm 0)) ∧ H1 I = none ∧
      CompGoX w S B A L ns env scope cl cns elt target ifs Q I vs1 H1 n P itm pre) x1) x) (hs : ∀ x, foldedSetIterable iter env x = pure x := by intro _; rfl) :
    wpG w S (StF B L ns) A (eval (.ListComp elt [⟨target, iter, ifs, 0⟩] scope pos) env) Q x := fun h tk s => by
  show wpAny _ _ (comprehension (.ListComp elt [⟨target, iter, ifs, 0⟩] scope pos) scope env _ (newList []) false (eval iter env)) _ _ _
  refine wpAny_comprehension_free (use := none) rfl hs hclos hkind hnames (lift y s fun xv x1 h1 t1 q1 s1 => lift q1 s1 fun it x2 h2 t2 q2 s2 => ?_)
  obtain ⟨I, vs1, H1, n, P, itm, pre, rfl, rfl, hI, G⟩ := q2
  refine wpAny_mono (comp_blockX l hcell hkind lc G hI s2) (fun acc s3 q3 => wpAny_mono q3 (fun cenv s4 q4 => codeAny_mono q4 fun r s5 q5 => ?_) fun _ _ e => e.elim) fun _ _ e => e.elim
  obtain ⟨m, hn, f, rfl, Z, h5, t5, rfl, _, _, _, hQ, k⟩ := q5
  exact ⟨m, hn, fun h' hs' => ⟨h', t5, _, rfl, k h' hs', hQ⟩⟩
/-- the value of a list comprehension -/
theorem e_comp {x : Fst} (l : Fn env L ns) (hclos : closureFor scope env = pure cl) (hcell : ∀ y ∈ scope.names, y.2 ≠ .cell) (hkind : scope.kind = .function) (hnames : ∀ y ∈ scope.names, y.2 = .local → scope.names.lookup y.1 = some .local)
    (lc : Lcl (relabel scope env) cns)
    (y : wpG w S (StF B L ns) A (eval iter env) (fun xv x1 => wpG w S (StF B L ns) A (pyIter xv) (fun it x2 => ∃ I vs1 H1 n P itm pre Inv, it = .ref I ∧ x2 = (vs1, upd H1 I (itm 0)) ∧ H1 I = none ∧
      CompGo w S B A L ns env scope cl cns elt target ifs Q I vs1 H1 n P itm pre Inv) x1) x) (hs : ∀ x, foldedSetIterable iter env x = pure x := by intro _; rfl) :
    wpG w S (StF B L ns) A (eval (.ListComp elt [⟨target, iter, ifs, 0⟩] scope pos) env) Q x := 
  e_compX l hclos hcell hkind hnames lc (wpG_mono y fun xv x1 y1 => wpG_mono y1 fun it x2 ⟨I, vs1, H1, n, P, itm, pre, Inv, a, b, hI, G⟩ => ⟨I, vs1, H1, n, P, itm, pre, a, b, hI, G.toX hI⟩) hs
theorem StF.sameBut {h h' : Heap} {x : Fst} {C : Addr} (s : StF B L ns x h) (hs : Heap.SameBut C h h') (hZ : x.2 C = none) (hB : B C = none) (n : C ≠ L) : StF B L ns x h' :=
  ⟨⟨fun a j e => (s.st.base a j e).keeps fun o e2 => (hs.2 a (by first | exact nn e (hB) | exact Ne.symm (nn e (hB)) | exact nn (hB) e | exact Ne.symm (nn (hB) e) | (rintro rfl; rw [hB] at e; cases e))).trans e2, fun a j e => (s.st.own a j e).keeps fun o e2 => (hs.2 a (by first | exact nn e (hZ) | exact Ne.symm (nn e (hZ)) | exact nn (hZ) e | exact Ne.symm (nn (hZ) e) | (rintro rfl; rw [hZ] at e; cases e))).trans e2, s.st.dis⟩, s.loc.sameBut hs (Ne.symm n), s.off, s.offB⟩
/-- a comprehension laid into a local name of its own row -/
theorem x_assignX {y : Str} {py spos : Pos} {Q : Flow → Fst → Prop} {x : Fst} (i : Nat) (hi : ns[i]? = some y) (l : Fn env L ns) (hsw : swapsWith (.ListComp elt [⟨target, iter, ifs, 0⟩] scope pos) (some (.Name y py)) spos.line env = pure true)
    (hclos : closureFor scope env = pure cl) (hcell : ∀ y ∈ scope.names, y.2 ≠ .cell) (hkind : scope.kind = .function) (hnames : ∀ y ∈ scope.names, y.2 = .local → scope.names.lookup y.1 = some .local)
    (lc : Lcl (relabel scope env) cns)
    (q : wpG w S (StF B L ns) A (eval iter env) (fun xv x1 => wpG w S (StF B L ns) A (pyIter xv) (fun it x2 => ∃ I vs1 H1 n P itm pre, it = .ref I ∧ x2 = (vs1, upd H1 I (itm 0)) ∧ H1 I = none ∧
      CompGoX w S B A L ns env scope cl cns elt target ifs (fun v x3 => i < x3.1.length ∧ Q .next (x3.1.set i (some v), x3.2)) I vs1 H1 n P itm pre) x1) x) (hs : ∀ x, foldedSetIterable iter env x = pure x := by intro _; rfl) :
    wpG w S (StF B L ns) A (exec (.Assign [.Name y py] (.ListComp elt [⟨target, iter, ifs, 0⟩] scope pos) spos) env) Q x := fun h tk s => by
  rw [exec_Assign_Name_used _ _ _ _ hsw]
  refine wpAny_bind (wpAny_standAt (wpAny_bind ?_))
  show wpAny _ A (do let _ ← comprehension (.ListComp elt [⟨target, iter, ifs, 0⟩] scope pos) scope env _ (newList []) false (eval iter env) (some (assign (.Name y py) env))) _ _ _
  refine wpAny_bind (wpAny_mono (wpAny_comprehension_free (use := some (assign (.Name y py) env)) (Q := fun _ s' => PostG S (StF B L ns) Q .next s') rfl hs hclos hkind hnames
    (lift q s fun xv x1 h1 t1 q1 s1 => lift q1 s1 fun it x2 h2 t2 q2 s2 => ?_)) (fun _ s' hq => wpAny_pure (wpAny_pure hq)) fun _ _ e => e)
  obtain ⟨I, vs1, H1, n, P, itm, pre, rfl, rfl, hI, G⟩ := q2
  refine wpAny_mono (comp_blockX l hcell hkind lc G hI s2) (fun acc s3 q3 => wpAny_mono q3 (fun cenv s4 q4 => codeAny_mono q4 fun r s5 q5 => ?_) fun _ _ e => e.elim) fun _ _ e => e.elim
  obtain ⟨m, hn, f, rfl, Z, h5, t5, rfl, hZ, hB, hC, ⟨hlen, hQ⟩, k⟩ := q5
  have sZ := k h5 (Heap.SameBut.refl ..)
  show wpAny _ A (assign (.Name y py) env acc) _ _ _
  refine wpAny_assign_Name (wpAny_storeName_local (l.lcl.loc y (List.mem_of_getElem? hi)) (by rw [l.locals]; exact sZ.loc) (fun h' hn' hs' => ?_) (by rw [l.lcl.kind]; rfl))
  rw [l.locals] at hn' hs'
  have sS := sZ.store (v := acc) l.lcl hi hlen hn' hs'
  exact ⟨m, hn.sameBut hs' hC, fun h3 hs3 => ⟨h3, _, _, rfl, sS.sameBut hs3 hZ hB hC, hQ⟩⟩
theorem x_assignC {y : Str} {py spos : Pos} {Q : Flow → Fst → Prop} {x : Fst} (i : Nat) (hi : ns[i]? = some y) (l : Fn env L ns) (hsw : swapsWith (.ListComp elt [⟨target, iter, ifs, 0⟩] scope pos) (some (.Name y py)) spos.line env = pure true)
    (hclos : closureFor scope env = pure cl) (hcell : ∀ y ∈ scope.names, y.2 ≠ .cell) (hkind : scope.kind = .function) (hnames : ∀ y ∈ scope.names, y.2 = .local → scope.names.lookup y.1 = some .local)
    (lc : Lcl (relabel scope env) cns)
    (q : wpG w S (StF B L ns) A (eval iter env) (fun xv x1 => wpG w S (StF B L ns) A (pyIter xv) (fun it x2 => ∃ I vs1 H1 n P itm pre Inv, it = .ref I ∧ x2 = (vs1, upd H1 I (itm 0)) ∧ H1 I = none ∧
      CompGo w S B A L ns env scope cl cns elt target ifs (fun v x3 => i < x3.1.length ∧ Q .next (x3.1.set i (some v), x3.2)) I vs1 H1 n P itm pre Inv) x1) x) (hs : ∀ x, foldedSetIterable iter env x = pure x := by intro _; rfl) :
    wpG w S (StF B L ns) A (exec (.Assign [.Name y py] (.ListComp elt [⟨target, iter, ifs, 0⟩] scope pos) spos) env) Q x := 
  x_assignX i hi l hsw hclos hcell hkind hnames lc (wpG_mono q fun xv x1 y1 => wpG_mono y1 fun it x2 ⟨I, vs1, H1, n, P, itm, pre, Inv, a, b, hI, G⟩ => ⟨I, vs1, H1, n, P, itm, pre, a, b, hI, G.toX hI⟩) hs
end
end
end Mine
end
/-! part H5 -/
section
open PySem PySem.W PySem.Calls PyProof.Rows
set_option maxRecDepth 100000
set_option maxHeartbeats 4000000
set_option linter.unusedVariables false
namespace Mine
section
variable {w : World} {S : Shared} {B : HM} {A : Around} {H : HM} {L : Addr} {ns : List Str} {vs : List (Option Value)} {I l D : Addr} {env : Env} {pos : Pos}

/-! targets -/
theorem t_name {n : Str} {v : Value} {Q : Unit → Fst → Prop} (f : Fn env L ns) (i : Nat) (hi : ns[i]? = some n) (hv : i < vs.length) (q : Q () (vs.set i (some v), H)) : wpG w S (StF B L ns) A (assign (.Name n pos) env v) Q (vs, H) := fun h tk s => by
  refine wpAny_assign_Name ?_
  exact f_store f i hi hv q h tk s
theorem bindName_ {σ : Type} {J : σ → Heap → Prop} {x : σ} {n : Str} {v : Value} {Q : Unit → σ → Prop} (y : wpG w S J A (storeName env n v) Q x) : wpG w S J A (bindName env n v) Q x := fun h tk s => wpAny_bindName (y h tk s)
theorem t_tuple2 {n m : Str} {p1 p2 : Pos} {k : Nat} {t : Addr} {u v : Value} {Q : Unit → Fst → Prop} (hh : A.handled = none) (f : Fn env L ns) (i j : Nat) (hi : ns[i]? = some n) (hj : ns[j]? = some m) (li : i < vs.length) (lj : j < vs.length) (ht : H t = some (.obj (tupO [u, v])))
    (q : Q () ((vs.set i (some u)).set j (some v), H)) : wpG w S (StF B L ns) A (assign (.Tuple [.Name n p1, .Name m p2] k pos) env (.ref t)) Q (vs, H) := fun h tk s => by
  refine wpAny_assign_Tuple hh ⟨_, s.st.own t _ ht, rfl, _, rfl⟩ rfl rfl fun h' hk => ?_
  have s' : StF B L ns (vs, H) h' := by
    refine ⟨⟨fun a j e => (s.st.base a j e).keeps fun o e2 => hk a o (fun z => ?_) e2, fun a j e => (s.st.own a j e).keeps fun o e2 => hk a o (Nat.ne_of_lt (Heap.lt_size e2)) e2, s.st.dis⟩, s.loc.extBut hk (Nat.ne_of_lt s.loc.lt), s.off, s.offB⟩
    exact absurd (Heap.lt_size e2) (by rw [z]; exact Nat.lt_irrefl _)
  refine wpAny_assignInOrder_more (lift (t_name (vs := vs) (H := H) (Q := fun _ x => x = (vs.set i (some u), H)) f i hi li rfl) s' fun _ x1 h1 t1 e1 s1 => ?_)
  subst e1
  refine wpAny_assignInOrder_more (lift (t_name (vs := vs.set i (some u)) (H := H) (Q := fun _ x => x = ((vs.set i (some u)).set j (some v), H)) f j hj (by simpa using lj) rfl) s1 fun _ x2 h2 t2 e2 s2 => ?_)
  subst e2
  exact wpAny_assignInOrder_none ⟨h2, t2, _, rfl, s2, q⟩

/-! making iterators -/
theorem i_list {us : List Value} {Q : Value → Fst → Prop} (hl : H l = some (.lst us)) (q : ∀ I, H I = none → B I = none → I ≠ l → Q (.ref I) (vs, upd H I (itL l 0))) : wpG w S (StF B L ns) A (pyIter (.ref l)) Q (vs, H) := fun h tk s =>
  wpAny_pyIter_list (Heap.PlainList.isList (s.st.own l _ hl)) ⟨_, tk, _, rfl, s.new (i := itL l 0) (fun _ _ e => Heap.get?_push_of_some _ e) ⟨_, Heap.get?_push_size _ rfl, rfl, rfl⟩,
    q _ s.st.own.fresh s.st.base.fresh (Nat.ne_of_gt (s.st.own.lt hl))⟩
theorem i_str {y : Str} {t : Tok} {Q : Value → Fst → Prop} (ha : y.cps.all (· < 128) = true) (q : ∀ I, H I = none → B I = none → Q (.ref I) (vs, upd H I (itS y t 0))) : wpG w S (StF B L ns) A (pyIter (.str y t)) Q (vs, H) := fun h tk s =>
  wpAny_pyIter_ascii ha ⟨_, tk, _, rfl, s.new (i := itS y t 0) (fun _ _ e => Heap.get?_push_of_some _ e) ⟨_, Heap.get?_push_size _ rfl, rfl, rfl⟩, q _ s.st.own.fresh s.st.base.fresh⟩
def rngI (a b : Int) : Item := .any fun o => ∃ t u v, o = { cls := .type "range", dict := none, data := .fields #[.int a t, .int b u, .int 1 v], slots := #[] }
theorem r_range1 {n : Int} {t : Tok} {Q : Value → Fst → Prop} (q : ∀ r, H r = none → B r = none → Q (.ref r) (vs, upd H r (rngI 0 n))) : wpG w S (StF B L ns) A (call (.type "range") [.int n t]) Q (vs, H) := fun h tk s =>
  call_range_1 ⟨_, _, _, rfl, s.new (i := rngI 0 n) (fun _ _ e => Heap.get?_push_of_some _ e) ⟨_, Heap.get?_push_size _ rfl, _, _, _, rfl⟩, q _ s.st.own.fresh s.st.base.fresh⟩
theorem r_range2 {a b : Int} {t u : Tok} {Q : Value → Fst → Prop} (q : ∀ r, H r = none → B r = none → Q (.ref r) (vs, upd H r (rngI a b))) : wpG w S (StF B L ns) A (call (.type "range") [.int a t, .int b u]) Q (vs, H) := fun h tk s =>
  call_range_2 ⟨_, _, _, rfl, s.new (i := rngI a b) (fun _ _ e => Heap.get?_push_of_some _ e) ⟨_, Heap.get?_push_size _ rfl, _, _, _, rfl⟩, q _ s.st.own.fresh s.st.base.fresh⟩
theorem i_range {r : Addr} {a b : Int} {Q : Value → Fst → Prop} (hr : H r = some (rngI a b)) (h1 : -(2 ^ 62) ≤ a) (h2 : a < 2 ^ 62) (h3 : -(2 ^ 62) ≤ b) (h4 : b < 2 ^ 62)
    (q : ∀ I, H I = none → B I = none → Q (.ref I) (vs, upd H I (itR a (if a < b then b - a else 0) 1))) : wpG w S (StF B L ns) A (pyIter (.ref r)) Q (vs, H) := fun h tk s => by
  obtain ⟨o, ho, t, u, v, rfl⟩ := s.st.own r _ hr
  refine wpAny_pyIter_range ho (small_one h1 h2 h3 h4) ⟨_, tk, _, rfl, s.new (i := itR a (if a < b then b - a else 0) 1) (fun _ _ e => Heap.get?_push_of_some _ e) ?_, q _ s.st.own.fresh s.st.base.fresh⟩
  rw [rangeSize_one]
  exact Heap.get?_push_size _ rfl
abbrev okQ (Q : Flow → Fst → Prop) : Result → Fst → Prop := fun r x3 => ∃ f, r = .ok f ∧ Q f x3
theorem x_for {target iter : Expr} {body : List Stmt} {Q : Flow → Fst → Prop} {x : Fst} (y : wpG w S (StF B L ns) A (eval iter env) (fun xv x1 => wpG w S (StF B L ns) A (pyIter xv) (fun it x2 => codeG w S (StF B L ns) A (.forLoop target it body [] env) (okQ Q) x2) x1) x)
    (hs : ∀ x, foldedSetIterable iter env x = pure x := by intro _; rfl) : wpG w S (StF B L ns) A (exec (.For target iter body [] pos) env) Q x := fun h tk s =>
  wpAny_For (lift y s fun xv x1 h1 t1 q1 s1 => lift q1 s1 fun it x2 h2 t2 q2 s2 => liftC q2 s2 fun r x3 h3 t3 q3 s3 => by
    obtain ⟨f, rfl, q⟩ := q3
    exact ⟨h3, t3, x3, rfl, s3, q⟩) hs
/-- a while by what holds at its head and a number that falls -/
abbrev whileQ (Inv : Nat → Fst → Prop) (Q : Flow → Fst → Prop) (n : Nat) : Flow → Fst → Prop := fun f x2 => match f with
  | .next | .cont => ∃ m Y, m < n ∧ Inv m (x2.1, Y) ∧ Sub Y x2.2
  | .brk => Q .next x2
  | .ret v => Q (.ret v) x2
theorem x_while {test : Expr} {body : List Stmt} {Q : Flow → Fst → Prop} (Inv : Nat → Fst → Prop)
    (turn : ∀ n us X, Inv n (us, X) → wpG w S (StF B L ns) A (isTrue test env (eval test env)) (fun c x1 => if c then wpG w S (StF B L ns) A (execs body env) (whileQ Inv Q n) x1 else Q .next x1) (us, X)) {us : List (Option Value)} {X : HM} (n : Nat) (start : Inv n (us, X)) :
    wpG w S (StF B L ns) A (exec (.While test body [] pos) env) Q (us, X) := fun h tk s => by
  refine wpAny_While (codeAny_mono (R := PostG S (StF B L ns) (fun r x => ∃ f, r = .ok f ∧ Q f x)) (codeAny_whileLoop (fun m s' => ∃ us X h tk, s' = at' S h tk ∧ StF B L ns (us, X) h ∧ Inv m (us, X)) ?_ n ⟨us, X, h, tk, rfl, s, start⟩) fun r s' ⟨h', t', x', e, s2, f, er, q⟩ => ?_)
  · rintro m s' ⟨us, X, h, tk, rfl, s, hJ⟩
    refine wpAny_mono (turn m us X hJ h tk s) (fun c s1 ⟨h1, t1, x1, e, s1', q⟩ => ?_) fun _ _ e => e.elim
    subst e
    cases c with
    | false => exact wpAny_execs_nil ⟨h1, t1, x1, rfl, s1', _, rfl, q⟩
    | true =>
      refine wpAny_mono (q h1 t1 s1') (fun f s2 ⟨h2, t2, x2, e, s2', q⟩ => ?_) fun _ _ e => e.elim
      subst e
      cases f with
      | next => obtain ⟨k, Y, hk, hY, kY⟩ := q; exact ⟨k, hk, x2.1, Y, h2, t2, rfl, StF.weaken (vs := x2.1) (H := x2.2) s2' kY, hY⟩
      | cont => obtain ⟨k, Y, hk, hY, kY⟩ := q; exact ⟨k, hk, x2.1, Y, h2, t2, rfl, StF.weaken (vs := x2.1) (H := x2.2) s2' kY, hY⟩
      | brk => exact ⟨h2, t2, x2, rfl, s2', _, rfl, q⟩
      | ret v => exact ⟨h2, t2, x2, rfl, s2', _, rfl, q⟩
  · subst e er
    exact ⟨h', t', x', rfl, s2, q⟩

/-! subscripts -/
theorem seq_at {k : Int} {n : Nat} (h0 : 0 ≤ k) (hk : k.toNat < n) : seqIndex? k n = some k.toNat := by
  show (if (decide (0 ≤ (if k < 0 then k + (n : Int) else k)) && decide ((if k < 0 then k + (n : Int) else k) < (n : Int))) = true then some (if k < 0 then k + (n : Int) else k).toNat else none) = _
  rw [if_neg (Int.not_lt.mpr h0), decide_eq_true h0, decide_eq_true ((Int.toNat_lt h0).mp hk)]; rfl
theorem e_sub {value slice : Expr} {Q : Value → Fst → Prop} {x : Fst} (y : wpG w S (StF B L ns) A (eval value env) (fun o x1 => wpG w S (StF B L ns) A (eval slice env) (fun i x2 => wpG w S (StF B L ns) A (subscriptTail value slice o i) Q x2) x1) x) :
    wpG w S (StF B L ns) A (eval (.Subscript value slice pos) env) Q x := fun h tk s =>
  Subscript_ (lift y s fun o x1 h1 t1 q1 s1 => lift q1 s1 fun i x2 h2 t2 q2 s2 => q2 h2 t2 s2)
/-- the tail over a built-in type -/
theorem tl {value slice : Expr} {o i : Value} {ops : List Value} {T id : String} {Q : Value → Fst → Prop} {x : Fst} (hT : ∀ h tk, StF B L ns x h → (at' S h tk).TypeIs o T) (hl : typeLookup (.type T) "__getitem__" = pure (some (.builtin id)))
    (hg : wpG w S (StF B L ns) A (getItem o i) Q x) (hs : subscripted slice false o i = operate ops (getItem o i)) : wpG w S (StF B L ns) A (subscriptTail value slice o i) Q x := fun h tk s =>
  tail_any (hT h tk s) hl (hg h tk s) hs
theorem gi_list {us : List Value} {k : Int} {t : Tok} {v : Value} {Q : Value → Fst → Prop} (hl : H l = some (.lst us)) (h0 : 0 ≤ k) (hf : k < 2 ^ 63) (hx : us[k.toNat]? = some v) (q : Q v (vs, H)) : wpG w S (StF B L ns) A (getItem (.ref l) (.int k t)) Q (vs, H) := fun h tk s =>
  wpAny_getItem_list (Heap.PlainList.isList (s.st.own l _ hl)) h0 hf (by simpa using hx) ⟨h, tk, _, rfl, s, q⟩
theorem tl_list {value slice : Expr} {us : List Value} {k : Int} {t : Tok} {v : Value} {Q : Value → Fst → Prop} (hl : H l = some (.lst us)) (h0 : 0 ≤ k) (hf : k < 2 ^ 63) (hx : us[k.toNat]? = some v) (q : Q v (vs, H))
    (hs : subscripted slice false (.ref l) (.int k t) = operate [.ref l, .int k t] (getItem (.ref l) (.int k t)) := by with_unfolding_all rfl) : wpG w S (StF B L ns) A (subscriptTail value slice (.ref l) (.int k t)) Q (vs, H) :=
  tl (fun h tk s => (Heap.PlainList.isList (s.st.own l _ hl)).typeIs) slot_list_getitem.lookup (gi_list hl h0 hf hx q) hs
theorem tl_tup {value slice : Expr} {us : List Value} {k : Int} {t : Tok} {v : Value} {a : Addr} {Q : Value → Fst → Prop} (hl : H a = some (.obj (tupO us))) (h0 : 0 ≤ k) (hf : k < 2 ^ 63) (hk : k.toNat < us.length) (hx : us[k.toNat]? = some v) (q : Q v (vs, H))
    (hs : subscripted slice false (.ref a) (.int k t) = operate [.ref a, .int k t] (getItem (.ref a) (.int k t)) := by with_unfolding_all rfl) : wpG w S (StF B L ns) A (subscriptTail value slice (.ref a) (.int k t)) Q (vs, H) := fun h tk s =>
  item_tupleT ⟨_, s.st.own a _ hl, rfl, _, rfl⟩ (by omega) hf (j := k.toNat) (seq_at h0 hk) hx ⟨h, tk, _, rfl, s, q⟩ hs
/-- storing into a plain list -/
theorem si_list {us : List Value} {k : Int} {t : Tok} {v : Value} {Q : Unit → Fst → Prop} (hl : H l = some (.lst us)) (h0 : 0 ≤ k) (hf : k < 2 ^ 63) (hn : k.toNat < us.length) (q : Q () (vs, upd H l (.lst (us.set k.toNat v)))) : wpG w S (StF B L ns) A (setItem (.ref l) (.int k t) v) Q (vs, H) := fun h tk s => by
  obtain ⟨n, ho⟩ := s.st.own l _ hl
  have hL : h.IsList l us.toArray := ⟨_, ho, rfl, n, rfl⟩
  have hT : (at' S h tk).TypeIs (.ref l) "list" := ⟨_, ho, rfl⟩
  unfold setItem
  try with_reducible refine wpAny_holding ?_
  first | refine wpAny_bind (wpAny_pure ?_) | skip
  refine wpAny_bind (wpAny_sequenceKey hT (by decide) ?_)
  refine wpAny_bind (wpAny_callSpecial?_slot (name := Str.ofString "__setitem__") hT slot_list_setitem
    (wpAny_call_entry slot_list_setitem hT entry_list_setitem ?_ (args_list_setitem _ _ _)))
  show wpAny _ _ (Builtin.List.listSubscript? (.int k t) >>= _) _ _ _
  refine wpAny_bind (wpAny_listSubscript_int (fitsIndex_of h0 hf) ?_)
  clear hf
  obtain ⟨j, rfl⟩ := Int.eq_ofNat_of_zero_le h0
  have hj : j < us.length := by simpa using hn
  show wpAny _ _ ((seqItemAt l j >>= fun r => pure (r.map (j, ·))) >>= _) _ _ _
  refine wpAny_bind (wpAny_bind (wpAny_seqItemAt ho rfl (wpAny_pure ?_)))
  rw [show us.toArray[j]? = some us[j] from by simp [hj]]
  show wpAny _ _ (setSeqItemAt l j v >>= _) _ _ _
  have hfin : (h.update l (Obj.mapSeq (·.setIfInBounds j v))).PlainList l (us.set j v).toArray := by
    refine ⟨n, ?_⟩
    rw [Heap.get?_update_self _ ho (by simp [Obj.mapSeq, Obj.isFreed])]
    simp [Obj.mapSeq]
  refine wpAny_bind (wpAny_setSeqItemAt ho rfl ?_)
  have fin : PostG S (StF B L ns) Q () (at' S (h.update l (Obj.mapSeq (·.setIfInBounds j v))) tk) := ⟨_, tk, (vs, upd H l (.lst (us.set j v))), rfl, s.set hl (Heap.SameBut.update ..) hfin, q⟩
  first
    | exact wpAny_bind (wpAny_pure (wpAny_pure ⟨.none, rfl, wpAny_pure fin⟩))
    | exact wpAny_pure ⟨.none, rfl, wpAny_pure fin⟩

/-! displays -/
theorem e_list {elts : List Expr} {Q : Value → Fst → Prop} {x : Fst} (y : wpG w S (StF B L ns) A (spliced (backTo pos (starEach elts env))) (fun us x1 => us.length ≤ sizeLine ∧ ∀ b, x1.2 b = none → B b = none → Q (.ref b) (x1.1, upd x1.2 b (.lst us))) x) : wpG w S (StF B L ns) A (eval (.List elts pos) env) Q x := by
  show wpG w S (StF B L ns) A (do standAt pos; newList (← spliced (backTo pos (starEach elts env)))) Q x
  exact wpG_bind (wpG_standAt (wpG_bind (wpG_mono y fun us x1 q => f_newList (vs := x1.1) (H := x1.2) q.1 q.2)))
theorem e_tuple {elts : List Expr} {k : Nat} {Q : Value → Fst → Prop} {x : Fst} (y : wpG w S (StF B L ns) A (spliced (backTo pos (starEach elts env))) (fun us x1 => us.length ≤ sizeLine ∧ ∀ b, x1.2 b = none → B b = none → Q (.ref b) (x1.1, upd x1.2 b (.obj (tupO us)))) x) : wpG w S (StF B L ns) A (eval (.Tuple elts k pos) env) Q x := by
  show wpG w S (StF B L ns) A (do standAt pos; newTuple (← spliced (backTo pos (starEach elts env)))) Q x
  exact wpG_bind (wpG_standAt (wpG_bind (wpG_mono y fun us x1 q => f_newTuple (vs := x1.1) (H := x1.2) q.1 q.2)))
theorem e_attr {value : Expr} {n : Str} {Q : Value → Fst → Prop} {x : Fst} (y : wpG w S (StF B L ns) A (eval value env) (fun o x1 => wpG w S (StF B L ns) A (getAttr o n true) Q x1) x)
    (he : eval (.Attribute value n pos) env = (do let o ← eval value env; standAt pos.atName; let r ← holding [o] (getAttr o n true); letTemporaryGo value o r; pure r) := by rfl) : wpG w S (StF B L ns) A (eval (.Attribute value n pos) env) Q x := by
  rw [he]
  refine wpG_bind (wpG_mono y fun o x1 y1 => wpG_bind (wpG_standAt (wpG_bind (wpG_holding (wpG_mono y1 fun r x2 q => wpG_bind ?_)))))
  exact fun h tk s => wpAny_letTemporaryGo ⟨h, tk, x2, rfl, s, wpG_pure q⟩
/-- Is, IsNot where the kinds tell -/
theorem c_is {a b : Value} {Q : Value → Fst → Prop} {x : Fst} (hp : plainIs a b = true) (q : Q (.bool (a == b)) x) : wpG w S (StF B L ns) A (compareOp .Is a b) Q x := fun h tk s => wpAny_is_plain hp ⟨h, tk, x, rfl, s, q⟩
theorem c_isnot {a b : Value} {Q : Value → Fst → Prop} {x : Fst} (hp : plainIs a b = true) (q : Q (.bool (!(a == b))) x) : wpG w S (StF B L ns) A (compareOp .IsNot a b) Q x := fun h tk s => wpAny_isNot_plain hp ⟨h, tk, x, rfl, s, q⟩
end
end Mine
end
/-! part R0 -/
section
open PySem PySem.Sre
set_option maxRecDepth 100000
set_option maxHeartbeats 4000000
set_option linter.unusedVariables false
namespace Mine
/-! the pattern machine, on the two patterns of quotedata -/
def Ends (n : Nat) (m : M) (P : M → Prop) : Prop := ∃ k, k ≤ n ∧ (M.runFor k m).outcome.isSome = true ∧ P (M.runFor k m)
theorem runFor_add : ∀ (a b : Nat) (m : M), M.runFor (a + b) m = M.runFor b (M.runFor a m)
  | 0, b, m => by rw [Nat.zero_add]; rfl
  | a + 1, b, m => by
    rw [show a + 1 + b = (a + b) + 1 from by exact Nat.add_right_comm _ _ _]
    show (if m.outcome.isSome then m else M.runFor (a + b) m.step) = M.runFor b (if m.outcome.isSome then m else M.runFor a m.step)
    by_cases h : m.outcome.isSome = true
    · rw [if_pos h, if_pos h]
      cases b with
      | zero => rfl
      | succ b => show _ = if m.outcome.isSome then m else _; rw [if_pos h]
    · rw [if_neg h, if_neg h]; exact runFor_add a b _
theorem runFor_end {m : M} (h : m.outcome.isSome = true) : ∀ a, M.runFor a m = m
  | 0 => rfl
  | a + 1 => by show (if m.outcome.isSome then m else _) = m; rw [if_pos h]
theorem ends_step {n : Nat} {m : M} {P : M → Prop} (h : m.outcome = none) (y : Ends n m.step P) : Ends (n + 1) m P := by
  obtain ⟨k, hk, h1, h2⟩ := y
  have : M.runFor (k + 1) m = M.runFor k m.step := by
    show (if m.outcome.isSome then m else _) = _
    rw [h]; rfl
  exact ⟨k + 1, Nat.succ_le_succ hk, by rw [this]; exact h1, by rw [this]; exact h2⟩
theorem ends_le {n n' : Nat} {m : M} {P : M → Prop} (h : n ≤ n') (y : Ends n m P) : Ends n' m P := by
  obtain ⟨k, hk, h1, h2⟩ := y
  exact ⟨k, Nat.le_trans hk h, h1, h2⟩
theorem ends_done {n : Nat} {m : M} {P : M → Prop} (h : m.outcome.isSome = true) (p : P m) : Ends n m P := ⟨0, Nat.zero_le _, h, p⟩
abbrev St2 (cd t : Array Nat) (L s : Nat) (mu : Bool) (pc pos hd : Nat) (out : Bool) (fr : List Sre.Frame) (wt : Nat) (an : Option Bool) (sn : Seen) : M :=
  { code := cd, text := t, lim := L, start := s, lastStart := L, mustAdvance := mu, pc := pc, pos := pos, handed := hd, outermost := out, marks := #[], frames := fr, weight := wt, answer := an, seen := sn }
abbrev Fr (wait : Wait) (pc pos : Nat) (out : Bool) : Sre.Frame := { wait := wait, pc := pc, pos := pos, outermost := out }
def code1 : Array Nat := #[14, 4, 0, 1, 1, 6, 1, 16, 46, 1]
def code2 : Array Nat := #[14, 9, 4, 1, 2, 16, 10, 16, 13, 0, 7, 7, 16, 13, 16, 10, 15, 18, 5, 16, 10, 15, 13, 11, 16, 13, 5, 5, 0, 16, 10, 1, 15, 2, 0, 1]
section
variable {cd t : Array Nat} {L s : Nat} {mu : Bool} {pc pos hd : Nat} {out : Bool} {fr : List Sre.Frame} {wt n : Nat} {sn : Seen} {P : M → Prop}
theorem ends_lit (hpc : pc < cd.size) (h16 : cd.getD pc 0 = 16) (hp : pos < L) (hc : t.getD pos 0 = cd.getD (pc + 1) 0) (y : ∀ sn, Ends n (St2 cd t L s mu (pc + 2) (pos + 1) hd out fr wt none sn) P) : Ends (n + 1) (St2 cd t L s mu pc pos hd out fr wt none sn) P := by
  refine ends_step rfl ?_
  have : (St2 cd t L s mu pc pos hd out fr wt none sn).step = St2 cd t L s mu (pc + 2) (pos + 1) hd out fr wt none (sn.add 16) := by
    unfold M.step M.exec M.word accepts itemWidth
    simp [h16, hpc, hc, ops]
    omega
  rw [this]; exact y _
theorem ends_litno (hpc : pc < cd.size) (h16 : cd.getD pc 0 = 16) (hp : pos < L → t.getD pos 0 ≠ cd.getD (pc + 1) 0) (y : ∀ sn, Ends n (St2 cd t L s mu pc pos hd out fr wt (some false) sn) P) : Ends (n + 1) (St2 cd t L s mu pc pos hd out fr wt none sn) P := by
  refine ends_step rfl ?_
  have : (St2 cd t L s mu pc pos hd out fr wt none sn).step = St2 cd t L s mu pc pos hd out fr wt (some false) (sn.add 16) := by
    unfold M.step M.exec M.word accepts itemWidth
    by_cases hl : pos < L
    · have e : (t[pos]?.getD 0 == cd[pc + 1]?.getD 0) = false := by simpa using hp hl
      simp [h16, hpc, ops, e, M.say]
    · simp [h16, hpc, ops, M.say]
      omega
  rw [this]; exact y _
theorem ends_at (hpc : pc < cd.size) (h6 : cd.getD pc 0 = 6) (h1 : cd.getD (pc + 1) 0 = 1) (hp : pos = 0 ∨ t.getD (pos - 1) 0 = 10) (y : ∀ sn, Ends n (St2 cd t L s mu (pc + 2) pos hd out fr wt none sn) P) : Ends (n + 1) (St2 cd t L s mu pc pos hd out fr wt none sn) P := by
  refine ends_step rfl ?_
  have e : (pos == 0 || t[pos - 1]?.getD 0 == 10) = true := by simpa using hp
  have : (St2 cd t L s mu pc pos hd out fr wt none sn).step = St2 cd t L s mu (pc + 2) pos hd out fr wt none ((sn.add 6).add 44) := by
    unfold M.step M.exec M.word
    simp [h6, h1, hpc, ops, M.isAt, e]
  rw [this]; exact y _
theorem ends_atno (hpc : pc < cd.size) (h6 : cd.getD pc 0 = 6) (h1 : cd.getD (pc + 1) 0 = 1) (hp : ¬(pos = 0 ∨ t.getD (pos - 1) 0 = 10)) (y : ∀ sn, Ends n (St2 cd t L s mu pc pos hd out fr wt (some false) sn) P) : Ends (n + 1) (St2 cd t L s mu pc pos hd out fr wt none sn) P := by
  refine ends_step rfl ?_
  have e : (pos == 0 || t[pos - 1]?.getD 0 == 10) = false := by simpa using hp
  have : (St2 cd t L s mu pc pos hd out fr wt none sn).step = St2 cd t L s mu pc pos hd out fr wt (some false) ((sn.add 6).add 44) := by
    unfold M.step M.exec M.word
    simp [h6, h1, hpc, ops, M.isAt, e, M.say]
  rw [this]; exact y _
theorem ends_succ (hpc : pc < cd.size) (h1 : cd.getD pc 0 = 1) (hp : pos ≠ s) (y : ∀ sn, Ends n (St2 cd t L s mu pc pos pos out fr wt (some true) sn) P) : Ends (n + 1) (St2 cd t L s mu pc pos hd out fr wt none sn) P := by
  refine ends_step rfl ?_
  have : (St2 cd t L s mu pc pos hd out fr wt none sn).step = St2 cd t L s mu pc pos pos out fr wt (some true) (sn.add 1) := by
    unfold M.step M.exec M.word
    simp [h1, hpc, ops, M.say, hp]
  rw [this]; exact y _
theorem ends_jump {j : Nat} (hpc : pc < cd.size) (h1 : cd.getD pc 0 = 15) (hj : cd.getD (pc + 1) 0 = j) (y : ∀ sn, Ends n (St2 cd t L s mu (pc + 1 + j) pos hd out fr wt none sn) P) : Ends (n + 1) (St2 cd t L s mu pc pos hd out fr wt none sn) P := by
  refine ends_step rfl ?_
  have : (St2 cd t L s mu pc pos hd out fr wt none sn).step = St2 cd t L s mu (pc + 1 + j) pos hd out fr wt none (sn.add 15) := by
    unfold M.step M.exec M.word
    simp [h1, hpc, ops, hj]
  rw [this]; exact y _
theorem ends_branch (hw : wt ≤ 1000) (hpc : pc < cd.size) (h1 : cd.getD pc 0 = 7) (hj : cd.getD (pc + 1) 0 ≠ 0) (y : ∀ sn, Ends n (St2 cd t L s mu (pc + 2) pos pos out (Fr .nextBranch (pc + 1) pos out :: fr) (wt + 1) none sn) P) : Ends (n + 1) (St2 cd t L s mu pc pos hd out fr wt none sn) P := by
  refine ends_step rfl ?_
  have e : ¬(16777216 < wt + 1) := by omega
  have : (St2 cd t L s mu pc pos hd out fr wt none sn).step = St2 cd t L s mu (pc + 2) pos pos out (Fr .nextBranch (pc + 1) pos out :: fr) (wt + 1) none (sn.add 7) := by
    unfold M.step M.exec M.word
    have hj' : ¬(cd[pc + 1]?.getD 0 = 0) := by simpa using hj
    simp [h1, hpc, ops, hj', M.alternative, M.attempt, M.keep, M.frame, e]
  rw [this]; exact y _
theorem ends_anot {j : Nat} (hw : wt ≤ 1000) (hpc : pc < cd.size) (h1 : cd.getD pc 0 = 5) (hj : cd.getD (pc + 2) 0 = 0) (y : ∀ sn, Ends n (St2 cd t L s mu (pc + 3) pos pos false (Fr .lookNot pc pos out :: fr) (wt + 1) none sn) P) : Ends (n + 1) (St2 cd t L s mu pc pos hd out fr wt none sn) P := by
  refine ends_step rfl ?_
  have e : ¬(16777216 < wt + 1) := by omega
  have : (St2 cd t L s mu pc pos hd out fr wt none sn).step = St2 cd t L s mu (pc + 3) pos pos false (Fr .lookNot pc pos out :: fr) (wt + 1) none (sn.add 5) := by
    unfold M.step M.exec M.word
    simp [h1, hpc, ops, hj, M.alternative, M.attempt, M.keep, M.frame, e]
  rw [this]; exact y _
theorem ends_brY {p2 q2 : Nat} {o2 : Bool} (y : Ends n (St2 cd t L s mu p2 q2 hd o2 fr wt (some true) sn) P) : Ends (n + 1) (St2 cd t L s mu pc pos hd out (Fr .nextBranch p2 q2 o2 :: fr) (wt + 1) (some true) sn) P := by
  refine ends_step rfl ?_
  exact y
theorem ends_brN {p2 q2 j : Nat} {o2 : Bool} (hw : wt ≤ 1000) (hj : cd.getD p2 0 = j) (hz : cd.getD (p2 + j) 0 ≠ 0) (y : Ends n (St2 cd t L s mu (p2 + j + 1) q2 q2 o2 (Fr .nextBranch (p2 + j) q2 o2 :: fr) (wt + 1) none sn) P) : Ends (n + 1) (St2 cd t L s mu pc pos hd out (Fr .nextBranch p2 q2 o2 :: fr) (wt + 1) (some false) sn) P := by
  refine ends_step rfl ?_
  have e : ¬(16777216 < wt + 1) := by omega
  have : (St2 cd t L s mu pc pos hd out (Fr .nextBranch p2 q2 o2 :: fr) (wt + 1) (some false) sn).step = St2 cd t L s mu (p2 + j + 1) q2 q2 o2 (Fr .nextBranch (p2 + j) q2 o2 :: fr) (wt + 1) none sn := by
    unfold M.step M.resume
    have hz' : ¬(cd[p2 + j]?.getD 0 = 0) := by simpa using hz
    simp [M.putBack, hj, M.alternative, M.attempt, M.frame, hz', e]
  rw [this]; exact y
theorem ends_lnN {p2 q2 j : Nat} {o2 : Bool} (hj : cd.getD (p2 + 1) 0 = j) (y : Ends n (St2 cd t L s mu (p2 + 1 + j) q2 hd o2 fr wt none sn) P) : Ends (n + 1) (St2 cd t L s mu pc pos hd out (Fr .lookNot p2 q2 o2 :: fr) (wt + 1) (some false) sn) P := by
  refine ends_step rfl ?_
  have : (St2 cd t L s mu pc pos hd out (Fr .lookNot p2 q2 o2 :: fr) (wt + 1) (some false) sn).step = St2 cd t L s mu (p2 + 1 + j) q2 hd o2 fr wt none sn := by
    unfold M.step M.resume
    simp [M.putBack, M.word, hj]
  rw [this]; exact y
theorem ends_stY {p2 q2 : Nat} {o2 : Bool} (y : ∀ m : M, m.outcome = some .matched → m.start = s → m.handed = hd → P m) : Ends (n + 2) (St2 cd t L s mu pc pos hd out [Fr .nextStart p2 q2 o2] (wt + 1) (some true) sn) P := by
  refine ends_step rfl (ends_step rfl (ends_done rfl ?_))
  exact y _ rfl rfl rfl
theorem ends_stE {p2 q2 : Nat} {o2 : Bool} (hl : ¬(q2 < L)) (y : ∀ m : M, m.outcome = some .failed → P m) : Ends (n + 2) (St2 cd t L s mu pc pos hd out [Fr .nextStart p2 q2 o2] (wt + 1) (some false) sn) P := by
  refine ends_step rfl ?_
  have : (St2 cd t L s mu pc pos hd out [Fr .nextStart p2 q2 o2] (wt + 1) (some false) sn).step = St2 cd t L s mu p2 q2 hd o2 [] wt (some false) sn := by
    unfold M.step M.resume
    simp [M.say]
    omega
  rw [this]
  refine ends_step rfl (ends_done rfl ?_)
  exact y _ rfl
theorem ends_stF {p2 q2 : Nat} {o2 : Bool} (hl : q2 < L) (y : Ends n ({ St2 cd t L s false p2 q2 hd o2 [] wt none sn with }.attemptFrom (q2 + 1) false) P) : Ends (n + 1) (St2 cd t L s mu pc pos hd out [Fr .nextStart p2 q2 o2] (wt + 1) (some false) sn) P := by
  refine ends_step rfl ?_
  have : (St2 cd t L s mu pc pos hd out [Fr .nextStart p2 q2 o2] (wt + 1) (some false) sn).step = (St2 cd t L s false p2 q2 hd o2 [] wt none sn).attemptFrom (q2 + 1) false := by
    unfold M.step M.resume
    simp [hl]
  rw [this]; exact y
end
end Mine
end
/-! part R1 -/
section
open PySem PySem.Sre
set_option maxRecDepth 100000
set_option maxHeartbeats 4000000
set_option linter.unusedVariables false
namespace Mine
section
variable {t : Array Nat} {L s : Nat} {mu : Bool} {pc pos hd : Nat} {out : Bool} {wt n : Nat} {sn : Seen} {P : M → Prop}
def dot1 (t : Array Nat) (L p : Nat) : Prop := (p = 0 ∨ t.getD (p - 1) 0 = 10) ∧ p < L ∧ t.getD p 0 = 46
theorem first1 : ∀ (k s : Nat) (mu o : Bool) (sn : Seen), L - s = k →
    (∀ p, s ≤ p → dot1 t L p → (∀ q, s ≤ q → q < p → ¬dot1 t L q) → ∀ m : M, m.outcome = some .matched → m.start = p → m.handed = p + 1 → P m) →
    ((∀ q, s ≤ q → ¬dot1 t L q) → ∀ m : M, m.outcome = some .failed → P m) → Ends (4 * k + 8) (St2 code1 t L s mu 5 s s o [Fr .nextStart 5 s o] 1 none sn) P
  | 0, s, mu, o, sn, hk, y1, y2 => by
    have no : ∀ q, s ≤ q → ¬dot1 t L q := fun q h d => by have := d.2.1; (exact Mine.sa3 hk h this)
    have fin : ∀ pc sn, Ends 2 (St2 code1 t L s mu pc s s o [Fr .nextStart 5 s o] 1 (some false) sn) P := fun pc sn => ends_stE (wt := 0) (by omega) (y2 no)
    by_cases ha : s = 0 ∨ t.getD (s - 1) 0 = 10
    · refine ends_le (n := 4) (by exact Nat.le_add_left _ _) (ends_at (by decide) rfl rfl ha fun sn => ends_litno (by decide) rfl (fun h => by exact Mine.sa4 hk h) fun sn => fin _ _)
    · exact ends_le (n := 3) (by exact Nat.le_add_left _ _) (ends_atno (by decide) rfl rfl ha fun sn => fin _ _)
  | k + 1, s, mu, o, sn, hk, y1, y2 => by
    by_cases hd : dot1 t L s
    · refine ends_le (n := 5) (by exact Nat.le_add_left _ _) (ends_at (by decide) rfl rfl hd.1 fun sn => ends_lit (by decide) rfl hd.2.1 hd.2.2 fun sn => ends_succ (by decide) rfl (by exact Nat.succ_ne_self _) fun sn => ends_stY (wt := 0) ?_)
      exact y1 s (Nat.le_refl _) hd fun q h1 h2 => by exact absurd h2 (Nat.not_lt_of_le h1)
    · have next : ∀ pc sn, Ends (4 * k + 9) (St2 code1 t L s mu pc s s o [Fr .nextStart 5 s o] 1 (some false) sn) P := fun pc sn => by
        refine ends_stF (wt := 0) (by omega) ?_
        refine first1 k (s + 1) false false sn (by exact nm8 hk) (fun p h1 h2 h3 => y1 p (by exact Nat.le_of_succ_le h1) h2 fun q g1 g2 => ?_) fun h => y2 fun q g1 => ?_
        · by_cases e : q = s
          · rw [e]; exact hd
          · exact h3 q (by omega) g2
        · by_cases e : q = s
          · rw [e]; exact hd
          · exact h q (by omega)
      by_cases ha : s = 0 ∨ t.getD (s - 1) 0 = 10
      · refine ends_le (n := 4 * k + 11) (by (rw [Nat.mul_succ]; exact (Nat.le_succ_of_le (Nat.le_refl _)))) (ends_at (by decide) rfl rfl ha fun sn => ends_litno (by decide) rfl (fun h e => hd ⟨ha, h, e⟩) fun sn => next _ _)
      · exact ends_le (n := 4 * k + 10) (by (rw [Nat.mul_succ]; exact (Nat.add_le_add_right (Nat.le_add_right _ _) _))) (ends_atno (by decide) rfl rfl ha fun sn => next _ _)
theorem search1 (hs : s ≤ L) (y1 : ∀ p, s ≤ p → dot1 t L p → (∀ q, s ≤ q → q < p → ¬dot1 t L q) → ∀ m : M, m.outcome = some .matched → m.start = p → m.handed = p + 1 → P m)
    (y2 : (∀ q, s ≤ q → ¬dot1 t L q) → ∀ m : M, m.outcome = some .failed → P m) : Ends (4 * L + 8) (forSearch code1 t 0 s L mu) P := by
  by_cases hl : s = L
  · subst hl
    have : forSearch code1 t 0 s s mu = { code := code1, text := t, lim := s, start := s, pc := 5, pos := s, handed := s, marks := #[], mustAdvance := mu, seen := ({} : Seen).add 14, answer := some false } := by
      unfold forSearch
      rw [if_pos (by simp [header, code1, ops])]
      rfl
    rw [this]
    exact ends_le (n := 1) (by exact Nat.le_add_left _ _) (ends_step rfl (ends_done rfl (y2 (fun q h d => by have := d.2.1; (exact absurd this (Nat.not_lt_of_le h))) _ rfl)))
  · have : forSearch code1 t 0 s L mu = St2 code1 t L s mu 5 s s true [Fr .nextStart 5 s true] 1 none (({} : Seen).add 14) := by
      unfold forSearch
      rw [if_neg (by simp [header, code1, ops]; (exact Mine.sa1 hs hl))]
      rfl
    rw [this]
    exact ends_le (by exact Nat.le_trans (Nat.le_refl _) (Nat.add_le_add (Nat.mul_le_mul (Nat.le_refl _) (Nat.sub_le _ _)) (Nat.le_refl _))) (first1 (L - s) s mu true _ rfl y1 y2)
end
end Mine
end
/-! part R2 -/
section
open PySem PySem.Sre
set_option maxRecDepth 100000
set_option maxHeartbeats 4000000
set_option linter.unusedVariables false
namespace Mine
section
variable {t : Array Nat} {L s : Nat} {mu : Bool} {pc pos hd : Nat} {out : Bool} {wt n : Nat} {sn : Seen} {P : M → Prop}
def brk (t : Array Nat) (L p : Nat) : Prop := p < L ∧ (t.getD p 0 = 10 ∨ t.getD p 0 = 13)
def wid (t : Array Nat) (L p : Nat) : Nat := if t.getD p 0 = 13 ∧ p + 1 < L ∧ t.getD (p + 1) 0 = 10 then 2 else 1
theorem inSet2 (c : Nat) (sn : Seen) : ∃ sn', inSet code2 c code2.size 5 true sn = .ok ((c == 10 || c == 13), sn') := by
  have : inSet code2 c code2.size 5 true sn = if (c == 10) = true then .ok (true, sn.add 16) else if (c == 13) = true then .ok (true, (sn.add 16).add 16) else .ok (false, ((sn.add 16).add 16).add 0) := by rfl
  rw [this]
  by_cases h : (c == 10) = true
  · rw [if_pos h, h]; exact ⟨_, rfl⟩
  · rw [if_neg h]
    by_cases h2 : (c == 13) = true
    · rw [if_pos h2, h2, Bool.or_true]; exact ⟨_, rfl⟩
    · rw [if_neg h2, Bool.eq_false_iff.mpr h, Bool.eq_false_iff.mpr h2]; exact ⟨_, rfl⟩
theorem admitted2 (m : M) (hc : m.code = code2) (ht : m.text = t) (hL : m.lim = L) : ∀ (fuel s : Nat) (sn : Seen), L < s + fuel →
    (∃ p sn', s ≤ p ∧ brk t L p ∧ (∀ q, s ≤ q → q < p → ¬brk t L q) ∧ M.admitted m fuel s sn = .ok (some p, sn')) ∨ ((∀ q, s ≤ q → ¬brk t L q) ∧ ∃ sn', M.admitted m fuel s sn = .ok (none, sn'))
  | 0, s, sn, h => .inr ⟨fun q h1 h2 => by have := h2.1; (exact Mine.sa3 (Nat.add_sub_cancel_left _ _) h1 (Nat.lt_trans this h)), _, rfl⟩
  | fuel + 1, s, sn, h => by
    unfold M.admitted
    rw [hc, ht, hL]
    by_cases hs : s ≥ L
    · rw [if_pos hs]
      exact .inr ⟨fun q h1 h2 => by have := h2.1; (exact absurd (Nat.lt_of_lt_of_le this hs) (Nat.not_lt_of_le h1)), _, rfl⟩
    · rw [if_neg hs]
      obtain ⟨sn1, e⟩ := inSet2 (t.getD s 0) sn
      rw [e]
      by_cases hb : t.getD s 0 = 10 ∨ t.getD s 0 = 13
      · have : (t.getD s 0 == 10 || t.getD s 0 == 13) = true := by simpa using hb
        rw [this]
        exact .inl ⟨s, sn1, Nat.le_refl _, ⟨by exact Nat.lt_of_not_le hs, hb⟩, fun q h1 h2 => by exact absurd h2 (Nat.not_lt_of_le h1), rfl⟩
      · have : (t.getD s 0 == 10 || t.getD s 0 == 13) = false := by
          rw [Bool.eq_false_iff]; intro h; exact hb (by simpa using h)
        rw [this]
        rcases admitted2 m hc ht hL fuel (s + 1) sn1 (by omega) with ⟨p, sn', h1, h2, h3, h4⟩ | ⟨h1, sn', h2⟩
        · refine .inl ⟨p, sn', by exact Nat.le_of_succ_le h1, h2, fun q g1 g2 g3 => ?_, h4⟩
          by_cases z : q = s
          · rw [z] at g3; exact hb g3.2
          · exact h3 q (by omega) g2 g3
        · refine .inr ⟨fun q g1 g3 => ?_, sn', h2⟩
          by_cases z : q = s
          · rw [z] at g3; exact hb g3.2
          · exact h1 q (by omega) g3
theorem at2 {p : Nat} (b : brk t L p) (y : ∀ m : M, m.outcome = some .matched → m.start = p → m.handed = p + wid t L p → P m) : Ends 30 (St2 code2 t L p mu 10 p p true [Fr .nextStart 10 p true] 1 none sn) P := by
  unfold wid at y
  refine ends_le (n := 29 + 1) (by exact Nat.le_refl _) (ends_branch (by exact Nat.le_add_left _ _) (by decide) rfl (by decide) fun sn => ?_)
  rcases b.2 with h10 | h13
  · -- a feed
    rw [if_neg (fun z => by rw [h10] at z; cases z.1)] at y
    refine ends_le (n := 28 + 1) (by exact Nat.le_refl _) (ends_litno (by decide) rfl (fun _ e => by rw [h10] at e; cases e) fun sn => ?_)
    refine ends_le (n := 27 + 1) (by exact Nat.le_refl _) (ends_brN (wt := 1) (by exact Nat.le_add_left _ _) rfl (by decide) ?_)
    refine ends_le (n := 26 + 1) (by exact Nat.le_refl _) (ends_lit (by decide) rfl b.1 h10 fun sn => ?_)
    refine ends_le (n := 25 + 1) (by exact Nat.le_refl _) (ends_jump (by decide) rfl rfl fun sn => ?_)
    refine ends_le (n := 24 + 1) (by exact Nat.le_refl _) (ends_succ (by decide) rfl (by exact Nat.succ_ne_self _) fun sn => ?_)
    refine ends_le (n := 23 + 1) (by exact Nat.le_refl _) (ends_brY (wt := 1) ?_)
    exact ends_le (n := 0 + 2) (by exact Nat.le_add_left _ _) (ends_stY (wt := 0) y)
  · by_cases hn : p + 1 < L ∧ t.getD (p + 1) 0 = 10
    · rw [if_pos ⟨h13, hn⟩] at y
      refine ends_le (n := 28 + 1) (by exact Nat.le_refl _) (ends_lit (by decide) rfl b.1 h13 fun sn => ?_)
      refine ends_le (n := 27 + 1) (by exact Nat.le_refl _) (ends_lit (by decide) rfl hn.1 hn.2 fun sn => ?_)
      refine ends_le (n := 25 + 1) (by exact Nat.le_add_left _ _) (ends_jump (by decide) rfl rfl fun sn => ?_)
      refine ends_le (n := 24 + 1) (by exact Nat.le_refl _) (ends_succ (by decide) rfl (by omega) fun sn => ?_)
      refine ends_le (n := 23 + 1) (by exact Nat.le_refl _) (ends_brY (wt := 1) ?_)
      exact ends_le (n := 0 + 2) (by exact Nat.le_add_left _ _) (ends_stY (wt := 0) y)
    · rw [if_neg (fun z => hn z.2)] at y
      refine ends_le (n := 28 + 1) (by exact Nat.le_refl _) (ends_lit (by decide) rfl b.1 h13 fun sn => ?_)
      refine ends_le (n := 27 + 1) (by exact Nat.le_refl _) (ends_litno (by decide) rfl (fun h e => hn ⟨h, e⟩) fun sn => ?_)
      refine ends_le (n := 26 + 1) (by exact Nat.le_refl _) (ends_brN (wt := 1) (by exact Nat.le_add_left _ _) rfl (by decide) ?_)
      refine ends_le (n := 25 + 1) (by exact Nat.le_refl _) (ends_litno (by decide) rfl (fun _ e => by rw [h13] at e; cases e) fun sn => ?_)
      refine ends_le (n := 24 + 1) (by exact Nat.le_refl _) (ends_brN (wt := 1) (by exact Nat.le_add_left _ _) rfl (by decide) ?_)
      refine ends_le (n := 23 + 1) (by exact Nat.le_refl _) (ends_lit (by decide) rfl b.1 h13 fun sn => ?_)
      refine ends_le (n := 22 + 1) (by exact Nat.le_refl _) (ends_anot (j := 0) (by exact Nat.le_add_left _ _) (by decide) rfl rfl fun sn => ?_)
      refine ends_le (n := 21 + 1) (by exact Nat.le_refl _) (ends_litno (by decide) rfl (fun h e => hn ⟨h, e⟩) fun sn => ?_)
      refine ends_le (n := 20 + 1) (by exact Nat.le_refl _) (ends_lnN (wt := 2) rfl ?_)
      refine ends_le (n := 19 + 1) (by exact Nat.le_refl _) (ends_jump (by decide) rfl rfl fun sn => ?_)
      refine ends_le (n := 18 + 1) (by exact Nat.le_refl _) (ends_succ (by decide) rfl (by exact Nat.succ_ne_self _) fun sn => ?_)
      refine ends_le (n := 17 + 1) (by exact Nat.le_refl _) (ends_brY (wt := 1) ?_)
      exact ends_le (n := 0 + 2) (by exact Nat.le_add_left _ _) (ends_stY (wt := 0) y)
theorem search2 (hs : s ≤ L) (y1 : ∀ p, s ≤ p → brk t L p → (∀ q, s ≤ q → q < p → ¬brk t L q) → ∀ m : M, m.outcome = some .matched → m.start = p → m.handed = p + wid t L p → P m)
    (y2 : (∀ q, s ≤ q → ¬brk t L q) → ∀ m : M, m.outcome = some .failed → P m) : Ends 30 (forSearch code2 t 0 s L mu) P := by
  by_cases hl : s = L
  · subst hl
    have : forSearch code2 t 0 s s mu = { code := code2, text := t, lim := s, start := s, pc := 10, pos := s, handed := s, marks := #[], mustAdvance := mu, seen := ({} : Seen).add 14, answer := some false } := by
      unfold forSearch
      rw [if_pos (by simp [header, code2, ops])]
      rfl
    rw [this]
    exact ends_le (n := 1) (by exact Nat.le_add_left _ _) (ends_step rfl (ends_done rfl (y2 (fun q h d => by have := d.1; (exact absurd this (Nat.not_lt_of_le h))) _ rfl)))
  · have : forSearch code2 t 0 s L mu = (St2 code2 t L s mu 10 s s true [] 0 none (({} : Seen).add 14)).attemptFrom s true := by
      unfold forSearch
      rw [if_neg (by simp [header, code2, ops]; (exact Mine.sa1 hs hl))]
      rfl
    rw [this]
    have e : (St2 code2 t L s mu 10 s s true [] 0 none (({} : Seen).add 14)).attemptFrom s true = match M.admitted (St2 code2 t L s mu 10 s s true [] 0 none (({} : Seen).add 14)) (L + 1 - s) s (({} : Seen).add 14) with
      | .ok (some p, seen) => ({ (St2 code2 t L s mu 10 s s true [] 0 none (({} : Seen).add 14)) with mustAdvance := false, seen := seen } : M).attemptAt p true
      | .ok (none, seen) => ({ (St2 code2 t L s mu 10 s s true [] 0 none (({} : Seen).add 14)) with seen := seen } : M).say false
      | .error why => (St2 code2 t L s mu 10 s s true [] 0 none (({} : Seen).add 14)).stick why := by rfl
    rw [e]
    rcases admitted2 (t := t) (L := L) (St2 code2 t L s mu 10 s s true [] 0 none (({} : Seen).add 14)) rfl rfl rfl (L + 1 - s) s (({} : Seen).add 14) (by exact Mine.sa2 hs) with ⟨p, sn', h1, h2, h3, h4⟩ | ⟨h1, sn', h2⟩
    · rw [h4]
      exact at2 h2 (y1 p h1 h2 h3)
    · rw [h2]
      exact ends_le (n := 1) (by exact Nat.le_add_left _ _) (ends_step rfl (ends_done rfl (y2 h1 _ rfl)))
end
end Mine
end
/-! part R3 -/
section
open PySem PySem.Sre PySem.Builtin PySem.Builtin.Re
set_option maxRecDepth 100000
set_option maxHeartbeats 4000000
set_option linter.unusedVariables false
namespace Mine
section
variable {MM : Model} {A : Around} {E : Value → Shared → Prop} {s : Shared} {P : Sre.M → Prop}
theorem drive {Q : Sre.M → Shared → Prop} (q : ∀ m, m.outcome.isSome = true → P m → Q m s) : ∀ (T n : Nat) (m : Sre.M), Ends n m P → n < 4 * T → wpAny MM A (reDrive T m) Q E s
  | 0, n, m, y, h => by exact absurd (Nat.zero_le _) (Nat.not_le_of_lt h)
  | T + 1, n, m, ⟨k, hk, h1, h2⟩, h => by
    show wpAny MM A (if (Sre.M.runFor 4 m).outcome.isSome then pure (Sre.M.runFor 4 m) else (rule "sre.turn" >>= fun _ => reDrive T (Sre.M.runFor 4 m))) Q E s
    by_cases hk4 : k ≤ 4
    · have e : Sre.M.runFor 4 m = Sre.M.runFor k m := by
        rw [show (4 : Nat) = k + (4 - k) from by exact Eq.symm (Nat.add_sub_of_le hk4), runFor_add, runFor_end h1]
      rw [e, if_pos h1]
      exact wpAny_pure (q _ h1 h2)
    · have e : Sre.M.runFor k m = Sre.M.runFor (k - 4) (Sre.M.runFor 4 m) := by
        rw [← runFor_add]; congr 1; (exact Mine.kq3 hk4)
      by_cases h4 : (Sre.M.runFor 4 m).outcome.isSome = true
      · rw [if_pos h4]
        rw [e, runFor_end h4] at h1 h2
        exact wpAny_pure (q _ h1 h2)
      · rw [if_neg h4]
        rw [e] at h1 h2
        exact wpAny_bind (wpAny_rule (drive q T (n - 4) _ ⟨k - 4, by exact Mine.kq1 hk, h1, h2⟩ (by exact Mine.kq2 h hk hk4)))
theorem rules_loop {f : Nat → Bool} {g : Nat → String} {Q : PUnit → Shared → Prop} (q : Q ⟨⟩ s) : ∀ (l : List Nat), wpAny MM A (forIn l PUnit.unit fun i _ => (if f i = true then (rule (g i) >>= fun _ => pure (ForInStep.yield PUnit.unit)) else pure (ForInStep.yield PUnit.unit) : Sem (ForInStep PUnit))) Q E s
  | [] => wpAny_pure q
  | i :: l => by
    rw [List.forIn_cons]
    refine wpAny_bind ?_
    by_cases h : f i = true
    · simp only [h, if_true]
      exact wpAny_bind (wpAny_rule (wpAny_pure (rules_loop q l)))
    · simp only [Bool.eq_false_iff.mpr h, Bool.false_eq_true, if_false]
      exact wpAny_pure (rules_loop q l)
theorem run_end {n : Nat} {m : Sre.M} {Q : Option Sre.M → Shared → Prop} (y : Ends n m P) (hn : n < 4000) (q1 : ∀ m, m.outcome = some .matched → P m → Q (some m) s) (q2 : ∀ m, m.outcome = some .failed → P m → Q none s) (hP : ∀ m, P m → m.outcome = some .matched ∨ m.outcome = some .failed) : wpAny MM A (reRunToEnd m) Q E s := by
  unfold reRunToEnd
  refine wpAny_bind (drive (P := P) (fun m' h1 h2 => ?_) (2 ^ 64) n m y (by exact Nat.lt_of_lt_of_le hn (Nat.le_add_left _ _)))
  refine wpAny_bind (rules_loop (f := fun i => m'.seen.has i) (g := fun i => Sre.names.getD i "") ?_ _)
  rcases hP m' h2 with h | h
  · rw [h]; exact wpAny_pure (q1 m' h h2)
  · rw [h]; exact wpAny_pure (q2 m' h h2)
end
end Mine
end
/-! part R4 -/
section
open PySem PySem.Sre PySem.Builtin PySem.Builtin.Re
set_option maxRecDepth 100000
set_option maxHeartbeats 4000000
set_option linter.unusedVariables false
namespace Mine
theorem patAttrs : PlainAttrs "re.Pattern" :=
  ⟨⟨"object.__getattribute__", by rw [typeLookup_type, builtinLookup_eq_fast]; kernel_rfl, by decide +kernel⟩, by rw [typeLookup_type, builtinLookup_eq_fast]; kernel_rfl⟩
theorem slot_patsub : Slot "re.Pattern" "sub" "re.Pattern.sub" :=
  .of (owner := "re.Pattern") (n := "sub") (by rw [typeLookup_type, builtinLookup_eq_fast]; kernel_rfl) (by decide +kernel) (by decide +kernel) (by decide +kernel)
    (by first | exact .inl (by decide +kernel) | exact .inr (by decide +kernel)) (by rw [isSubtype_type]; kernel_rfl)
theorem type_patsub : typeOf (.builtin "re.Pattern.sub") = pure (.type "method_descriptor") := by show builtinType _ = _; rw [builtinType_eq_fast]; kernel_rfl
theorem entry_patsub : entryFor table "re.Pattern.sub" = some Builtin.«re.Pattern.sub» := entryFor_of_tree (by kernel_rfl)
theorem entry_patloop : entryFor table "re.Pattern.sub.loop" = some Builtin.«re.Pattern.sub.loop» := entryFor_of_tree (by kernel_rfl)
theorem plain_patloop : plainId "re.Pattern.sub.loop" = true := by decide +kernel
theorem args_patsub (a b c : Value) : argsOk "re.Pattern.sub" ⟨[a, b, c], []⟩ := by
  unfold argsOk; kernel_rfl
theorem nocall_str (x : Str) (t : Tok) : typeLookup (.type "str") "__call__" = pure none := by rw [typeLookup_type, builtinLookup_eq_fast]; kernel_rfl
end Mine
end
/-! part R5 -/
section
open PySem PySem.Sre PySem.Builtin PySem.Builtin.Re PySem.Builtin.Str
set_option maxRecDepth 100000
set_option maxHeartbeats 4000000
set_option linter.unusedVariables false
namespace Mine
structure PatAt (h : Heap) (p c : Addr) (cd : Array Nat) : Prop where
  pat : ∃ o fs, h.get? p = some o ∧ o.cls = .type "re.Pattern" ∧ o.dict = none ∧ o.data = .fields fs ∧ fs.getD 2 .none = .int 0 0 ∧ fs.getD 5 .none = .ref c ∧ fs.getD 6 .none = .int 0 0
  code : ∃ o xs n, h.get? c = some o ∧ o.data = .seq xs n ∧ (xs.map reRawOf).map (·.toNat) = cd
theorem PatAt.mono {h h' : Heap} {p c : Addr} {cd : Array Nat} (P : PatAt h p c cd) (k : ∀ b o, (b = p ∨ b = c) → h.get? b = some o → h'.get? b = some o) : PatAt h' p c cd := by
  obtain ⟨⟨o, fs, e, r⟩, ⟨o2, xs, n, e2, r2⟩⟩ := P
  exact ⟨⟨o, fs, k _ _ (.inl rfl) e, r⟩, ⟨o2, xs, n, k _ _ (.inr rfl) e2, r2⟩⟩
section
variable {MM : Model} {A : Around} {E : Value → Shared → Prop} {s : Shared} {p c : Addr} {cd : Array Nat} {x : Str} {t : Tok}
abbrev Targ (p : Addr) (x : Str) (t : Tok) (cd : Array Nat) : ReTarget := { pattern := .ref p, string := .str x t, code := cd, text := x.cps, kind := 0, groups := 0, pos := 0, lim := x.cps.size }
theorem wholeTarget {Q : ReTarget → Shared → Prop} (P : PatAt s.heap p c cd) (q : Q (Targ p x t cd) s) : wpAny MM A (reWholeTarget (.ref p) (.str x t)) Q E s := by
  obtain ⟨⟨o, fs, e, _, _, hd, g2, g5, g6⟩, ⟨o2, xs, n, e2, hd2, hc⟩⟩ := P
  unfold reWholeTarget
  refine wpAny_bind (wpAny_fieldsOf e hd ?_)
  refine wpAny_bind (wpAny_of_eq (show reTextOf (.str x t) = pure (x.cps, 0) from rfl) ?_)
  simp only [g2, g5, g6]
  show wpAny MM A (pure () >>= fun _ => (do let r ← reRawItems (.ref c); pure _)) Q E s
  refine wpAny_bind (wpAny_pure ?_)
  refine wpAny_bind ?_
  unfold reRawItems
  refine wpAny_bind (wpAny_seqItems e2 hd2 ?_)
  refine wpAny_pure (wpAny_pure ?_)
  rw [show (Option.some xs).getD #[] = xs from rfl, hc]
  exact q
end
def catS (l : List (Str × Tok)) : List Nat := (l.map fun e => e.1.cps.toList).flatten
def NextIs (cd : Array Nat) (x : Str) (rp : List Nat) (G : Nat → List Nat) (N : Nat) : Prop :=
  ∀ d, d ≤ x.cps.size → ∀ mu, Ends N (forSearch cd x.cps 0 d x.cps.size mu) (fun m => (m.outcome = some .failed ∧ G d = x.cps.toList.drop d) ∨ (m.outcome = some .matched ∧ d ≤ m.start ∧ m.start < m.handed ∧ m.handed ≤ x.cps.size ∧ G d = (x.cps.toList.drop d).take (m.start - d) ++ rp ++ G m.handed))
theorem glue_from : ∀ (ps : List Str) (acc : Array Nat), ps.foldl (fun acc p => acc ++ (⟨#[]⟩ : Str).cps ++ p.cps) acc = (acc.toList ++ (ps.map (·.cps.toList)).flatten).toArray
  | [], acc => by simp
  | p :: ps, acc => by
    rw [List.foldl_cons, glue_from ps]
    simp
theorem join_empty (ps : List Str) : Txt.join ⟨#[]⟩ ps = ⟨((ps.map (·.cps.toList)).flatten).toArray⟩ := by
  unfold Txt.join glued
  rw [glue_from]
  cases ps with
  | nil => rfl
  | cons p r => simp
theorem joinOk_empty (ps : List Str) (h : (ps.map (·.length)).sum ≤ 10000) : JoinOk ⟨#[]⟩ ps = true := by
  have : ∀ (ps : List Str) (n : Nat), ps.foldl (fun n p => n + p.length + (⟨#[]⟩ : Str).length) n = n + (ps.map (·.length)).sum := by
    intro ps
    induction ps with
    | nil => intro n; simp
    | cons p r ih => intro n; rw [List.foldl_cons, ih]; simp [Str.length]; (exact Nat.add_assoc _ _ _)
  unfold JoinOk tooLong
  rw [List.foldl_toArray, this]
  simp
  show _ ≤ 16777216
  (exact Nat.le_trans h (Nat.le_add_left _ _))
abbrev lobj (l : List (Str × Tok)) (cap : Nat) : Obj := { cls := .type "list", dict := none, data := .seq (strValues l).toArray cap, slots := #[] }
section
variable {M : Model} {A : Around} {E : Value → Shared → Prop} {S : Shared} {a : Addr} {x : Str} {h : Heap} {tk : Nat} {α : Type} {Q : α → Shared → Prop} {l : List (Str × Tok)} {cap : Nat}
theorem push_one {y : Str} {u : Tok} {K : PUnit → Sem α} (ha : h.get? a = some (lobj l cap)) (hl : l.length ≤ 1000)
    (q : ∀ h' cap', h'.get? a = some (lobj (l ++ [(y, u)]) cap') → (∀ b o, b ≠ a → h.get? b = some o → h'.get? b = some o) → wpAny M A (K ⟨⟩) Q E (at' S h' tk)) :
    wpAny M A (updateSeq a (fun z => z.push (.str y u)) >>= fun r => K r) Q E (at' S h tk) := by
  have e1 : (strValues l).toArray.size = l.length := by unfold strValues; simp
  refine wpAny_bind (wpAny_updateSeq (o := lobj l cap) ha rfl ?_ (by rw [e1]; show l.length ≤ 16777216; (exact Nat.le_trans hl (Nat.le_add_left _ _))) (by rw [Array.size_push, e1]; show l.length + 1 ≤ 16777216 + 1; (exact Nat.le_trans (Nat.add_le_add_right hl _) (Nat.le_add_left _ _))))
  have e2 : (Obj.mapSeq (fun z => z.push (.str y u)) (lobj l cap)) = lobj (l ++ [(y, u)]) (cap + 1) := by
    unfold Obj.mapSeq lobj strValues
    simp
  have e3 := Heap.get?_update_self (Obj.mapSeq fun z => z.push (.str y u)) ha rfl
  rw [e2] at e3
  exact q _ _ e3 fun b o hb e => (Heap.get?_update_other _ _ (Ne.symm hb)).trans e
theorem push_part {d e : Nat} {K : PUnit → Sem α} (ha : h.get? a = some (lobj l cap)) (hl : l.length ≤ 1000) (hx : x.cps.size ≤ 400) (he : e ≤ x.cps.size)
    (q : ∀ h' tk' l' cap', h'.get? a = some (lobj l' cap') → catS l' = catS l ++ (x.cps.toList.drop d).take (e - d) → l'.length ≤ l.length + 1 → (l'.map (·.1.length)).sum ≤ (l.map (·.1.length)).sum + (e - d) → (∀ b o, b ≠ a → h.get? b = some o → h'.get? b = some o) → wpAny M A (K ⟨⟩) Q E (at' S h' tk')) :
    wpAny M A (if d < e then (reSlice x.cps 0 d e >>= fun v => updateSeq a (fun z => z.push v) >>= fun r => K r) else K ⟨⟩) Q E (at' S h tk) := by
  by_cases hd : d < e
  · rw [if_pos hd]
    refine wpAny_bind ?_
    have sz : (⟨x.cps.extract d e⟩ : Str).length = e - d := by show (x.cps.extract d e).size = _; rw [Array.size_extract]; (exact nm9 he)
    show wpAny M A (mkStr ⟨x.cps.extract d e⟩) _ E _
    refine wpAny_mkStr ?_ (by rw [sz]; show e - d ≤ 16777216; (exact Mine.ld6 he hx))
    refine push_one ha hl fun h' cap' h1 h2 => q h' _ _ cap' h1 ?_ (by simp) ?_ h2
    · unfold catS
      rw [List.map_append, List.flatten_append]
      simp [List.extract]
    · rw [List.map_append, List.sum_append]
      simp only [List.map_cons, List.map_nil, List.sum_cons, List.sum_nil, sz]; omega
  · rw [if_neg hd]
    refine q h tk l cap ha ?_ (by exact Nat.le_add_right _ _) (by exact Nat.le_add_right _ _) fun _ _ _ e => e
    rw [show e - d = 0 from by exact Nat.sub_eq_zero_of_le (Nat.le_of_not_lt hd), List.take_zero, List.append_nil]
end
section
variable {prog : Program} {w : World} {A : Around} {R : Result → Shared → Prop} {S : Shared} {p c a : Addr} {cd : Array Nat} {x rp : Str} {t tr : Tok} {G : Nat → List Nat} {N : Nat}
theorem sub_loop (hN : N < 4000) (hx : x.cps.size ≤ 400) (hrp : rp.cps.size ≤ 10) (hG : NextIs cd x rp.cps.toList G N) (np : a ≠ p) (nc : a ≠ c) :
    ∀ (k d : Nat) (h : Heap) (tk : Nat) (n : Int) (mu : Bool) (l : List (Str × Tok)) (cap : Nat), x.cps.size - d < k → d ≤ x.cps.size → PatAt h p c cd → h.get? a = some (lobj l cap) → l.length ≤ 2 * d → (l.map (·.1.length)).sum ≤ 11 * d →
    (∀ h' tk' t', (∀ b o, b ≠ a → h.get? b = some o → h'.get? b = some o) → R (.ok (.ret (.str ⟨(catS l ++ G d).toArray⟩ t'))) (at' S h' tk')) →
    codeAny (model prog w) A (.builtin "re.Pattern.sub.loop" ⟨[.ref p, .str x t, .str rp tr, rawInt 0, rawInt 0, rawInt n, rawInt d, rawInt d, .bool mu, .ref a, .bool false], []⟩) R (at' S h tk) := by
  intro k
  induction k with
  | zero => intro d h tk n mu l cap hk; (exact absurd (Nat.zero_le _) (Nat.not_le_of_lt hk))
  | succ k ih =>
    intro d h tk n mu l cap hk hd P ha hl1 hl2 hR
    refine codeAny_builtin entry_patloop ?_
    rw [Around.under_plainId plain_patloop _]
    show wpAny _ A.in1 (reWholeTarget (.ref p) (.str x t) >>= _) _ _ _
    refine wpAny_bind (wholeTarget P ?_)
    show wpAny _ A.in1 (reLiteralCannotBeTurned (.str rp tr) >>= _) _ _ _
    refine wpAny_bind (wpAny_of_eq (show reLiteralCannotBeTurned (.str rp tr) = pure () from rfl) ?_)
    show wpAny _ A.in1 (reNextFound (Targ p x t cd) d mu >>= _) _ _ _
    refine wpAny_bind ?_
    unfold reNextFound
    refine run_end (hG d hd mu) hN (fun m g1 g2 => ?_) (fun m g1 g2 => ?_) (fun m g => g.elim (fun g => .inr g.1) fun g => .inl g.1)
    · rcases g2 with g2 | ⟨_, f1, f2, f3, f4⟩
      · rw [g2.1] at g1; cases g1
      show wpAny _ A.in1 (if d < m.start then (reSlice x.cps 0 d m.start >>= fun v => updateSeq a (fun z => z.push v) >>= fun r => _) else _) _ _ _
      refine push_part (K := fun r => (pure (Value.str rp tr) >>= fun item => if (item != Value.none) = true then (updateSeq a (fun z => z.push item) >>= fun r => again (Code.builtin "re.Pattern.sub.loop" ⟨[Value.ref p, Value.str x t, Value.str rp tr, rawInt 0, rawInt 0, rawInt (n + 1), rawInt m.handed, rawInt m.handed, Value.bool (m.handed == m.start), Value.ref a, Value.bool false], []⟩)) else again (Code.builtin "re.Pattern.sub.loop" ⟨[Value.ref p, Value.str x t, Value.str rp tr, rawInt 0, rawInt 0, rawInt (n + 1), rawInt m.handed, rawInt m.handed, Value.bool (m.handed == m.start), Value.ref a, Value.bool false], []⟩))) ha (by exact Mine.ld1 hl1 hd hx) hx (by exact Nat.le_of_lt (Nat.lt_of_lt_of_le f2 f3)) fun h1 tk1 l1 cap1 a1 a2 a3 a4 a5 => ?_
      refine wpAny_bind (wpAny_pure ?_)
      rw [if_pos (by rfl)]
      refine push_one a1 (by exact Mine.ld2 a3 hl1 hd hx) fun h2 cap2 b1 b2 => ?_
      have kk : ∀ b o, b ≠ a → h.get? b = some o → h2.get? b = some o := fun b o hb e => b2 b o hb (a5 b o hb e)
      refine wpAny_pure ⟨plainId_quiet plain_patloop _, ih m.handed h2 tk1 (n + 1) _ (l1 ++ [(rp, tr)]) cap2 (by exact Mine.sl1 hk f1 f2 f3) f3 (P.mono fun b o hb e => kk b o (by rcases hb with rfl | rfl; exact Ne.symm np; exact Ne.symm nc) e) b1 ?_ ?_ fun h' tk' t' k' => ?_⟩
      · rw [List.length_append]; simp; (exact Mine.ld3 a3 hl1 f1 f2)
      · rw [List.map_append, List.sum_append]
        have : rp.length ≤ 10 := hrp
        simp only [List.map_cons, List.map_nil, List.sum_cons, List.sum_nil]; (exact Mine.ld4 a4 hl2 f1 f2 this)
      · have := hR h' tk' t' fun b o hb e => k' b o hb (kk b o hb e)
        rw [f4, ← List.append_assoc, ← List.append_assoc, ← a2] at this
        rw [show catS (l1 ++ [(rp, tr)]) = catS l1 ++ rp.cps.toList from by unfold catS; rw [List.map_append, List.flatten_append]; simp]
        exact this
    · rcases g2 with ⟨_, g2⟩ | g2
      · show wpAny _ A.in1 (if d < x.cps.size then (reSlice x.cps 0 d x.cps.size >>= fun v => updateSeq a (fun z => z.push v) >>= fun r => _) else _) _ _ _
        refine push_part (K := fun r => _) ha (by exact Mine.ld1 hl1 hd hx) hx (Nat.le_refl _) fun h1 tk1 l1 cap1 a1 a2 a3 a4 a5 => ?_
        show wpAny _ A.in1 (mkStr ⟨x.cps.extract 0 0⟩ >>= _) _ _ _
        refine wpAny_bind (wpAny_mkStr ?_ (by show (x.cps.extract 0 0).size ≤ 16777216; rw [Array.size_extract]; (exact Nat.le_trans (Nat.le_refl _) (Nat.le_trans (Nat.le_trans (Nat.le_refl _) (Nat.sub_le _ _)) (Nat.le_trans (Nat.min_le_left _ _) (Nat.zero_le _))))))
        rw [show x.cps.extract 0 0 = #[] from by simp]
        refine wpAny_bind (wpAny_seqItems a1 rfl ?_)
        dsimp only
        have fin : catS l1 = catS l ++ G d := by
          rw [a2, g2, List.take_of_length_le (by rw [List.length_drop, Array.length_toList]; exact Nat.le_refl _)]
        have eR : ∀ h' tk' t', (∀ b o, b ≠ a → h.get? b = some o → h'.get? b = some o) → R (.ok (.ret (.str ⟨(catS l1).toArray⟩ t'))) (at' S h' tk') := by rw [fin]; exact hR
        by_cases hz : l1 = []
        · subst hz
          rw [if_pos (by rfl)]
          refine wpAny_bind (wpAny_pure ?_)
          exact wpAny_pure (eR h1 _ _ a5)
        · rw [if_neg (by cases l1 with | nil => exact absurd rfl hz | cons e r => simp [strValues])]
          refine wpAny_bind ?_
          show wpAny _ A.in1 (call (Value.builtin "str.join") [.str ⟨#[]⟩ tk1, .ref a]) _ _ _
          refine SC.join (l := l1) (texts := l1.map (·.1)) ⟨_, a1, rfl, _, rfl⟩ rfl ?_ fun t' k' => ?_
          · refine joinOk_empty _ ?_
            rw [List.map_map]
            exact Nat.le_trans a4 (by exact Mine.ld5 hl2 hd hx)
          · rw [join_empty, List.map_map]
            exact wpAny_pure (eR h1 k' t' a5)
      · rw [g2.1] at g1; cases g1
theorem named_sub (v1 v2 : Value) : reNamed "re.Pattern.sub" "sub" ["repl", "string", "count"] 2 [v1, v2] [] = pure [some v1, some v2, none] := by rfl
theorem sub_call {E : Value → Shared → Prop} {h : Heap} {tk : Nat} {Q : Value → Shared → Prop} (hN : N < 4000) (hx : x.cps.size ≤ 400) (hrp : rp.cps.size ≤ 10) (h92 : rp.cps.contains 92 = false) (hG : NextIs cd x rp.cps.toList G N) (P : PatAt h p c cd)
    (q : ∀ h' tk' t', (∀ b o, h.get? b = some o → h'.get? b = some o) → Q (.str ⟨(G 0).toArray⟩ t') (at' S h' tk')) :
    wpAny (model prog w) A (call (.builtin "re.Pattern.sub") [.ref p, .str rp tr, .str x t]) Q E (at' S h tk) := by
  have hT : (at' S h tk).TypeIs (.ref p) "re.Pattern" := by
    obtain ⟨⟨o, fs, e, hc, _⟩, _⟩ := P
    exact ⟨o, e, hc⟩
  refine wpAny_call (codeAny_call_builtin slot_patsub.plain entry_patsub (slot_patsub.check _ _ _ _ _ _ _ _ hT (args_patsub _ _ _) ?_))
  unfold Builtin.«re.Pattern.sub» reSubstitute
  dsimp only
  rw [named_sub]
  refine wpAny_bind (wpAny_pure ?_)
  show wpAny _ A.in1 (pure (0 : Int) >>= _) _ _ _
  refine wpAny_bind (wpAny_pure ?_)
  show wpAny _ A.in1 (specialOf (.str rp tr) "__call__" >>= _) _ _ _
  refine wpAny_bind (wpAny_specialOf (typeIs_str _ _ _) (nocall_str rp tr) ?_)
  show wpAny _ A.in1 (pure (some rp) >>= _) _ _ _
  refine wpAny_bind (wpAny_pure ?_)
  show wpAny _ A.in1 (pure (!rp.cps.contains 92) >>= _) _ _ _
  refine wpAny_bind (wpAny_pure ?_)
  rw [h92]
  show wpAny _ A.in1 (pure (Value.str rp tr, (0 : Int)) >>= _) _ _ _
  refine wpAny_bind (wpAny_pure ?_)
  show wpAny _ A.in1 (holding [Value.str rp tr] (reWholeTarget (.ref p) (.str x t)) >>= _) _ _ _
  refine wpAny_bind (wpAny_holding (wholeTarget P ?_))
  show wpAny _ A.in1 (newList [] >>= _) _ _ _
  refine wpAny_bind (wpAny_newList ?_)
  have old : ∀ {o : Obj} b o', h.get? b = some o' → (h.push o).get? b = some o' := fun b o' e => Heap.get?_push_of_some _ e
  have np : ∀ {b : Addr} {o : Obj}, h.get? b = some o → h.objs.size ≠ b := fun {b} {o} e z => by
    have h1 := Heap.lt_size e
    rw [z] at h1; exact Nat.lt_irrefl _ h1
  have hp : h.objs.size ≠ p := by obtain ⟨⟨o, fs, e, _⟩, _⟩ := P; exact np e
  have hc : h.objs.size ≠ c := by obtain ⟨_, ⟨o, fs, n, e, _⟩⟩ := P; exact np e
  refine wpAny_pure ⟨plainId_quiet plain_patloop _, ?_⟩
  refine sub_loop hN hx hrp hG hp hc (x.cps.size + 1) 0 _ tk 0 false [] 0 (by exact Nat.lt_succ_of_le (Nat.sub_le _ _)) (Nat.zero_le _) (P.mono fun b o _ e => old b o e) (Heap.get?_push_size _ rfl) (Nat.le_refl _) (Nat.le_refl _) fun h' tk' t' k => ?_
  exact q h' tk' t' fun b o e => k b o (fun z => np e z.symm) (old b o e)
end
end Mine
end
/-! part HC -/
section
open PySem PySem.W PySem.Calls PyProof.Rows PySem.Builtin.Re
set_option maxRecDepth 100000
set_option maxHeartbeats 4000000
set_option linter.unusedVariables false
namespace Mine
def codeN : Array Nat := #[14, 10, 4, 1, 1, 22, 0, 31, 16, 127, 0, 13, 7, 22, 0, 31, 16, 127, 0, 1]
def codeV : Array Nat := #[14, 14, 4, 1, 1, 9, 4294966783, 0, 0, 2147483648, 0, 0, 0, 0, 0, 13, 11, 9, 4294966783, 0, 0, 2147483648, 0, 0, 0, 0, 0, 1]
def setNo (cd : Array Nat) (c : Nat) : Bool := match Sre.inSet cd c cd.size 5 true (({} : Sre.Seen).add 14) with
  | .ok (false, _) => true
  | _ => false
theorem setN : ∀ c ∈ hourC, setNo codeN c = true := by decide +kernel
theorem setV : ∀ c ∈ persC, setNo codeV c = true := by decide +kernel
theorem setNo_of {cd : Array Nat} {c : Nat} (h : setNo cd c = true) : ∃ sn, Sre.inSet cd c cd.size 5 true (({} : Sre.Seen).add 14) = .ok (false, sn) := by
  unfold setNo at h
  split at h
  · exact ⟨_, by assumption⟩
  · cases h
/-- one sign that the set does not hold: no match -/
theorem search_no {cd : Array Nat} {bd c : Nat} {P : Sre.M → Prop} (h : setNo cd c = true) (e : Sre.forSearch cd #[c] 0 0 1 false = (St2 cd #[c] 1 0 false bd 0 0 true [] 0 none (({} : Sre.Seen).add 14)).attemptFrom 0 true)
    (e2 : (St2 cd #[c] 1 0 false bd 0 0 true [] 0 none (({} : Sre.Seen).add 14)).attemptFrom 0 true = match Sre.M.admitted (St2 cd #[c] 1 0 false bd 0 0 true [] 0 none (({} : Sre.Seen).add 14)) 2 0 (({} : Sre.Seen).add 14) with
      | .ok (some p, seen) => ({ (St2 cd #[c] 1 0 false bd 0 0 true [] 0 none (({} : Sre.Seen).add 14)) with mustAdvance := false, seen := seen } : Sre.M).attemptAt p true
      | .ok (none, seen) => ({ (St2 cd #[c] 1 0 false bd 0 0 true [] 0 none (({} : Sre.Seen).add 14)) with seen := seen } : Sre.M).say false
      | .error why => (St2 cd #[c] 1 0 false bd 0 0 true [] 0 none (({} : Sre.Seen).add 14)).stick why)
    (y : ∀ m : Sre.M, m.outcome = some .failed → P m) : Ends 1 (Sre.forSearch cd #[c] 0 0 1 false) P := by
  obtain ⟨sn, hs⟩ := setNo_of h
  have ha : Sre.M.admitted (St2 cd #[c] 1 0 false bd 0 0 true [] 0 none (({} : Sre.Seen).add 14)) 2 0 (({} : Sre.Seen).add 14) = .ok (none, sn) := by
    show (if 0 ≥ 1 then _ else match Sre.inSet cd c cd.size 5 true (({} : Sre.Seen).add 14) with | .ok (true, seen) => _ | .ok (false, seen) => _ | .error why => _) = _
    rw [if_neg (by decide), hs]
    rfl
  rw [e, e2, ha]
  exact ends_step rfl (ends_done rfl (y _ rfl))
theorem search_N {c : Nat} {P : Sre.M → Prop} (hc : c ∈ hourC) (y : ∀ m : Sre.M, m.outcome = some .failed → P m) : Ends 1 (Sre.forSearch codeN #[c] 0 0 1 false) P := search_no (bd := 11) (setN c hc) rfl rfl y
theorem search_V {c : Nat} {P : Sre.M → Prop} (hc : c ∈ persC) (y : ∀ m : Sre.M, m.outcome = some .failed → P m) : Ends 1 (Sre.forSearch codeV #[c] 0 0 1 false) P := search_no (bd := 15) (setV c hc) rfl rfl y
theorem slot_patsearch : Slot "re.Pattern" "search" "re.Pattern.search" :=
  .of (owner := "re.Pattern") (n := "search") (by rw [typeLookup_type, builtinLookup_eq_fast]; kernel_rfl) (by decide +kernel) (by decide +kernel) (by decide +kernel)
    (by first | exact .inl (by decide +kernel) | exact .inr (by decide +kernel)) (by rw [isSubtype_type]; kernel_rfl)
theorem type_patsearch : typeOf (.builtin "re.Pattern.search") = pure (.type "method_descriptor") := by show builtinType _ = _; rw [builtinType_eq_fast]; kernel_rfl
theorem entry_patsearch : entryFor table "re.Pattern.search" = some Builtin.«re.Pattern.search» := entryFor_of_tree (by kernel_rfl)
theorem args_patsearch (a b : Value) : argsOk "re.Pattern.search" ⟨[a, b], []⟩ := by
  unfold argsOk; kernel_rfl
theorem named_search (v : Value) : reNamed "re.Pattern.search" "search" ["string", "pos", "endpos"] 1 [v] [] = pure [some v, none, none] := by rfl
theorem search_call {prog : Program} {w : World} {A : Around} {E : Value → Shared → Prop} {S : Shared} {h : Heap} {tk : Nat} {p cc : Addr} {cd : Array Nat} {c : Nat} {t : Tok} {Q : Value → Shared → Prop} (P : PatAt h p cc cd) (hE : ∀ P : Sre.M → Prop, (∀ m : Sre.M, m.outcome = some .failed → P m) → Ends 1 (Sre.forSearch cd #[c] 0 0 1 false) P)
    (q : Q .none (at' S h tk)) : wpAny (model prog w) A (call (.builtin "re.Pattern.search") [.ref p, .str ⟨#[c]⟩ t]) Q E (at' S h tk) := by
  obtain ⟨⟨o, fs, e, hc, _, hd, g2, g5, g6⟩, ⟨o2, xs, n, e2, hd2, hcd⟩⟩ := P
  refine wpAny_call (codeAny_call_builtin slot_patsearch.plain entry_patsearch (slot_patsearch.check _ _ _ _ _ _ _ _ ⟨o, e, hc⟩ (args_patsearch _ _) ?_))
  show wpAny _ A.in1 (reTarget "re.Pattern.search" "search" ⟨[.ref p, .str ⟨#[c]⟩ t], []⟩ >>= _) _ _ _
  refine wpAny_bind ?_
  unfold reTarget
  dsimp only
  rw [named_search]
  refine wpAny_bind (wpAny_pure ?_)
  show wpAny _ A.in1 (pure (0 : Int) >>= _) _ _ _
  refine wpAny_bind (wpAny_pure ?_)
  show wpAny _ A.in1 (pure (2 ^ 63 - 1 : Int) >>= _) _ _ _
  refine wpAny_bind (wpAny_pure ?_)
  refine wpAny_bind (wpAny_fieldsOf e hd ?_)
  refine wpAny_bind (wpAny_of_eq (show reTextOf (.str ⟨#[c]⟩ t) = pure ((#[c] : Array Nat), 0) from rfl) ?_)
  simp only [g2, g5, g6]
  show wpAny _ A.in1 (pure () >>= fun _ => (do let r ← reRawItems (.ref cc); pure _)) _ _ _
  refine wpAny_bind (wpAny_pure ?_)
  refine wpAny_bind ?_
  unfold reRawItems
  refine wpAny_bind (wpAny_seqItems e2 hd2 ?_)
  refine wpAny_pure (wpAny_pure ?_)
  rw [show (Option.some xs).getD #[] = xs from rfl, hcd]
  show wpAny _ A.in1 (reRunToEnd (Sre.forSearch cd #[c] 0 0 1 false) >>= _) _ _ _
  refine wpAny_bind (run_end (P := fun m => m.outcome = some .failed) (hE _ fun m z => z) (by decide) (fun m z1 z2 => by rw [z1] at z2; cases z2) (fun m _ _ => wpAny_pure q) fun m z => .inr z)
section
variable {w : World} {S : Shared} {B : HM} {A : Around} {H : HM} {L : Addr} {ns : List Str} {vs : List (Option Value)}
theorem patN {h : Heap} (X : (KK w.params).In h) : PatAt h 83 82 codeN := by
  have e1 : h.get? 83 = some (hd.zo_97 w.params) := X _ _ (by kernel_rfl)
  have e2 : h.get? 82 = some (hd.zo_96 w.params) := X _ _ (by kernel_rfl)
  exact ⟨⟨_, _, e1, rfl, rfl, rfl, rfl, rfl, rfl⟩, ⟨_, _, _, e2, rfl, by decide +kernel⟩⟩
theorem patV {h : Heap} (X : (KK w.params).In h) : PatAt h 88 87 codeV := by
  have e1 : h.get? 88 = some (hd.zo_99 w.params) := X _ _ (by kernel_rfl)
  have e2 : h.get? 87 = some (hd.zo_98 w.params) := X _ _ (by kernel_rfl)
  exact ⟨⟨_, _, e1, rfl, rfl, rfl, rfl, rfl, rfl⟩, ⟨_, _, _, e2, rfl, by decide +kernel⟩⟩
theorem m_patsearch {p cc : Addr} {cd : Array Nat} {pl : Sem Bool} {Q : Value × List Value → Fst → Prop} (b : BaseOk w B) (P : ∀ h, (KK w.params).In h → PatAt h p cc cd) (q : Q (.builtin "re.Pattern.search", [.ref p]) (vs, H)) : wpG w S (StF B L ns) A (getMethod (.ref p) ⟨#[115, 101, 97, 114, 99, 104]⟩ pl) Q (vs, H) := fun h tk s => by
  obtain ⟨⟨o, fs, e, hc, hd, _⟩, _⟩ := P h (b.kin h s.st.base)
  rw [show (⟨#[115, 101, 97, 114, 99, 104]⟩ : Str) = Str.ofString "search" from by decide +kernel]
  exact getMethod_builtin (T := "re.Pattern") ⟨o, e, hc⟩ patAttrs slot_patsearch type_patsearch (fun a e2 => by cases e2; exact ⟨o, e, hd⟩) ⟨h, tk, _, rfl, s, q⟩
theorem b_types {σ : Type} {J : σ → Heap → Prop} {x : σ} {y : Str} {t : Tok} {Q : Value → σ → Prop} (q : Q (.type "str") x) : wpG w S J A (call (.type "type") [.str y t]) Q x := fun h tk s =>
  call_type_of (typeIs_str _ _ _) (by decide) ⟨h, tk, _, rfl, s, q⟩
theorem b_patsearch {p cc : Addr} {cd : Array Nat} {c : Nat} {t : Tok} {Q : Value → Fst → Prop} (b : BaseOk w B) (P : ∀ h, (KK w.params).In h → PatAt h p cc cd) (hE : ∀ P : Sre.M → Prop, (∀ m : Sre.M, m.outcome = some .failed → P m) → Ends 1 (Sre.forSearch cd #[c] 0 0 1 false) P) (q : Q .none (vs, H)) :
    wpG w S (StF B L ns) A (call (.builtin "re.Pattern.search") [.ref p, .str ⟨#[c]⟩ t]) Q (vs, H) := fun h tk s => search_call (P h (b.kin h s.st.base)) hE ⟨h, tk, _, rfl, s, q⟩
abbrev ssValue : Str := ⟨#[118, 97, 108, 117, 101]⟩
abbrev ssRegex : Str := ⟨#[114, 101, 103, 101, 120]⟩
abbrev nsConv : List Str := [⟨#[115, 101, 108, 102]⟩, ssValue, kwName, ssRegex]
theorem conv_spec {c : Nat} {nm : Bool} {self : Value} {t : Tok} {Q : Result → HM → Prop} (b : BaseOk w B) (hA : Room A 10) (hc : c ∈ (if nm then hourC else persC)) (q : Q (.ok (.ret (.str ⟨#[c]⟩ t))) H) : codeG w S (St B) A (.call (.ref 110) ⟨[self, .str ⟨#[c]⟩ t], [(kwName, .bool nm)]⟩) Q H := by
  refine enter b hA (hd.zo_114 w.params) [self, .str ⟨#[c]⟩ t, .bool nm] (by kernel_rfl) rfl (by kernel_rfl) (ns := nsConv) ⟨rfl, by decide +kernel, by decide +kernel, by decide +kernel⟩ (fun s X => BindsTo.of_eq rfl) (Nat.le_of_ble_eq_true rfl) rfl rfl (by decide +kernel) ?_
  intro A1 L env hA1 f hsc
  refine x_cons (x_if (t_cmp ?_))
  refine e_call (f_builtin (v := .type "type") b f (by kernel_rfl) (by kernel_rfl) (by decide) (by rw [hsc]; rfl) (by decide +kernel) ?_)
  refine c_with rfl (a_pos (s_cons (f_local f 1 rfl rfl (s_nil ⟨Keep.type, b_types ?_⟩))))
  refine f_builtin (v := .type "str") b f (by kernel_rfl) (by kernel_rfl) (by decide) (by rw [hsc]; rfl) (by decide +kernel) (c_is rfl (t_bool ?_))
  rw [if_pos (by rfl)]
  cases nm with
  | true =>
    refine x_cons (x_assign (e_ifexp (t_value (f_local f 2 rfl rfl (t_bool ?_)))))
    rw [if_pos rfl]
    refine f_global (v := .ref 83) b f (by kernel_rfl) (by rw [hsc]; rfl) (by decide +kernel) ?_
    refine f_store f 3 rfl (Nat.le_of_ble_eq_true rfl) ?_
    refine x_cons (x_if (t_value (e_meth rfl (f_local f 3 rfl rfl (m_patsearch b (fun h X => patN X) ?_)))))
    refine c_with rfl (a_pos (s_cons (f_local f 1 rfl rfl (s_nil ⟨Keep.builtin, b_patsearch b (fun h X => patN X) (fun P y => search_N hc y) (t_none ?_)⟩))))
    rw [if_neg (by decide)]
    exact x_nil (x_cons (x_return (f_local f 1 rfl rfl q)))
  | false =>
    refine x_cons (x_assign (e_ifexp (t_value (f_local f 2 rfl rfl (t_bool ?_)))))
    rw [if_neg (by decide)]
    refine f_global (v := .ref 88) b f (by kernel_rfl) (by rw [hsc]; rfl) (by decide +kernel) ?_
    refine f_store f 3 rfl (Nat.le_of_ble_eq_true rfl) ?_
    refine x_cons (x_if (t_value (e_meth rfl (f_local f 3 rfl rfl (m_patsearch b (fun h X => patV X) ?_)))))
    refine c_with rfl (a_pos (s_cons (f_local f 1 rfl rfl (s_nil ⟨Keep.builtin, b_patsearch b (fun h X => patV X) (fun P y => search_V hc y) (t_none ?_)⟩))))
    rw [if_neg (by decide)]
    exact x_nil (x_cons (x_return (f_local f 1 rfl rfl q)))
/-- _convert_string_type hands its text back -/
theorem conv_call {c : Nat} {nm : Bool} {self : Value} {t : Tok} {Q : Value → Fst → Prop} (b : BaseOk w B) (hA : Room A 10) (hc : c ∈ (if nm then hourC else persC)) (q : Q (.str ⟨#[c]⟩ t) (vs, H)) :
    wpG w S (StF B L ns) A (call (.ref 110) [self, .str ⟨#[c]⟩ t] [(kwName, .bool nm)]) Q (vs, H) :=
  f_fn fun hL => conv_spec b hA hc ⟨H, Sub.refl, hL, _, rfl, q⟩
end
end Mine
end
/-! part H6 -/
section
open PySem PySem.W PySem.Calls PyProof.Rows
set_option maxRecDepth 100000
set_option maxHeartbeats 4000000
set_option linter.unusedVariables false
namespace Mine
section
variable {w : World} {S : Shared} {B : HM} {A : Around} {H : HM} {L : Addr} {ns : List Str} {vs : List (Option Value)} {I l D : Addr} {env : Env} {pos : Pos} {σ : Type} {J : σ → Heap → Prop} {x : σ}
/-- positional arguments and one keyword -/
theorem a_kw {f : Value} {m m2 : Sem Value} {n : Str} {rest : List (Bool × Sem Value)} {Q : Args → σ → Prop}
    (y : wpG w S J A (spliced ((false, m) :: rest)) (fun us x1 => wpG w S J A m2 (fun v x2 => Q ⟨us, [(n, v)]⟩ x2) x1) x) : wpG w S J A (evalArgs f true ((false, m) :: rest) [(some n, m2)]) Q x := by
  unfold evalArgs
  show wpG w S J A (spliced ((false, m) :: rest) >>= _) Q x
  refine wpG_bind (wpG_mono y fun us x1 z => wpG_holding ?_)
  show wpG w S J A (evalAll [m2] >>= _) Q x1
  refine wpG_bind ?_
  unfold evalAll
  refine wpG_bind (wpG_mono z fun v x2 q => ?_)
  unfold evalAll
  exact wpG_bind (wpG_holding (wpG_pure (wpG_pure (wpG_bind (wpG_pure (wpG_pure q))))))
theorem k_tree {m : Sem Value} {p : Pos} {Q : Value → σ → Prop} (y : wpG w S J A m Q x) : wpG w S J A (do let v ← m; standAt p; pure v) Q x :=
  wpG_bind (wpG_mono y fun v x1 q => wpG_bind (wpG_standAt (wpG_pure q)))
/-! texts -/
theorem m_lower {y : Str} {t : Tok} {pl : Sem Bool} {Q : Value × List Value → σ → Prop} (q : Q (.builtin "str.lower", [.str y t]) x) : wpG w S J A (getMethod (.str y t) ⟨#[108, 111, 119, 101, 114]⟩ pl) Q x := fun h tk s => by
  rw [show (⟨#[108, 111, 119, 101, 114]⟩ : Str) = Str.ofString "lower" from by decide +kernel]
  exact GM.lower ⟨h, tk, x, rfl, s, q⟩
theorem lower_ok : ∀ c ∈ hourC, Txt.lower ⟨#[c]⟩ = ⟨#[c]⟩ := by decide +kernel
theorem b_lower {c : Nat} {t : Tok} {Q : Value → σ → Prop} (hc : c ∈ hourC) (q : ∀ t, Q (.str ⟨#[c]⟩ t) x) : wpG w S J A (call (.builtin "str.lower") [.str ⟨#[c]⟩ t]) Q x := fun h tk s =>
  SC.lower (by rw [lower_ok c hc]; rfl) (by rw [lower_ok c hc]; exact ⟨h, _, x, rfl, s, q _⟩)
theorem c_eqs {a b : Str} {t u : Tok} {Q : Value → σ → Prop} (q : Q (.bool (a == b)) x) : wpG w S J A (compareOp .Eq (.str a t) (.str b u)) Q x := fun h tk s => PyProof.Rows.eq_str ⟨h, tk, x, rfl, s, q⟩
theorem c_nes {a b : Str} {t u : Tok} {Q : Value → σ → Prop} (q : Q (.bool (a != b)) x) : wpG w S J A (compareOp .NotEq (.str a t) (.str b u)) Q x := fun h tk s => PyProof.Rows.ne_str ⟨h, tk, x, rfl, s, q⟩
end
theorem chr_eq (a b : Nat) : ((⟨#[a]⟩ : Str) == ⟨#[b]⟩) = (a == b) := by
  rw [Bool.eq_iff_iff]; simp
theorem lookup_hit : ∀ {tab : List (Nat × Nat)} {c i : Nat} (hi : i < tab.length), tab[i].1 = c → (∀ e ∈ tab.take i, e.1 ≠ c) → tab.lookup c = some tab[i].2
  | (k, v) :: r, c, 0, _, he, _ => by simp at he; subst he; simp
  | (k, v) :: r, c, i + 1, hi, he, hn => by
    have hk : ¬ c = k := fun e => hn (k, v) (by simp) e.symm
    rw [List.lookup_cons, beq_eq_false_iff_ne.mpr hk]
    exact lookup_hit (i := i) (by simpa using hi) (by simpa using he) fun e m => hn e (by simp [m])
theorem lookup_miss {tab : List (Nat × Nat)} {c : Nat} (hn : ∀ e ∈ tab, e.1 ≠ c) : tab.lookup c = none := by
  rw [List.lookup_eq_none_iff]
  intro p hp
  simpa using fun e => hn p hp (Eq.symm e)
theorem take_next {tab : List (Nat × Nat)} {c i : Nat} (hi : i < tab.length) (he : ¬ tab[i].1 = c) (hn : ∀ e ∈ tab.take i, e.1 ≠ c) : ∀ e ∈ tab.take (i + 1), e.1 ≠ c := by
  intro e m
  rw [List.take_add_one, List.getElem?_eq_getElem hi] at m
  rcases List.mem_append.mp m with m | m
  · exact hn e m
  · have : e = tab[i] := by simpa using m
    rw [this]; exact he
/-- a table: hours and whom they meet -/
def TabAt (H : HM) (lx : Addr) (refs : List Addr) (tab : List (Nat × Nat)) : Prop :=
  H lx = some (.lst (refs.map .ref)) ∧ refs.length = tab.length ∧ ∀ (i : Nat) (r : Addr) (e : Nat × Nat), refs[i]? = some r → tab[i]? = some e → ∃ t1 t2, H r = some (.obj (tupO [.str ⟨#[e.1]⟩ t1, .str ⟨#[e.2]⟩ t2]))
end Mine
end
/-! part H7 -/
section
open PySem PySem.W PySem.Calls PyProof.Rows
set_option maxRecDepth 100000
set_option maxHeartbeats 4000000
set_option linter.unusedVariables false
namespace Mine
section
variable {w : World} {S : Shared} {B : HM} {A : Around} {H : HM} {x lx : Addr}
abbrev nsGet : List Str := [⟨#[115, 101, 108, 102]⟩, ⟨#[110, 97, 109, 101]⟩, ⟨#[100, 101, 102, 97, 117, 108, 116]⟩, ⟨#[107]⟩, ⟨#[118]⟩]
def IsGot (v : Value) (g : Option Nat) : Prop := match g with
  | none => v = .none
  | some o => ∃ t, v = .str ⟨#[o]⟩ t
theorem get_spec {refs : List Addr} {tab : List (Nat × Nat)} {c : Nat} {t : Tok} {Q : Result → HM → Prop} (b : BaseOk w B) (hA : Room A 20) (d : Hdr H x lx) (T : TabAt H lx refs tab) (hk : ∀ e ∈ tab, e.1 ∈ hourC) (hc : c ∈ hourC)
    (q : ∀ v, IsGot v (tab.lookup c) → Q (.ok (.ret v)) H) : codeG w S (St B) A (.call (.ref 158) ⟨[.ref x, .str ⟨#[c]⟩ t], []⟩) Q H := by
  refine enter b hA (hd.zo_162 w.params) [.ref x, .str ⟨#[c]⟩ t, .none] (by kernel_rfl) rfl (by kernel_rfl) (ns := nsGet) ⟨rfl, by decide +kernel, by decide +kernel, by decide +kernel⟩ ?_ (Nat.le_of_ble_eq_true rfl) rfl rfl (by decide +kernel) ?_
  · intro s X
    exact binds_K X rfl (o := hd.zo_155 w.params) (by kernel_rfl) rfl rfl rfl
  intro A1 L env hA1 f hsc
  refine x_cons (x_assign ?_)
  refine e_meth rfl (f_local f 0 rfl rfl ?_)
  refine g_meth b d (f := 110) (by kernel_rfl) (by kernel_rfl) (by decide +kernel) ?_
  refine c_with rfl ?_
  refine a_kw (s_cons ?_)
  refine e_meth rfl (f_local f 1 rfl rfl (m_lower ?_))
  refine c_with rfl (a_nil ⟨Keep.builtin, ?_⟩)
  refine b_lower hc fun t1 => ?_
  refine s_nil (k_tree (e_bool ⟨Keep.fn b (by kernel_rfl), ?_⟩))
  refine conv_call b (hA1.mono (by exact Nat.le_add_left _ _)) (nm := true) hc ?_
  refine f_store f 1 rfl (Nat.le_of_ble_eq_true rfl) ?_
  refine x_cons (x_for ?_)
  refine e_attr (f_local f 0 rfl rfl (g_headers b d ?_)) rfl
  obtain ⟨Tl, Tn, Te⟩ := T
  refine i_list Tl fun I hI hBI hIl => ?_
  refine code_for (iter_list hA1.hand (refs.map .ref) hIl) (fun i y => ∃ ku vu, y = ([some (.ref x), some (.str ⟨#[c]⟩ t1), some .none, ku, vu], upd H I (itL lx i)) ∧ ∀ e ∈ tab.take i, e.1 ≠ c) ?_ ?_ ?_ ?_ ?_
  · rintro i y ⟨ku, vu, rfl, _⟩
    exact ⟨upd_same, upd_old hI Tl⟩
  · intro i v hv
    obtain ⟨r, _, rfl⟩ := List.mem_map.mp (List.mem_of_getElem? hv)
    exact ⟨r, rfl⟩
  · rintro i v us X hi hv ⟨ku, vu, hz, hn⟩
    cases hz
    rw [List.getElem?_map] at hv
    obtain ⟨r, hr, rfl⟩ := Option.map_eq_some_iff.mp hv
    have hit : i < tab.length := by rw [← Tn]; exact (List.getElem?_eq_some_iff.mp hr).1
    obtain ⟨t2, t3, hrt⟩ := Te i r tab[i] hr (List.getElem?_eq_getElem hit)
    rw [upd_upd]
    refine t_tuple2 hA1.hand f 3 4 rfl rfl (Nat.le_of_ble_eq_true rfl) (Nat.le_of_ble_eq_true rfl) (upd_old hI hrt) ?_
    refine x_cons (x_if (t_cmp ?_))
    refine e_meth rfl (f_local f 3 rfl rfl (m_lower ?_))
    refine c_with rfl (a_nil ⟨Keep.builtin, ?_⟩)
    refine b_lower (hk _ (List.getElem_mem hit)) fun t4 => ?_
    refine f_local f 1 rfl rfl (c_eqs (t_bool ?_))
    rw [chr_eq]
    by_cases he : tab[i].1 = c
    · rw [beq_iff_eq.mpr he]
      simp only [if_true]
      refine wpF_weaken (H' := H) ?_ (Sub.new hI)
      refine x_cons (x_return (f_local f 4 rfl rfl ?_))
      refine ⟨_, rfl, q _ ?_⟩
      rw [lookup_hit hit he hn]; exact ⟨_, rfl⟩
    · rw [beq_eq_false_iff_ne.mpr he]
      simp only [Bool.false_eq_true, if_false]
      refine x_nil (x_nil ⟨_, ⟨_, _, rfl, ?_⟩, Sub.refl⟩)
      exact take_next hit he hn
  · rintro us X ⟨ku, vu, hz, hn⟩
    cases hz
    refine ⟨_, rfl, ?_⟩
    rw [era_new hI]
    refine x_cons (x_return (f_local f 2 rfl rfl ?_))
    refine q _ ?_
    rw [lookup_miss (by rw [show tab = tab.take (refs.map Value.ref).length from by rw [List.length_map, Tn, List.take_length]]; exact hn)]; rfl
  · exact ⟨none, none, rfl, by simp⟩
end
end Mine
end
/-! part H8 -/
section
open PySem PySem.W PySem.Calls PyProof.Rows
set_option maxRecDepth 100000
set_option maxHeartbeats 4000000
set_option linter.unusedVariables false
namespace Mine
section
variable {w : World} {S : Shared} {B : HM} {A : Around} {H : HM} {L : Addr} {ns : List Str} {vs : List (Option Value)} {l x lx : Addr} {env : Env} {pos : Pos}
theorem p_none {σ : Type} {J : σ → Heap → Prop} {x : σ} {Q : Value → σ → Prop} (q : Q .none x) : wpG w S J A (evalPart none env) Q x := wpG_eq (m' := pure .none) rfl (wpG_pure q)
theorem p_some {σ : Type} {J : σ → Heap → Prop} {x : σ} {e : Expr} {Q : Value → σ → Prop} (y : wpG w S J A (eval e env) Q x) : wpG w S J A (evalPart (some e) env) Q x := y
abbrev sliO (a b c : Value) : Obj := ⟨.type "slice", none, .fields #[a, b, c], #[]⟩
theorem e_sli {lower upper step : Option Expr} {p : Pos} {Q : Value → Fst → Prop} {x : Fst} (y : wpG w S (StF B L ns) A (evalPart lower env) (fun vl x2 => wpG w S (StF B L ns) A (evalPart upper env) (fun vu x3 => wpG w S (StF B L ns) A (evalPart step env) (fun st x4 =>
      ∀ b, x4.2 b = none → B b = none → Q (.ref b) (x4.1, upd x4.2 b (.obj (sliO vl vu st)))) x3) x2) x) : wpG w S (StF B L ns) A (eval (.Slice lower upper step p) env) Q x := fun h tk s =>
  wpAny_Slice (lift y s fun vl x1 h1 t1 q1 s1 => lift q1 s1 fun vu x2 h2 t2 q2 s2 => lift q2 s2 fun st x3 h3 t3 q3 s3 =>
    ⟨_, t3, _, rfl, StF.new (vs := x3.1) (H := x3.2) (i := .obj (sliO vl vu st)) s3 (fun _ _ e => Heap.get?_push_of_some _ e) (Heap.get?_push_size _ rfl), q3 _ s3.st.own.fresh s3.st.base.fresh⟩)
/-- the items that a slice picks -/
def pick (us : List Value) (lo hi st : Option Int) : List Value := (slicePick us.toArray lo hi st).toList
theorem gi_slice {us : List Value} {sl : Addr} {vl vu vt : Value} {lo hi st : Option Int} {Q : Value → Fst → Prop} (hl : H l = some (.lst us)) (hs : H sl = some (.obj (sliO vl vu vt))) (hz : us.length ≤ sizeLine) (pl : IsPart vl lo) (pu : IsPart vu hi) (pt : IsPart vt st) (h0 : st ≠ some 0) {H0 : HM} (k : Sub H0 H)
    (q : ∀ b, H0 b = none → B b = none → Q (.ref b) (vs, upd H0 b (.lst (pick us lo hi st)))) : wpG w S (StF B L ns) A (getItem (.ref l) (.ref sl)) Q (vs, H) := fun h tk s =>
  wpAny_getItem_list_slice (Heap.PlainList.isList (s.st.own l _ hl)) ⟨_, s.st.own sl _ hs, rfl, rfl⟩ pl pu pt h0 ⟨_, tk, _, rfl, (s.weaken k).new (i := .lst (pick us lo hi st)) (fun _ _ e => Heap.get?_push_of_some _ e) ⟨0, by
    have := Heap.get?_push_size h (o := { cls := .type "list", data := .seq (slicePick us.toArray lo hi st) }) rfl
    simpa [pick] using this⟩, q _ (s.weaken k).st.own.fresh s.st.base.fresh⟩ (by simpa using hz)
/-- a slice of a plain list -/
theorem e_slice {value : Expr} {lower upper : Option Expr} {p : Pos} {Q : Value → Fst → Prop} {x : Fst} (y : wpG w S (StF B L ns) A (eval value env) (fun o x1 => wpG w S (StF B L ns) A (evalPart lower env) (fun vl x2 => wpG w S (StF B L ns) A (evalPart upper env) (fun vu x3 =>
      ∃ l us lo hi, o = .ref l ∧ x3.2 l = some (.lst us) ∧ us.length ≤ sizeLine ∧ IsPart vl lo ∧ IsPart vu hi ∧ ∀ b, x3.2 b = none → B b = none → Q (.ref b) (x3.1, upd x3.2 b (.lst (pick us lo hi none)))) x2) x1) x) :
    wpG w S (StF B L ns) A (eval (.Subscript value (.Slice lower upper none p) pos) env) Q x := by
  refine e_sub (wpG_mono y fun o x1 y1 => e_sli (wpG_mono y1 fun vl x2 y2 => wpG_mono y2 fun vu x3 y3 => p_none fun sl h1 h2 => ?_))
  obtain ⟨l, us, lo, hi, rfl, hl, hz, pl, pu, q⟩ := y3
  have n : l ≠ sl := by first | exact nn h1 (hl) | exact Ne.symm (nn h1 (hl)) | exact nn (hl) h1 | exact Ne.symm (nn (hl) h1) | (rintro rfl; rw [hl] at h1; cases h1)
  refine tl (ops := [.ref sl, .ref l]) (fun h tk s => (Heap.PlainList.isList (s.st.own l _ (upd_old h1 hl))).typeIs) slot_list_getitem.lookup ?_ rfl
  exact gi_slice (upd_old h1 hl) upd_same hz pl pu .none (by simp) (Sub.new h1) q
theorem e_slice3 {value : Expr} {lower upper : Option Expr} {st : Expr} {p : Pos} {Q : Value → Fst → Prop} {x : Fst} (y : wpG w S (StF B L ns) A (eval value env) (fun o x1 => wpG w S (StF B L ns) A (evalPart lower env) (fun vl x2 => wpG w S (StF B L ns) A (evalPart upper env) (fun vu x3 => wpG w S (StF B L ns) A (eval st env) (fun vt x4 =>
      ∃ l us lo hi k, o = .ref l ∧ x4.2 l = some (.lst us) ∧ us.length ≤ sizeLine ∧ IsPart vl lo ∧ IsPart vu hi ∧ IsPart vt (some k) ∧ k ≠ 0 ∧ ∀ b, x4.2 b = none → B b = none → Q (.ref b) (x4.1, upd x4.2 b (.lst (pick us lo hi (some k))))) x3) x2) x1) x) :
    wpG w S (StF B L ns) A (eval (.Subscript value (.Slice lower upper (some st) p) pos) env) Q x := by
  refine e_sub (wpG_mono y fun o x1 y1 => e_sli (wpG_mono y1 fun vl x2 y2 => wpG_mono y2 fun vu x3 y3 => p_some (wpG_mono y3 fun vt x4 y4 sl h1 h2 => ?_)))
  obtain ⟨l, us, lo, hi, k, rfl, hl, hz, pl, pu, pt, hk, q⟩ := y4
  refine tl (ops := [.ref l, .ref sl]) (fun h tk s => (Heap.PlainList.isList (s.st.own l _ (upd_old h1 hl))).typeIs) slot_list_getitem.lookup ?_ rfl
  exact gi_slice (upd_old h1 hl) upd_same hz pl pu pt (by simpa using hk) (Sub.new h1) q
theorem pick_nn (us : List Value) (lo hi : Option Int) : pick us lo hi none = (us.drop (kms_lo lo us.length)).take (kms_hi hi us.length - kms_lo lo us.length) := by
  unfold pick
  rw [kms_pick_eq]
  rfl
theorem pick_all (us : List Value) : pick us none none none = us := by
  rw [pick_nn]
  simp [kms_lo, kms_hi]

/-! Headers.items -/
abbrev nsSelf : List Str := [⟨#[115, 101, 108, 102]⟩]
theorem items_spec {refs : List Addr} {tab : List (Nat × Nat)} {Q : Result → HM → Prop} (b : BaseOk w B) (hA : Room A 10) (d : Hdr H x lx) (T : TabAt H lx refs tab) (hz : refs.length ≤ 1000)
    (q : ∀ r, H r = none → B r = none → Q (.ok (.ret (.ref r))) (upd H r (.lst (refs.map .ref)))) : codeG w S (St B) A (.call (.ref 175) ⟨[.ref x], []⟩) Q H := by
  refine enter b hA (hd.zo_179 w.params) [.ref x] (by kernel_rfl) rfl (by kernel_rfl) (ns := nsSelf) ⟨rfl, by decide +kernel, by decide +kernel, by decide +kernel⟩ (fun s X => BindsTo.of_eq rfl) (Nat.le_of_ble_eq_true rfl) rfl rfl (by decide +kernel) ?_
  intro A1 L env hA1 f hsc
  refine x_cons (x_return (e_slice (e_attr (f_local f 0 rfl rfl (g_headers b d (p_none (p_none ⟨lx, _, _, _, rfl, T.1, ?_, .none, .none, fun r h1 h2 => ?_⟩)))) rfl)))
  · rw [List.length_map]; show refs.length ≤ 16777216; (exact Nat.le_trans hz (Nat.le_add_left _ _))
  · rw [pick_all]; exact q r h1 h2

/-! Headers.keys -/
def ChrL (ks : List Value) (cs : List Nat) : Prop := ks.length = cs.length ∧ ∀ (i c : Nat), cs[i]? = some c → ∃ t, ks[i]? = some (Value.str ⟨#[c]⟩ t)
theorem ChrL.nil : ChrL [] [] := ⟨rfl, fun i c h => by simp at h⟩
theorem ChrL.snoc {ks : List Value} {cs : List Nat} {c : Nat} {t : Tok} (x : ChrL ks cs) : ChrL (ks ++ [Value.str ⟨#[c]⟩ t]) (cs ++ [c]) := by
  refine ⟨by simp [x.1], fun i c' h => ?_⟩
  by_cases hi : i < cs.length
  · rw [List.getElem?_append_left hi] at h
    rw [List.getElem?_append_left (by rw [x.1]; exact hi)]
    exact x.2 i c' h
  · have : i = cs.length := by
      have := (List.getElem?_eq_some_iff.mp h).1
      simp at this; (exact Nat.le_antisymm (Nat.le_of_lt_succ this) (Nat.le_of_not_lt hi))
    subst this
    simp at h; subst h
    exact ⟨t, by rw [← x.1]; simp⟩
theorem keys_spec {refs : List Addr} {tab : List (Nat × Nat)} {Q : Result → HM → Prop} (b : BaseOk w B) (hA : Room A 10) (d : Hdr H x lx) (T : TabAt H lx refs tab) (hz : refs.length ≤ 1000)
    (q : ∀ r ks, H r = none → B r = none → ChrL ks (tab.map (·.1)) → Q (.ok (.ret (.ref r))) (upd H r (.lst ks))) : codeG w S (St B) A (.call (.ref 163) ⟨[.ref x], []⟩) Q H := by
  refine enter b hA (hd.zo_167 w.params) [.ref x] (by kernel_rfl) rfl (by kernel_rfl) (ns := nsSelf) ⟨rfl, by decide +kernel, by decide +kernel, by decide +kernel⟩ (fun s X => BindsTo.of_eq rfl) (Nat.le_of_ble_eq_true rfl) rfl rfl (by decide +kernel) ?_
  intro A1 L env hA1 f hsc
  refine x_cons (x_return (e_comp (cns := [⟨#[107]⟩, ⟨#[118]⟩]) f rfl ?_ rfl ?_ ?_ ?_))
  · decide +kernel
  · decide +kernel
  · exact ⟨rfl, by decide +kernel, by intro y hy; simp at hy; rcases hy with rfl | rfl <;> rfl, by decide +kernel⟩
  obtain ⟨Tl, Tn, Te⟩ := T
  refine e_attr (f_local f 0 rfl rfl (g_headers b d ?_)) rfl
  refine i_list Tl fun I hI hBI hIl => ?_
  refine ⟨I, _, H, (refs.map Value.ref).length, fun i v => (refs.map Value.ref)[i]? = some v, itL lx, fun H => H lx = some (.lst (refs.map .ref)), fun i ys => ChrL ys ((tab.take i).map (·.1)), rfl, rfl, hI, ?_⟩
  refine ⟨fun C => iter_list hA1.hand (refs.map .ref) hIl, fun X k => k _ _ Tl, fun i ys h => ?_, ?_, ?_, ChrL.nil, ?_, ?_⟩
  · rw [h.1, List.length_map, List.length_take]; (exact Nat.min_le_left _ _)
  · rw [List.length_map]; show refs.length ≤ 16777216; (exact Nat.le_trans hz (Nat.le_add_left _ _))
  · intro i v hv
    obtain ⟨r, _, rfl⟩ := List.mem_map.mp (List.mem_of_getElem? hv)
    exact ⟨r, rfl⟩
  · intro D C hD hBD hDI hL hLD hLI fc i v ys cvs hi hv hJ hc
    rw [List.getElem?_map] at hv
    obtain ⟨r, hr, rfl⟩ := Option.map_eq_some_iff.mp hv
    have hit : i < tab.length := by rw [← Tn]; exact (List.getElem?_eq_some_iff.mp hr).1
    obtain ⟨t2, t3, hrt⟩ := Te i r tab[i] hr (List.getElem?_eq_getElem hit)
    have hrt' : Hc (upd H L (.loc nsSelf (vals nsSelf [.ref x]))) I D (itL lx) (i + 1) ys r = some (.obj (tupO [.str ⟨#[tab[i].1]⟩ t2, .str ⟨#[tab[i].2]⟩ t3])) := by
      unfold Hc
      refine (upd_ne ?_).trans ((upd_ne ?_).trans ((upd_ne ?_).trans hrt)) <;> (rintro rfl; simp_all)
    refine t_tuple2 hA1.hand fc 0 1 rfl rfl (by rw [hc]; decide) (by rw [hc]; decide) hrt' ?_
    refine tests_nil ?_
    simp only [if_true]
    refine f_local fc 0 rfl (v := .str ⟨#[tab[i].1]⟩ t2) ?_ ?_
    · match cvs, hc with
      | [a, b], _ => rfl
    · refine ⟨?_, by simp [hc], Sub.refl⟩
      have e : (tab.take (i + 1)).map (·.1) = (tab.take i).map (·.1) ++ [tab[i].1] := by
        rw [List.take_add_one, List.getElem?_eq_getElem hit, List.map_append]; rfl
      rw [e]
      exact ChrL.snoc hJ
  · intro D ys hD hBD hJ
    refine q D ys hD hBD ?_
    have : tab.take (refs.map Value.ref).length = tab := by rw [List.length_map, Tn, List.take_length]
    rw [this] at hJ
    exact hJ
end
end Mine
end
/-! part H9 -/
section
open PySem PySem.W PySem.Calls PyProof.Rows
set_option maxRecDepth 100000
set_option maxHeartbeats 4000000
set_option linter.unusedVariables false
namespace Mine
/-! cells -/
abbrev cel (v : Option Value) : Item := .any fun o => o.data = .cell v
/-- an env's cell variable -/
structure Cel (env : Env) (n : Str) (c : Addr) : Prop where
  kind : env.kindOf n = some .cell ∨ env.kindOf n = some .free
  look : env.cells.lookup n = some c
  dbg : (n == ("__debug__" : Str)) = false
  dct : (n == ("__classdict__" : Str)) = false
section
variable {w : World} {S : Shared} {B : HM} {A : Around} {H : HM} {L c : Addr} {ns : List Str} {vs : List (Option Value)} {n : Str} {v : Value} {v0 : Option Value} {env : Env} {pos : Pos}
theorem n_cell {Q : Value → Fst → Prop} (l : Fn env L ns) (e : Cel env n c) (hc : H c = some (cel (some v))) (q : Q v (vs, H)) : wpG w S (StF B L ns) A (loadName env n) Q (vs, H) := fun h tk s => by
  obtain ⟨o, ho, hd⟩ := s.st.own c _ hc
  rcases e.kind with k | k
  · exact wpAny_loadName_cell l.lcl.kind k e.look ⟨o, ho, hd⟩ ⟨h, tk, _, rfl, s, q⟩
  · exact wpAny_loadName_free l.lcl.kind k e.look ⟨o, ho, hd⟩ ⟨h, tk, _, rfl, s, q⟩ e.dct
theorem f_cell {Q : Value → Fst → Prop} (l : Fn env L ns) (e : Cel env n c) (hc : H c = some (cel (some v))) (q : Q v (vs, H)) : wpG w S (StF B L ns) A (eval (.Name n pos) env) Q (vs, H) :=
  e_name e.dbg (n_cell l e hc q)
theorem f_cellset {Q : Unit → Fst → Prop} (l : Fn env L ns) (e : Cel env n c) (ek : env.kindOf n = some .cell) (hc : H c = some (cel v0)) (q : Q () (vs, upd H c (cel (some v)))) : wpG w S (StF B L ns) A (storeName env n v) Q (vs, H) := fun h tk s => by
  obtain ⟨o, ho, hd⟩ := s.st.own c _ hc
  refine wpAny_storeName_cell l.lcl.kind ek e.look ⟨o, ho, hd⟩ fun h' hc' hs => ⟨h', tk, _, rfl, s.set (i := cel (some v)) hc hs (let ⟨o, ho, hd⟩ := hc'; ⟨o, ho, hd⟩), q⟩

theorem Cel.of {cs : Scope} {cl : List (Str × Addr)} (hsc : env.scope = cs) (hcl : env.cells = cl) (k : cs.names.lookup n = some .cell) (e : cl.lookup n = some c) (hd : (n == ("__debug__" : Str)) = false := by decide +kernel) (hc : (n == ("__classdict__" : Str)) = false := by decide +kernel) : Cel env n c :=
  ⟨.inl (by unfold Env.kindOf; rw [hsc]; exact k), by rw [hcl]; exact e, hd, hc⟩
theorem lookup_relabel_free {env : Env} : ∀ {names : List (Str × NameKind)} {x : Str}, names.lookup x = some .free →
    (names.map fun (n, k) => if (k == NameKind.free && env.scope.kind == .function && env.kindOf n == some .cell) then (n, NameKind.cell) else (n, k)).lookup x = some .cell ∨
    (names.map fun (n, k) => if (k == NameKind.free && env.scope.kind == .function && env.kindOf n == some .cell) then (n, NameKind.cell) else (n, k)).lookup x = some .free
  | [], _, h => by simp at h
  | (n, k) :: r, x, h => by
    have ih := @lookup_relabel_free env r x
    show List.lookup x ((if (k == NameKind.free && env.scope.kind == .function && env.kindOf n == some .cell) = true then (n, NameKind.cell) else (n, k)) :: _) = _ ∨ List.lookup x ((if (k == NameKind.free && env.scope.kind == .function && env.kindOf n == some .cell) = true then (n, NameKind.cell) else (n, k)) :: _) = _
    cases hx : x == n with
    | true =>
      simp only [List.lookup_cons, hx] at h
      cases h
      by_cases hc : (NameKind.free == NameKind.free && env.scope.kind == .function && env.kindOf n == some .cell) = true
      · rw [if_pos hc]; left; simp [List.lookup_cons, hx]
      · rw [if_neg hc]; right; simp [List.lookup_cons, hx]
    | false =>
      simp only [List.lookup_cons, hx] at h
      by_cases hc : (k == NameKind.free && env.scope.kind == .function && env.kindOf n == some .cell) = true
      · rw [if_pos hc]; simp only [List.lookup_cons, hx]; exact ih h
      · rw [if_neg hc]; simp only [List.lookup_cons, hx]; exact ih h
theorem Cel.comp {scope : Scope} {cl : List (Str × Addr)} {C : Addr} (k : scope.names.lookup n = some .free) (e : cl.lookup n = some c) (hd : (n == ("__debug__" : Str)) = false := by decide +kernel) (hc : (n == ("__classdict__" : Str)) = false := by decide +kernel) : Cel (compEnvC scope cl C env) n c :=
  ⟨lookup_relabel_free k, e, hd, hc⟩
theorem clos_of {cl cl' : List (Str × Addr)} {scope : Scope} (hcl : env.cells = cl) (e : ∀ env' : Env, env'.cells = cl → closureFor scope env' = pure cl') : closureFor scope env = pure cl' := e env hcl

/-- the cells of a call, laid in from address a on -/
def cellsH (H : HM) : Addr → List (Str × Option Value) → HM
  | _, [] => H
  | a, (_, v) :: r => upd (cellsH H (a + 1) r) a (cel v)
def CellsRec (names : List (Str × NameKind)) (L : Addr) (cm : Str → Option Value) : Addr → List (Str × Option Value) → Prop
  | _, [] => True
  | a, (n, v) :: r => ((cellsFrom (L + 1) names []).lookup n = some a ∧ cm n = v) ∧ CellsRec names L cm (a + 1) r
theorem cellsH_off {H : HM} {a : Addr} : ∀ {cls : List (Str × Option Value)} {b : Addr}, b < a → cellsH H a cls b = H b
  | [], _, _ => rfl
  | (_, _) :: r, b, h => by
    unfold cellsH
    rw [upd_ne (Nat.ne_of_lt h)]
    exact cellsH_off (Nat.lt_succ_of_lt h)
theorem bindL_filter {K : Str → Option NameKind} : ∀ {binds : List (Str × Value)} {m : Str → Option Value}, bindL K binds m = bindL K (binds.filter fun p => K p.1 == some .local) m
  | [], m => rfl
  | (n, v) :: r, m => by
    rw [List.filter_cons]
    by_cases h : K n = some .local
    · rw [if_pos (by simp [h])]
      unfold bindL
      rw [if_pos h]
      exact bindL_filter
    · rw [if_neg (by simp [h])]
      unfold bindL
      rw [if_neg h, bindL_filter]
      cases r.filter (fun p => K p.1 == some .local) <;> rfl
theorem bindL_lookup {K : Str → Option NameKind} : ∀ {binds : List (Str × Value)} {m : Str → Option Value} {y : Str}, (∀ p ∈ binds, K p.1 = some .local) → (binds.map (·.1)).Nodup → bindL K binds m y = (binds.lookup y).or (m y)
  | [], m, y, _, _ => by simp [bindL]
  | (n, v) :: r, m, y, h, nd => by
    unfold bindL
    rw [if_pos (h _ List.mem_cons_self), bindL_lookup (fun p hp => h p (List.mem_cons_of_mem _ hp)) (List.nodup_cons.mp nd).2, List.lookup_cons]
    by_cases hy : y = n
    · subst hy
      have : r.lookup y = none := by
        rw [List.lookup_eq_none_iff]
        intro p hp
        have : y ≠ p.1 := fun e => (List.nodup_cons.mp nd).1 (List.mem_map.mpr ⟨p, hp, e.symm⟩)
        simpa using this
      rw [this]; simp
    · have : (y == n) = false := beq_eq_false_iff_ne.mpr hy
      rw [this, if_neg hy]
/-- entering a function of the program's top that keeps cells -/
theorem enterC {f : Addr} {fname qual : Str} {params : Arguments} {body : List Stmt} {cs : Scope} {dV kV doc pm cdv ct oc : Value} {an od : Option Addr} {osl : Array (Option Value)} {argv : List Value} {ns : List Str} {Q : Result → HM → Prop}
    {n : Nat} (b : BaseOk w B) (hA : Room A (n + 1)) (o : Obj) (us : List Value) (binds : List (Str × Value)) (cls : List (Str × Option Value)) (ho : (KK w.params).lookup f = some o) (hfd : o = ⟨oc, od, .func (fnOf fname qual params body cs dV kV doc pm an cdv ct), osl⟩) (hcd : codeIn (KK w.params) cdv qual = true)
    (l : Lcl cs ns) (hbind : bindArgs (fnOf fname qual params body cs dV kV doc pm an cdv ct) ⟨argv, []⟩ = pure binds)
    (hloc : (binds.filter fun p => cs.names.lookup p.1 == some .local) = (ns.take us.length).zip us) (hus : us.length ≤ ns.length)
    (hkind : ∀ L, ∀ x ∈ binds, cs.names.lookup x.1 = some .local ∨ (cs.names.lookup x.1 = some .cell ∧ ((cellsFrom (L + 1) cs.names []).lookup x.1).isSome = true))
    (hcells : ∀ L, CellsRec cs.names L (bindC (fun y => cs.names.lookup y) binds fun _ => none) (L + 1) cls)
    (hco : cs.isCoroutine = false) (hgen : cs.isGenerator = false)
    (y : ∀ A' L env, Room A' n → Fn env L ns → env.scope = cs → env.cells = cellsFrom (L + 1) cs.names [] → env.code = cdv → env.qual = qual ++ ".<locals>." → (∀ i, H (L + i) = none ∧ B (L + i) = none) → wpG w S (StF B L ns) A' (execs body env) (fun fl x1 => Q (.ok (.ret (retOf fl))) x1.2) (vals ns us, cellsH H (L + 1) cls)) :
    codeG w S (St B) A (.call (.ref f) ⟨argv, []⟩) Q H := fun h tk s => by
  have X := b.kin h s.base
  obtain ⟨mg, mb, t, _⟩ := b.top
  have hk := zip_keys hus
  refine codeAny_call_cells hA.d (X _ _ ho) (by rw [hfd]) (t h s.base).2.2 (codeRec_of X hcd) rfl hbind rfl (hkind _) (fun s₁ x => ?_) hco hgen l.kind
  obtain ⟨h₁, tk₁, rfl⟩ := x.toInCall.same
  have fr : ∀ i, H (h.objs.size + i) = none ∧ B (h.objs.size + i) = none := fun i => by
    constructor
    · cases e : H (h.objs.size + i) with
      | none => rfl
      | some j => exact absurd (s.own.lt e) (Nat.not_lt.mpr (Nat.le_add_right _ _))
    · cases e : B (h.objs.size + i) with
      | none => rfl
      | some j => exact absurd (s.base.lt e) (Nat.not_lt.mpr (Nat.le_add_right _ _))
  have hL0 := (fr 0).1
  have s0 : St B H h₁ := s.keeps x.toInCall.keep
  have s1 : ∀ (cls : List (Str × Option Value)) (a : Addr), h.objs.size < a → CellsRec cs.names h.objs.size (bindC (fun y => cs.names.lookup y) binds fun _ => none) a cls → St B (cellsH H a cls) h₁ := by
    intro cls
    induction cls with
    | nil => intro _ _ _; exact s0
    | cons p r ih =>
      intro a ha hr
      obtain ⟨n, v⟩ := p
      obtain ⟨⟨e1, e2⟩, hr⟩ := hr
      have := ih (a + 1) (Nat.lt_succ_of_lt ha) hr
      refine this.put (i := cel v) (fun _ _ _ e => e) ?_ ?_
      · have hc := x.cell n a e1
        obtain ⟨o, ho, hd⟩ := hc
        exact ⟨o, ho, hd.trans (congrArg Data.cell e2)⟩
      · obtain ⟨k, rfl⟩ := Nat.exists_eq_add_of_lt ha
        exact (fr (k + 1)).2
  have s2 : StF B h.objs.size ns (vals ns us, cellsH H (h.objs.size + 1) cls) h₁ := by
    refine ⟨s1 cls _ (Nat.lt_succ_self _) (hcells _), ?_, ?_, (fr 0).2⟩
    · obtain ⟨o, es, ep, e1, e2, e3, e4⟩ := x.toInCall.ns
      refine ⟨o, es, ep, e1, e2, e3, fun z => (e4 z).trans ?_⟩
      have e5 := bindL_filter (K := fun y => cs.names.lookup y) (binds := binds) (m := fun _ => none)
      have e6 : bindL (fun y => cs.names.lookup y) binds (fun _ => none) z = ((ns.take us.length).zip us).lookup z := by
        rw [e5]
        have e7 : (binds.filter fun p => (fun y => cs.names.lookup y) p.1 == some .local) = (ns.take us.length).zip us := hloc
        rw [e7, bindL_lookup]
        · simp
        · intro p hp
          exact l.loc _ (List.mem_of_mem_take (by rw [← hk]; exact List.mem_map_of_mem hp))
        · rw [hk]; exact List.Nodup.sublist (List.take_sublist _ _) l.nd
      exact e6.trans (locMap_vals hus).symm
    · exact (cellsH_off (Nat.lt_succ_self _)).trans hL0
  refine wpAny_mono (y _ h.objs.size _ hA.deeper ⟨rfl, rfl, rfl, l⟩ rfl rfl rfl rfl fr h₁ _ s2) (fun fl s' ⟨h', t', x', e, s2, q⟩ => ?_) fun _ _ e => e.elim
  subst e
  exact ⟨h', t', x'.2, rfl, s2.st, by cases fl <;> exact q⟩
end
end Mine
end
/-! part H10 -/
section
open PySem PySem.W PySem.Calls PyProof.Rows
set_option maxRecDepth 100000
set_option maxHeartbeats 4000000
set_option linter.unusedVariables false
namespace Mine
section
variable {w : World} {S : Shared} {B : HM} {A : Around} {H : HM} {L : Addr} {ns : List Str} {vs : List (Option Value)} {l x lx : Addr} {env : Env} {pos : Pos}
/-- a list's whole slice is set to another list's items -/
theorem si_slice {us ys : List Value} {sl r : Addr} {Q : Unit → Fst → Prop} (hl : H l = some (.lst us)) (hs : H sl = some (.obj (sliO .none .none .none))) (hr : H r = some (.lst ys)) (hz : us.length + ys.length ≤ sizeLine) (hlr : l ≠ r)
    (q : Q () (vs, upd H l (.lst ys))) : wpG w S (StF B L ns) A (setItem (.ref l) (.ref sl) (.ref r)) Q (vs, H) := fun h tk s => by
  obtain ⟨n, ho⟩ := s.st.own l _ hl
  obtain ⟨m, hr⟩ := s.st.own r _ hr
  have hos : h.get? sl = some (sliO .none .none .none) := s.st.own sl _ hs
  have hT : (at' S h tk).TypeIs (.ref l) "list" := ⟨_, ho, rfl⟩
  have hTr : (at' S h tk).TypeIs (.ref r) "list" := ⟨_, hr, rfl⟩
  have hTs : (at' S h tk).TypeIs (.ref sl) "slice" := ⟨_, hos, rfl⟩
  unfold setItem
  try with_reducible refine wpAny_holding ?_
  first | refine wpAny_bind (wpAny_pure ?_) | skip
  refine wpAny_bind (wpAny_sequenceKey hT (by decide) ?_)
  refine wpAny_bind (wpAny_callSpecial?_slot (name := Str.ofString "__setitem__") hT slot_list_setitem
    (wpAny_call_entry slot_list_setitem hT entry_list_setitem ?_ (args_list_setitem _ _ _)))
  show wpAny _ _ (Builtin.List.listSubscript? (.ref sl) >>= _) _ _ _
  refine wpAny_bind ?_
  unfold Builtin.List.listSubscript?
  refine wpAny_bind (wpAny_specialOf hTs slice_no_index ?_)
  simp only [Option.isNone_none, if_true]
  refine wpAny_pure ?_
  show wpAny _ _ (typeOf (.ref sl) >>= _) _ _ _
  refine wpAny_bind (wpAny_typeOf hTs ?_)
  rw [if_neg (by decide)]
  rw [listSliceParts_eq]
  refine wpAny_bind (wpAny_bind (wpAny_field hos rfl (x := .none) rfl (wpAny_bind (wpAny_listPart .none ?_))))
  rw [if_neg (by decide)]
  refine wpAny_bind (wpAny_field hos rfl (x := .none) rfl (wpAny_bind (wpAny_listPart .none ?_)))
  refine wpAny_bind (wpAny_field hos rfl (x := .none) rfl (wpAny_bind (wpAny_listPart .none (wpAny_pure ?_))))
  rw [show Builtin.List.listSameRef (.ref l) (.ref r) = false from beq_eq_false_iff_ne.mpr hlr]
  simp only [Bool.false_eq_true, if_false]
  refine wpAny_bind (m := Builtin.List.listAllItems (.ref r) _) ?_
  unfold Builtin.List.listAllItems
  refine wpAny_bind (wpAny_typeOf hTr ?_)
  rw [if_pos (by decide)]
  refine wpAny_bind (wpAny_seqItems hr rfl (wpAny_pure ?_))
  refine wpAny_bind (wpAny_listItems ho rfl ?_)
  refine wpAny_bind (wpAny_of_eq (sliceIndices_raw none none none us.toArray.size (by simp)) ?_)
  have e0 : (sliceBounds none none none us.toArray.size) = (0, (us.toArray.size : Int), 1) := by simp [sliceBounds]
  rw [e0]
  show wpAny _ _ (rule _ >>= _) _ _ _
  refine wpAny_bind (wpAny_rule ?_)
  rw [if_neg (by simp [Builtin.List.listTooLong]; exact hz)]
  refine wpAny_bind (m := Builtin.List.listUpdate (.ref l) _) ?_
  have hfin : (h.update l (Obj.mapSeq fun xs => xs.extract 0 (0 : Int).toNat ++ ys.toArray ++ xs.extract (max (0 : Int) (us.toArray.size : Int)).toNat xs.size)).PlainList l ys.toArray := by
    by_cases he : ys.length = us.length
    · refine ⟨n, ?_⟩
      rw [Heap.get?_update_self _ ho (by simp [Obj.mapSeq, Obj.isFreed])]
      simp [Obj.mapSeq, he]
    · refine ⟨n + 1, ?_⟩
      rw [Heap.get?_update_self _ ho (by simp [Obj.mapSeq, Obj.isFreed])]
      simp [Obj.mapSeq, he]
  refine wpAny_updateSeq ho rfl ?_ (by simp; (exact Nat.le_trans (Nat.le_add_right _ _) hz)) (by simp; (exact Nat.le_trans (Nat.le_add_left _ _) (Nat.le_succ_of_le hz)))
  refine wpAny_bind (wpAny_letGo ?_)
  have fin : PostG S (StF B L ns) Q () (at' S (h.update l (Obj.mapSeq fun xs => xs.extract 0 (0 : Int).toNat ++ ys.toArray ++ xs.extract (max (0 : Int) (us.toArray.size : Int)).toNat xs.size)) tk) := ⟨_, tk, (vs, upd H l (.lst ys)), rfl, s.set hl (Heap.SameBut.update ..) hfin, q⟩
  first
    | exact wpAny_bind (wpAny_pure (wpAny_pure ⟨.none, rfl, wpAny_pure fin⟩))
    | exact wpAny_pure ⟨.none, rfl, wpAny_pure fin⟩
end
end Mine
end
/-! part H11 -/
section
open PySem PySem.W PySem.Calls PyProof.Rows
set_option maxRecDepth 100000
set_option maxHeartbeats 4000000
set_option linter.unusedVariables false
namespace Mine
section
variable {w : World} {S : Shared} {B : HM} {A : Around} {H : HM} {L : Addr} {ns : List Str} {vs : List (Option Value)} {l x lx : Addr} {env : Env} {pos : Pos}
theorem x_setsub {o i : Expr} {p2 : Pos} {value : Expr} {Q : Flow → Fst → Prop} {x : Fst} (y : wpG w S (StF B L ns) A (eval value env) (fun v x1 => wpG w S (StF B L ns) A (eval o env) (fun ov x2 => wpG w S (StF B L ns) A (eval i env) (fun iv x3 => wpG w S (StF B L ns) A (setItem ov iv v) (fun _ => Q .next) x3) x2) x1) x)
    (hs : swapsWith value (some (.Subscript o i p2)) pos.line env = pure false := by rfl) : wpG w S (StF B L ns) A (exec (.Assign [.Subscript o i p2] value pos) env) Q x := fun h tk s =>
  wpAny_Assign_Subscript (lift y s fun v x1 h1 t1 q1 s1 => lift q1 s1 fun ov x2 h2 t2 q2 s2 => lift q2 s2 fun iv x3 h3 t3 q3 s3 => q3 h3 t3 s3) hs
theorem Hdr.off {H H' : HM} (d : Hdr H x lx) (k : Sub H H') : Hdr H' x lx := d.mono k
abbrev ssSelf : Str := ⟨#[115, 101, 108, 102]⟩
abbrev ssName : Str := ⟨#[110, 97, 109, 101]⟩
def pickR (refs : List Addr) (tab : List (Nat × Nat)) (c : Nat) : List Addr := ((refs.zip tab).filter fun p => p.2.1 != c).map (·.1)
theorem delitem_spec {refs : List Addr} {tab : List (Nat × Nat)} {c : Nat} {t : Tok} {Q : Result → HM → Prop} (b : BaseOk w B) (hA : Room A 20) (d : Hdr H x lx) (T : TabAt H lx refs tab) (hk : ∀ e ∈ tab, e.1 ∈ hourC) (hc : c ∈ hourC) (hz : refs.length ≤ 1000)
    (q : Q (.ok (.ret .none)) (upd H lx (.lst ((pickR refs tab c).map .ref)))) : codeG w S (St B) A (.call (.ref 129) ⟨[.ref x, .str ⟨#[c]⟩ t], []⟩) Q H := by
  refine enterC b hA (hd.zo_133 w.params) [.ref x] [(ssSelf, .ref x), (ssName, .str ⟨#[c]⟩ t)] [(ssName, some (.str ⟨#[c]⟩ t))] (by kernel_rfl) rfl (by kernel_rfl) (ns := [ssSelf]) ⟨rfl, by decide +kernel, by decide +kernel, by decide +kernel⟩ rfl rfl (Nat.le_of_ble_eq_true rfl) ?_ ?_ rfl rfl ?_
  · intro L y hy
    simp only [List.mem_cons, List.not_mem_nil, or_false] at hy
    rcases hy with rfl | rfl
    · exact .inl rfl
    · exact .inr ⟨rfl, rfl⟩
  · intro L
    exact ⟨⟨rfl, rfl⟩, trivial⟩
  intro A1 L env hA1 f hsc hcl hco hql hfr
  replace hcl : env.cells = [(ssName, L + 1)] := hcl
  have eN : Cel env ssName (L + 1) := .of hsc hcl rfl rfl
  have hn : H (L + 1) = none := (hfr 1).1
  have hBn : B (L + 1) = none := (hfr 1).2
  have hlx : lx ≠ L + 1 := by first | exact nn hn (T.1) | exact Ne.symm (nn hn (T.1)) | exact nn (T.1) hn | exact Ne.symm (nn (T.1) hn) | (rintro rfl; rw [T.1] at hn; cases hn)
  show wpG w S (StF B L [ssSelf]) A1 _ _ (_, upd H (L + 1) (cel (some (.str ⟨#[c]⟩ t))))
  refine x_cons (x_assign ?_)
  refine e_meth rfl (f_local f 0 rfl rfl ?_)
  refine g_meth b (d.mono (Sub.new hn)) (f := 110) (by kernel_rfl) (by kernel_rfl) (by decide +kernel) ?_
  refine c_with rfl ?_
  refine a_kw (s_cons ?_)
  refine e_meth rfl (f_cell f eN upd_same (m_lower ?_))
  refine c_with rfl (a_nil ⟨Keep.builtin, ?_⟩)
  refine b_lower hc fun t1 => ?_
  refine s_nil (k_tree (e_bool ⟨Keep.fn b (by kernel_rfl), ?_⟩))
  refine conv_call b (hA1.mono (by exact Nat.le_add_left _ _)) (nm := true) hc ?_
  refine f_cellset f eN (by unfold Env.kindOf; rw [hsc]; rfl) upd_same ?_
  rw [upd_upd]
  have d1 : Hdr (upd H (L + 1) (cel (some (.str ⟨#[c]⟩ t1)))) x lx := d.mono (Sub.new hn)
  obtain ⟨Tl, Tn, Te⟩ := T
  have Tl1 : upd H (L + 1) (cel (some (.str ⟨#[c]⟩ t1))) lx = some (.lst (refs.map .ref)) := upd_old hn Tl
  refine x_cons (x_setsub ?_)
  refine e_comp (cns := [⟨#[107, 118]⟩]) (cl := [(ssName, L + 1)]) f (by unfold closureFor cellOf; rw [hcl]; rfl) ?_ rfl ?_ ?_ ?_
  · decide +kernel
  · decide +kernel
  · exact ⟨rfl, by decide +kernel, by intro y hy; simp at hy; subst hy; rfl, by decide +kernel⟩
  refine e_attr (f_local f 0 rfl rfl (g_headers b d1 ?_)) rfl
  refine i_list Tl1 fun I hI hBI hIl => ?_
  refine ⟨I, _, upd H (L + 1) (cel (some (.str ⟨#[c]⟩ t1))), (refs.map Value.ref).length, fun i v => (refs.map Value.ref)[i]? = some v, itL lx, fun H => H lx = some (.lst (refs.map .ref)), fun i ys => ys = (pickR (refs.take i) (tab.take i) c).map .ref, rfl, rfl, hI, ?_⟩
  refine ⟨fun C => iter_list hA1.hand (refs.map .ref) hIl, fun X k => k _ _ Tl1, fun i ys h => ?_, ?_, ?_, rfl, ?_, ?_⟩
  · subst h
    rw [List.length_map]
    unfold pickR
    rw [List.length_map]
    refine Nat.le_trans (List.length_filter_le _ _) ?_
    rw [List.length_zip, List.length_take, List.length_take]; (exact Nat.le_trans (Nat.min_le_left _ _) (Nat.min_le_left _ _))
  · rw [List.length_map]; show refs.length ≤ 16777216; (exact Nat.le_trans hz (Nat.le_add_left _ _))
  · intro i v hv; trivial
  · intro D C hD hBD hDI hL hLD hLI fc i v ys cvs hi hv hJ hcv
    subst hJ
    match cvs, hcv with
    | [u0], _ =>
    rw [List.getElem?_map] at hv
    obtain ⟨r, hr, rfl⟩ := Option.map_eq_some_iff.mp hv
    have hit : i < tab.length := by rw [← Tn]; exact (List.getElem?_eq_some_iff.mp hr).1
    have hir : i < refs.length := (List.getElem?_eq_some_iff.mp hr).1
    have her : refs[i] = r := (List.getElem?_eq_some_iff.mp hr).2
    obtain ⟨t2, t3, hrt⟩ := Te i r tab[i] hr (List.getElem?_eq_getElem hit)
    have nL : L ≠ L + 1 := Nat.ne_of_lt (Nat.lt_succ_self _)
    have gen : ∀ {b : Addr} {j : Item} {ys : List Value} {k : Nat}, upd H (L + 1) (cel (some (.str ⟨#[c]⟩ t1))) b = some j → Hc (upd (upd H (L + 1) (cel (some (.str ⟨#[c]⟩ t1)))) L (.loc [ssSelf] [some (.ref x)])) I D (itL lx) k ys b = some j := by
      intro b j ys k e
      have e1 : b ≠ D := by first | exact nn e (hD) | exact Ne.symm (nn e (hD)) | exact nn (hD) e | exact Ne.symm (nn (hD) e) | (rintro rfl; rw [hD] at e; cases e)
      have e2 : b ≠ I := by first | exact nn e (hI) | exact Ne.symm (nn e (hI)) | exact nn (hI) e | exact Ne.symm (nn (hI) e) | (rintro rfl; rw [hI] at e; cases e)
      have e3 : b ≠ L := by first | exact nn e (hL) | exact Ne.symm (nn e (hL)) | exact nn (hL) e | exact Ne.symm (nn (hL) e) | (rintro rfl; rw [hL] at e; cases e)
      unfold Hc
      exact (upd_ne e1).trans ((upd_ne e2).trans ((upd_ne e3).trans e))
    have hstep : (pickR (refs.take (i + 1)) (tab.take (i + 1)) c).map Value.ref = (pickR (refs.take i) (tab.take i) c).map Value.ref ++ (if tab[i].1 = c then [] else [Value.ref r]) := by
      unfold pickR
      rw [List.take_add_one, List.take_add_one, List.getElem?_eq_getElem hit, hr]
      rw [List.zip_append (by rw [List.length_take, List.length_take]; (rw [Tn]))]
      rw [List.filter_append, List.map_append, List.map_append]
      by_cases he : tab[i].1 = c <;> simp [he]
    refine t_name fc 0 rfl (Nat.le_of_ble_eq_true rfl) ?_
    refine tests_one (t_cmp ?_)
    refine e_meth rfl (e_sub (f_local fc 0 rfl rfl (e_int fun t5 => ?_)))
    refine tl_tup (gen (upd_old hn hrt)) (by decide) (by decide) (Nat.le_of_ble_eq_true rfl) rfl (m_lower ?_)
    refine c_with rfl (a_nil ⟨Keep.builtin, ?_⟩)
    refine b_lower (hk _ (List.getElem_mem hit)) fun t4 => ?_
    refine f_cell fc (.comp rfl rfl) (gen upd_same) (c_nes (t_bool ?_))
    rw [show ((⟨#[tab[i].1]⟩ : Str) != ⟨#[c]⟩) = !(tab[i].1 == c) from congrArg _ (chr_eq _ _)]
    by_cases he : tab[i].1 = c
    · rw [beq_iff_eq.mpr he]
      rw [if_pos he, List.append_nil] at hstep
      simp only [Bool.not_true, Bool.false_eq_true, if_false]
      exact ⟨hstep.symm, rfl, Sub.refl⟩
    · rw [beq_eq_false_iff_ne.mpr he]
      rw [if_neg he] at hstep
      simp only [Bool.not_false, if_true]
      refine f_local fc 0 rfl rfl ?_
      exact ⟨hstep.symm, rfl, Sub.refl⟩
  · intro D ys hD hBD hJ
    have hDn : D ≠ L + 1 := by first | exact nn hD (upd_same) | exact Ne.symm (nn hD (upd_same)) | exact nn (upd_same) hD | exact Ne.symm (nn (upd_same) hD) | (rintro rfl; rw [upd_same] at hD; cases hD)
    have hDlx : lx ≠ D := by first | exact nn hD (Tl1) | exact Ne.symm (nn hD (Tl1)) | exact nn (Tl1) hD | exact Ne.symm (nn (Tl1) hD) | (rintro rfl; rw [Tl1] at hD; cases hD)
    have hHD : H D = none := by rw [upd_ne hDn] at hD; exact hD
    rw [List.length_map, List.take_length, Tn, List.take_length] at hJ
    subst hJ
    have s1 : Sub (upd H (L + 1) (cel (some (.str ⟨#[c]⟩ t1)))) (upd (upd H (L + 1) (cel (some (.str ⟨#[c]⟩ t1)))) D (.lst ((pickR refs tab c).map .ref))) := Sub.new hD
    refine e_attr (f_local f 0 rfl rfl (g_headers b (d1.mono s1) ?_)) rfl
    refine e_sli (p_none (p_none (p_none fun sl h1 h2 => ?_)))
    refine si_slice (us := refs.map .ref) (ys := (pickR refs tab c).map .ref) (upd_old h1 (s1 _ _ Tl1)) upd_same (upd_old h1 upd_same) ?_ hDlx ?_
    · rw [List.length_map, List.length_map]
      have : (pickR refs tab c).length ≤ refs.length := by
        unfold pickR
        rw [List.length_map]
        refine Nat.le_trans (List.length_filter_le _ _) ?_
        rw [List.length_zip]; (exact Nat.min_le_left _ _)
      show _ ≤ 16777216
      (exact sm2 hz (Nat.le_trans this hz) (Nat.le_add_left _ _))
    · exact wpF_weaken (H' := upd H lx (.lst ((pickR refs tab c).map .ref))) (x_nil q) (Sub.upd ((Sub.new hn).trans (s1.trans (Sub.new h1))))
/-- what is left is the table without the struck key -/
theorem pickR_tab {refs : List Addr} {tab : List (Nat × Nat)} {c : Nat} (T : TabAt H lx refs tab) : TabAt (upd H lx (.lst ((pickR refs tab c).map .ref))) lx (pickR refs tab c) (tab.filter fun e => e.1 != c) := by
  obtain ⟨Tl, Tn, Te⟩ := T
  have key : ∀ (refs : List Addr) (tab : List (Nat × Nat)), refs.length = tab.length → pickR refs tab c = (((refs.zip tab).filter fun p => p.2.1 != c).map (·.1)) ∧ (tab.filter fun e => e.1 != c) = (((refs.zip tab).filter fun p => p.2.1 != c).map (·.2)) := by
    intro refs
    induction refs with
    | nil => intro tab h; cases tab with
      | nil => exact ⟨rfl, rfl⟩
      | cons a r => cases h
    | cons r rs ih => intro tab h; cases tab with
      | nil => cases h
      | cons a tb =>
        refine ⟨rfl, ?_⟩
        have := (ih tb (by simpa using h)).2
        rw [List.filter_cons, List.zip_cons_cons, List.filter_cons, this]
        dsimp only
        split <;> simp
  obtain ⟨k1, k2⟩ := key refs tab Tn
  refine ⟨upd_same, by rw [k1, k2, List.length_map, List.length_map], fun i r e h1 h2 => ?_⟩
  rw [k1, List.getElem?_map] at h1
  rw [k2, List.getElem?_map] at h2
  obtain ⟨p, hp, rfl⟩ := Option.map_eq_some_iff.mp h1
  rw [hp] at h2
  cases h2
  have hm := (List.mem_filter.mp (List.mem_of_getElem? hp)).1
  obtain ⟨j, hj⟩ := List.mem_iff_getElem?.mp hm
  rw [List.getElem?_zip_eq_some] at hj
  obtain ⟨t1, t2, ht⟩ := Te j p.1 p.2 hj.1 hj.2
  exact ⟨t1, t2, (upd_ne (by rintro e; rw [e, Tl] at ht; cases ht)).trans ht⟩
end
end Mine
end
/-! part H12 -/
section
open PySem PySem.W PySem.Calls PyProof.Rows
set_option maxRecDepth 100000
set_option maxHeartbeats 4000000
set_option linter.unusedVariables false
namespace Mine
section
variable {w : World} {S : Shared} {B : HM} {A : Around} {H : HM} {L : Addr} {ns : List Str} {vs : List (Option Value)} {l x lx : Addr} {env : Env} {pos : Pos}
theorem si_obj {i v : Value} {Q : Unit → Fst → Prop} (b : BaseOk w B) (d : Hdr H x lx) (q : wpG w S (StF B L ns) A (call (.ref 124) [.ref x, i, v]) (fun _ => Q ()) (vs, H)) : wpG w S (StF B L ns) A (setItem (.ref x) i v) Q (vs, H) := fun h tk s => by
  obtain ⟨dx, hsh, tk', I⟩ := hdr_inst d s.st
  have X := b.kin h s.st.base
  unfold setItem sequenceKey
  refine wpAny_holding (wpAny_bind (wpAny_bind (I.type.here ?_)))
  refine wpAny_bind ((anyM_none X (by kernel_rfl)).here ?_)
  rw [if_pos (show (!false) = true from rfl)]
  exact wpAny_pure (wpAny_bind (special_fn X I (by kernel_rfl) (by kernel_rfl) (wpAny_mono (q h tk s) (fun _ _ z => wpAny_pure z) fun _ _ z => z)))
theorem di_obj {i : Value} {Q : Unit → Fst → Prop} (b : BaseOk w B) (d : Hdr H x lx) (q : wpG w S (StF B L ns) A (call (.ref 129) [.ref x, i]) (fun _ => Q ()) (vs, H)) : wpG w S (StF B L ns) A (delItem (.ref x) i) Q (vs, H) := fun h tk s => by
  obtain ⟨dx, hsh, tk', I⟩ := hdr_inst d s.st
  have X := b.kin h s.st.base
  unfold delItem sequenceKey
  refine wpAny_holding (wpAny_bind (wpAny_bind (I.type.here ?_)))
  refine wpAny_bind ((anyM_none X (by kernel_rfl)).here ?_)
  rw [if_pos (show (!false) = true from rfl)]
  exact wpAny_pure (wpAny_bind (special_fn X I (by kernel_rfl) (by kernel_rfl) (wpAny_mono (q h tk s) (fun _ _ z => wpAny_pure z) fun _ _ z => z)))
theorem x_delsub {o i : Expr} {p2 : Pos} {Q : Flow → Fst → Prop} {x : Fst} (y : wpG w S (StF B L ns) A (eval o env) (fun ov x1 => wpG w S (StF B L ns) A (eval i env) (fun iv x2 => wpG w S (StF B L ns) A (delItem ov iv) (fun _ => Q .next) x2) x1) x) : wpG w S (StF B L ns) A (exec (.Delete [.Subscript o i p2] pos) env) Q x := fun h tk s =>
  wpAny_Delete (wpAny_deleteEach_cons (wpAny_delete_Subscript (lift y s fun ov x1 h1 t1 q1 s1 => lift q1 s1 fun iv x2 h2 t2 q2 s2 => lift q2 s2 fun u x3 h3 t3 q3 s3 => wpAny_deleteEach_nil ⟨h3, t3, x3, rfl, s3, q3⟩)))
theorem m_append {us : List Value} {pl : Sem Bool} {Q : Value × List Value → Fst → Prop} (hl : H l = some (.lst us)) (q : Q (.builtin "list.append", [.ref l]) (vs, H)) : wpG w S (StF B L ns) A (getMethod (.ref l) ⟨#[97, 112, 112, 101, 110, 100]⟩ pl) Q (vs, H) := fun h tk s => by
  obtain ⟨n, ho⟩ := s.st.own l _ hl
  rw [show (⟨#[97, 112, 112, 101, 110, 100]⟩ : Str) = Str.ofString "append" from by decide +kernel]
  exact getMethod_list_append ho rfl rfl ⟨h, tk, _, rfl, s, q⟩
abbrev ssVal : Str := ⟨#[118, 97, 108]⟩
theorem setitem_spec {refs : List Addr} {tab : List (Nat × Nat)} {c o : Nat} {t u : Tok} {Q : Result → HM → Prop} (b : BaseOk w B) (hA : Room A 30) (d : Hdr H x lx) (T : TabAt H lx refs tab) (hk : ∀ e ∈ tab, e.1 ∈ hourC) (hc : c ∈ hourC) (ho : o ∈ persC) (hz : refs.length ≤ 1000)
    (q : ∀ r, H r = none → B r = none → Q (.ok (.ret .none)) (upd (upd H r (.obj (tupO [.str ⟨#[c]⟩ t, .str ⟨#[o]⟩ u]))) lx (.lst ((pickR refs tab c ++ [r]).map .ref)))) :
    codeG w S (St B) A (.call (.ref 124) ⟨[.ref x, .str ⟨#[c]⟩ t, .str ⟨#[o]⟩ u], []⟩) Q H := by
  refine enter b hA (hd.zo_128 w.params) [.ref x, .str ⟨#[c]⟩ t, .str ⟨#[o]⟩ u] (by kernel_rfl) rfl (by kernel_rfl) (ns := [ssSelf, ssName, ssVal]) ⟨rfl, by decide +kernel, by decide +kernel, by decide +kernel⟩ (fun s X => BindsTo.of_eq rfl) (Nat.le_of_ble_eq_true rfl) rfl rfl (by decide +kernel) ?_
  intro A1 L env hA1 f hsc
  refine x_cons (x_delsub ?_)
  refine f_local f 0 rfl rfl (f_local f 1 rfl rfl (di_obj b d (f_fn fun hL => ?_)))
  have k0 : Sub H (upd H L (.loc [ssSelf, ssName, ssVal] (vals [ssSelf, ssName, ssVal] [.ref x, .str ⟨#[c]⟩ t, .str ⟨#[o]⟩ u]))) := Sub.new hL
  have Lne : L ≠ lx := ne_had hL T.1
  have hp : (pickR refs tab c).length ≤ refs.length := by
    unfold pickR
    rw [List.length_map]
    refine Nat.le_trans (List.length_filter_le _ _) ?_
    rw [List.length_zip]; (exact Nat.min_le_left _ _)
  refine delitem_spec b (hA1.mono (by exact Nat.le_add_left _ _)) (d.mono k0) ⟨k0 _ _ T.1, T.2.1, fun i r e h1 h2 => let ⟨t1, t2, h3⟩ := T.2.2 i r e h1 h2; ⟨t1, t2, k0 _ _ h3⟩⟩ hk hc hz ?_
  refine ⟨upd H lx (.lst ((pickR refs tab c).map .ref)), by rw [upd_swap Lne]; exact Sub.refl, upd_off hL Lne, _, rfl, ?_⟩
  have d1 : Hdr (upd H lx (.lst ((pickR refs tab c).map .ref))) x lx := d.lst T.1
  refine x_cons (x_expr (hi := by unfold interactive; rw [hsc]; rfl) ?_)
  refine e_meth rfl (e_attr (f_local f 0 rfl rfl (g_headers b d1 (m_append upd_same ?_))) rfl)
  refine c_with rfl ?_
  refine a_pos (s_cons ?_)
  refine e_tuple (k := 0) ?_
  refine s_cons ?_
  refine e_meth rfl (f_local f 0 rfl rfl (g_meth b d1 (f := 110) (by kernel_rfl) (by kernel_rfl) (by decide +kernel) ?_))
  refine c_with rfl ?_
  refine (a_kw (s_cons (f_local f 1 rfl rfl (s_nil (k_tree (e_bool ⟨Keep.fn b (by kernel_rfl), ?_⟩))))))
  refine conv_call b (hA1.mono (by exact Nat.le_add_left _ _)) (nm := true) hc ?_
  refine s_cons ?_
  refine e_meth rfl (f_local f 0 rfl rfl (g_meth b d1 (f := 110) (by kernel_rfl) (by kernel_rfl) (by decide +kernel) ?_))
  refine c_with rfl ?_
  refine (a_kw (s_cons (f_local f 2 rfl rfl (s_nil (k_tree (e_bool ⟨Keep.fn b (by kernel_rfl), ?_⟩))))))
  refine conv_call b (hA1.mono (by exact Nat.le_add_left _ _)) (nm := false) ho ?_
  refine s_nil ⟨Nat.le_of_ble_eq_true rfl, fun r h1 h2 => ?_⟩
  refine s_nil ⟨Keep.builtin, ?_⟩
  replace h1 : upd H lx (.lst ((pickR refs tab c).map .ref)) r = none := h1
  have rne : r ≠ lx := by first | exact nn h1 (upd_same) | exact Ne.symm (nn h1 (upd_same)) | exact nn (upd_same) h1 | exact Ne.symm (nn (upd_same) h1) | (rintro rfl; rw [upd_same] at h1; cases h1)
  refine f_append (us := (pickR refs tab c).map .ref) (upd_old h1 upd_same) (by rw [List.length_map]; show _ ≤ 16777216; (exact Nat.le_trans (Nat.le_trans hp hz) (Nat.le_add_left _ _))) ?_
  refine x_nil ?_
  have := q r (by rw [upd_ne rne] at h1; exact h1) h2
  rw [upd_swap (Ne.symm rne), upd_upd]
  rw [List.map_append] at this
  exact this
theorem pickR_put {refs : List Addr} {tab : List (Nat × Nat)} {c o : Nat} {r : Addr} {t u : Tok} (T : TabAt H lx refs tab) (hr : H r = none) : TabAt (upd (upd H r (.obj (tupO [.str ⟨#[c]⟩ t, .str ⟨#[o]⟩ u]))) lx (.lst ((pickR refs tab c ++ [r]).map .ref))) lx (pickR refs tab c ++ [r]) ((tab.filter fun e => e.1 != c) ++ [(c, o)]) := by
  have T1 := pickR_tab (c := c) T
  have hrl : r ≠ lx := by first | exact nn hr (T.1) | exact Ne.symm (nn hr (T.1)) | exact nn (T.1) hr | exact Ne.symm (nn (T.1) hr) | (rintro rfl; rw [T.1] at hr; cases hr)
  obtain ⟨Pl, Pn, Pe⟩ := T1
  refine ⟨upd_same, by simp [Pn], fun i r2 e h1 h2 => ?_⟩
  by_cases hi : i < (pickR refs tab c).length
  · rw [List.getElem?_append_left hi] at h1
    rw [List.getElem?_append_left (by rw [← Pn]; exact hi)] at h2
    obtain ⟨t1, t2, h3⟩ := Pe i r2 e h1 h2
    refine ⟨t1, t2, ?_⟩
    have n2 : r2 ≠ lx := by first | exact nn h3 (upd_same) | exact Ne.symm (nn h3 (upd_same)) | exact nn (upd_same) h3 | exact Ne.symm (nn (upd_same) h3) | (rintro rfl; rw [upd_same] at h3; cases h3)
    rw [upd_ne n2] at h3 ⊢
    have n3 : r2 ≠ r := by first | exact nn h3 (hr) | exact Ne.symm (nn h3 (hr)) | exact nn (hr) h3 | exact Ne.symm (nn (hr) h3) | (rintro rfl; rw [hr] at h3; cases h3)
    rw [upd_ne n3]; exact h3
  · have : i = (pickR refs tab c).length := by
      have := (List.getElem?_eq_some_iff.mp h1).1
      simp at this; (exact Nat.le_antisymm (Nat.le_of_lt_succ this) (Nat.le_of_not_lt hi))
    subst this
    rw [List.getElem?_append_right (Nat.le_refl _)] at h1
    rw [List.getElem?_append_right (by exact Nat.le_of_eq (Eq.symm Pn)), Pn] at h2
    simp at h1 h2
    subst h1 h2
    exact ⟨t, u, (upd_ne hrl).trans upd_same⟩
end
end Mine
end
/-! part H13 -/
section
open PySem PySem.W PySem.Calls PyProof.Rows
set_option maxRecDepth 100000
set_option maxHeartbeats 4000000
set_option linter.unusedVariables false
namespace Mine
/-! the books: a dict from the eight signs to Headers objects -/
abbrev Tabs := Nat → List (Nat × Nat)
def delT (T : Tabs) (p h : Nat) : Tabs := fun q => if q = p then (T p).filter (fun e => e.1 != h) else T q
def setT (T : Tabs) (p h o : Nat) : Tabs := fun q => if q = p then (T p).filter (fun e => e.1 != h) ++ [(h, o)] else T q
structure GoodT (T : Tabs) : Prop where
  key : ∀ p ∈ persC, ∀ e ∈ T p, e.1 ∈ hourC
  val : ∀ p ∈ persC, ∀ e ∈ T p, e.2 ∈ persC
  nd : ∀ p ∈ persC, ((T p).map (·.1)).Nodup
theorem nodup_len : ∀ {l m : List Nat}, l.Nodup → (∀ x ∈ l, x ∈ m) → l.length ≤ m.length
  | [], _, _, _ => Nat.zero_le _
  | a :: l, m, nd, h => by
    have hm := h a List.mem_cons_self
    have := nodup_len (l := l) (m := m.erase a) (List.nodup_cons.mp nd).2 fun x hx => by
      have hne : x ≠ a := by rintro rfl; exact (List.nodup_cons.mp nd).1 hx
      exact (List.mem_erase_of_ne hne).mpr (h x (List.mem_cons_of_mem _ hx))
    rw [List.length_erase_of_mem hm] at this
    have : 0 < m.length := List.length_pos_of_mem hm
    rw [List.length_cons]; omega
theorem GoodT.len {T : Tabs} (g : GoodT T) {p : Nat} (hp : p ∈ persC) : (T p).length ≤ 12 := by
  have h1 : ((T p).map (·.1)).length ≤ hourC.length := by
    refine nodup_len (g.nd p hp) fun x hx => ?_
    obtain ⟨e, he, rfl⟩ := List.mem_map.mp hx
    exact g.key p hp e he
  rw [List.length_map] at h1
  exact h1
theorem GoodT.del {T : Tabs} (g : GoodT T) (p h : Nat) : GoodT (delT T p h) := by
  refine ⟨fun q hq e he => ?_, fun q hq e he => ?_, fun q hq => ?_⟩ <;> unfold delT at *
  · split at he
    · rename_i z; subst z; exact g.key q hq e (List.mem_filter.mp he).1
    · exact g.key q hq e he
  · split at he
    · rename_i z; subst z; exact g.val q hq e (List.mem_filter.mp he).1
    · exact g.val q hq e he
  · split
    · rename_i z; subst z; exact List.Nodup.sublist (List.Sublist.map _ List.filter_sublist) (g.nd q hq)
    · exact g.nd q hq
theorem GoodT.set {T : Tabs} (g : GoodT T) {p h o : Nat} (hh : h ∈ hourC) (ho : o ∈ persC) : GoodT (setT T p h o) := by
  refine ⟨fun q hq e he => ?_, fun q hq e he => ?_, fun q hq => ?_⟩ <;> unfold setT at *
  · split at he
    · rename_i z; subst z
      rcases List.mem_append.mp he with he | he
      · exact g.key q hq e (List.mem_filter.mp he).1
      · simp at he; subst he; exact hh
    · exact g.key q hq e he
  · split at he
    · rename_i z; subst z
      rcases List.mem_append.mp he with he | he
      · exact g.val q hq e (List.mem_filter.mp he).1
      · simp at he; subst he; exact ho
    · exact g.val q hq e he
  · split
    · rename_i z; subst z
      rw [List.map_append, List.nodup_append]
      refine ⟨List.Nodup.sublist (List.Sublist.map _ List.filter_sublist) (g.nd q hq), by simp, fun a ha b hb => ?_⟩
      simp at hb; subst hb
      obtain ⟨e, he, rfl⟩ := List.mem_map.mp ha
      have := (List.mem_filter.mp he).2
      simpa using this
    · exact g.nd q hq
def persons : List Nat := [48, 49, 50, 51, 46, 97, 98, 99]
def kvsOf (xs : Nat → Addr) (ps : List Nat) : List (Str × Value) := ps.map fun p => (⟨#[p]⟩, Value.ref (xs p))
abbrev dct (w : World) (kvs : List (Str × Value)) : Item := .any fun o => o.IsDictOf (strKind PySem.Challenge.rw_sn0050_01.row.prog w) kvs
structure Books (w : World) (H : HM) (bk : Addr) (xs lxs : Nat → Addr) (T : Tabs) : Prop where
  dct : H bk = some (dct w (kvsOf xs persons))
  hdr : ∀ p ∈ persC, Hdr H (xs p) (lxs p)
  tab : ∀ p ∈ persC, ∃ refs, TabAt H (lxs p) refs (T p)
  inj : ∀ p ∈ persC, ∀ q ∈ persC, lxs p = lxs q → p = q
  good : GoodT T
def Frame (lxs : Nat → Addr) (H H' : HM) : Prop := ∀ a i, H a = some i → (∀ p ∈ persC, a ≠ lxs p) → H' a = some i
theorem Frame.refl {lxs : Nat → Addr} {H : HM} : Frame lxs H H := fun _ _ e _ => e
theorem Frame.trans {lxs : Nat → Addr} {X Y Z : HM} (a : Frame lxs X Y) (b : Frame lxs Y Z) : Frame lxs X Z := fun c i e n => b c i (a c i e n) n
theorem TabAt.move {H H' : HM} {l m : Addr} {refs : List Addr} {tab : List (Nat × Nat)} {us : List Value} (t : TabAt H l refs tab) (hm : H m = some (.lst us)) (k : ∀ a i, H a = some i → a ≠ m → H' a = some i) (n : l ≠ m) : TabAt H' l refs tab :=
  ⟨k _ _ t.1 n, t.2.1, fun i r e h1 h2 => let ⟨t1, t2, h3⟩ := t.2.2 i r e h1 h2; ⟨t1, t2, k _ _ h3 (by first | exact nn h3 (hm) | exact Ne.symm (nn h3 (hm)) | exact nn (hm) h3 | exact Ne.symm (nn (hm) h3) | (rintro rfl; rw [hm] at h3; cases h3))⟩⟩
theorem TabAt.mono {H H' : HM} {l : Addr} {refs : List Addr} {tab : List (Nat × Nat)} (t : TabAt H l refs tab) (k : Sub H H') : TabAt H' l refs tab :=
  ⟨k _ _ t.1, t.2.1, fun i r e h1 h2 => let ⟨t1, t2, h3⟩ := t.2.2 i r e h1 h2; ⟨t1, t2, k _ _ h3⟩⟩
section
variable {w : World} {S : Shared} {B : HM} {A : Around} {H H' : HM} {L bk : Addr} {ns : List Str} {vs : List (Option Value)} {xs lxs : Nat → Addr} {T T' : Tabs} {env : Env} {pos : Pos} {p c o : Nat} {t u : Tok}
theorem Books.mono (K : Books w H bk xs lxs T) (k : Sub H H') : Books w H' bk xs lxs T :=
  ⟨k _ _ K.dct, fun p hp => (K.hdr p hp).mono k, fun p hp => let ⟨r, t⟩ := K.tab p hp; ⟨r, t.mono k⟩, K.inj, K.good⟩
theorem Books.off (K : Books w H bk xs lxs T) {a : Addr} (ha : H a = none) (hp : p ∈ persC) : a ≠ lxs p := by
  obtain ⟨r, t⟩ := K.tab p hp
  rintro rfl; rw [t.1] at ha; cases ha
theorem Books.offLoc (K : Books w H bk xs lxs T) {a : Addr} {m : List Str} {z : List (Option Value)} (ha : H a = some (.loc m z)) (hp : p ∈ persC) : a ≠ lxs p := by
  obtain ⟨r, t⟩ := K.tab p hp
  rintro rfl; rw [t.1] at ha; cases ha
/-- a frame's part may be left away -/
theorem Books.era (K : Books w H bk xs lxs T) {m : List Str} {z : List (Option Value)} (hl : H L = some (.loc m z)) : Books w (era H L) bk xs lxs T := by
  have k : ∀ {a : Addr} {i : Item}, H a = some i → (∀ m z, i ≠ .loc m z) → Mine.era H L a = some i := by
    intro a i e n
    unfold Mine.era
    rw [if_neg (by first | exact nn e (hl) | exact Ne.symm (nn e (hl)) | exact nn (hl) e | exact Ne.symm (nn (hl) e) | (rintro rfl; rw [hl] at e; cases e); exact n _ _ rfl)]
    exact e
  refine ⟨k K.dct (by intro _ _ e; cases e), fun p hp => ?_, fun p hp => ?_, K.inj, K.good⟩
  · obtain ⟨dx, hsh, tk, a, b⟩ := K.hdr p hp
    exact ⟨dx, hsh, tk, k a (by intro _ _ e; cases e), k b (by intro _ _ e; cases e)⟩
  · obtain ⟨r, t⟩ := K.tab p hp
    exact ⟨r, k t.1 (by intro _ _ e; cases e), t.2.1, fun i r e h1 h2 => let ⟨t1, t2, h3⟩ := t.2.2 i r e h1 h2; ⟨t1, t2, k h3 (by intro _ _ e; cases e)⟩⟩
theorem Books.set (K : Books w H bk xs lxs T) {refs : List Addr} {r : Addr} (hp : p ∈ persC) (hc : c ∈ hourC) (ho : o ∈ persC) (tp : TabAt H (lxs p) refs (T p)) (hr : H r = none) :
    Books w (upd (upd H r (.obj (tupO [.str ⟨#[c]⟩ t, .str ⟨#[o]⟩ u]))) (lxs p) (.lst ((pickR refs (T p) c ++ [r]).map .ref))) bk xs lxs (setT T p c o) := by
  have k1 : Sub H (upd H r (.obj (tupO [.str ⟨#[c]⟩ t, .str ⟨#[o]⟩ u]))) := Sub.new hr
  have kk : ∀ a i, H a = some i → a ≠ lxs p → upd (upd H r (.obj (tupO [.str ⟨#[c]⟩ t, .str ⟨#[o]⟩ u]))) (lxs p) (.lst ((pickR refs (T p) c ++ [r]).map .ref)) a = some i := fun a i e n => (upd_ne n).trans (k1 _ _ e)
  refine ⟨kk _ _ K.dct ?_, fun q hq => ((K.hdr q hq).mono k1).lst (k1 _ _ tp.1), fun q hq => ?_, K.inj, K.good.set hc ho⟩
  · rintro e; have := K.dct; rw [e, tp.1] at this; cases this
  · by_cases z : q = p
    · subst z
      refine ⟨pickR refs (T q) c ++ [r], ?_⟩
      have := pickR_put (c := c) (o := o) (t := t) (u := u) tp hr
      unfold setT; rw [if_pos rfl]; exact this
    · obtain ⟨r2, t2⟩ := K.tab q hq
      refine ⟨r2, ?_⟩
      unfold setT; rw [if_neg z]
      exact t2.move tp.1 kk fun e => z (K.inj q hq p hp e)
theorem Books.del (K : Books w H bk xs lxs T) {refs : List Addr} (hp : p ∈ persC) (tp : TabAt H (lxs p) refs (T p)) :
    Books w (upd H (lxs p) (.lst ((pickR refs (T p) c).map .ref))) bk xs lxs (delT T p c) := by
  have kk : ∀ a i, H a = some i → a ≠ lxs p → upd H (lxs p) (.lst ((pickR refs (T p) c).map .ref)) a = some i := fun a i e n => (upd_ne n).trans e
  refine ⟨kk _ _ K.dct ?_, fun q hq => (K.hdr q hq).lst tp.1, fun q hq => ?_, K.inj, K.good.del p c⟩
  · rintro e; have := K.dct; rw [e, tp.1] at this; cases this
  · by_cases z : q = p
    · subst z
      refine ⟨pickR refs (T q) c, ?_⟩
      have := pickR_tab (c := c) tp
      unfold delT; rw [if_pos rfl]; exact this
    · obtain ⟨r2, t2⟩ := K.tab q hq
      refine ⟨r2, ?_⟩
      unfold delT; rw [if_neg z]
      exact t2.move tp.1 kk fun e => z (K.inj q hq p hp e)
theorem books_at {xs : Nat → Addr} : ∀ p ∈ persC, valueAt (kvsOf xs persons) (⟨#[p]⟩ : Str) = some (.ref (xs p)) := by
  intro p hp
  simp only [persC, List.mem_cons, List.not_mem_nil, or_false] at hp
  rcases hp with rfl | rfl | rfl | rfl | rfl | rfl | rfl | rfl <;> rfl
theorem gi_books {Q : Value → Fst → Prop} (K : Books w H bk xs lxs T) (hp : p ∈ persC) (q : Q (.ref (xs p)) (vs, H)) : wpG w S (StF B L ns) A (getItem (.ref bk) (.str ⟨#[p]⟩ t)) Q (vs, H) := fun h tk s => by
  obtain ⟨o, ho, hd⟩ := s.st.own bk _ K.dct
  exact wpAny_getItem_of (strKind_is _ _ _ _) (Heap.DictOf.mapOf (Heap.dictOf_iff.mpr ⟨o, ho, hd⟩)) (books_at p hp) ⟨h, tk + 1, _, rfl, s, q⟩
theorem tl_books {value slice : Expr} {Q : Value → Fst → Prop} (K : Books w H bk xs lxs T) (hp : p ∈ persC) (q : Q (.ref (xs p)) (vs, H))
    (hs : subscripted slice false (.ref bk) (.str ⟨#[p]⟩ t) = operate [.ref bk, .str ⟨#[p]⟩ t] (getItem (.ref bk) (.str ⟨#[p]⟩ t)) := by with_unfolding_all rfl) : wpG w S (StF B L ns) A (subscriptTail value slice (.ref bk) (.str ⟨#[p]⟩ t)) Q (vs, H) :=
  tl (T := "dict") (fun h tk s => by
    obtain ⟨o, ho, hd⟩ := s.st.own bk _ K.dct
    exact (Heap.DictOf.mapOf (Heap.dictOf_iff.mpr ⟨o, ho, hd⟩)).typeIs) slot_dict_getitem.lookup (gi_books K hp q) hs
theorem bk_set {Q : Unit → Fst → Prop} (b : BaseOk w B) (hA : Room A 40) (K : Books w H bk xs lxs T) (hp : p ∈ persC) (hc : c ∈ hourC) (ho : o ∈ persC)
    (q : ∀ H', Books w H' bk xs lxs (setT T p c o) → Frame lxs H H' → Q () (vs, H')) : wpG w S (StF B L ns) A (setItem (.ref (xs p)) (.str ⟨#[c]⟩ t) (.str ⟨#[o]⟩ u)) Q (vs, H) := by
  obtain ⟨refs, tp⟩ := K.tab p hp
  refine si_obj b (K.hdr p hp) (f_fn fun hL => ?_)
  have k0 : Sub H (upd H L (.loc ns vs)) := Sub.new hL
  have hLl := K.off hL hp
  have hz : refs.length ≤ 1000 := by rw [tp.2.1]; exact Nat.le_trans (K.good.len hp) (by decide)
  refine setitem_spec b (hA.mono (by exact Nat.le_add_left _ _)) ((K.hdr p hp).mono k0) (tp.mono k0) (K.good.key p hp) hc ho hz fun r h1 h2 => ?_
  have hLr : L ≠ r := ne_loc h1
  have hr : H r = none := by rw [upd_ne (Ne.symm hLr)] at h1; exact h1
  refine ⟨upd (upd H r (.obj (tupO [.str ⟨#[c]⟩ t, .str ⟨#[o]⟩ u]))) (lxs p) (.lst ((pickR refs (T p) c ++ [r]).map .ref)), by rw [upd_swap hLr, upd_swap hLl]; exact Sub.refl, upd_off (upd_off hL hLr) hLl, _, rfl, q _ (K.set hp hc ho tp hr) fun a i e n => (upd_ne (n p hp)).trans (Sub.new hr _ _ e)⟩
theorem bk_del {Q : Unit → Fst → Prop} (b : BaseOk w B) (hA : Room A 40) (K : Books w H bk xs lxs T) (hp : p ∈ persC) (hc : c ∈ hourC)
    (q : ∀ H', Books w H' bk xs lxs (delT T p c) → Frame lxs H H' → Q () (vs, H')) : wpG w S (StF B L ns) A (delItem (.ref (xs p)) (.str ⟨#[c]⟩ t)) Q (vs, H) := by
  obtain ⟨refs, tp⟩ := K.tab p hp
  refine di_obj b (K.hdr p hp) (f_fn fun hL => ?_)
  have k0 : Sub H (upd H L (.loc ns vs)) := Sub.new hL
  have hLl := K.off hL hp
  have hz : refs.length ≤ 1000 := by rw [tp.2.1]; exact Nat.le_trans (K.good.len hp) (by decide)
  refine delitem_spec b (hA.mono (by exact Nat.le_add_left _ _)) ((K.hdr p hp).mono k0) (tp.mono k0) (K.good.key p hp) hc hz ?_
  refine ⟨upd H (lxs p) (.lst ((pickR refs (T p) c).map .ref)), by rw [upd_swap hLl]; exact Sub.refl, upd_off hL hLl, _, rfl, q _ (K.del hp tp) fun a i e n => upd_ne (n p hp) ▸ e⟩
theorem bk_get {Q : Value → Fst → Prop} (b : BaseOk w B) (hA : Room A 40) (K : Books w H bk xs lxs T) (hp : p ∈ persC) (hc : c ∈ hourC)
    (q : ∀ v, IsGot v ((T p).lookup c) → Q v (vs, H)) : wpG w S (StF B L ns) A (call (.ref 158) [.ref (xs p), .str ⟨#[c]⟩ t]) Q (vs, H) := by
  obtain ⟨refs, tp⟩ := K.tab p hp
  refine f_fn fun hL => ?_
  have k0 : Sub H (upd H L (.loc ns vs)) := Sub.new hL
  refine get_spec b (hA.mono (by exact Nat.le_add_left _ _)) ((K.hdr p hp).mono k0) (tp.mono k0) (K.good.key p hp) hc fun v hv => ?_
  exact ⟨H, Sub.refl, hL, v, rfl, q v hv⟩
/-- a contract over the books, called from a frame -/
theorem f_books {f v : Value} {args : List Value} {Q : Value → Fst → Prop} (K : Books w H bk xs lxs T)
    (y : ∀ H0, Books w H0 bk xs lxs T → ∀ Q' : Result → HM → Prop, (∀ H', Books w H' bk xs lxs T' → Frame lxs H0 H' → Q' (.ok (.ret v)) H') → codeG w S (St B) A (.call f ⟨args, []⟩) Q' H0)
    (q : ∀ H', Books w H' bk xs lxs T' → Frame lxs H H' → Q v (vs, H')) : wpG w S (StF B L ns) A (call f args) Q (vs, H) := by
  refine f_fn fun hL => y _ (K.mono (Sub.new hL)) _ fun H' K' F => ?_
  have eL : H' L = some (.loc ns vs) := F L _ upd_same fun p hp => K.off hL hp
  refine ⟨era H' L, fun a i e => ?_, if_pos rfl, v, rfl, q _ (K'.era eL) fun a i e n => ?_⟩
  · by_cases z : a = L
    · subst z; rw [upd_same] at e; cases e; exact eL
    · rw [upd_ne z] at e; unfold era at e; rw [if_neg z] at e; exact e
  · have z : a ≠ L := by first | exact nn e (hL) | exact Ne.symm (nn e (hL)) | exact nn (hL) e | exact Ne.symm (nn (hL) e) | (rintro rfl; rw [hL] at e; cases e)
    unfold era; rw [if_neg z]
    exact F a i (Sub.new hL _ _ e) n
abbrev ssBooks : Str := ⟨#[98, 111, 111, 107, 115]⟩
abbrev ssOne : Str := ⟨#[111, 110, 101]⟩
abbrev ssOther : Str := ⟨#[111, 116, 104, 101, 114]⟩
abbrev ssHour : Str := ⟨#[104, 111, 117, 114]⟩
abbrev nsBk : List Str := [ssBooks, ssOne, ssOther, ssHour]
theorem put_spec {Q : Result → HM → Prop} {t1 t2 t3 : Tok} {a c h : Nat} (b : BaseOk w B) (hA : Room A 50) (K : Books w H bk xs lxs T) (ha : a ∈ persC) (hc : c ∈ persC) (hh : h ∈ hourC)
    (q : ∀ H', Books w H' bk xs lxs (setT (setT T a h c) c h a) → Frame lxs H H' → Q (.ok (.ret .none)) H') :
    codeG w S (St B) A (.call (.ref 229) ⟨[.ref bk, .str ⟨#[a]⟩ t1, .str ⟨#[c]⟩ t2, .str ⟨#[h]⟩ t3], []⟩) Q H := by
  refine enter b hA (hd.zo_231 w.params) [.ref bk, .str ⟨#[a]⟩ t1, .str ⟨#[c]⟩ t2, .str ⟨#[h]⟩ t3] (by kernel_rfl) rfl (by kernel_rfl) (ns := nsBk) ⟨rfl, by decide +kernel, by decide +kernel, by decide +kernel⟩ (fun s X => BindsTo.of_eq rfl) (Nat.le_of_ble_eq_true rfl) rfl rfl (by decide +kernel) ?_
  intro A1 L env hA1 f hsc
  refine x_cons (x_setsub ?_)
  refine f_local f 2 rfl rfl (e_sub (f_local f 0 rfl rfl (f_local f 1 rfl rfl (tl_books K ha ?_))))
  refine f_local f 3 rfl rfl (bk_set b (hA1.mono (by exact Nat.le_add_left _ _)) K ha hh hc fun H1 K1 F1 => ?_)
  refine x_cons (x_setsub ?_)
  refine f_local f 1 rfl rfl (e_sub (f_local f 0 rfl rfl (f_local f 2 rfl rfl (tl_books K1 hc ?_))))
  refine f_local f 3 rfl rfl (bk_set b (hA1.mono (by exact Nat.le_add_left _ _)) K1 hc hh ha fun H2 K2 F2 => ?_)
  exact x_nil (q _ K2 (F1.trans F2))
theorem strike_spec {Q : Result → HM → Prop} {t1 t2 t3 : Tok} {a c h : Nat} (b : BaseOk w B) (hA : Room A 50) (K : Books w H bk xs lxs T) (ha : a ∈ persC) (hc : c ∈ persC) (hh : h ∈ hourC)
    (q : ∀ H', Books w H' bk xs lxs (delT (delT T a h) c h) → Frame lxs H H' → Q (.ok (.ret .none)) H') :
    codeG w S (St B) A (.call (.ref 236) ⟨[.ref bk, .str ⟨#[a]⟩ t1, .str ⟨#[c]⟩ t2, .str ⟨#[h]⟩ t3], []⟩) Q H := by
  refine enter b hA (hd.zo_238 w.params) [.ref bk, .str ⟨#[a]⟩ t1, .str ⟨#[c]⟩ t2, .str ⟨#[h]⟩ t3] (by kernel_rfl) rfl (by kernel_rfl) (ns := nsBk) ⟨rfl, by decide +kernel, by decide +kernel, by decide +kernel⟩ (fun s X => BindsTo.of_eq rfl) (Nat.le_of_ble_eq_true rfl) rfl rfl (by decide +kernel) ?_
  intro A1 L env hA1 f hsc
  refine x_cons (x_delsub ?_)
  refine e_sub (f_local f 0 rfl rfl (f_local f 1 rfl rfl (tl_books K ha ?_)))
  refine f_local f 3 rfl rfl (bk_del b (hA1.mono (by exact Nat.le_add_left _ _)) K ha hh fun H1 K1 F1 => ?_)
  refine x_cons (x_delsub ?_)
  refine e_sub (f_local f 0 rfl rfl (f_local f 2 rfl rfl (tl_books K1 hc ?_)))
  refine f_local f 3 rfl rfl (bk_del b (hA1.mono (by exact Nat.le_add_left _ _)) K1 hc hh fun H2 K2 F2 => ?_)
  exact x_nil (q _ K2 (F1.trans F2))
end
end Mine
end
/-! part H14 -/
section
open PySem PySem.W PySem.Calls PyProof.Rows
set_option maxRecDepth 100000
set_option maxHeartbeats 4000000
set_option linter.unusedVariables false
namespace Mine
section
variable {w : World} {S : Shared} {A : Around} {σ : Type} {J : σ → Heap → Prop} {x : σ} {a b : Int} {t u : Tok}
theorem b_add {Q : Value → σ → Prop} (q : ∀ t, Q (.int (a + b) t) x) : wpG w S J A (binaryOp .Add (.int a t) (.int b u)) Q x := fun h tk s => PyProof.Rows.add_int ⟨h, _, x, rfl, s, q _⟩
theorem b_sub {Q : Value → σ → Prop} (q : ∀ t, Q (.int (a - b) t) x) : wpG w S J A (binaryOp .Sub (.int a t) (.int b u)) Q x := fun h tk s => PyProof.Rows.sub_int ⟨h, _, x, rfl, s, q _⟩
theorem b_mod {Q : Value → σ → Prop} (hb : b ≠ 0) (q : ∀ t, Q (.int (a.fmod b) t) x) : wpG w S J A (binaryOp .Mod (.int a t) (.int b u)) Q x := fun h tk s => PyProof.Rows.mod_int hb ⟨h, _, x, rfl, s, q _⟩
theorem c_lti {Q : Value → σ → Prop} (q : Q (.bool (decide (a < b))) x) : wpG w S J A (compareOp .Lt (.int a t) (.int b u)) Q x := fun h tk s => PyProof.Rows.lt_int ⟨h, _, x, rfl, s, q⟩
theorem c_eqi {Q : Value → σ → Prop} (q : Q (.bool (a == b)) x) : wpG w S J A (compareOp .Eq (.int a t) (.int b u)) Q x := fun h tk s => PyProof.Rows.eq_int ⟨h, _, x, rfl, s, q⟩
theorem c_nei {Q : Value → σ → Prop} (q : Q (.bool (a != b)) x) : wpG w S J A (compareOp .NotEq (.int a t) (.int b u)) Q x := fun h tk s => PyProof.Rows.ne_int ⟨h, _, x, rfl, s, q⟩
theorem c_gts {y z : Str} {Q : Value → σ → Prop} (q : Q (.bool (decide (z.cps.toList < y.cps.toList))) x) : wpG w S J A (compareOp .Gt (.str y t) (.str z u)) Q x := fun h tk s => PySem.P.gt_str ⟨h, _, x, rfl, s, q⟩
theorem c_ltb {p q : Bool} {Q : Value → σ → Prop} (hq : Q (.bool (!p && q)) x) : wpG w S J A (compareOp .Lt (.bool p) (.bool q)) Q x := fun h tk s => PyProof.Rows.lt_bool ⟨h, _, x, rfl, s, by cases p <;> cases q <;> exact hq⟩
theorem b_chr {Q : Value → σ → Prop} (h1 : 0 ≤ a) (h2 : a ≤ 0x10FFFF) (q : ∀ t, Q (.str ⟨#[a.toNat]⟩ t) x) : wpG w S J A (call (.builtin "chr") [.int a t]) Q x := fun h tk s =>
  PySem.P.chr_of_int (by simp; omega) ⟨h, _, x, rfl, s, q _⟩
theorem b_fdiv {Q : Value → σ → Prop} (hb : b ≠ 0) (hb2 : b.natAbs < 1073741824) (q : ∀ t, Q (.int (a.fdiv b) t) x) : wpG w S J A (binaryOp .FloorDiv (.int a t) (.int b u)) Q x := fun h tk s => by
  exact PyProof.Rows.floordiv_int hb ⟨h, _, x, rfl, s, q _⟩ (.inl (PyProof.noPylong_small hb2))
theorem b_mul {Q : Value → σ → Prop} (hm : IntMulOk a b) (q : ∀ t, Q (.int (a * b) t) x) : wpG w S J A (binaryOp .Mult (.int a t) (.int b u)) Q x := fun h tk s => PySem.P.mul_int ⟨h, _, x, rfl, s, q _⟩ hm
end
section
variable {w : World} {S : Shared} {B : HM} {A : Around} {H : HM} {L : Addr} {ns : List Str} {vs : List (Option Value)} {l x lx : Addr} {env : Env} {pos : Pos} {a b : Int} {t u : Tok}
theorem f_len {us : List Value} {Q : Value → Fst → Prop} (hl : H l = some (.lst us)) (hz : us.length ≤ sizeLine) (q : ∀ t, Q (.int us.length t) (vs, H)) : wpG w S (StF B L ns) A (call (.builtin "len") [.ref l]) Q (vs, H) := fun h tk s =>
  PyProof.Rows.len_list (Heap.PlainList.isList (s.st.own l _ hl)) (by have : us.length ≤ 16777216 := hz; simp; omega) ⟨h, _, _, rfl, s, by simpa using q _⟩
theorem StF.newAt {h h' : Heap} {b : Addr} {i : Item} (s : StF B L ns (vs, H) h) (k : ∀ b o, h.get? b = some o → h'.get? b = some o) (hb : h.objs.size ≤ b) (hi : i.At h' b) : StF B L ns (vs, upd H b i) h' ∧ H b = none ∧ B b = none := by
  have hH : H b = none := by
    cases e : H b with
    | none => rfl
    | some j => exact absurd (s.st.own.lt e) (Nat.not_lt.mpr hb)
  have hB : B b = none := by
    cases e : B b with
    | none => rfl
    | some j => exact absurd (s.st.base.lt e) (Nat.not_lt.mpr hb)
  exact ⟨⟨s.st.put (fun b o _ e => k b o e) hi hB, s.loc.keeps k, upd_off s.off (Nat.ne_of_lt (Nat.lt_of_lt_of_le s.loc.lt hb)), s.offB⟩, hH, hB⟩
theorem f_sorted {us : List Value} {ss : List Str} {Q : Value → Fst → Prop} (hl : H l = some (.lst us)) (hS : StrsAre us ss) (hz : us.length < 64)
    (q : ∀ r us' ss', H r = none → B r = none → StrsAre us' ss' → ss'.Perm ss → sortedS ss' = true → Q (.ref r) (vs, upd H r (.lst us'))) : wpG w S (StF B L ns) A (call (.builtin "sorted") [.ref l]) Q (vs, H) := fun h tk s => by
  refine PyProof.Rows.sorted_strs (Heap.PlainList.isList (s.st.own l _ hl)) hS hz fun out ss' a1 a2 a3 => ?_
  obtain ⟨e, he⟩ := sortedAll_at h us out
  obtain ⟨s2, h1, h2⟩ := s.newAt (h' := sortedAll h us out) (b := h.objs.size + 1) (i := .lst out.toList) (fun _ _ => sortedAll_old) (Nat.le_succ _) ⟨e, he⟩
  exact ⟨_, _, _, rfl, s2, q _ _ ss' h1 h2 a1 a2 a3⟩
theorem f_listrange {r : Addr} {n : Nat} {Q : Value → Fst → Prop} (hh : A.handled = none) (hr : H r = some (rngI 0 n)) (hn : n ≤ 1000)
    (q : ∀ b ys, H b = none → B b = none → ys.length = n → (∀ i : Nat, i < n → ∃ t, ys[i]? = some (Value.int i t)) → Q (.ref b) (vs, upd H b (.lst ys))) : wpG w S (StF B L ns) A (call (.type "list") [.ref r]) Q (vs, H) := fun h tk s => by
  obtain ⟨o, ho, t1, t2, t3, rfl⟩ := s.st.own r _ hr
  refine call_list_range (n := n) hh ho (small_one (by decide) (by decide) (by exact Mine.ci13) (by omega)) ?_ (by exact Nat.le_trans hn (Nat.le_add_left _ _)) fun h' tk' acc c' hk hS' hacc => ?_
  · rw [rangeSize_one]; split <;> omega
  obtain ⟨s2, h1, h2⟩ := s.newAt (h' := h') (b := h.objs.size) (i := .lst acc.toList) hk (Nat.le_refl _) ⟨c', by simpa using hS'⟩
  refine ⟨_, _, _, rfl, s2, q _ _ h1 h2 (by simpa using hacc.1) fun i hi => ?_⟩
  have hi' : i < acc.size := by rw [hacc.1]; exact hi
  obtain ⟨t, ht⟩ := hacc.2 i acc[i] (Array.getElem?_eq_getElem hi')
  exact ⟨t, by simp [hi', ht]⟩
/-! bisect_left with a key -/
abbrev nsBis : List Str := [⟨#[97]⟩, ⟨#[120]⟩, ⟨#[108, 111]⟩, ⟨#[104, 105]⟩, ⟨#[107, 101, 121]⟩, ⟨#[109, 105, 100]⟩]
abbrev ssKey : Str := ⟨#[107, 101, 121]⟩
theorem bisect_spec {us : List Value} {n : Nat} {f : Addr} {g : Nat → Bool} {Q : Result → HM → Prop} (b : BaseOk w B) (hA : Room A 20) (hl : H l = some (.lst us)) (hn : us.length = n) (hz : n ≤ 1000) (hus : ∀ i : Nat, i < n → ∃ t, us[i]? = some (Value.int i t))
    (hK : ∀ y : Fst, y.2 f = H f → ∀ L, Keep w (StF B L nsBis) (.ref f) y)
    (hg : ∀ A' L vs (i : Nat) t, Room A' 15 → i < n → ∀ Q' : Value → Fst → Prop, Q' (.bool (g i)) (vs, H) → wpG w S (StF B L nsBis) A' (call (.ref f) [.int i t]) Q' (vs, H))
    (mono : ∀ i j, i ≤ j → j < n → g i = true → g j = true)
    (q : ∀ (r : Nat) t, r ≤ n → (∀ j, j < r → g j = false) → (∀ j, r ≤ j → j < n → g j = true) → Q (.ok (.ret (.int r t))) H) :
    codeG w S (St B) A (.call (.ref 61) ⟨[.ref l, .bool true], [(ssKey, .ref f)]⟩) Q H := by
  refine enter b hA (hd.zo_84 w.params) [.ref l, .bool true, .int 0 315, .none, .ref f] (by kernel_rfl) rfl (by kernel_rfl) (ns := nsBis) ⟨rfl, by decide +kernel, by decide +kernel, by decide +kernel⟩ ?_ (Nat.le_of_ble_eq_true rfl) rfl rfl (by decide +kernel) ?_
  · intro s X
    exact binds_K X rfl (o := hd.zo_76 w.params) (by kernel_rfl) rfl rfl rfl
  intro A1 L env hA1 fE hsc
  refine x_cons (x_if (t_cmp (f_local fE 2 rfl rfl (e_int fun t => c_lti (t_bool ?_)))))
  rw [if_neg (by decide)]
  refine x_nil ?_
  refine x_cons (x_if (t_cmp (f_local fE 3 rfl rfl (e_none (c_is rfl (t_bool ?_))))))
  rw [if_pos (by decide)]
  refine x_cons (x_assign (e_call (f_builtin (v := .builtin "len") b fE (by kernel_rfl) (by kernel_rfl) (by decide) (by rw [hsc]; rfl) (by decide +kernel) ?_)))
  refine c_with rfl (a_pos (s_cons (f_local fE 0 rfl rfl (s_nil ⟨Keep.builtin, ?_⟩))))
  refine f_len hl (by rw [hn]; show n ≤ 16777216; (exact Nat.le_trans hz (Nat.le_add_left _ _))) fun t2 => ?_
  rw [hn]
  refine f_store fE 3 rfl (Nat.le_of_ble_eq_true rfl) (x_nil ?_)
  refine x_cons (x_if (t_cmp (f_local fE 4 rfl rfl (e_none (c_is rfl (t_bool ?_))))))
  rw [if_neg (by simp)]
  refine x_cons (x_while (fun k y => ∃ lo hi : Nat, ∃ t1 t2 md, y = ([some (.ref l), some (.bool true), some (.int lo t1), some (.int hi t2), some (.ref f), md], H) ∧ hi - lo = k ∧ lo ≤ hi ∧ hi ≤ n ∧ (∀ j, j < lo → g j = false) ∧ ∀ j, hi ≤ j → j < n → g j = true) ?_ n ?_)
  · rintro k us' X ⟨lo, hi, t1, t2, md, hz2, hk, h1, h2, h3, h4⟩
    cases hz2
    refine t_cmp (f_local fE 2 rfl rfl (f_local fE 3 rfl rfl (c_lti (t_bool ?_))))
    by_cases hlt : lo < hi
    · rw [if_pos (by simpa using hlt)]
      refine x_cons (x_assign (e_bin (e_bin (f_local fE 2 rfl rfl (f_local fE 3 rfl rfl (b_add fun t3 => e_int fun t4 => b_fdiv (by decide) (by decide) fun t5 => ?_))))))
      have em : ((lo : Int) + (hi : Int)).fdiv 2 = ((lo + hi) / 2 : Nat) := by
        rw [Int.fdiv_eq_ediv_of_nonneg _ (by decide)]; (rfl)
      rw [em]
      have hm1 : lo ≤ (lo + hi) / 2 := by exact Mine.bs3 hlt
      have hm2 : (lo + hi) / 2 < hi := by exact Mine.bs4 hlt
      obtain ⟨tm, hum⟩ := hus ((lo + hi) / 2) (by exact Nat.lt_of_lt_of_le hm2 h2)
      generalize hmid : (lo + hi) / 2 = mid at *
      refine f_store fE 5 rfl (Nat.le_of_ble_eq_true rfl) ?_
      refine x_cons (x_if (t_cmp (e_call (f_local fE 4 rfl rfl ?_))))
      refine c_with rfl (a_pos (s_cons (e_sub (f_local fE 0 rfl rfl (f_local fE 5 rfl rfl (tl_list hl (by exact Int.natCast_nonneg _) (by exact Mine.ci7 hm2 (Nat.le_trans h2 hz)) (by simpa using hum) (s_nil ⟨hK _ rfl _, ?_⟩)))))))
      refine hg A1 L _ mid tm (hA1.mono (by exact Nat.le_add_left _ _)) (by exact Nat.lt_of_lt_of_le hm2 h2) _ (f_local fE 1 rfl rfl (c_ltb (t_bool ?_)))
      cases hgm : g mid with
      | false =>
        rw [if_pos (by rfl)]
        refine x_cons (x_assign (e_bin (f_local fE 5 rfl rfl (e_int fun t6 => b_add fun t7 => ?_))))
        refine f_store fE 2 rfl (Nat.le_of_ble_eq_true rfl) (x_nil (x_nil ⟨hi - (mid + 1), H, by exact Mine.bs1 hk hm1 hm2, ⟨mid + 1, hi, t7, t2, some (.int mid t5), ?_, rfl, by exact Nat.succ_le_of_lt hm2, h2, fun j hj => ?_, h4⟩, Sub.refl⟩))
        · rw [show ((mid : Int) + 1) = ((mid + 1 : Nat) : Int) from by rfl]; rfl
        · cases hgj : g j with
          | false => rfl
          | true => rw [mono j mid (by exact Nat.le_of_lt_succ hj) (by exact Nat.lt_of_lt_of_le hm2 h2) hgj] at hgm; cases hgm
      | true =>
        rw [if_neg (by decide)]
        refine x_cons (x_assign (f_local fE 5 rfl rfl ?_))
        refine f_store fE 3 rfl (Nat.le_of_ble_eq_true rfl) (x_nil (x_nil ⟨mid - lo, H, by exact Mine.bs2 hk hm1 hm2, ⟨lo, mid, t1, t5, some (.int mid t5), rfl, rfl, by exact hm1, by exact Nat.le_of_lt (Nat.lt_of_lt_of_le hm2 h2), h3, fun j hj hj2 => mono mid j hj hj2 hgm⟩, Sub.refl⟩))
    · rw [if_neg (by simpa using hlt)]
      refine x_nil ?_
      have : lo = hi := by exact Nat.le_antisymm h1 (Nat.le_of_not_lt hlt)
      subst this
      refine x_cons (x_return (f_local fE 2 rfl rfl ?_))
      exact q lo t1 h2 h3 h4
  · exact ⟨0, n, 315, t2, none, rfl, rfl, Nat.zero_le _, Nat.le_refl _, fun j hj => absurd hj (Nat.not_lt_zero _), fun j h1 h2 => absurd h2 (by exact Nat.not_lt_of_le h1)⟩
end
end Mine
end
/-! part H15 -/
section
open PySem PySem.W PySem.Calls PyProof.Rows
set_option maxRecDepth 100000
set_option maxHeartbeats 4000000
set_option linter.unusedVariables false
namespace Mine
/-! functions that a function makes: the code tables -/
abbrev crec (qual : Str) : Item := .any fun o => ∃ vs t, o.data = .fields vs ∧ vs[1]? = some (.str qual t)
section
variable {w : World} {S : Shared} {B : HM} {A : Around} {H : HM} {L c P : Addr} {ns : List Str} {vs : List (Option Value)} {env : Env} {pos : Pos} {ps : Array Value} {scope : Scope} {clos : List (Str × Addr)} {params : Arguments}
theorem top_tab {mg mb : Str → Option Value} {h : Heap} (hg : h.Ns mainGlobals mg) (hP : h.get? P = some (tabObj ps)) : mainGlobals ≠ P := fun q => by
  obtain ⟨o, es, ep, e, hd, _⟩ := hg
  rw [q, hP] at e; cases e; cases hd
theorem StF.made {h h' : Heap} {c' : Addr} {qual : Str} {ps' : Array Value} {o : Obj} (s : StF B L ns (vs, H) h) (hP : H P = some (.obj (tabObj ps))) (hx : Heap.ExtBut P h h') (hge : h.objs.size ≤ c') (hlt : c' < h'.objs.size) (hrec : h'.CodeRec (.ref c') qual) (htb : h'.get? P = some (tabObj ps')) (ho : o.isFreed = false) :
    StF B L ns (vs, upd (upd (upd H P (.obj (tabObj ps'))) c' (crec qual)) h'.objs.size (.obj o)) (h'.push o) ∧ H c' = none ∧ B c' = none ∧ H h'.objs.size = none ∧ B h'.objs.size = none ∧ c' ≠ h'.objs.size ∧ c' ≠ P ∧ L ≠ c' ∧ L ≠ h'.objs.size := by
  have hPl : P < h.objs.size := s.st.own.lt hP
  have fH : ∀ b, h.objs.size ≤ b → H b = none := fun b hb => by
    cases e : H b with
    | none => rfl
    | some j => exact absurd (s.st.own.lt e) (Nat.not_lt.mpr hb)
  have fB : ∀ b, h.objs.size ≤ b → B b = none := fun b hb => by
    cases e : B b with
    | none => rfl
    | some j => exact absurd (s.st.base.lt e) (Nat.not_lt.mpr hb)
  have hq : h.objs.size ≤ h'.objs.size := Nat.le_of_lt (Nat.lt_of_le_of_lt hge hlt)
  have nLP : L ≠ P := fun z => by have := s.off; subst z; simp only at this; rw [hP] at this; cases this
  have s1 : St B (upd H P (.obj (tabObj ps'))) h' := s.st.put (i := .obj (tabObj ps')) (fun b o n e => hx b o n e) htb (s.st.dis P _ hP)
  have s2 : St B (upd (upd H P (.obj (tabObj ps'))) c' (crec qual)) h' := by
    obtain ⟨c₂, oc, vs', t, e2, hoc, hd, hv⟩ := hrec
    cases e2
    exact s1.put (i := crec qual) (fun _ _ _ e => e) ⟨oc, hoc, vs', t, hd, hv⟩ (fB c' hge)
  have s3 : St B (upd (upd (upd H P (.obj (tabObj ps'))) c' (crec qual)) h'.objs.size (.obj o)) (h'.push o) :=
    s2.put (i := .obj o) (fun _ _ _ e => Heap.get?_push_of_some _ e) (Heap.get?_push_size _ ho) (fB _ hq)
  have nLc : L ≠ c' := Nat.ne_of_lt (Nat.lt_of_lt_of_le s.loc.lt hge)
  have nLf : L ≠ h'.objs.size := Nat.ne_of_lt (Nat.lt_of_lt_of_le s.loc.lt hq)
  refine ⟨⟨s3, (s.loc.extBut hx nLP).push _, upd_off (upd_off (upd_off s.off nLP) nLc) nLf, s.offB⟩, fH _ hge, fB _ hge, fH _ hq, fB _ hq, Nat.ne_of_lt hlt, Nat.ne_of_gt (Nat.lt_of_lt_of_le hPl hge), nLc, nLf⟩
theorem StF.hit {h h' : Heap} {o : Obj} (s : StF B L ns (vs, H) h) (hk : ∀ b o, h.get? b = some o → h'.get? b = some o) (hsz : h.objs.size ≤ h'.objs.size) (ho : o.isFreed = false) :
    StF B L ns (vs, upd H h'.objs.size (.obj o)) (h'.push o) ∧ H h'.objs.size = none ∧ B h'.objs.size = none :=
  s.newAt (i := .obj o) (fun b o e => Heap.get?_push_of_some _ (hk b o e)) hsz (Heap.get?_push_size _ ho)
theorem e_lambda {body : Expr} {Q : Value → Fst → Prop} (b : BaseOk w B) (l : Fn env L ns) (hcl : closureFor scope env = pure clos) (hcode : env.code = .ref c) (C : ∀ h, Own B h → CodeHd h c P) (hP : H P = some (.obj (tabObj ps))) (ht : TriplesOk ps.toList) (hnf : codeAmong pos ps.toList = none) (hdef : defaultsOf params env = ([], []))
    (q : ∀ c' f ctv pm, H c' = none → B c' = none → H f = none → B f = none → c' ≠ f → c' ≠ P → Q (.ref f) (vs, upd (upd (upd H P (.obj (tabObj (ps ++ #[rawInt pos.line, rawInt pos.col, .ref c'])))) c' (crec (env.qual ++ "<lambda>"))) f (.obj (kla_obj "<lambda>" (env.qual ++ "<lambda>") params body scope clos pm c' ctv)))) :
    wpG w S (StF B L ns) A (eval (.Lambda params body scope pos) env) Q (vs, H) := fun h tk s => by
  obtain ⟨mg, mb, t, t2, t3⟩ := b.top
  have hg := (t h s.st.base).1
  have hP' : h.get? P = some (tabObj ps) := s.st.own P _ hP
  refine kla_eval hdef (kla_makeFunction (mg := mg) hcl l.globals hg hcode (C h s.st.base) hP' ht hnf (top_tab (mb := mb) hg hP') (t3 h s.st.base P (s.st.dis P _ hP)) fun c' ctv h' tk' hx hge hlt hrec htb => ?_)
  obtain ⟨s2, a1, a2, a3, a4, a5, a6, _, _⟩ := s.made (o := kla_obj "<lambda>" (env.qual ++ "<lambda>") params body scope clos ((mg "__name__").getD .none) c' ctv) hP hx hge hlt hrec htb rfl
  exact ⟨_, tk', _, rfl, s2, q c' _ ctv _ a1 a2 a3 a4 a5 a6⟩
theorem e_lambdaHit {body : Expr} {c' : Addr} {Q : Value → Fst → Prop} (b : BaseOk w B) (l : Fn env L ns) (hcl : closureFor scope env = pure clos) (hcode : env.code = .ref c) (C : ∀ h, Own B h → CodeHd h c P) (hP : H P = some (.obj (tabObj ps))) (ht : TriplesOk ps.toList) (hf : codeAmong pos ps.toList = some (.ref c')) (hdef : defaultsOf params env = ([], []))
    (q : ∀ f ctv pm, H f = none → B f = none → Q (.ref f) (vs, upd H f (.obj (kla_obj "<lambda>" (env.qual ++ "<lambda>") params body scope clos pm c' ctv)))) :
    wpG w S (StF B L ns) A (eval (.Lambda params body scope pos) env) Q (vs, H) := fun h tk s => by
  obtain ⟨mg, mb, t, t2, t3⟩ := b.top
  have hg := (t h s.st.base).1
  have hP' : h.get? P = some (tabObj ps) := s.st.own P _ hP
  refine kla_eval hdef (kla_makeFunctionHit (mg := mg) hcl l.globals hg hcode (C h s.st.base) hP' ht hf (t3 h s.st.base P (s.st.dis P _ hP)) fun ctv h' tk' hk hsz => ?_)
  obtain ⟨s2, a1, a2⟩ := s.hit (o := kla_obj "<lambda>" (env.qual ++ "<lambda>") params body scope clos ((mg "__name__").getD .none) c' ctv) hk hsz rfl
  exact ⟨_, tk', _, rfl, s2, q _ ctv _ a1 a2⟩
theorem x_def {name : Str} {body : List Stmt} {Q : Flow → Fst → Prop} (b : BaseOk w B) (l : Fn env L ns) (hcl : closureFor scope env = pure clos) (hcode : env.code = .ref c) (C : ∀ h, Own B h → CodeHd h c P) (hP : H P = some (.obj (tabObj ps))) (ht : TriplesOk ps.toList) (hnf : codeAmong pos ps.toList = none)
    (hd0 : params.defaults = []) (hk0 : params.kw_defaults = []) (ha : annTrees params none env = [])
    (q : ∀ c' f ctv doc pm, H c' = none → B c' = none → H f = none → B f = none → c' ≠ f → c' ≠ P → wpG w S (StF B L ns) A (storeName env name (.ref f)) (fun _ => Q .next) (vs, upd (upd (upd H P (.obj (tabObj (ps ++ #[rawInt pos.line, rawInt pos.col, .ref c'])))) c' (crec (qualnameIn env name name))) f (.obj (fnMade name (qualnameIn env name name) params body scope clos doc pm c' ctv)))) :
    wpG w S (StF B L ns) A (exec (.FunctionDef name params body [] none [] scope none name pos) env) Q (vs, H) := fun h tk s => by
  obtain ⟨mg, mb, t, t2, t3⟩ := b.top
  have hg := (t h s.st.base).1
  have hP' : h.get? P = some (tabObj ps) := s.st.own P _ hP
  refine nestDef_K hd0 hk0 ha (makeFunction_K (mg := mg) hcl l.globals hg hcode (C h s.st.base) hP' ht hnf (top_tab (mb := mb) hg hP') (t3 h s.st.base P (s.st.dis P _ hP)) fun c' ctv doc h' tk' hx hge hlt hrec htb => ?_)
  obtain ⟨s2, a1, a2, a3, a4, a5, a6, _, _⟩ := s.made (o := fnMade name (qualnameIn env name name) params body scope clos doc ((mg "__name__").getD .none) c' ctv) hP hx hge hlt hrec htb rfl
  exact q c' _ ctv doc _ a1 a2 a3 a4 a5 a6 _ tk' s2
theorem x_defHit {name : Str} {body : List Stmt} {c' : Addr} {Q : Flow → Fst → Prop} (b : BaseOk w B) (l : Fn env L ns) (hcl : closureFor scope env = pure clos) (hcode : env.code = .ref c) (C : ∀ h, Own B h → CodeHd h c P) (hP : H P = some (.obj (tabObj ps))) (ht : TriplesOk ps.toList) (hf : codeAmong pos ps.toList = some (.ref c'))
    (hd0 : params.defaults = []) (hk0 : params.kw_defaults = []) (ha : annTrees params none env = [])
    (q : ∀ f ctv doc pm, H f = none → B f = none → wpG w S (StF B L ns) A (storeName env name (.ref f)) (fun _ => Q .next) (vs, upd H f (.obj (fnMade name (qualnameIn env name name) params body scope clos doc pm c' ctv)))) :
    wpG w S (StF B L ns) A (exec (.FunctionDef name params body [] none [] scope none name pos) env) Q (vs, H) := fun h tk s => by
  obtain ⟨mg, mb, t, t2, t3⟩ := b.top
  have hg := (t h s.st.base).1
  have hP' : h.get? P = some (tabObj ps) := s.st.own P _ hP
  refine nestDef_K hd0 hk0 ha (makeFunction_hit (mg := mg) hcl l.globals hg hcode (C h s.st.base) hP' ht hf (t3 h s.st.base P (s.st.dis P _ hP)) fun ctv doc h' tk' hk hsz => ?_)
  obtain ⟨s2, a1, a2⟩ := s.hit (o := fnMade name (qualnameIn env name name) params body scope clos doc ((mg "__name__").getD .none) c' ctv) hk hsz rfl
  exact q _ ctv doc _ a1 a2 _ tk' s2
/-- entering a lambda -/
theorem enterLam {f c' : Addr} {name qual : Str} {body : Expr} {pm ctv : Value} {args : Args} {Q : Result → HM → Prop} {n : Nat} (b : BaseOk w B) (hA : Room A (n + 1)) (us : List Value) (hf : H f = some (.obj (kla_obj name qual params body scope clos pm c' ctv))) (hc : H c' = some (crec qual))
    (l : Lcl scope ns) (hbind : bindArgs (kla_fn name qual params body scope clos pm (.ref c') ctv) args = pure ((ns.take us.length).zip us)) (hus : us.length ≤ ns.length)
    (hco : scope.isCoroutine = false) (hgen : scope.isGenerator = false) (hcell : ∀ x ∈ scope.names, x.2 ≠ .cell)
    (y : ∀ A' L env, Room A' n → Fn env L ns → env.scope = scope → env.cells = clos → env.code = .ref c' → wpG w S (StF B L ns) A' (eval body env) (fun v x1 => Q (.ok (.ret v)) x1.2) (vals ns us, H)) :
    codeG w S (St B) A (.call (.ref f) args) Q H := fun h tk s => by
  obtain ⟨mg, mb, t, _⟩ := b.top
  have hk := zip_keys hus
  have nd : (((ns.take us.length).zip us).map (·.1)).Nodup := by rw [hk]; exact List.Nodup.sublist (List.take_sublist _ _) l.nd
  obtain ⟨oc, ho, vs', tq, hd, hv⟩ := s.own c' _ hc
  refine kla_callFunE hA.d (s.own f _ hf) rfl hco hgen rfl ⟨c', oc, vs', tq, rfl, ho, hd, hv⟩ ?_
  rw [hbind]
  refine wpAny_pure (wpAny_newFunctionEnv hcell (fun p hp => l.loc _ (List.mem_of_mem_take (by rw [← hk]; exact List.mem_map_of_mem hp))) (fun h₁ hns hsb => ⟨((t h s.base).2.2).fresh _ hsb, ?_⟩) l.kind)
  have hkp : ∀ b o, h.get? b = some o → h₁.get? b = some o := fun b o e => hsb.extBut b o (Nat.ne_of_lt (Heap.lt_size e)) (Heap.get?_push_of_some _ e)
  have s1 : StF B h.objs.size ns (vals ns us, H) h₁ := ⟨s.keeps hkp, by
    obtain ⟨o, es, ep, e1, e2, e3, e4⟩ := hns
    exact ⟨o, es, ep, e1, e2, e3, fun y => (e4 y).trans ((lookup_rev nd).trans (locMap_vals hus).symm)⟩, s.own.fresh, s.base.fresh⟩
  show codeAny _ _ (.expr body (envX qual scope h.objs.size f (.ref c') clos)) _ _
  refine kla_codeExpr (wpAny_mono (y _ h.objs.size (envX qual scope h.objs.size f (.ref c') clos) hA.deeper ⟨rfl, rfl, rfl, l⟩ rfl rfl rfl h₁ _ s1) (fun v s' ⟨h', t', x', e, s2, q⟩ => ?_) fun _ _ e => e.elim)
  subst e
  exact ⟨h', t', x'.2, rfl, s2.st, q⟩
/-- entering a nested def -/
theorem enterNest {f c' : Addr} {name qual : Str} {body : List Stmt} {doc pm ctv : Value} {args : Args} {Q : Result → HM → Prop} {n : Nat} (b : BaseOk w B) (hA : Room A (n + 1)) (us : List Value) (hf : H f = some (.obj (fnMade name qual params body scope clos doc pm c' ctv))) (hc : H c' = some (crec qual))
    (l : Lcl scope ns) (hbind : bindArgs (fnX name qual params body scope clos .none .none doc pm none (.ref c') ctv) args = pure ((ns.take us.length).zip us)) (hus : us.length ≤ ns.length)
    (hco : scope.isCoroutine = false) (hgen : scope.isGenerator = false) (hcell : ∀ x ∈ scope.names, x.2 ≠ .cell)
    (y : ∀ A' L env, Room A' n → Fn env L ns → env.scope = scope → env.cells = clos → env.code = .ref c' → wpG w S (StF B L ns) A' (execs body env) (fun fl x1 => Q (.ok (.ret (retOf fl))) x1.2) (vals ns us, H)) :
    codeG w S (St B) A (.call (.ref f) args) Q H := fun h tk s => by
  obtain ⟨mg, mb, t, _⟩ := b.top
  have hk := zip_keys hus
  have nd : (((ns.take us.length).zip us).map (·.1)).Nodup := by rw [hk]; exact List.Nodup.sublist (List.take_sublist _ _) l.nd
  obtain ⟨oc, ho, vs', tq, hd, hv⟩ := s.own c' _ hc
  refine codeAny_call_function hA.d (s.own f _ hf) rfl hco hgen rfl ⟨c', oc, vs', tq, rfl, ho, hd, hv⟩ ?_
  rw [hbind]
  refine wpAny_pure (wpAny_newFunctionEnv hcell (fun p hp => l.loc _ (List.mem_of_mem_take (by rw [← hk]; exact List.mem_map_of_mem hp))) (fun h₁ hns hsb => ⟨((t h s.base).2.2).fresh _ hsb, ?_⟩) l.kind)
  have hkp : ∀ b o, h.get? b = some o → h₁.get? b = some o := fun b o e => hsb.extBut b o (Nat.ne_of_lt (Heap.lt_size e)) (Heap.get?_push_of_some _ e)
  have s1 : StF B h.objs.size ns (vals ns us, H) h₁ := ⟨s.keeps hkp, by
    obtain ⟨o, es, ep, e1, e2, e3, e4⟩ := hns
    exact ⟨o, es, ep, e1, e2, e3, fun y => (e4 y).trans ((lookup_rev nd).trans (locMap_vals hus).symm)⟩, s.own.fresh, s.base.fresh⟩
  show codeAny _ _ (.func body (envX qual scope h.objs.size f (.ref c') clos)) _ _
  refine codeAny_func (wpAny_mono (y _ h.objs.size (envX qual scope h.objs.size f (.ref c') clos) hA.deeper ⟨rfl, rfl, rfl, l⟩ rfl rfl rfl h₁ _ s1) (fun v s' ⟨h', t', x', e, s2, q⟩ => ?_) fun _ _ e => e.elim)
  subst e
  exact ⟨h', t', x'.2, rfl, s2.st, by cases v <;> exact q⟩
end
end Mine
end
/-! part H16 -/
section
open PySem PySem.W PySem.Calls PyProof.Rows
set_option maxRecDepth 100000
set_option maxHeartbeats 4000000
set_option linter.unusedVariables false
namespace Mine
abbrev chS (c : Nat) : Str := ⟨#[c]⟩
theorem ltCps_one (a b : Nat) : PySem.Spec.ltCps [a] [b] = decide (a < b) := by
  unfold PySem.Spec.ltCps
  simp [PySem.Spec.ltCps]
theorem rising_le : ∀ (l : List Nat) (p : Nat), risingS (chS p) (l.map chS) = true → (p :: l).Pairwise (· ≤ ·)
  | [], p, _ => by simp
  | x :: r, p, h => by
    rw [List.map_cons] at h
    have h' : (!PySem.Spec.ltCps [x] [p] && risingS (chS x) (r.map chS)) = true := h
    rw [Bool.and_eq_true] at h'
    have ih := rising_le r x h'.2
    have h1 : p ≤ x := by
      have := h'.1
      rw [ltCps_one] at this
      simp at this; exact this
    rw [List.pairwise_cons]
    refine ⟨fun y hy => ?_, ih⟩
    rcases List.mem_cons.mp hy with rfl | hy
    · exact h1
    · exact Nat.le_trans h1 ((List.pairwise_cons.mp ih).1 y hy)
theorem sorted_le {l : List Nat} (h : sortedS (l.map chS) = true) : l.Pairwise (· ≤ ·) := by
  cases l with
  | nil => simp
  | cons x r => exact rising_le r x h
theorem perm_chr {l : List Nat} {ss : List Str} (h : ss.Perm (l.map chS)) : ∃ l' : List Nat, ss = l'.map chS ∧ l'.Perm l := by
  refine ⟨ss.map fun s : Str => s.cps.toList.headD 0, ?_, ?_⟩
  · rw [List.map_map]
    conv => lhs; rw [← List.map_id ss]
    refine List.map_congr_left fun s hs => ?_
    obtain ⟨c, _, rfl⟩ := List.mem_map.mp (h.mem_iff.mp hs)
    rfl
  · have := h.map fun s : Str => s.cps.toList.headD 0
    rw [List.map_map] at this
    have e : l.map ((fun s : Str => s.cps.toList.headD 0) ∘ chS) = l := by
      conv => rhs; rw [← List.map_id l]
      exact List.map_congr_left fun _ _ => rfl
    rwa [e] at this
theorem strsAre_chr : ∀ {vs : List Value} {cs : List Nat}, ChrL vs cs → StrsAre vs (cs.map chS)
  | [], [], _ => .nil
  | [], _ :: _, h => absurd h.1 (by simp)
  | _ :: _, [], h => absurd h.1 (by simp)
  | v :: vs, c :: cs, h => by
    obtain ⟨t, ht⟩ := h.2 0 c rfl
    simp at ht; subst ht
    exact .cons _ t (strsAre_chr ⟨by simpa using h.1, fun i c' hi => h.2 (i + 1) c' hi⟩)
theorem chr_strsAre : ∀ {vs : List Value} {cs : List Nat}, StrsAre vs (cs.map chS) → ChrL vs cs
  | _, [], .nil => ChrL.nil
  | _, c :: cs, .cons _ t h => by
    have ih := chr_strsAre h
    refine ⟨by simp [ih.1], fun i c' hi => ?_⟩
    cases i with
    | zero => simp at hi; subst hi; exact ⟨t, rfl⟩
    | succ i => exact ih.2 i c' hi
/-- strictly rising codes, none below 97: where the gap is -/
theorem ge_of_rising : ∀ {l : List Nat} {b : Nat}, l.Pairwise (· < ·) → (∀ x ∈ l, b ≤ x) → ∀ (i : Nat) (h : i < l.length), b + i ≤ l[i]
  | [], _, _, _, _, h => absurd h (by simp)
  | x :: r, b, hp, hb, 0, _ => hb x List.mem_cons_self
  | x :: r, b, hp, hb, i + 1, h => by
    have := ge_of_rising (l := r) (b := b + 1) (List.pairwise_cons.mp hp).2 (fun y hy => Nat.lt_of_le_of_lt (hb x List.mem_cons_self) ((List.pairwise_cons.mp hp).1 y hy)) i (by simpa using h)
    simp only [List.getElem_cons_succ]; omega
theorem gap_mono {l : List Nat} (hp : l.Pairwise (· < ·)) : ∀ (i j : Nat) (hi : i < l.length) (hj : j < l.length), i ≤ j → l[i] + (j - i) ≤ l[j] := by
  intro i j hi hj hij
  induction j with
  | zero => have : i = 0 := by exact Nat.eq_zero_of_le_zero hij
            subst this; simp
  | succ j ih =>
    by_cases e : i = j + 1
    · subst e; simp
    · have h1 := ih (by exact Nat.lt_of_succ_lt hj) (by exact Nat.le_of_lt_succ (Nat.lt_of_le_of_ne hij e))
      have h2 := (List.pairwise_iff_getElem.mp hp) j (j + 1) (by exact Nat.lt_of_succ_lt hj) hj (Nat.lt_succ_self j)
      (exact Mine.gm1 hij e h1 h2)
theorem lt_of_le {l : List Nat} (hnd' : l.Nodup) (hle : l.Pairwise (· ≤ ·)) : l.Pairwise (· < ·) := by
  rw [List.pairwise_iff_getElem] at hle ⊢
  intro i j hi hj hij
  have := hle i j hi hj hij
  have hne : l[i] ≠ l[j] := List.pairwise_iff_getElem.mp hnd' i j hi hj hij
  (exact Nat.lt_of_le_of_ne this hne)
theorem chr_lt (a b : Nat) : decide ((chS a).cps.toList < (chS b).cps.toList) = decide (a < b) := by
  show decide ([a] < [b]) = _
  rw [decide_eq_decide]
  constructor
  · intro h
    cases h with
    | rel h => exact h
    | cons h => cases h
  · intro h
    exact List.Lex.rel h
theorem mex_of {ks l : List Nat} (hperm : l.Perm ks) (hnd : ks.Nodup) (hge : ∀ x ∈ ks, 97 ≤ x) (hle : l.Pairwise (· ≤ ·)) {r : Nat} (hr : r ≤ l.length) (h1 : ∀ (j : Nat) (h : j < l.length), j < r → ¬ 97 + j < l[j]) (h2 : ∀ (j : Nat) (h : j < l.length), r ≤ j → 97 + j < l[j]) :
    (∀ j, j < r → 97 + j ∈ ks) ∧ 97 + r ∉ ks := by
  have hlt : l.Pairwise (· < ·) := by
    have hnd' : l.Nodup := hperm.nodup_iff.mpr hnd
    rw [List.pairwise_iff_getElem] at hle ⊢
    intro i j hi hj hij
    have := hle i j hi hj hij
    have hne : l[i] ≠ l[j] := List.pairwise_iff_getElem.mp hnd' i j hi hj hij
    (exact Nat.lt_of_le_of_ne this hne)
  have hb := ge_of_rising hlt (b := 97) fun x hx => hge x (hperm.mem_iff.mp hx)
  constructor
  · intro j hj
    have hjl : j < l.length := by exact Nat.lt_of_lt_of_le hj hr
    have e1 := h1 j hjl hj
    have e2 := hb j hjl
    have : l[j] = 97 + j := by exact Nat.le_antisymm (Nat.le_of_not_lt e1) e2
    rw [← this]
    exact hperm.mem_iff.mp (List.getElem_mem hjl)
  · intro hm
    obtain ⟨j, hj, e⟩ := List.mem_iff_getElem.mp (hperm.mem_iff.mpr hm)
    by_cases hjr : j < r
    · have := h1 j hj hjr; omega
    · have := h2 j hj (by exact Nat.le_of_not_lt hjr); omega
end Mine
end
/-! part H17 -/
section
open PySem PySem.W PySem.Calls PyProof.Rows
set_option maxRecDepth 100000
set_option maxHeartbeats 4000000
set_option linter.unusedVariables false
namespace Mine
/-! _law_free -/
abbrev qLam : Str := ⟨#[95, 108, 97, 119, 95, 102, 114, 101, 101]⟩ ++ ".<locals>." ++ "<lambda>"
def posLam : Pos := ⟨134, 66, 134, 0⟩
/-- the code table of _law_free: blank, or with the lambda's code -/
def TabF (H : HM) : Prop := H 217 = some (.obj (tabObj #[])) ∨ ∃ c', H 217 = some (.obj (tabObj #[rawInt 134, rawInt 66, .ref c'])) ∧ H c' = some (crec qLam)
abbrev ssTable : Str := ⟨#[116, 97, 98, 108, 101]⟩
abbrev ssUsed : Str := ⟨#[117, 115, 101, 100]⟩
section
variable {w : World} {S : Shared} {B : HM} {A : Around} {H : HM} {L : Addr} {ns : List Str} {vs : List (Option Value)} {l x lx : Addr} {env : Env} {pos : Pos}
theorem codeHd_free (b : BaseOk w B) : ∀ h, Own B h → CodeHd h 221 217 := fun h o => by
  have X := b.kin h o
  exact ⟨hd.zo_223 w.params, _, _, _, _, _, _, _, _, X _ _ (by kernel_rfl), rfl, rfl, rfl, rfl, rfl, rfl, rfl, rfl, by decide⟩
theorem TabF.mono {H H' : HM} (t : TabF H) (k : Sub H H') : TabF H' := by
  rcases t with t | ⟨c', t1, t2⟩
  · exact .inl (k _ _ t)
  · exact .inr ⟨c', k _ _ t1, k _ _ t2⟩
theorem Keep.made {fa : Addr} {oc : Value} {od : Option Addr} {fd : FuncData} {sl : Array (Option Value)} {y : Fst} (h : y.2 fa = some (.obj ⟨oc, od, .func fd, sl⟩)) : Keep w (StF B L ns) (.ref fa) y := fun h' s =>
  keeps_F h' ⟨oc, od, fd, sl, s.st.own fa _ h⟩
theorem e_lamFree {params : Arguments} {body : Expr} {scope : Scope} {clos : List (Str × Addr)} {Q : Value → Fst → Prop} (b : BaseOk w B) (l : Fn env L ns) (hcl : closureFor scope env = pure clos) (hcode : env.code = .ref 221) (hT : TabF H) (hdef : defaultsOf params env = ([], [])) (hq : env.qual ++ "<lambda>" = qLam) (hl : pos.line = 134) (hp : pos.col = 66)
    (q : ∀ Z fa c' ctv pm, Z fa = some (.obj (kla_obj "<lambda>" qLam params body scope clos pm c' ctv)) → Z c' = some (crec qLam) → TabF Z → (∀ a i, H a = some i → a ≠ 217 → Z a = some i) → Q (.ref fa) (vs, Z)) :
    wpG w S (StF B L ns) A (eval (.Lambda params body scope pos) env) Q (vs, H) := by
  intro h tk s
  rcases hT with hT | ⟨c', h1, h2⟩
  · refine e_lambda b l hcl hcode (codeHd_free b) hT trivial rfl hdef (fun c' fa ctv pm a1 a2 a3 a4 n1 n2 => ?_) h tk s
    rw [hq, hl, hp]
    have n3 : (217 : Addr) ≠ fa := by first | exact nn a3 (hT) | exact Ne.symm (nn a3 (hT)) | exact nn (hT) a3 | exact Ne.symm (nn (hT) a3) | (rintro rfl; rw [hT] at a3; cases a3)
    refine q _ fa c' ctv pm upd_same ((upd_ne n1).trans upd_same) (.inr ⟨c', ?_, (upd_ne n1).trans upd_same⟩) (fun a i e n => ?_)
    · exact (upd_ne n3).trans ((upd_ne (Ne.symm n2)).trans upd_same)
    · have m1 : a ≠ c' := by first | exact nn e (a1) | exact Ne.symm (nn e (a1)) | exact nn (a1) e | exact Ne.symm (nn (a1) e) | (rintro rfl; rw [a1] at e; cases e)
      have m2 : a ≠ fa := by first | exact nn e (a3) | exact Ne.symm (nn e (a3)) | exact nn (a3) e | exact Ne.symm (nn (a3) e) | (rintro rfl; rw [a3] at e; cases e)
      exact (upd_ne m2).trans ((upd_ne m1).trans ((upd_ne n).trans e))
  · refine e_lambdaHit (c' := c') b l hcl hcode (codeHd_free b) h1 trivial (by unfold codeAmong; simp [rawInt, hl, hp]) hdef (fun fa ctv pm a1 a2 => ?_) h tk s
    rw [hq]
    exact q _ fa c' ctv pm upd_same (upd_old a1 h2) (.inr ⟨c', upd_old a1 h1, upd_old a1 h2⟩) (fun a i e n => upd_old a1 e)
theorem free_spec {refs : List Addr} {tab : List (Nat × Nat)} {Q : Result → HM → Prop} (b : BaseOk w B) (hA : Room A 60) (d : Hdr H x lx) (T : TabAt H lx refs tab) (hk : ∀ e ∈ tab, e.1 ∈ hourC) (hnd : (tab.map (·.1)).Nodup) (hz : tab.length ≤ 12) (hT : TabF H)
    (q : ∀ (m : Nat) t H', m ≤ tab.length → (∀ j, j < m → 97 + j ∈ tab.map (·.1)) → 97 + m ∉ tab.map (·.1) → TabF H' → (∀ a i, H a = some i → a ≠ 217 → H' a = some i) → Q (.ok (.ret (.str ⟨#[97 + m]⟩ t))) H') :
    codeG w S (St B) A (.call (.ref 222) ⟨[.ref x], []⟩) Q H := by
  refine enterC b hA (hd.zo_224 w.params) [.ref x] [(ssTable, .ref x)] [(ssUsed, none)] (by kernel_rfl) rfl (by kernel_rfl) (ns := [ssTable]) ⟨rfl, by decide +kernel, by decide +kernel, by decide +kernel⟩ rfl rfl (Nat.le_of_ble_eq_true rfl) ?_ ?_ rfl rfl ?_
  · intro L y hy
    simp only [List.mem_cons, List.not_mem_nil, or_false] at hy
    rcases hy with rfl
    exact .inl rfl
  · intro L
    exact ⟨⟨rfl, rfl⟩, trivial⟩
  intro A1 L env hA1 f hsc hcl hco hql hfr
  replace hcl : env.cells = [(ssUsed, L + 1)] := hcl
  have eN : Cel env ssUsed (L + 1) := .of hsc hcl rfl rfl
  have hn : H (L + 1) = none := (hfr 1).1
  have hBn : B (L + 1) = none := (hfr 1).2
  show wpG w S (StF B L [ssTable]) A1 _ _ (_, upd H (L + 1) (cel none))
  have hzr : refs.length ≤ 1000 := by rw [T.2.1]; (exact Nat.le_trans hz (Nat.le_add_left _ _))
  refine x_cons (x_assign ?_)
  refine e_call (f_builtin (v := .builtin "sorted") b f (by kernel_rfl) (by kernel_rfl) (by decide) (by rw [hsc]; rfl) (by decide +kernel) ?_)
  refine c_with rfl (a_pos (s_cons ?_))
  refine e_meth rfl (f_local f 0 rfl rfl ?_)
  refine g_meth b (d.mono (Sub.new hn)) (f := 163) (by kernel_rfl) (by kernel_rfl) (by decide +kernel) ?_
  refine c_with rfl (a_nil ⟨Keep.fn b (by kernel_rfl), ?_⟩)
  refine f_fn fun hL => ?_
  have k0 : Sub H (upd (upd H (L + 1) (cel none)) L (.loc [ssTable] (vals [ssTable] [.ref x]))) := (Sub.new hn).trans (Sub.new hL)
  refine keys_spec b (hA1.mono (by exact Nat.le_add_left _ _)) (d.mono k0) (T.mono k0) hzr fun r ks h1 h2 hks => ?_
  have hLr : L ≠ r := ne_loc h1
  refine ⟨upd (upd H (L + 1) (cel none)) r (.lst ks), by rw [upd_swap hLr]; exact Sub.refl, upd_off hL hLr, _, rfl, ?_⟩
  rw [upd_ne (Ne.symm hLr)] at h1
  refine s_nil ⟨Keep.builtin, ?_⟩
  have hks2 : ks.length = tab.length := by rw [hks.1, List.length_map]
  refine f_sorted (us := ks) upd_same (strsAre_chr hks) (by (rw [hks2]; exact (Nat.lt_of_lt_of_le (Nat.lt_succ_of_le hz) (Nat.le_add_left _ _)))) fun r2 us2 ss2 g1 g2 hS hp hs => ?_
  obtain ⟨cs2, rfl, hp2⟩ := perm_chr hp
  have hC2 := chr_strsAre hS
  have hle := sorted_le hs
  have hlen2 : us2.length = tab.length := by rw [hC2.1, hp2.length_eq, List.length_map]
  have hn2 : upd (upd (upd H (L + 1) (cel none)) r (.lst ks)) r2 (.lst us2) (L + 1) = some (cel none) := upd_old g1 (upd_old h1 upd_same)
  refine f_cellset f eN (by unfold Env.kindOf; rw [hsc]; rfl) hn2 ?_
  -- what is known from here on
  have kX : Sub H (upd (upd (upd (upd H (L + 1) (cel none)) r (.lst ks)) r2 (.lst us2)) (L + 1) (cel (some (.ref r2)))) := by
    intro a i e
    have n1 : a ≠ L + 1 := by first | exact nn e (hn) | exact Ne.symm (nn e (hn)) | exact nn (hn) e | exact Ne.symm (nn (hn) e) | (rintro rfl; rw [hn] at e; cases e)
    exact (upd_ne n1).trans (upd_old g1 (upd_old h1 (upd_old hn e)))
  have hr2n : r2 ≠ L + 1 := by first | exact nn g1 (upd_old h1 upd_same) | exact Ne.symm (nn g1 (upd_old h1 upd_same)) | exact nn (upd_old h1 upd_same) g1 | exact Ne.symm (nn (upd_old h1 upd_same) g1) | (rintro rfl; rw [upd_old h1 upd_same] at g1; cases g1)
  have hXr2 : upd (upd (upd (upd H (L + 1) (cel none)) r (.lst ks)) r2 (.lst us2)) (L + 1) (cel (some (.ref r2))) r2 = some (.lst us2) := (upd_ne hr2n).trans upd_same
  have hXc : upd (upd (upd (upd H (L + 1) (cel none)) r (.lst ks)) r2 (.lst us2)) (L + 1) (cel (some (.ref r2))) (L + 1) = some (cel (some (.ref r2))) := upd_same
  generalize upd (upd (upd (upd H (L + 1) (cel none)) r (.lst ks)) r2 (.lst us2)) (L + 1) (cel (some (.ref r2))) = X at *
  refine x_cons (x_return ?_)
  refine e_call (f_builtin (v := .builtin "chr") b f (by kernel_rfl) (by kernel_rfl) (by decide) (by rw [hsc]; rfl) (by decide +kernel) ?_)
  refine c_with rfl (a_pos (s_cons ?_))
  refine e_bin (e_int fun t1 => ?_)
  refine e_call (f_global (v := .ref 61) b f (by kernel_rfl) (by rw [hsc]; rfl) (by decide +kernel) ?_)
  refine c_with rfl (a_kw (s_cons ?_))
  refine e_call (f_builtin (v := .type "list") b f (by kernel_rfl) (by kernel_rfl) (by decide) (by rw [hsc]; rfl) (by decide +kernel) ?_)
  refine c_with rfl (a_pos (s_cons ?_))
  refine e_call (f_builtin (v := .type "range") b f (by kernel_rfl) (by kernel_rfl) (by decide) (by rw [hsc]; rfl) (by decide +kernel) ?_)
  refine c_with rfl (a_pos (s_cons ?_))
  refine e_call (f_builtin (v := .builtin "len") b f (by kernel_rfl) (by kernel_rfl) (by decide) (by rw [hsc]; rfl) (by decide +kernel) ?_)
  refine c_with rfl (a_pos (s_cons ?_))
  refine f_cell f eN hXc (s_nil ⟨Keep.builtin, ?_⟩)
  refine f_len hXr2 (by rw [hlen2]; show _ ≤ 16777216; (exact Nat.le_trans hz (Nat.le_add_left _ _))) fun t2 => ?_
  refine s_nil ⟨Keep.type, ?_⟩
  refine r_range1 fun r3 g3 g4 => ?_
  refine s_nil ⟨Keep.type, ?_⟩
  refine f_listrange (n := us2.length) hA1.hand upd_same (by (rw [hlen2]; exact (Nat.le_trans hz (Nat.le_add_left _ _)))) fun b4 ys g5 g6 hys1 hys2 => ?_
  refine s_cons (e_bool (pos := ⟨134, 56, 134, 60⟩) (k := 0) (s_nil ?_))
  refine k_tree ?_
  have kY : Sub X (upd (upd X r3 (rngI 0 us2.length)) b4 (.lst ys)) := (Sub.new g3).trans (Sub.new g5)
  have hYb : upd (upd X r3 (rngI 0 us2.length)) b4 (.lst ys) b4 = some (.lst ys) := upd_same
  generalize upd (upd X r3 (rngI 0 us2.length)) b4 (.lst ys) = Y at *
  have hTY : TabF Y := hT.mono (kX.trans kY)
  have n217 : ∀ {a : Addr} {i : Item}, Y a = some i → (∀ o, i ≠ .obj o) → a ≠ 217 := by
    rintro a i e hi rfl
    rcases hTY with t | ⟨_, t, _⟩ <;> (rw [e] at t; cases t; exact hi _ rfl)
  refine e_lamFree (clos := [(ssUsed, L + 1)]) b f (by unfold closureFor cellOf; rw [hcl]; rfl) hco hTY rfl (by rw [hql]) rfl rfl fun Z fa c' ctv pm z1 z2 z3 z4 => ?_
  have hZb : Z b4 = some (.lst ys) := z4 _ _ hYb (n217 hYb (by intro o e; cases e))
  have hZc : Z (L + 1) = some (cel (some (.ref r2))) := z4 _ _ (kY _ _ hXc) (n217 (kY _ _ hXc) (by intro o e; cases e))
  have hZr : Z r2 = some (.lst us2) := z4 _ _ (kY _ _ hXr2) (n217 (kY _ _ hXr2) (by intro o e; cases e))
  refine ⟨Keep.fn b (by kernel_rfl), ?_⟩
  refine f_fn fun hL2 => ?_
  have kW : Sub Z (upd Z L (.loc [ssTable] (vals [ssTable] [.ref x]))) := Sub.new hL2
  have hlen3 : us2.length = cs2.length := hC2.1
  refine bisect_spec (us := ys) (n := us2.length) (f := fa) (g := fun j => decide (97 + j < cs2.getD j 0)) b (hA1.mono (by exact Nat.le_add_left _ _)) (kW _ _ hZb) hys1 (by (rw [hlen2]; exact (Nat.le_trans hz (Nat.le_add_left _ _)))) hys2 ?_ ?_ ?_ ?_
  · intro y hy L3
    exact Keep.made (hy.trans (kW _ _ z1))
  · intro A3 L3 vs3 i t3 hA3 hi Q3 hQ3
    refine f_fn fun hL3 => ?_
    have kV : Sub (upd Z L (.loc [ssTable] (vals [ssTable] [.ref x]))) (upd (upd Z L (.loc [ssTable] (vals [ssTable] [.ref x]))) L3 (.loc nsBis vs3)) := Sub.new hL3
    refine enterLam (ns := [⟨#[107]⟩]) b (hA3.mono (m := 15) (by exact Nat.le_refl _)) [.int i t3] (kV _ _ (kW _ _ z1)) (kV _ _ (kW _ _ z2)) ⟨rfl, by decide +kernel, by decide +kernel, by decide +kernel⟩ rfl (Nat.le_of_ble_eq_true rfl) rfl rfl (by decide +kernel) ?_
    intro A4 L4 env4 hA4 f4 hsc4 hcl4 hco4
    have e4 : Cel env4 ssUsed (L + 1) := ⟨.inr (by unfold Env.kindOf; rw [hsc4]; rfl), by rw [hcl4]; rfl, by decide +kernel, by decide +kernel⟩
    obtain ⟨t5, ht5⟩ := hC2.2 i cs2[i] (List.getElem?_eq_getElem (by exact Nat.lt_of_lt_of_le hi (Nat.le_of_eq hlen3)))
    refine e_cmp (e_sub (f_cell f4 e4 (kV _ _ (kW _ _ hZc)) (f_local f4 0 rfl rfl ?_)))
    refine tl_list (kV _ _ (kW _ _ hZr)) (by exact Int.natCast_nonneg _) (by exact Mine.ci8 hi hlen2 hz) (by simpa using ht5) ?_
    refine e_call (f_builtin (v := .builtin "chr") b f4 (by kernel_rfl) (by kernel_rfl) (by decide) (by rw [hsc4]; rfl) (by decide +kernel) ?_)
    refine c_with rfl (a_pos (s_cons ?_))
    refine e_bin (e_int fun t6 => f_local f4 0 rfl rfl (b_add fun t7 => s_nil ⟨Keep.builtin, ?_⟩))
    refine b_chr (by omega) (by exact Mine.ci11 hi hlen2 hz) fun t8 => c_gts ?_
    refine ⟨_, Sub.refl, hL3, _, rfl, ?_⟩
    have e5 : decide ((⟨#[((97 : Int) + (i : Int)).toNat]⟩ : Str).cps.toList < (⟨#[cs2[i]]⟩ : Str).cps.toList) = decide (97 + i < cs2.getD i 0) := by
      rw [show ((97 : Int) + (i : Int)).toNat = 97 + i from by rfl, List.getD_eq_getElem?_getD, List.getElem?_eq_getElem (show i < cs2.length by exact Nat.lt_of_lt_of_le hi (Nat.le_of_eq hlen3))]
      exact chr_lt _ _
    rw [e5]
    exact hQ3
  · intro i j hij hj hi
    have hj' : j < cs2.length := by exact Nat.lt_of_lt_of_le hj (Nat.le_of_eq hlen3)
    have hi' : i < cs2.length := by exact Nat.lt_of_le_of_lt hij hj'
    rw [decide_eq_true_eq, List.getD_eq_getElem?_getD, List.getElem?_eq_getElem hi'] at hi
    rw [decide_eq_true_eq, List.getD_eq_getElem?_getD, List.getElem?_eq_getElem hj']
    have := gap_mono (lt_of_le (hp2.nodup_iff.mpr hnd) hle) i j hi' hj' hij
    simp only [Option.getD_some] at hi ⊢
    omega
  · intro r t3 hr h1' h2'
    refine ⟨Z, Sub.refl, hL2, _, rfl, ?_⟩
    refine b_add fun t4 => s_nil ⟨Keep.builtin, ?_⟩
    refine b_chr (by omega) (by exact Mine.ci12 hr hlen2 hz) fun t5 => ?_
    have hm := mex_of hp2 hnd (fun y hy => ?_) hle (r := r) (by exact Nat.le_trans hr (Nat.le_of_eq hlen3)) (fun j hj hjr => ?_) (fun j hj hrj => ?_)
    · rw [show ((97 : Int) + (r : Int)).toNat = 97 + r from by rfl]
      refine q r t5 Z (by exact Nat.le_trans hr (Nat.le_of_eq hlen2)) hm.1 hm.2 z3 fun a i e n => z4 a i (kY _ _ (kX _ _ e)) n
    · obtain ⟨e, he, rfl⟩ := List.mem_map.mp hy
      have := hk e he
      exact hourGe _ this
    · have := h1' j hjr
      rw [decide_eq_false_iff_not, List.getD_eq_getElem?_getD, List.getElem?_eq_getElem hj] at this
      exact this
    · have := h2' j hrj (by (rw [hlen3]; exact hj))
      rw [decide_eq_true_eq, List.getD_eq_getElem?_getD, List.getElem?_eq_getElem hj] at this
      exact this
end
end Mine
end
/-! part H18 -/
section
open PySem PySem.W PySem.Calls PyProof.Rows
set_option maxRecDepth 100000
set_option maxHeartbeats 4000000
set_option linter.unusedVariables false
namespace Mine
/-- an item that is no part of the books -/
structure Foreign (i : Item) : Prop where
  l : ∀ us, i ≠ .lst us
  x : ∀ dx, i ≠ .obj (instObj 211 dx)
  d : ∀ hsh tk lx, i ≠ .obj (hdrD hsh tk lx)
  t : ∀ us, i ≠ .obj (tupO us)
  c : i ≠ crec qLam
  k : ∀ w kvs, i ≠ dct w kvs
theorem fk {H : HM} {a : Addr} {i : Item} (e : H a = some i) (f : Foreign i) : ∀ j, H a = some j → Foreign j := fun j z => by
  rw [e] at z; cases z; exact f
theorem foreign_loc {m : List Str} {z : List (Option Value)} : Foreign (.loc m z) := ⟨(by intro _ h; cases h), (by intro _ h; cases h), (by intro _ _ _ h; cases h), (by intro _ h; cases h), (by intro h; cases h), (by intro _ _ h; cases h)⟩
theorem foreign_itR {a b c : Int} : Foreign (itR a b c) := by
  refine ⟨(by intro _ h; cases h), ?_, ?_, ?_, (by intro h; cases h), (by intro _ _ h; cases h)⟩
  · intro dx h; injection h with h; injection h with h1; cases h1
  · intro _ _ _ h; injection h with h; injection h with h1 h2 h3; cases h3
  · intro _ h; injection h with h; injection h with h1 h2 h3; cases h3
theorem foreign_tab {ps : Array Value} : Foreign (.obj (tabObj ps)) := by
  refine ⟨(by intro _ h; cases h), ?_, ?_, ?_, (by intro h; cases h), (by intro _ _ h; cases h)⟩
  · intro dx h; injection h with h; injection h with h1; cases h1
  · intro _ _ _ h; injection h with h; injection h with h1 h2 h3; cases h3
  · intro _ h; injection h with h; injection h with h1 h2 h3; cases h3
def FrameF (lxs : Nat → Addr) (H H' : HM) : Prop := ∀ a i, H a = some i → (∀ p ∈ persC, a ≠ lxs p) → a ≠ 217 → H' a = some i
theorem FrameF.refl {lxs : Nat → Addr} {H : HM} : FrameF lxs H H := fun _ _ e _ _ => e
theorem FrameF.trans {lxs : Nat → Addr} {X Y Z : HM} (a : FrameF lxs X Y) (b : FrameF lxs Y Z) : FrameF lxs X Z := fun c i e n m => b c i (a c i e n m) n m
theorem FrameF.ofSub {lxs : Nat → Addr} {X Y : HM} (k : Sub X Y) : FrameF lxs X Y := fun a i e _ _ => k a i e
structure BkF (w : World) (H : HM) (bk : Addr) (xs lxs : Nat → Addr) (T : Tabs) : Prop where
  bk : Books w H bk xs lxs T
  tab : TabF H
section
variable {w : World} {S : Shared} {B : HM} {A : Around} {H H' : HM} {L bk : Addr} {ns : List Str} {vs : List (Option Value)} {xs lxs : Nat → Addr} {T T' : Tabs} {env : Env} {pos : Pos} {p c o : Nat} {t u : Tok}
theorem Books.keep (K : Books w H bk xs lxs T) {a0 : Addr} (hf : ∀ i, H a0 = some i → Foreign i) (k : ∀ a i, H a = some i → a ≠ a0 → H' a = some i) : Books w H' bk xs lxs T := by
  refine ⟨k _ _ K.dct ?_, fun p hp => ?_, fun p hp => ?_, K.inj, K.good⟩
  · rintro rfl; exact (hf _ K.dct).k _ _ rfl
  · obtain ⟨dx, hsh, tk, a, b⟩ := K.hdr p hp
    refine ⟨dx, hsh, tk, k _ _ a ?_, k _ _ b ?_⟩
    · intro e; rw [e] at a; exact (hf _ a).x _ rfl
    · intro e; rw [e] at b; exact (hf _ b).d _ _ _ rfl
  · obtain ⟨r, t⟩ := K.tab p hp
    refine ⟨r, k _ _ t.1 ?_, t.2.1, fun i r e h1 h2 => ?_⟩
    · intro e; have := t.1; rw [e] at this; exact (hf _ this).l _ rfl
    · obtain ⟨t1, t2, h3⟩ := t.2.2 i r e h1 h2
      exact ⟨t1, t2, k _ _ h3 (by rintro rfl; exact (hf _ h3).t _ rfl)⟩
theorem TabF.keep (t : TabF H) {a0 : Addr} (hf : ∀ i, H a0 = some i → Foreign i) (n : a0 ≠ 217) (k : ∀ a i, H a = some i → a ≠ a0 → H' a = some i) : TabF H' := by
  rcases t with t | ⟨c', t1, t2⟩
  · exact .inl (k _ _ t (Ne.symm n))
  · exact .inr ⟨c', k _ _ t1 (Ne.symm n), k _ _ t2 (by rintro rfl; exact (hf _ t2).c rfl)⟩
theorem TabF.some (t : TabF H) : ∃ ps, H 217 = some (.obj (tabObj ps)) := by
  rcases t with t | ⟨_, t, _⟩ <;> exact ⟨_, t⟩
theorem TabF.ne (t : TabF H) {a : Addr} (h : H a = none) : a ≠ 217 := by
  obtain ⟨ps, e⟩ := t.some
  rintro rfl; rw [e] at h; cases h
theorem BkF.mono (K : BkF w H bk xs lxs T) (k : Sub H H') : BkF w H' bk xs lxs T := ⟨K.bk.mono k, K.tab.mono k⟩
theorem BkF.keep (K : BkF w H bk xs lxs T) {a0 : Addr} (hf : ∀ i, H a0 = some i → Foreign i) (n : a0 ≠ 217) (k : ∀ a i, H a = some i → a ≠ a0 → H' a = some i) : BkF w H' bk xs lxs T := ⟨K.bk.keep hf k, K.tab.keep hf n k⟩
theorem BkF.era (K : BkF w H bk xs lxs T) {a0 : Addr} (hf : ∀ i, H a0 = some i → Foreign i) (n : a0 ≠ 217) : BkF w (era H a0) bk xs lxs T :=
  K.keep hf n fun a i e z => by unfold Mine.era; rw [if_neg z]; exact e
theorem BkF.upd (K : BkF w H bk xs lxs T) {a0 : Addr} {j : Item} (hf : ∀ i, H a0 = some i → Foreign i) (n : a0 ≠ 217) : BkF w (upd H a0 j) bk xs lxs T :=
  K.keep hf n fun a i e z => (upd_ne z).trans e
theorem BkF.ne217 (K : BkF w H bk xs lxs T) {a : Addr} {i : Item} (h : H a = some i) (hi : ∀ ps, i ≠ .obj (tabObj ps)) : a ≠ 217 := by
  obtain ⟨ps, e⟩ := K.tab.some
  rintro rfl; rw [e] at h; cases h; exact hi _ rfl
/-- from the frame of put and strike to the frame with the code table -/
theorem BkF.ofBooks (K : BkF w H bk xs lxs T) (K' : Books w H' bk xs lxs T') (F : Frame lxs H H') : BkF w H' bk xs lxs T' := by
  have ne : ∀ {a : Addr} {i : Item}, H a = some i → (∀ us, i ≠ .lst us) → ∀ p ∈ persC, a ≠ lxs p := by
    intro a i e hi p hp z
    obtain ⟨r, t⟩ := K.bk.tab p hp
    rw [z, t.1] at e; cases e; exact hi _ rfl
  refine ⟨K', ?_⟩
  rcases K.tab with t | ⟨c', t1, t2⟩
  · exact .inl (F _ _ t (ne t (by intro _ h; cases h)))
  · exact .inr ⟨c', F _ _ t1 (ne t1 (by intro _ h; cases h)), F _ _ t2 (ne t2 (by intro _ h; cases h))⟩
theorem Frame.toF {lxs : Nat → Addr} {H H' : HM} (F : Frame lxs H H') : FrameF lxs H H' := fun a i e n _ => F a i e n
/-- a contract over the books and the code table, called from a frame -/
theorem f_bk {f : Value} {args : List Value} {V : Value → Prop} {Q : Value → Fst → Prop} (K : BkF w H bk xs lxs T)
    (y : ∀ H0, BkF w H0 bk xs lxs T → ∀ Q' : Result → HM → Prop, (∀ H' v, V v → BkF w H' bk xs lxs T' → FrameF lxs H0 H' → Q' (.ok (.ret v)) H') → codeG w S (St B) A (.call f ⟨args, []⟩) Q' H0)
    (q : ∀ H' v, V v → BkF w H' bk xs lxs T' → FrameF lxs H H' → Q v (vs, H')) : wpG w S (StF B L ns) A (call f args) Q (vs, H) := by
  refine f_fn fun hL => y _ (K.mono (Sub.new hL)) _ fun H' v hv K' F => ?_
  have n217 : L ≠ 217 := K.tab.ne hL
  have eL : H' L = some (.loc ns vs) := F L _ upd_same (fun p hp => K.bk.off hL hp) n217
  refine ⟨Mine.era H' L, fun a i e => ?_, if_pos rfl, v, rfl, q _ v hv (K'.era (fun i e => by rw [eL] at e; cases e; exact foreign_loc) n217) fun a i e n m => ?_⟩
  · by_cases z : a = L
    · subst z; rw [upd_same] at e; cases e; exact eL
    · rw [upd_ne z] at e; unfold Mine.era at e; rw [if_neg z] at e; exact e
  · have z : a ≠ L := by first | exact nn e (hL) | exact Ne.symm (nn e (hL)) | exact nn (hL) e | exact Ne.symm (nn (hL) e) | (rintro rfl; rw [hL] at e; cases e)
    unfold Mine.era; rw [if_neg z]
    exact F a i (Sub.new hL _ _ e) n m
/-! what the pure side says -/
def freeT (tab : List (Nat × Nat)) : Nat := 97 + ((List.range 13).find? fun m => !(tab.map (·.1)).contains (97 + m)).getD 0
theorem freeT_of {tab : List (Nat × Nat)} {m : Nat} (hm : m < 13) (h1 : ∀ j, j < m → 97 + j ∈ tab.map (·.1)) (h2 : 97 + m ∉ tab.map (·.1)) : freeT tab = 97 + m := by
  unfold freeT
  have : (List.range 13).find? (fun m => !(tab.map (·.1)).contains (97 + m)) = some m := by
    rw [List.find?_range_eq_some]
    refine ⟨by simpa using h2, by simpa using hm, fun j hj => ?_⟩
    simpa using h1 j hj
  rw [this]; rfl
theorem bk_free {Q : Value → Fst → Prop} (b : BaseOk w B) (hA : Room A 60) (K : BkF w H bk xs lxs T) (hp : p ∈ persC)
    (q : ∀ H' t, BkF w H' bk xs lxs T → FrameF lxs H H' → Q (.str ⟨#[freeT (T p)]⟩ t) (vs, H')) : wpG w S (StF B L ns) A (call (.ref 222) [.ref (xs p)]) Q (vs, H) := by
  refine f_bk (T' := T) (V := fun v => ∃ t, v = .str ⟨#[freeT (T p)]⟩ t) K (fun H0 K0 Q' q' => ?_) fun H' v hv K' F => ?_
  · obtain ⟨refs, tp⟩ := K0.bk.tab p hp
    have g := K0.bk.good
    refine free_spec b hA (K0.bk.hdr p hp) tp (g.key p hp) (g.nd p hp) (g.len hp) K0.tab fun m t H' hm h1 h2 hT F => ?_
    have e := freeT_of (tab := T p) (m := m) (by have := g.len hp; (exact Nat.lt_succ_of_le (Nat.le_trans hm this))) h1 h2
    obtain ⟨ps, e217⟩ := K0.tab.some
    refine q' H' _ ⟨t, by rw [e]⟩ ⟨K0.bk.keep (a0 := 217) (fun i ei => by rw [e217] at ei; cases ei; exact foreign_tab) F, hT⟩ fun a i ea _ na => F a i ea na
  · obtain ⟨t, rfl⟩ := hv
    exact q H' t K' F
theorem bk_put {Q : Value → Fst → Prop} {t1 t2 t3 : Tok} {a c h : Nat} (b : BaseOk w B) (hA : Room A 50) (K : BkF w H bk xs lxs T) (ha : a ∈ persC) (hc : c ∈ persC) (hh : h ∈ hourC)
    (q : ∀ H', BkF w H' bk xs lxs (setT (setT T a h c) c h a) → FrameF lxs H H' → Q .none (vs, H')) : wpG w S (StF B L ns) A (call (.ref 229) [.ref bk, .str ⟨#[a]⟩ t1, .str ⟨#[c]⟩ t2, .str ⟨#[h]⟩ t3]) Q (vs, H) :=
  f_bk (T' := setT (setT T a h c) c h a) (V := fun v => v = .none) K (fun H0 K0 Q' q' => put_spec b hA K0.bk ha hc hh fun H' K' F => q' H' _ rfl (K0.ofBooks K' F) F.toF) fun H' v hv K' F => by subst hv; exact q H' K' F
theorem bk_strike {Q : Value → Fst → Prop} {t1 t2 t3 : Tok} {a c h : Nat} (b : BaseOk w B) (hA : Room A 50) (K : BkF w H bk xs lxs T) (ha : a ∈ persC) (hc : c ∈ persC) (hh : h ∈ hourC)
    (q : ∀ H', BkF w H' bk xs lxs (delT (delT T a h) c h) → FrameF lxs H H' → Q .none (vs, H')) : wpG w S (StF B L ns) A (call (.ref 236) [.ref bk, .str ⟨#[a]⟩ t1, .str ⟨#[c]⟩ t2, .str ⟨#[h]⟩ t3]) Q (vs, H) :=
  f_bk (T' := delT (delT T a h) c h) (V := fun v => v = .none) K (fun H0 K0 Q' q' => strike_spec b hA K0.bk ha hc hh fun H' K' F => q' H' _ rfl (K0.ofBooks K' F) F.toF) fun H' v hv K' F => by subst hv; exact q H' K' F
end
end Mine
end
/-! part H19 -/
section
open PySem PySem.W PySem.Calls PyProof.Rows
set_option maxRecDepth 100000
set_option maxHeartbeats 4000000
set_option linter.unusedVariables false
namespace Mine
/-! _law_lesson, on the tables -/
def hrOf (a b : Nat) (i : Nat) : Nat := if i % 2 = 0 then a else b
def ptOf (g : Nat) (rest : List Nat) (i : Nat) : Nat := (g :: rest).getD i 0
def strikesN (T : Tabs) (pt hr : Nat → Nat) : Nat → Tabs
  | 0 => T
  | i + 1 => delT (delT (strikesN T pt hr i) (pt i) (hr i)) (pt (i + 1)) (hr i)
def putsN (T : Tabs) (pt hr : Nat → Nat) : Nat → Tabs
  | 0 => T
  | i + 1 => setT (setT (putsN T pt hr i) (pt i) (hr (i + 1)) (pt (i + 1))) (pt (i + 1)) (hr (i + 1)) (pt i)
/-- the way that the lesson walks: rest is what stands behind the group -/
def WayOf (T : Tabs) (a b g : Nat) (rest : List Nat) : Prop := ∀ i, i ≤ rest.length → (T (ptOf g rest i)).lookup (hrOf a b i) = rest[i]?
def lessonT (T : Tabs) (t g : Nat) (rest : List Nat) : Tabs :=
  let a := freeT (T t)
  let b := freeT (T g)
  setT (setT (putsN (strikesN T (ptOf g rest) (hrOf a b) rest.length) (ptOf g rest) (hrOf a b) rest.length) t a g) g a t
abbrev ssTeacher : Str := ⟨#[116, 101, 97, 99, 104, 101, 114]⟩
abbrev ssGroup : Str := ⟨#[103, 114, 111, 117, 112]⟩
abbrev ssHours : Str := ⟨#[104, 111, 117, 114, 115]⟩
abbrev ssWay : Str := ⟨#[119, 97, 121]⟩
abbrev ssMet : Str := ⟨#[109, 101, 116]⟩
abbrev nsLes : List Str := [ssBooks, ssTeacher, ssGroup, ssHours, ssWay, ssMet, ⟨#[107]⟩]
theorem hr_mem {a b i : Nat} (ha : a ∈ hourC) (hb : b ∈ hourC) : hrOf a b i ∈ hourC := by unfold hrOf; split <;> assumption
theorem lookup_val {tab : List (Nat × Nat)} {c o : Nat} (h : tab.lookup c = some o) : ∃ e ∈ tab, e.2 = o := by
  induction tab with
  | nil => cases h
  | cons e r ih =>
    rw [List.lookup_cons] at h
    cases hc : c == e.1 with
    | true => rw [hc] at h; cases h; exact ⟨e, List.mem_cons_self, rfl⟩
    | false => rw [hc] at h; obtain ⟨e', m, q⟩ := ih h; exact ⟨e', List.mem_cons_of_mem _ m, q⟩
theorem pt_mem {T : Tabs} (g : GoodT T) {a b gr : Nat} {rest : List Nat} (hg : gr ∈ persC) (hw : WayOf T a b gr rest) : ∀ i, i ≤ rest.length → ptOf gr rest i ∈ persC
  | 0, _ => hg
  | i + 1, h => by
    have ih := pt_mem g hg hw i (by exact Nat.le_of_succ_le h)
    have e := hw i (by exact Nat.le_of_succ_le h)
    rw [List.getElem?_eq_getElem (show i < rest.length by exact Nat.lt_of_succ_le h)] at e
    obtain ⟨e', m, q⟩ := lookup_val e
    have : ptOf gr rest (i + 1) = rest[i] := by
      unfold ptOf
      rw [List.getD_eq_getElem?_getD, List.getElem?_cons_succ, List.getElem?_eq_getElem (show i < rest.length by exact Nat.lt_of_succ_le h)]; rfl
    rw [this, ← q]
    exact g.val _ ih e' m
section
variable {w : World} {S : Shared} {B : HM} {A : Around} {H H' : HM} {L bk : Addr} {ns : List Str} {vs : List (Option Value)} {xs lxs : Nat → Addr} {T T' : Tabs} {env : Env} {pos : Pos} {p c o : Nat} {t u : Tok}
theorem BkF.nl (K : BkF w H bk xs lxs T) {a : Addr} {i : Item} (e : H a = some i) (hi : ∀ us, i ≠ .lst us) : ∀ p ∈ persC, a ≠ lxs p := by
  intro p hp z
  obtain ⟨r, t⟩ := K.bk.tab p hp
  rw [z, t.1] at e; cases e; exact hi _ rfl
theorem BkF.updL (K : BkF w H bk xs lxs T) {a0 : Addr} {us : List Value} {j : Item} (hl : H a0 = some (.lst us)) (n : ∀ p ∈ persC, a0 ≠ lxs p) : BkF w (Mine.upd H a0 j) bk xs lxs T := by
  have k : ∀ {a : Addr} {i : Item}, H a = some i → (∀ us, i ≠ .lst us) → Mine.upd H a0 j a = some i := fun {a i} e hi => (upd_ne (by first | exact nn e (hl) | exact Ne.symm (nn e (hl)) | exact nn (hl) e | exact Ne.symm (nn (hl) e) | (rintro rfl; rw [hl] at e; cases e); exact hi _ rfl)).trans e
  refine ⟨⟨k K.bk.dct (by intro _ h; cases h), fun p hp => ?_, fun p hp => ?_, K.bk.inj, K.bk.good⟩, ?_⟩
  · obtain ⟨dx, hsh, tk, a, b⟩ := K.bk.hdr p hp
    exact ⟨dx, hsh, tk, k a (by intro _ h; cases h), k b (by intro _ h; cases h)⟩
  · obtain ⟨r, t⟩ := K.bk.tab p hp
    exact ⟨r, (upd_ne (Ne.symm (n p hp))).trans t.1, t.2.1, fun i r e h1 h2 => let ⟨t1, t2, h3⟩ := t.2.2 i r e h1 h2; ⟨t1, t2, k h3 (by intro _ h; cases h)⟩⟩
  · rcases K.tab with t | ⟨c', t1, t2⟩
    · exact .inl (k t (by intro _ h; cases h))
    · exact .inr ⟨c', k t1 (by intro _ h; cases h), k t2 (by intro _ h; cases h)⟩
theorem s_int {σ : Type} {J : σ → Heap → Prop} {x : σ} {d : Sem Value} {i : Int} {k : Nat} {pos : Pos} {rest : List (Bool × Sem Value)} {Q : List Value → σ → Prop} (q : ∀ t, wpG w S J A (spliced rest) (fun vs => Q (.int i t :: vs)) x) : wpG w S J A (spliced ((false, if false = true then d else eval (.Constant (.int i) k pos) env) :: rest)) Q x :=
  s_cons (wpG_mkInt fun t => q t)
abbrev lsI1 (w : World) (H : HM) (bk : Addr) (xs lxs : Nat → Addr) (T : Tabs) (te gr a b : Nat) (rest : List Nat) (t1 t2 t3 t4 : Tok) (lh lw : Addr) : Nat → Fst → Prop := fun m y => ∃ i mv' wv X, y = ([some (.ref bk), some (.str ⟨#[te]⟩ t1), some (.str ⟨#[gr]⟩ t2), some (.ref lh), some (.ref lw), some mv', none], X) ∧ m = rest.length - i ∧ i ≤ rest.length ∧ X lw = some (.lst wv) ∧ X lh = some (.lst [.str ⟨#[a]⟩ t3, .str ⟨#[b]⟩ t4]) ∧ ChrL wv (gr :: rest.take i) ∧ IsGot mv' rest[i]? ∧ BkF w X bk xs lxs T ∧ FrameF lxs H X
abbrev lsI2 (w : World) (H : HM) (bk : Addr) (xs lxs : Nat → Addr) (T : Tabs) (te gr a b : Nat) (rest : List Nat) (t1 t2 t3 t4 : Tok) (lh lw : Addr) (wv : List Value) (I : Addr) : Nat → Fst → Prop := fun i y => ∃ kv Z, y = ([some (.ref bk), some (.str ⟨#[te]⟩ t1), some (.str ⟨#[gr]⟩ t2), some (.ref lh), some (.ref lw), some .none, kv], Z) ∧ Z I = some (itR (1 + (i : Int) * 1) ((rest.length : Int) - (i : Int)) 1) ∧ Z lw = some (.lst wv) ∧ Z lh = some (.lst [.str ⟨#[a]⟩ t3, .str ⟨#[b]⟩ t4]) ∧ BkF w Z bk xs lxs (strikesN T (ptOf gr rest) (hrOf a b) i) ∧ FrameF lxs H Z
abbrev lsI3 (w : World) (H : HM) (bk : Addr) (xs lxs : Nat → Addr) (T : Tabs) (te gr a b : Nat) (rest : List Nat) (t1 t2 t3 t4 : Tok) (lh lw : Addr) (wv : List Value) (I : Addr) : Nat → Fst → Prop := fun i y => ∃ kv Z, y = ([some (.ref bk), some (.str ⟨#[te]⟩ t1), some (.str ⟨#[gr]⟩ t2), some (.ref lh), some (.ref lw), some .none, kv], Z) ∧ Z I = some (itR (1 + (i : Int) * 1) ((rest.length : Int) - (i : Int)) 1) ∧ Z lw = some (.lst wv) ∧ Z lh = some (.lst [.str ⟨#[a]⟩ t3, .str ⟨#[b]⟩ t4]) ∧ BkF w Z bk xs lxs (putsN (strikesN T (ptOf gr rest) (hrOf a b) rest.length) (ptOf gr rest) (hrOf a b) i) ∧ FrameF lxs H Z
theorem lesson_spec {Q : Result → HM → Prop} {t1 t2 : Tok} {te gr a b : Nat} {rest : List Nat} (bo : BaseOk w B) (hA : Room A 80) (K : BkF w H bk xs lxs T) (ht : te ∈ persC) (hg : gr ∈ persC) (ea : a = freeT (T te)) (eb : b = freeT (T gr)) (ha : a ∈ hourC) (hb : b ∈ hourC)
    (hw : WayOf T a b gr rest) (hz : rest.length ≤ 1000)
    (q : ∀ H', BkF w H' bk xs lxs (lessonT T te gr rest) → FrameF lxs H H' → Q (.ok (.ret .none)) H') :
    codeG w S (St B) A (.call (.ref 243) ⟨[.ref bk, .str ⟨#[te]⟩ t1, .str ⟨#[gr]⟩ t2], []⟩) Q H := by
  refine enter bo hA (hd.zo_245 w.params) [.ref bk, .str ⟨#[te]⟩ t1, .str ⟨#[gr]⟩ t2] (by kernel_rfl) rfl (by kernel_rfl) (ns := nsLes) ⟨rfl, by decide +kernel, by decide +kernel, by decide +kernel⟩ (fun s X => BindsTo.of_eq rfl) (Nat.le_of_ble_eq_true rfl) rfl rfl (by decide +kernel) ?_
  intro A1 L env hA1 f hsc
  refine x_cons (x_assign ?_)
  refine e_list (s_cons ?_)
  refine e_call (f_global (v := .ref 222) bo f (by kernel_rfl) (by rw [hsc]; rfl) (by decide +kernel) ?_)
  refine c_with rfl (a_pos (s_cons ?_))
  refine e_sub (f_local f 0 rfl rfl (f_local f 1 rfl rfl (tl_books K.bk ht (s_nil ⟨Keep.fn bo (by kernel_rfl), ?_⟩))))
  refine bk_free bo (hA1.mono (by exact Nat.le_add_left _ _)) K ht fun H1 t3 K1 F1 => ?_
  refine s_cons ?_
  refine e_call (f_global (v := .ref 222) bo f (by kernel_rfl) (by rw [hsc]; rfl) (by decide +kernel) ?_)
  refine c_with rfl (a_pos (s_cons ?_))
  refine e_sub (f_local f 0 rfl rfl (f_local f 2 rfl rfl (tl_books K1.bk hg (s_nil ⟨Keep.fn bo (by kernel_rfl), ?_⟩))))
  refine bk_free bo (hA1.mono (by exact Nat.le_add_left _ _)) K1 hg fun H2 t4 K2 F2 => ?_
  refine s_nil ⟨Nat.le_of_ble_eq_true rfl, fun lh g1 g2 => ?_⟩
  rw [← ea, ← eb]
  replace g1 : H2 lh = none := g1
  have hlh : ∀ p ∈ persC, lh ≠ lxs p := fun p hp => K2.bk.off g1 hp
  have nlh : lh ≠ 217 := K2.tab.ne g1
  refine f_store f 3 rfl (Nat.le_of_ble_eq_true rfl) ?_
  refine x_cons (x_assign (e_list (s_cons (f_local f 2 rfl rfl (s_nil ⟨Nat.le_of_ble_eq_true rfl, fun lw g3 g4 => ?_⟩)))))
  replace g3 : upd H2 lh (.lst [.str ⟨#[a]⟩ t3, .str ⟨#[b]⟩ t4]) lw = none := g3
  have F3 : FrameF lxs H (upd (upd H2 lh (.lst [.str ⟨#[a]⟩ t3, .str ⟨#[b]⟩ t4])) lw (.lst [.str ⟨#[gr]⟩ t2])) := (F1.trans F2).trans (.ofSub ((Sub.new g1).trans (Sub.new g3)))
  have K3 : BkF w (upd (upd H2 lh (.lst [.str ⟨#[a]⟩ t3, .str ⟨#[b]⟩ t4])) lw (.lst [.str ⟨#[gr]⟩ t2])) bk xs lxs T := K2.mono ((Sub.new g1).trans (Sub.new g3))
  have hlw : ∀ p ∈ persC, lw ≠ lxs p := fun p hp => (K2.mono (Sub.new g1)).bk.off g3 hp
  have nlw : lw ≠ 217 := (K2.mono (Sub.new g1)).tab.ne g3
  have nhw : lh ≠ lw := by first | exact nn g3 (upd_same) | exact Ne.symm (nn g3 (upd_same)) | exact nn (upd_same) g3 | exact Ne.symm (nn (upd_same) g3) | (rintro rfl; rw [upd_same] at g3; cases g3)
  have e1 : upd (upd H2 lh (.lst [.str ⟨#[a]⟩ t3, .str ⟨#[b]⟩ t4])) lw (.lst [.str ⟨#[gr]⟩ t2]) lh = some (.lst [.str ⟨#[a]⟩ t3, .str ⟨#[b]⟩ t4]) := upd_old g3 upd_same
  have e2 : upd (upd H2 lh (.lst [.str ⟨#[a]⟩ t3, .str ⟨#[b]⟩ t4])) lw (.lst [.str ⟨#[gr]⟩ t2]) lw = some (.lst [.str ⟨#[gr]⟩ t2]) := upd_same
  have hHlh : H lh = none := by
    cases e : H lh with
    | none => rfl
    | some i => have := (F1.trans F2) lh i e hlh nlh; rw [g1] at this; cases this
  have hHlw : H lw = none := by
    cases e : H lw with
    | none => rfl
    | some i => have := (F1.trans F2) lw i e hlw nlw; rw [upd_ne (Ne.symm nhw)] at g3; rw [g3] at this; cases this
  generalize upd (upd H2 lh (.lst [.str ⟨#[a]⟩ t3, .str ⟨#[b]⟩ t4])) lw (.lst [.str ⟨#[gr]⟩ t2]) = H3 at *
  refine f_store f 4 rfl (Nat.le_of_ble_eq_true rfl) ?_
  have pm := pt_mem K3.bk.good hg hw
  -- the hours' list, read
  have hrs : ∀ (i : Nat), ([.str ⟨#[a]⟩ t3, .str ⟨#[b]⟩ t4] : List Value)[((i % 2 : Nat) : Int).toNat]? = some (.str ⟨#[hrOf a b i]⟩ (if i % 2 = 0 then t3 else t4)) := by
    intro i
    rcases Nat.mod_two_eq_zero_or_one i with h | h <;> (unfold hrOf; rw [h]; rfl)
  refine x_cons (x_assign ?_)
  refine e_meth rfl (e_sub (f_local f 0 rfl rfl (f_local f 2 rfl rfl (tl_books K3.bk hg ?_))))
  refine g_meth bo (K3.bk.hdr gr hg) (f := 158) (by kernel_rfl) (by kernel_rfl) (by decide +kernel) ?_
  refine c_with rfl (a_pos (s_cons (e_sub (f_local f 3 rfl rfl (e_int fun t5 => tl_list e1 (by decide) (by decide) (hrs 0) (s_nil ⟨Keep.fn bo (by kernel_rfl), ?_⟩))))))
  refine bk_get bo (hA1.mono (by exact Nat.le_add_left _ _)) K3.bk hg ha fun mv hmv => ?_
  refine f_store f 5 rfl (Nat.le_of_ble_eq_true rfl) ?_
  refine x_cons (x_while (lsI1 w H bk xs lxs T te gr a b rest t1 t2 t3 t4 lh lw) ?_ rest.length ?_)
  · rintro m us X ⟨i, mv', wv, X', hz2, hm, hi, x1, x2, x3, x4, x5, x6⟩
    cases hz2
    refine t_cmp (f_local f 5 rfl rfl (e_none (c_isnot ?_ (t_bool ?_))))
    · cases hr : rest[i]? with
      | none => rw [hr] at x4; unfold IsGot at x4; subst x4; rfl
      | some o => rw [hr] at x4; obtain ⟨t, rfl⟩ := x4; rfl
    by_cases hil : i < rest.length
    · rw [List.getElem?_eq_getElem hil] at x4
      obtain ⟨tm, rfl⟩ := x4
      rw [if_pos (by rfl)]
      have hpt : rest[i] = ptOf gr rest (i + 1) := by
        unfold ptOf
        rw [List.getD_eq_getElem?_getD, List.getElem?_cons_succ, List.getElem?_eq_getElem hil]; rfl
      have hop : rest[i] ∈ persC := by rw [hpt]; exact pm (i + 1) (by exact Nat.succ_le_of_lt hil)
      have hwl : wv.length = i + 1 := by rw [x3.1, List.length_cons, List.length_take]; (exact Mine.mm1 hi)
      refine x_cons (x_expr (hi := by unfold interactive; rw [hsc]; rfl) ?_)
      refine e_meth rfl (f_local f 4 rfl rfl (m_append x1 ?_))
      refine c_with rfl (a_pos (s_cons (f_local f 5 rfl rfl (s_nil ⟨Keep.builtin, ?_⟩))))
      refine f_append x1 (by rw [hwl]; show i + 1 ≤ 16777216; (exact sm2 (Nat.le_trans hi hz) (Nat.le_refl _) (Nat.le_add_left _ _))) ?_
      have x5' : BkF w (upd X lw (.lst (wv ++ [.str ⟨#[rest[i]]⟩ tm]))) bk xs lxs T := x5.updL x1 hlw
      refine x_cons (x_assign ?_)
      refine e_meth rfl (e_sub (f_local f 0 rfl rfl (f_local f 5 rfl rfl (tl_books x5'.bk hop ?_))))
      refine g_meth bo (x5'.bk.hdr _ hop) (f := 158) (by kernel_rfl) (by kernel_rfl) (by decide +kernel) ?_
      refine c_with rfl (a_pos (s_cons (e_sub (f_local f 3 rfl rfl ?_))))
      refine e_bin (e_bin ?_)
      refine e_call (f_builtin (v := .builtin "len") bo f (by kernel_rfl) (by kernel_rfl) (by decide) (by rw [hsc]; rfl) (by decide +kernel) ?_)
      refine c_with rfl (a_pos (s_cons (f_local f 4 rfl rfl (s_nil ⟨Keep.builtin, ?_⟩))))
      refine f_len upd_same (by simp; rw [hwl]; show i + 1 + 1 ≤ 16777216; (exact Mine.lsz hil hz)) fun t6 => ?_
      refine e_int fun t7 => b_sub fun t8 => e_int fun t9 => b_mod (by decide) fun t10 => ?_
      have em : ((((wv ++ [.str ⟨#[rest[i]]⟩ tm] : List Value).length : Nat) : Int) - 1).fmod 2 = (((i + 1) % 2 : Nat) : Int) := by
        rw [List.length_append, hwl]
        rw [Int.fmod_eq_emod_of_nonneg _ (by decide)]
        simp
      rw [em]
      refine tl_list ((upd_ne nhw).trans x2) (by exact Int.natCast_nonneg _) (by exact Mine.ci5) (hrs (i + 1)) (s_nil ⟨Keep.fn bo (by kernel_rfl), ?_⟩)
      refine bk_get bo (hA1.mono (by exact Nat.le_add_left _ _)) x5'.bk hop (hr_mem ha hb) fun mv2 hmv2 => ?_
      refine f_store f 5 rfl (Nat.le_of_ble_eq_true rfl) ?_
      refine x_nil ⟨rest.length - (i + 1), _, by exact Mine.q3 hm hil, ⟨i + 1, mv2, _, _, rfl, rfl, by exact Nat.succ_le_of_lt hil, upd_same, (upd_ne nhw).trans x2, ?_, ?_, x5', ?_⟩, Sub.refl⟩
      · rw [List.take_add_one, List.getElem?_eq_getElem hil]
        exact ChrL.snoc x3
      · rw [hpt, hw (i + 1) (by exact Nat.succ_le_of_lt hil)] at hmv2
        exact hmv2
      · intro y j ey ny my
        exact (upd_ne (by first | exact nn ey (hHlw) | exact Ne.symm (nn ey (hHlw)) | exact nn (hHlw) ey | exact Ne.symm (nn (hHlw) ey) | (rintro rfl; rw [hHlw] at ey; cases ey))).trans (x6 y j ey ny my)
    · have : i = rest.length := by exact Nat.le_antisymm hi (Nat.le_of_not_lt hil)
      subst this
      rw [List.getElem?_eq_none (Nat.le_refl _)] at x4
      have : mv' = .none := x4
      subst this
      rw [if_neg (by decide)]
      rw [List.take_length] at x3
      have hwl : wv.length = rest.length + 1 := by rw [x3.1, List.length_cons]
      refine x_cons (x_for ?_)
      refine e_call (f_builtin (v := .type "range") bo f (by kernel_rfl) (by kernel_rfl) (by decide) (by rw [hsc]; rfl) (by decide +kernel) ?_)
      refine c_with rfl (a_pos (s_int fun t5 => s_cons ?_))
      refine e_call (f_builtin (v := .builtin "len") bo f (by kernel_rfl) (by kernel_rfl) (by decide) (by rw [hsc]; rfl) (by decide +kernel) ?_)
      refine c_with rfl (a_pos (s_cons (f_local f 4 rfl rfl (s_nil ⟨Keep.builtin, ?_⟩))))
      refine f_len x1 (by rw [hwl]; show rest.length + 1 ≤ 16777216; (exact Nat.le_trans (Nat.add_le_add_right hz _) (Nat.le_add_left _ _))) fun t6 => s_nil ⟨Keep.type, ?_⟩
      refine r_range2 fun r h1 h2 => ?_
      refine i_range (upd_same) (by decide) (by decide) (by exact Mine.ci13) (by omega) fun I h3 h4 => ?_
      replace h1 : X r = none := h1
      replace h3 : upd X r (rngI 1 wv.length) I = none := h3
      have hr217 : r ≠ 217 := x5.tab.ne h1
      have K6 : BkF w (upd (upd X r (rngI 1 wv.length)) I (itR 1 (if (1 : Int) < wv.length then wv.length - 1 else 0) 1)) bk xs lxs T := x5.mono ((Sub.new h1).trans (Sub.new h3))
      have F6 : FrameF lxs H (upd (upd X r (rngI 1 wv.length)) I (itR 1 (if (1 : Int) < wv.length then wv.length - 1 else 0) 1)) := x6.trans (.ofSub ((Sub.new h1).trans (Sub.new h3)))
      have w6 : upd (upd X r (rngI 1 wv.length)) I (itR 1 (if (1 : Int) < wv.length then wv.length - 1 else 0) 1) lw = some (.lst wv) := upd_old h3 (upd_old h1 x1)
      have y6 : upd (upd X r (rngI 1 wv.length)) I (itR 1 (if (1 : Int) < wv.length then wv.length - 1 else 0) 1) lh = some (.lst [.str ⟨#[a]⟩ t3, .str ⟨#[b]⟩ t4]) := upd_old h3 (upd_old h1 x2)
      have i6 : upd (upd X r (rngI 1 wv.length)) I (itR 1 (if (1 : Int) < wv.length then wv.length - 1 else 0) 1) I = some (itR (1 + (0 : Nat) * 1) ((rest.length : Int) - (0 : Nat)) 1) := by
        rw [upd_same, hwl]
        by_cases h0 : rest.length = 0
        · simp [h0]
        · rw [if_pos (by exact Mine.ci15 h0)]; simp
      have hIH : H I = none := by
        cases e : H I with
        | none => rfl
        | some j =>
          have n1 : ∀ p ∈ persC, I ≠ lxs p := fun p hp => (x5.mono (Sub.new h1)).bk.off h3 hp
          have n2 : I ≠ 217 := (x5.mono (Sub.new h1)).tab.ne h3
          have : upd X r (rngI 1 wv.length) I = some j := Sub.new h1 _ _ (x6 I j e n1 n2)
          rw [h3] at this; cases this
      have hIlw : lw ≠ I := by first | exact nn h3 (upd_old h1 x1) | exact Ne.symm (nn h3 (upd_old h1 x1)) | exact nn (upd_old h1 x1) h3 | exact Ne.symm (nn (upd_old h1 x1) h3) | (rintro rfl; rw [upd_old h1 x1] at h3; cases h3)
      have hIlh : lh ≠ I := by first | exact nn h3 (upd_old h1 x2) | exact Ne.symm (nn h3 (upd_old h1 x2)) | exact nn (upd_old h1 x2) h3 | exact Ne.symm (nn (upd_old h1 x2) h3) | (rintro rfl; rw [upd_old h1 x2] at h3; cases h3)
      generalize upd (upd X r (rngI 1 wv.length)) I (itR 1 (if (1 : Int) < wv.length then wv.length - 1 else 0) 1) = Y6 at *
      refine code_for (n := rest.length) (iter_range hA1.hand 1 1 rest.length) (lsI2 w H bk xs lxs T te gr a b rest t1 t2 t3 t4 lh lw wv I) ?_ ?_ ?_ ?_ ?_
      · rintro i y ⟨kv, Z, rfl, z1, _⟩
        exact ⟨z1, trivial⟩
      · intro i v hv; trivial
      · rintro i v us X0 hi ⟨tk, rfl⟩ ⟨kv, Z, hz3, z1, z2, z3, z4, z5⟩
        cases hz3
        have n217 : I ≠ 217 := z4.ne217 z1 (by intro ps h; injection h with h; injection h with h1; cases h1)
        have nI : ∀ p ∈ persC, I ≠ lxs p := z4.nl z1 (by intro us h; cases h)
        refine t_name f 6 rfl (Nat.le_of_ble_eq_true rfl) ?_
        have z4' : BkF w (upd X0 I (itR (1 + ((i + 1 : Nat) : Int) * 1) ((rest.length : Int) - ((i + 1 : Nat) : Int)) 1)) bk xs lxs (strikesN T (ptOf gr rest) (hrOf a b) i) := z4.upd (fk z1 foreign_itR) n217
        have z2' := (upd_ne (i := itR (1 + ((i + 1 : Nat) : Int) * 1) ((rest.length : Int) - ((i + 1 : Nat) : Int)) 1) hIlw).trans z2
        have z3' := (upd_ne (i := itR (1 + ((i + 1 : Nat) : Int) * 1) ((rest.length : Int) - ((i + 1 : Nat) : Int)) 1) hIlh).trans z3
        have z5' : FrameF lxs H (upd X0 I (itR (1 + ((i + 1 : Nat) : Int) * 1) ((rest.length : Int) - ((i + 1 : Nat) : Int)) 1)) := fun y j ey ny my => (upd_ne (by first | exact nn ey (hIH) | exact Ne.symm (nn ey (hIH)) | exact nn (hIH) ey | exact Ne.symm (nn (hIH) ey) | (rintro rfl; rw [hIH] at ey; cases ey))).trans (z5 y j ey ny my)
        obtain ⟨ta, hta⟩ := x3.2 i (ptOf gr rest i) (by unfold ptOf; rw [List.getD_eq_getElem?_getD, List.getElem?_eq_getElem (show i < (gr :: rest).length by rw [List.length_cons]; (exact Nat.lt_succ_of_lt hi))]; rfl)
        obtain ⟨tb, htb⟩ := x3.2 (i + 1) (ptOf gr rest (i + 1)) (by unfold ptOf; rw [List.getD_eq_getElem?_getD, List.getElem?_eq_getElem (show i + 1 < (gr :: rest).length by rw [List.length_cons]; (exact Nat.add_lt_add_right hi _))]; rfl)
        have zi : upd X0 I (itR (1 + ((i + 1 : Nat) : Int) * 1) ((rest.length : Int) - ((i + 1 : Nat) : Int)) 1) I = some (itR (1 + ((i + 1 : Nat) : Int) * 1) ((rest.length : Int) - ((i + 1 : Nat) : Int)) 1) := upd_same
        generalize upd X0 I (itR (1 + ((i + 1 : Nat) : Int) * 1) ((rest.length : Int) - ((i + 1 : Nat) : Int)) 1) = Z1 at *
        refine x_cons (x_expr (hi := by unfold interactive; rw [hsc]; rfl) ?_)
        refine e_call (f_global (v := .ref 236) bo f (by kernel_rfl) (by rw [hsc]; rfl) (by decide +kernel) ?_)
        refine c_with rfl (a_pos (s_cons (f_local f 0 rfl rfl (s_cons ?_))))
        refine e_sub (f_local f 4 rfl rfl (e_bin (f_local f 6 rfl rfl (e_int fun t7 => b_sub fun t8 => ?_))))
        rw [show ((1 : Int) + (i : Int) * 1 - 1) = (i : Int) from by omega]
        refine tl_list z2' (by exact Int.natCast_nonneg _) (by exact Mine.ci7 hi hz) (by simpa using hta) (s_cons ?_)
        refine e_sub (f_local f 4 rfl rfl (f_local f 6 rfl rfl ?_))
        rw [show ((1 : Int) + (i : Int) * 1) = ((i + 1 : Nat) : Int) from by omega]
        refine tl_list z2' (by exact Int.natCast_nonneg _) (by exact Mine.ci10 hi hz) (by simpa using htb) (s_cons ?_)
        refine e_sub (f_local f 3 rfl rfl (e_bin (e_bin (f_local f 6 rfl rfl (e_int fun t9 => b_sub fun t10 => e_int fun t11 => b_mod (by decide) fun t12 => ?_)))))
        rw [show (((i + 1 : Nat) : Int) - 1).fmod 2 = ((i % 2 : Nat) : Int) from by rw [Int.fmod_eq_emod_of_nonneg _ (by decide)]; (exact Mine.ci4)]
        refine tl_list z3' (by exact Int.natCast_nonneg _) (by exact Mine.ci5) (hrs i) (s_nil ⟨Keep.fn bo (by kernel_rfl), ?_⟩)
        refine bk_strike bo (hA1.mono (by exact Nat.le_add_left _ _)) z4' (pm i (by exact Nat.le_of_lt hi)) (pm (i + 1) (by exact Nat.succ_le_of_lt hi)) (hr_mem ha hb) fun Z2 K9 F9 => ?_
        exact x_nil ⟨Z2, ⟨_, Z2, rfl, F9 I _ zi nI n217, F9 lw _ z2' hlw nlw, F9 lh _ z3' hlh nlh, K9, z5'.trans F9⟩, Sub.refl⟩
      · rintro us X0 ⟨kv, Z, hz3, z1, z2, z3, z4, z5⟩
        cases hz3
        have n217 : I ≠ 217 := z4.ne217 z1 (by intro ps h; injection h with h; injection h with h1; cases h1)
        have z4' : BkF w (era X0 I) bk xs lxs (strikesN T (ptOf gr rest) (hrOf a b) rest.length) := z4.era (fk z1 foreign_itR) n217
        have z2' : era X0 I lw = some (.lst wv) := (era_ne hIlw).trans z2
        have z3' : era X0 I lh = some (.lst [.str ⟨#[a]⟩ t3, .str ⟨#[b]⟩ t4]) := (era_ne hIlh).trans z3
        have z5' : FrameF lxs H (era X0 I) := fun y j ey ny my => by unfold era; rw [if_neg (by first | exact nn ey (hIH) | exact Ne.symm (nn ey (hIH)) | exact nn (hIH) ey | exact Ne.symm (nn (hIH) ey) | (rintro rfl; rw [hIH] at ey; cases ey))]; exact z5 y j ey ny my
        refine ⟨_, rfl, ?_⟩
        generalize era X0 I = Z1 at *
        refine x_cons (x_for ?_)
        refine e_call (f_builtin (v := .type "range") bo f (by kernel_rfl) (by kernel_rfl) (by decide) (by rw [hsc]; rfl) (by decide +kernel) ?_)
        refine c_with rfl (a_pos (s_int fun t5 => s_cons ?_))
        refine e_call (f_builtin (v := .builtin "len") bo f (by kernel_rfl) (by kernel_rfl) (by decide) (by rw [hsc]; rfl) (by decide +kernel) ?_)
        refine c_with rfl (a_pos (s_cons (f_local f 4 rfl rfl (s_nil ⟨Keep.builtin, ?_⟩))))
        refine f_len z2' (by rw [hwl]; show rest.length + 1 ≤ 16777216; (exact Nat.le_trans (Nat.add_le_add_right hz _) (Nat.le_add_left _ _))) fun t6 => s_nil ⟨Keep.type, ?_⟩
        refine r_range2 fun r h1 h2 => ?_
        refine i_range (upd_same) (by decide) (by decide) (by exact Mine.ci13) (by omega) fun I h3 h4 => ?_
        replace h1 : Z1 r = none := h1
        replace h3 : upd Z1 r (rngI 1 wv.length) I = none := h3
        have hr217 : r ≠ 217 := z4'.tab.ne h1
        have K7 : BkF w (upd (upd Z1 r (rngI 1 wv.length)) I (itR 1 (if (1 : Int) < wv.length then wv.length - 1 else 0) 1)) bk xs lxs (strikesN T (ptOf gr rest) (hrOf a b) rest.length) := z4'.mono ((Sub.new h1).trans (Sub.new h3))
        have F7 : FrameF lxs H (upd (upd Z1 r (rngI 1 wv.length)) I (itR 1 (if (1 : Int) < wv.length then wv.length - 1 else 0) 1)) := z5'.trans (.ofSub ((Sub.new h1).trans (Sub.new h3)))
        have w7 : upd (upd Z1 r (rngI 1 wv.length)) I (itR 1 (if (1 : Int) < wv.length then wv.length - 1 else 0) 1) lw = some (.lst wv) := upd_old h3 (upd_old h1 z2')
        have y7 : upd (upd Z1 r (rngI 1 wv.length)) I (itR 1 (if (1 : Int) < wv.length then wv.length - 1 else 0) 1) lh = some (.lst [.str ⟨#[a]⟩ t3, .str ⟨#[b]⟩ t4]) := upd_old h3 (upd_old h1 z3')
        have i7 : upd (upd Z1 r (rngI 1 wv.length)) I (itR 1 (if (1 : Int) < wv.length then wv.length - 1 else 0) 1) I = some (itR (1 + (0 : Nat) * 1) ((rest.length : Int) - (0 : Nat)) 1) := by
          rw [upd_same, hwl]
          by_cases h0 : rest.length = 0
          · simp [h0]
          · rw [if_pos (by exact Mine.ci15 h0)]; simp
        have hIH : H I = none := by
          cases e : H I with
          | none => rfl
          | some j =>
            have n1 : ∀ p ∈ persC, I ≠ lxs p := fun p hp => (z4'.mono (Sub.new h1)).bk.off h3 hp
            have n2 : I ≠ 217 := (z4'.mono (Sub.new h1)).tab.ne h3
            have : upd Z1 r (rngI 1 wv.length) I = some j := Sub.new h1 _ _ (z5' I j e n1 n2)
            rw [h3] at this; cases this
        have hIlw : lw ≠ I := by first | exact nn h3 (upd_old h1 z2') | exact Ne.symm (nn h3 (upd_old h1 z2')) | exact nn (upd_old h1 z2') h3 | exact Ne.symm (nn (upd_old h1 z2') h3) | (rintro rfl; rw [upd_old h1 z2'] at h3; cases h3)
        have hIlh : lh ≠ I := by first | exact nn h3 (upd_old h1 z3') | exact Ne.symm (nn h3 (upd_old h1 z3')) | exact nn (upd_old h1 z3') h3 | exact Ne.symm (nn (upd_old h1 z3') h3) | (rintro rfl; rw [upd_old h1 z3'] at h3; cases h3)
        generalize upd (upd Z1 r (rngI 1 wv.length)) I (itR 1 (if (1 : Int) < wv.length then wv.length - 1 else 0) 1) = Y7 at *
        refine code_for (n := rest.length) (iter_range hA1.hand 1 1 rest.length) (lsI3 w H bk xs lxs T te gr a b rest t1 t2 t3 t4 lh lw wv I) ?_ ?_ ?_ ?_ ?_
        · rintro i y ⟨kv, Z, rfl, z1, _⟩
          exact ⟨z1, trivial⟩
        · intro i v hv; trivial
        · rintro i v us X0 hi ⟨tk, rfl⟩ ⟨kv, Z, hz3, z1, z2, z3, z4, z5⟩
          cases hz3
          have n217 : I ≠ 217 := z4.ne217 z1 (by intro ps h; injection h with h; injection h with h1; cases h1)
          have nI : ∀ p ∈ persC, I ≠ lxs p := z4.nl z1 (by intro us h; cases h)
          refine t_name f 6 rfl (Nat.le_of_ble_eq_true rfl) ?_
          have z4' : BkF w (upd X0 I (itR (1 + ((i + 1 : Nat) : Int) * 1) ((rest.length : Int) - ((i + 1 : Nat) : Int)) 1)) bk xs lxs (putsN (strikesN T (ptOf gr rest) (hrOf a b) rest.length) (ptOf gr rest) (hrOf a b) i) := z4.upd (fk z1 foreign_itR) n217
          have z2' := (upd_ne (i := itR (1 + ((i + 1 : Nat) : Int) * 1) ((rest.length : Int) - ((i + 1 : Nat) : Int)) 1) hIlw).trans z2
          have z3' := (upd_ne (i := itR (1 + ((i + 1 : Nat) : Int) * 1) ((rest.length : Int) - ((i + 1 : Nat) : Int)) 1) hIlh).trans z3
          have z5' : FrameF lxs H (upd X0 I (itR (1 + ((i + 1 : Nat) : Int) * 1) ((rest.length : Int) - ((i + 1 : Nat) : Int)) 1)) := fun y j ey ny my => (upd_ne (by first | exact nn ey (hIH) | exact Ne.symm (nn ey (hIH)) | exact nn (hIH) ey | exact Ne.symm (nn (hIH) ey) | (rintro rfl; rw [hIH] at ey; cases ey))).trans (z5 y j ey ny my)
          obtain ⟨ta, hta⟩ := x3.2 i (ptOf gr rest i) (by unfold ptOf; rw [List.getD_eq_getElem?_getD, List.getElem?_eq_getElem (show i < (gr :: rest).length by rw [List.length_cons]; (exact Nat.lt_succ_of_lt hi))]; rfl)
          obtain ⟨tb, htb⟩ := x3.2 (i + 1) (ptOf gr rest (i + 1)) (by unfold ptOf; rw [List.getD_eq_getElem?_getD, List.getElem?_eq_getElem (show i + 1 < (gr :: rest).length by rw [List.length_cons]; (exact Nat.add_lt_add_right hi _))]; rfl)
          have zi : upd X0 I (itR (1 + ((i + 1 : Nat) : Int) * 1) ((rest.length : Int) - ((i + 1 : Nat) : Int)) 1) I = some (itR (1 + ((i + 1 : Nat) : Int) * 1) ((rest.length : Int) - ((i + 1 : Nat) : Int)) 1) := upd_same
          generalize upd X0 I (itR (1 + ((i + 1 : Nat) : Int) * 1) ((rest.length : Int) - ((i + 1 : Nat) : Int)) 1) = Z1 at *
          refine x_cons (x_expr (hi := by unfold interactive; rw [hsc]; rfl) ?_)
          refine e_call (f_global (v := .ref 229) bo f (by kernel_rfl) (by rw [hsc]; rfl) (by decide +kernel) ?_)
          refine c_with rfl (a_pos (s_cons (f_local f 0 rfl rfl (s_cons ?_))))
          refine e_sub (f_local f 4 rfl rfl (e_bin (f_local f 6 rfl rfl (e_int fun t7 => b_sub fun t8 => ?_))))
          rw [show ((1 : Int) + (i : Int) * 1 - 1) = (i : Int) from by omega]
          refine tl_list z2' (by exact Int.natCast_nonneg _) (by exact Mine.ci7 hi hz) (by simpa using hta) (s_cons ?_)
          refine e_sub (f_local f 4 rfl rfl (f_local f 6 rfl rfl ?_))
          rw [show ((1 : Int) + (i : Int) * 1) = ((i + 1 : Nat) : Int) from by omega]
          refine tl_list z2' (by exact Int.natCast_nonneg _) (by exact Mine.ci10 hi hz) (by simpa using htb) (s_cons ?_)
          refine e_sub (f_local f 3 rfl rfl (e_bin (f_local f 6 rfl rfl (e_int fun t11 => b_mod (by decide) fun t12 => ?_))))
          rw [show ((i + 1 : Nat) : Int).fmod 2 = (((i + 1) % 2 : Nat) : Int) from by rw [Int.fmod_eq_emod_of_nonneg _ (by decide)]; (rfl)]
          refine tl_list z3' (by exact Int.natCast_nonneg _) (by exact Mine.ci5) (hrs (i + 1)) (s_nil ⟨Keep.fn bo (by kernel_rfl), ?_⟩)
          refine bk_put bo (hA1.mono (by exact Nat.le_add_left _ _)) z4' (pm i (by exact Nat.le_of_lt hi)) (pm (i + 1) (by exact Nat.succ_le_of_lt hi)) (hr_mem ha hb) fun Z2 K9 F9 => ?_
          exact x_nil ⟨Z2, ⟨_, Z2, rfl, F9 I _ zi nI n217, F9 lw _ z2' hlw nlw, F9 lh _ z3' hlh nlh, K9, z5'.trans F9⟩, Sub.refl⟩
        · rintro us X0 ⟨kv, Z, hz3, z1, z2, z3, z4, z5⟩
          cases hz3
          have n217 : I ≠ 217 := z4.ne217 z1 (by intro ps h; injection h with h; injection h with h1; cases h1)
          have z4' : BkF w (era X0 I) bk xs lxs (putsN (strikesN T (ptOf gr rest) (hrOf a b) rest.length) (ptOf gr rest) (hrOf a b) rest.length) := z4.era (fk z1 foreign_itR) n217
          have z2' : era X0 I lw = some (.lst wv) := (era_ne hIlw).trans z2
          have z3' : era X0 I lh = some (.lst [.str ⟨#[a]⟩ t3, .str ⟨#[b]⟩ t4]) := (era_ne hIlh).trans z3
          have z5' : FrameF lxs H (era X0 I) := fun y j ey ny my => by unfold era; rw [if_neg (by first | exact nn ey (hIH) | exact Ne.symm (nn ey (hIH)) | exact nn (hIH) ey | exact Ne.symm (nn (hIH) ey) | (rintro rfl; rw [hIH] at ey; cases ey))]; exact z5 y j ey ny my
          refine ⟨_, rfl, ?_⟩
          generalize era X0 I = Z1 at *
          refine x_cons (x_expr (hi := by unfold interactive; rw [hsc]; rfl) ?_)
          refine e_call (f_global (v := .ref 229) bo f (by kernel_rfl) (by rw [hsc]; rfl) (by decide +kernel) ?_)
          refine c_with rfl (a_pos (s_cons (f_local f 0 rfl rfl (s_cons (f_local f 1 rfl rfl (s_cons (f_local f 2 rfl rfl (s_cons ?_))))))))
          refine e_sub (f_local f 3 rfl rfl (e_int fun t9 => tl_list z3' (by decide) (by decide) (hrs 0) (s_nil ⟨Keep.fn bo (by kernel_rfl), ?_⟩)))
          refine bk_put bo (hA1.mono (by exact Nat.le_add_left _ _)) z4' ht hg ha fun Z2 K9 F9 => ?_
          refine x_nil (q Z2 ?_ (z5'.trans F9))
          unfold lessonT
          rw [← ea, ← eb]
          exact K9
        · exact ⟨_, _, rfl, i7, w7, y7, K7, F7⟩
      · exact ⟨none, _, rfl, i6, w6, y6, K6, F6⟩
  · refine ⟨0, mv, _, _, rfl, rfl, Nat.zero_le _, e2, e1, ?_, ?_, K3, F3⟩
    · exact ChrL.snoc (ks := []) (cs := []) ChrL.nil
    · have := hw 0 (Nat.zero_le _)
      rw [← this]; exact hmv
end
end Mine
end
/-! part H20 -/
section
open PySem PySem.W PySem.Calls PyProof.Rows
set_option maxRecDepth 100000
set_option maxHeartbeats 4000000
set_option linter.unusedVariables false
namespace Mine
section
variable {w : World} {S : Shared} {B : HM} {A : Around} {H H' : HM} {L x dx lx l : Addr} {ns : List Str} {vs : List (Option Value)} {env : Env} {pos : Pos}
theorem x_setattr {o value : Expr} {n : Str} {p2 : Pos} {Q : Flow → Fst → Prop} {x : Fst} (y : wpG w S (StF B L ns) A (eval value env) (fun v x1 => wpG w S (StF B L ns) A (eval o env) (fun ov x2 => wpG w S (StF B L ns) A (setAttr ov n v) (fun _ => Q .next) x2) x1) x)
    (hs : swapsWith value (some (.Attribute o n p2)) pos.line env = pure false := by rfl) : wpG w S (StF B L ns) A (exec (.Assign [.Attribute o n p2] value pos) env) Q x := fun h tk s =>
  plainObj_wpAny_Assign_Attribute (lift y s fun v x1 h1 t1 q1 s1 => lift q1 s1 fun ov x2 h2 t2 q2 s2 => q2 h2 t2 s2) hs
theorem put_hdr {hsh : Int} {tk : Tok} : Obj.putName sHeaders hsh (.str sHeaders tk) (.ref lx) emptyDict = hdrD hsh tk lx := rfl
theorem f_sethdr {Q : Unit → Fst → Prop} (b : BaseOk w B) (hx : H x = some (.obj (instObj 211 dx))) (hd : H dx = some (.obj emptyDict)) (q : ∀ hsh tk, Q () (vs, upd H dx (.obj (hdrD hsh tk lx)))) :
    wpG w S (StF B L ns) A (setAttr (.ref x) sHeaders (.ref lx)) Q (vs, H) := fun h tk s => by
  have X := b.kin h s.st.base
  have hx' : h.get? x = some (instObj 211 dx) := s.st.own x _ hx
  have D : h.get? dx = some emptyDict := s.st.own dx _ hd
  have I : InstAt h x (instObj 211 dx) 211 (some emptyDict) := ⟨hx', rfl, rfl, D⟩
  refine set_plain X I (by kernel_rfl) ?_
  refine osa_open (K := KK w.params) (C := 211) (r := none) X I (by kernel_rfl) (by kernel_rfl) fun bb => ?_
  obtain ⟨cd, hc, hd'⟩ := any_some (show (clsIn (KK w.params) 211).any (·.hasDict) = true by kernel_rfl)
  refine wpAny_bind (wpAny_pure (wpAny_bind (wpAny_bind (wpAny_loadPart hx' (wpAny_bind ((looks_clsIn X hc).here ?_))))))
  rw [hd']
  refine wpAny_pure (a := some dx) (wpAny_bind (wpAny_pure (wpAny_bind ?_)))
  unfold nsSet
  refine wpAny_bind (wpAny_bind (wpAny_askSetting (wpAny_pure (wpAny_bind (wpAny_mkText (wpAny_bind (wpAny_loadPart D ?_)))))))
  refine wpAny_updatePart D ?_
  have e0 : ∀ (hsh : Int) (tk : Tok), Obj.putName sHeaders hsh (.str sHeaders tk) (.ref lx) emptyDict = hdrD hsh tk lx := fun _ _ => rfl
  have D' : ∀ (hsh : Int) (tk : Tok), (h.update dx (Obj.putName sHeaders hsh (.str sHeaders tk) (.ref lx))).get? dx = some (hdrD hsh tk lx) := fun hsh tk => by
    rw [Heap.get?_update_self _ D (by rw [e0]; rfl), e0]
  refine wpAny_bind (wpAny_lookBehind (D' _ _) rfl (wpAny_pure ?_))
  exact ⟨_, _, (vs, upd H dx (.obj (hdrD _ _ lx))), rfl, s.set (i := .obj (hdrD _ _ lx)) hd (Heap.SameBut.update ..) (D' _ _), q _ _⟩
theorem b_type {us : List Value} {Q : Value → Fst → Prop} (hl : H l = some (.lst us)) (q : Q (.type "list") (vs, H)) : wpG w S (StF B L ns) A (call (.type "type") [.ref l]) Q (vs, H) := fun h tk s =>
  call_type_of (Heap.PlainList.isList (s.st.own l _ hl)).typeIs (by decide) ⟨h, tk, _, rfl, s, q⟩
abbrev ssHeadersV : Str := ⟨#[104, 101, 97, 100, 101, 114, 115]⟩
abbrev nsInit : List Str := [ssSelf, ssHeadersV, ⟨#[107]⟩, ⟨#[118]⟩]
theorem init_spec {Q : Result → HM → Prop} (b : BaseOk w B) (hA : Room A 20) (hx : H x = some (.obj (instObj 211 dx))) (hdx : H dx = some (.obj emptyDict)) (hxd : x ≠ dx)
    (q : ∀ lx hsh tk, H lx = none → B lx = none → Q (.ok (.ret .none)) (upd (upd H lx (.lst [])) dx (.obj (hdrD hsh tk lx)))) : codeG w S (St B) A (.call (.ref 103) ⟨[.ref x], []⟩) Q H := by
  refine enter b hA (hd.zo_107 w.params) [.ref x, .none] (by kernel_rfl) rfl (by kernel_rfl) (ns := nsInit) ⟨rfl, by decide +kernel, by decide +kernel, by decide +kernel⟩ ?_ (Nat.le_of_ble_eq_true rfl) rfl rfl (by decide +kernel) ?_
  · intro s X
    exact binds_K X rfl (o := hd.zo_100 w.params) (by kernel_rfl) rfl rfl rfl
  intro A1 L env hA1 f hsc
  refine x_cons (x_assign (e_ifexp (t_cmp (f_local f 1 rfl rfl (e_none (c_isnot rfl (t_bool ?_)))))))
  rw [if_neg (by decide)]
  refine e_list (s_nil ⟨Nat.le_of_ble_eq_true rfl, fun lx h1 h2 => ?_⟩)
  replace h1 : H lx = none := h1
  refine f_store f 1 rfl (Nat.le_of_ble_eq_true rfl) ?_
  refine x_cons (x_if (t_cmp ?_))
  refine e_call (f_builtin (v := .type "type") b f (by kernel_rfl) (by kernel_rfl) (by decide) (by rw [hsc]; rfl) (by decide +kernel) ?_)
  refine c_with rfl (a_pos (s_cons (f_local f 1 rfl rfl (s_nil ⟨Keep.type, b_type upd_same ?_⟩))))
  refine f_builtin (v := .type "list") b f (by kernel_rfl) (by kernel_rfl) (by decide) (by rw [hsc]; rfl) (by decide +kernel) ?_
  refine c_isnot rfl (t_bool ?_)
  rw [if_neg (by decide)]
  refine x_nil ?_
  refine x_cons (x_setattr (f_local f 1 rfl rfl (f_local f 0 rfl rfl ?_)))
  have nd : dx ≠ lx := by first | exact nn h1 (hdx) | exact Ne.symm (nn h1 (hdx)) | exact nn (hdx) h1 | exact Ne.symm (nn (hdx) h1) | (rintro rfl; rw [hdx] at h1; cases h1)
  have nx : x ≠ lx := by first | exact nn h1 (hx) | exact Ne.symm (nn h1 (hx)) | exact nn (hx) h1 | exact Ne.symm (nn (hx) h1) | (rintro rfl; rw [hx] at h1; cases h1)
  refine f_sethdr b (upd_old h1 hx) (upd_old h1 hdx) fun hsh tk => ?_
  refine x_cons (x_if (t_value (e_bool (t_bool ?_))))
  rw [if_pos rfl]
  refine x_cons (x_for (f_local f 1 rfl rfl ?_))
  have hl : upd (upd H lx (.lst [])) dx (.obj (hdrD hsh tk lx)) lx = some (.lst []) := (upd_ne (Ne.symm nd)).trans upd_same
  refine i_list hl fun I hI hBI hIl => ?_
  refine code_for (n := 0) (iter_list hA1.hand [] hIl) (fun i y => y = ([some (.ref x), some (.ref lx), none, none], upd (upd (upd H lx (.lst [])) dx (.obj (hdrD hsh tk lx))) I (itL lx i))) ?_ ?_ ?_ ?_ ?_
  · rintro i y rfl
    exact ⟨upd_same, upd_old hI hl⟩
  · intro i v hv; cases hv
  · intro i v us X hi; exact absurd hi (Nat.not_lt_zero _)
  · rintro us X hz
    cases hz
    refine ⟨_, rfl, ?_⟩
    rw [era_new hI]
    exact x_nil (x_nil (q lx hsh tk h1 h2))
  · rfl
theorem cls_spec {Q : Result → HM → Prop} (b : BaseOk w B) (hA : Room A 30)
    (q : ∀ x dx lx hsh tk, H x = none → H dx = none → H lx = none → B x = none → B dx = none → B lx = none → x ≠ dx → x ≠ lx → dx ≠ lx → Q (.ok (.ret (.ref x))) (upd (upd (upd H x (.obj (instObj 211 dx))) lx (.lst [])) dx (.obj (hdrD hsh tk lx)))) :
    codeG w S (St B) A (.call (.ref 211) ⟨[], []⟩) Q H := fun h tk s => by
  have X := b.kin h s.base
  have fH : ∀ a, h.objs.size ≤ a → H a = none ∧ B a = none := fun a ha => by
    constructor
    · cases e : H a with
      | none => rfl
      | some j => exact absurd (s.own.lt e) (Nat.not_lt.mpr ha)
    · cases e : B a with
      | none => rfl
      | some j => exact absurd (s.base.lt e) (Nat.not_lt.mpr ha)
  have f0 := fH h.objs.size (Nat.le_refl _)
  have f1 := fH (h.objs.size + 1) (Nat.le_succ _)
  have n01 : h.objs.size + 1 ≠ h.objs.size := Nat.succ_ne_self _
  refine make_core (makes_of (K := KK w.params) X (by kernel_rfl)) (looks_findIn X (by kernel_rfl)) (fun self => bind_fn X self (f := 103) (by kernel_rfl)) (.inl rfl) ?_
  have s1 : St B (upd (upd H h.objs.size (.obj emptyDict)) (h.objs.size + 1) (.obj (instObj 211 h.objs.size))) ((h.push emptyDict).push (instObj 211 h.objs.size)) := by
    have a1 := s.push (o := emptyDict) rfl
    have a2 := a1.push (o := instObj 211 h.objs.size) rfl
    rw [Heap.size_push] at a2
    exact a2
  have hA2 : Room (A.under (.builtin "type.__call__" ⟨[.ref 211], []⟩)) 20 := by
    have hw : (Code.builtin "type.__call__" ⟨[.ref 211], []⟩).weight ≤ 1 := by decide
    have hu : (Code.builtin "type.__call__" ⟨[.ref 211], []⟩).cUnits ≤ 12 := by decide
    exact ⟨by have := hA.depth; show A.depth + (Code.builtin "type.__call__" ⟨[.ref 211], []⟩).weight + 20 < 1000; (rw [Nat.add_assoc]; exact (sml (Nat.le_add_right _ _) (Nat.add_le_add_right hw _) this)), by have := hA.units; show A.units + (Code.builtin "type.__call__" ⟨[.ref 211], []⟩).cUnits + 12 * 20 < 9900; (rw [Nat.add_assoc]; exact (sml (Nat.le_add_right _ _) (Nat.add_le_add_right hu _) this)), hA.hand⟩
  have y := init_spec (w := w) (S := S) (H := upd (upd H h.objs.size (.obj emptyDict)) (h.objs.size + 1) (.obj (instObj 211 h.objs.size))) (x := h.objs.size + 1) (dx := h.objs.size) (Q := fun r H1 => r = .ok (.ret .none) ∧ Q (.ok (.ret (.ref (h.objs.size + 1)))) H1) b hA2 upd_same ((upd_ne (Nat.ne_of_lt (Nat.lt_succ_self _))).trans upd_same) n01 fun lx hsh tk' g1 g2 => ⟨rfl, ?_⟩
  · refine codeAny_mono (y _ tk s1) fun r s' ⟨h', t', x', e, s2, er, q2⟩ => ?_
    subst er
    exact ⟨rfl, h', t', x', e, s2, q2⟩
  · have m1 : lx ≠ h.objs.size + 1 := by first | exact nn g1 (upd_same) | exact Ne.symm (nn g1 (upd_same)) | exact nn (upd_same) g1 | exact Ne.symm (nn (upd_same) g1) | (rintro rfl; rw [upd_same] at g1; cases g1)
    have m2 : lx ≠ h.objs.size := by rintro rfl; rw [upd_ne (Ne.symm n01), upd_same] at g1; cases g1
    have := q (h.objs.size + 1) h.objs.size lx hsh tk' f1.1 f0.1 (by rw [upd_ne m1, upd_ne m2] at g1; exact g1) f1.2 f0.2 g2 n01 (Ne.symm m1) (Ne.symm m2)
    have e : upd (upd (upd H (h.objs.size + 1) (.obj (instObj 211 h.objs.size))) lx (.lst [])) h.objs.size (.obj (hdrD hsh tk' lx)) = upd (upd (upd (upd H h.objs.size (.obj emptyDict)) (h.objs.size + 1) (.obj (instObj 211 h.objs.size))) lx (.lst [])) h.objs.size (.obj (hdrD hsh tk' lx)) := by
      rw [upd_swap (Ne.symm n01) (H := H), upd_swap (Ne.symm m2) (H := upd H (h.objs.size + 1) _), upd_upd]
    rw [← e]; exact this
end
end Mine
end
/-! part H21 -/
section
open PySem PySem.W PySem.Calls PyProof.Rows
set_option maxRecDepth 100000
set_option maxHeartbeats 4000000
set_option linter.unusedVariables false
namespace Mine
/-! _law_books, on the tables -/
def wayF (T : Tabs) : Nat → Nat → Nat → Nat → List Nat
  | 0, _, _, _ => []
  | n + 1, a, b, g => match (T g).lookup a with
    | none => []
    | some o => o :: wayF T n b a o
def lessonF (T : Tabs) (t g : Nat) : Tabs := lessonT T t g (wayF T 16 (freeT (T t)) (freeT (T g)) g)
def Ok (T : Tabs) (t g : Nat) : Prop := freeT (T t) ∈ hourC ∧ freeT (T g) ∈ hourC ∧ WayOf T (freeT (T t)) (freeT (T g)) g (wayF T 16 (freeT (T t)) (freeT (T g)) g)
theorem wayF_len (T : Tabs) : ∀ n a b g, (wayF T n a b g).length ≤ n
  | 0, _, _, _ => Nat.le_refl _
  | n + 1, a, b, g => by
    unfold wayF
    split
    · exact Nat.zero_le _
    · simp only [List.length_cons]; have := wayF_len T n b a (by assumption); (exact Nat.add_le_add_right this _)
def foldT (T : Tabs) (l : List (Nat × Nat)) : Tabs := l.foldl (fun T p => lessonF T p.1 p.2) T
def StepsOk (T : Tabs) (l : List (Nat × Nat)) : Prop := ∀ pre x post, l = pre ++ x :: post → Ok (foldT T pre) x.1 x.2
def upTo (rows : Nat → List Nat) : Nat → List (Nat × Nat)
  | 0 => []
  | k + 1 => upTo rows k ++ (rows k).map fun s => (48 + k, s)
theorem upTo_pre {rows : Nat → List Nat} {j : Nat} : ∀ {k : Nat}, j ≤ k → ∃ post, upTo rows k = upTo rows j ++ post
  | 0, h => by
    have : j = 0 := by exact Nat.eq_zero_of_le_zero h
    subst this; exact ⟨[], by simp⟩
  | k + 1, h => by
    by_cases e : j = k + 1
    · subst e; exact ⟨[], by simp⟩
    · obtain ⟨post, hp⟩ := upTo_pre (rows := rows) (j := j) (k := k) (by exact Nat.le_of_lt_succ (Nat.lt_of_le_of_ne h e))
      exact ⟨post ++ (rows k).map fun s => (48 + k, s), by rw [upTo, hp, List.append_assoc]⟩
theorem upTo_at {rows : Nat → List Nat} {k n i : Nat} (hk : k < n) (hi : i < (rows k).length) : ∃ post, upTo rows n = (upTo rows k ++ ((rows k).take i).map fun s => (48 + k, s)) ++ (48 + k, (rows k)[i]) :: post := by
  obtain ⟨post, hp⟩ := upTo_pre (rows := rows) (j := k + 1) (k := n) hk
  refine ⟨((rows k).drop (i + 1)).map (fun s => (48 + k, s)) ++ post, ?_⟩
  have e : (rows k).map (fun s => (48 + k, s)) = ((rows k).take i).map (fun s => (48 + k, s)) ++ (48 + k, (rows k)[i]) :: ((rows k).drop (i + 1)).map (fun s => (48 + k, s)) := by
    rw [← List.map_cons (f := fun s => (48 + k, s)), ← List.drop_eq_getElem_cons hi, ← List.map_append, List.take_append_drop]
  rw [hp, upTo, e, List.append_assoc, List.append_assoc, List.append_assoc, List.cons_append]
theorem foldT_snoc {T : Tabs} {l : List (Nat × Nat)} {x : Nat × Nat} : foldT T (l ++ [x]) = lessonF (foldT T l) x.1 x.2 := by
  unfold foldT; rw [List.foldl_append]; rfl
theorem any_inj {P Q : Obj → Prop} (h : Item.any P = .any Q) (o : Obj) (hp : P o) : Q o := by
  have := Item.any.inj h
  rw [← this]; exact hp
theorem foreign_itS {y : Str} {t : Tok} {i : Nat} : Foreign (itS y t i) := by
  refine ⟨(by intro _ h; cases h), (by intro _ h; cases h), (by intro _ _ _ h; cases h), (by intro _ h; cases h), ?_, ?_⟩
  · intro h
    obtain ⟨vs, t2, h1, h2⟩ := any_inj h { cls := .type "str_ascii_iterator", data := .fields #[.str y t, .int i 0] } ⟨rfl, rfl⟩
    injection h1 with h1
    subst h1
    cases h2
  · intro w kvs h
    have := any_inj h { cls := .type "str_ascii_iterator", data := .fields #[.str y t, .int i 0] } ⟨rfl, rfl⟩
    obtain ⟨es, ep, _, h2, _⟩ := this
    cases h2
section
variable {w : World} {S : Shared} {B : HM} {A : Around} {H H' : HM} {L bk l : Addr} {ns : List Str} {vs : List (Option Value)} {xs lxs : Nat → Addr} {T T' : Tabs} {env : Env} {pos : Pos} {p c o : Nat} {t u : Tok}
theorem e_dict0 {Q : Value → Fst → Prop} (q : ∀ b, H b = none → B b = none → Q (.ref b) (vs, upd H b (dct w []))) : wpG w S (StF B L ns) A (eval (.Dict [] [] pos) env) Q (vs, H) := fun h tk s =>
  wpAny_Dict_empty ⟨_, tk, _, rfl, s.new (i := dct w []) (fun _ _ e => Heap.get?_push_of_some _ e) (by
    obtain ⟨o, ho, hd⟩ := Heap.dictOf_iff.mp (Heap.DictOf.new (knd := PySem.strKind PySem.Challenge.rw_sn0050_01.row.prog w) h)
    exact ⟨o, ho, hd⟩), q _ s.st.own.fresh s.st.base.fresh⟩
theorem si_dict {d : Addr} {kvs : List (Str × Value)} {k : Str} {t : Tok} {v : Value} {Q : Unit → Fst → Prop} (hd : H d = some (dct w kvs)) (hz : kvs.length ≤ 1000) (q : Q () (vs, upd H d (dct w (stored kvs k v)))) : wpG w S (StF B L ns) A (setItem (.ref d) (.str k t) v) Q (vs, H) := fun h tk s => by
  obtain ⟨o, ho, hk⟩ := s.st.own d _ hd
  refine wpAny_setItem_pairs (strKind_is _ _ _ _) (Heap.dictOf_iff.mpr ⟨o, ho, hk⟩) (fun h' hd' hs => ?_) (by show _ ≤ 16777216; (exact Nat.le_trans hz (Nat.le_add_left _ _)))
  obtain ⟨o2, ho2, hk2⟩ := Heap.dictOf_iff.mp hd'
  exact ⟨h', _, _, rfl, s.set (i := dct w (stored kvs k v)) hd hs ⟨o2, ho2, hk2⟩, q⟩
theorem f_str {k : Nat} {t : Tok} {Q : Value → Fst → Prop} (hk : k < 4) (q : ∀ t, Q (.str ⟨#[48 + k]⟩ t) (vs, H)) : wpG w S (StF B L ns) A (call (.type "str") [.int k t]) Q (vs, H) := fun h tk s => by
  refine P.str_of_int (by rw [Int.natAbs_natCast]; match k, hk with | 0, _ | 1, _ | 2, _ | 3, _ => decide) ?_
  have e : (Str.ofString (toString (k : Int))) = ⟨#[48 + k]⟩ := by
    match k, hk with
    | 0, _ | 1, _ | 2, _ | 3, _ => decide +kernel
  exact ⟨h, _, _, rfl, s, by have := q tk; rw [← e] at this; exact this⟩
/-- the books while they are laid out -/
structure PBooks (w : World) (H : HM) (bk : Addr) (xs lxs : Nat → Addr) (ps : List Nat) : Prop where
  dct : H bk = some (dct w (kvsOf xs ps))
  hdr : ∀ p ∈ ps, Hdr H (xs p) (lxs p)
  tab : ∀ p ∈ ps, TabAt H (lxs p) [] []
  inj : ∀ p ∈ ps, ∀ q ∈ ps, lxs p = lxs q → p = q
theorem PBooks.all (K : PBooks w H bk xs lxs persons) : Books w H bk xs lxs fun _ => [] := by
  have hp : ∀ p ∈ persC, p ∈ persons := by decide
  refine ⟨K.dct, fun p h => K.hdr p (hp p h), fun p h => ⟨[], K.tab p (hp p h)⟩, fun p h q g e => K.inj p (hp p h) q (hp q g) e, ⟨fun _ _ _ h => absurd h List.not_mem_nil, fun _ _ _ h => absurd h List.not_mem_nil, fun _ _ => List.nodup_nil⟩⟩
theorem PBooks.mono {ps : List Nat} (K : PBooks w H bk xs lxs ps) (k : Sub H H') : PBooks w H' bk xs lxs ps :=
  ⟨k _ _ K.dct, fun p hp => (K.hdr p hp).mono k, fun p hp => (K.tab p hp).mono k, K.inj⟩
theorem PBooks.keep {ps : List Nat} (K : PBooks w H bk xs lxs ps) {a0 : Addr} (hf : ∀ i, H a0 = some i → Foreign i) (k : ∀ a i, H a = some i → a ≠ a0 → H' a = some i) : PBooks w H' bk xs lxs ps := by
  refine ⟨k _ _ K.dct ?_, fun p hp => ?_, fun p hp => ?_, K.inj⟩
  · rintro rfl; exact (hf _ K.dct).k _ _ rfl
  · obtain ⟨dx, hsh, tk, a, b⟩ := K.hdr p hp
    refine ⟨dx, hsh, tk, k _ _ a ?_, k _ _ b ?_⟩
    · intro e; rw [e] at a; exact (hf _ a).x _ rfl
    · intro e; rw [e] at b; exact (hf _ b).d _ _ _ rfl
  · have t := K.tab p hp
    refine ⟨k _ _ t.1 ?_, t.2.1, fun i r e h1 h2 => absurd h1 (by simp)⟩
    · intro e; have := t.1; rw [e] at this; exact (hf _ this).l _ rfl
theorem stored_new {ps : List Nat} {q : Nat} {v : Value} (hq : q ∉ ps) : stored (kvsOf xs ps) (⟨#[q]⟩ : Str) v = kvsOf xs ps ++ [((⟨#[q]⟩ : Str), v)] := by
  unfold stored
  rw [if_neg]
  intro h
  rw [List.any_eq_true] at h
  obtain ⟨kv, hkv, e⟩ := h
  unfold kvsOf at hkv
  obtain ⟨p, hp, rfl⟩ := List.mem_map.mp hkv
  simp at e
  subst e; exact hq hp
theorem PBooks.add {ps : List Nat} {q x dx lx : Addr} {hsh : Int} {tk : Tok} (K : PBooks w H bk xs lxs ps) (hq : q ∉ ps) (h1 : H x = none) (h2 : H dx = none) (h3 : H lx = none) (n1 : x ≠ dx) (n2 : x ≠ lx) (n3 : dx ≠ lx) :
    PBooks w (Mine.upd (Mine.upd (Mine.upd (Mine.upd H x (.obj (instObj 211 dx))) lx (.lst [])) dx (.obj (hdrD hsh tk lx))) bk (Mine.dct w (stored (kvsOf xs ps) (⟨#[q]⟩ : Str) (.ref x)))) bk (fun p => if p = q then x else xs p) (fun p => if p = q then lx else lxs p) (ps ++ [q]) := by
  have nb : ∀ {a : Addr} {i : Item}, H a = some i → (∀ kvs, i ≠ Mine.dct w kvs) → a ≠ bk := by
    intro a i e hi z
    rw [z, K.dct] at e; cases e; exact hi _ rfl
  have b1 : x ≠ bk := by first | exact nn h1 (K.dct) | exact Ne.symm (nn h1 (K.dct)) | exact nn (K.dct) h1 | exact Ne.symm (nn (K.dct) h1) | (rintro rfl; rw [K.dct] at h1; cases h1)
  have b2 : dx ≠ bk := by first | exact nn h2 (K.dct) | exact Ne.symm (nn h2 (K.dct)) | exact nn (K.dct) h2 | exact Ne.symm (nn (K.dct) h2) | (rintro rfl; rw [K.dct] at h2; cases h2)
  have b3 : lx ≠ bk := by first | exact nn h3 (K.dct) | exact Ne.symm (nn h3 (K.dct)) | exact nn (K.dct) h3 | exact Ne.symm (nn (K.dct) h3) | (rintro rfl; rw [K.dct] at h3; cases h3)
  have old : ∀ {a : Addr} {i : Item}, H a = some i → (∀ kvs, i ≠ Mine.dct w kvs) → Mine.upd (Mine.upd (Mine.upd (Mine.upd H x (.obj (instObj 211 dx))) lx (.lst [])) dx (.obj (hdrD hsh tk lx))) bk (Mine.dct w (stored (kvsOf xs ps) (⟨#[q]⟩ : Str) (.ref x))) a = some i := by
    intro a i e hi
    have m1 : a ≠ x := by first | exact nn e (h1) | exact Ne.symm (nn e (h1)) | exact nn (h1) e | exact Ne.symm (nn (h1) e) | (rintro rfl; rw [h1] at e; cases e)
    have m2 : a ≠ dx := by first | exact nn e (h2) | exact Ne.symm (nn e (h2)) | exact nn (h2) e | exact Ne.symm (nn (h2) e) | (rintro rfl; rw [h2] at e; cases e)
    have m3 : a ≠ lx := by first | exact nn e (h3) | exact Ne.symm (nn e (h3)) | exact nn (h3) e | exact Ne.symm (nn (h3) e) | (rintro rfl; rw [h3] at e; cases e)
    exact (upd_ne (nb e hi)).trans ((upd_ne m2).trans ((upd_ne m3).trans ((upd_ne m1).trans e)))
  have pq : ∀ p ∈ ps, p ≠ q := fun p hp e => hq (e ▸ hp)
  refine ⟨?_, fun p hp => ?_, fun p hp => ?_, fun p hp0 r hr0 e => ?_⟩
  · refine upd_same.trans ?_
    rw [stored_new hq]
    have : kvsOf (fun p => if p = q then x else xs p) (ps ++ [q]) = kvsOf xs ps ++ [((⟨#[q]⟩ : Str), .ref x)] := by
      unfold kvsOf
      rw [List.map_append]
      congr 1
      · exact List.map_congr_left fun p hp => by dsimp only; rw [if_neg (pq p hp)]
      · simp
    rw [this]
  · rcases List.mem_append.mp hp with hp | hp
    · obtain ⟨dx', hsh', tk', a, b⟩ := K.hdr p hp
      simp only [if_neg (pq p hp)]
      exact ⟨dx', hsh', tk', old a (by intro _ h; cases h), old b (by intro _ h; cases h)⟩
    · simp at hp; subst hp
      simp only [if_true]
      exact ⟨dx, hsh, tk, (upd_ne b1).trans ((upd_ne n1).trans ((upd_ne n2).trans upd_same)), (upd_ne b2).trans upd_same⟩
  · rcases List.mem_append.mp hp with hp | hp
    · have t := K.tab p hp
      simp only [if_neg (pq p hp)]
      exact ⟨old t.1 (by intro _ h; cases h), rfl, fun i r e h1 h2 => absurd h1 (by simp)⟩
    · simp at hp; subst hp
      simp only [if_true]
      exact ⟨(upd_ne b3).trans ((upd_ne (Ne.symm n3)).trans upd_same), rfl, fun i r e h1 h2 => absurd h1 (by simp)⟩
  · have lne : ∀ p ∈ ps, lxs p ≠ lx := fun p hp z => by have := (K.tab p hp).1; rw [z, h3] at this; cases this
    rcases List.mem_append.mp hp0 with hp | hp <;> rcases List.mem_append.mp hr0 with hr | hr
    · simp only [if_neg (pq p hp), if_neg (pq r hr)] at e
      exact K.inj p hp r hr e
    · simp at hr; subst hr
      simp only [if_neg (pq p hp), if_true] at e
      exact absurd e (lne p hp)
    · simp at hp; subst hp
      simp only [if_neg (pq r hr), if_true] at e
      exact absurd e.symm (lne r hr)
    · simp at hp hr; rw [hp, hr]
end
end Mine
end
/-! part H22 -/
section
open PySem PySem.W PySem.Calls PyProof.Rows
set_option maxRecDepth 100000
set_option maxHeartbeats 4000000
set_option linter.unusedVariables false
namespace Mine
abbrev ssRows : Str := ⟨#[114, 111, 119, 115]⟩
abbrev ssSign : Str := ⟨#[115, 105, 103, 110]⟩
abbrev ssK : Str := ⟨#[107]⟩
abbrev nsBks : List Str := [ssRows, ssBooks, ssOne, ssK, ssSign]
abbrev blankT : Tabs := fun _ => []
def Kept (H X : HM) : Prop := ∀ a i, H a = some i → a ≠ 217 → X a = some i
section
variable {w : World} {S : Shared} {B : HM} {A : Around} {H H' : HM} {L bk l : Addr} {ns : List Str} {vs : List (Option Value)} {xs lxs : Nat → Addr} {T T' : Tabs} {env : Env} {pos : Pos} {p c o : Nat} {t u : Tok}
theorem bk_lesson {Q : Value → Fst → Prop} {t1 t2 : Tok} {te gr : Nat} (b : BaseOk w B) (hA : Room A 80) (K : BkF w H bk xs lxs T) (ht : te ∈ persC) (hg : gr ∈ persC) (ok : Ok T te gr)
    (q : ∀ H', BkF w H' bk xs lxs (lessonF T te gr) → FrameF lxs H H' → Q .none (vs, H')) : wpG w S (StF B L ns) A (call (.ref 243) [.ref bk, .str ⟨#[te]⟩ t1, .str ⟨#[gr]⟩ t2]) Q (vs, H) :=
  f_bk (T' := lessonF T te gr) (V := fun v => v = .none) K (fun H0 K0 Q' q' => lesson_spec b hA K0 ht hg rfl rfl ok.1 ok.2.1 ok.2.2 (Nat.le_trans (wayF_len _ _ _ _ _) (by decide)) fun H' K' F => q' H' _ rfl K' F) fun H' v hv K' F => by subst hv; exact q H' K' F
abbrev bsI1 (w : World) (H : HM) (lr bk I : Addr) (t1 : Tok) : Nat → Fst → Prop := fun i y => ∃ xs lxs ov X, y = ([some (.ref lr), some (.ref bk), ov, none, none], X) ∧ X I = some (itS ⟨#[48, 49, 50, 51, 46, 97, 98, 99]⟩ t1 i) ∧ PBooks w X bk xs lxs (persons.take i) ∧ Sub H X ∧ ∀ p ∈ persons.take i, H (lxs p) = none
abbrev bsI2 (w : World) (H : HM) (lr bk J : Addr) (xs lxs : Nat → Addr) (ov : Option Value) (rows : Nat → List Nat) : Nat → Fst → Prop := fun k y => ∃ kv sv X, y = ([some (.ref lr), some (.ref bk), ov, kv, sv], X) ∧ X J = some (itR (0 + (k : Int) * 1) (((4 : Nat) : Int) - (k : Int)) 1) ∧ BkF w X bk xs lxs (foldT blankT (upTo rows k)) ∧ Kept H X
abbrev bsI3 (w : World) (H : HM) (lr bk J : Addr) (xs lxs : Nat → Addr) (ov : Option Value) (rows : Nat → List Nat) (k : Nat) (tk tr : Tok) (I2 : Addr) : Nat → Fst → Prop := fun i y => ∃ sv X, y = ([some (.ref lr), some (.ref bk), ov, some (.int k tk), sv], X) ∧ X I2 = some (itS ⟨(rows k).toArray⟩ tr i) ∧ X J = some (itR (0 + ((k + 1 : Nat) : Int) * 1) (((4 : Nat) : Int) - ((k + 1 : Nat) : Int)) 1) ∧ BkF w X bk xs lxs (foldT blankT (upTo rows k ++ ((rows k).take i).map fun s => (48 + k, s))) ∧ Kept H X
theorem books_spec {Q : Result → HM → Prop} {lr : Addr} {rv : List Value} {rows : Nat → List Nat} (b : BaseOk w B) (hA : Room A 100) (hT : TabF H) (hr : H lr = some (.lst rv)) (hv : ∀ k, k < 4 → ∃ t, rv[k]? = some (.str ⟨(rows k).toArray⟩ t)) (hc : ∀ k, k < 4 → ∀ s ∈ rows k, s ∈ [46, 97, 98, 99]) (ok : StepsOk blankT (upTo rows 4))
    (q : ∀ bk xs lxs H', BkF w H' bk xs lxs (foldT blankT (upTo rows 4)) → Kept H H' → Q (.ok (.ret (.ref bk))) H') : codeG w S (St B) A (.call (.ref 250) ⟨[.ref lr], []⟩) Q H := by
  refine enter b hA (hd.zo_252 w.params) [.ref lr] (by kernel_rfl) rfl (by kernel_rfl) (ns := nsBks) ⟨rfl, by decide +kernel, by decide +kernel, by decide +kernel⟩ (fun s X => BindsTo.of_eq rfl) (Nat.le_of_ble_eq_true rfl) rfl rfl (by decide +kernel) ?_
  intro A1 L env hA1 f hsc
  refine x_cons (x_assign (e_dict0 fun bk h1 h2 => ?_))
  refine f_store f 1 rfl (Nat.le_of_ble_eq_true rfl) ?_
  refine x_cons (x_for (e_str fun t1 => i_str (by decide +kernel) fun I h3 h4 => ?_))
  replace h3 : upd H bk (dct w []) I = none := h3
  have P0 : PBooks w (upd (upd H bk (dct w [])) I (itS ⟨#[48, 49, 50, 51, 46, 97, 98, 99]⟩ t1 0)) bk (fun _ => 0) (fun _ => 0) (persons.take 0) :=
    ⟨upd_old h3 upd_same, fun _ h => absurd h List.not_mem_nil, fun _ h => absurd h List.not_mem_nil, fun _ h => absurd h List.not_mem_nil⟩
  have k0 : Sub H (upd (upd H bk (dct w [])) I (itS ⟨#[48, 49, 50, 51, 46, 97, 98, 99]⟩ t1 0)) := (Sub.new h1).trans (Sub.new h3)
  have hI0 : upd (upd H bk (dct w [])) I (itS ⟨#[48, 49, 50, 51, 46, 97, 98, 99]⟩ t1 0) I = some (itS ⟨#[48, 49, 50, 51, 46, 97, 98, 99]⟩ t1 0) := upd_same
  have hIH : H I = none := by
    cases e : H I with
    | none => rfl
    | some j =>
      have : upd H bk (dct w []) I = some j := Sub.new h1 _ _ e
      rw [h3] at this; cases this
  have nIb : I ≠ bk := by first | exact nn h3 (upd_same) | exact Ne.symm (nn h3 (upd_same)) | exact nn (upd_same) h3 | exact Ne.symm (nn (upd_same) h3) | (rintro rfl; rw [upd_same] at h3; cases h3)
  generalize upd (upd H bk (dct w [])) I (itS ⟨#[48, 49, 50, 51, 46, 97, 98, 99]⟩ t1 0) = H1 at *
  refine code_for (n := 8) (iter_str hA1.hand ⟨#[48, 49, 50, 51, 46, 97, 98, 99]⟩ t1) (bsI1 w H lr bk I t1) ?_ ?_ ?_ ?_ ?_
  · rintro i y ⟨xs, lxs, ov, X, rfl, x1, _⟩
    exact ⟨x1, trivial⟩
  · intro i v hv; trivial
  · rintro i v us X hi ⟨c, u, hcc, rfl⟩ ⟨xs, lxs, ov, X', hz, x1, x2, x3, x4⟩
    cases hz
    have hpi : persons[i]? = some c := by unfold persons; simpa using hcc
    have htk : persons.take (i + 1) = persons.take i ++ [c] := by rw [List.take_add_one, hpi]; rfl
    have hcn : c ∉ persons.take i := by
      have nd : (persons.take (i + 1)).Nodup := List.Nodup.sublist (List.take_sublist _ _) (by decide)
      rw [htk, List.nodup_append] at nd
      exact fun hm => nd.2.2 c hm c (by simp) rfl
    have x2' : PBooks w (upd X I (itS ⟨#[48, 49, 50, 51, 46, 97, 98, 99]⟩ t1 (i + 1))) bk xs lxs (persons.take i) := x2.keep (fk x1 foreign_itS) fun a j e n => (upd_ne n).trans e
    have x3' : Sub H (upd X I (itS ⟨#[48, 49, 50, 51, 46, 97, 98, 99]⟩ t1 (i + 1))) := fun a j e => (upd_ne (by first | exact nn e (hIH) | exact Ne.symm (nn e (hIH)) | exact nn (hIH) e | exact Ne.symm (nn (hIH) e) | (rintro rfl; rw [hIH] at e; cases e))).trans (x3 _ _ e)
    have x1' : upd X I (itS ⟨#[48, 49, 50, 51, 46, 97, 98, 99]⟩ t1 (i + 1)) I = some (itS ⟨#[48, 49, 50, 51, 46, 97, 98, 99]⟩ t1 (i + 1)) := upd_same
    generalize upd X I (itS ⟨#[48, 49, 50, 51, 46, 97, 98, 99]⟩ t1 (i + 1)) = Y at *
    refine t_name f 2 rfl (Nat.le_of_ble_eq_true rfl) ?_
    refine x_cons (x_setsub ?_)
    refine e_call (f_global (v := .ref 211) b f (by kernel_rfl) (by rw [hsc]; rfl) (by decide +kernel) ?_)
    refine c_with rfl (a_nil ⟨Keep.fn b (by kernel_rfl), ?_⟩)
    refine f_fn fun hL => cls_spec b (hA1.mono (by exact Nat.le_add_left _ _)) fun x dx lx hsh tk g1 g2 g3 g4 g5 g6 n1 n2 n3 => ?_
    have l1 : L ≠ x := ne_loc g1
    have l2 : L ≠ dx := ne_loc g2
    have l3 : L ≠ lx := ne_loc g3
    rw [upd_ne (Ne.symm l1)] at g1
    rw [upd_ne (Ne.symm l2)] at g2
    rw [upd_ne (Ne.symm l3)] at g3
    refine ⟨upd (upd (upd Y x (.obj (instObj 211 dx))) lx (.lst [])) dx (.obj (hdrD hsh tk lx)), by rw [upd_swap l1, upd_swap l3, upd_swap l2]; exact Sub.refl, upd_off (upd_off (upd_off hL l1) l3) l2, _, rfl, ?_⟩
    refine f_local f 1 rfl rfl (f_local f 2 rfl rfl ?_)
    have hbk : upd (upd (upd Y x (.obj (instObj 211 dx))) lx (.lst [])) dx (.obj (hdrD hsh tk lx)) bk = some (dct w (kvsOf xs (persons.take i))) := by
      have m1 : bk ≠ x := by first | exact nn g1 (x2'.dct) | exact Ne.symm (nn g1 (x2'.dct)) | exact nn (x2'.dct) g1 | exact Ne.symm (nn (x2'.dct) g1) | (rintro rfl; rw [x2'.dct] at g1; cases g1)
      have m2 : bk ≠ dx := by first | exact nn g2 (x2'.dct) | exact Ne.symm (nn g2 (x2'.dct)) | exact nn (x2'.dct) g2 | exact Ne.symm (nn (x2'.dct) g2) | (rintro rfl; rw [x2'.dct] at g2; cases g2)
      have m3 : bk ≠ lx := by first | exact nn g3 (x2'.dct) | exact Ne.symm (nn g3 (x2'.dct)) | exact nn (x2'.dct) g3 | exact Ne.symm (nn (x2'.dct) g3) | (rintro rfl; rw [x2'.dct] at g3; cases g3)
      exact (upd_ne m2).trans ((upd_ne m3).trans ((upd_ne m1).trans x2'.dct))
    refine si_dict hbk (by unfold kvsOf; rw [List.length_map, List.length_take]; omega) ?_
    have A := x2'.add (hsh := hsh) (tk := tk) hcn g1 g2 g3 n1 n2 n3
    rw [← htk] at A
    have keep : ∀ {a : Addr} {j : Item}, Y a = some j → a ≠ bk → upd (upd (upd (upd Y x (.obj (instObj 211 dx))) lx (.lst [])) dx (.obj (hdrD hsh tk lx))) bk (dct w (stored (kvsOf xs (persons.take i)) (⟨#[c]⟩ : Str) (.ref x))) a = some j := by
      intro a j e n
      have m1 : a ≠ x := by first | exact nn e (g1) | exact Ne.symm (nn e (g1)) | exact nn (g1) e | exact Ne.symm (nn (g1) e) | (rintro rfl; rw [g1] at e; cases e)
      have m2 : a ≠ dx := by first | exact nn e (g2) | exact Ne.symm (nn e (g2)) | exact nn (g2) e | exact Ne.symm (nn (g2) e) | (rintro rfl; rw [g2] at e; cases e)
      have m3 : a ≠ lx := by first | exact nn e (g3) | exact Ne.symm (nn e (g3)) | exact nn (g3) e | exact Ne.symm (nn (g3) e) | (rintro rfl; rw [g3] at e; cases e)
      exact (upd_ne n).trans ((upd_ne m2).trans ((upd_ne m3).trans ((upd_ne m1).trans e)))
    refine x_nil ⟨_, ⟨_, _, some (.str ⟨#[c]⟩ u), _, rfl, keep x1' nIb, A, fun a j e => keep (x3' _ _ e) (by first | exact nn e (h1) | exact Ne.symm (nn e (h1)) | exact nn (h1) e | exact Ne.symm (nn (h1) e) | (rintro rfl; rw [h1] at e; cases e)), fun p hp => ?_⟩, Sub.refl⟩
    rw [htk] at hp
    have hlx : H lx = none := by
      cases e : H lx with
      | none => rfl
      | some j => rw [x3' _ _ e] at g3; cases g3
    split
    · exact hlx
    · rename_i hne
      rcases List.mem_append.mp hp with hp | hp
      · exact x4 p hp
      · simp at hp; exact absurd hp hne
  · rintro us X ⟨xs, lxs, ov, X', hz, x1, x2, x3, x4⟩
    cases hz
    refine ⟨_, rfl, ?_⟩
    have x2' : PBooks w (era X I) bk xs lxs persons := x2.keep (fk x1 foreign_itS) fun a j e n => (era_ne n).trans e
    have x3' : Sub H (era X I) := fun a j e => by unfold era; rw [if_neg (by first | exact nn e (hIH) | exact Ne.symm (nn e (hIH)) | exact nn (hIH) e | exact Ne.symm (nn (hIH) e) | (rintro rfl; rw [hIH] at e; cases e))]; exact x3 _ _ e
    generalize era X I = Y at *
    have K0 : BkF w Y bk xs lxs blankT := ⟨x2'.all, hT.mono x3'⟩
    have hlxs : ∀ p ∈ persC, ∀ a j, H a = some j → a ≠ lxs p := fun p hp a j e z => by
      have := x4 p ((show ∀ p ∈ persC, p ∈ persons by decide) p hp)
      rw [← z, e] at this; cases this
    refine x_cons (x_for ?_)
    refine e_call (f_builtin (v := .type "range") b f (by kernel_rfl) (by kernel_rfl) (by decide) (by rw [hsc]; rfl) (by decide +kernel) ?_)
    refine c_with rfl (a_pos (s_int fun t5 => s_nil ⟨Keep.type, ?_⟩))
    refine r_range1 fun r g1 g2 => ?_
    refine i_range upd_same (by decide) (by decide) (by decide) (by decide) fun J g3 g4 => ?_
    replace g1 : Y r = none := g1
    replace g3 : upd Y r (rngI 0 4) J = none := g3
    rw [if_pos (by decide)]
    have K1 : BkF w (upd (upd Y r (rngI 0 4)) J (itR 0 (4 - 0) 1)) bk xs lxs blankT := K0.mono ((Sub.new g1).trans (Sub.new g3))
    have F1 : Kept H (upd (upd Y r (rngI 0 4)) J (itR 0 (4 - 0) 1)) := fun a j e _ => ((x3'.trans (Sub.new g1)).trans (Sub.new g3)) a j e
    have hJ1 : upd (upd Y r (rngI 0 4)) J (itR 0 (4 - 0) 1) J = some (itR (0 + (0 : Nat) * 1) (((4 : Nat) : Int) - (0 : Nat)) 1) := upd_same
    have hJH : H J = none := by
      cases e : H J with
      | none => rfl
      | some j =>
        have : upd Y r (rngI 0 4) J = some j := Sub.new g1 _ _ (x3' J j e)
        rw [g3] at this; cases this
    generalize upd (upd Y r (rngI 0 4)) J (itR 0 (4 - 0) 1) = Y1 at *
    have n217r : lr ≠ 217 := by
      obtain ⟨ps, e⟩ := hT.some
      rintro rfl; rw [e] at hr; cases hr
    have step : ∀ {X Y : HM}, Kept H X → FrameF lxs X Y → Kept H Y := fun k F a j e n => F a j (k a j e n) (fun p hp => hlxs p hp a j e) n
    refine code_for (n := 4) (iter_range hA1.hand 0 1 4) (bsI2 w H lr bk J xs lxs ov rows) ?_ ?_ ?_ ?_ ?_
    · rintro i y ⟨kv, sv, X, rfl, y1, _⟩
      exact ⟨y1, trivial⟩
    · intro i v hv; trivial
    · rintro k v us X hk ⟨tk, rfl⟩ ⟨kv, sv, X', hz, y1, y2, y3⟩
      cases hz
      have n217 : J ≠ 217 := y2.ne217 y1 (by intro ps h; injection h with h; injection h with h1; cases h1)
      have nJ : ∀ p ∈ persC, J ≠ lxs p := y2.nl y1 (by intro us h; cases h)
      have y2' : BkF w (upd X J (itR (0 + ((k + 1 : Nat) : Int) * 1) (((4 : Nat) : Int) - ((k + 1 : Nat) : Int)) 1)) bk xs lxs (foldT blankT (upTo rows k)) := y2.upd (fk y1 foreign_itR) n217
      have y3' : Kept H (upd X J (itR (0 + ((k + 1 : Nat) : Int) * 1) (((4 : Nat) : Int) - ((k + 1 : Nat) : Int)) 1)) := fun a j e n => (upd_ne (by first | exact nn e (hJH) | exact Ne.symm (nn e (hJH)) | exact nn (hJH) e | exact Ne.symm (nn (hJH) e) | (rintro rfl; rw [hJH] at e; cases e))).trans (y3 a j e n)
      have y1' : upd X J (itR (0 + ((k + 1 : Nat) : Int) * 1) (((4 : Nat) : Int) - ((k + 1 : Nat) : Int)) 1) J = some (itR (0 + ((k + 1 : Nat) : Int) * 1) (((4 : Nat) : Int) - ((k + 1 : Nat) : Int)) 1) := upd_same
      generalize upd X J (itR (0 + ((k + 1 : Nat) : Int) * 1) (((4 : Nat) : Int) - ((k + 1 : Nat) : Int)) 1) = Z at *
      obtain ⟨tr, htr⟩ := hv k hk
      refine t_name f 3 rfl (Nat.le_of_ble_eq_true rfl) ?_
      rw [show ((0 : Int) + (k : Int) * 1) = ((k : Nat) : Int) from by omega]
      refine x_cons (x_for (e_sub (f_local f 0 rfl rfl (f_local f 3 rfl rfl (tl_list (y3' _ _ hr n217r) (by exact Int.natCast_nonneg _) (by exact Mine.ci7 hk (Nat.le_add_left _ _)) (by simpa using htr) ?_)))))
      refine i_str ?_ fun I2 e1 e2 => ?_
      · rw [Array.all_eq_true']
        intro c hcm
        have := hc k hk c (by simpa using hcm)
        simp at this
        simp; (exact Mine.cB this)
      have Kz : BkF w (upd Z I2 (itS ⟨(rows k).toArray⟩ tr 0)) bk xs lxs (foldT blankT (upTo rows k)) := y2'.mono (Sub.new e1)
      have Fz : Kept H (upd Z I2 (itS ⟨(rows k).toArray⟩ tr 0)) := fun a j e n => Sub.new e1 _ _ (y3' a j e n)
      have Jz : upd Z I2 (itS ⟨(rows k).toArray⟩ tr 0) J = some (itR (0 + ((k + 1 : Nat) : Int) * 1) (((4 : Nat) : Int) - ((k + 1 : Nat) : Int)) 1) := upd_old e1 y1'
      have Iz : upd Z I2 (itS ⟨(rows k).toArray⟩ tr 0) I2 = some (itS ⟨(rows k).toArray⟩ tr 0) := upd_same
      have nJI : J ≠ I2 := by first | exact nn e1 (y1') | exact Ne.symm (nn e1 (y1')) | exact nn (y1') e1 | exact Ne.symm (nn (y1') e1) | (rintro rfl; rw [y1'] at e1; cases e1)
      have nI217 : I2 ≠ 217 := y2'.tab.ne e1
      have nIl : ∀ p ∈ persC, I2 ≠ lxs p := fun p hp => y2'.bk.off e1 hp
      have hIH2 : ∀ a j, H a = some j → a ≠ 217 → a ≠ I2 := fun a j e n z => by
        have := y3' a j e n; rw [z, e1] at this; cases this
      generalize upd Z I2 (itS ⟨(rows k).toArray⟩ tr 0) = Z2 at *
      refine code_for (n := (⟨(rows k).toArray⟩ : Str).cps.size) (iter_str hA1.hand ⟨(rows k).toArray⟩ tr) (bsI3 w H lr bk J xs lxs ov rows k tk tr I2) ?_ ?_ ?_ ?_ ?_
      · rintro i y ⟨sv, X, rfl, z1, _⟩
        exact ⟨z1, trivial⟩
      · intro i v hv; trivial
      · rintro i v us X2 hi ⟨c, u, hcc, rfl⟩ ⟨sv2, X', hz, z1, z2, z3, z4⟩
        cases hz
        have hi' : i < (rows k).length := by simpa using hi
        have hcc' : (rows k)[i] = c := by
          have : (rows k)[i]? = some c := by simpa using hcc
          exact (List.getElem?_eq_some_iff.mp this).2
        subst hcc'
        obtain ⟨post, hpost⟩ := upTo_at (n := 4) hk hi'
        have hok := ok _ _ _ hpost
        have z3' : BkF w (upd X2 I2 (itS ⟨(rows k).toArray⟩ tr (i + 1))) bk xs lxs (foldT blankT (upTo rows k ++ ((rows k).take i).map fun s => (48 + k, s))) := z3.upd (fk z1 foreign_itS) nI217
        have z4' : Kept H (upd X2 I2 (itS ⟨(rows k).toArray⟩ tr (i + 1))) := fun a j e n => (upd_ne (hIH2 a j e n)).trans (z4 a j e n)
        have z2' : upd X2 I2 (itS ⟨(rows k).toArray⟩ tr (i + 1)) J = some (itR (0 + ((k + 1 : Nat) : Int) * 1) (((4 : Nat) : Int) - ((k + 1 : Nat) : Int)) 1) := (upd_ne nJI).trans z2
        have z1' : upd X2 I2 (itS ⟨(rows k).toArray⟩ tr (i + 1)) I2 = some (itS ⟨(rows k).toArray⟩ tr (i + 1)) := upd_same
        generalize upd X2 I2 (itS ⟨(rows k).toArray⟩ tr (i + 1)) = Z3 at *
        refine t_name f 4 rfl (Nat.le_of_ble_eq_true rfl) ?_
        refine x_cons (x_expr (hi := by unfold interactive; rw [hsc]; rfl) ?_)
        refine e_call (f_global (v := .ref 243) b f (by kernel_rfl) (by rw [hsc]; rfl) (by decide +kernel) ?_)
        refine c_with rfl (a_pos (s_cons (f_local f 1 rfl rfl (s_cons ?_))))
        refine e_call (f_builtin (v := .type "str") b f (by kernel_rfl) (by kernel_rfl) (by decide) (by rw [hsc]; rfl) (by decide +kernel) ?_)
        refine c_with rfl (a_pos (s_cons (f_local f 3 rfl rfl (s_nil ⟨Keep.type, ?_⟩))))
        refine f_str hk fun t7 => ?_
        refine s_cons (f_local f 4 rfl rfl (s_nil ⟨Keep.fn b (by kernel_rfl), ?_⟩))
        have hk48 : 48 + k ∈ persC := pers48 hk
        have hgr : (rows k)[i] ∈ persC := by
          have := hc k hk _ (List.getElem_mem hi')
          revert this
          generalize (rows k)[i] = g
          intro this
          simp at this
          rcases this with rfl | rfl | rfl | rfl <;> decide
        refine bk_lesson b (hA1.mono (by exact Nat.le_add_left _ _)) z3' hk48 hgr hok fun Z4 K4 F4 => ?_
        refine x_nil ⟨Z4, ⟨_, Z4, rfl, F4 _ _ z1' nIl nI217, F4 _ _ z2' nJ n217, ?_, step z4' F4⟩, Sub.refl⟩
        rw [List.take_add_one, List.getElem?_eq_getElem hi', List.map_append, ← List.append_assoc]
        rw [show List.map (fun s => (48 + k, s)) (some (rows k)[i]).toList = [(48 + k, (rows k)[i])] from rfl, foldT_snoc]
        exact K4
      · rintro us X2 ⟨sv2, X', hz, z1, z2, z3, z4⟩
        cases hz
        refine ⟨_, rfl, ?_⟩
        refine x_nil ⟨era X2 I2, ⟨_, _, era X2 I2, rfl, ?_, ?_, ?_⟩, Sub.refl⟩
        · unfold era; rw [if_neg nJI]; exact z2
        · have e3 : (rows k).take (⟨(rows k).toArray⟩ : Str).cps.size = rows k := by simp
          rw [e3] at z3
          exact z3.era (fk z1 foreign_itS) nI217
        · exact fun a j e n => by unfold era; rw [if_neg (hIH2 a j e n)]; exact z4 a j e n
      · exact ⟨_, _, rfl, Iz, Jz, by simpa using Kz, Fz⟩
    · rintro us X ⟨kv, sv, X', hz, y1, y2, y3⟩
      cases hz
      have n217 : J ≠ 217 := y2.ne217 y1 (by intro ps h; injection h with h; injection h with h1; cases h1)
      refine ⟨_, rfl, ?_⟩
      refine x_cons (x_return (f_local f 1 rfl rfl ?_))
      exact q bk xs lxs _ (y2.era (fk y1 foreign_itR) n217) fun a j e n => by show (if a = J then none else X a) = some j; rw [if_neg (by first | exact nn e (hJH) | exact Ne.symm (nn e (hJH)) | exact nn (hJH) e | exact Ne.symm (nn (hJH) e) | (rintro rfl; rw [hJH] at e; cases e))]; exact y3 a j e n
    · exact ⟨none, none, _, rfl, hJ1, K1, F1⟩
  · exact ⟨_, _, none, _, rfl, hI0, P0, k0, fun _ h => absurd h List.not_mem_nil⟩
end
end Mine
end
/-! part H23 -/
section
open PySem PySem.W PySem.Calls PyProof.Rows
set_option maxRecDepth 100000
set_option maxHeartbeats 4000000
set_option linter.unusedVariables false
namespace Mine
section
variable {w : World} {S : Shared} {B : HM} {A : Around} {H H' : HM} {L bk l : Addr} {ns : List Str} {vs : List (Option Value)} {env : Env} {pos : Pos}
theorem f_sum {us : List Value} {zs : List Int} {Q : Value → Fst → Prop} (hh : A.handled = none) (hl : H l = some (.lst us)) (hi : IntsAre us zs) (q : ∀ t, Q (.int zs.sum t) (vs, H)) : wpG w S (StF B L ns) A (call (.builtin "sum") [.ref l]) Q (vs, H) := fun h tk s => by
  obtain ⟨xs, hx⟩ := hi.allInts.items
  have hL := Heap.PlainList.isList (s.st.own l _ hl)
  rw [hx] at hL
  have e1 : xs.toList.map (·.1) = zs := by
    rw [← nums_intItems, ← hx]; exact hi.numsOf
  refine sum_intListG hh hL fun h' tk' t' hk => ⟨h', tk', _, rfl, s.keeps hk, ?_⟩
  rw [preSum_eq, List.take_of_length_le (by simp), e1]
  exact q t'
theorem f_max {us : List Value} {zs : List Int} {Q : Value → Fst → Prop} (hh : A.handled = none) (hl : H l = some (.lst us)) (hi : IntsAre us zs) (hne : 0 < zs.length) (q : ∀ M t, M ∈ zs → (∀ a ∈ zs, a ≤ M) → Q (.int M t) (vs, H)) : wpG w S (StF B L ns) A (call (.builtin "max") [.ref l]) Q (vs, H) := fun h tk s => by
  obtain ⟨xs, hx⟩ := hi.allInts.items
  have hL := Heap.PlainList.isList (s.st.own l _ hl)
  rw [hx] at hL
  have e1 : xs.toList.map (·.1) = zs := by
    rw [← nums_intItems, ← hx]; exact hi.numsOf
  have hlen : xs.size = zs.length := by rw [← e1]; simp
  refine max_intList hh hL (by (rw [hlen]; exact hne)) fun v h' tk' hv hk => ?_
  obtain ⟨t, rfl⟩ := intItems_at hv
  obtain ⟨h1, h2⟩ := argBest_gt (numAt xs) (xs.size - 1)
  refine ⟨h', tk', _, rfl, s.keeps hk, q _ t ?_ fun a ha => ?_⟩
  · rw [numAt_eq, ← e1]; exact getD_mem (by rw [List.length_map, Array.length_toList]; omega)
  · rw [← e1] at ha
    obtain ⟨j, hj, rfl⟩ := mem_getD ha
    rw [List.length_map, Array.length_toList] at hj
    rw [← numAt_eq]; exact h2 j (by exact Nat.le_sub_of_add_le (Nat.succ_le_of_lt hj))
theorem b_addl {l2 : Addr} {us ys : List Value} {Q : Value → Fst → Prop} (hl : H l = some (.lst us)) (hr : H l2 = some (.lst ys)) (hz : us.length + ys.length ≤ sizeLine) (q : ∀ r, H r = none → B r = none → Q (.ref r) (vs, upd H r (.lst (us ++ ys)))) :
    wpG w S (StF B L ns) A (binaryOp .Add (.ref l) (.ref l2)) Q (vs, H) := fun h tk s => by
  obtain ⟨n, ho⟩ := s.st.own l _ hl
  obtain ⟨n2, ho2⟩ := s.st.own l2 _ hr
  have e : us.toArray ++ ys.toArray = (us ++ ys).toArray := by simp
  refine concat_meets ⟨_, ho, rfl⟩ ⟨_, ho2, rfl⟩ noFill_list_add seq_list_add PySem.F.slot_list_add PySem.F.entry_list_add (PySem.F.args_list_add_2 _ _) (list_addW l l2 us.toArray ys.toArray n n2 none none #[] #[] (by simpa using hz)) ⟨ho, ho2, ?_⟩
  rw [e]
  exact ⟨_, _, _, rfl, s.new (i := .lst (us ++ ys)) (fun _ _ e => Heap.get?_push_of_some _ e) ⟨0, Heap.get?_push_size _ rfl⟩, q _ s.st.own.fresh s.st.base.fresh⟩
theorem ints_at : ∀ {us : List Value} {zs : List Int}, IntsAre us zs → ∀ (i : Nat) (z : Int), zs[i]? = some z → ∃ t, us[i]? = some (.int z t)
  | _, _, .nil, i, z, h => by simp at h
  | _, _, .cons n t h, 0, z, e => by simp at e; subst e; exact ⟨t, rfl⟩
  | _, _, .cons n t h, i + 1, z, e => ints_at h i z e
theorem c_eql {l2 : Addr} {us ys : List Value} {zs ws : List Int} {Q : Value → Fst → Prop} (hu : A.units < cLine) (hl : H l = some (.lst us)) (hr : H l2 = some (.lst ys)) (hi : IntsAre us zs) (hj : IntsAre ys ws) (q : Q (.bool (zs == ws)) (vs, H)) :
    wpG w S (StF B L ns) A (compareOp .Eq (.ref l) (.ref l2)) Q (vs, H) := fun h tk s => by
  have h1 := Heap.PlainList.isList (s.st.own l _ hl)
  have h2 := Heap.PlainList.isList (s.st.own l2 _ hr)
  by_cases e : zs.length = ws.length
  · refine PySem.SeqAt.eq_listAt (e := fun j => zs.getD j 0 == ws.getD j 0) h1 h2 (by simp [hi.length, hj.length, e]) hu (fun j a1 a2 => ?_) ⟨h, tk, _, rfl, s, ?_⟩
    · have b1 : j < us.length := by simpa using a1
      have b2 : j < ys.length := by simpa using a2
      have c1 : j < zs.length := by rw [← hi.length]; exact b1
      have c2 : j < ws.length := by rw [← hj.length]; exact b2
      obtain ⟨t1, d1⟩ := ints_at hi j zs[j] (List.getElem?_eq_getElem c1)
      obtain ⟨t2, d2⟩ := ints_at hj j ws[j] (List.getElem?_eq_getElem c2)
      have d1' : us.toArray[j] = .int zs[j] t1 := by
        have := (List.getElem?_eq_some_iff.mp d1).2; simpa using this
      have d2' : ys.toArray[j] = .int ws[j] t2 := by
        have := (List.getElem?_eq_some_iff.mp d2).2; simpa using this
      rw [d1', d2', List.getD_eq_getElem?_getD, List.getD_eq_getElem?_getD, List.getElem?_eq_getElem c1, List.getElem?_eq_getElem c2]
      exact (PySem.MeetsSeq.EqGives.int zs[j] ws[j] t1 t2).at _ _
    · have e2 : ((List.range us.toArray.size).all fun j => zs.getD j 0 == ws.getD j 0) = (zs == ws) := by
        rw [show us.toArray.size = zs.length from by simp [hi.length], Bool.eq_iff_iff]
        rw [List.all_eq_true, beq_iff_eq]
        constructor
        · intro h
          refine List.ext_getElem e fun j j1 j2 => ?_
          have := h j (by simpa using j1)
          rw [beq_iff_eq, List.getD_eq_getElem?_getD, List.getD_eq_getElem?_getD, List.getElem?_eq_getElem j1, List.getElem?_eq_getElem j2] at this
          exact this
        · rintro rfl j _; simp
      rw [e2]; exact q
  · refine PySem.SeqAt.eq_list_lengthsAt h1 h2 (by simp [hi.length, hj.length, e]) hu ⟨h, tk, _, rfl, s, ?_⟩
    have : (zs == ws) = false := by rw [beq_eq_false_iff_ne]; rintro rfl; exact e rfl
    rw [← this]; exact q
theorem mul_raw {prog : Program} {A : Around} {E : Value → Shared → Prop} {s : Shared} {l : Addr} {items : Array Value} {k : Nat} {x : Int} {u : Tok} {Q : Value → Shared → Prop}
    (hl : s.heap.get? l = some { cls := .type "list", dict := none, data := .seq items k, slots := #[] })
    (hlo : -(2 ^ 63 : Int) ≤ x) (hhi : x < 2 ^ 63) (hsz : items.size * x.toNat ≤ 2 ^ 24)
    (h : Q (.ref s.heap.objs.size) { s with heap := s.heap.push { cls := .type "list", data := .seq (List.foldl (fun x1 x2 => x1 ++ x2) #[] (List.replicate (if items.isEmpty = true then 0 else x.toNat) items)) } }) :
    wpAny (model prog w) A (binaryOp .Mult (.ref l) (.int x u)) Q E s :=
  wpAny_binaryOp_repeat_ref (T := "list") (U := "int") (by decide) ⟨_, hl, rfl⟩ (fun s' => typeIs_int s' x u) noFill_list_mul F.fills_int_mul F.slot_int_rmul repeat_list F.slot_int_index.lookup
    (call_meets F.slot_int_rmul (typeIs_int s x u) F.entry_int_rmul (F.args_int_rmul_2 _ _) (int___rmul___int_list x u l items k)
      ⟨hl, rfl, ⟨_, hl, rfl⟩, call_meets F.slot_list_mul ⟨_, hl, rfl⟩ F.entry_list_mul (F.args_list_mul_2 _ _)
        (AutoListH.list___mul___list_int_3 l items k x u (by simp [Builtin.List.listFitsIndex]; omega) (by omega) (by simp [Builtin.List.listTooLong, sizeLine]; (exact hsz)))
        ⟨hl, h⟩⟩)
theorem b_mull {us : List Value} {k : Nat} {x : Int} {u : Tok} {Q : Value → Fst → Prop} (hx : x = k) (hl : H l = some (.lst us)) (hk : us.length * k ≤ 1000) (hk2 : k ≤ 1000) (q : ∀ r, H r = none → B r = none → Q (.ref r) (vs, upd H r (.lst (List.replicate k us).flatten))) :
    wpG w S (StF B L ns) A (binaryOp .Mult (.ref l) (.int x u)) Q (vs, H) := fun h tk s => by
  obtain ⟨n, ho⟩ := s.st.own l _ hl
  have e : x.toNat = k := by (rw [hx]; exact (Int.toNat_natCast _))
  have hsz : us.toArray.size * x.toNat ≤ 2 ^ 24 := by
    rw [e, List.size_toArray]
    exact Nat.le_trans hk (by decide)
  refine mul_raw ho (by omega) (by omega) hsz ?_
  rw [listMul_foldl_if, e]
  exact ⟨_, _, _, rfl, s.new (i := .lst (List.replicate k us).flatten) (fun _ _ e => Heap.get?_push_of_some _ e) ⟨0, Heap.get?_push_size h (o := { cls := .type "list", data := .seq (List.replicate k us).flatten.toArray }) rfl⟩, q _ s.st.own.fresh s.st.base.fresh⟩
end
end Mine
end
/-! part H24 -/
section
open PySem PySem.W PySem.Calls PyProof.Rows
set_option maxRecDepth 100000
set_option maxHeartbeats 4000000
set_option linter.unusedVariables false
namespace Mine
def rowSum (zs : List Int) (k : Nat) : Int := ((zs.drop (4 * k)).take 4).sum
def colSum (zs : List Int) (k : Nat) : Int := [zs.getD k 0, zs.getD (k + 4) 0, zs.getD (k + 8) 0, zs.getD (k + 12) 0].sum
def sumsOf (zs : List Int) : List Int := (List.range 4).map (rowSum zs) ++ (List.range 4).map (colSum zs)
theorem ints_drop : ∀ {us : List Value} {zs : List Int}, IntsAre us zs → ∀ n, IntsAre (us.drop n) (zs.drop n)
  | _, _, .nil, n => by simp; exact .nil
  | _, _, .cons k t h, 0 => .cons k t h
  | _, _, .cons k t h, n + 1 => ints_drop h n
theorem ints_take : ∀ {us : List Value} {zs : List Int}, IntsAre us zs → ∀ n, IntsAre (us.take n) (zs.take n)
  | _, _, .nil, n => by simp; exact .nil
  | _, _, .cons k t h, 0 => .nil
  | _, _, .cons k t h, n + 1 => .cons k t (ints_take h n)
theorem ints_app : ∀ {us ys : List Value} {zs ws : List Int}, IntsAre us zs → IntsAre ys ws → IntsAre (us ++ ys) (zs ++ ws)
  | _, _, _, _, .nil, h => h
  | _, _, _, _, .cons k t g, h => .cons k t (ints_app g h)
theorem pick_row (us : List Value) (k : Nat) (h : us.length = 16) (hk : k < 4) : pick us (some ((4 : Int) * k)) (some ((4 : Int) * k + 4)) none = (us.drop (4 * k)).take 4 := by
  rw [pick_nn]
  simp only [kms_lo, kms_hi]
  rw [if_neg (by omega), if_neg (by omega), h]
  rw [show min ((4 : Int) * k).toNat 16 = 4 * k from by exact Mine.m16b hk, show min ((4 : Int) * k + 4).toNat 16 = 4 * k + 4 from by exact Mine.m16c hk]
  rw [show 4 * k + 4 - 4 * k = 4 from by exact Nat.add_sub_cancel_left _ _]
theorem col_rng {k : Nat} (hk : k < 4) : sliceRange (sliceBounds (some (k : Int)) none (some 4) 16).1 (sliceBounds (some (k : Int)) none (some 4) 16).2.1 (sliceBounds (some (k : Int)) none (some 4) 16).2.2 = [k, k + 4, k + 8, k + 12] := by
  match k, hk with
  | 0, _ | 1, _ | 2, _ | 3, _ => decide +kernel
theorem pick_col (us : List Value) (zs : List Int) (k : Nat) (hi : IntsAre us zs) (h : zs.length = 16) (hk : k < 4) : IntsAre (pick us (some (k : Int)) none (some 4)) [zs.getD k 0, zs.getD (k + 4) 0, zs.getD (k + 8) 0, zs.getD (k + 12) 0] := by
  have hu : us.toArray.size = 16 := by rw [List.size_toArray, hi.length]; exact h
  have g : ∀ j, j < 16 → ∃ t, us[j]? = some (.int (zs.getD j 0) t) := fun j hj => ints_at hi j _ (by rw [List.getD_eq_getElem?_getD, List.getElem?_eq_getElem (h ▸ hj)]; rfl)
  obtain ⟨t0, e0⟩ := g k (by exact Nat.lt_of_lt_of_le hk (Nat.le_add_left _ _))
  obtain ⟨t1, e1⟩ := g (k + 4) (by exact Nat.lt_of_lt_of_le (Nat.add_lt_add_right hk _) (Nat.le_add_left _ _))
  obtain ⟨t2, e2⟩ := g (k + 8) (by exact Nat.lt_of_lt_of_le (Nat.add_lt_add_right hk _) (Nat.le_add_left _ _))
  obtain ⟨t3, e3⟩ := g (k + 12) (by exact Nat.add_lt_add_right hk _)
  unfold pick slicePick
  rw [hu, col_rng hk]
  simp only [List.filterMap_cons, List.getElem?_toArray, e0, e1, e2, e3, List.filterMap_nil]
  exact .cons _ _ (.cons _ _ (.cons _ _ (.cons _ _ .nil)))
theorem hc_old {H1 : HM} {L I D a : Addr} {i j : Item} {itm : Nat → Item} {k : Nat} {ys : List Value} (e : H1 a = some i) (hD : H1 D = none) (hI : H1 I = none) (hL : H1 L = none) : Hc (upd H1 L j) I D itm k ys a = some i := by
  have e1 : a ≠ D := by first | exact nn e (hD) | exact Ne.symm (nn e (hD)) | exact nn (hD) e | exact Ne.symm (nn (hD) e) | (rintro rfl; rw [hD] at e; cases e)
  have e2 : a ≠ I := by first | exact nn e (hI) | exact Ne.symm (nn e (hI)) | exact nn (hI) e | exact Ne.symm (nn (hI) e) | (rintro rfl; rw [hI] at e; cases e)
  have e3 : a ≠ L := by first | exact nn e (hL) | exact Ne.symm (nn e (hL)) | exact nn (hL) e | exact Ne.symm (nn (hL) e) | (rintro rfl; rw [hL] at e; cases e)
  unfold Hc
  exact (upd_ne e1).trans ((upd_ne e2).trans ((upd_ne e3).trans e))
abbrev ssCells : Str := ⟨#[99, 101, 108, 108, 115]⟩
section
variable {w : World} {S : Shared} {B : HM} {A : Around} {H H' : HM} {L bk l : Addr} {ns : List Str} {vs : List (Option Value)} {env : Env} {pos : Pos}
theorem sums_spec {us : List Value} {zs : List Int} {Q : Result → HM → Prop} (b : BaseOk w B) (hA : Room A 20) (hl : H l = some (.lst us)) (hi : IntsAre us zs) (h16 : zs.length = 16)
    (q : ∀ r ys H', H' r = some (.lst ys) → Sub H H' → IntsAre ys (sumsOf zs) → Q (.ok (.ret (.ref r))) H') : codeG w S (St B) A (.call (.ref 260) ⟨[.ref l], []⟩) Q H := by
  refine enterC b hA (hd.zo_262 w.params) [] [(ssCells, .ref l)] [(ssCells, some (.ref l))] (by kernel_rfl) rfl (by kernel_rfl) (ns := []) ⟨rfl, by decide +kernel, by decide +kernel, by decide +kernel⟩ rfl rfl (Nat.le_of_ble_eq_true rfl) ?_ ?_ rfl rfl ?_
  · intro L y hy
    simp only [List.mem_cons, List.not_mem_nil, or_false] at hy
    rcases hy with rfl
    exact .inr ⟨rfl, rfl⟩
  · intro L
    exact ⟨⟨rfl, rfl⟩, trivial⟩
  intro A1 L env hA1 f hsc hcl hco hql hfr
  replace hcl : env.cells = [(ssCells, L + 1)] := hcl
  have hn : H (L + 1) = none := (hfr 1).1
  have hu16 : us.length = 16 := by rw [hi.length]; exact h16
  show wpG w S (StF B L []) A1 _ _ (_, upd H (L + 1) (cel (some (.ref l))))
  have hX : upd H (L + 1) (cel (some (.ref l))) (L + 1) = some (cel (some (.ref l))) := upd_same
  have hXl : upd H (L + 1) (cel (some (.ref l))) l = some (.lst us) := upd_old hn hl
  have kX : Sub H (upd H (L + 1) (cel (some (.ref l)))) := Sub.new hn
  generalize upd H (L + 1) (cel (some (.ref l))) = X at *
  refine x_cons (x_return (e_bin ?_))
  refine e_comp (cns := [⟨#[107]⟩]) (cl := [(ssCells, L + 1)]) f (by unfold closureFor cellOf; rw [hcl]; rfl) ?_ rfl ?_ ?_ ?_
  · decide +kernel
  · decide +kernel
  · exact ⟨rfl, by decide +kernel, by intro y hy; simp at hy; subst hy; rfl, by decide +kernel⟩
  refine e_call (f_builtin (v := .type "range") b f (by kernel_rfl) (by kernel_rfl) (by decide) (by rw [hsc]; rfl) (by decide +kernel) ?_)
  refine c_with rfl (a_pos (s_int fun t5 => s_nil ⟨Keep.type, ?_⟩))
  refine r_range1 fun r1 g1 g2 => ?_
  refine i_range upd_same (by decide) (by decide) (by decide) (by decide) fun I hI hBI => ?_
  replace g1 : X r1 = none := g1
  replace hI : upd X r1 (rngI 0 4) I = none := hI
  refine ⟨I, _, upd X r1 (rngI 0 4), 4, (fun i v => ∃ t, v = .int (0 + i * 1) t), (fun i => itR (0 + i * 1) ((4 : Nat) - i) 1), fun _ => True, fun i ys => IntsAre ys ((List.range i).map (rowSum zs)), rfl, rfl, hI, ?_⟩
  have k1 : Sub X (upd X r1 (rngI 0 4)) := Sub.new g1
  refine ⟨fun C => iter_range hA1.hand 0 1 4, fun _ _ => trivial, fun i ys h => ?_, by decide, fun _ _ _ => trivial, .nil, ?_, ?_⟩
  · rw [h.length, List.length_map, List.length_range]; exact Nat.le_refl _
  · intro D C hD hBD hDI hL hLD hLI fc i v ys cvs hi4 hv hJ hcv
    obtain ⟨tv, rfl⟩ := hv
    match cvs, hcv with
    | [u0], _ =>
    refine t_name fc 0 rfl (Nat.le_of_ble_eq_true rfl) (tests_nil ?_)
    rw [if_pos rfl]
    refine e_call (f_builtin (v := .builtin "sum") b fc (by kernel_rfl) (by kernel_rfl) (by decide) rfl (by decide +kernel) ?_)
    refine c_with rfl (a_pos (s_cons ?_))
    have hc1 := hc_old (j := .loc [] (vals [] [])) (itm := fun i => itR (0 + i * 1) ((4 : Nat) - i) 1) (k := i + 1) (ys := ys) (k1 _ _ hX) hD hI hL
    have hl1 := hc_old (j := .loc [] (vals [] [])) (itm := fun i => itR (0 + i * 1) ((4 : Nat) - i) 1) (k := i + 1) (ys := ys) (k1 _ _ hXl) hD hI hL
    refine e_slice (f_cell fc (.comp rfl rfl) hc1 (p_some (e_bin (e_int fun t1 => f_local fc 0 rfl rfl (b_mul ?_ fun t2 => p_some (e_bin (e_bin (e_int fun t3 => f_local fc 0 rfl rfl (b_mul ?_ fun t4 => e_int fun t6 => b_add fun t7 => ?_)))))))))
    · exact .of_left (intBits_le_64 (by decide) (by decide))
    · exact .of_left (intBits_le_64 (by decide) (by decide))
    refine ⟨l, us, _, _, rfl, hl1, by rw [hu16]; decide, .int _ _, .int _ _, fun b9 g7 g8 => s_nil ⟨Keep.builtin, ?_⟩⟩
    rw [show ((0 : Int) + (i : Int) * 1) = (i : Int) from by omega, pick_row us i hu16 hi4]
    refine f_sum hA1.hand upd_same (ints_take (ints_drop hi _) _) fun t9 => ⟨?_, rfl, Sub.new g7⟩
    rw [List.range_succ, List.map_append]
    exact ints_app hJ (.cons _ _ .nil)
  · intro D1 ys1 hD1 hBD1 hJ1
    refine e_comp (cns := [⟨#[107]⟩]) (cl := [(ssCells, L + 1)]) f (by unfold closureFor cellOf; rw [hcl]; rfl) ?_ rfl ?_ ?_ ?_
    · decide +kernel
    · decide +kernel
    · exact ⟨rfl, by decide +kernel, by intro y hy; simp at hy; subst hy; rfl, by decide +kernel⟩
    refine e_call (f_builtin (v := .type "range") b f (by kernel_rfl) (by kernel_rfl) (by decide) (by rw [hsc]; rfl) (by decide +kernel) ?_)
    refine c_with rfl (a_pos (s_int fun t5 => s_nil ⟨Keep.type, ?_⟩))
    refine r_range1 fun r2 g1 g2 => ?_
    refine i_range upd_same (by decide) (by decide) (by decide) (by decide) fun I hI hBI => ?_
    replace g1 : (upd (upd X r1 (rngI 0 4)) D1 (.lst ys1)) r2 = none := g1
    replace hI : upd (upd (upd X r1 (rngI 0 4)) D1 (.lst ys1)) r2 (rngI 0 4) I = none := hI
    refine ⟨I, _, upd (upd (upd X r1 (rngI 0 4)) D1 (.lst ys1)) r2 (rngI 0 4), 4, (fun i v => ∃ t, v = .int (0 + i * 1) t), (fun i => itR (0 + i * 1) ((4 : Nat) - i) 1), fun _ => True, fun i ys => IntsAre ys ((List.range i).map (colSum zs)), rfl, rfl, hI, ?_⟩
    have k2 : Sub (upd (upd X r1 (rngI 0 4)) D1 (.lst ys1)) (upd (upd (upd X r1 (rngI 0 4)) D1 (.lst ys1)) r2 (rngI 0 4)) := Sub.new g1
    refine ⟨fun C => iter_range hA1.hand 0 1 4, fun _ _ => trivial, fun i ys h => ?_, by decide, fun _ _ _ => trivial, .nil, ?_, ?_⟩
    · rw [h.length, List.length_map, List.length_range]; exact Nat.le_refl _
    · intro D C hD hBD hDI hL hLD hLI fc i v ys cvs hi4 hv hJ hcv
      obtain ⟨tv, rfl⟩ := hv
      match cvs, hcv with
      | [u0], _ =>
      refine t_name fc 0 rfl (Nat.le_of_ble_eq_true rfl) (tests_nil ?_)
      rw [if_pos rfl]
      refine e_call (f_builtin (v := .builtin "sum") b fc (by kernel_rfl) (by kernel_rfl) (by decide) rfl (by decide +kernel) ?_)
      refine c_with rfl (a_pos (s_cons ?_))
      have hc1 := hc_old (j := .loc [] (vals [] [])) (itm := fun i => itR (0 + i * 1) ((4 : Nat) - i) 1) (k := i + 1) (ys := ys) (k2 _ _ (upd_old (j := .lst ys1) hD1 (k1 _ _ hX))) hD hI hL
      have hl1 := hc_old (j := .loc [] (vals [] [])) (itm := fun i => itR (0 + i * 1) ((4 : Nat) - i) 1) (k := i + 1) (ys := ys) (k2 _ _ (upd_old (j := .lst ys1) hD1 (k1 _ _ hXl))) hD hI hL
      refine e_slice3 (f_cell fc (.comp rfl rfl) hc1 (p_some (f_local fc 0 rfl rfl (p_none (e_int fun t6 => ?_)))))
      refine ⟨l, us, _, _, 4, rfl, hl1, by rw [hu16]; decide, .int _ _, .none, .int _ _, by decide, fun b9 g7 g8 => s_nil ⟨Keep.builtin, ?_⟩⟩
      rw [show ((0 : Int) + (i : Int) * 1) = (i : Int) from by omega]
      refine f_sum hA1.hand upd_same (pick_col us zs i hi h16 hi4) fun t9 => ⟨?_, rfl, Sub.new g7⟩
      rw [List.range_succ, List.map_append]
      exact ints_app hJ (.cons _ _ .nil)
    · intro D2 ys2 hD2 hBD2 hJ2
      have p1 : upd (upd (upd (upd X r1 (rngI 0 4)) D1 (.lst ys1)) r2 (rngI 0 4)) D2 (.lst ys2) D1 = some (.lst ys1) := upd_old hD2 (k2 _ _ upd_same)
      refine b_addl p1 upd_same (by rw [hJ1.length, hJ2.length, List.length_map, List.length_map, List.length_range]; exact (show 8 ≤ 16777216 by exact Nat.le_add_left _ _)) fun r9 g9 g10 => ?_
      have kk : Sub H (upd (upd (upd (upd X r1 (rngI 0 4)) D1 (.lst ys1)) r2 (rngI 0 4)) D2 (.lst ys2)) := kX.trans (k1.trans ((Sub.new hD1).trans (k2.trans (Sub.new hD2))))
      exact q r9 _ _ upd_same (kk.trans (Sub.new g9)) (ints_app hJ1 hJ2)
/-- a contract that only adds, called from a frame -/
theorem f_sub {f : Value} {args : List Value} {P : Value → HM → Prop} {Q : Value → Fst → Prop}
    (hP : ∀ v H' L, P v H' → (∃ m z, H' L = some (.loc m z)) → P v (era H' L))
    (y : ∀ H0, Sub H H0 → ∀ Q' : Result → HM → Prop, (∀ H' v, Sub H0 H' → P v H' → Q' (.ok (.ret v)) H') → codeG w S (St B) A (.call f ⟨args, []⟩) Q' H0)
    (q : ∀ H' v, Sub H H' → P v H' → Q v (vs, H')) : wpG w S (StF B L ns) A (call f args) Q (vs, H) := by
  refine f_fn fun hL => y _ (Sub.new hL) _ fun H' v k p => ?_
  have eL : H' L = some (.loc ns vs) := k L _ upd_same
  refine ⟨era H' L, fun a i e => ?_, if_pos rfl, v, rfl, q _ v (fun a i e => ?_) (hP v H' L p ⟨_, _, eL⟩)⟩
  · by_cases z : a = L
    · subst z; rw [upd_same] at e; cases e; exact eL
    · rw [upd_ne z] at e; unfold era at e; rw [if_neg z] at e; exact e
  · have z : a ≠ L := by first | exact nn e (hL) | exact Ne.symm (nn e (hL)) | exact nn (hL) e | exact Ne.symm (nn (hL) e) | (rintro rfl; rw [hL] at e; cases e)
    unfold era; rw [if_neg z]
    exact k a i (Sub.new hL _ _ e)
theorem f_sums {us : List Value} {zs : List Int} {Q : Value → Fst → Prop} (b : BaseOk w B) (hA : Room A 20) (hl : H l = some (.lst us)) (hi : IntsAre us zs) (h16 : zs.length = 16)
    (q : ∀ r ys H', H' r = some (.lst ys) → Sub H H' → IntsAre ys (sumsOf zs) → Q (.ref r) (vs, H')) : wpG w S (StF B L ns) A (call (.ref 260) [.ref l]) Q (vs, H) := by
  refine f_sub (P := fun v H' => ∃ r ys, v = .ref r ∧ H' r = some (.lst ys) ∧ IntsAre ys (sumsOf zs)) ?_ (fun H0 k Q' q' => sums_spec b hA (k _ _ hl) hi h16 fun r ys H' e k' g => q' H' _ k' ⟨r, ys, rfl, e, g⟩) ?_
  · rintro v H' L ⟨r, ys, rfl, e, g⟩ ⟨m, z, eL⟩
    exact ⟨r, ys, rfl, by unfold era; rw [if_neg (by first | exact nn e (eL) | exact Ne.symm (nn e (eL)) | exact nn (eL) e | exact Ne.symm (nn (eL) e) | (rintro rfl; rw [eL] at e; cases e))]; exact e, g⟩
  · rintro H' v k ⟨r, ys, rfl, e, g⟩
    exact q r ys H' e k g
end
end Mine
end
/-! part H25 -/
section
open PySem PySem.W PySem.Calls PyProof.Rows
set_option maxRecDepth 100000
set_option maxHeartbeats 4000000
set_option linter.unusedVariables false
namespace Mine
/-! nested defs: the text of the def is taken from the function that makes it -/
def bodyOf (o : Obj) : List Stmt := match o.data with
  | .func fd => (match fd.body with | .stmts b => b | _ => [])
  | _ => []
def defIn : List Stmt → Arguments × List Stmt × Scope
  | .FunctionDef _ p b _ _ _ sc _ _ _ :: _ => (p, b, sc)
  | _ :: r => defIn r
  | [] => (default, [], default)
/-- a code table: blank, or with the nested def's code -/
def TabX (P : Addr) (ln cl : Nat) (ql : Str) (H : HM) : Prop := H P = some (.obj (tabObj #[])) ∨ ∃ c', H P = some (.obj (tabObj #[rawInt ln, rawInt cl, .ref c'])) ∧ H c' = some (crec ql)
section
variable {w : World} {S : Shared} {B : HM} {A : Around} {H H' : HM} {L c P l : Addr} {ns : List Str} {vs : List (Option Value)} {env : Env} {pos : Pos} {ln cl : Nat} {ql : Str}
theorem TabX.mono (t : TabX P ln cl ql H) (k : Sub H H') : TabX P ln cl ql H' := by
  rcases t with t | ⟨c', t1, t2⟩
  · exact .inl (k _ _ t)
  · exact .inr ⟨c', k _ _ t1, k _ _ t2⟩
theorem TabX.some (t : TabX P ln cl ql H) : ∃ ps, H P = some (.obj (tabObj ps)) := by
  rcases t with t | ⟨_, t, _⟩ <;> exact ⟨_, t⟩
theorem x_defX {scope : Scope} {clos : List (Str × Addr)} {params : Arguments} {name : Str} {body : List Stmt} {Q : Flow → Fst → Prop} (b : BaseOk w B) (l : Fn env L ns) (hcl : closureFor scope env = pure clos) (hcode : env.code = .ref c) (C : ∀ h, Own B h → CodeHd h c P) (hT : TabX P ln cl ql H)
    (hd0 : params.defaults = []) (hk0 : params.kw_defaults = []) (ha : annTrees params none env = []) (hq : qualnameIn env name name = ql) (hl : pos.line = ln) (hp : pos.col = cl)
    (q : ∀ Z fa c' ctv doc pm, Z fa = some (.obj (fnMade name ql params body scope clos doc pm c' ctv)) → Z c' = some (crec ql) → TabX P ln cl ql Z → (∀ a i, H a = some i → a ≠ P → Z a = some i) → wpG w S (StF B L ns) A (storeName env name (.ref fa)) (fun _ => Q .next) (vs, Z)) :
    wpG w S (StF B L ns) A (exec (.FunctionDef name params body [] none [] scope none name pos) env) Q (vs, H) := by
  rcases hT with hT | ⟨c', h1, h2⟩
  · refine x_def b l hcl hcode C hT trivial rfl hd0 hk0 ha fun c' fa ctv doc pm a1 a2 a3 a4 n1 n2 => ?_
    rw [hq, hl, hp]
    have n3 : P ≠ fa := by first | exact nn a3 (hT) | exact Ne.symm (nn a3 (hT)) | exact nn (hT) a3 | exact Ne.symm (nn (hT) a3) | (rintro rfl; rw [hT] at a3; cases a3)
    refine q _ fa c' ctv doc pm upd_same ((upd_ne n1).trans upd_same) (.inr ⟨c', ?_, (upd_ne n1).trans upd_same⟩) fun a i e n => ?_
    · exact (upd_ne n3).trans ((upd_ne (Ne.symm n2)).trans upd_same)
    · have m1 : a ≠ c' := by first | exact nn e (a1) | exact Ne.symm (nn e (a1)) | exact nn (a1) e | exact Ne.symm (nn (a1) e) | (rintro rfl; rw [a1] at e; cases e)
      have m2 : a ≠ fa := by first | exact nn e (a3) | exact Ne.symm (nn e (a3)) | exact nn (a3) e | exact Ne.symm (nn (a3) e) | (rintro rfl; rw [a3] at e; cases e)
      exact (upd_ne m2).trans ((upd_ne m1).trans ((upd_ne n).trans e))
  · refine x_defHit (c' := c') b l hcl hcode C h1 trivial (by unfold codeAmong; simp [rawInt, hl, hp]) hd0 hk0 ha fun fa ctv doc pm a1 a2 => ?_
    rw [hq]
    exact q _ fa c' ctv doc pm upd_same (upd_old a1 h2) (.inr ⟨c', upd_old a1 h1, upd_old a1 h2⟩) fun a i e n => upd_old a1 e
theorem codeHd_d2i (b : BaseOk w B) : ∀ h, Own B h → CodeHd h 51 47 := fun h o => by
  have X := b.kin h o
  exact ⟨hd.zo_74 w.params, _, _, _, _, _, _, _, _, X _ _ (by kernel_rfl), rfl, rfl, rfl, rfl, rfl, rfl, rfl, rfl, by decide⟩
theorem codeHd_i2d (b : BaseOk w B) : ∀ h, Own B h → CodeHd h 44 40 := fun h o => by
  have X := b.kin h o
  exact ⟨hd.zo_67 w.params, _, _, _, _, _, _, _, _, X _ _ (by kernel_rfl), rfl, rfl, rfl, rfl, rfl, rfl, rfl, rfl, by decide⟩
end
/-! the value of digits to base 16 -/
def ev : List Int → Int
  | [] => 0
  | z :: r => z + 16 * ev r
theorem ev_app : ∀ (a b : List Int), ev (a ++ b) = ev a + 16 ^ a.length * ev b
  | [], b => by simp [ev]
  | z :: a, b => by
    rw [List.cons_append, ev, ev_app a b, ev, List.length_cons, Int.pow_succ]
    rw [Int.mul_add, Int.add_assoc, ← Int.mul_assoc, Int.mul_comm (16 : Int) (16 ^ a.length)]
def dval (zs : List Int) (L R : Nat) : Int := ev ((zs.drop L).take (R - L))
theorem dval_split {zs : List Int} {L M R : Nat} (h1 : L ≤ M) (h2 : M ≤ R) (h3 : R ≤ zs.length) : dval zs L R = dval zs L M + 16 ^ (M - L) * dval zs M R := by
  unfold dval
  have e : (zs.drop L).take (R - L) = (zs.drop L).take (M - L) ++ (zs.drop M).take (R - M) := by
    rw [show R - L = (M - L) + (R - M) from by exact nm6 h1 h2, List.take_add, List.drop_drop, show L + (M - L) = M from by exact Nat.add_sub_of_le h1]
  rw [e, ev_app]
  congr 2
  rw [List.length_take, List.length_drop]
  congr 1; omega
theorem ev_bound : ∀ (l : List Int), (∀ z ∈ l, 0 ≤ z ∧ z < 16) → 0 ≤ ev l ∧ ev l < 16 ^ l.length
  | [], _ => by simp [ev]
  | z :: r, h => by
    have ih := ev_bound r fun y hy => h y (List.mem_cons_of_mem _ hy)
    have hz := h z List.mem_cons_self
    rw [ev, List.length_cons, Int.pow_succ]
    omega
theorem dval_bound {zs : List Int} {L R : Nat} (h : ∀ z ∈ zs, 0 ≤ z ∧ z < 16) (h3 : R ≤ zs.length) : 0 ≤ dval zs L R ∧ dval zs L R < 16 ^ (R - L) := by
  have := ev_bound ((zs.drop L).take (R - L)) fun z hz => h z (List.mem_of_mem_drop (List.mem_of_mem_take hz))
  rw [List.length_take, List.length_drop] at this
  by_cases hle : R - L ≤ zs.length - L
  · rw [Nat.min_eq_left hle] at this; exact this
  · omega
theorem dval_one {zs : List Int} {L : Nat} (h : L < zs.length) : dval zs L (L + 1) = zs[L] := by
  unfold dval
  rw [show L + 1 - L = 1 from by exact Nat.add_sub_cancel_left _ _, List.drop_eq_getElem_cons h]
  show zs[L] + 16 * ev (List.take 0 _) = _
  rw [List.take_zero]; simp [ev]
end Mine
end
/-! part H26 -/
section
open PySem PySem.W PySem.Calls PyProof.Rows
set_option maxRecDepth 100000
set_option maxHeartbeats 4000000
set_option linter.unusedVariables false
namespace Mine
abbrev ssInner : Str := ⟨#[105, 110, 110, 101, 114]⟩
abbrev ssDigits : Str := ⟨#[100, 105, 103, 105, 116, 115]⟩
abbrev ssN : Str := ⟨#[110]⟩
abbrev qD2i : Str := ⟨#[95, 100, 105, 103, 105, 116, 115, 50, 105, 110, 116]⟩
abbrev qInD : Str := qD2i ++ ".<locals>." ++ ssInner
noncomputable abbrev dD (w : World) := defIn (bodyOf (hd.zo_75 w.params))
abbrev nsDin : List Str := [⟨#[76]⟩, ⟨#[82]⟩, ⟨#[109, 105, 100]⟩, ⟨#[115, 104, 105, 102, 116]⟩]
section
variable {w : World} {S : Shared} {B : HM} {A : Around} {H H' : HM} {L c P l fa c' cd cn ci : Addr} {ns : List Str} {vs : List (Option Value)} {env : Env} {pos : Pos}
theorem nocell_of {l : List (Str × NameKind)} (h : l.all (fun x => x.2 != .cell) = true) : ∀ x ∈ l, x.2 ≠ .cell := fun x hx e => by
  have := List.all_eq_true.mp h x hx
  rw [e] at this; cases this
theorem pow16_le {a b : Nat} (h : a ≤ b) : (16 : Int) ^ a ≤ 16 ^ b := by
  have := Nat.pow_le_pow_right (n := 16) (by decide) h
  exact_mod_cast this
structure DIn (w : World) (H : HM) (fa c' cd cn ci l : Addr) (us : List Value) : Prop where
  f : ∃ doc pm ctv, H fa = some (.obj (fnMade ssInner qInD (dD w).1 (dD w).2.1 (dD w).2.2 [(ssN, cn), (ssInner, ci), (ssDigits, cd)] doc pm c' ctv))
  c : H c' = some (crec qInD)
  d : H cd = some (cel (some (.ref l)))
  n : ∃ t, H cn = some (cel (some (.int 4 t)))
  i : H ci = some (cel (some (.ref fa)))
  l : H l = some (.lst us)
theorem DIn.mono {us : List Value} (x : DIn w H fa c' cd cn ci l us) (k : Sub H H') : DIn w H' fa c' cd cn ci l us :=
  ⟨let ⟨a, b, c, e⟩ := x.f; ⟨a, b, c, k _ _ e⟩, k _ _ x.c, k _ _ x.d, let ⟨t, e⟩ := x.n; ⟨t, k _ _ e⟩, k _ _ x.i, k _ _ x.l⟩
theorem b_shr {a n : Int} {t u : Tok} {σ : Type} {J : σ → Heap → Prop} {x : σ} {Q : Value → σ → Prop} (hn : 0 ≤ n) (q : ∀ t, Q (.int (a.fdiv (2 ^ n.toNat)) t) x) : wpG w S J A (binaryOp .RShift (.int a t) (.int n u)) Q x := fun h tk s => PyProof.Rows.rshift_int hn ⟨h, _, x, rfl, s, q _⟩
theorem b_shl {a n : Int} {t u : Tok} {σ : Type} {J : σ → Heap → Prop} {x : σ} {Q : Value → σ → Prop} (hn : 0 ≤ n) (hn2 : n ≤ 1000000) (ha : a.natAbs < 2 ^ 64) (q : ∀ t, Q (.int (a * 2 ^ n.toNat) t) x) : wpG w S J A (binaryOp .LShift (.int a t) (.int n u)) Q x := fun h tk s => PyProof.Rows.lshift_int_small hn hn2 ha ⟨h, _, x, rfl, s, q _⟩
theorem dinner_spec {zs : List Int} {us : List Value} (b : BaseOk w B) (hz : ∀ z ∈ zs, 0 ≤ z ∧ z < 16) (hi : IntsAre us zs) (h16 : zs.length ≤ 16) :
    ∀ (m Lo R : Nat), R - Lo ≤ m → Lo < R → R ≤ zs.length → ∀ {A : Around} {H : HM} {Q : Result → HM → Prop} {t1 t2 : Tok}, Room A (m + 5) → DIn w H fa c' cd cn ci l us →
      (∀ t, Q (.ok (.ret (.int (dval zs Lo R) t))) H) → codeG w S (St B) A (.call (.ref fa) ⟨[.int Lo t1, .int R t2], []⟩) Q H := by
  intro m
  induction m with
  | zero => intro Lo R h1 h2; (exact absurd (Nat.sub_pos_of_lt h2) (Nat.not_lt_of_le h1))
  | succ m ih =>
    intro Lo R h1 h2 h3 A H Q t1 t2 hA x q
    obtain ⟨doc, pm, ctv, xf⟩ := x.f
    obtain ⟨tn, xn⟩ := x.n
    refine enterNest (ns := nsDin) b (hA.mono (m := m + 6) (by exact Nat.le_refl _)) [.int Lo t1, .int R t2] xf x.c ⟨rfl, by decide +kernel, by intro y hy; simp at hy; rcases hy with rfl | rfl | rfl | rfl <;> rfl, by decide +kernel⟩ rfl (Nat.le_of_ble_eq_true rfl) rfl rfl (nocell_of (by kernel_rfl)) ?_
    intro A1 L env hA1 f hsc hcl hco
    have eD : Cel env ssDigits cd := ⟨.inr (by unfold Env.kindOf; rw [hsc]; rfl), by rw [hcl]; rfl, by decide +kernel, by decide +kernel⟩
    have eI : Cel env ssInner ci := ⟨.inr (by unfold Env.kindOf; rw [hsc]; rfl), by rw [hcl]; rfl, by decide +kernel, by decide +kernel⟩
    have eN : Cel env ssN cn := ⟨.inr (by unfold Env.kindOf; rw [hsc]; rfl), by rw [hcl]; rfl, by decide +kernel, by decide +kernel⟩
    refine x_cons (x_if (t_cmp (e_bin (f_local f 0 rfl rfl (e_int fun t3 => b_add fun t4 => f_local f 1 rfl rfl (c_eqi (t_bool ?_)))))))
    by_cases e : Lo + 1 = R
    · subst e
      rw [if_pos (by simp)]
      obtain ⟨tz, htz⟩ := ints_at hi Lo zs[Lo] (List.getElem?_eq_getElem (by exact Nat.lt_of_succ_le h3))
      refine x_cons (x_return (e_sub (f_cell f eD x.d (f_local f 0 rfl rfl (tl_list x.l (by exact Int.natCast_nonneg _) (by exact Mine.ci9 (Nat.le_trans h3 h16) (Nat.le_add_left _ _)) (by simpa using htz) ?_)))))
      have := q tz
      rw [dval_one (by exact Nat.lt_of_succ_le h3)] at this
      exact this
    · rw [if_neg (by simp; omega)]
      refine x_nil ?_
      refine x_cons (x_assign (e_bin (e_bin (f_local f 0 rfl rfl (f_local f 1 rfl rfl (b_add fun t3 => e_int fun t4 => b_shr (by decide) fun t5 => ?_))))))
      have em : ((Lo : Int) + (R : Int)).fdiv (2 ^ (1 : Int).toNat) = (((Lo + R) / 2 : Nat) : Int) := by
        rw [Int.fdiv_eq_ediv_of_nonneg _ (by decide)]; simp
      rw [em]
      refine f_store f 2 rfl (Nat.le_of_ble_eq_true rfl) ?_
      refine x_cons (x_assign (e_bin (e_bin (f_local f 2 rfl rfl (f_local f 0 rfl rfl (b_sub fun t6 => f_cell f eN xn (b_mul ?_ fun t7 => ?_)))))))
      · exact .of_right (intBits_le_64 (by decide) (by decide))
      generalize hmid : (Lo + R) / 2 = mid at *
      have hm1 : Lo < mid := by exact nm4 h2 e hmid
      have hm2 : mid < R := by exact nm5 h2 hmid
      have es : ((mid : Int) - (Lo : Int)) * 4 = ((4 * (mid - Lo) : Nat) : Int) := by exact Mine.subc4 hm1
      rw [es]
      refine f_store f 3 rfl (Nat.le_of_ble_eq_true rfl) ?_
      refine x_cons (x_return (e_bin (e_bin ?_)))
      refine e_call (f_cell f eI x.i ?_)
      refine c_with rfl (a_pos (s_cons (f_local f 2 rfl rfl (s_cons (f_local f 1 rfl rfl (s_nil ⟨Keep.made xf, ?_⟩))))))
      refine f_fn fun hL => ih mid R (by exact nm2 h1 hm1 hm2) hm2 h3 (hA1.mono (by exact Nat.le_refl _)) (x.mono (Sub.new hL)) fun t8 => ?_
      refine ⟨H, Sub.refl, hL, _, rfl, ?_⟩
      have hb := dval_bound (L := mid) (R := R) hz h3
      refine f_local f 3 rfl rfl (b_shl (by exact Int.natCast_nonneg _) (by exact Mine.c4b hm2 h3 h16) ?_ fun t9 => ?_)
      · have h4 : (16 : Int) ^ (R - mid) ≤ 16 ^ 15 := pow16_le (by exact Mine.fm1 h16 h3 hm1)
        have : (16 : Int) ^ 15 < 2 ^ 64 := by decide
        omega
      refine e_call (f_cell f eI x.i ?_)
      refine c_with rfl (a_pos (s_cons (f_local f 0 rfl rfl (s_cons (f_local f 2 rfl rfl (s_nil ⟨Keep.made xf, ?_⟩))))))
      refine f_fn fun hL => ih Lo mid (by exact nm1 h1 hm2 hm1) hm1 (by exact Nat.le_of_lt (Nat.lt_of_lt_of_le hm2 h3)) (hA1.mono (by exact Nat.le_refl _)) (x.mono (Sub.new hL)) fun t10 => ?_
      refine ⟨H, Sub.refl, hL, _, rfl, ?_⟩
      refine b_add fun t11 => ?_
      have := q t11
      rw [dval_split (M := mid) (by exact Nat.le_of_lt hm1) (by exact Nat.le_of_lt hm2) h3] at this
      have e2 : dval zs mid R * 2 ^ (((4 * (mid - Lo) : Nat) : Int)).toNat + dval zs Lo mid = dval zs Lo mid + 16 ^ (mid - Lo) * dval zs mid R := by
        have e3 : (2 : Int) ^ (4 * (mid - Lo)) = 16 ^ (mid - Lo) := by
          have := Nat.pow_mul 2 4 (mid - Lo)
          exact_mod_cast this
        rw [Int.toNat_natCast, e3, Int.add_comm, Int.mul_comm]
      rw [e2]
      exact this
theorem t_list {l : Addr} {us : List Value} {Q : Bool → Fst → Prop} (hl : H l = some (.lst us)) (hz : us.length ≤ 1000) (q : Q (!us.isEmpty) (vs, H)) : wpG w S (StF B L ns) A (truthy (.ref l)) Q (vs, H) := fun h tk s =>
  wpAny_truthy_list (Heap.PlainList.isList (s.st.own l _ hl)) (by simp; omega) ⟨h, _, _, rfl, s, by simpa using q⟩
theorem digits2int_spec {zs : List Int} {us : List Value} {Q : Result → HM → Prop} {t1 : Tok} (b : BaseOk w B) (hA : Room A 40) (hl : H l = some (.lst us)) (hz : ∀ z ∈ zs, 0 ≤ z ∧ z < 16) (hi : IntsAre us zs) (h16 : zs.length = 16) (hT : TabX 47 24 4 qInD H)
    (q : ∀ t H', TabX 47 24 4 qInD H' → (∀ a i, H a = some i → a ≠ 47 → H' a = some i) → Q (.ok (.ret (.int (ev zs) t))) H') :
    codeG w S (St B) A (.call (.ref 52) ⟨[.ref l, .int 4 t1], []⟩) Q H := by
  refine enterC b hA (hd.zo_75 w.params) [] [(ssDigits, .ref l), (ssN, .int 4 t1)] [(ssDigits, some (.ref l)), (ssN, some (.int 4 t1)), (ssInner, none)] (by kernel_rfl) rfl (by kernel_rfl) (ns := []) ⟨rfl, by decide +kernel, by decide +kernel, by decide +kernel⟩ rfl rfl (Nat.le_of_ble_eq_true rfl) ?_ ?_ rfl rfl ?_
  · intro L y hy
    simp only [List.mem_cons, List.not_mem_nil, or_false] at hy
    rcases hy with rfl | rfl <;> exact .inr ⟨rfl, rfl⟩
  · intro L
    exact ⟨⟨rfl, rfl⟩, ⟨rfl, rfl⟩, ⟨rfl, rfl⟩, trivial⟩
  intro A1 L env hA1 f hsc hcl hco hql hfr
  replace hcl : env.cells = [(ssInner, L + 3), (ssN, L + 2), (ssDigits, L + 1)] := hcl
  have h1 : H (L + 1) = none := (hfr 1).1
  have h2 : H (L + 2) = none := (hfr 2).1
  have h3 : H (L + 3) = none := (hfr 3).1
  have eD : Cel env ssDigits (L + 1) := .of hsc hcl rfl rfl
  have eN : Cel env ssN (L + 2) := .of hsc hcl rfl rfl
  have eI : Cel env ssInner (L + 3) := .of hsc hcl rfl rfl
  show wpG w S (StF B L []) A1 _ _ (_, upd (upd (upd H (L + 3) (cel none)) (L + 2) (cel (some (.int 4 t1)))) (L + 1) (cel (some (.ref l))))
  have n12 : L + 1 ≠ L + 2 := Nat.ne_of_lt (Nat.lt_succ_self _)
  have n23 : L + 2 ≠ L + 3 := Nat.ne_of_lt (Nat.lt_succ_self _)
  have n13 : L + 1 ≠ L + 3 := Nat.ne_of_lt (Nat.lt_succ_of_lt (Nat.lt_succ_self _))
  have k0 : Sub H (upd (upd (upd H (L + 3) (cel none)) (L + 2) (cel (some (.int 4 t1)))) (L + 1) (cel (some (.ref l)))) := by
    intro a i e
    have m1 : a ≠ L + 1 := by first | exact nn e (h1) | exact Ne.symm (nn e (h1)) | exact nn (h1) e | exact Ne.symm (nn (h1) e) | (rintro rfl; rw [h1] at e; cases e)
    have m2 : a ≠ L + 2 := by first | exact nn e (h2) | exact Ne.symm (nn e (h2)) | exact nn (h2) e | exact Ne.symm (nn (h2) e) | (rintro rfl; rw [h2] at e; cases e)
    have m3 : a ≠ L + 3 := by first | exact nn e (h3) | exact Ne.symm (nn e (h3)) | exact nn (h3) e | exact Ne.symm (nn (h3) e) | (rintro rfl; rw [h3] at e; cases e)
    exact (upd_ne m1).trans ((upd_ne m2).trans ((upd_ne m3).trans e))
  have c1 : upd (upd (upd H (L + 3) (cel none)) (L + 2) (cel (some (.int 4 t1)))) (L + 1) (cel (some (.ref l))) (L + 1) = some (cel (some (.ref l))) := upd_same
  have c2 : upd (upd (upd H (L + 3) (cel none)) (L + 2) (cel (some (.int 4 t1)))) (L + 1) (cel (some (.ref l))) (L + 2) = some (cel (some (.int 4 t1))) := (upd_ne (Ne.symm n12)).trans upd_same
  have c3 : upd (upd (upd H (L + 3) (cel none)) (L + 2) (cel (some (.int 4 t1)))) (L + 1) (cel (some (.ref l))) (L + 3) = some (cel none) := (upd_ne (Ne.symm n13)).trans ((upd_ne (Ne.symm n23)).trans upd_same)
  generalize upd (upd (upd H (L + 3) (cel none)) (L + 2) (cel (some (.int 4 t1)))) (L + 1) (cel (some (.ref l))) = X at *
  have ne47 : ∀ {a : Addr} {i : Item}, X a = some i → (∀ o, i ≠ .obj o) → a ≠ 47 := by
    obtain ⟨ps, e47⟩ := (hT.mono k0).some
    rintro a i e hi rfl
    rw [e47] at e; cases e; exact hi _ rfl
  refine x_cons (x_defX (ql := qInD) (clos := [(ssN, L + 2), (ssInner, L + 3), (ssDigits, L + 1)]) b f (by unfold closureFor cellOf; rw [hcl]; rfl) hco (codeHd_d2i b) (hT.mono k0) rfl rfl rfl ?_ rfl rfl ?_)
  · unfold qualnameIn Env.kindOf
    rw [hsc, hql]; rfl
  intro Z fa c' ctv doc pm z1 z2 z3 z4
  have d1 := z4 _ _ c1 (ne47 c1 (by intro _ h; cases h))
  have d2 := z4 _ _ c2 (ne47 c2 (by intro _ h; cases h))
  have d3 := z4 _ _ c3 (ne47 c3 (by intro _ h; cases h))
  have dl := z4 _ _ (k0 _ _ hl) (ne47 (k0 _ _ hl) (by intro _ h; cases h))
  refine f_cellset f eI (by unfold Env.kindOf; rw [hsc]; rfl) d3 ?_
  have nf : fa ≠ L + 3 := by first | exact nn d3 (z1) | exact Ne.symm (nn d3 (z1)) | exact nn (z1) d3 | exact Ne.symm (nn (z1) d3) | (rintro rfl; rw [z1] at d3; cases d3)
  have nc : c' ≠ L + 3 := by
    rintro rfl
    rw [z2] at d3
    obtain ⟨vs', t', h, _⟩ := any_inj (Option.some.inj d3).symm { cls := .none, data := .cell none } rfl
    cases h
  have nl : l ≠ L + 3 := by first | exact nn d3 (dl) | exact Ne.symm (nn d3 (dl)) | exact nn (dl) d3 | exact Ne.symm (nn (dl) d3) | (rintro rfl; rw [dl] at d3; cases d3)
  have D : DIn w (upd Z (L + 3) (cel (some (.ref fa)))) fa c' (L + 1) (L + 2) (L + 3) l us :=
    ⟨⟨doc, pm, ctv, (upd_ne nf).trans z1⟩, (upd_ne nc).trans z2, (upd_ne n13).trans d1, ⟨t1, (upd_ne n23).trans d2⟩, upd_same, (upd_ne nl).trans dl⟩
  have T9 : TabX 47 24 4 qInD (upd Z (L + 3) (cel (some (.ref fa)))) := by
    have n47 : (47 : Addr) ≠ L + 3 := Ne.symm (ne47 c3 (by intro _ h; cases h))
    rcases z3 with t | ⟨c2', t1, t2⟩
    · exact .inl ((upd_ne n47).trans t)
    · refine .inr ⟨c2', (upd_ne n47).trans t1, (upd_ne ?_).trans t2⟩
      rintro rfl
      rw [t2] at d3
      obtain ⟨vs', t', h, _⟩ := any_inj (Option.some.inj d3).symm { cls := .none, data := .cell none } rfl
      cases h
  have F9 : ∀ a i, H a = some i → a ≠ 47 → upd Z (L + 3) (cel (some (.ref fa))) a = some i := fun a i e n => (upd_ne (by first | exact nn e (h3) | exact Ne.symm (nn e (h3)) | exact nn (h3) e | exact Ne.symm (nn (h3) e) | (rintro rfl; rw [h3] at e; cases e))).trans (z4 a i (k0 _ _ e) n)
  generalize upd Z (L + 3) (cel (some (.ref fa))) = Y at *
  have hu : us.length = 16 := by rw [hi.length]; exact h16
  refine x_cons (x_return (e_ifexp (t_value (f_cell f eD D.d (t_list D.l (by exact Nat.le_trans (Nat.le_of_eq hu) (Nat.le_add_left _ _)) ?_)))))
  rw [if_pos (by cases us with | nil => cases hu | cons => rfl)]
  refine e_call (f_cell f eI D.i ?_)
  refine c_with rfl (a_pos (s_int fun t5 => s_cons ?_))
  refine e_call (f_builtin (v := .builtin "len") b f (by kernel_rfl) (by kernel_rfl) (by decide) (by rw [hsc]; rfl) (by decide +kernel) ?_)
  refine c_with rfl (a_pos (s_cons (f_cell f eD D.d (s_nil ⟨Keep.builtin, f_len D.l (by rw [hu]; decide) fun t6 => ?_⟩))))
  obtain ⟨doc', pm', ctv', xf⟩ := D.f
  refine s_nil ⟨Keep.made xf, ?_⟩
  rw [hu]
  refine f_fn fun hL => dinner_spec b hz hi (by exact Nat.le_of_eq h16) 16 0 16 (by exact Nat.le_refl _) (by exact Nat.zero_lt_succ _) (by exact Nat.le_of_eq (Eq.symm h16)) (hA1.mono (by exact Nat.le_add_left _ _)) (D.mono (Sub.new hL)) fun t8 => ?_
  refine ⟨Y, Sub.refl, hL, _, rfl, ?_⟩
  have := q t8 Y T9 F9
  have e9 : dval zs 0 16 = ev zs := by
    unfold dval
    rw [List.drop_zero, List.take_of_length_le (by exact Nat.le_of_eq h16)]
  rw [e9]; exact this
end
end Mine
end
/-! part H27 -/
section
open PySem PySem.W PySem.Calls PyProof.Rows
set_option maxRecDepth 100000
set_option maxHeartbeats 4000000
set_option linter.unusedVariables false
namespace Mine
def dig (x n i : Nat) : Nat := x / 2 ^ (n * i) % 2 ^ n
def digs (x n k : Nat) : List Nat := (List.range k).map (dig x n)
theorem xor_low (x s : Nat) : x ^^^ (x / 2 ^ s * 2 ^ s) = x % 2 ^ s := by
  apply Nat.eq_of_testBit_eq
  intro i
  rw [Nat.testBit_xor, Nat.testBit_mod_two_pow, Nat.mul_comm, Nat.testBit_two_pow_mul, Nat.testBit_div_two_pow]
  by_cases h : i < s
  · have : ¬ s ≤ i := by exact Nat.not_le_of_lt h
    simp [h, this]
  · have : s ≤ i := by exact Nat.le_of_not_lt h
    simp [h, this, Nat.sub_add_cancel this]
theorem dig_low {x n k i : Nat} (h : i < k) : dig (x % 2 ^ (n * k)) n i = dig x n i := by
  unfold dig
  have e : n * k = n * i + n * (k - i) := by rw [← Nat.mul_add]; congr 1; (exact Mine.kq4 h)
  rw [e, Nat.pow_add, Nat.mod_mul_right_div_self]
  rw [Nat.mod_mod_of_dvd]
  exact Nat.pow_dvd_pow 2 (Nat.le_mul_of_pos_right n (by exact Nat.sub_pos_of_lt h))
theorem dig_high {x n k i : Nat} : dig (x / 2 ^ (n * k)) n i = dig x n (k + i) := by
  unfold dig
  rw [Nat.div_div_eq_div_mul, ← Nat.pow_add, ← Nat.mul_add]
theorem digs_split {x n k m : Nat} : digs x n (k + m) = digs (x % 2 ^ (n * k)) n k ++ digs (x / 2 ^ (n * k)) n m := by
  unfold digs
  rw [List.range_add, List.map_append, List.map_map]
  congr 1
  · exact List.map_congr_left fun i hi => (dig_low (by simpa using hi)).symm
  · exact List.map_congr_left fun i _ => dig_high.symm
theorem digs_one {x n : Nat} (h : x < 2 ^ n) : digs x n 1 = [x] := by
  unfold digs dig
  simp [Nat.mod_eq_of_lt h]
theorem digs_len {x n k : Nat} : (digs x n k).length = k := by unfold digs; simp
theorem and_low (x s : Nat) : x &&& (x / 2 ^ s * 2 ^ s) = x / 2 ^ s * 2 ^ s := by
  apply Nat.eq_of_testBit_eq
  intro i
  rw [Nat.testBit_and, Nat.mul_comm, Nat.testBit_two_pow_mul, Nat.testBit_div_two_pow]
  by_cases h : i < s
  · have : ¬ s ≤ i := by exact Nat.not_le_of_lt h
    simp [this]
  · have : s ≤ i := by exact Nat.le_of_not_lt h
    simp [this, Nat.sub_add_cancel this]
theorem bitAnd_nat (x y : Nat) : Builtin.bitAnd (x : Int) (y : Int) = ((x &&& y : Nat) : Int) := by
  unfold Builtin.bitAnd
  rw [decide_eq_true (Int.natCast_nonneg x), decide_eq_true (Int.natCast_nonneg y)]
  rfl
theorem bitXor_low (x s : Nat) : Builtin.bitXor (x : Int) ((x / 2 ^ s * 2 ^ s : Nat) : Int) = ((x % 2 ^ s : Nat) : Int) := by
  rw [bitXor_and]
  have e : Builtin.bitAnd (x : Int) ((x / 2 ^ s * 2 ^ s : Nat) : Int) = ((x / 2 ^ s * 2 ^ s : Nat) : Int) := by
    rw [bitAnd_nat, and_low]
  rw [e]
  have := Nat.div_add_mod x (2 ^ s)
  rw [Nat.mul_comm] at this
  omega
abbrev ssADig : Str := ⟨#[97, 95, 100, 105, 103, 105, 116, 115]⟩
abbrev qI2d : Str := ⟨#[95, 105, 110, 116, 50, 100, 105, 103, 105, 116, 115]⟩
abbrev qInI : Str := qI2d ++ ".<locals>." ++ ssInner
noncomputable abbrev iD (w : World) := defIn (bodyOf (hd.zo_68 w.params))
abbrev nsIin : List Str := [⟨#[120]⟩, ⟨#[76]⟩, ⟨#[82]⟩, ⟨#[109, 105, 100]⟩, ⟨#[115, 104, 105, 102, 116]⟩, ⟨#[117, 112, 112, 101, 114]⟩, ⟨#[108, 111, 119, 101, 114]⟩]
def natI (l : List Nat) : List Int := l.map fun (x : Nat) => (x : Int)
section
variable {w : World} {S : Shared} {B : HM} {A : Around} {H H' : HM} {L c P l fa c' cd cn ci : Addr} {ns : List Str} {vs : List (Option Value)} {env : Env} {pos : Pos} {n : Nat}
structure IIn (w : World) (H : HM) (fa c' cd cn ci l : Addr) (n : Nat) : Prop where
  f : ∃ doc pm ctv, H fa = some (.obj (fnMade ssInner qInI (iD w).1 (iD w).2.1 (iD w).2.2 [(ssN, cn), (ssInner, ci), (ssADig, cd)] doc pm c' ctv))
  c : H c' = some (crec qInI)
  d : H cd = some (cel (some (.ref l)))
  n : ∃ t, H cn = some (cel (some (.int n t)))
  i : H ci = some (cel (some (.ref fa)))
theorem IIn.mono (x : IIn w H fa c' cd cn ci l n) (k : Sub H H') : IIn w H' fa c' cd cn ci l n :=
  ⟨let ⟨a, b, c, e⟩ := x.f; ⟨a, b, c, k _ _ e⟩, k _ _ x.c, k _ _ x.d, let ⟨t, e⟩ := x.n; ⟨t, k _ _ e⟩, k _ _ x.i⟩
theorem IIn.updl {us ys : List Value} (x : IIn w H fa c' cd cn ci l n) (hl : H l = some (.lst us)) : IIn w (upd H l (.lst ys)) fa c' cd cn ci l n := by
  have k : ∀ {a : Addr} {i : Item}, H a = some i → (∀ us, i ≠ .lst us) → upd H l (.lst ys) a = some i := fun {a i} e hi => (upd_ne (by first | exact nn e (hl) | exact Ne.symm (nn e (hl)) | exact nn (hl) e | exact Ne.symm (nn (hl) e) | (rintro rfl; rw [hl] at e; cases e); exact hi _ rfl)).trans e
  exact ⟨let ⟨a, b, c, e⟩ := x.f; ⟨a, b, c, k e (by intro _ h; cases h)⟩, k x.c (by intro _ h; cases h), k x.d (by intro _ h; cases h), let ⟨t, e⟩ := x.n; ⟨t, k e (by intro _ h; cases h)⟩, k x.i (by intro _ h; cases h)⟩
theorem ints_set : ∀ {us : List Value} {zs : List Int}, IntsAre us zs → ∀ (i : Nat) (z : Int) (t : Tok), IntsAre (us.set i (.int z t)) (zs.set i z)
  | _, _, .nil, _, _, _ => .nil
  | _, _, .cons n t h, 0, z, u => .cons z u h
  | _, _, .cons n t h, i + 1, z, u => .cons n t (ints_set h i z u)
theorem b_xor {a b : Int} {t u : Tok} {σ : Type} {J : σ → Heap → Prop} {x : σ} {Q : Value → σ → Prop} (q : ∀ t, Q (.int (Builtin.bitXor a b) t) x) : wpG w S J A (binaryOp .BitXor (.int a t) (.int b u)) Q x := fun h tk s => PyProof.Rows.xor_int ⟨h, _, x, rfl, s, q _⟩
theorem x_retnone {Q : Flow → Fst → Prop} {x : Fst} (q : Q (.ret .none) x) : wpG w S (StF B L ns) A (exec (.Return none pos) env) Q x := by
  show wpG w S (StF B L ns) A (do standAt pos; pure (.ret .none)) Q x
  exact wpG_bind (wpG_standAt (wpG_pure q))
/-- the list with digits laid in from Lo to R -/
def laid (zs : List Int) (Lo R x n : Nat) : List Int := zs.take Lo ++ natI (digs x n (R - Lo)) ++ zs.drop R
theorem laid_len {zs : List Int} {Lo R x n : Nat} (h1 : Lo ≤ R) (h2 : R ≤ zs.length) : (laid zs Lo R x n).length = zs.length := by
  unfold laid natI
  simp [digs_len]; (exact Mine.mi3 h1 h2)
theorem laid_two {zs : List Int} {Lo M R x n : Nat} (h1 : Lo ≤ M) (h2 : M ≤ R) (h3 : R ≤ zs.length) : laid (laid zs Lo M (x % 2 ^ (n * (M - Lo))) n) M R (x / 2 ^ (n * (M - Lo))) n = laid zs Lo R x n := by
  unfold laid
  have e1 : (zs.take Lo ++ natI (digs (x % 2 ^ (n * (M - Lo))) n (M - Lo)) ++ zs.drop M).take M = zs.take Lo ++ natI (digs (x % 2 ^ (n * (M - Lo))) n (M - Lo)) := by
    rw [List.take_append_of_le_length (by simp [natI, digs_len]; (exact Mine.mi4 h1 h2 h3)), List.take_of_length_le (by simp [natI, digs_len]; (exact Mine.mi6 h1 h2 h3))]
  have e2 : (zs.take Lo ++ natI (digs (x % 2 ^ (n * (M - Lo))) n (M - Lo)) ++ zs.drop M).drop R = zs.drop R := by
    rw [List.drop_append, List.drop_of_length_le (by simp [natI, digs_len]; (exact Mine.mi5 h1 h2 h3)), List.nil_append, List.drop_drop]
    congr 1
    simp [natI, digs_len]; (exact Mine.mi2 h1 h2 h3)
  rw [e1, e2]
  rw [show R - Lo = (M - Lo) + (R - M) from by exact nm6 h1 h2, digs_split]
  unfold natI
  rw [List.map_append]
  simp only [List.append_assoc]
theorem iinner_spec (b : BaseOk w B) (hn : n = 2 ∨ n = 4) :
    ∀ (m Lo R x : Nat) (zs : List Int) (us : List Value), R - Lo ≤ m → Lo < R → R ≤ zs.length → zs.length ≤ 100 → x < 2 ^ (n * (R - Lo)) → x < 2 ^ 64 → IntsAre us zs → ∀ {A : Around} {H : HM} {Q : Result → HM → Prop} {t0 t1 t2 : Tok}, Room A (m + 5) → IIn w H fa c' cd cn ci l n → H l = some (.lst us) →
      (∀ ys, IntsAre ys (laid zs Lo R x n) → Q (.ok (.ret .none)) (upd H l (.lst ys))) → codeG w S (St B) A (.call (.ref fa) ⟨[.int x t0, .int Lo t1, .int R t2], []⟩) Q H := by
  intro m
  induction m with
  | zero => intro Lo R x zs us h1 h2; (exact absurd (Nat.sub_pos_of_lt h2) (Nat.not_lt_of_le h1))
  | succ m ih =>
    intro Lo R x zs us h1 h2 h3 h100 hx hx64 hi A H Q t0 t1 t2 hA X hl q
    obtain ⟨doc, pm, ctv, xf⟩ := X.f
    obtain ⟨tn, xn⟩ := X.n
    have hlen := hi.length
    refine enterNest (ns := nsIin) b (hA.mono (m := m + 6) (by exact Nat.le_refl _)) [.int x t0, .int Lo t1, .int R t2] xf X.c ⟨rfl, by decide +kernel, by intro y hy; simp at hy; rcases hy with rfl | rfl | rfl | rfl | rfl | rfl | rfl <;> rfl, by decide +kernel⟩ rfl (Nat.le_of_ble_eq_true rfl) rfl rfl (nocell_of (by kernel_rfl)) ?_
    intro A1 L env hA1 f hsc hcl hco
    have eD : Cel env ssADig cd := ⟨.inr (by unfold Env.kindOf; rw [hsc]; rfl), by rw [hcl]; rfl, by decide +kernel, by decide +kernel⟩
    have eI : Cel env ssInner ci := ⟨.inr (by unfold Env.kindOf; rw [hsc]; rfl), by rw [hcl]; rfl, by decide +kernel, by decide +kernel⟩
    have eN : Cel env ssN cn := ⟨.inr (by unfold Env.kindOf; rw [hsc]; rfl), by rw [hcl]; rfl, by decide +kernel, by decide +kernel⟩
    refine x_cons (x_if (t_cmp (e_bin (f_local f 1 rfl rfl (e_int fun t3 => b_add fun t4 => f_local f 2 rfl rfl (c_eqi (t_bool ?_)))))))
    by_cases e : Lo + 1 = R
    · subst e
      rw [if_pos (by simp)]
      refine x_cons (x_setsub (f_local f 0 rfl rfl (f_cell f eD X.d (f_local f 1 rfl rfl (si_list hl (by exact Int.natCast_nonneg _) (by exact Mine.ci9 h3 h100) (by simp; (rw [hlen]; exact (Nat.lt_of_succ_le h3))) ?_)))))
      refine x_cons (x_retnone ?_)
      refine q _ ?_
      have e5 : laid zs Lo (Lo + 1) x n = zs.set Lo (x : Int) := by
        unfold laid
        rw [List.set_eq_take_append_cons_drop, if_pos (by exact Nat.lt_of_succ_le h3), show Lo + 1 - Lo = 1 from by exact Nat.add_sub_cancel_left _ _, digs_one (by rw [show Lo + 1 - Lo = 1 from by exact Nat.add_sub_cancel_left _ _, Nat.mul_one] at hx; exact hx)]
        simp [natI]
      rw [e5]
      exact ints_set hi Lo x t0
    · rw [if_neg (by simp; omega)]
      refine x_nil ?_
      refine x_cons (x_assign (e_bin (e_bin (f_local f 1 rfl rfl (f_local f 2 rfl rfl (b_add fun t3 => e_int fun t4 => b_shr (by decide) fun t5 => ?_))))))
      have em : ((Lo : Int) + (R : Int)).fdiv (2 ^ (1 : Int).toNat) = (((Lo + R) / 2 : Nat) : Int) := by
        rw [Int.fdiv_eq_ediv_of_nonneg _ (by decide)]; simp
      rw [em]
      refine f_store f 3 rfl (Nat.le_of_ble_eq_true rfl) ?_
      refine x_cons (x_assign (e_bin (e_bin (f_local f 3 rfl rfl (f_local f 1 rfl rfl (b_sub fun t6 => f_cell f eN xn (b_mul ?_ fun t7 => ?_)))))))
      · exact .of_right (intBits_le_64 (by omega) (by exact Mine.n24 hn))
      generalize hmid : (Lo + R) / 2 = mid at *
      have hm1 : Lo < mid := by exact nm4 h2 e hmid
      have hm2 : mid < R := by exact nm5 h2 hmid
      have es : ((mid : Int) - (Lo : Int)) * (n : Int) = ((n * (mid - Lo) : Nat) : Int) := by
        rw [Int.natCast_mul, Int.mul_comm]; congr 1; (exact Mine.subc2 hm1)
      rw [es]
      refine f_store f 4 rfl (Nat.le_of_ble_eq_true rfl) ?_
      refine x_cons (x_assign (e_bin (f_local f 0 rfl rfl (f_local f 4 rfl rfl (b_shr (by exact Int.natCast_nonneg _) fun t8 => ?_)))))
      have eu : ((x : Int)).fdiv (2 ^ (((n * (mid - Lo) : Nat) : Int)).toNat) = ((x / 2 ^ (n * (mid - Lo)) : Nat) : Int) := by
        rw [Int.fdiv_eq_ediv_of_nonneg _ (by exact_mod_cast Nat.zero_le _), Int.toNat_natCast]
        exact_mod_cast rfl
      rw [eu]
      refine f_store f 5 rfl (Nat.le_of_ble_eq_true rfl) ?_
      have hsh : n * (mid - Lo) ≤ 400 := by
        have : mid - Lo ≤ 100 := by exact Nat.le_trans (Nat.le_refl _) (Nat.le_trans (Nat.le_trans (Nat.le_refl _) (Nat.sub_le _ _)) (Nat.le_trans (Nat.le_of_lt hm2) (Nat.le_trans h3 h100)))
        rcases hn with rfl | rfl <;> (first | exact Nat.le_trans (Nat.mul_le_mul_left _ this) (Nat.le_add_left _ _) | exact Nat.le_trans (Nat.mul_le_mul_left _ this) (Nat.le_refl _) | omega)
      have hup : x / 2 ^ (n * (mid - Lo)) ≤ x := Nat.div_le_self _ _
      refine x_cons (x_assign (e_bin (f_local f 0 rfl rfl (e_bin (f_local f 5 rfl rfl (f_local f 4 rfl rfl (b_shl (by exact Int.natCast_nonneg _) (by omega) (by rw [Int.natAbs_natCast]; (exact Nat.lt_of_le_of_lt hup hx64)) fun t9 => b_xor fun t10 => ?_)))))))
      have el : Builtin.bitXor (x : Int) (((x / 2 ^ (n * (mid - Lo)) : Nat) : Int) * 2 ^ (((n * (mid - Lo) : Nat) : Int)).toNat) = ((x % 2 ^ (n * (mid - Lo)) : Nat) : Int) := by
        rw [← bitXor_low, Int.toNat_natCast]
        congr 1
      rw [el]
      refine f_store f 6 rfl (Nat.le_of_ble_eq_true rfl) ?_
      refine x_cons (x_expr (hi := by unfold interactive; rw [hsc]; rfl) ?_)
      refine e_call (f_cell f eI X.i ?_)
      refine c_with rfl (a_pos (s_cons (f_local f 6 rfl rfl (s_cons (f_local f 1 rfl rfl (s_cons (f_local f 3 rfl rfl (s_nil ⟨Keep.made xf, ?_⟩))))))))
      have hlow : x % 2 ^ (n * (mid - Lo)) < 2 ^ (n * (mid - Lo)) := Nat.mod_lt _ (Nat.pow_pos (by decide))
      have hlow2 : x % 2 ^ (n * (mid - Lo)) ≤ x := Nat.mod_le _ _
      refine f_fn fun hL => ih Lo mid _ zs us (by exact nm1 h1 hm2 hm1) hm1 (by exact Nat.le_of_lt (Nat.lt_of_lt_of_le hm2 h3)) h100 hlow (by exact Nat.lt_of_le_of_lt hlow2 hx64) hi (hA1.mono (by exact Nat.le_refl _)) (X.mono (Sub.new hL)) (Sub.new hL _ _ hl) fun ys hys => ?_
      have nL : L ≠ l := ne_had hL hl
      refine ⟨upd H l (.lst ys), by rw [upd_swap nL]; exact Sub.refl, upd_off hL nL, _, rfl, ?_⟩
      have X2 := X.updl (ys := ys) hl
      obtain ⟨doc2, pm2, ctv2, xf2⟩ := X2.f
      have hlen2 := laid_len (zs := zs) (Lo := Lo) (R := mid) (x := x % 2 ^ (n * (mid - Lo))) (n := n) (by exact Nat.le_of_lt hm1) (by exact Nat.le_of_lt (Nat.lt_of_lt_of_le hm2 h3))
      refine x_cons (x_expr (hi := by unfold interactive; rw [hsc]; rfl) ?_)
      refine e_call (f_cell f eI X2.i ?_)
      refine c_with rfl (a_pos (s_cons (f_local f 5 rfl rfl (s_cons (f_local f 3 rfl rfl (s_cons (f_local f 2 rfl rfl (s_nil ⟨Keep.made xf2, ?_⟩))))))))
      have hhigh : x / 2 ^ (n * (mid - Lo)) < 2 ^ (n * (R - mid)) := by
        rw [Nat.div_lt_iff_lt_mul (Nat.pow_pos (by decide)), ← Nat.pow_add, ← Nat.mul_add, show R - mid + (mid - Lo) = R - Lo from by exact nm3 hm1 hm2]
        exact hx
      refine f_fn fun hL2 => ih mid R _ (laid zs Lo mid (x % 2 ^ (n * (mid - Lo))) n) ys (by exact nm2 h1 hm1 hm2) hm2 (by (rw [hlen2]; exact h3)) (by exact Nat.le_trans (Nat.le_of_eq hlen2) h100) hhigh (by exact Nat.lt_of_le_of_lt hup hx64) hys (hA1.mono (by exact Nat.le_refl _)) (X2.mono (Sub.new hL2)) (Sub.new hL2 _ _ upd_same) fun ys2 hys2 => ?_
      refine ⟨upd H l (.lst ys2), by rw [upd_swap nL, upd_upd]; exact Sub.refl, upd_off hL nL, _, rfl, ?_⟩
      rw [laid_two (by exact Nat.le_of_lt hm1) (by exact Nat.le_of_lt hm2) h3] at hys2
      exact x_nil (q ys2 hys2)
end
end Mine
end
/-! part H28 -/
section
open PySem PySem.W PySem.Calls PyProof.Rows
set_option maxRecDepth 100000
set_option maxHeartbeats 4000000
set_option linter.unusedVariables false
namespace Mine
def cntD (a n : Nat) : Nat := (Builtin.Int.intBits (a : Int) + n - 1) / n
theorem lt_cntD {a n : Nat} (hn : 0 < n) : a < 2 ^ (n * cntD a n) := by
  have h1 : a < 2 ^ Builtin.Int.intBits (a : Int) := by
    unfold Builtin.Int.intBits
    by_cases h : a = 0
    · subst h; simp
    · rw [if_neg (by simpa using h)]
      simp only [Int.natAbs_natCast]
      exact Nat.lt_log2_self
  refine Nat.lt_of_lt_of_le h1 (Nat.pow_le_pow_right (by decide) ?_)
  unfold cntD
  generalize Builtin.Int.intBits (a : Int) = b
  have := Nat.div_add_mod (b + n - 1) n
  have := Nat.mod_lt (b + n - 1) hn
  omega
section
variable {w : World} {S : Shared} {B : HM} {A : Around} {H H' : HM} {L c P l fa c' cd cn ci : Addr} {ns : List Str} {vs : List (Option Value)} {env : Env} {pos : Pos} {n : Nat}
theorem m_bitlen {σ : Type} {J : σ → Heap → Prop} {x : σ} {a : Int} {t : Tok} {pl : Sem Bool} {Q : Value × List Value → σ → Prop} (q : Q (.builtin "int.bit_length", [.int a t]) x) : wpG w S J A (getMethod (.int a t) ⟨#[98, 105, 116, 95, 108, 101, 110, 103, 116, 104]⟩ pl) Q x := fun h tk s => by
  rw [show (⟨#[98, 105, 116, 95, 108, 101, 110, 103, 116, 104]⟩ : Str) = Str.ofString "bit_length" from by decide +kernel]
  exact getMethod_int_bit_length ⟨h, tk, x, rfl, s, q⟩
theorem b_bitlen {σ : Type} {J : σ → Heap → Prop} {x : σ} {a : Int} {t : Tok} {Q : Value → σ → Prop} (q : ∀ t, Q (.int (Builtin.Int.intBits a) t) x) : wpG w S J A (call (.builtin "int.bit_length") [.int a t]) Q x := fun h tk s => call_int_bit_length ⟨h, _, x, rfl, s, q _⟩
theorem t_int {σ : Type} {J : σ → Heap → Prop} {x : σ} {a : Int} {t : Tok} {Q : Bool → σ → Prop} (q : Q (a != 0) x) : wpG w S J A (truthy (.int a t)) Q x := fun h tk s => PyProof.Rows.truthy_int ⟨h, tk, x, rfl, s, q⟩
abbrev ssA : Str := ⟨#[97]⟩
theorem int2digits_spec {a : Nat} {Q : Result → HM → Prop} {t0 t1 : Tok} (b : BaseOk w B) (hA : Room A 150) (ha : a < 2 ^ 64) (hn : n = 2 ∨ n = 4) (hT : TabX 40 9 4 qInI H)
    (q : ∀ r ys H', H' r = some (.lst ys) → IntsAre ys (natI (digs a n (cntD a n))) → TabX 40 9 4 qInI H' → (∀ x i, H x = some i → x ≠ 40 → H' x = some i) → Q (.ok (.ret (.ref r))) H') :
    codeG w S (St B) A (.call (.ref 45) ⟨[.int a t0, .int n t1], []⟩) Q H := by
  have hn0 : 0 < n := by rcases hn with rfl | rfl <;> decide
  have hcnt : cntD a n ≤ 64 := by
    have hb := intBits_le_64 (k := (a : Int)) (by omega) (by exact_mod_cast ha)
    unfold cntD
    generalize Builtin.Int.intBits (a : Int) = b at *
    rcases hn with rfl | rfl <;> (first | exact Mine.dq642 hb | exact Mine.dq64 hb | omega)
  refine enterC b hA (hd.zo_68 w.params) [.int a t0] [(ssA, .int a t0), (ssN, .int n t1)] [(ssN, some (.int n t1)), (ssADig, none), (ssInner, none)] (by kernel_rfl) rfl (by kernel_rfl) (ns := [ssA]) ⟨rfl, by decide +kernel, by decide +kernel, by decide +kernel⟩ rfl rfl (Nat.le_of_ble_eq_true rfl) ?_ ?_ rfl rfl ?_
  · intro L y hy
    simp only [List.mem_cons, List.not_mem_nil, or_false] at hy
    rcases hy with rfl | rfl
    · exact .inl rfl
    · exact .inr ⟨rfl, rfl⟩
  · intro L
    exact ⟨⟨rfl, rfl⟩, ⟨rfl, rfl⟩, ⟨rfl, rfl⟩, trivial⟩
  intro A1 L env hA1 f hsc hcl hco hql hfr
  replace hcl : env.cells = [(ssInner, L + 3), (ssADig, L + 2), (ssN, L + 1)] := hcl
  have h1 : H (L + 1) = none := (hfr 1).1
  have h2 : H (L + 2) = none := (hfr 2).1
  have h3 : H (L + 3) = none := (hfr 3).1
  have eN : Cel env ssN (L + 1) := .of hsc hcl rfl rfl
  have eD : Cel env ssADig (L + 2) := .of hsc hcl rfl rfl
  have eI : Cel env ssInner (L + 3) := .of hsc hcl rfl rfl
  show wpG w S (StF B L [ssA]) A1 _ _ (_, upd (upd (upd H (L + 3) (cel none)) (L + 2) (cel none)) (L + 1) (cel (some (.int n t1))))
  have n12 : L + 1 ≠ L + 2 := Nat.ne_of_lt (Nat.lt_succ_self _)
  have n23 : L + 2 ≠ L + 3 := Nat.ne_of_lt (Nat.lt_succ_self _)
  have n13 : L + 1 ≠ L + 3 := Nat.ne_of_lt (Nat.lt_succ_of_lt (Nat.lt_succ_self _))
  have k0 : Sub H (upd (upd (upd H (L + 3) (cel none)) (L + 2) (cel none)) (L + 1) (cel (some (.int n t1)))) := by
    intro a i e
    have m1 : a ≠ L + 1 := by first | exact nn e (h1) | exact Ne.symm (nn e (h1)) | exact nn (h1) e | exact Ne.symm (nn (h1) e) | (rintro rfl; rw [h1] at e; cases e)
    have m2 : a ≠ L + 2 := by first | exact nn e (h2) | exact Ne.symm (nn e (h2)) | exact nn (h2) e | exact Ne.symm (nn (h2) e) | (rintro rfl; rw [h2] at e; cases e)
    have m3 : a ≠ L + 3 := by first | exact nn e (h3) | exact Ne.symm (nn e (h3)) | exact nn (h3) e | exact Ne.symm (nn (h3) e) | (rintro rfl; rw [h3] at e; cases e)
    exact (upd_ne m1).trans ((upd_ne m2).trans ((upd_ne m3).trans e))
  have c1 : upd (upd (upd H (L + 3) (cel none)) (L + 2) (cel none)) (L + 1) (cel (some (.int n t1))) (L + 1) = some (cel (some (.int n t1))) := upd_same
  have c2 : upd (upd (upd H (L + 3) (cel none)) (L + 2) (cel none)) (L + 1) (cel (some (.int n t1))) (L + 2) = some (cel none) := (upd_ne (Ne.symm n12)).trans upd_same
  have c3 : upd (upd (upd H (L + 3) (cel none)) (L + 2) (cel none)) (L + 1) (cel (some (.int n t1))) (L + 3) = some (cel none) := (upd_ne (Ne.symm n13)).trans ((upd_ne (Ne.symm n23)).trans upd_same)
  generalize upd (upd (upd H (L + 3) (cel none)) (L + 2) (cel none)) (L + 1) (cel (some (.int n t1))) = X at *
  refine x_cons (x_assign (e_bin (e_list (s_int fun t2 => s_nil ⟨Nat.le_of_ble_eq_true rfl, fun r0 g1 g2 => ?_⟩))))
  replace g1 : X r0 = none := g1
  refine e_bin (e_bin (e_bin ?_))
  refine e_meth rfl (f_local f 0 rfl rfl (m_bitlen ?_))
  refine c_with rfl (a_nil ⟨Keep.builtin, b_bitlen fun t3 => ?_⟩)
  refine f_cell f eN (upd_old g1 c1) (b_add fun t4 => e_int fun t5 => b_sub fun t6 => f_cell f eN (upd_old g1 c1) (b_fdiv (by omega) (by rcases hn with rfl | rfl <;> decide) fun t7 => ?_))
  refine b_mull (k := cntD a n) ?_ upd_same (by simp; (exact Nat.le_trans hcnt (Nat.le_add_left _ _))) (by exact Nat.le_trans hcnt (Nat.le_add_left _ _)) fun r1 g3 g4 => ?_
  · unfold cntD
    rw [Int.fdiv_eq_ediv_of_nonneg _ (by exact Int.natCast_nonneg _)]
    generalize Builtin.Int.intBits (a : Int) = b
    rw [show ((b : Int) + (n : Int) - 1) = ((b + n - 1 : Nat) : Int) from by exact Mine.du2 hn0]
    exact (Int.natCast_ediv _ _).symm
  replace g3 : upd X r0 (.lst [.int 0 t2]) r1 = none := g3
  have nr1 : r1 ≠ L + 2 := by first | exact nn g3 (upd_old g1 c2) | exact Ne.symm (nn g3 (upd_old g1 c2)) | exact nn (upd_old g1 c2) g3 | exact Ne.symm (nn (upd_old g1 c2) g3) | (rintro rfl; rw [upd_old g1 c2] at g3; cases g3)
  refine f_cellset f eD (by unfold Env.kindOf; rw [hsc]; rfl) (upd_old g3 (upd_old g1 c2)) ?_
  have b1 : upd (upd (upd X r0 (.lst [.int 0 t2])) r1 (.lst (List.replicate (cntD a n) [.int 0 t2]).flatten)) (L + 2) (cel (some (.ref r1))) (L + 1) = some (cel (some (.int n t1))) := (upd_ne n12).trans (upd_old g3 (upd_old g1 c1))
  have b2 : upd (upd (upd X r0 (.lst [.int 0 t2])) r1 (.lst (List.replicate (cntD a n) [.int 0 t2]).flatten)) (L + 2) (cel (some (.ref r1))) (L + 2) = some (cel (some (.ref r1))) := upd_same
  have b3 : upd (upd (upd X r0 (.lst [.int 0 t2])) r1 (.lst (List.replicate (cntD a n) [.int 0 t2]).flatten)) (L + 2) (cel (some (.ref r1))) (L + 3) = some (cel none) := (upd_ne (Ne.symm n23)).trans (upd_old g3 (upd_old g1 c3))
  have b4 : upd (upd (upd X r0 (.lst [.int 0 t2])) r1 (.lst (List.replicate (cntD a n) [.int 0 t2]).flatten)) (L + 2) (cel (some (.ref r1))) r1 = some (.lst (List.replicate (cntD a n) [.int 0 t2]).flatten) := (upd_ne nr1).trans upd_same
  have kY : Sub H (upd (upd (upd X r0 (.lst [.int 0 t2])) r1 (.lst (List.replicate (cntD a n) [.int 0 t2]).flatten)) (L + 2) (cel (some (.ref r1)))) := fun a i e =>
    (upd_ne (by first | exact nn e (h2) | exact Ne.symm (nn e (h2)) | exact nn (h2) e | exact Ne.symm (nn (h2) e) | (rintro rfl; rw [h2] at e; cases e))).trans (upd_old g3 (upd_old g1 (k0 _ _ e)))
  generalize upd (upd (upd X r0 (.lst [.int 0 t2])) r1 (.lst (List.replicate (cntD a n) [.int 0 t2]).flatten)) (L + 2) (cel (some (.ref r1))) = Y at *
  have hTY := hT.mono kY
  have ne40 : ∀ {a : Addr} {i : Item}, Y a = some i → (∀ o, i ≠ .obj o) → a ≠ 40 := by
    obtain ⟨ps, e40⟩ := hTY.some
    rintro a i e hi rfl
    rw [e40] at e; cases e; exact hi _ rfl
  refine x_cons (x_defX (ql := qInI) (clos := [(ssN, L + 1), (ssInner, L + 3), (ssADig, L + 2)]) b f (by unfold closureFor cellOf; rw [hcl]; rfl) hco (codeHd_i2d b) hTY rfl rfl rfl ?_ rfl rfl ?_)
  · unfold qualnameIn Env.kindOf
    rw [hsc, hql]; rfl
  intro Z fa c' ctv doc pm z1 z2 z3 z4
  have d1 := z4 _ _ b1 (ne40 b1 (by intro _ h; cases h))
  have d2 := z4 _ _ b2 (ne40 b2 (by intro _ h; cases h))
  have d3 := z4 _ _ b3 (ne40 b3 (by intro _ h; cases h))
  have d4 := z4 _ _ b4 (ne40 b4 (by intro _ h; cases h))
  refine f_cellset f eI (by unfold Env.kindOf; rw [hsc]; rfl) d3 ?_
  have nf : fa ≠ L + 3 := by first | exact nn d3 (z1) | exact Ne.symm (nn d3 (z1)) | exact nn (z1) d3 | exact Ne.symm (nn (z1) d3) | (rintro rfl; rw [z1] at d3; cases d3)
  have nocr : ∀ {x : Addr}, Z x = some (crec qInI) → x ≠ L + 3 := by
    rintro x e rfl
    rw [e] at d3
    obtain ⟨vs', t', h, _⟩ := any_inj (Option.some.inj d3).symm { cls := .none, data := .cell none } rfl
    cases h
  have nl : r1 ≠ L + 3 := by first | exact nn d3 (d4) | exact Ne.symm (nn d3 (d4)) | exact nn (d4) d3 | exact Ne.symm (nn (d4) d3) | (rintro rfl; rw [d4] at d3; cases d3)
  have D : IIn w (upd Z (L + 3) (cel (some (.ref fa)))) fa c' (L + 2) (L + 1) (L + 3) r1 n :=
    ⟨⟨doc, pm, ctv, (upd_ne nf).trans z1⟩, (upd_ne (nocr z2)).trans z2, (upd_ne n23).trans d2, ⟨t1, (upd_ne n13).trans d1⟩, upd_same⟩
  have D4 : upd Z (L + 3) (cel (some (.ref fa))) r1 = some (.lst (List.replicate (cntD a n) [.int 0 t2]).flatten) := (upd_ne nl).trans d4
  have T9 : TabX 40 9 4 qInI (upd Z (L + 3) (cel (some (.ref fa)))) := by
    have n40 : (40 : Addr) ≠ L + 3 := Ne.symm (ne40 b3 (by intro _ h; cases h))
    rcases z3 with t | ⟨c2', t1, t2⟩
    · exact .inl ((upd_ne n40).trans t)
    · exact .inr ⟨c2', (upd_ne n40).trans t1, (upd_ne (nocr t2)).trans t2⟩
  have F9 : ∀ a i, H a = some i → a ≠ 40 → upd Z (L + 3) (cel (some (.ref fa))) a = some i := fun a i e n => (upd_ne (by first | exact nn e (h3) | exact Ne.symm (nn e (h3)) | exact nn (h3) e | exact Ne.symm (nn (h3) e) | (rintro rfl; rw [h3] at e; cases e))).trans (z4 a i (kY _ _ e) n)
  have hr1H : H r1 = none := by
    cases e : H r1 with
    | none => rfl
    | some j => rw [upd_old g1 (k0 _ _ e)] at g3; cases g3
  have n40r : r1 ≠ 40 := ne40 b4 (by intro _ h; cases h)
  generalize upd Z (L + 3) (cel (some (.ref fa))) = W at *
  have efl : (List.replicate (cntD a n) [Value.int 0 t2]).flatten = List.replicate (cntD a n) (Value.int 0 t2) := by simp
  rw [efl] at D4
  have hi0 : ∀ k, IntsAre (List.replicate k (Value.int 0 t2)) (List.replicate k (0 : Int)) := fun k => by
    induction k with
    | zero => exact .nil
    | succ k ih => exact .cons 0 t2 ih
  refine x_cons (x_if (t_value (f_local f 0 rfl rfl (t_int ?_))))
  by_cases h0 : a = 0
  · subst h0
    rw [if_neg (by simp)]
    refine x_nil ?_
    refine x_cons (x_return (f_cell f eD D.d ?_))
    refine q r1 _ W D4 ?_ T9 F9
    have e0 : cntD 0 n = 0 := by unfold cntD; rcases hn with rfl | rfl <;> rfl
    rw [e0]; exact .nil
  · rw [if_pos (by simpa using h0)]
    refine x_cons (x_expr (hi := by unfold interactive; rw [hsc]; rfl) ?_)
    refine e_call (f_cell f eI D.i ?_)
    refine c_with rfl (a_pos (s_cons (f_local f 0 rfl rfl (s_int fun t8 => s_cons ?_))))
    refine e_call (f_builtin (v := .builtin "len") b f (by kernel_rfl) (by kernel_rfl) (by decide) (by rw [hsc]; rfl) (by decide +kernel) ?_)
    refine c_with rfl (a_pos (s_cons (f_cell f eD D.d (s_nil ⟨Keep.builtin, f_len D4 (by rw [List.length_replicate]; show cntD a n ≤ 16777216; (exact Nat.le_trans hcnt (Nat.le_add_left _ _))) fun t9 => ?_⟩))))
    obtain ⟨doc', pm', ctv', xf⟩ := D.f
    refine s_nil ⟨Keep.made xf, ?_⟩
    rw [List.length_replicate]
    have hpos : 0 < cntD a n := by
      have := lt_cntD (a := a) hn0
      rcases Nat.eq_zero_or_pos (cntD a n) with h | h
      · rw [h] at this; simp at this; exact absurd this h0
      · exact h
    refine f_fn fun hL => iinner_spec b hn 64 0 (cntD a n) a (List.replicate (cntD a n) 0) _ (by exact Nat.sub_le_of_le_add hcnt) hpos (by simp) (by simp; (exact Nat.le_trans hcnt (Nat.le_add_left _ _))) (by rw [Nat.sub_zero]; exact lt_cntD hn0) ha (hi0 _) (hA1.mono (by exact Nat.le_add_left _ _)) (D.mono (Sub.new hL)) (Sub.new hL _ _ D4) fun ys hys => ?_
    have nL : L ≠ r1 := ne_had hL D4
    refine ⟨upd W r1 (.lst ys), by rw [upd_swap nL]; exact Sub.refl, upd_off hL nL, _, rfl, ?_⟩
    refine x_nil ?_
    refine x_cons (x_return (f_cell f eD (D.updl D4).d ?_))
    refine q r1 ys _ upd_same ?_ ?_ fun x i e ne => (upd_ne (by first | exact nn e (hr1H) | exact Ne.symm (nn e (hr1H)) | exact nn (hr1H) e | exact Ne.symm (nn (hr1H) e) | (rintro rfl; rw [hr1H] at e; cases e))).trans (F9 x i e ne)
    · have e9 : laid (List.replicate (cntD a n) (0 : Int)) 0 (cntD a n) a n = natI (digs a n (cntD a n)) := by
        unfold laid
        simp
      rw [← e9]; exact hys
    · rcases T9 with t | ⟨c2', t1, t2⟩
      · exact .inl ((upd_ne (Ne.symm n40r)).trans t)
      · exact .inr ⟨c2', (upd_ne (Ne.symm n40r)).trans t1, (upd_ne (by first | exact nn t2 (D4) | exact Ne.symm (nn t2 (D4)) | exact nn (D4) t2 | exact Ne.symm (nn (D4) t2) | (rintro rfl; rw [D4] at t2; cases t2))).trans t2⟩
end
end Mine
end
/-! part H29 -/
section
open PySem PySem.W PySem.Calls PyProof.Rows
set_option maxRecDepth 100000
set_option maxHeartbeats 4000000
set_option linter.unusedVariables false
namespace Mine
def grpC : List Nat := [46, 97, 98, 99]
def gi (g : Nat) : Nat := grpC.idxOf g
section
variable {w : World} {S : Shared} {B : HM} {A : Around} {H H' : HM} {L d l : Addr} {ns : List Str} {vs : List (Option Value)} {env : Env} {pos : Pos} {t u : Tok}
theorem x_augsub {o i value : Expr} {tpos : Pos} {op : Operator} {Q : Flow → Fst → Prop} {x : Fst} (y : wpG w S (StF B L ns) A (eval o env) (fun ov x1 => wpG w S (StF B L ns) A (eval i env) (fun iv x2 => wpG w S (StF B L ns) A (getItem ov iv) (fun old x3 => wpG w S (StF B L ns) A (eval value env) (fun v x4 => wpG w S (StF B L ns) A (inplaceOp op old v) (fun new x5 => wpG w S (StF B L ns) A (setItem ov iv new) (fun _ => Q .next) x5) x4) x3) x2) x1) x)
    (hi : ∀ ov iv new, augStore i ov iv new = (do holding [new, ov, iv] (setItem ov iv new); release [new, ov, iv] []; pure .next) := by intros; rfl) : wpG w S (StF B L ns) A (exec (.AugAssign (.Subscript o i tpos) op value pos) env) Q x := fun h tk s =>
  wpAny_AugAssign_SubscriptAny (lift y s fun ov x1 h1 t1 q1 s1 => lift q1 s1 fun iv x2 h2 t2 q2 s2 => lift q2 s2 fun old x3 h3 t3 q3 s3 => lift q3 s3 fun v x4 h4 t4 q4 s4 => lift q4 s4 fun nw x5 h5 t5 q5 s5 => q5 h5 t5 s5) hi
theorem i_add {σ : Type} {J : σ → Heap → Prop} {x : σ} {a b : Int} {Q : Value → σ → Prop} (q : ∀ t, Q (.int (a + b) t) x) : wpG w S J A (inplaceOp .Add (.int a t) (.int b u)) Q x := fun h tk s => PyProof.Rows.iadd_int ⟨h, _, x, rfl, s, q _⟩
theorem c_notin {kvs : List (Str × Value)} {k : Str} {Q : Value → Fst → Prop} (b : BaseOk w B) (hd : H d = some (dct w kvs)) (q : Q (.bool (!(valueAt kvs k).isSome)) (vs, H)) : wpG w S (StF B L ns) A (compareOp .NotIn (.str k t) (.ref d)) Q (vs, H) := fun h tk s => by
  obtain ⟨o, ho, hk⟩ := s.st.own d _ hd
  have hne : (d == sysModules) = false := by
    rw [beq_eq_false_iff_ne]
    rintro rfl
    exact b.mods (s.st.dis _ _ hd)
  exact wpAny_notIn_of (strKind_is _ _ _ _) hne (Heap.DictOf.mapOf (Heap.dictOf_iff.mpr ⟨o, ho, hk⟩)) ⟨h, _, _, rfl, s, q⟩
theorem gi_dict {kvs : List (Str × Value)} {k : Str} {v : Value} {Q : Value → Fst → Prop} (hd : H d = some (dct w kvs)) (hv : valueAt kvs k = some v) (q : Q v (vs, H)) : wpG w S (StF B L ns) A (getItem (.ref d) (.str k t)) Q (vs, H) := fun h tk s => by
  obtain ⟨o, ho, hk⟩ := s.st.own d _ hd
  exact wpAny_getItem_of (strKind_is _ _ _ _) (Heap.DictOf.mapOf (Heap.dictOf_iff.mpr ⟨o, ho, hk⟩)) hv ⟨h, _, _, rfl, s, q⟩
theorem tl_dict {value slice : Expr} {kvs : List (Str × Value)} {k : Str} {v : Value} {Q : Value → Fst → Prop} (hd : H d = some (dct w kvs)) (hv : valueAt kvs k = some v) (q : Q v (vs, H))
    (hs : subscripted slice false (.ref d) (.str k t) = operate [.ref d, .str k t] (getItem (.ref d) (.str k t)) := by with_unfolding_all rfl) : wpG w S (StF B L ns) A (subscriptTail value slice (.ref d) (.str k t)) Q (vs, H) :=
  tl (T := "dict") (fun h tk s => by
    obtain ⟨o, ho, hk⟩ := s.st.own d _ hd
    exact (Heap.DictOf.mapOf (Heap.dictOf_iff.mpr ⟨o, ho, hk⟩)).typeIs) slot_dict_getitem.lookup (gi_dict hd hv q) hs
theorem m_index {σ : Type} {J : σ → Heap → Prop} {x : σ} {y : Str} {pl : Sem Bool} {Q : Value × List Value → σ → Prop} (q : Q (.builtin "str.index", [.str y t]) x) : wpG w S J A (getMethod (.str y t) ⟨#[105, 110, 100, 101, 120]⟩ pl) Q x := fun h tk s => by
  rw [show (⟨#[105, 110, 100, 101, 120]⟩ : Str) = Str.ofString "index" from by decide +kernel]
  exact GM.index ⟨h, tk, x, rfl, s, q⟩
theorem b_index {σ : Type} {J : σ → Heap → Prop} {x : σ} {g : Nat} {Q : Value → σ → Prop} (hg : g ∈ grpC) (q : ∀ t, Q (.int (gi g) t) x) : wpG w S J A (call (.builtin "str.index") [.str ⟨#[46, 97, 98, 99]⟩ t, .str ⟨#[g]⟩ u]) Q x := fun h tk s => by
  simp only [grpC, List.mem_cons, List.not_mem_nil, or_false] at hg
  rcases hg with rfl | rfl | rfl | rfl
  · exact SC.index (i := 0) (rest := []) (by decide +kernel) ⟨h, _, x, rfl, s, q _⟩
  · exact SC.index (i := 1) (rest := []) (by decide +kernel) ⟨h, _, x, rfl, s, q _⟩
  · exact SC.index (i := 2) (rest := []) (by decide +kernel) ⟨h, _, x, rfl, s, q _⟩
  · exact SC.index (i := 3) (rest := []) (by decide +kernel) ⟨h, _, x, rfl, s, q _⟩
theorem b_intc {σ : Type} {J : σ → Heap → Prop} {x : σ} {k : Nat} {Q : Value → σ → Prop} (hk : k < 4) (q : ∀ t, Q (.int k t) x) : wpG w S J A (call (.type "int") [.str ⟨#[48 + k]⟩ t]) Q x := fun h tk s => by
  match k, hk with
  | 0, _ => exact PySem.W.KIN.call_text (n := 0) (by decide +kernel) (by decide) ⟨h, _, x, rfl, s, q _⟩
  | 1, _ => exact PySem.W.KIN.call_text (n := 1) (by decide +kernel) (by decide) ⟨h, _, x, rfl, s, q _⟩
  | 2, _ => exact PySem.W.KIN.call_text (n := 2) (by decide +kernel) (by decide) ⟨h, _, x, rfl, s, q _⟩
  | 3, _ => exact PySem.W.KIN.call_text (n := 3) (by decide +kernel) (by decide) ⟨h, _, x, rfl, s, q _⟩
theorem gi_str {y : Str} {k c : Nat} {Q : Value → Fst → Prop} (hk : k ≤ 1000) (hc : y.cps[k]? = some c) (q : ∀ t, Q (.str ⟨#[c]⟩ t) (vs, H)) : wpG w S (StF B L ns) A (getItem (.str y t) (.int k u)) Q (vs, H) := fun h tk s => by
  refine P.getItem_str (by simp; omega) ?_ ⟨h, _, _, rfl, s, q _⟩
  have hlt : k < y.cps.size := (Array.getElem?_eq_some_iff.mp hc).1
  rw [show seqIndex? (k : Int) y.length = some k from by
    have := seq_at (n := y.length) (k := (k : Int)) (by exact Int.natCast_nonneg _) (show ((k : Int)).toNat < y.cps.size by simpa using hlt)
    simpa using this]
  exact hc
theorem tl_str {value slice : Expr} {y : Str} {k c : Nat} {Q : Value → Fst → Prop} (hk : k ≤ 1000) (hc : y.cps[k]? = some c) (q : ∀ t, Q (.str ⟨#[c]⟩ t) (vs, H))
    (hs : subscripted slice false (.str y t) (.int k u) = operate [.str y t, .int k u] (getItem (.str y t) (.int k u)) := by with_unfolding_all rfl) : wpG w S (StF B L ns) A (subscriptTail value slice (.str y t) (.int k u)) Q (vs, H) :=
  tl (T := "str") (fun h tk s => typeIs_str _ _ _) F.slot_str_getitem.lookup (gi_str hk hc q) hs
end
end Mine
end
/-! part H30 -/
section
open PySem PySem.W PySem.Calls PyProof.Rows
set_option maxRecDepth 100000
set_option maxHeartbeats 4000000
set_option linter.unusedVariables false
namespace Mine
/-! _law_pages, on the tables -/
abbrev PgF := Nat → List Int
def bump (zs : List Int) (i : Nat) : List Int := zs.set i (zs.getD i 0 + 1)
def put0 (f : PgF) (h i : Nat) : PgF := fun x => if x = h then bump (f h) i else f x
def pg0K (f : PgF) (k : Nat) (tab : List (Nat × Nat)) : PgF := tab.foldl (fun f e => put0 f e.1 (4 * k + gi e.2)) f
def pg1K (f : PgF) (k : Nat) (tab : List (Nat × Nat)) : PgF := tab.foldl (fun f e => put0 f e.1 (4 * (e.2 - 48) + k)) f
abbrev blankP : PgF := fun _ => List.replicate 16 0
def pg0 (T : Tabs) : Nat → PgF
  | 0 => blankP
  | k + 1 => pg0K (pg0 T k) k (T (48 + k))
def pg1 (T : Tabs) : Nat → PgF
  | 0 => blankP
  | k + 1 => pg1K (pg1 T k) k (T (grpC.getD k 0))
theorem bump_len {zs : List Int} {i : Nat} : (bump zs i).length = zs.length := by unfold bump; simp
def Len16 (f : PgF) : Prop := ∀ h, (f h).length = 16
theorem Len16.put {f : PgF} (l : Len16 f) (h i : Nat) : Len16 (put0 f h i) := fun x => by
  unfold put0; split
  · rw [bump_len]; exact l h
  · exact l x
def kvsP (xp : Nat → Addr) (m : Nat) : List (Str × Value) := (List.range m).map fun i => (⟨#[97 + i]⟩, Value.ref (xp i))
structure Pages (w : World) (H : HM) (pg : Addr) (xp x0 x1 : Nat → Addr) (m : Nat) (f0 f1 : PgF) : Prop where
  d : H pg = some (dct w (kvsP xp m))
  p : ∀ i, i < m → H (xp i) = some (.lst [.ref (x0 i), .ref (x1 i)])
  a : ∀ i, i < m → ∃ us, H (x0 i) = some (.lst us) ∧ IntsAre us (f0 (97 + i))
  b : ∀ i, i < m → ∃ us, H (x1 i) = some (.lst us) ∧ IntsAre us (f1 (97 + i))
  ab : ∀ i j, i < m → j < m → x0 i ≠ x1 j
  aa : ∀ i j, i < m → j < m → x0 i = x0 j → i = j
  bb : ∀ i j, i < m → j < m → x1 i = x1 j → i = j
section
variable {w : World} {S : Shared} {B : HM} {A : Around} {H H' : HM} {L pg : Addr} {xp x0 x1 : Nat → Addr} {m : Nat} {f0 f1 : PgF}
theorem Pages.mono (P : Pages w H pg xp x0 x1 m f0 f1) (k : Sub H H') : Pages w H' pg xp x0 x1 m f0 f1 :=
  ⟨k _ _ P.d, fun i h => k _ _ (P.p i h), fun i h => let ⟨u, e, g⟩ := P.a i h; ⟨u, k _ _ e, g⟩, fun i h => let ⟨u, e, g⟩ := P.b i h; ⟨u, k _ _ e, g⟩, P.ab, P.aa, P.bb⟩
theorem Pages.pa (P : Pages w H pg xp x0 x1 m f0 f1) {i j : Nat} (hi : i < m) (hj : j < m) : xp i ≠ x0 j := fun e => by
  obtain ⟨us, e1, g⟩ := P.a j hj
  rw [← e, P.p i hi] at e1
  cases e1; cases g
theorem Pages.pb (P : Pages w H pg xp x0 x1 m f0 f1) {i j : Nat} (hi : i < m) (hj : j < m) : xp i ≠ x1 j := fun e => by
  obtain ⟨us, e1, g⟩ := P.b j hj
  rw [← e, P.p i hi] at e1
  cases e1; cases g
theorem kvsP_at {xp : Nat → Addr} {m i : Nat} (hi : i < m) : valueAt (kvsP xp m) (⟨#[97 + i]⟩ : Str) = some (.ref (xp i)) := by
  unfold valueAt kvsP
  have : ((List.range m).map fun i => ((⟨#[97 + i]⟩ : Str), Value.ref (xp i))).find? (fun kv => decide (kv.1 = (⟨#[97 + i]⟩ : Str))) = some (⟨#[97 + i]⟩, Value.ref (xp i)) := by
    rw [List.find?_map, Option.map_eq_some_iff]
    refine ⟨i, ?_, rfl⟩
    rw [List.find?_range_eq_some]
    refine ⟨by simp, by simpa using hi, fun j hj => ?_⟩
    simp; (exact Nat.ne_of_lt hj)
  rw [this]; rfl
theorem Pages.put0 (P : Pages w H pg xp x0 x1 m f0 f1) {i c : Nat} {us : List Value} {t : Tok} (hi : i < m) (hu : H (x0 i) = some (.lst us)) (g : IntsAre us (f0 (97 + i))) :
    Pages w (upd H (x0 i) (.lst (us.set c (.int ((f0 (97 + i)).getD c 0 + 1) t)))) pg xp x0 x1 m (put0 f0 (97 + i) c) f1 := by
  refine ⟨(upd_ne ?_).trans P.d, fun j hj => (upd_ne (P.pa hj hi)).trans (P.p j hj), fun j hj => ?_, fun j hj => ?_, P.ab, P.aa, P.bb⟩
  · rintro rfl; rw [P.d] at hu; cases hu
  · by_cases e : j = i
    · subst e
      refine ⟨_, upd_same, ?_⟩
      unfold Mine.put0 bump; rw [if_pos rfl]
      exact ints_set g c _ t
    · obtain ⟨u2, e2, g2⟩ := P.a j hj
      refine ⟨u2, (upd_ne fun z => e (P.aa j i hj hi z)).trans e2, ?_⟩
      unfold Mine.put0; rw [if_neg (by omega)]; exact g2
  · obtain ⟨u2, e2, g2⟩ := P.b j hj
    exact ⟨u2, (upd_ne (Ne.symm (P.ab i j hi hj))).trans e2, g2⟩
theorem Pages.put1 (P : Pages w H pg xp x0 x1 m f0 f1) {i c : Nat} {us : List Value} {t : Tok} (hi : i < m) (hu : H (x1 i) = some (.lst us)) (g : IntsAre us (f1 (97 + i))) :
    Pages w (upd H (x1 i) (.lst (us.set c (.int ((f1 (97 + i)).getD c 0 + 1) t)))) pg xp x0 x1 m f0 (Mine.put0 f1 (97 + i) c) := by
  refine ⟨(upd_ne ?_).trans P.d, fun j hj => (upd_ne (P.pb hj hi)).trans (P.p j hj), fun j hj => ?_, fun j hj => ?_, P.ab, P.aa, P.bb⟩
  · rintro rfl; rw [P.d] at hu; cases hu
  · obtain ⟨u2, e2, g2⟩ := P.a j hj
    exact ⟨u2, (upd_ne (P.ab j i hj hi)).trans e2, g2⟩
  · by_cases e : j = i
    · subst e
      refine ⟨_, upd_same, ?_⟩
      unfold Mine.put0 bump; rw [if_pos rfl]
      exact ints_set g c _ t
    · obtain ⟨u2, e2, g2⟩ := P.b j hj
      refine ⟨u2, (upd_ne fun z => e (P.bb j i hj hi z)).trans e2, ?_⟩
      unfold Mine.put0; rw [if_neg (by omega)]; exact g2
end
end Mine
end
/-! part H31 -/
section
open PySem PySem.W PySem.Calls PyProof.Rows
set_option maxRecDepth 100000
set_option maxHeartbeats 4000000
set_option linter.unusedVariables false
namespace Mine
abbrev ssPages : Str := ⟨#[112, 97, 103, 101, 115]⟩
abbrev nsPg : List Str := [ssBooks, ssHours, ssHour, ssK, ssGroup, ssTeacher]
theorem foreign_itL {l : Addr} {i : Nat} : Foreign (itL l i) := by
  refine ⟨(by intro _ h; cases h), (by intro _ h; cases h), (by intro _ _ _ h; cases h), (by intro _ h; cases h), ?_, ?_⟩
  · intro h
    obtain ⟨vs, t2, h1, h2⟩ := any_inj h { cls := .type "list_iterator", data := .fields #[.ref l, .int i 0] } ⟨rfl, rfl⟩
    injection h1 with h1
    subst h1
    cases h2
  · intro w kvs h
    have := any_inj h { cls := .type "list_iterator", data := .fields #[.ref l, .int i 0] } ⟨rfl, rfl⟩
    obtain ⟨es, ep, _, h2, _⟩ := this
    cases h2
theorem foreign_cel {v : Option Value} : Foreign (cel v) := by
  refine ⟨(by intro _ h; cases h), (by intro _ h; cases h), (by intro _ _ _ h; cases h), (by intro _ h; cases h), ?_, ?_⟩
  · intro h
    obtain ⟨vs, t2, h1, h2⟩ := any_inj h { cls := .none, data := .cell v } rfl
    cases h1
  · intro w kvs h
    have := any_inj h { cls := .none, data := .cell v } rfl
    obtain ⟨es, ep, _, h2, _⟩ := this
    cases h2
section
variable {w : World} {S : Shared} {B : HM} {A : Around} {H H' : HM} {L pg bk l : Addr} {xp x0 x1 xs lxs : Nat → Addr} {m : Nat} {f0 f1 : PgF} {T : Tabs} {ns : List Str} {vs : List (Option Value)} {env : Env}
theorem Pages.keep (P : Pages w H pg xp x0 x1 m f0 f1) {a0 : Addr} (hf : ∀ i, H a0 = some i → Foreign i) (k : ∀ a i, H a = some i → a ≠ a0 → H' a = some i) : Pages w H' pg xp x0 x1 m f0 f1 := by
  refine ⟨k _ _ P.d ?_, fun i h => k _ _ (P.p i h) ?_, fun i h => ?_, fun i h => ?_, P.ab, P.aa, P.bb⟩
  · rintro rfl; exact (hf _ P.d).k _ _ rfl
  · rintro e; have := P.p i h; rw [e] at this; exact (hf _ this).l _ rfl
  · obtain ⟨u, e, g⟩ := P.a i h
    exact ⟨u, k _ _ e (by rintro z; rw [z] at e; exact (hf _ e).l _ rfl), g⟩
  · obtain ⟨u, e, g⟩ := P.b i h
    exact ⟨u, k _ _ e (by rintro z; rw [z] at e; exact (hf _ e).l _ rfl), g⟩
theorem kvsP_new {q : Nat} {v : Value} : stored (kvsP xp q) (⟨#[97 + q]⟩ : Str) v = kvsP xp q ++ [((⟨#[97 + q]⟩ : Str), v)] := by
  unfold stored
  rw [if_neg]
  intro h
  rw [List.any_eq_true] at h
  obtain ⟨kv, hkv, e⟩ := h
  unfold kvsP at hkv
  obtain ⟨p, hp, rfl⟩ := List.mem_map.mp hkv
  simp at e hp
  (exact absurd e (Nat.ne_of_lt hp))
theorem zeros_ints (t : Tok) (k : Nat) : IntsAre (List.replicate k (Value.int 0 t)) (List.replicate k (0 : Int)) := by
  induction k with
  | zero => exact .nil
  | succ k ih => exact .cons 0 t ih
theorem Pages.add (P : Pages w H pg xp x0 x1 m blankP blankP) {y z0 z1 : Addr} {t0 t1 : Tok} (hy : H' y = some (.lst [.ref z0, .ref z1])) (h0 : H' z0 = some (.lst (List.replicate 16 (.int 0 t0)))) (h1 : H' z1 = some (.lst (List.replicate 16 (.int 0 t1)))) (k : ∀ a i, H a = some i → a ≠ pg → H' a = some i) (hd : H' pg = some (dct w (stored (kvsP xp m) (⟨#[97 + m]⟩ : Str) (.ref y))))
    (n0 : H z0 = none) (n1 : H z1 = none) (n : z0 ≠ z1) : Pages w H' pg (fun i => if i = m then y else xp i) (fun i => if i = m then z0 else x0 i) (fun i => if i = m then z1 else x1 i) (m + 1) blankP blankP := by
  have lst : ∀ {a : Addr} {us : List Value}, H a = some (.lst us) → H' a = some (.lst us) := fun {a us} e => k _ _ e (by first | exact nn e (P.d) | exact Ne.symm (nn e (P.d)) | exact nn (P.d) e | exact Ne.symm (nn (P.d) e) | (rintro rfl; rw [P.d] at e; cases e))
  have a0 : ∀ i, i < m → x0 i ≠ z0 ∧ x0 i ≠ z1 := fun i hi => by
    obtain ⟨u, e, _⟩ := P.a i hi
    exact ⟨fun z => (by rw [z, n0] at e; cases e), fun z => (by rw [z, n1] at e; cases e)⟩
  have a1 : ∀ i, i < m → x1 i ≠ z0 ∧ x1 i ≠ z1 := fun i hi => by
    obtain ⟨u, e, _⟩ := P.b i hi
    exact ⟨fun z => (by rw [z, n0] at e; cases e), fun z => (by rw [z, n1] at e; cases e)⟩
  refine ⟨?_, fun i hi => ?_, fun i hi => ?_, fun i hi => ?_, fun i j hi hj => ?_, fun i j hi hj e => ?_, fun i j hi hj e => ?_⟩
  · rw [hd, kvsP_new]
    have : kvsP (fun i => if i = m then y else xp i) (m + 1) = kvsP xp m ++ [((⟨#[97 + m]⟩ : Str), .ref y)] := by
      unfold kvsP
      rw [List.range_succ, List.map_append]
      congr 1
      · exact List.map_congr_left fun i hi => by
          have : i ≠ m := by simp at hi; (exact Nat.ne_of_lt hi)
          dsimp only; rw [if_neg this]
      · simp
    rw [this]
  · by_cases e : i = m
    · subst e; simp only [if_true]; exact hy
    · simp only [if_neg e]; exact lst (P.p i (by exact Nat.lt_of_le_of_ne (Nat.le_of_lt_succ hi) e))
  · by_cases e : i = m
    · subst e; simp only [if_true]; exact ⟨_, h0, zeros_ints _ _⟩
    · simp only [if_neg e]
      obtain ⟨u, e2, g⟩ := P.a i (by exact Nat.lt_of_le_of_ne (Nat.le_of_lt_succ hi) e)
      exact ⟨u, lst e2, g⟩
  · by_cases e : i = m
    · subst e; simp only [if_true]; exact ⟨_, h1, zeros_ints _ _⟩
    · simp only [if_neg e]
      obtain ⟨u, e2, g⟩ := P.b i (by exact Nat.lt_of_le_of_ne (Nat.le_of_lt_succ hi) e)
      exact ⟨u, lst e2, g⟩
  · by_cases e1 : i = m <;> by_cases e2 : j = m
    · simp only [e1, e2, if_true]; exact n
    · simp only [e1, if_true, if_neg e2]; exact Ne.symm (a1 j (by exact Nat.lt_of_le_of_ne (Nat.le_of_lt_succ hj) e2)).1
    · simp only [if_neg e1, e2, if_true]; exact (a0 i (by exact Nat.lt_of_le_of_ne (Nat.le_of_lt_succ hi) e1)).2
    · simp only [if_neg e1, if_neg e2]; exact P.ab i j (by exact Nat.lt_of_le_of_ne (Nat.le_of_lt_succ hi) e1) (by exact Nat.lt_of_le_of_ne (Nat.le_of_lt_succ hj) e2)
  · by_cases e1 : i = m <;> by_cases e2 : j = m
    · (rw [e2]; exact e1)
    · simp only [e1, if_true, if_neg e2] at e; exact absurd e.symm (a0 j (by exact Nat.lt_of_le_of_ne (Nat.le_of_lt_succ hj) e2)).1
    · simp only [if_neg e1, e2, if_true] at e; exact absurd e (a0 i (by exact Nat.lt_of_le_of_ne (Nat.le_of_lt_succ hi) e1)).1
    · simp only [if_neg e1, if_neg e2] at e; exact P.aa i j (by exact Nat.lt_of_le_of_ne (Nat.le_of_lt_succ hi) e1) (by exact Nat.lt_of_le_of_ne (Nat.le_of_lt_succ hj) e2) e
  · by_cases e1 : i = m <;> by_cases e2 : j = m
    · omega
    · simp only [e1, if_true, if_neg e2] at e; exact absurd e.symm (a1 j (by exact Nat.lt_of_le_of_ne (Nat.le_of_lt_succ hj) e2)).2
    · simp only [if_neg e1, e2, if_true] at e; exact absurd e (a1 i (by exact Nat.lt_of_le_of_ne (Nat.le_of_lt_succ hi) e1)).2
    · simp only [if_neg e1, if_neg e2] at e; exact P.bb i j (by exact Nat.lt_of_le_of_ne (Nat.le_of_lt_succ hi) e1) (by exact Nat.lt_of_le_of_ne (Nat.le_of_lt_succ hj) e2) e
theorem items_call {refs : List Addr} {tab : List (Nat × Nat)} {x lx : Addr} {Q : Value → Fst → Prop} (b : BaseOk w B) (hA : Room A 10) (d : Hdr H x lx) (T : TabAt H lx refs tab) (hz : refs.length ≤ 1000)
    (q : ∀ r, H r = none → B r = none → Q (.ref r) (vs, upd H r (.lst (refs.map .ref)))) : wpG w S (StF B L ns) A (call (.ref 175) [.ref x]) Q (vs, H) := by
  refine f_fn fun hL => items_spec b hA (d.mono (Sub.new hL)) (T.mono (Sub.new hL)) hz fun r h1 h2 => ?_
  have hLr : L ≠ r := ne_loc h1
  rw [upd_ne (Ne.symm hLr)] at h1
  exact ⟨upd H r (.lst (refs.map .ref)), by rw [upd_swap hLr]; exact Sub.refl, upd_off hL hLr, _, rfl, q r h1 h2⟩
end
end Mine
end
/-! part H33 -/
section
open PySem PySem.W PySem.Calls PyProof.Rows
set_option maxRecDepth 100000
set_option maxHeartbeats 4000000
set_option linter.unusedVariables false
namespace Mine
theorem pg0K_take {f : PgF} {k i : Nat} {tab : List (Nat × Nat)} (hi : i < tab.length) : pg0K f k (tab.take (i + 1)) = put0 (pg0K f k (tab.take i)) tab[i].1 (4 * k + gi tab[i].2) := by
  unfold pg0K
  rw [List.take_add_one, List.getElem?_eq_getElem hi, List.foldl_append]; rfl
theorem pg1K_take {f : PgF} {k i : Nat} {tab : List (Nat × Nat)} (hi : i < tab.length) : pg1K f k (tab.take (i + 1)) = put0 (pg1K f k (tab.take i)) tab[i].1 (4 * (tab[i].2 - 48) + k) := by
  unfold pg1K
  rw [List.take_add_one, List.getElem?_eq_getElem hi, List.foldl_append]; rfl
theorem len16_0K {f : PgF} (l : Len16 f) (k : Nat) : ∀ (tab : List (Nat × Nat)), Len16 (pg0K f k tab) := by
  intro tab
  induction tab generalizing f with
  | nil => exact l
  | cons e r ih => exact ih (l.put _ _)
theorem len16_1K {f : PgF} (l : Len16 f) (k : Nat) : ∀ (tab : List (Nat × Nat)), Len16 (pg1K f k tab) := by
  intro tab
  induction tab generalizing f with
  | nil => exact l
  | cons e r ih => exact ih (l.put _ _)
theorem len16_0 (T : Tabs) : ∀ k, Len16 (pg0 T k)
  | 0 => fun _ => List.length_replicate
  | k + 1 => len16_0K (len16_0 T k) _ _
theorem len16_1 (T : Tabs) : ∀ k, Len16 (pg1 T k)
  | 0 => fun _ => List.length_replicate
  | k + 1 => len16_1K (len16_1 T k) _ _
theorem gi_lt {g : Nat} (h : g ∈ grpC) : gi g < 4 := by
  simp only [grpC, List.mem_cons, List.not_mem_nil, or_false] at h
  rcases h with rfl | rfl | rfl | rfl <;> decide
end Mine
end
/-! part H32 -/
section
open PySem PySem.W PySem.Calls PyProof.Rows
set_option maxRecDepth 100000
set_option maxHeartbeats 4000000
set_option linter.unusedVariables false
namespace Mine
section
variable {w : World} {S : Shared} {B : HM} {A : Around} {H H' : HM} {L pg bk lh : Addr} {xp x0 x1 xs lxs : Nat → Addr} {m : Nat} {f0 f1 : PgF} {T : Tabs} {ns : List Str} {vs : List (Option Value)} {env : Env}
theorem grpP {k : Nat} (h : k < 4) : grpC.getD k 0 ∈ persC := by
  match k, h with
  | 0, _ | 1, _ | 2, _ | 3, _ => decide
theorem grpG {k : Nat} (h : k < 4) : grpC.getD k 0 ∈ grpC := by
  match k, h with
  | 0, _ | 1, _ | 2, _ | 3, _ => decide
theorem grpAt {k : Nat} (h : k < 4) : (⟨#[46, 97, 98, 99]⟩ : Str).cps[k]? = some (grpC.getD k 0) := by
  match k, h with
  | 0, _ | 1, _ | 2, _ | 3, _ => rfl
theorem ints_len : ∀ {us : List Value} {zs : List Int}, IntsAre us zs → us.length = zs.length
  | _, _, .nil => rfl
  | _, _, .cons _ _ g => congrArg (· + 1) (ints_len g)
abbrev pgI1 (w : World) (H : HM) (bk lh pg I L : Addr) : Nat → Fst → Prop := fun i y => ∃ xp x0 x1 ov Y, y = ([some (.ref bk), some (.ref lh), ov, none, none, none], Y) ∧ Y I = some (itL lh i) ∧ Y (L + 1) = some (cel (some (.ref pg))) ∧ Pages w Y pg xp x0 x1 i blankP blankP ∧ Sub H Y ∧ ∀ j, j < i → H (x0 j) = none ∧ H (x1 j) = none
abbrev pgI2 (w : World) (H : HM) (bk lh pg J L : Addr) (xp x0 x1 : Nat → Addr) (m : Nat) (T : Tabs) : Nat → Fst → Prop := fun k y => ∃ hv kv gv tv X, y = ([some (.ref bk), some (.ref lh), hv, kv, gv, tv], X) ∧ X J = some (itR (0 + (k : Int) * 1) (((4 : Nat) : Int) - (k : Int)) 1) ∧ X (L + 1) = some (cel (some (.ref pg))) ∧ Pages w X pg xp x0 x1 m (pg0 T k) (pg1 T k) ∧ Sub H X
abbrev pgI3 (w : World) (H : HM) (bk lh pg J L : Addr) (xp x0 x1 : Nat → Addr) (m : Nat) (T : Tabs) (k : Nat) (tk : Tok) (tv : Option Value) (I2 li : Addr) (refs : List Addr) : Nat → Fst → Prop := fun i y => ∃ hv gv X, y = ([some (.ref bk), some (.ref lh), hv, some (.int k tk), gv, tv], X) ∧ X I2 = some (itL li i) ∧ X li = some (.lst (refs.map .ref)) ∧ X J = some (itR (0 + ((k + 1 : Nat) : Int) * 1) (((4 : Nat) : Int) - ((k + 1 : Nat) : Int)) 1) ∧ X (L + 1) = some (cel (some (.ref pg))) ∧ Pages w X pg xp x0 x1 m (pg0K (pg0 T k) k ((T (48 + k)).take i)) (pg1 T k) ∧ Sub H X
abbrev pgI4 (w : World) (H : HM) (bk lh pg J L : Addr) (xp x0 x1 : Nat → Addr) (m : Nat) (T : Tabs) (k : Nat) (tk : Tok) (gg : Nat) (I3 lj : Addr) (refs2 : List Addr) : Nat → Fst → Prop := fun i y => ∃ hv gv tv X, y = ([some (.ref bk), some (.ref lh), hv, some (.int k tk), gv, tv], X) ∧ X I3 = some (itL lj i) ∧ X lj = some (.lst (refs2.map .ref)) ∧ X J = some (itR (0 + ((k + 1 : Nat) : Int) * 1) (((4 : Nat) : Int) - ((k + 1 : Nat) : Int)) 1) ∧ X (L + 1) = some (cel (some (.ref pg))) ∧ Pages w X pg xp x0 x1 m (pg0 T (k + 1)) (pg1K (pg1 T k) k ((T gg).take i)) ∧ Sub H X
theorem pages_spec {hv : List Value} {Q : Result → HM → Prop} (b : BaseOk w B) (hA : Room A 60) (K : BkF w H bk xs lxs T) (hh : H lh = some (.lst hv)) (hc : ChrL hv ((List.range m).map (97 + ·))) (hm : m ≤ 12)
    (hk : ∀ p ∈ persC, ∀ e ∈ T p, 97 ≤ e.1 ∧ e.1 < 97 + m) (hg : ∀ k, k < 4 → ∀ e ∈ T (48 + k), e.2 ∈ grpC) (ht : ∀ g ∈ grpC, ∀ e ∈ T g, 48 ≤ e.2 ∧ e.2 < 52)
    (q : ∀ r pg xp x0 x1 ys H', H' r = some (.lst ys) → ys = (List.range m).map (fun i => .ref (xp i)) → Pages w H' pg xp x0 x1 m (pg0 T 4) (pg1 T 4) → Sub H H' → Q (.ok (.ret (.ref r))) H') :
    codeG w S (St B) A (.call (.ref 255) ⟨[.ref bk, .ref lh], []⟩) Q H := by
  have hlen : hv.length = m := by rw [hc.1]; simp
  refine enterC b hA (hd.zo_257 w.params) [.ref bk, .ref lh] [(ssBooks, .ref bk), (ssHours, .ref lh)] [(ssPages, none)] (by kernel_rfl) rfl (by kernel_rfl) (ns := nsPg) ⟨rfl, by decide +kernel, by decide +kernel, by decide +kernel⟩ rfl rfl (Nat.le_of_ble_eq_true rfl) ?_ ?_ rfl rfl ?_
  · intro L y hy
    simp only [List.mem_cons, List.not_mem_nil, or_false] at hy
    rcases hy with rfl | rfl <;> exact .inl rfl
  · intro L
    exact ⟨⟨rfl, rfl⟩, trivial⟩
  intro A1 L env hA1 f hsc hcl hco hql hfr
  replace hcl : env.cells = [(ssPages, L + 1)] := hcl
  have hn : H (L + 1) = none := (hfr 1).1
  have eP : Cel env ssPages (L + 1) := .of hsc hcl rfl rfl
  show wpG w S (StF B L nsPg) A1 _ _ (_, upd H (L + 1) (cel none))
  refine x_cons (x_assign (e_dict0 fun pg g1 g2 => ?_))
  replace g1 : upd H (L + 1) (cel none) pg = none := g1
  refine f_cellset f eP (by unfold Env.kindOf; rw [hsc]; rfl) (upd_old g1 upd_same) ?_
  have npg : pg ≠ L + 1 := by first | exact nn g1 (upd_same) | exact Ne.symm (nn g1 (upd_same)) | exact nn (upd_same) g1 | exact Ne.symm (nn (upd_same) g1) | (rintro rfl; rw [upd_same] at g1; cases g1)
  have hpgH : H pg = none := by rw [upd_ne npg] at g1; exact g1
  have k0 : Sub H (upd (upd (upd H (L + 1) (cel none)) pg (dct w [])) (L + 1) (cel (some (.ref pg)))) := fun a i e =>
    (upd_ne (by first | exact nn e (hn) | exact Ne.symm (nn e (hn)) | exact nn (hn) e | exact Ne.symm (nn (hn) e) | (rintro rfl; rw [hn] at e; cases e))).trans (upd_old g1 (upd_old hn e))
  have P0 : Pages w (upd (upd (upd H (L + 1) (cel none)) pg (dct w [])) (L + 1) (cel (some (.ref pg)))) pg (fun _ => 0) (fun _ => 0) (fun _ => 0) 0 blankP blankP :=
    ⟨(upd_ne npg).trans upd_same, fun _ h => absurd h (Nat.not_lt_zero _), fun _ h => absurd h (Nat.not_lt_zero _), fun _ h => absurd h (Nat.not_lt_zero _), fun _ _ h => absurd h (Nat.not_lt_zero _), fun _ _ h => absurd h (Nat.not_lt_zero _), fun _ _ h => absurd h (Nat.not_lt_zero _)⟩
  have c0 : upd (upd (upd H (L + 1) (cel none)) pg (dct w [])) (L + 1) (cel (some (.ref pg))) (L + 1) = some (cel (some (.ref pg))) := upd_same
  generalize upd (upd (upd H (L + 1) (cel none)) pg (dct w [])) (L + 1) (cel (some (.ref pg))) = X at *
  refine x_cons (x_for (f_local f 1 rfl rfl ?_))
  refine i_list (k0 _ _ hh) fun I hI hBI hIl => ?_
  have hIH : H I = none := by
    cases e : H I with
    | none => rfl
    | some j => rw [k0 _ _ e] at hI; cases hI
  refine code_for (n := m) (hlen ▸ iter_list hA1.hand hv hIl) (pgI1 w H bk lh pg I L) ?_ ?_ ?_ ?_ ?_
  · rintro i y ⟨xp, x0, x1, ov, Y, rfl, y1, y2, y3, y4, _⟩
    exact ⟨y1, y4 _ _ hh⟩
  · intro i v hv; trivial
  · rintro i v us Y0 hi hv' ⟨xp, x0, x1, ov, Y, hz, y1, y2, y3, y4, y5⟩
    cases hz
    obtain ⟨tv, htv⟩ := hc.2 i (97 + i) (by rw [List.getElem?_map, List.getElem?_range hi]; rfl)
    have ev : v = .str ⟨#[97 + i]⟩ tv := by rw [htv] at hv'; exact (Option.some.inj hv').symm
    subst ev
    have ni : ∀ a j, H a = some j → a ≠ I := fun a j e => nn e hIH
    have y2' : upd Y0 I (itL lh (i + 1)) (L + 1) = some (cel (some (.ref pg))) := (upd_ne (by rintro z; rw [← z, c0] at hI; cases hI)).trans y2
    have y3' : Pages w (upd Y0 I (itL lh (i + 1))) pg xp x0 x1 i blankP blankP := y3.keep (fk y1 foreign_itL) fun a j e n => (upd_ne n).trans e
    have y4' : Sub H (upd Y0 I (itL lh (i + 1))) := fun a j e => (upd_ne (ni a j e)).trans (y4 _ _ e)
    have y1' : upd Y0 I (itL lh (i + 1)) I = some (itL lh (i + 1)) := upd_same
    generalize upd Y0 I (itL lh (i + 1)) = Z at *
    refine t_name f 2 rfl (Nat.le_of_ble_eq_true rfl) ?_
    refine x_cons (x_setsub ?_)
    refine e_list (s_cons ?_)
    refine e_bin (e_list (s_int fun t2 => s_nil ⟨Nat.le_of_ble_eq_true rfl, fun r0 p1 p2 => e_int fun t3 => b_mull (k := 16) rfl upd_same (Nat.le_of_ble_eq_true rfl) (by decide) fun z0 p3 p4 => s_cons ?_⟩))
    refine e_bin (e_list (s_int fun t4 => s_nil ⟨Nat.le_of_ble_eq_true rfl, fun r1 p5 p6 => e_int fun t5 => b_mull (k := 16) rfl upd_same (Nat.le_of_ble_eq_true rfl) (by decide) fun z1 p7 p8 => s_nil ⟨Nat.le_of_ble_eq_true rfl, fun yl p9 p10 => ?_⟩⟩))
    have efl : ∀ t : Tok, (List.replicate 16 [Value.int 0 t]).flatten = List.replicate 16 (.int 0 t) := fun t => rfl
    rw [efl, efl] at *
    replace p1 : Z r0 = none := p1
    replace p3 : upd Z r0 (.lst [.int 0 t2]) z0 = none := p3
    have s1 : Sub Z (upd (upd Z r0 (.lst [.int 0 t2])) z0 (.lst (List.replicate 16 (.int 0 t2)))) := (Sub.new p1).trans (Sub.new p3)
    have a0 : upd (upd Z r0 (.lst [.int 0 t2])) z0 (.lst (List.replicate 16 (.int 0 t2))) z0 = some (.lst (List.replicate 16 (.int 0 t2))) := upd_same
    have b0 : Z z0 = none := by
      cases e : Z z0 with
      | none => rfl
      | some j =>
        have : upd Z r0 (.lst [.int 0 t2]) z0 = some j := Sub.new p1 _ _ e
        rw [p3] at this; cases this
    replace p5 : upd (upd Z r0 (.lst [.int 0 t2])) z0 (.lst (List.replicate 16 (.int 0 t2))) r1 = none := p5
    replace p7 : upd (upd (upd Z r0 (.lst [.int 0 t2])) z0 (.lst (List.replicate 16 (.int 0 t2)))) r1 (.lst [.int 0 t4]) z1 = none := p7
    have s2 : Sub (upd (upd Z r0 (.lst [.int 0 t2])) z0 (.lst (List.replicate 16 (.int 0 t2)))) (upd (upd (upd (upd Z r0 (.lst [.int 0 t2])) z0 (.lst (List.replicate 16 (.int 0 t2)))) r1 (.lst [.int 0 t4])) z1 (.lst (List.replicate 16 (.int 0 t4)))) := (Sub.new p5).trans (Sub.new p7)
    have a1 : upd (upd (upd (upd Z r0 (.lst [.int 0 t2])) z0 (.lst (List.replicate 16 (.int 0 t2)))) r1 (.lst [.int 0 t4])) z1 (.lst (List.replicate 16 (.int 0 t4))) z1 = some (.lst (List.replicate 16 (.int 0 t4))) := upd_same
    have b1 : Z z1 = none := by
      cases e : Z z1 with
      | none => rfl
      | some j =>
        have : upd (upd (upd Z r0 (.lst [.int 0 t2])) z0 (.lst (List.replicate 16 (.int 0 t2)))) r1 (.lst [.int 0 t4]) z1 = some j := Sub.new p5 _ _ (s1 _ _ e)
        rw [p7] at this; cases this
    have n01 : z0 ≠ z1 := by
      rintro rfl
      rw [upd_old p5 a0] at p7; cases p7
    replace p9 : upd (upd (upd (upd Z r0 (.lst [.int 0 t2])) z0 (.lst (List.replicate 16 (.int 0 t2)))) r1 (.lst [.int 0 t4])) z1 (.lst (List.replicate 16 (.int 0 t4))) yl = none := p9
    have s3 := s1.trans s2
    have a2 := s2 _ _ a0
    generalize upd (upd (upd (upd Z r0 (.lst [.int 0 t2])) z0 (.lst (List.replicate 16 (.int 0 t2)))) r1 (.lst [.int 0 t4])) z1 (.lst (List.replicate 16 (.int 0 t4))) = G at *
    have nyl : yl ≠ pg := by first | exact nn p9 (s3 _ _ y3'.d) | exact Ne.symm (nn p9 (s3 _ _ y3'.d)) | exact nn (s3 _ _ y3'.d) p9 | exact Ne.symm (nn (s3 _ _ y3'.d) p9) | (rintro rfl; rw [s3 _ _ y3'.d] at p9; cases p9)
    have hGp : upd G yl (.lst [.ref z0, .ref z1]) pg = some (dct w (kvsP xp i)) := upd_old p9 (s3 _ _ y3'.d)
    refine f_cell f eP (upd_old p9 (s3 _ _ y2')) (f_local f 2 rfl rfl (si_dict hGp (by unfold kvsP; simp; omega) ?_))
    have keep : ∀ a j, Z a = some j → a ≠ pg → upd (upd G yl (.lst [.ref z0, .ref z1])) pg (dct w (stored (kvsP xp i) (⟨#[97 + i]⟩ : Str) (.ref yl))) a = some j := fun a j e n => (upd_ne n).trans (upd_old p9 (s3 _ _ e))
    have nz0 : z0 ≠ pg := by first | exact nn a2 (s3 _ _ y3'.d) | exact Ne.symm (nn a2 (s3 _ _ y3'.d)) | exact nn (s3 _ _ y3'.d) a2 | exact Ne.symm (nn (s3 _ _ y3'.d) a2) | (rintro rfl; rw [s3 _ _ y3'.d] at a2; cases a2)
    have nz1 : z1 ≠ pg := by first | exact nn a1 (s3 _ _ y3'.d) | exact Ne.symm (nn a1 (s3 _ _ y3'.d)) | exact nn (s3 _ _ y3'.d) a1 | exact Ne.symm (nn (s3 _ _ y3'.d) a1) | (rintro rfl; rw [s3 _ _ y3'.d] at a1; cases a1)
    refine x_nil ⟨_, ⟨_, _, _, _, _, rfl, keep _ _ y1' (by first | exact nn hI (P0.d) | exact Ne.symm (nn hI (P0.d)) | exact nn (P0.d) hI | exact Ne.symm (nn (P0.d) hI) | (rintro rfl; rw [P0.d] at hI; cases hI)), keep _ _ y2' (Ne.symm npg), y3'.add (t0 := t2) (t1 := t4) ((upd_ne nyl).trans upd_same) ((upd_ne nz0).trans (upd_old p9 a2)) ((upd_ne nz1).trans (upd_old p9 a1)) keep upd_same b0 b1 n01, fun a j e => keep _ _ (y4' _ _ e) (by first | exact nn e (hpgH) | exact Ne.symm (nn e (hpgH)) | exact nn (hpgH) e | exact Ne.symm (nn (hpgH) e) | (rintro rfl; rw [hpgH] at e; cases e)), fun j hj => ?_⟩, Sub.refl⟩
    have hz : ∀ a, Z a = none → H a = none := fun a e => by
      cases e2 : H a with
      | none => rfl
      | some j => rw [y4' _ _ e2] at e; cases e
    by_cases e : j = i
    · simp only [e, if_true]; exact ⟨hz _ b0, hz _ b1⟩
    · simp only [if_neg e]; exact y5 j (by exact Nat.lt_of_le_of_ne (Nat.le_of_lt_succ hj) e)
  · rintro us Y0 ⟨xp, x0, x1, ov, Y, hz, y1, y2, y3, y4, y5⟩
    cases hz
    refine ⟨_, rfl, ?_⟩
    have nI : I ≠ L + 1 := by rintro z; rw [z, c0] at hI; cases hI
    have y2' : era Y0 I (L + 1) = some (cel (some (.ref pg))) := (era_ne (Ne.symm nI)).trans y2
    have y3' : Pages w (era Y0 I) pg xp x0 x1 m blankP blankP := y3.keep (fk y1 foreign_itL) fun a j e n => (era_ne n).trans e
    have y4' : Sub H (era Y0 I) := fun a j e => by unfold era; rw [if_neg (by first | exact nn e (hIH) | exact Ne.symm (nn e (hIH)) | exact nn (hIH) e | exact Ne.symm (nn (hIH) e) | (rintro rfl; rw [hIH] at e; cases e))]; exact y4 _ _ e
    generalize era Y0 I = Z at *
    have hK : BkF w Z bk xs lxs T := K.mono y4'
    refine x_cons (x_for ?_)
    refine e_call (f_builtin (v := .type "range") b f (by kernel_rfl) (by kernel_rfl) (by decide) (by rw [hsc]; rfl) (by decide +kernel) ?_)
    refine c_with rfl (a_pos (s_int fun t5 => s_nil ⟨Keep.type, ?_⟩))
    refine r_range1 fun r p1 p2 => ?_
    refine i_range upd_same (by decide) (by decide) (by decide) (by decide) fun J p3 p4 => ?_
    replace p1 : Z r = none := p1
    replace p3 : upd Z r (rngI 0 4) J = none := p3
    rw [if_pos (by decide)]
    have kZ : Sub Z (upd (upd Z r (rngI 0 4)) J (itR 0 (4 - 0) 1)) := (Sub.new p1).trans (Sub.new p3)
    have hJ1 : upd (upd Z r (rngI 0 4)) J (itR 0 (4 - 0) 1) J = some (itR (0 + (0 : Nat) * 1) (((4 : Nat) : Int) - (0 : Nat)) 1) := upd_same
    have hJH : H J = none := by
      cases e : H J with
      | none => rfl
      | some j =>
        have : upd Z r (rngI 0 4) J = some j := Sub.new p1 _ _ (y4' _ _ e)
        rw [p3] at this; cases this
    generalize upd (upd Z r (rngI 0 4)) J (itR 0 (4 - 0) 1) = Z1 at *
    refine code_for (n := 4) (iter_range hA1.hand 0 1 4) (pgI2 w H bk lh pg J L xp x0 x1 m T) ?_ ?_ ?_ ?_ ?_
    · rintro i y ⟨hv, kv, gv, tv, X, rfl, z1, _⟩
      exact ⟨z1, trivial⟩
    · intro i v hv; trivial
    · rintro k v us X0 hk4 ⟨tk, rfl⟩ ⟨hv2, kv, gv, tv, X, hz, z1, z2, z3, z4⟩
      cases hz
      rw [show ((0 : Int) + (k : Int) * 1) = ((k : Nat) : Int) from by omega]
      have nJH : ∀ a j, H a = some j → a ≠ J := fun a j e => nn e hJH
      have z2' : upd X0 J (itR (0 + ((k + 1 : Nat) : Int) * 1) (((4 : Nat) : Int) - ((k + 1 : Nat) : Int)) 1) (L + 1) = some (cel (some (.ref pg))) := (upd_ne (by first | exact nn z1 (z2) | exact Ne.symm (nn z1 (z2)) | exact nn (z2) z1 | exact Ne.symm (nn (z2) z1) | (rintro rfl; rw [z2] at z1; cases z1))).trans z2
      have z3' : Pages w (upd X0 J (itR (0 + ((k + 1 : Nat) : Int) * 1) (((4 : Nat) : Int) - ((k + 1 : Nat) : Int)) 1)) pg xp x0 x1 m (pg0 T k) (pg1 T k) := z3.keep (fk z1 foreign_itR) fun a j e n => (upd_ne n).trans e
      have z4' : Sub H (upd X0 J (itR (0 + ((k + 1 : Nat) : Int) * 1) (((4 : Nat) : Int) - ((k + 1 : Nat) : Int)) 1)) := fun a j e => (upd_ne (nJH a j e)).trans (z4 _ _ e)
      have z1' : upd X0 J (itR (0 + ((k + 1 : Nat) : Int) * 1) (((4 : Nat) : Int) - ((k + 1 : Nat) : Int)) 1) J = some (itR (0 + ((k + 1 : Nat) : Int) * 1) (((4 : Nat) : Int) - ((k + 1 : Nat) : Int)) 1) := upd_same
      generalize upd X0 J (itR (0 + ((k + 1 : Nat) : Int) * 1) (((4 : Nat) : Int) - ((k + 1 : Nat) : Int)) 1) = Y1 at *
      have hk48 : 48 + k ∈ persC := pers48 hk4
      refine t_name f 3 rfl (Nat.le_of_ble_eq_true rfl) ?_
      refine x_cons (x_for ?_)
      have hKY : BkF w Y1 bk xs lxs T := K.mono z4'
      refine e_meth rfl (e_sub (f_local f 0 rfl rfl ?_))
      refine e_call (f_builtin (v := .type "str") b f (by kernel_rfl) (by kernel_rfl) (by decide) (by rw [hsc]; rfl) (by decide +kernel) ?_)
      refine c_with rfl (a_pos (s_cons (f_local f 3 rfl rfl (s_nil ⟨Keep.type, ?_⟩))))
      refine f_str hk4 fun t7 => tl_books hKY.bk hk48 ?_
      obtain ⟨refs, Tr0⟩ := K.bk.tab _ hk48
      have Tr := Tr0.mono z4'
      refine g_meth b (hKY.bk.hdr _ hk48) (f := 175) (by kernel_rfl) (by kernel_rfl) (by decide +kernel) ?_
      refine c_with rfl (a_nil ⟨Keep.fn b (by kernel_rfl), ?_⟩)
      refine items_call b (hA1.mono (by exact Nat.le_add_left _ _)) (hKY.bk.hdr _ hk48) Tr (by rw [Tr.2.1]; exact Nat.le_trans (hKY.bk.good.len hk48) (by decide)) fun li i1 i2 => ?_
      replace i1 : Y1 li = none := i1
      refine i_list upd_same fun I2 i3 i4 i5 => ?_
      replace i3 : upd Y1 li (.lst (refs.map .ref)) I2 = none := i3
      have nL2 : I2 ≠ L + 1 := by rintro z; rw [z, upd_old i1 z2'] at i3; cases i3
      have nJ2 : I2 ≠ J := by rintro z; rw [z, upd_old i1 z1'] at i3; cases i3
      have kI : Sub Y1 (upd (upd Y1 li (.lst (refs.map .ref))) I2 (itL li 0)) := (Sub.new i1).trans (Sub.new i3)
      have hI2H : ∀ a j, H a = some j → a ≠ I2 := fun a j e z => by rw [z] at e; rw [Sub.new i1 _ _ (z4' _ _ e)] at i3; cases i3
      have lI : upd (upd Y1 li (.lst (refs.map .ref))) I2 (itL li 0) li = some (.lst (refs.map .ref)) := upd_old i3 upd_same
      have c1' := kI _ _ z2'
      have p1' := z3'.mono kI
      have h1' := z4'.trans kI
      have j1' := kI _ _ z1'
      have iI : upd (upd Y1 li (.lst (refs.map .ref))) I2 (itL li 0) I2 = some (itL li 0) := upd_same
      have nli : ∀ a j, H a = some j → a ≠ li := fun a j e z => by rw [z] at e; rw [z4' _ _ e] at i1; cases i1
      generalize upd (upd Y1 li (.lst (refs.map .ref))) I2 (itL li 0) = Y2 at *
      refine code_for (n := (refs.map Value.ref).length) (iter_list hA1.hand (refs.map .ref) i5) (pgI3 w H bk lh pg J L xp x0 x1 m T k tk tv I2 li refs) ?_ ?_ ?_ ?_ ?_
      · rintro i y ⟨hv, gv, X, rfl, w1, w2, _⟩
        exact ⟨w1, w2⟩
      · intro i v hv
        obtain ⟨r, _, rfl⟩ := List.mem_map.mp (List.mem_of_getElem? hv)
        exact ⟨r, rfl⟩
      · rintro i v us X0' hi hv' ⟨hv3, gv3, X3, hz, w1, w2, w3, w4, w5, w6⟩
        cases hz
        rw [List.getElem?_map] at hv'
        obtain ⟨e0, hr, rfl⟩ := Option.map_eq_some_iff.mp hv'
        have hit : i < (T (48 + k)).length := by rw [← Tr.2.1]; exact (List.getElem?_eq_some_iff.mp hr).1
        obtain ⟨t8, t9, hrt⟩ := Tr0.2.2 i e0 (T (48 + k))[i] hr (List.getElem?_eq_getElem hit)
        have hput := pg0K_take (f := pg0 T k) (k := k) hit
        have hkey := hk _ hk48 _ (List.getElem_mem hit)
        have hgrp := hg k hk4 _ (List.getElem_mem hit)
        generalize (T (48 + k))[i] = e at *
        obtain ⟨j, hj, hej⟩ : ∃ j, j < m ∧ e.1 = 97 + j := ⟨e.1 - 97, by omega, by exact Eq.symm (Nat.add_sub_of_le hkey.1)⟩
        rw [hej] at hrt hput
        have nl2 : I2 ≠ li := by rintro z; rw [z, w2] at w1; cases w1
        have w1' : upd X0' I2 (itL li (i + 1)) I2 = some (itL li (i + 1)) := upd_same
        have w2' : upd X0' I2 (itL li (i + 1)) li = some (.lst (refs.map .ref)) := (upd_ne (Ne.symm nl2)).trans w2
        have w3' := (upd_ne (i := itL li (i + 1)) (Ne.symm nJ2)).trans w3
        have w4' := (upd_ne (i := itL li (i + 1)) (Ne.symm nL2)).trans w4
        have w5' : Pages w (upd X0' I2 (itL li (i + 1))) pg xp x0 x1 m _ _ := w5.keep (fk w1 foreign_itL) fun a j e n => (upd_ne n).trans e
        have w6' : Sub H (upd X0' I2 (itL li (i + 1))) := fun a j e => (upd_ne (hI2H a j e)).trans (w6 _ _ e)
        generalize upd X0' I2 (itL li (i + 1)) = X4 at *
        refine t_tuple2 hA1.hand f 2 4 rfl rfl (Nat.le_of_ble_eq_true rfl) (Nat.le_of_ble_eq_true rfl) (w6' _ _ hrt) ?_
        refine x_cons (x_if (t_cmp (f_local f 2 rfl rfl (f_cell f eP w4' (c_notin b w5'.d (t_bool ?_))))))
        rw [kvsP_at hj, if_neg (by simp)]
        refine x_nil ?_
        refine x_cons (x_augsub ?_)
        refine e_sub (e_sub (f_cell f eP w4' (f_local f 2 rfl rfl (tl_dict w5'.d (kvsP_at hj) ?_))))
        refine e_int fun ta => tl_list (w5'.p j hj) (by decide) (by decide) rfl ?_
        refine e_bin (e_bin (e_int fun tb => f_local f 3 rfl rfl (b_mul (.of_left (intBits_le_64 (by decide) (by decide))) fun tc => ?_)))
        refine e_meth rfl (e_str fun td => m_index ?_)
        refine c_with rfl (a_pos (s_cons (f_local f 4 rfl rfl (s_nil ⟨Keep.builtin, ?_⟩))))
        refine b_index hgrp fun te => b_add fun tf => ?_
        rw [show ((4 : Int) * (k : Int) + (gi e.2 : Int)) = ((4 * k + gi e.2 : Nat) : Int) from by rfl]
        have hc16 : 4 * k + gi e.2 < 16 := by have := gi_lt hgrp; omega
        generalize 4 * k + gi e.2 = cc at *
        obtain ⟨us, hus, gus⟩ := w5'.a j hj
        have l16 := len16_0K (len16_0 T k) k ((T (48 + k)).take i) (97 + j)
        have lus : us.length = 16 := (ints_len gus).trans l16
        obtain ⟨tz, htz⟩ := ints_at gus cc ((pg0K (pg0 T k) k ((T (48 + k)).take i) (97 + j)).getD cc 0) (by rw [List.getD_eq_getElem?_getD, List.getElem?_eq_getElem (by rw [l16]; exact hc16)]; rfl)
        refine gi_list hus (by exact Int.natCast_nonneg _) (by omega) (by simpa using htz) ?_
        refine e_int fun tg => i_add fun th => si_list hus (by exact Int.natCast_nonneg _) (by omega) (by simp; (rw [lus]; exact hc16)) ?_
        rw [show ((cc : Nat) : Int).toNat = cc from by simp]
        have P5 := w5'.put0 (t := th) (c := cc) hj hus gus
        rw [← hput] at P5
        have hx0 : ∀ a q, H a = some q → a ≠ x0 j := fun a q e z => by rw [z, (y5 j hj).1] at e; cases e
        refine x_nil ⟨_, ⟨_, _, _, rfl, (upd_ne ?_).trans w1', (upd_ne ?_).trans w2', (upd_ne ?_).trans w3', (upd_ne ?_).trans w4', P5, fun a q e => (upd_ne (hx0 a q e)).trans (w6' _ _ e)⟩, Sub.refl⟩
        · rintro z; rw [z, hus] at w1'; exact foreign_itL.l _ (Option.some.inj w1').symm
        · rintro z
          obtain ⟨u6, e6, _⟩ := z3'.a j hj
          rw [← z, i1] at e6; cases e6
        · rintro z; rw [z, hus] at w3'; exact foreign_itR.l _ (Option.some.inj w3').symm
        · rintro z; rw [z, hus] at w4'; exact foreign_cel.l _ (Option.some.inj w4').symm
      · rintro us X0' ⟨hv3, gv3, X3, hz, w1, w2, w3, w4, w5, w6⟩
        cases hz
        refine ⟨_, rfl, ?_⟩
        rw [show (refs.map Value.ref).length = (T (48 + k)).length from by rw [List.length_map, Tr0.2.1], List.take_length] at w5
        have w3' : era X0' I2 J = some (itR (0 + ((k + 1 : Nat) : Int) * 1) (((4 : Nat) : Int) - ((k + 1 : Nat) : Int)) 1) := (era_ne (Ne.symm nJ2)).trans w3
        have w4' : era X0' I2 (L + 1) = some (cel (some (.ref pg))) := (era_ne (Ne.symm nL2)).trans w4
        have w5' : Pages w (era X0' I2) pg xp x0 x1 m (pg0 T (k + 1)) (pg1 T k) := w5.keep (fk w1 foreign_itL) fun a j e n => (era_ne n).trans e
        have w6' : Sub H (era X0' I2) := fun a j e => by unfold era; rw [if_neg (hI2H a j e)]; exact w6 _ _ e
        generalize era X0' I2 = Z2 at *
        have hkg : grpC.getD k 0 ∈ persC := grpP hk4
        have hgc : grpC.getD k 0 ∈ grpC := grpG hk4
        have hgat : (⟨#[46, 97, 98, 99]⟩ : Str).cps[k]? = some (grpC.getD k 0) := grpAt hk4
        have htt := ht _ hgc
        have hst : pg1 T (k + 1) = pg1K (pg1 T k) k (T (grpC.getD k 0)) := rfl
        generalize grpC.getD k 0 = gg at *
        refine x_cons (x_for ?_)
        have hKZ : BkF w Z2 bk xs lxs T := K.mono w6'
        refine e_meth rfl (e_sub (f_local f 0 rfl rfl ?_))
        refine e_sub (e_str fun t17 => f_local f 3 rfl rfl (tl_str (by exact Nat.le_trans (Nat.le_of_lt hk4) (Nat.le_add_left _ _)) hgat fun t18 => tl_books hKZ.bk hkg ?_))
        obtain ⟨refs2, Tg0⟩ := K.bk.tab _ hkg
        have Tg := Tg0.mono w6'
        refine g_meth b (hKZ.bk.hdr _ hkg) (f := 175) (by kernel_rfl) (by kernel_rfl) (by decide +kernel) ?_
        refine c_with rfl (a_nil ⟨Keep.fn b (by kernel_rfl), ?_⟩)
        refine items_call b (hA1.mono (by exact Nat.le_add_left _ _)) (hKZ.bk.hdr _ hkg) Tg (by rw [Tg.2.1]; exact Nat.le_trans (hKZ.bk.good.len hkg) (by decide)) fun lj v1 v2 => ?_
        replace v1 : Z2 lj = none := v1
        refine i_list upd_same fun I3 v3 v4 v5 => ?_
        replace v3 : upd Z2 lj (.lst (refs2.map .ref)) I3 = none := v3
        have nlx : ∀ j, j < m → lj ≠ x1 j := fun j hj z => by
          obtain ⟨u6, e6, _⟩ := w5'.b j hj
          rw [← z, v1] at e6; cases e6
        have nL3 : I3 ≠ L + 1 := by rintro z; rw [z, upd_old v1 w4'] at v3; cases v3
        have nJ3 : I3 ≠ J := by rintro z; rw [z, upd_old v1 w3'] at v3; cases v3
        have kV : Sub Z2 (upd (upd Z2 lj (.lst (refs2.map .ref))) I3 (itL lj 0)) := (Sub.new v1).trans (Sub.new v3)
        have hI3H : ∀ a j, H a = some j → a ≠ I3 := fun a j e z => by rw [z] at e; rw [Sub.new v1 _ _ (w6' _ _ e)] at v3; cases v3
        have lV : upd (upd Z2 lj (.lst (refs2.map .ref))) I3 (itL lj 0) lj = some (.lst (refs2.map .ref)) := upd_old v3 upd_same
        have c3' := kV _ _ w4'
        have p3' := w5'.mono kV
        have h3' := w6'.trans kV
        have j3' := kV _ _ w3'
        have iV : upd (upd Z2 lj (.lst (refs2.map .ref))) I3 (itL lj 0) I3 = some (itL lj 0) := upd_same
        generalize upd (upd Z2 lj (.lst (refs2.map .ref))) I3 (itL lj 0) = Z3 at *
        refine code_for (n := (refs2.map Value.ref).length) (iter_list hA1.hand (refs2.map .ref) v5) (pgI4 w H bk lh pg J L xp x0 x1 m T k tk gg I3 lj refs2) ?_ ?_ ?_ ?_ ?_
        · rintro i y ⟨hv, gv, tv, X, rfl, w1, w2, _⟩
          exact ⟨w1, w2⟩
        · intro i v hv
          obtain ⟨r, _, rfl⟩ := List.mem_map.mp (List.mem_of_getElem? hv)
          exact ⟨r, rfl⟩
        · rintro i v us X0' hi hv' ⟨hv3, gv3, tv3, X3, hz, w1, w2, w3, w4, w5, w6⟩
          cases hz
          rw [List.getElem?_map] at hv'
          obtain ⟨e0, hr, rfl⟩ := Option.map_eq_some_iff.mp hv'
          have hit : i < (T gg).length := by rw [← Tg.2.1]; exact (List.getElem?_eq_some_iff.mp hr).1
          obtain ⟨t8, t9, hrt⟩ := Tg0.2.2 i e0 (T gg)[i] hr (List.getElem?_eq_getElem hit)
          have hput := pg1K_take (f := pg1 T k) (k := k) hit
          have hkey := hk _ hkg _ (List.getElem_mem hit)
          have hgrp := htt _ (List.getElem_mem hit)
          generalize (T gg)[i] = e at *
          obtain ⟨j, hj, hej⟩ : ∃ j, j < m ∧ e.1 = 97 + j := ⟨e.1 - 97, by omega, by exact Eq.symm (Nat.add_sub_of_le hkey.1)⟩
          obtain ⟨o, ho, heo⟩ : ∃ o, o < 4 ∧ e.2 = 48 + o := ⟨e.2 - 48, by omega, by exact Eq.symm (Nat.add_sub_of_le hgrp.1)⟩
          rw [heo] at hrt hput
          rw [hej] at hrt hput
          rw [show 48 + o - 48 = o from by exact Nat.add_sub_cancel_left _ _] at hput
          have w1' : upd X0' I3 (itL lj (i + 1)) I3 = some (itL lj (i + 1)) := upd_same
          have nl3 : I3 ≠ lj := by rintro z; rw [z, w2] at w1; cases w1
          have w2' : upd X0' I3 (itL lj (i + 1)) lj = some (.lst (refs2.map .ref)) := (upd_ne (Ne.symm nl3)).trans w2
          have w3' := (upd_ne (i := itL lj (i + 1)) (Ne.symm nJ3)).trans w3
          have w4' := (upd_ne (i := itL lj (i + 1)) (Ne.symm nL3)).trans w4
          have w5' : Pages w (upd X0' I3 (itL lj (i + 1))) pg xp x0 x1 m _ _ := w5.keep (fk w1 foreign_itL) fun a j e n => (upd_ne n).trans e
          have w6' : Sub H (upd X0' I3 (itL lj (i + 1))) := fun a j e => (upd_ne (hI3H a j e)).trans (w6 _ _ e)
          generalize upd X0' I3 (itL lj (i + 1)) = X4 at *
          refine t_tuple2 hA1.hand f 2 5 rfl rfl (Nat.le_of_ble_eq_true rfl) (Nat.le_of_ble_eq_true rfl) (w6' _ _ hrt) ?_
          refine x_cons (x_if (t_cmp (f_local f 2 rfl rfl (f_cell f eP w4' (c_notin b w5'.d (t_bool ?_))))))
          rw [kvsP_at hj, if_neg (by simp)]
          refine x_nil ?_
          refine x_cons (x_augsub ?_)
          refine e_sub (e_sub (f_cell f eP w4' (f_local f 2 rfl rfl (tl_dict w5'.d (kvsP_at hj) ?_))))
          refine e_int fun ta => tl_list (w5'.p j hj) (by decide) (by decide) rfl ?_
          refine e_bin (e_bin (e_int fun tb => ?_))
          refine e_call (f_builtin (v := .type "int") b f (by kernel_rfl) (by kernel_rfl) (by decide) (by rw [hsc]; rfl) (by decide +kernel) ?_)
          refine c_with rfl (a_pos (s_cons (f_local f 5 rfl rfl (s_nil ⟨Keep.type, ?_⟩))))
          refine b_intc ho fun te => b_mul (.of_left (intBits_le_64 (by decide) (by decide))) fun tc => f_local f 3 rfl rfl (b_add fun tf => ?_)
          rw [show ((4 : Int) * (o : Int) + (k : Int)) = ((4 * o + k : Nat) : Int) from by rfl]
          have hc16 : 4 * o + k < 16 := by omega
          generalize 4 * o + k = cc at *
          obtain ⟨us, hus, gus⟩ := w5'.b j hj
          have l16 := len16_1K (len16_1 T k) k ((T gg).take i) (97 + j)
          have lus : us.length = 16 := (ints_len gus).trans l16
          obtain ⟨tz, htz⟩ := ints_at gus cc ((pg1K (pg1 T k) k ((T gg).take i) (97 + j)).getD cc 0) (by rw [List.getD_eq_getElem?_getD, List.getElem?_eq_getElem (by rw [l16]; exact hc16)]; rfl)
          refine gi_list hus (by exact Int.natCast_nonneg _) (by omega) (by simpa using htz) ?_
          refine e_int fun tg => i_add fun th => si_list hus (by exact Int.natCast_nonneg _) (by omega) (by simp; (rw [lus]; exact hc16)) ?_
          rw [show ((cc : Nat) : Int).toNat = cc from by simp]
          have P5 := w5'.put1 (t := th) (c := cc) hj hus gus
          rw [← hput] at P5
          have hx0 : ∀ a q, H a = some q → a ≠ x1 j := fun a q e z => by rw [z, (y5 j hj).2] at e; cases e
          refine x_nil ⟨_, ⟨_, _, _, _, rfl, (upd_ne ?_).trans w1', (upd_ne ?_).trans w2', (upd_ne ?_).trans w3', (upd_ne ?_).trans w4', P5, fun a q e => (upd_ne (hx0 a q e)).trans (w6' _ _ e)⟩, Sub.refl⟩
          · rintro z; rw [z, hus] at w1'; exact foreign_itL.l _ (Option.some.inj w1').symm
          · rintro z
            exact nlx j hj z
          · rintro z; rw [z, hus] at w3'; exact foreign_itR.l _ (Option.some.inj w3').symm
          · rintro z; rw [z, hus] at w4'; exact foreign_cel.l _ (Option.some.inj w4').symm
        · rintro us X0' ⟨hv3, gv3, tv3, X3, hz, w1, w2, w3, w4, w5, w6⟩
          cases hz
          refine ⟨_, rfl, ?_⟩
          rw [show (refs2.map Value.ref).length = (T gg).length from by rw [List.length_map, Tg0.2.1], List.take_length, ← hst] at w5
          refine x_nil ⟨_, ⟨_, _, _, _, era X0' I3, rfl, ?_, ?_, ?_, ?_⟩, Sub.refl⟩
          · unfold era; rw [if_neg (Ne.symm nJ3)]; exact w3
          · unfold era; rw [if_neg (Ne.symm nL3)]; exact w4
          · exact w5.keep (fk w1 foreign_itL) fun a j e n => by show era X0' I3 a = _; unfold era; rw [if_neg n]; exact e
          · intro a j e; show era X0' I3 a = _; unfold era; rw [if_neg (hI3H a j e)]; exact w6 _ _ e
        · exact ⟨_, _, _, _, rfl, iV, lV, j3', c3', p3', h3'⟩
      · exact ⟨_, gv, _, rfl, iI, lI, j1', c1', p1', h1'⟩
    · rintro us X0 ⟨hv2, kv, gv, tw, X, hz, z1, z2, z3, z4⟩
      cases hz
      refine ⟨_, rfl, ?_⟩
      have nJ : J ≠ L + 1 := by
        have e2 : upd Z r (rngI 0 4) (L + 1) = some (cel (some (.ref pg))) := Sub.new p1 _ _ y2'
        rintro z; rw [z, e2] at p3; cases p3
      have z2' : era X0 J (L + 1) = some (cel (some (.ref pg))) := (era_ne (Ne.symm nJ)).trans z2
      have z3' : Pages w (era X0 J) pg xp x0 x1 m (pg0 T 4) (pg1 T 4) := z3.keep (fk z1 foreign_itR) fun a j e n => (era_ne n).trans e
      have z4' : Sub H (era X0 J) := fun a j e => by unfold era; rw [if_neg (by first | exact nn e (hJH) | exact Ne.symm (nn e (hJH)) | exact nn (hJH) e | exact Ne.symm (nn (hJH) e) | (rintro rfl; rw [hJH] at e; cases e))]; exact z4 _ _ e
      generalize era X0 J = Z2 at *
      refine x_cons (x_return ?_)
      refine e_comp (cns := [⟨#[104, 111, 117, 114]⟩]) (cl := [(ssPages, L + 1)]) f (by unfold closureFor cellOf; rw [hcl]; rfl) ?_ rfl ?_ ?_ ?_
      · decide +kernel
      · decide +kernel
      · exact ⟨rfl, by decide +kernel, by intro y hy; simp at hy; subst hy; rfl, by decide +kernel⟩
      refine f_local f 1 rfl rfl ?_
      refine i_list (z4' _ _ hh) fun I4 hI4 hBI4 hIl4 => ?_
      refine ⟨I4, _, Z2, hv.length, fun i v => hv[i]? = some v, itL lh, fun H => H lh = some (.lst hv), fun i ys => ys = (List.range i).map (fun i => .ref (xp i)), rfl, rfl, hI4, ?_⟩
      refine ⟨fun C => iter_list hA1.hand hv hIl4, fun X k => k _ _ (z4' _ _ hh), fun i ys h => ?_, ?_, fun _ _ _ => trivial, rfl, ?_, ?_⟩
      · rw [h, List.length_map, List.length_range]; exact Nat.le_refl _
      · rw [hlen]; show m ≤ 16777216; (exact Nat.le_trans hm (Nat.le_add_left _ _))
      · intro D C hD hBD hDI hL hLD hLI fc i v ys cvs hi hv' hJ hcv
        match cvs, hcv with
        | [u0], _ =>
        have him : i < m := hlen ▸ hi
        obtain ⟨tv, htv⟩ := hc.2 i (97 + i) (by rw [List.getElem?_map, List.getElem?_range him]; rfl)
        have ev : v = .str ⟨#[97 + i]⟩ tv := by rw [htv] at hv'; exact (Option.some.inj hv').symm
        subst ev
        refine t_name fc 0 rfl (Nat.le_of_ble_eq_true rfl) (tests_nil ?_)
        rw [if_pos rfl]
        have c1 := hc_old (j := .loc nsPg [some (.ref bk), some (.ref lh), hv2, kv, gv, tw]) (itm := itL lh) (k := i + 1) (ys := ys) z2' hD hI4 hL
        have d1 := hc_old (j := .loc nsPg [some (.ref bk), some (.ref lh), hv2, kv, gv, tw]) (itm := itL lh) (k := i + 1) (ys := ys) z3'.d hD hI4 hL
        refine e_sub (f_cell fc (.comp rfl rfl) c1 (f_local fc 0 rfl rfl (tl_dict d1 (kvsP_at him) ?_)))
        refine ⟨?_, rfl, Sub.refl⟩
        rw [hJ, List.range_succ, List.map_append]; rfl
      · intro D ys hD hBD hJ
        rw [hlen] at hJ
        exact q D pg xp x0 x1 ys _ upd_same hJ (z3'.mono (Sub.new hD)) (z4'.trans (Sub.new hD))
    · exact ⟨ov, none, none, none, _, rfl, hJ1, kZ _ _ y2', y3'.mono kZ, y4'.trans kZ⟩
  · exact ⟨_, _, _, none, _, rfl, upd_same, upd_old hI c0, P0.mono (Sub.new hI), k0.trans (Sub.new hI), fun j hj => absurd hj (Nat.not_lt_zero _)⟩
end
end Mine
end
/-! part R6 -/
section
open PySem PySem.Sre
set_option maxRecDepth 100000
set_option maxHeartbeats 4000000
set_option linter.unusedVariables false
namespace Mine
def crlf : List Nat → List Nat
  | [] => []
  | [c] => if c = 13 ∨ c = 10 then [13, 10] else [c]
  | c :: d :: r => if c = 13 then (if d = 10 then 13 :: 10 :: crlf r else 13 :: 10 :: crlf (d :: r)) else if c = 10 then 13 :: 10 :: crlf (d :: r) else c :: crlf (d :: r)
def dots : Bool → List Nat → List Nat
  | _, [] => []
  | b, c :: r => (if b = true ∧ c = 46 then [46, 46] else [c]) ++ dots (c == 10) r
theorem skip {C : Nat → List Nat} {T : List Nat} : ∀ (k d p : Nat), p = d + k → p ≤ T.length → (∀ q, d ≤ q → q < p → C q = T.getD q 0 :: C (q + 1)) → C d = (T.drop d).take (p - d) ++ C p
  | 0, d, p, e, hp, h => by rw [show p - d = 0 from by (rw [e]; exact (Nat.add_sub_cancel_left _ _)), e]; rfl
  | k + 1, d, p, e, hp, h => by
    have h1 := skip (C := C) k (d + 1) p (by omega) hp fun q a b => h q (by exact Nat.le_of_succ_le a) b
    rw [h d (Nat.le_refl _) (by (rw [e]; exact (Nat.lt_add_of_pos_right (Nat.zero_lt_succ _)))), h1, show p - d = (p - (d + 1)) + 1 from by exact nm7 e, List.drop_eq_getElem_cons (show d < T.length by omega), List.take_succ_cons]
    rw [List.getD_eq_getElem?_getD, List.getElem?_eq_getElem (show d < T.length by omega)]
    rfl
section
variable {x : Str}
theorem arr_get (t : Array Nat) (p : Nat) : t.getD p 0 = t.toList.getD p 0 := by
  simp [Array.getD_eq_getD_getElem?, List.getD_eq_getElem?_getD]
theorem drop_cons {T : List Nat} {d : Nat} (h : d < T.length) : T.drop d = T.getD d 0 :: T.drop (d + 1) := by
  rw [List.drop_eq_getElem_cons h, List.getD_eq_getElem?_getD, List.getElem?_eq_getElem h]; rfl
theorem crlf_no {c : Nat} {r : List Nat} (h : ¬(c = 10 ∨ c = 13)) : crlf (c :: r) = c :: crlf r := by
  cases r with
  | nil => unfold crlf; rw [if_neg (fun z => h z.symm)]
  | cons d r => 
    rw [crlf, if_neg (fun z => h (.inr z)), if_neg (fun z => h (.inl z))]
theorem crlf_at (T : List Nat) (d : Nat) (hd : d < T.length) (h : T.getD d 0 = 10 ∨ T.getD d 0 = 13) : crlf (T.drop d) = 13 :: 10 :: crlf (T.drop (d + if T.getD d 0 = 13 ∧ d + 1 < T.length ∧ T.getD (d + 1) 0 = 10 then 2 else 1)) := by
  rw [drop_cons hd]
  by_cases h2 : d + 1 < T.length
  · rw [drop_cons h2]
    by_cases h3 : T.getD d 0 = 13
    · by_cases h4 : T.getD (d + 1) 0 = 10
      · rw [if_pos ⟨h3, h2, h4⟩, crlf, if_pos h3, if_pos h4]
      · rw [if_neg (fun z => h4 z.2.2), crlf, if_pos h3, if_neg h4, ← drop_cons h2]
    · rw [if_neg (fun z => h3 z.1), crlf, if_neg h3, if_pos (h.resolve_right h3), ← drop_cons h2]
  · rw [if_neg (fun z => h2 z.2.1), List.drop_of_length_le (by exact Nat.le_of_not_lt h2)]
    show (if _ then _ else _) = _
    rw [if_pos h.symm]; rfl
theorem wid_le {t : Array Nat} {L p : Nat} (h : brk t L p) : 1 ≤ wid t L p ∧ p + wid t L p ≤ L := by
  have := h.1
  unfold wid
  by_cases c : t.getD p 0 = 13 ∧ p + 1 < L ∧ t.getD (p + 1) 0 = 10
  · rw [if_pos c]; have := c.2.1; omega
  · rw [if_neg c]; omega
theorem next2 : NextIs code2 x [13, 10] (fun d => crlf (x.cps.toList.drop d)) 30 := fun d hd mu => by
  have st : ∀ q, q < x.cps.size → ¬brk x.cps x.cps.size q → crlf (x.cps.toList.drop q) = x.cps.toList.getD q 0 :: crlf (x.cps.toList.drop (q + 1)) := fun q hq h => by
    rw [drop_cons (by simpa using hq), crlf_no (fun z => h ⟨hq, by rw [arr_get]; exact z⟩)]
  refine search2 hd (fun p h1 h2 h3 m m1 m2 m3 => .inr ⟨m1, by (rw [m2]; exact h1), ?_, ?_, ?_⟩) fun h m m1 => .inl ⟨m1, ?_⟩
  · rw [m2, m3]; have := (wid_le h2).1; (exact Nat.lt_add_of_pos_right (Nat.lt_of_succ_le this))
  · rw [m3]; exact (wid_le h2).2
  · rw [m2, m3]
    show crlf _ = _
    rw [skip (C := fun d => crlf (x.cps.toList.drop d)) (T := x.cps.toList) (p - d) d p (by exact Eq.symm (Nat.add_sub_of_le h1)) (by have := h2.1; simp; (exact Nat.le_of_lt this)) fun q a b => st q (by have := h2.1; (exact Nat.lt_trans b this)) (h3 q a b)]
    rw [List.append_assoc]
    congr 1
    show crlf _ = _
    rw [crlf_at _ p (by have := h2.1; simpa using this) (by rw [← arr_get]; exact h2.2)]
    simp only [wid, arr_get, Array.length_toList]
    rfl
  · show crlf _ = _
    rw [skip (C := fun d => crlf (x.cps.toList.drop d)) (T := x.cps.toList) (x.cps.size - d) d x.cps.size (by exact Eq.symm (Nat.add_sub_of_le hd)) (by simp) fun q a b => st q b (h q a)]
    have : crlf (x.cps.toList.drop x.cps.size) = [] := by rw [List.drop_of_length_le (by simp)]; rfl
    show _ ++ crlf _ = _
    rw [this, List.append_nil, List.take_of_length_le (by simp)]
theorem next1 : NextIs code1 x [46, 46] (fun d => dots (d == 0 || x.cps.toList.getD (d - 1) 0 == 10) (x.cps.toList.drop d)) (4 * x.cps.size + 8) := fun d hd mu => by
  have ev : ∀ q, ((q == 0 || x.cps.toList.getD (q - 1) 0 == 10) = true ∧ x.cps.toList.getD q 0 = 46) ↔ ((q = 0 ∨ x.cps.getD (q - 1) 0 = 10) ∧ x.cps.getD q 0 = 46) := fun q => by
    rw [arr_get, arr_get]; simp
  have st : ∀ q, q < x.cps.size → ¬dot1 x.cps x.cps.size q → dots (q == 0 || x.cps.toList.getD (q - 1) 0 == 10) (x.cps.toList.drop q) = x.cps.toList.getD q 0 :: dots (q + 1 == 0 || x.cps.toList.getD (q + 1 - 1) 0 == 10) (x.cps.toList.drop (q + 1)) := fun q hq h => by
    rw [drop_cons (by simpa using hq), dots, if_neg (fun z => h (by have := (ev q).mp z; exact ⟨this.1, hq, this.2⟩))]
    rw [show (q + 1 == 0) = false from rfl, Nat.add_sub_cancel]; rfl
  refine search1 hd (fun p h1 h2 h3 m m1 m2 m3 => .inr ⟨m1, by (rw [m2]; exact h1), by (rw [m3]; exact (Nat.lt_succ_of_le (Nat.le_of_eq m2))), by have := h2.2.1; (exact Nat.le_trans (Nat.le_of_eq m3) (Nat.succ_le_of_lt this)), ?_⟩) fun h m m1 => .inl ⟨m1, ?_⟩
  · rw [m2, m3]
    dsimp only
    rw [skip (C := fun d => dots (d == 0 || x.cps.toList.getD (d - 1) 0 == 10) (x.cps.toList.drop d)) (T := x.cps.toList) (p - d) d p (by exact Eq.symm (Nat.add_sub_of_le h1)) (by have := h2.2.1; simp; (exact Nat.le_of_lt this)) fun q a b => st q (by have := h2.2.1; (exact Nat.lt_trans b this)) (h3 q a b)]
    rw [List.append_assoc]
    congr 1
    rw [drop_cons (T := x.cps.toList) (d := p) (by have := h2.2.1; simpa using this), dots, if_pos ((ev p).mpr ⟨h2.1, h2.2.2⟩)]
    rw [show (p + 1 == 0) = false from rfl, Nat.add_sub_cancel]; rfl
  · dsimp only
    rw [skip (C := fun d => dots (d == 0 || x.cps.toList.getD (d - 1) 0 == 10) (x.cps.toList.drop d)) (T := x.cps.toList) (x.cps.size - d) d x.cps.size (by exact Eq.symm (Nat.add_sub_of_le hd)) (by simp) fun q a b => st q b (h q a)]
    rw [List.drop_of_length_le (i := x.cps.size) (by simp), dots, List.append_nil, List.take_of_length_le (by simp)]
end
end Mine
end
/-! part R7 -/
section
open PySem PySem.W PySem.Calls PyProof.Rows
set_option maxRecDepth 100000
set_option maxHeartbeats 4000000
set_option linter.unusedVariables false
namespace Mine
theorem crlf_len (l : List Nat) : (crlf l).length ≤ 2 * l.length := by
  fun_induction crlf l <;> simp_all <;> omega
abbrev ssData : Str := ⟨#[100, 97, 116, 97]⟩
section
variable {w : World} {S : Shared} {B : HM} {A : Around} {H H' : HM} {L : Addr} {ns : List Str} {vs : List (Option Value)} {env : Env} {p c : Addr} {cd : Array Nat}
theorem StF.keepAll {h h' : Heap} {x : Fst} (s : StF B L ns x h) (k : ∀ b o, h.get? b = some o → h'.get? b = some o) : StF B L ns x h' := ⟨s.st.keeps k, s.loc.keeps k, s.off, s.offB⟩
theorem pat1 {h : Heap} (X : (KK w.params).In h) : PatAt h 66 65 code1 := by
  have e1 : h.get? 66 = some (hd.zo_86 w.params) := X _ _ (by kernel_rfl)
  have e2 : h.get? 65 = some (hd.zo_85 w.params) := X _ _ (by kernel_rfl)
  exact ⟨⟨_, _, e1, rfl, rfl, rfl, rfl, rfl, rfl⟩, ⟨_, _, _, e2, rfl, by decide +kernel⟩⟩
theorem pat2 {h : Heap} (X : (KK w.params).In h) : PatAt h 71 70 code2 := by
  have e1 : h.get? 71 = some (hd.zo_88 w.params) := X _ _ (by kernel_rfl)
  have e2 : h.get? 70 = some (hd.zo_87 w.params) := X _ _ (by kernel_rfl)
  exact ⟨⟨_, _, e1, rfl, rfl, rfl, rfl, rfl, rfl⟩, ⟨_, _, _, e2, rfl, by decide +kernel⟩⟩
theorem m_patsub {pl : Sem Bool} {Q : Value × List Value → Fst → Prop} (b : BaseOk w B) (P : ∀ h, (KK w.params).In h → PatAt h p c cd) (q : Q (.builtin "re.Pattern.sub", [.ref p]) (vs, H)) : wpG w S (StF B L ns) A (getMethod (.ref p) ⟨#[115, 117, 98]⟩ pl) Q (vs, H) := fun h tk s => by
  obtain ⟨⟨o, fs, e, hc, hd, _⟩, _⟩ := P h (b.kin h s.st.base)
  rw [show (⟨#[115, 117, 98]⟩ : Str) = Str.ofString "sub" from by decide +kernel]
  exact getMethod_builtin (T := "re.Pattern") ⟨o, e, hc⟩ patAttrs slot_patsub type_patsub (fun a e2 => by cases e2; exact ⟨o, e, hd⟩) ⟨h, tk, _, rfl, s, q⟩
theorem b_patsub {x rp : Str} {t tr : Tok} {N : Nat} {G : Nat → List Nat} {Q : Value → Fst → Prop} (b : BaseOk w B) (P : ∀ h, (KK w.params).In h → PatAt h p c cd) (hN : N < 4000) (hx : x.cps.size ≤ 400) (hrp : rp.cps.size ≤ 10) (h92 : rp.cps.contains 92 = false) (hG : NextIs cd x rp.cps.toList G N)
    (q : ∀ t, Q (.str ⟨(G 0).toArray⟩ t) (vs, H)) : wpG w S (StF B L ns) A (call (.builtin "re.Pattern.sub") [.ref p, .str rp tr, .str x t]) Q (vs, H) := fun h tk s =>
  sub_call hN hx hrp h92 hG (P h (b.kin h s.st.base)) fun h' tk' t' k => ⟨h', tk', _, rfl, s.keepAll k, q t'⟩
theorem s_str {σ : Type} {J : σ → Heap → Prop} {x : σ} {d : Sem Value} {y : Str} {k : Nat} {pos : Pos} {rest : List (Bool × Sem Value)} {Q : List Value → σ → Prop} (q : ∀ t, wpG w S J A (spliced rest) (fun vs => Q (.str y t :: vs)) x) : wpG w S J A (spliced ((false, if false = true then d else eval (.Constant (.str y) k pos) env) :: rest)) Q x := s_cons (wpG_mkText fun t => q t)
theorem quotedata_spec {x : Str} {t : Tok} {Q : Result → HM → Prop} (b : BaseOk w B) (hA : Room A 20) (hx : x.cps.size ≤ 100)
    (q : ∀ t, Q (.ok (.ret (.str ⟨(dots true (crlf x.cps.toList)).toArray⟩ t))) H) : codeG w S (St B) A (.call (.ref 78) ⟨[.str x t], []⟩) Q H := by
  refine enter b hA (hd.zo_95 w.params) [.str x t] (by kernel_rfl) rfl (by kernel_rfl) (ns := [ssData]) ⟨rfl, by decide +kernel, by decide +kernel, by decide +kernel⟩ (fun s X => BindsTo.of_eq rfl) (Nat.le_of_ble_eq_true rfl) rfl rfl (by decide +kernel) ?_
  intro A1 L env hA1 f hsc
  refine x_cons (x_return ?_)
  refine e_meth rfl (f_global (v := .ref 66) b f (by kernel_rfl) (by rw [hsc]; rfl) (by decide +kernel) (m_patsub b (fun h X => pat1 X) ?_))
  refine c_with rfl (a_pos (s_str fun t1 => s_cons ?_))
  refine e_meth rfl (f_global (v := .ref 71) b f (by kernel_rfl) (by rw [hsc]; rfl) (by decide +kernel) (m_patsub b (fun h X => pat2 X) ?_))
  refine c_with rfl (a_pos (s_cons (f_global (v := .str ⟨#[13, 10]⟩ 389) b f (by kernel_rfl) (by rw [hsc]; rfl) (by decide +kernel) ?_)))
  refine s_cons (f_local f 0 rfl rfl (s_nil ⟨Keep.builtin, ?_⟩))
  refine b_patsub b (fun h X => pat2 X) (by decide) (by exact Nat.le_trans hx (Nat.le_add_left _ _)) (by decide) (by decide +kernel) next2 fun t2 => s_nil ⟨Keep.builtin, ?_⟩
  have hl : (crlf (x.cps.toList.drop 0)).toArray.size ≤ 400 := by
    have := crlf_len (x.cps.toList.drop 0)
    simp at this ⊢; omega
  refine b_patsub b (fun h X => pat1 X) (Nat.lt_of_le_of_lt (Nat.add_le_add_right (Nat.mul_le_mul_left 4 hl) 8) (by decide)) hl (by decide) (by decide +kernel) next1 fun t3 => ?_
  exact q t3
end
end Mine
end
/-! part R8 -/
section
open PySem PySem.Builtin PySem.Builtin.Str PySem.StrLaws
set_option maxRecDepth 100000
set_option maxHeartbeats 4000000
set_option linter.unusedVariables false
namespace Mine
def NoBr (l : List Nat) : Prop := ∀ c ∈ l, c ≠ 13 ∧ c ≠ 10
abbrev sCr : Str := ⟨#[13, 10]⟩
theorem subAt_at {T : List Nat} {i : Nat} : subAt ⟨T.toArray⟩ sCr i = ((T.drop i).take 2 == [13, 10]) := by
  unfold subAt
  have : (T.toArray.extract i (i + sCr.length)) = ((T.drop i).take 2).toArray := by
    rw [List.extract_toArray]
    show (List.extract T i (i + 2)).toArray = _
    unfold List.extract
    rw [show i + 2 - i = 2 from by exact Nat.add_sub_cancel_left _ _]
  rw [this]
  show (((T.drop i).take 2).toArray == [13, 10].toArray) = _
  rw [Bool.eq_iff_iff, beq_iff_eq, beq_iff_eq]
  constructor
  · intro h; exact congrArg Array.toList h
  · intro h; rw [h]
def flatR (rows : List (List Nat)) : List Nat := (rows.map (· ++ [13, 10])).flatten
def cutsFrom : Nat → List (List Nat) → List Nat
  | _, [] => []
  | p, r :: rs => (p + r.length) :: cutsFrom (p + r.length + 2) rs
def goO (T : List Nat) (l : List Nat) (st : Array Nat × Nat) : List Nat := (forIn (m := Id) l st (occBody ⟨T.toArray⟩ sCr T.length (T.length + 1))).run.fst.toList
theorem go_nil {T : List Nat} {st : Array Nat × Nat} : goO T [] st = st.fst.toList := rfl
theorem go_no {T : List Nat} {i free : Nat} {l : List Nat} {found : Array Nat} (h : ¬(free ≤ i ∧ i + 2 ≤ T.length ∧ (T.drop i).take 2 = [13, 10])) : goO T (i :: l) (found, free) = goO T l (found, free) := by
  unfold goO
  rw [List.forIn_cons]
  have : occBody ⟨T.toArray⟩ sCr T.length (T.length + 1) i (found, free) = pure (.yield (found, free)) := by
    unfold occBody
    rw [if_neg]
    rintro ⟨⟨⟨a, b⟩, c⟩, d⟩
    rw [subAt_at, beq_iff_eq] at d
    exact h ⟨b, c, d⟩
  rw [this]; rfl
theorem go_yes {T : List Nat} {i free : Nat} {l : List Nat} {found : Array Nat} (h1 : free ≤ i) (h2 : i + 2 ≤ T.length) (h3 : (T.drop i).take 2 = [13, 10]) (h4 : found.size ≤ i) : goO T (i :: l) (found, free) = goO T l (found.push i, i + 2) := by
  unfold goO
  rw [List.forIn_cons]
  have : occBody ⟨T.toArray⟩ sCr T.length (T.length + 1) i (found, free) = pure (.yield (found.push i, i + 2)) := by
    unfold occBody
    rw [if_pos ⟨⟨⟨by show found.size < _; (exact Nat.lt_of_le_of_lt (Nat.le_add_right_of_le h4) (Nat.lt_succ_of_le h2)), h1⟩, h2⟩, by rw [subAt_at, h3]; rfl⟩]
    rfl
  rw [this]; rfl
theorem row_no {T pre r rest : List Nat} {c : Nat} {free : Nat} (hr : NoBr (c :: r)) (hT : T = pre ++ (c :: r ++ rest)) : ¬(free ≤ pre.length ∧ pre.length + 2 ≤ T.length ∧ (T.drop pre.length).take 2 = [13, 10]) := by
  rintro ⟨_, _, z⟩
  rw [hT, List.drop_left, List.cons_append] at z
  have := congrArg List.head? z
  simp at this
  exact (hr c List.mem_cons_self).1 this
theorem occ_run {T : List Nat} : ∀ (rows : List (List Nat)) (r pre : List Nat) (found : Array Nat) (free k : Nat), NoBr r → (∀ x ∈ rows, NoBr x) → T = pre ++ (r ++ 13 :: 10 :: flatR rows) → free ≤ pre.length → found.size ≤ pre.length → pre.length + k = T.length + 1 →
    goO T (List.range' pre.length k) (found, free) = found.toList ++ (pre.length + r.length) :: cutsFrom (pre.length + r.length + 2) rows := by
  intro rows
  induction rows with
  | nil =>
    intro r
    induction r with
    | nil =>
      intro pre found free k _ _ hT hf hs hk
      have hl : T.length = pre.length + 2 := by rw [hT]; simp [flatR]
      have hd : (T.drop pre.length).take 2 = [13, 10] := by rw [hT]; simp [flatR]
      obtain rfl : k = 3 := by exact Mine.oc0 hk hl
      rw [show List.range' pre.length 3 = [pre.length, pre.length + 1, pre.length + 2] from rfl, go_yes hf (by exact Nat.le_of_eq (Eq.symm hl)) hd hs, go_no (fun z => by exact absurd z.1 (Nat.not_succ_le_self _)), go_no (fun z => by omega), go_nil]
      simp [cutsFrom]
    | cons c r ih =>
      intro pre found free k hr hrs hT hf hs hk
      have hk' : k = (k - 1) + 1 := by
        have : T.length = pre.length + (r.length + 3) := by rw [hT]; simp [flatR]
        (exact Mine.oc1 hk this)
      rw [hk', List.range'_succ, go_no (row_no hr hT)]
      have := ih (pre ++ [c]) found free (k - 1) (fun x hx => hr x (List.mem_cons_of_mem _ hx)) hrs (by rw [hT]; simp) (by simp; (exact Nat.le_succ_of_le hf)) (by simp; (exact Nat.le_succ_of_le hs)) (by simp; (exact Mine.oc4 hk hk'))
      simp only [List.length_append, List.length_cons, List.length_nil, Nat.zero_add] at this
      rw [this]
      simp only [List.length_cons]
      rw [show pre.length + 1 + r.length = pre.length + (r.length + 1) from by simp only [Nat.add_assoc, Nat.add_comm, Nat.add_left_comm]]
  | cons r2 rows ihr =>
    intro r
    induction r with
    | nil =>
      intro pre found free k _ hrs hT hf hs hk
      have hT2 : T = (pre ++ [13, 10]) ++ (r2 ++ 13 :: 10 :: flatR rows) := by rw [hT]; simp [flatR]
      have hl : T.length = pre.length + 2 + (r2.length + 2 + (flatR rows).length) := by rw [hT2]; simp; (simp only [Nat.add_assoc, Nat.add_comm, Nat.add_left_comm])
      have hd : (T.drop pre.length).take 2 = [13, 10] := by rw [hT]; simp
      rw [show k = (k - 2) + 1 + 1 from by exact Mine.oc2 hk hl, List.range'_succ, List.range'_succ, go_yes hf (by (rw [hl]; exact (Nat.le_add_right _ _))) hd hs, go_no (fun z => by exact absurd z.1 (Nat.not_succ_le_self _))]
      have := ihr r2 (pre ++ [13, 10]) (found.push pre.length) (pre.length + 2) (k - 2) (hrs r2 List.mem_cons_self) (fun x hx => hrs x (List.mem_cons_of_mem _ hx)) hT2 (by simp) (by simp; (exact Nat.le_succ_of_le hs)) (by simp; (exact Mine.oc3 hk hl))
      simp only [List.length_append, List.length_cons, List.length_nil, Nat.zero_add] at this
      rw [this]
      simp [cutsFrom]
    | cons c r ih =>
      intro pre found free k hr hrs hT hf hs hk
      have hk' : k = (k - 1) + 1 := by
        have : T.length = pre.length + (r.length + 3 + (flatR (r2 :: rows)).length) := by rw [hT]; simp; (simp only [Nat.add_assoc, Nat.add_comm, Nat.add_left_comm])
        (exact Mine.oc1 hk this)
      rw [hk', List.range'_succ, go_no (row_no hr hT)]
      have := ih (pre ++ [c]) found free (k - 1) (fun x hx => hr x (List.mem_cons_of_mem _ hx)) hrs (by rw [hT]; simp) (by simp; (exact Nat.le_succ_of_le hf)) (by simp; (exact Nat.le_succ_of_le hs)) (by simp; (exact Mine.oc4 hk hk'))
      simp only [List.length_append, List.length_cons, List.length_nil, Nat.zero_add] at this
      rw [this]
      simp only [List.length_cons]
      rw [show pre.length + 1 + r.length = pre.length + (r.length + 1) from by simp only [Nat.add_assoc, Nat.add_comm, Nat.add_left_comm]]
theorem occ_cuts {r : List Nat} {rows : List (List Nat)} (hr : NoBr r) (hrs : ∀ x ∈ rows, NoBr x) : occurrences ⟨(flatR (r :: rows)).toArray⟩ sCr 0 (flatR (r :: rows)).length ((flatR (r :: rows)).length + 1) = cutsFrom 0 (r :: rows) := by
  rw [occ_eq]
  have := occ_run (T := flatR (r :: rows)) rows r [] #[] 0 ((flatR (r :: rows)).length + 1) hr hrs (by simp [flatR]) (Nat.le_refl _) (Nat.zero_le _) (by simp)
  simp only [List.length_nil, Nat.zero_add, List.nil_append] at this
  exact this.trans (by simp [cutsFrom])
theorem strSub_mid {a r b : List Nat} {i j : Nat} (hi : i = a.length) (hj : j = a.length + r.length) : strSub ⟨(a ++ (r ++ b)).toArray⟩ i j = ⟨r.toArray⟩ := by
  unfold strSub
  rw [List.extract_toArray]
  subst hi hj
  unfold List.extract
  simp
theorem parts4 (r0 r1 r2 r3 : List Nat) : partsBetween ⟨(flatR [r0, r1, r2, r3]).toArray⟩ (cutsFrom 0 [r0, r1, r2, r3]) 2 = [⟨r0.toArray⟩, ⟨r1.toArray⟩, ⟨r2.toArray⟩, ⟨r3.toArray⟩, ⟨#[]⟩] := by
  have e : flatR [r0, r1, r2, r3] = r0 ++ 13 :: 10 :: (r1 ++ 13 :: 10 :: (r2 ++ 13 :: 10 :: (r3 ++ [13, 10]))) := by simp [flatR]
  have hl : (⟨(flatR [r0, r1, r2, r3]).toArray⟩ : Str).length = (r0.length + 2 + r1.length + 2 + r2.length + 2 + r3.length + 2) := by
    show (flatR [r0, r1, r2, r3]).toArray.size = _
    rw [List.size_toArray, e]; simp; (simp only [Nat.add_assoc, Nat.add_comm, Nat.add_left_comm])
  unfold partsBetween
  rw [hl, e]
  simp only [cutsFrom, List.map_cons, List.map_nil, List.cons_append, List.nil_append, List.zip_cons_cons, List.zip_nil_right]
  rw [show r0 ++ 13 :: 10 :: (r1 ++ 13 :: 10 :: (r2 ++ 13 :: 10 :: (r3 ++ [13, 10]))) = [] ++ (r0 ++ 13 :: 10 :: (r1 ++ 13 :: 10 :: (r2 ++ 13 :: 10 :: (r3 ++ [13, 10])))) from rfl, strSub_mid (by rfl) (by simp)]
  rw [show [] ++ (r0 ++ 13 :: 10 :: (r1 ++ 13 :: 10 :: (r2 ++ 13 :: 10 :: (r3 ++ [13, 10])))) = (r0 ++ [13, 10]) ++ (r1 ++ 13 :: 10 :: (r2 ++ 13 :: 10 :: (r3 ++ [13, 10]))) from by simp, strSub_mid (by simp) (by simp)]
  rw [show (r0 ++ [13, 10]) ++ (r1 ++ 13 :: 10 :: (r2 ++ 13 :: 10 :: (r3 ++ [13, 10]))) = (r0 ++ 13 :: 10 :: r1 ++ [13, 10]) ++ (r2 ++ 13 :: 10 :: (r3 ++ [13, 10])) from by simp, strSub_mid (by simp; (simp only [Nat.add_assoc, Nat.add_comm, Nat.add_left_comm])) (by simp; (simp only [Nat.add_assoc, Nat.add_comm, Nat.add_left_comm]))]
  rw [show (r0 ++ 13 :: 10 :: r1 ++ [13, 10]) ++ (r2 ++ 13 :: 10 :: (r3 ++ [13, 10])) = (r0 ++ 13 :: 10 :: r1 ++ 13 :: 10 :: r2 ++ [13, 10]) ++ (r3 ++ [13, 10]) from by simp, strSub_mid (by simp; (simp only [Nat.add_assoc, Nat.add_comm, Nat.add_left_comm])) (by simp; (simp only [Nat.add_assoc, Nat.add_comm, Nat.add_left_comm]))]
  rw [show (r0 ++ 13 :: 10 :: r1 ++ 13 :: 10 :: r2 ++ [13, 10]) ++ (r3 ++ [13, 10]) = (r0 ++ 13 :: 10 :: r1 ++ 13 :: 10 :: r2 ++ 13 :: 10 :: r3 ++ [13, 10]) ++ ([] ++ []) from by simp, strSub_mid (by simp; (simp only [Nat.add_assoc, Nat.add_comm, Nat.add_left_comm])) (by simp; (simp only [Nat.add_assoc, Nat.add_comm, Nat.add_left_comm]))]
end Mine
end
/-! part P0 -/
section
set_option maxRecDepth 100000
set_option maxHeartbeats 4000000
set_option linter.unusedVariables false
namespace Mine
/-! the plain law: tables as partial maps -/
def lk (T : Tabs) (p h : Nat) : Option Nat := (T p).lookup h
theorem lookup_filter {tab : List (Nat × Nat)} {h h' : Nat} : (tab.filter fun e => e.1 != h).lookup h' = if h' = h then none else tab.lookup h' := by
  induction tab with
  | nil => simp
  | cons e r ih =>
    rw [List.filter_cons]
    by_cases h1 : e.1 = h
    · rw [if_neg (by simpa using h1), ih, List.lookup_cons]
      by_cases h2 : h' = h
      · rw [if_pos h2, if_pos h2]
      · rw [if_neg h2, if_neg h2, show (h' == e.1) = false from by rw [beq_eq_false_iff_ne, h1]; exact h2]
    · rw [if_pos (by simpa using h1), List.lookup_cons, List.lookup_cons, ih]
      by_cases h2 : h' = h
      · rw [if_pos h2, h2, show (h == e.1) = false from by rw [beq_eq_false_iff_ne]; exact Ne.symm h1]
        simp
      · rw [if_neg h2, if_neg h2]
theorem lookup_append {l m : List (Nat × Nat)} {h : Nat} : (l ++ m).lookup h = (l.lookup h).or (m.lookup h) := by
  induction l with
  | nil => simp
  | cons e r ih =>
    rw [List.cons_append, List.lookup_cons, List.lookup_cons]
    cases h == e.1 <;> simp [ih]
theorem lk_del (T : Tabs) (p h q h' : Nat) : lk (delT T p h) q h' = if q = p ∧ h' = h then none else lk T q h' := by
  unfold lk delT
  by_cases e : q = p
  · subst e
    simp only [if_true, lookup_filter, true_and]
  · simp only [if_neg e, e, false_and, if_false]
theorem lk_set (T : Tabs) (p h o q h' : Nat) : lk (setT T p h o) q h' = if q = p ∧ h' = h then some o else lk T q h' := by
  unfold lk setT
  by_cases e : q = p
  · subst e
    simp only [if_true, lookup_append, lookup_filter, true_and]
    by_cases e2 : h' = h
    · subst e2; simp [List.lookup]
    · simp only [if_neg e2]
      rw [show List.lookup h' [(h, o)] = none from by simp [List.lookup, beq_eq_false_iff_ne.mpr e2]]
      simp
  · simp only [if_neg e, e, false_and, if_false]
def KeyNd (T : Tabs) : Prop := ∀ p, ((T p).map (·.1)).Nodup
theorem nd_filter {tab : List (Nat × Nat)} {h : Nat} (n : (tab.map (·.1)).Nodup) : ((tab.filter fun e => e.1 != h).map (·.1)).Nodup :=
  List.Nodup.sublist (List.Sublist.map _ List.filter_sublist) n
theorem nd_del {T : Tabs} (n : KeyNd T) (p h : Nat) : KeyNd (delT T p h) := fun q => by
  unfold delT
  by_cases e : q = p
  · rw [if_pos e]; exact nd_filter (n p)
  · rw [if_neg e]; exact n q
theorem nd_set {T : Tabs} (n : KeyNd T) (p h o : Nat) : KeyNd (setT T p h o) := fun q => by
  unfold setT
  by_cases e : q = p
  · rw [if_pos e, List.map_append, List.nodup_append]
    refine ⟨nd_filter (n p), by simp, fun a ha b hb => ?_⟩
    simp at hb
    subst hb
    obtain ⟨e, he, rfl⟩ := List.mem_map.mp ha
    have := (List.mem_filter.mp he).2
    simpa using this
  · rw [if_neg e]; exact n q
theorem lookup_mem {tab : List (Nat × Nat)} (n : (tab.map (·.1)).Nodup) {h o : Nat} : tab.lookup h = some o ↔ (h, o) ∈ tab := by
  induction tab with
  | nil => simp
  | cons e r ih =>
    rw [List.map_cons, List.nodup_cons] at n
    rw [List.lookup_cons]
    by_cases e1 : h = e.1
    · rw [show (h == e.1) = true from by simpa using e1]
      constructor
      · intro z; have : e.2 = o := by simpa using z
        subst this; rw [e1]; exact List.mem_cons_self
      · intro z
        rcases List.mem_cons.mp z with z | z
        · rw [← z]
        · exact absurd (List.mem_map.mpr ⟨(h, o), z, e1⟩) n.1
    · rw [show (h == e.1) = false from by simpa using e1]
      simp only [ih n.2, List.mem_cons]
      constructor
      · exact .inr
      · rintro (z | z)
        · exact absurd (by rw [← z]) e1
        · exact z
/-! the way -/
section
variable {T : Tabs} {a b g : Nat}
def TC : List Nat := [48, 49, 50, 51]
structure Inv (T : Tabs) : Prop where
  nd : KeyNd T
  sym : ∀ p h o, lk T p h = some o → lk T o h = some p
  bip : ∀ p h o, lk T p h = some o → (p ∈ TC ∧ o ∈ grpC) ∨ (p ∈ grpC ∧ o ∈ TC)
theorem disj {p : Nat} (h : p ∈ TC) : p ∉ grpC := by
  exact (show ∀ p ∈ TC, p ∉ grpC by decide) p h
/-- a walk along a and b, from g, which has no b -/
structure Walk (T : Tabs) (a b : Nat) (pt : Nat → Nat) (n : Nat) : Prop where
  g : pt 0 ∈ grpC
  nob : lk T (pt 0) b = none
  on : ∀ i, i < n → lk T (pt i) (hrOf a b i) = some (pt (i + 1))
variable {pt : Nat → Nat} {n : Nat}
theorem Walk.side (I : Inv T) (W : Walk T a b pt n) : ∀ i, i ≤ n → if i % 2 = 0 then pt i ∈ grpC else pt i ∈ TC
  | 0, _ => W.g
  | i + 1, h => by
    have s := W.side I i (by exact Nat.le_of_succ_le h)
    have e := I.bip _ _ _ (W.on i (by exact Nat.lt_of_succ_le h))
    by_cases h2 : i % 2 = 0
    · rw [if_pos h2] at s; rw [if_neg (by exact pa h2)]
      exact (e.resolve_left fun z => disj z.1 s).2
    · rw [if_neg h2] at s; rw [if_pos (by exact pb h2)]
      exact (e.resolve_right fun z => disj s z.1).2
theorem hr_par {a b i j : Nat} (h : i % 2 = j % 2) : hrOf a b i = hrOf a b j := by unfold hrOf; rw [h]
theorem Walk.apart (I : Inv T) (W : Walk T a b pt n) : ∀ i j, i < j → j ≤ n → pt i ≠ pt j := by
  intro i
  induction i with
  | zero =>
    intro j h1 h2 e
    have s0 := W.side I j h2
    have hj : j % 2 = 0 := by
      by_cases z : j % 2 = 0
      · exact z
      · rw [if_neg z] at s0; exact absurd (e ▸ W.g) (disj s0)
    have := I.sym _ _ _ (W.on (j - 1) (by exact pi1 h1 h2))
    rw [show j - 1 + 1 = j from by exact pe3 h1, ← e, show hrOf a b (j - 1) = b from by unfold hrOf; rw [if_neg (by exact Mine.pk h1 hj)], W.nob] at this
    cases this
  | succ i ih =>
    intro j h1 h2 e
    have s1 := W.side I (i + 1) (by exact Nat.le_of_lt (Nat.lt_of_lt_of_le h1 h2))
    have s2 := W.side I j h2
    have hp : (i + 1) % 2 = j % 2 := by
      by_cases z1 : (i + 1) % 2 = 0 <;> by_cases z2 : j % 2 = 0
      · (exact pg2 z1 z2)
      · rw [if_pos z1] at s1; rw [if_neg z2] at s2; rw [e] at s1; exact absurd s1 (disj s2)
      · rw [if_neg z1] at s1; rw [if_pos z2] at s2; rw [e] at s1; exact absurd s2 (disj s1)
      · (exact pg z1 z2)
    have e1 := I.sym _ _ _ (W.on i (by exact Nat.lt_of_lt_of_le (Nat.lt_of_succ_lt h1) h2))
    have e2 := I.sym _ _ _ (W.on (j - 1) (by exact pi1 h1 h2))
    rw [show j - 1 + 1 = j from by exact pe3 h1, ← e, ← hr_par (a := a) (b := b) (show i % 2 = (j - 1) % 2 from by exact ph hp h1), e1] at e2
    exact ih (j - 1) (by exact Nat.lt_sub_of_add_lt h1) (by exact pi2 h2) (Option.some.inj e2)
theorem Walk.pers (I : Inv T) (W : Walk T a b pt n) (i : Nat) (h : i ≤ n) : pt i ∈ persC := by
  have s := W.side I i h
  by_cases z : i % 2 = 0
  · rw [if_pos z] at s; exact (show ∀ x ∈ grpC, x ∈ persC by decide) _ s
  · rw [if_neg z] at s; exact (show ∀ x ∈ TC, x ∈ persC by decide) _ s
theorem Walk.short (I : Inv T) (W : Walk T a b pt n) : n < 8 := by
  have nd : ((List.range (n + 1)).map pt).Nodup := by
    rw [List.Nodup, List.pairwise_map]
    refine List.Pairwise.imp_of_mem (fun {i j} hi hj h => ?_) List.pairwise_lt_range
    exact W.apart I i j h (by have := List.mem_range.mp hj; (exact Nat.le_of_lt_succ this))
  have := nodup_len (m := persC) nd fun x hx => by
    obtain ⟨i, hi, rfl⟩ := List.mem_map.mp hx
    exact W.pers I i (by have := List.mem_range.mp hi; (exact Nat.le_of_lt_succ this))
  simp [persC] at this
  (exact Nat.lt_succ_of_le this)
end
end Mine
end
/-! part P1 -/
section
set_option maxRecDepth 100000
set_option maxHeartbeats 4000000
set_option linter.unusedVariables false
namespace Mine
section
variable {T : Tabs} {a b g t : Nat} {pt : Nat → Nat} {n : Nat}
theorem strikes_lk (T : Tabs) (pt hr : Nat → Nat) : ∀ n q h, lk (strikesN T pt hr n) q h = if (∃ i, i < n ∧ h = hr i ∧ (q = pt i ∨ q = pt (i + 1))) then none else lk T q h
  | 0, q, h => by rw [if_neg (by rintro ⟨i, h, _⟩; (exact absurd (Nat.zero_le _) (Nat.not_le_of_lt h)))]; rfl
  | n + 1, q, h => by
    show lk (delT (delT (strikesN T pt hr n) (pt n) (hr n)) (pt (n + 1)) (hr n)) q h = _
    rw [lk_del, lk_del, strikes_lk T pt hr n]
    by_cases h1 : q = pt (n + 1) ∧ h = hr n
    · rw [if_pos h1, if_pos ⟨n, by exact Nat.lt_succ_self _, h1.2, .inr h1.1⟩]
    · rw [if_neg h1]
      by_cases h2 : q = pt n ∧ h = hr n
      · rw [if_pos h2, if_pos ⟨n, by exact Nat.lt_succ_self _, h2.2, .inl h2.1⟩]
      · rw [if_neg h2]
        by_cases h3 : ∃ i, i < n ∧ h = hr i ∧ (q = pt i ∨ q = pt (i + 1))
        · rw [if_pos h3, if_pos (by obtain ⟨i, z, r⟩ := h3; exact ⟨i, by exact Nat.lt_succ_of_lt z, r⟩)]
        · rw [if_neg h3, if_neg]
          rintro ⟨i, z, e1, e2⟩
          by_cases hi : i = n
          · subst hi
            rcases e2 with e2 | e2
            · exact h2 ⟨e2, e1⟩
            · exact h1 ⟨e2, e1⟩
          · exact h3 ⟨i, by exact Nat.lt_of_le_of_ne (Nat.le_of_lt_succ z) hi, e1, e2⟩
theorem puts_other (T : Tabs) (pt hr : Nat → Nat) : ∀ n q h, (¬∃ i, i < n ∧ h = hr (i + 1) ∧ (q = pt i ∨ q = pt (i + 1))) → lk (putsN T pt hr n) q h = lk T q h
  | 0, q, h, _ => rfl
  | n + 1, q, h, no => by
    show lk (setT (setT (putsN T pt hr n) (pt n) (hr (n + 1)) (pt (n + 1))) (pt (n + 1)) (hr (n + 1)) (pt n)) q h = _
    rw [lk_set, if_neg (fun z => no ⟨n, by exact Nat.lt_succ_self _, z.2, .inr z.1⟩), lk_set, if_neg (fun z => no ⟨n, by exact Nat.lt_succ_self _, z.2, .inl z.1⟩)]
    exact puts_other T pt hr n q h fun ⟨i, z, r⟩ => no ⟨i, by exact Nat.lt_succ_of_lt z, r⟩
theorem puts_at (T : Tabs) (pt hr : Nat → Nat) (nd : ∀ i j, i < j → j ≤ n → pt i ≠ pt j) (ne : ∀ i, hr i ≠ hr (i + 1)) : ∀ m, m ≤ n → ∀ i, i < m →
    lk (putsN T pt hr m) (pt i) (hr (i + 1)) = some (pt (i + 1)) ∧ lk (putsN T pt hr m) (pt (i + 1)) (hr (i + 1)) = some (pt i)
  | 0, _, i, h => by exact absurd (Nat.zero_le _) (Nat.not_le_of_lt h)
  | m + 1, hm, i, h => by
    have e : ∀ q h', lk (putsN T pt hr (m + 1)) q h' = if q = pt (m + 1) ∧ h' = hr (m + 1) then some (pt m) else if q = pt m ∧ h' = hr (m + 1) then some (pt (m + 1)) else lk (putsN T pt hr m) q h' := fun q h' => by
      show lk (setT (setT (putsN T pt hr m) (pt m) (hr (m + 1)) (pt (m + 1))) (pt (m + 1)) (hr (m + 1)) (pt m)) q h' = _
      rw [lk_set, lk_set]
    rw [e, e]
    by_cases hi : i = m
    · subst hi
      refine ⟨?_, by rw [if_pos ⟨rfl, rfl⟩]⟩
      rw [if_neg (fun z => nd i (i + 1) (by exact h) hm z.1), if_pos ⟨rfl, rfl⟩]
    · have ih := puts_at T pt hr nd ne m (by exact Nat.le_of_succ_le hm) i (by exact Nat.lt_of_le_of_ne (Nat.le_of_lt_succ h) hi)
      refine ⟨?_, ?_⟩
      · rw [if_neg (fun z => nd i (m + 1) (by exact h) hm z.1), if_neg (fun z => nd i m (by exact Nat.lt_of_le_of_ne (Nat.le_of_lt_succ h) hi) (by exact Nat.le_of_succ_le hm) z.1)]; exact ih.1
      · rw [if_neg (fun z => nd (i + 1) (m + 1) (by omega) hm z.1)]
        by_cases h2 : i + 1 = m
        · rw [if_neg (fun z => by subst h2; exact ne _ z.2)]; exact ih.2
        · rw [if_neg (fun z => nd (i + 1) m (by exact Mine.ne1 h hi h2) (by exact Nat.le_of_succ_le hm) z.1)]; exact ih.2
def sw (a b h : Nat) : Nat := if h = a then b else if h = b then a else h
theorem sw_hr (a b i : Nat) : sw a b (hrOf a b i) = hrOf a b (i + 1) := by
  unfold sw hrOf
  by_cases h : i % 2 = 0
  · rw [if_pos h, if_pos rfl, if_neg (by exact pa h)]
  · rw [if_neg h, if_pos (show (i + 1) % 2 = 0 by exact pb h)]
    by_cases e : b = a
    · rw [if_pos e]; exact e
    · rw [if_neg e, if_pos rfl]
/-- the tables when the way has changed hours -/
theorem swapped (I : Inv T) (W : Walk T a b pt n) (hend : lk T (pt n) (hrOf a b n) = none) (q h : Nat) :
    lk (putsN (strikesN T pt (hrOf a b) n) pt (hrOf a b) n) q h = if (∃ j, j ≤ n ∧ q = pt j) then lk T q (sw a b h) else lk T q h := by
  by_cases hab : a = b
  · -- no way at all
    have hn : n = 0 := by
      by_cases z : n = 0
      · exact z
      · have := W.on 0 (by exact Nat.pos_of_ne_zero z)
        rw [show hrOf a b 0 = b from by unfold hrOf; rw [if_pos rfl]; exact hab, W.nob] at this; cases this
    subst hn hab
    show lk T q h = _
    have : sw a a h = h := by unfold sw; split <;> simp_all
    rw [this]; split <;> rfl
  have ne : ∀ i, hrOf a b i ≠ hrOf a b (i + 1) := fun i => by
    unfold hrOf
    by_cases z : i % 2 = 0
    · rw [if_pos z, if_neg (by exact pa z)]; exact hab
    · rw [if_neg z, if_pos (by exact pb z)]; exact Ne.symm hab
  have two : ∀ i, hrOf a b (i + 2) = hrOf a b i := fun i => hr_par (by exact pf)
  have nd := W.apart I
  by_cases hq : ∃ j, j ≤ n ∧ q = pt j
  · rw [if_pos hq]
    obtain ⟨j, hj, rfl⟩ := hq
    by_cases h1 : h = hrOf a b (j + 1)
    · subst h1
      rw [sw_hr, two]
      by_cases hjn : j < n
      · rw [(puts_at _ pt (hrOf a b) nd ne n (Nat.le_refl _) j hjn).1, W.on j hjn]
      · have : j = n := by exact Nat.le_antisymm hj (Nat.le_of_not_lt hjn)
        subst this
        rw [hend, puts_other]
        · rw [strikes_lk]
          by_cases z : j = 0
          · subst z
            rw [if_neg (by rintro ⟨i, h, _⟩; (exact absurd (Nat.zero_le _) (Nat.not_le_of_lt h)))]
            exact W.nob
          · rw [if_pos ⟨j - 1, by exact Nat.sub_lt (Nat.pos_of_ne_zero z) (Nat.zero_lt_succ _), hr_par (by exact pc2 z), .inr (by rw [show j - 1 + 1 = j from by exact pe2 z])⟩]
        · rintro ⟨i, z1, z2, z3 | z3⟩
          · exact nd i j z1 (Nat.le_refl _) z3.symm
          · by_cases e : i + 1 = j
            · rw [e] at z2; exact ne j z2.symm
            · exact nd (i + 1) j (by exact Nat.lt_of_le_of_ne (Nat.succ_le_of_lt z1) e) (Nat.le_refl _) z3.symm
    · by_cases h2 : h = hrOf a b j
      · subst h2
        rw [sw_hr]
        by_cases hj0 : j = 0
        · subst hj0
          rw [show hrOf a b (0 + 1) = b from rfl, W.nob, puts_other]
          · rw [strikes_lk]
            by_cases z : n = 0
            · subst z
              rw [if_neg (by rintro ⟨i, h, _⟩; (exact absurd (Nat.zero_le _) (Nat.not_le_of_lt h)))]; exact hend
            · rw [if_pos ⟨0, by exact Nat.pos_of_ne_zero z, rfl, .inl rfl⟩]
          · rintro ⟨i, z1, z2, z3 | z3⟩
            · by_cases e : i = 0
              · subst e; exact ne 0 z2
              · exact nd 0 i (by exact Nat.pos_of_ne_zero e) (by exact Nat.le_of_lt z1) z3
            · exact nd 0 (i + 1) (by exact Nat.zero_lt_succ _) (by exact Nat.succ_le_of_lt z1) z3
        · have := (puts_at (strikesN T pt (hrOf a b) n) pt (hrOf a b) nd ne n (Nat.le_refl _) (j - 1) (by exact pi1 (Nat.pos_of_ne_zero hj0) hj)).2
          rw [show j - 1 + 1 = j from by exact pe2 hj0] at this
          rw [this]
          have e := I.sym _ _ _ (W.on (j - 1) (by exact pi1 (Nat.pos_of_ne_zero hj0) hj))
          rw [show j - 1 + 1 = j from by exact pe2 hj0, hr_par (a := a) (b := b) (show (j - 1) % 2 = (j + 1) % 2 from by exact pc hj0)] at e
          exact e.symm
      · have hA : h ≠ a ∧ h ≠ b := by
          unfold hrOf at h1 h2
          by_cases z : j % 2 = 0
          · rw [if_pos z] at h2; rw [if_neg (by exact pa z)] at h1; exact ⟨h2, h1⟩
          · rw [if_neg z] at h2; rw [if_pos (by exact pb z)] at h1; exact ⟨h1, h2⟩
        have hh : ∀ i, h ≠ hrOf a b i := fun i => by unfold hrOf; split; exact hA.1; exact hA.2
        rw [show sw a b h = h from by unfold sw; rw [if_neg hA.1, if_neg hA.2], puts_other _ _ _ _ _ _ (by rintro ⟨i, _, z, _⟩; exact hh _ z), strikes_lk, if_neg (by rintro ⟨i, _, z, _⟩; exact hh _ z)]
  · rw [if_neg hq, puts_other _ _ _ _ _ _ (by rintro ⟨i, z, _, r | r⟩; exact hq ⟨i, by exact Nat.le_of_lt z, r⟩; exact hq ⟨i + 1, by exact Nat.succ_le_of_lt z, r⟩), strikes_lk, if_neg (by rintro ⟨i, z, _, r | r⟩; exact hq ⟨i, by exact Nat.le_of_lt z, r⟩; exact hq ⟨i + 1, by exact Nat.succ_le_of_lt z, r⟩)]
end
end Mine
end
/-! part P2 -/
section
set_option maxRecDepth 100000
set_option maxHeartbeats 4000000
set_option linter.unusedVariables false
namespace Mine
section
variable {T : Tabs} {a b g t : Nat} {rest : List Nat}
theorem walk_of (hg : g ∈ grpC) (hb : lk T g b = none) (hw : WayOf T a b g rest) : Walk T a b (ptOf g rest) rest.length ∧ lk T (ptOf g rest rest.length) (hrOf a b rest.length) = none := by
  refine ⟨⟨hg, hb, fun i hi => ?_⟩, ?_⟩
  · show (T (ptOf g rest i)).lookup (hrOf a b i) = _
    rw [hw i (by exact Nat.le_of_lt hi), List.getElem?_eq_getElem hi]
    unfold ptOf
    rw [List.getD_cons_succ, List.getD_eq_getElem?_getD, List.getElem?_eq_getElem hi]; rfl
  · show (T (ptOf g rest rest.length)).lookup (hrOf a b rest.length) = _
    rw [hw _ (Nat.le_refl _), List.getElem?_eq_none (Nat.le_refl _)]
theorem hr_succ (a b i : Nat) : hrOf a b (i + 1) = hrOf b a i := by
  unfold hrOf
  by_cases h : i % 2 = 0
  · rw [if_pos h, if_neg (by exact pa h)]
  · rw [if_neg h, if_pos (by exact pb h)]
theorem wayF_on (T : Tabs) : ∀ n a b g, (∀ i, i < (wayF T n a b g).length → (T (ptOf g (wayF T n a b g) i)).lookup (hrOf a b i) = (wayF T n a b g)[i]?) ∧ ((wayF T n a b g).length < n → (T (ptOf g (wayF T n a b g) (wayF T n a b g).length)).lookup (hrOf a b (wayF T n a b g).length) = none)
  | 0, a, b, g => ⟨fun i h => absurd h (Nat.not_lt_zero _), fun h => absurd h (Nat.not_lt_zero _)⟩
  | n + 1, a, b, g => by
    cases e : (T g).lookup a with
    | none =>
      have : wayF T (n + 1) a b g = [] := by unfold wayF; rw [e]
      rw [this]
      exact ⟨fun i h => absurd h (Nat.not_lt_zero _), fun _ => e⟩
    | some o =>
      have : wayF T (n + 1) a b g = o :: wayF T n b a o := by rw [wayF, e]
      rw [this]
      obtain ⟨h1, h2⟩ := wayF_on T n b a o
      refine ⟨fun i hi => ?_, fun hl => ?_⟩
      · cases i with
        | zero => exact e
        | succ i =>
          rw [hr_succ]
          exact h1 i (by simpa using hi)
      · rw [List.length_cons, hr_succ]
        exact h2 (by simpa using hl)
theorem wayOf_wayF (I : Inv T) (hg : g ∈ grpC) (hb : lk T g b = none) : WayOf T a b g (wayF T 16 a b g) := by
  obtain ⟨h1, h2⟩ := wayF_on T 16 a b g
  have W : Walk T a b (ptOf g (wayF T 16 a b g)) (wayF T 16 a b g).length := ⟨hg, hb, fun i hi => by
    show (T (ptOf g (wayF T 16 a b g) i)).lookup (hrOf a b i) = _
    rw [h1 i hi, List.getElem?_eq_getElem hi]
    unfold ptOf
    rw [List.getD_cons_succ, List.getD_eq_getElem?_getD, List.getElem?_eq_getElem hi]; rfl⟩
  have hs := W.short I
  intro i hi
  by_cases z : i < (wayF T 16 a b g).length
  · exact h1 i z
  · rw [show i = (wayF T 16 a b g).length from by exact Nat.le_antisymm hi (Nat.le_of_not_lt z), h2 (by exact Nat.lt_of_lt_of_le hs (Nat.le_add_left _ _)), List.getElem?_eq_none (Nat.le_refl _)]
abbrev onWay (g : Nat) (rest : List Nat) (q : Nat) : Prop := ∃ j, j ≤ rest.length ∧ q = ptOf g rest j
def ft (T : Tabs) (p : Nat) : Nat := freeT (T p)
theorem lesson_lk (I : Inv T) (hg : g ∈ grpC) (hb : lk T g (ft T g) = none) (hw : WayOf T (ft T t) (ft T g) g rest) (q h : Nat) :
    lk (lessonT T t g rest) q h = if q = g ∧ h = ft T t then some t else if q = t ∧ h = ft T t then some g else if onWay g rest q then lk T q (sw (ft T t) (ft T g) h) else lk T q h := by
  obtain ⟨W, he⟩ := walk_of hg hb hw
  show lk (setT (setT (putsN (strikesN T (ptOf g rest) (hrOf (ft T t) (ft T g)) rest.length) (ptOf g rest) (hrOf (ft T t) (ft T g)) rest.length) t (ft T t) g) g (ft T t) t) q h = _
  rw [lk_set, lk_set, swapped I W he]
theorem t_off (I : Inv T) (ht : t ∈ TC) (hg : g ∈ grpC) (ha : lk T t a = none) (hb : lk T g b = none) (hw : WayOf T a b g rest) : ¬onWay g rest t := by
  obtain ⟨W, he⟩ := walk_of hg hb hw
  rintro ⟨j, hj, e⟩
  have s := W.side I j hj
  by_cases z : j % 2 = 0
  · rw [if_pos z, ← e] at s; exact disj ht s
  · have := I.sym _ _ _ (W.on (j - 1) (by exact Mine.pi3 hj z))
    rw [show j - 1 + 1 = j from by exact pe z, ← e, show hrOf a b (j - 1) = a from by unfold hrOf; rw [if_pos (by exact pd z)], ha] at this
    cases this
theorem way_closed (I : Inv T) (hg : g ∈ grpC) (hb : lk T g b = none) (hw : WayOf T a b g rest) {q h o : Nat} (hq : onWay g rest q) (hh : h = a ∨ h = b) (e : lk T q h = some o) : onWay g rest o := by
  obtain ⟨W, he⟩ := walk_of hg hb hw
  obtain ⟨j, hj, rfl⟩ := hq
  have : h = hrOf a b j ∨ h = hrOf a b (j + 1) := by
    unfold hrOf
    by_cases z : j % 2 = 0
    · rw [if_pos z, if_neg (by exact pa z)]; exact hh
    · rw [if_neg z, if_pos (by exact pb z)]; exact hh.symm
  rcases this with rfl | rfl
  · by_cases z : j < rest.length
    · rw [W.on j z] at e; cases e; exact ⟨j + 1, z, rfl⟩
    · have : j = rest.length := by exact Nat.le_antisymm hj (Nat.le_of_not_lt z)
      subst this; rw [he] at e; cases e
  · by_cases z : j = 0
    · subst z
      rw [show hrOf a b (0 + 1) = b from rfl, W.nob] at e; cases e
    · have e2 := I.sym _ _ _ (W.on (j - 1) (by exact pi1 (Nat.pos_of_ne_zero z) hj))
      rw [show j - 1 + 1 = j from by exact pe2 z, hr_par (a := a) (b := b) (show (j - 1) % 2 = (j + 1) % 2 from by exact pc z), e] at e2
      cases e2
      exact ⟨j - 1, by exact pi2 hj, rfl⟩
theorem g_on : onWay g rest g := ⟨0, Nat.zero_le _, rfl⟩
theorem sw_cases (a b h : Nat) : (h = a ∧ sw a b h = b) ∨ (h = b ∧ sw a b h = a) ∨ (h ≠ a ∧ h ≠ b ∧ sw a b h = h) := by
  unfold sw
  by_cases h1 : h = a
  · exact .inl ⟨h1, by rw [if_pos h1]⟩
  · by_cases h2 : h = b
    · exact .inr (.inl ⟨h2, by rw [if_neg h1, if_pos h2]⟩)
    · exact .inr (.inr ⟨h1, h2, by rw [if_neg h1, if_neg h2]⟩)
theorem nd_strikes (n : KeyNd T) (pt hr : Nat → Nat) : ∀ k, KeyNd (strikesN T pt hr k)
  | 0 => n
  | k + 1 => nd_del (nd_del (nd_strikes n pt hr k) _ _) _ _
theorem nd_puts (n : KeyNd T) (pt hr : Nat → Nat) : ∀ k, KeyNd (putsN T pt hr k)
  | 0 => n
  | k + 1 => nd_set (nd_set (nd_puts n pt hr k) _ _ _) _ _ _
theorem lesson_inv (I : Inv T) (ht : t ∈ TC) (hg : g ∈ grpC) (ha : lk T t (ft T t) = none) (hb : lk T g (ft T g) = none) (hw : WayOf T (ft T t) (ft T g) g rest) : Inv (lessonT T t g rest) := by
  have L := fun q h => lesson_lk I hg hb hw q h
  have tn := t_off I ht hg ha hb hw
  have ntg : t ≠ g := fun e => disj ht (e ▸ hg)
  have swc : ∀ {q h o}, onWay g rest q → lk T q (sw (ft T t) (ft T g) h) = some o → onWay g rest o ∨ sw (ft T t) (ft T g) h = h := fun {q h o} hq e => by
    rcases sw_cases (ft T t) (ft T g) h with ⟨_, e2⟩ | ⟨_, e2⟩ | ⟨_, _, e2⟩
    · exact .inl (way_closed I hg hb hw hq (.inr e2) e)
    · exact .inl (way_closed I hg hb hw hq (.inl e2) e)
    · exact .inr e2
  refine ⟨?_, fun p h o e => ?_, fun p h o e => ?_⟩
  · exact nd_set (nd_set (nd_puts (nd_strikes I.nd _ _ _) _ _ _) _ _ _) _ _ _
  · rw [L] at e
    by_cases h1 : p = g ∧ h = ft T t
    · rw [if_pos h1] at e; cases e
      rw [L, if_neg (fun z => ntg z.1), if_pos ⟨rfl, h1.2⟩, h1.1]
    · rw [if_neg h1] at e
      by_cases h2 : p = t ∧ h = ft T t
      · rw [if_pos h2] at e; cases e
        rw [L, if_pos ⟨rfl, h2.2⟩, h2.1]
      · rw [if_neg h2] at e
        -- an old meeting
        have key : ∀ h0, lk T p h0 = some o → lk T o h0 = some p := fun h0 z => I.sym _ _ _ z
        by_cases hp : onWay g rest p
        · rw [if_pos hp] at e
          have eo := key _ e
          have no1 : ¬(o = g ∧ h = ft T t) := by
            rintro ⟨rfl, rfl⟩
            rw [show sw (ft T t) (ft T o) (ft T t) = ft T o from by unfold sw; rw [if_pos rfl], hb] at eo; cases eo
          have no2 : ¬(o = t ∧ h = ft T t) := by
            rintro ⟨rfl, rfl⟩
            exact tn (way_closed I hg hb hw hp (.inr (by unfold sw; rw [if_pos rfl])) e)
          rw [L, if_neg no1, if_neg no2]
          by_cases ho : onWay g rest o
          · rw [if_pos ho]; exact eo
          · rw [if_neg ho]
            rcases swc hp e with z | z
            · exact absurd z ho
            · rw [← z]; exact eo
        · rw [if_neg hp] at e
          have eo := key _ e
          have no1 : ¬(o = g ∧ h = ft T t) := by
            rintro ⟨rfl, rfl⟩
            exact hp (way_closed I hg hb hw g_on (.inl rfl) eo)
          have no2 : ¬(o = t ∧ h = ft T t) := by
            rintro ⟨rfl, rfl⟩
            rw [ha] at eo; cases eo
          rw [L, if_neg no1, if_neg no2]
          by_cases ho : onWay g rest o
          · rw [if_pos ho]
            rcases sw_cases (ft T t) (ft T g) h with ⟨e1, _⟩ | ⟨e1, _⟩ | ⟨_, _, e2⟩
            · exact absurd (way_closed I hg hb hw ho (.inl e1) eo) hp
            · exact absurd (way_closed I hg hb hw ho (.inr e1) eo) hp
            · rw [e2]; exact eo
          · rw [if_neg ho]; exact eo
  · rw [L] at e
    by_cases h1 : p = g ∧ h = ft T t
    · rw [if_pos h1] at e; cases e
      exact .inr ⟨h1.1 ▸ hg, ht⟩
    · rw [if_neg h1] at e
      by_cases h2 : p = t ∧ h = ft T t
      · rw [if_pos h2] at e; cases e
        exact .inl ⟨h2.1 ▸ ht, hg⟩
      · rw [if_neg h2] at e
        by_cases hp : onWay g rest p
        · rw [if_pos hp] at e; exact I.bip _ _ _ e
        · rw [if_neg hp] at e; exact I.bip _ _ _ e
end
end Mine
end
/-! part P3 -/
section
set_option maxRecDepth 100000
set_option maxHeartbeats 4000000
set_option linter.unusedVariables false
namespace Mine
/-- how many hours of a person answer a question -/
def cnt (φ : Option Nat → Bool) (f : Nat → Option Nat) : Nat := hourC.countP fun h => φ (f h)
theorem countP_upd {f f' : Nat → Bool} {a : Nat} {c : Bool} : ∀ {l : List Nat}, l.Nodup → a ∈ l → f a = false → (∀ h, f' h = if h = a then c else f h) → l.countP f' = l.countP f + if c then 1 else 0
  | [], _, h, _, _ => absurd h List.not_mem_nil
  | x :: l, nd, h, hf, hu => by
    rw [List.nodup_cons] at nd
    have same : a ∉ l → l.countP f' = l.countP f := fun ha => List.countP_congr fun y hy => by rw [hu, if_neg (by rintro rfl; exact ha hy)]
    rw [List.countP_cons, List.countP_cons]
    by_cases e : x = a
    · subst e
      rw [same nd.1, hu, if_pos rfl, hf]; simp
    · rw [hu x, if_neg e, countP_upd nd.2 ((List.mem_cons.mp h).resolve_left (Ne.symm e)) hf hu]
      (exact Nat.add_right_comm _ _ _)
theorem sw_sw (a b h : Nat) : sw a b (sw a b h) = h := by
  unfold sw
  by_cases h1 : h = a
  · rw [if_pos h1]
    by_cases h2 : b = a
    · rw [if_pos h2, h1, h2]
    · rw [if_neg h2, if_pos rfl, h1]
  · by_cases h2 : h = b
    · rw [if_neg h1, if_pos h2, if_pos rfl, h2]
    · rw [if_neg h1, if_neg h2, if_neg h1, if_neg h2]
theorem sw_mem {a b h : Nat} {l : List Nat} (ha : a ∈ l) (hb : b ∈ l) (hh : h ∈ l) : sw a b h ∈ l := by
  unfold sw; split
  · exact hb
  · split
    · exact ha
    · exact hh
theorem hourC_nd : hourC.Nodup := by decide
theorem cnt_sw {φ : Option Nat → Bool} {f : Nat → Option Nat} {a b : Nat} (ha : a ∈ hourC) (hb : b ∈ hourC) : cnt φ (fun h => f (sw a b h)) = cnt φ f := by
  have P : (hourC.map (sw a b)).Perm hourC := by
    refine (List.perm_ext_iff_of_nodup ?_ hourC_nd).mpr fun x => ?_
    · rw [List.Nodup, List.pairwise_map]
      refine List.Pairwise.imp (fun {x y} h e => h ?_) hourC_nd
      have := congrArg (sw a b) e
      rwa [sw_sw, sw_sw] at this
    · constructor
      · intro h
        obtain ⟨y, hy, rfl⟩ := List.mem_map.mp h
        exact sw_mem ha hb hy
      · intro h
        exact List.mem_map.mpr ⟨sw a b x, sw_mem ha hb h, sw_sw _ _ _⟩
  unfold cnt
  rw [← P.countP_eq (fun h => φ (f h)), List.countP_map]
  rfl
theorem cnt_set {φ : Option Nat → Bool} {f f' : Nat → Option Nat} {a o : Nat} (h0 : φ none = false) (ha : a ∈ hourC) (hf : f a = none) (hu : ∀ h, f' h = if h = a then some o else f h) : cnt φ f' = cnt φ f + if φ (some o) then 1 else 0 := by
  unfold cnt
  refine countP_upd (f := fun h => φ (f h)) (a := a) hourC_nd ha (by rw [hf, h0]) fun h => ?_
  rw [hu]; split <;> rfl
/-- counting on the table itself -/
theorem cnt_tab {φ : Option Nat → Bool} (h0 : φ none = false) : ∀ {tab : List (Nat × Nat)}, (tab.map (·.1)).Nodup → (∀ e ∈ tab, e.1 ∈ hourC) → tab.countP (fun e => φ (some e.2)) = cnt φ fun h => tab.lookup h
  | [], _, _ => by
    unfold cnt
    simp [h0]
  | e :: r, nd, hk => by
    rw [List.map_cons, List.nodup_cons] at nd
    rw [List.countP_cons, cnt_tab h0 nd.2 fun x hx => hk x (List.mem_cons_of_mem _ hx)]
    refine (cnt_set (φ := φ) (f := fun h => r.lookup h) (a := e.1) (o := e.2) h0 (hk e List.mem_cons_self) ?_ fun h => ?_).symm
    · cases z : r.lookup e.1 with
      | none => rfl
      | some o => exact absurd (List.mem_map.mpr ⟨_, (lookup_mem nd.2).mp z, rfl⟩) nd.1
    · rw [List.lookup_cons]
      by_cases z : h = e.1
      · rw [if_pos z, show (h == e.1) = true from by simpa using z]
      · rw [if_neg z, show (h == e.1) = false from by simpa using z]
structure InvD (T : Tabs) (Δ : Nat) : Prop where
  inv : Inv T
  key : ∀ p h o, lk T p h = some o → 97 ≤ h ∧ h < 97 + Δ
section
variable {T : Tabs} {Δ t g p : Nat}
theorem InvD.keys (I : InvD T Δ) : ∀ e ∈ T p, 97 ≤ e.1 ∧ e.1 < 97 + Δ := fun e he => I.key p e.1 e.2 ((lookup_mem (I.inv.nd p)).mpr he)
theorem lk_none (I : Inv T) {h : Nat} : lk T p h = none ↔ h ∉ (T p).map (·.1) := by
  constructor
  · intro e hm
    obtain ⟨x, hx, rfl⟩ := List.mem_map.mp hm
    have := (lookup_mem (I.nd p)).mpr hx
    unfold lk at e
    rw [e] at this; cases this
  · intro hn
    cases e : lk T p h with
    | none => rfl
    | some o => exact absurd (List.mem_map.mpr ⟨_, (lookup_mem (I.nd p)).mp e, rfl⟩) hn
theorem free_hour (I : InvD T Δ) (hd : Δ ≤ 12) (hl : (T p).length < Δ) : (97 ≤ ft T p ∧ ft T p < 97 + Δ) ∧ lk T p (ft T p) = none := by
  have ex : ∃ m, m < Δ ∧ 97 + m ∉ (T p).map (·.1) := by
    apply Classical.byContradiction
    intro no
    have all : ∀ x ∈ (List.range Δ).map (97 + ·), x ∈ (T p).map (·.1) := fun x hx => by
      obtain ⟨m, hm, rfl⟩ := List.mem_map.mp hx
      apply Classical.byContradiction
      intro z; exact no ⟨m, List.mem_range.mp hm, z⟩
    have nd : ((List.range Δ).map (97 + ·)).Nodup := by
      rw [List.Nodup, List.pairwise_map]
      exact List.Pairwise.imp (fun {a b} h e => h (by exact Nat.add_left_cancel e)) List.nodup_range
    have := nodup_len nd all
    simp at this; (exact absurd this (Nat.not_le_of_lt hl))
  have mn : ∃ m, (m < Δ ∧ 97 + m ∉ (T p).map (·.1)) ∧ ∀ j, j < m → ¬(j < Δ ∧ 97 + j ∉ (T p).map (·.1)) := by
    obtain ⟨m, hm⟩ := ex
    induction m using Nat.strongRecOn with
    | ind m ih =>
      by_cases z : ∃ j, j < m ∧ (j < Δ ∧ 97 + j ∉ (T p).map (·.1))
      · obtain ⟨j, h1, h2⟩ := z; exact ih j h1 h2
      · exact ⟨m, hm, fun j h1 h2 => z ⟨j, h1, h2⟩⟩
  obtain ⟨m, ⟨h1, h2⟩, h3⟩ := mn
  have e : ft T p = 97 + m := freeT_of (by exact Nat.lt_succ_of_lt (Nat.lt_of_lt_of_le h1 hd)) (fun j hj => by
    apply Classical.byContradiction
    intro z; exact h3 j hj ⟨by exact Nat.lt_trans hj h1, z⟩) h2
  rw [e]
  exact ⟨by exact Mine.h97 h1, (lk_none I.inv).mpr h2⟩
theorem step_ok (I : InvD T Δ) (hd : Δ ≤ 12) (ht : t ∈ TC) (hg : g ∈ grpC) (lt : (T t).length < Δ) (lg : (T g).length < Δ) : Ok T t g := by
  obtain ⟨a1, a2⟩ := free_hour I hd lt
  obtain ⟨b1, b2⟩ := free_hour I hd lg
  exact ⟨hourC_of hd a1, hourC_of hd b1, wayOf_wayF I.inv hg b2⟩
theorem step_inv (I : InvD T Δ) (hd : Δ ≤ 12) (ht : t ∈ TC) (hg : g ∈ grpC) (lt : (T t).length < Δ) (lg : (T g).length < Δ) : InvD (lessonF T t g) Δ := by
  obtain ⟨a1, a2⟩ := free_hour I hd lt
  obtain ⟨b1, b2⟩ := free_hour I hd lg
  have hw := wayOf_wayF (a := ft T t) I.inv hg b2
  refine ⟨lesson_inv I.inv ht hg a2 b2 hw, fun p h o e => ?_⟩
  rw [show lessonF T t g = lessonT T t g (wayF T 16 (ft T t) (ft T g) g) from rfl, lesson_lk I.inv hg b2 hw] at e
  by_cases h1 : p = g ∧ h = ft T t
  · rw [h1.2]; exact a1
  · rw [if_neg h1] at e
    by_cases h2 : p = t ∧ h = ft T t
    · rw [h2.2]; exact a1
    · rw [if_neg h2] at e
      rcases sw_cases (ft T t) (ft T g) h with ⟨e1, _⟩ | ⟨e1, _⟩ | ⟨_, _, e2⟩
      · rw [e1]; exact a1
      · rw [e1]; exact b1
      · rw [e2] at e
        split at e <;> exact I.key _ _ _ e
theorem step_cnt {φ : Option Nat → Bool} (h0 : φ none = false) (I : InvD T Δ) (hd : Δ ≤ 12) (ht : t ∈ TC) (hg : g ∈ grpC) (lt : (T t).length < Δ) (lg : (T g).length < Δ) (q : Nat) :
    cnt φ (lk (lessonF T t g) q) = cnt φ (lk T q) + if q = g then (if φ (some t) then 1 else 0) else if q = t then (if φ (some g) then 1 else 0) else 0 := by
  obtain ⟨a1, a2⟩ := free_hour I hd lt
  obtain ⟨b1, b2⟩ := free_hour I hd lg
  have hw := wayOf_wayF (a := ft T t) I.inv hg b2
  have L := fun h => lesson_lk I.inv hg b2 hw q h
  have tn := t_off I.inv ht hg a2 b2 hw
  have ntg : t ≠ g := fun e => disj ht (e ▸ hg)
  have ma := hourC_of hd a1
  have mb := hourC_of hd b1
  show cnt φ (lk (lessonT T t g (wayF T 16 (ft T t) (ft T g) g)) q) = _
  by_cases h1 : q = g
  · subst h1
    rw [if_pos rfl]
    rw [cnt_set (φ := φ) (f := fun h => lk T q (sw (ft T t) (ft T q) h)) (a := ft T t) (o := t) h0 ma (by rw [show sw (ft T t) (ft T q) (ft T t) = ft T q from by unfold sw; rw [if_pos rfl], b2]) fun h => ?_, cnt_sw (f := lk T q) ma mb]
    rw [L]
    by_cases z : h = ft T t
    · rw [if_pos ⟨rfl, z⟩, if_pos z]
    · rw [if_neg (fun y => z y.2), if_neg (fun y => z y.2), if_pos g_on, if_neg z]
  · rw [if_neg h1]
    by_cases h2 : q = t
    · subst h2
      rw [if_pos rfl]
      refine cnt_set (φ := φ) (f := lk T q) (a := ft T q) (o := g) h0 ma a2 fun h => ?_
      rw [L, if_neg (fun y => h1 y.1)]
      by_cases z : h = ft T q
      · rw [if_pos ⟨rfl, z⟩, if_pos z]
      · rw [if_neg (fun y => z y.2), if_neg tn, if_neg z]
    · rw [if_neg h2, Nat.add_zero]
      by_cases h3 : onWay g (wayF T 16 (ft T t) (ft T g) g) q
      · rw [← cnt_sw (φ := φ) (f := lk T q) ma mb]
        unfold cnt
        refine List.countP_congr fun h _ => ?_
        rw [L, if_neg (fun y => h1 y.1), if_neg (fun y => h2 y.1), if_pos h3]
      · unfold cnt
        refine List.countP_congr fun h _ => ?_
        rw [L, if_neg (fun y => h1 y.1), if_neg (fun y => h2 y.1), if_neg h3]
end
end Mine
end
/-! part P4 -/
section
set_option maxRecDepth 100000
set_option maxHeartbeats 4000000
set_option linter.unusedVariables false
namespace Mine
def hit (φ : Option Nat → Bool) (q : Nat) (x : Nat × Nat) : Bool := if q = x.2 then φ (some x.1) else if q = x.1 then φ (some x.2) else false
abbrev anyP (o : Option Nat) : Bool := o.isSome
structure Good (Δ : Nat) (l : List (Nat × Nat)) : Prop where
  inv : InvD (foldT blankT l) Δ
  cnt : ∀ φ, φ none = false → ∀ q, cnt φ (lk (foldT blankT l) q) = l.countP (hit φ q)
theorem tab_len {T : Tabs} {Δ : Nat} (hd : Δ ≤ 12) (I : InvD T Δ) (q : Nat) : (T q).length = cnt anyP (lk T q) := by
  have := cnt_tab (φ := anyP) rfl (I.inv.nd q) fun e he => hourC_of hd (I.keys e he)
  rw [show (cnt anyP fun h => (T q).lookup h) = cnt anyP (lk T q) from rfl] at this
  rw [← this, List.countP_eq_length.mpr (by intro a _; rfl)]
theorem good_nil (Δ : Nat) : Good Δ [] :=
  ⟨⟨⟨fun p => List.nodup_nil, fun p h o e => (by cases e), fun p h o e => (by cases e)⟩, fun p h o e => (by cases e)⟩, fun φ h q => by
    unfold Mine.cnt
    show List.countP (fun h => φ none) hourC = 0
    rw [h]; simp⟩
theorem foldT_one (l : List (Nat × Nat)) (x : Nat × Nat) : foldT blankT (l ++ [x]) = lessonF (foldT blankT l) x.1 x.2 := by
  unfold foldT; rw [List.foldl_append]; rfl
theorem good_room {Δ : Nat} {l : List (Nat × Nat)} {x : Nat × Nat} (hd : Δ ≤ 12) (G : Good Δ l) (hx : x.1 ∈ TC ∧ x.2 ∈ grpC) (hb : ∀ q, (l ++ [x]).countP (hit anyP q) ≤ Δ) :
    (foldT blankT l x.1).length < Δ ∧ (foldT blankT l x.2).length < Δ := by
  rw [tab_len hd G.inv, tab_len hd G.inv, G.cnt anyP rfl, G.cnt anyP rfl]
  have h1 := hb x.1
  have h2 := hb x.2
  rw [List.countP_append, List.countP_singleton] at h1 h2
  rw [if_pos (by unfold hit; rw [if_pos rfl]; rfl)] at h2
  rw [if_pos (by unfold hit; rw [if_neg (fun e : x.1 = x.2 => disj hx.1 (by rw [e]; exact hx.2)), if_pos rfl]; rfl)] at h1
  omega
theorem good_one {Δ : Nat} {l : List (Nat × Nat)} {x : Nat × Nat} (hd : Δ ≤ 12) (G : Good Δ l) (hx : x.1 ∈ TC ∧ x.2 ∈ grpC) (hb : ∀ q, (l ++ [x]).countP (hit anyP q) ≤ Δ) : Good Δ (l ++ [x]) := by
  obtain ⟨r1, r2⟩ := good_room hd G hx hb
  refine ⟨?_, fun φ h0 q => ?_⟩
  · rw [foldT_one]; exact step_inv G.inv hd hx.1 hx.2 r1 r2
  · rw [foldT_one, step_cnt h0 G.inv hd hx.1 hx.2 r1 r2, G.cnt φ h0, List.countP_append, List.countP_singleton]
    congr 1
    unfold hit
    by_cases h1 : q = x.2
    · rw [if_pos h1, if_pos h1]
    · rw [if_neg h1, if_neg h1]
      by_cases h2 : q = x.1
      · rw [if_pos h2, if_pos h2]
      · rw [if_neg h2, if_neg h2]; rfl
section
variable {Δ : Nat} {l : List (Nat × Nat)}
theorem good_take (hd : Δ ≤ 12) (hx : ∀ x ∈ l, x.1 ∈ TC ∧ x.2 ∈ grpC) (hb : ∀ q, l.countP (hit anyP q) ≤ Δ) : ∀ n, n ≤ l.length → Good Δ (l.take n)
  | 0, _ => good_nil Δ
  | n + 1, h => by
    have e : l.take (n + 1) = l.take n ++ [l[n]] := by rw [List.take_add_one, List.getElem?_eq_getElem (by exact Nat.lt_of_succ_le h)]; rfl
    rw [e]
    refine good_one hd (good_take hd hx hb n (by exact Nat.le_of_succ_le h)) (hx _ (List.getElem_mem _)) fun q => ?_
    rw [← e]
    exact Nat.le_trans (List.Sublist.countP_le (List.take_sublist _ _)) (hb q)
theorem good_all (hd : Δ ≤ 12) (hx : ∀ x ∈ l, x.1 ∈ TC ∧ x.2 ∈ grpC) (hb : ∀ q, l.countP (hit anyP q) ≤ Δ) : Good Δ l := by
  have := good_take hd hx hb l.length (Nat.le_refl _)
  rwa [List.take_length] at this
theorem steps_ok (hd : Δ ≤ 12) (hx : ∀ x ∈ l, x.1 ∈ TC ∧ x.2 ∈ grpC) (hb : ∀ q, l.countP (hit anyP q) ≤ Δ) : StepsOk blankT l := by
  intro pre x post e
  have e1 : pre ++ [x] = l.take (pre.length + 1) := by
    rw [e, List.take_append, List.take_of_length_le (Nat.le_succ _)]
    simp
  have e0 : pre = l.take pre.length := by rw [e, List.take_left]
  have G := good_take hd hx hb pre.length (by rw [e]; simp)
  rw [← e0] at G
  have xm : x ∈ l := by rw [e]; simp
  obtain ⟨r1, r2⟩ := good_room hd G (hx x xm) fun q => by
    rw [e1]; exact Nat.le_trans (List.Sublist.countP_le (List.take_sublist _ _)) (hb q)
  exact step_ok G.inv hd (hx x xm).1 (hx x xm).2 r1 r2
end
end Mine
end
/-! part P5 -/
section
set_option maxRecDepth 100000
set_option maxHeartbeats 4000000
set_option linter.unusedVariables false
namespace Mine
/-! the pages, in closed form -/
theorem bump_at {zs : List Int} {i c : Nat} (hc : c < zs.length) : (bump zs i).getD c 0 = zs.getD c 0 + if i = c then 1 else 0 := by
  unfold bump
  rw [List.getD_eq_getElem?_getD, List.getD_eq_getElem?_getD, List.getElem?_set]
  by_cases h : i = c
  · subst h
    rw [if_pos rfl, if_pos hc, if_pos rfl]; rfl
  · rw [if_neg h, if_neg h, Int.add_zero, List.getD_eq_getElem?_getD]
theorem fold_at {k1 ix : Nat × Nat → Nat} {h c : Nat} : ∀ {tab : List (Nat × Nat)} {f : PgF}, Len16 f → c < 16 →
    (tab.foldl (fun f e => put0 f (k1 e) (ix e)) f h).getD c 0 = (f h).getD c 0 + (tab.countP fun e => k1 e == h && ix e == c : Nat)
  | [], f, l, hc => by simp
  | e :: r, f, l, hc => by
    rw [List.foldl_cons, fold_at (l.put _ _) hc, List.countP_cons]
    unfold put0
    by_cases h1 : h = k1 e
    · rw [if_pos h1, bump_at (by rw [l]; exact hc)]
      subst h1
      by_cases h2 : ix e = c
      · simp [h2]; omega
      · simp [h2]
    · rw [if_neg h1]
      have : (k1 e == h && ix e == c) = false := by simp; intro z; exact absurd z.symm h1
      simp [this]
theorem cnt1 {h o : Nat} : ∀ {tab : List (Nat × Nat)}, (tab.map (·.1)).Nodup → (tab.countP fun e => e.1 == h && e.2 == o) = if tab.lookup h = some o then 1 else 0
  | [], _ => by simp
  | e :: r, nd => by
    rw [List.map_cons, List.nodup_cons] at nd
    rw [List.countP_cons, cnt1 nd.2, List.lookup_cons]
    by_cases h1 : h = e.1
    · have hr : r.lookup h = none := by
        cases z : r.lookup h with
        | none => rfl
        | some o' => exact absurd (List.mem_map.mpr ⟨(h, o'), (lookup_mem nd.2).mp z, h1⟩) nd.1
      rw [hr, if_neg (by intro z; cases z), show (h == e.1) = true from by simpa using h1]
      by_cases h2 : e.2 = o
      · simp [h1, h2]
      · simp [h1, h2]
    · rw [show (h == e.1) = false from by simpa using h1, show (e.1 == h) = false from by simpa using Ne.symm h1]
      simp
def gp (j : Nat) : Nat := grpC.getD j 0
def pgv (T : Tabs) (h c : Nat) : Int := if lk T (48 + c / 4) h = some (gp (c % 4)) then 1 else 0
def pgl (T : Tabs) (h : Nat) : List Int := (List.range 16).map (pgv T h)
theorem gi_gp {g j : Nat} (hg : g ∈ grpC) (hj : j < 4) : gi g = j ↔ g = gp j := by
  simp only [grpC, List.mem_cons, List.not_mem_nil, or_false] at hg
  match j, hj with
  | 0, _ | 1, _ | 2, _ | 3, _ => rcases hg with rfl | rfl | rfl | rfl <;> decide
section
variable {T : Tabs} {h : Nat}
theorem cell0 (I : Inv T) {k c : Nat} (hk : k < 4) (hc : c < 16) : ((T (48 + k)).countP fun e => e.1 == h && (4 * k + gi e.2 == c)) = if c / 4 = k ∧ lk T (48 + c / 4) h = some (gp (c % 4)) then 1 else 0 := by
  have hg : ∀ e ∈ T (48 + k), e.2 ∈ grpC := fun e he => by
    rcases I.bip _ _ _ ((lookup_mem (I.nd _)).mpr he) with z | z
    · exact z.2
    · exact absurd z.1 (disj (show 48 + k ∈ TC by simp only [TC, List.mem_cons, List.not_mem_nil, or_false]; (exact Mine.tc4 hk)))
  by_cases hr : c / 4 = k
  · rw [List.countP_congr (q := fun e => e.1 == h && e.2 == gp (c % 4)) fun e he => ?_, cnt1 (I.nd _)]
    · simp only [hr, true_and]; rfl
    · have := gi_gp (hg e he) (show c % 4 < 4 by exact Nat.mod_lt _ (Nat.zero_lt_succ _))
      simp only [Bool.and_eq_true, beq_iff_eq]
      rw [← this]
      constructor <;> rintro ⟨a, b⟩ <;> exact ⟨a, by omega⟩
  · rw [if_neg (fun z => hr z.1), List.countP_eq_zero.mpr]
    intro e he z
    have := gi_lt (hg e he)
    simp only [Bool.and_eq_true, beq_iff_eq] at z
    (exact Mine.dm7 hr this z.2)
theorem cell1 (I : Inv T) {k c : Nat} (hk : k < 4) (hc : c < 16) : ((T (gp k)).countP fun e => e.1 == h && (4 * (e.2 - 48) + k == c)) = if c % 4 = k ∧ lk T (48 + c / 4) h = some (gp (c % 4)) then 1 else 0 := by
  have hgk : gp k ∈ grpC := by
    match k, hk with
    | 0, _ | 1, _ | 2, _ | 3, _ => decide
  have ht : ∀ e ∈ T (gp k), 48 ≤ e.2 ∧ e.2 < 52 := fun e he => by
    rcases I.bip _ _ _ ((lookup_mem (I.nd _)).mpr he) with z | z
    · exact absurd hgk (disj z.1)
    · have := z.2
      simp only [TC, List.mem_cons, List.not_mem_nil, or_false] at this; (exact Mine.tc6 this)
  by_cases hr : c % 4 = k
  · rw [List.countP_congr (q := fun e => e.1 == h && e.2 == 48 + c / 4) fun e he => ?_, cnt1 (I.nd _)]
    · subst hr
      have : (T (gp (c % 4))).lookup h = some (48 + c / 4) ↔ lk T (48 + c / 4) h = some (gp (c % 4)) := ⟨I.sym _ _ _, I.sym _ _ _⟩
      simp only [this, true_and]
    · have := ht e he
      simp only [Bool.and_eq_true, beq_iff_eq]
      constructor <;> rintro ⟨a, b⟩ <;> exact ⟨a, by (first | exact Mine.dm9 hk this.1 b | exact Mine.dm8 hr b | omega)⟩
  · rw [if_neg (fun z => hr z.1), List.countP_eq_zero.mpr]
    intro e he z
    have := ht e he
    simp only [Bool.and_eq_true, beq_iff_eq] at z
    (exact Mine.dm10 hk hr z.2)
theorem blank_at (h c : Nat) (hc : c < 16) : (blankP h).getD c 0 = 0 := by
  show (List.replicate 16 (0 : Int)).getD c 0 = 0
  rw [List.getD_eq_getElem?_getD, List.getElem?_replicate, if_pos hc]; rfl
theorem pg0_at (I : Inv T) {c : Nat} (hc : c < 16) : ∀ k, k ≤ 4 → (pg0 T k h).getD c 0 = if c / 4 < k ∧ lk T (48 + c / 4) h = some (gp (c % 4)) then 1 else 0
  | 0, _ => by rw [if_neg (by omega)]; exact blank_at h c hc
  | k + 1, hk => by
    show (pg0K (pg0 T k) k (T (48 + k)) h).getD c 0 = _
    unfold pg0K
    rw [fold_at (len16_0 T k) hc, pg0_at I hc k (by exact Nat.le_of_succ_le hk), cell0 I (by exact Nat.lt_of_succ_le hk) hc]
    by_cases h1 : lk T (48 + c / 4) h = some (gp (c % 4))
    · simp only [h1, and_true]
      by_cases h2 : c / 4 < k
      · rw [if_pos h2, if_neg (by exact Nat.ne_of_lt h2), if_pos (by exact Nat.lt_succ_of_lt h2)]; rfl
      · by_cases h3 : c / 4 = k
        · rw [if_neg h2, if_pos h3, if_pos (by exact Nat.lt_succ_of_le (Nat.le_of_eq h3))]; rfl
        · rw [if_neg h2, if_neg h3, if_neg (by exact Mine.np1 h2 h3)]; rfl
    · simp [h1]
theorem pg1_at (I : Inv T) {c : Nat} (hc : c < 16) : ∀ k, k ≤ 4 → (pg1 T k h).getD c 0 = if c % 4 < k ∧ lk T (48 + c / 4) h = some (gp (c % 4)) then 1 else 0
  | 0, _ => by rw [if_neg (by omega)]; exact blank_at h c hc
  | k + 1, hk => by
    show (pg1K (pg1 T k) k (T (gp k)) h).getD c 0 = _
    unfold pg1K
    rw [fold_at (len16_1 T k) hc, pg1_at I hc k (by exact Nat.le_of_succ_le hk), cell1 I (by exact Nat.lt_of_succ_le hk) hc]
    by_cases h1 : lk T (48 + c / 4) h = some (gp (c % 4))
    · simp only [h1, and_true]
      by_cases h2 : c % 4 < k
      · rw [if_pos h2, if_neg (by exact Nat.ne_of_lt h2), if_pos (by exact Nat.lt_succ_of_lt h2)]; rfl
      · by_cases h3 : c % 4 = k
        · rw [if_neg h2, if_pos h3, if_pos (by exact Nat.lt_succ_of_le (Nat.le_of_eq h3))]; rfl
        · rw [if_neg h2, if_neg h3, if_neg (by exact Mine.np1 h2 h3)]; rfl
    · simp [h1]
theorem list16 {a : List Int} (f : Nat → Int) (hl : a.length = 16) (h : ∀ c, c < 16 → a.getD c 0 = f c) : a = (List.range 16).map f := by
  refine List.ext_getElem (by simpa using hl) fun i h1 h2 => ?_
  have := h i (by exact Nat.lt_of_lt_of_le h1 (Nat.le_of_eq hl))
  rw [List.getD_eq_getElem?_getD, List.getElem?_eq_getElem h1] at this
  simpa using this
theorem pg0_eq (I : Inv T) : pg0 T 4 h = pgl T h := list16 _ (len16_0 T 4 h) fun c hc => by
  rw [pg0_at I hc 4 (Nat.le_refl _)]; unfold pgv
  by_cases h1 : lk T (48 + c / 4) h = some (gp (c % 4))
  · rw [if_pos ⟨by exact Nat.div_lt_of_lt_mul hc, h1⟩, if_pos h1]
  · rw [if_neg (fun z => h1 z.2), if_neg h1]
theorem pg1_eq (I : Inv T) : pg1 T 4 h = pgl T h := list16 _ (len16_1 T 4 h) fun c hc => by
  rw [pg1_at I hc 4 (Nat.le_refl _)]; unfold pgv
  by_cases h1 : lk T (48 + c / 4) h = some (gp (c % 4))
  · rw [if_pos ⟨by exact Nat.mod_lt _ (Nat.zero_lt_succ _), h1⟩, if_pos h1]
  · rw [if_neg (fun z => h1 z.2), if_neg h1]
theorem sum4 (a b c d : Int) : [a, b, c, d].sum = a + b + c + d := by
  simp only [List.sum_cons, List.sum_nil]; omega
theorem gp_inj : ∀ i j, i < 4 → j < 4 → gp i = gp j → i = j := fun i j hi hj => by
  match i, j, hi, hj with
  | 0, 0, _, _ | 0, 1, _, _ | 0, 2, _, _ | 0, 3, _, _ | 1, 0, _, _ | 1, 1, _, _ | 1, 2, _, _ | 1, 3, _, _ | 2, 0, _, _ | 2, 1, _, _ | 2, 2, _, _ | 2, 3, _, _ | 3, 0, _, _ | 3, 1, _, _ | 3, 2, _, _ | 3, 3, _, _ => decide
def used (T : Tabs) (p h : Nat) : Int := if (lk T p h).isSome then 1 else 0
theorem four_of (o : Option Nat) (f : Nat → Nat) (hf : ∀ i j, i < 4 → j < 4 → f i = f j → i = j) (ho : ∀ x, o = some x → ∃ j, j < 4 ∧ x = f j) :
    (if o = some (f 0) then (1 : Int) else 0) + (if o = some (f 1) then 1 else 0) + (if o = some (f 2) then 1 else 0) + (if o = some (f 3) then 1 else 0) = if o.isSome then 1 else 0 := by
  cases o with
  | none => simp
  | some x =>
    obtain ⟨j, hj, rfl⟩ := ho x rfl
    have e : ∀ i, i < 4 → (some (f j) = some (f i) ↔ j = i) := fun i hi => ⟨fun z => hf j i hj hi (Option.some.inj z), fun z => by rw [z]⟩
    simp only [e 0 (by exact Nat.zero_lt_succ _), e 1 (by exact Nat.lt_succ_of_le (Nat.le_add_left _ _)), e 2 (by exact Nat.lt_succ_of_le (Nat.le_add_left _ _)), e 3 (by exact Nat.lt_succ_self _), Option.isSome_some, if_true]
    match j, hj with
    | 0, _ | 1, _ | 2, _ | 3, _ => rfl
theorem grp_four (I : Inv T) {k : Nat} (hk : k < 4) : ∀ x, lk T (48 + k) h = some x → ∃ j, j < 4 ∧ x = gp j := fun x e => by
  rcases I.bip _ _ _ e with z | z
  · have := z.2
    simp only [grpC, List.mem_cons, List.not_mem_nil, or_false] at this
    rcases this with rfl | rfl | rfl | rfl
    · exact ⟨0, by exact Nat.zero_lt_succ _, rfl⟩
    · exact ⟨1, by exact Nat.lt_succ_of_le (Nat.le_add_left _ _), rfl⟩
    · exact ⟨2, by exact Nat.lt_succ_of_le (Nat.le_add_left _ _), rfl⟩
    · exact ⟨3, by exact Nat.lt_succ_self _, rfl⟩
  · exact absurd z.1 (disj (show 48 + k ∈ TC by simp only [TC, List.mem_cons, List.not_mem_nil, or_false]; (exact Mine.tc4 hk)))
theorem tea_four (I : Inv T) {k : Nat} (hk : k < 4) : ∀ x, lk T (gp k) h = some x → ∃ j, j < 4 ∧ x = 48 + j := fun x e => by
  rcases I.bip _ _ _ e with z | z
  · exact absurd (show gp k ∈ grpC by match k, hk with | 0, _ | 1, _ | 2, _ | 3, _ => decide) (disj z.1)
  · have := z.2
    simp only [TC, List.mem_cons, List.not_mem_nil, or_false] at this
    exact ⟨x - 48, by exact Mine.tc7 this, by exact Mine.tc5 this⟩
theorem rowSum_pgl (I : Inv T) {k : Nat} (hk : k < 4) : rowSum (pgl T h) k = used T (48 + k) h := by
  have e : rowSum (pgl T h) k = pgv T h (4 * k) + pgv T h (4 * k + 1) + pgv T h (4 * k + 2) + pgv T h (4 * k + 3) := by
    match k, hk with
    | 0, _ | 1, _ | 2, _ | 3, _ =>
      exact sum4 _ _ _ _
  rw [e]
  unfold used pgv
  have q : ∀ j, j < 4 → (4 * k + j) / 4 = k ∧ (4 * k + j) % 4 = j := fun j hj => by exact Mine.dm4 hj
  rw [show 4 * k = 4 * k + 0 from rfl, (q 0 (by exact Nat.zero_lt_succ _)).1, (q 0 (by exact Nat.zero_lt_succ _)).2, (q 1 (by exact Nat.lt_succ_of_le (Nat.le_add_left _ _))).1, (q 1 (by exact Nat.lt_succ_of_le (Nat.le_add_left _ _))).2, (q 2 (by exact Nat.lt_succ_of_le (Nat.le_add_left _ _))).1, (q 2 (by exact Nat.lt_succ_of_le (Nat.le_add_left _ _))).2, (q 3 (by exact Nat.lt_succ_self _)).1, (q 3 (by exact Nat.lt_succ_self _)).2]
  exact four_of _ gp gp_inj (grp_four I hk)
theorem colSum_pgl (I : Inv T) {k : Nat} (hk : k < 4) : colSum (pgl T h) k = used T (gp k) h := by
  have e : colSum (pgl T h) k = pgv T h (4 * 0 + k) + pgv T h (4 * 1 + k) + pgv T h (4 * 2 + k) + pgv T h (4 * 3 + k) := by
    match k, hk with
    | 0, _ | 1, _ | 2, _ | 3, _ =>
      exact sum4 _ _ _ _
  rw [e]
  unfold used pgv
  have q : ∀ j, j < 4 → (4 * j + k) / 4 = j ∧ (4 * j + k) % 4 = k := fun j hj => by exact Mine.dm4 hk
  rw [(q 0 (by exact Nat.zero_lt_succ _)).1, (q 0 (by exact Nat.zero_lt_succ _)).2, (q 1 (by exact Nat.lt_succ_of_le (Nat.le_add_left _ _))).1, (q 1 (by exact Nat.lt_succ_of_le (Nat.le_add_left _ _))).2, (q 2 (by exact Nat.lt_succ_of_le (Nat.le_add_left _ _))).1, (q 2 (by exact Nat.lt_succ_of_le (Nat.le_add_left _ _))).2, (q 3 (by exact Nat.lt_succ_self _)).1, (q 3 (by exact Nat.lt_succ_self _)).2]
  have sy : ∀ j, (lk T (48 + j) h = some (gp k)) = (lk T (gp k) h = some (48 + j)) := fun j => propext ⟨I.sym _ _ _, I.sym _ _ _⟩
  simp only [sy]
  exact four_of _ (48 + ·) (by omega) (tea_four I hk)
theorem max_one (I : Inv T) {M : Int} (hu : ∃ p, p ∈ persC ∧ (lk T p h).isSome = true) (h1 : M ∈ sumsOf (pgl T h)) (h2 : ∀ a ∈ sumsOf (pgl T h), a ≤ M) : M = 1 := by
  have le : ∀ a ∈ sumsOf (pgl T h), a ≤ 1 := fun a ha => by
    unfold sumsOf at ha
    rcases List.mem_append.mp ha with ha | ha
    all_goals
      obtain ⟨k, hk, rfl⟩ := List.mem_map.mp ha
      have hk := List.mem_range.mp hk
      first | rw [rowSum_pgl I hk] | rw [colSum_pgl I hk]
      unfold used; split <;> omega
  have one : (1 : Int) ∈ sumsOf (pgl T h) := by
    obtain ⟨p, hp, hs⟩ := hu
    have : ∃ k, k < 4 ∧ (p = 48 + k ∨ p = gp k) := by
      simp only [persC, List.mem_cons, List.not_mem_nil, or_false] at hp
      rcases hp with rfl | rfl | rfl | rfl | rfl | rfl | rfl | rfl
      · exact ⟨0, by exact Nat.zero_lt_succ _, .inr rfl⟩
      · exact ⟨0, by exact Nat.zero_lt_succ _, .inl rfl⟩
      · exact ⟨1, by exact Nat.lt_succ_of_le (Nat.le_add_left _ _), .inl rfl⟩
      · exact ⟨2, by exact Nat.lt_succ_of_le (Nat.le_add_left _ _), .inl rfl⟩
      · exact ⟨3, by exact Nat.lt_succ_self _, .inl rfl⟩
      · exact ⟨1, by exact Nat.lt_succ_of_le (Nat.le_add_left _ _), .inr rfl⟩
      · exact ⟨2, by exact Nat.lt_succ_of_le (Nat.le_add_left _ _), .inr rfl⟩
      · exact ⟨3, by exact Nat.lt_succ_self _, .inr rfl⟩
    obtain ⟨k, hk, e⟩ := this
    unfold sumsOf
    rcases e with rfl | rfl
    · exact List.mem_append_left _ (List.mem_map.mpr ⟨k, List.mem_range.mpr hk, by rw [rowSum_pgl I hk]; unfold used; rw [if_pos hs]⟩)
    · exact List.mem_append_right _ (List.mem_map.mpr ⟨k, List.mem_range.mpr hk, by rw [colSum_pgl I hk]; unfold used; rw [if_pos hs]⟩)
  have a := le _ h1
  have b := h2 _ one
  omega
end
end Mine
end
/-! part P6 -/
section
set_option maxRecDepth 100000
set_option maxHeartbeats 4000000
set_option linter.unusedVariables false
namespace Mine
/-! what is due, and the sums -/
def dueL (rows : Nat → List Nat) : List Int := (List.range 16).map fun c => (((rows (c / 4)).count (gp (c % 4)) : Nat) : Int)
section
variable {rows : Nat → List Nat} {Δ : Nat}
theorem gp_mem {k : Nat} (hk : k < 4) : gp k ∈ grpC := by
  match k, hk with
  | 0, _ | 1, _ | 2, _ | 3, _ => decide
theorem tc_mem {k : Nat} (hk : k < 4) : 48 + k ∈ TC := by simp only [TC, List.mem_cons, List.not_mem_nil, or_false]; (exact Mine.tc4 hk)
theorem upTo_count (p : Nat × Nat → Bool) : (upTo rows 4).countP p = ((rows 0).countP fun s => p (48, s)) + ((rows 1).countP fun s => p (49, s)) + ((rows 2).countP fun s => p (50, s)) + ((rows 3).countP fun s => p (51, s)) := by
  simp only [upTo, List.countP_append, List.countP_map, List.nil_append]
  rfl
theorem upTo_sides (hr : ∀ k, k < 4 → ∀ s ∈ rows k, s ∈ grpC) : ∀ x ∈ upTo rows 4, x.1 ∈ TC ∧ x.2 ∈ grpC := fun x hx => by
  have : ∃ k, k < 4 ∧ ∃ s ∈ rows k, x = (48 + k, s) := by
    simp only [upTo, List.mem_append, List.mem_map, List.nil_append] at hx
    rcases hx with ((⟨s, h, rfl⟩ | ⟨s, h, rfl⟩) | ⟨s, h, rfl⟩) | ⟨s, h, rfl⟩
    · exact ⟨0, by exact Nat.zero_lt_succ _, s, h, rfl⟩
    · exact ⟨1, by exact Nat.lt_succ_of_le (Nat.le_add_left _ _), s, h, rfl⟩
    · exact ⟨2, by exact Nat.lt_succ_of_le (Nat.le_add_left _ _), s, h, rfl⟩
    · exact ⟨3, by exact Nat.lt_succ_self _, s, h, rfl⟩
  obtain ⟨k, hk, s, hs, rfl⟩ := this
  exact ⟨tc_mem hk, hr k hk s hs⟩
/-- how often teacher k and class j meet -/
theorem hit_pair (hr : ∀ k, k < 4 → ∀ s ∈ rows k, s ∈ grpC) {k j : Nat} (hk : k < 4) (hj : j < 4) : (upTo rows 4).countP (hit (fun o => o == some (gp j)) (48 + k)) = (rows k).count (gp j) := by
  rw [upTo_count]
  have e : ∀ i, i < 4 → ((rows i).countP fun s => hit (fun o => o == some (gp j)) (48 + k) (48 + i, s)) = if i = k then (rows k).count (gp j) else 0 := fun i hi => by
    by_cases h : i = k
    · subst h
      rw [if_pos rfl, List.count]
      refine List.countP_congr fun s hs => ?_
      unfold hit
      rw [if_neg (fun z : 48 + i = s => disj (tc_mem hi) (by rw [z]; exact hr i hi s hs)), if_pos rfl]
      simp
    · rw [if_neg h, List.countP_eq_zero.mpr]
      intro s hs
      unfold hit
      rw [if_neg (fun z : 48 + k = s => disj (tc_mem hk) (by rw [z]; exact hr i hi s hs)), if_neg (fun z : 48 + k = 48 + i => h (by exact Nat.add_left_cancel (Eq.symm z)))]
      simp
  rw [show (48 : Nat) = 48 + 0 from rfl, show (49 : Nat) = 48 + 1 from rfl, show (50 : Nat) = 48 + 2 from rfl, show (51 : Nat) = 48 + 3 from rfl]
  rw [show 48 + 0 + k = 48 + k from rfl]
  rw [e 0 (by exact Nat.zero_lt_succ _), e 1 (by exact Nat.lt_succ_of_le (Nat.le_add_left _ _)), e 2 (by exact Nat.lt_succ_of_le (Nat.le_add_left _ _)), e 3 (by exact Nat.lt_succ_self _)]
  match k, hk with
  | 0, _ | 1, _ | 2, _ | 3, _ => simp
theorem hit_tea (hr : ∀ k, k < 4 → ∀ s ∈ rows k, s ∈ grpC) {k : Nat} (hk : k < 4) : (upTo rows 4).countP (hit anyP (48 + k)) = (rows k).length := by
  rw [upTo_count]
  have e : ∀ i, i < 4 → ((rows i).countP fun s => hit anyP (48 + k) (48 + i, s)) = if i = k then (rows k).length else 0 := fun i hi => by
    by_cases h : i = k
    · subst h
      rw [if_pos rfl, List.countP_eq_length.mpr]
      intro s hs
      unfold hit
      rw [if_neg (fun z : 48 + i = s => disj (tc_mem hi) (by rw [z]; exact hr i hi s hs)), if_pos rfl]
      rfl
    · rw [if_neg h, List.countP_eq_zero.mpr]
      intro s hs
      unfold hit
      rw [if_neg (fun z : 48 + k = s => disj (tc_mem hk) (by rw [z]; exact hr i hi s hs)), if_neg (fun z : 48 + k = 48 + i => h (by exact Nat.add_left_cancel (Eq.symm z)))]
      simp
  rw [show (48 : Nat) = 48 + 0 from rfl, show (49 : Nat) = 48 + 1 from rfl, show (50 : Nat) = 48 + 2 from rfl, show (51 : Nat) = 48 + 3 from rfl]
  rw [show 48 + 0 + k = 48 + k from rfl]
  rw [e 0 (by exact Nat.zero_lt_succ _), e 1 (by exact Nat.lt_succ_of_le (Nat.le_add_left _ _)), e 2 (by exact Nat.lt_succ_of_le (Nat.le_add_left _ _)), e 3 (by exact Nat.lt_succ_self _)]
  match k, hk with
  | 0, _ | 1, _ | 2, _ | 3, _ => simp
theorem hit_grp {j : Nat} (hj : j < 4) : (upTo rows 4).countP (hit anyP (gp j)) = (rows 0).count (gp j) + (rows 1).count (gp j) + (rows 2).count (gp j) + (rows 3).count (gp j) := by
  rw [upTo_count]
  have e : ∀ i, i < 4 → ((rows i).countP fun s => hit anyP (gp j) (48 + i, s)) = (rows i).count (gp j) := fun i hi => by
    rw [List.count]
    refine List.countP_congr fun s hs => ?_
    unfold hit
    by_cases z : gp j = s
    · rw [if_pos z, z]; simp
    · rw [if_neg z, if_neg (fun y : gp j = 48 + i => disj (tc_mem hi) (by rw [← y]; exact gp_mem hj))]
      simp; exact fun y => z y.symm
  rw [show (48 : Nat) = 48 + 0 from rfl, show (49 : Nat) = 48 + 1 from rfl, show (50 : Nat) = 48 + 2 from rfl, show (51 : Nat) = 48 + 3 from rfl]
  rw [e 0 (by exact Nat.zero_lt_succ _), e 1 (by exact Nat.lt_succ_of_le (Nat.le_add_left _ _)), e 2 (by exact Nat.lt_succ_of_le (Nat.le_add_left _ _)), e 3 (by exact Nat.lt_succ_self _)]
theorem hit_none {q : Nat} (hq : q ∉ persC) (hr : ∀ k, k < 4 → ∀ s ∈ rows k, s ∈ grpC) : (upTo rows 4).countP (hit anyP q) = 0 := by
  rw [List.countP_eq_zero]
  intro x hx
  obtain ⟨h1, h2⟩ := upTo_sides hr x hx
  unfold hit
  rw [if_neg (fun z : q = x.2 => hq (by rw [z]; exact (show ∀ y ∈ grpC, y ∈ persC by decide) _ h2)), if_neg (fun z : q = x.1 => hq (by rw [z]; exact (show ∀ y ∈ TC, y ∈ persC by decide) _ h1))]
  simp
theorem due_len : (dueL rows).length = 16 := by unfold dueL; simp
theorem row_len : ∀ {l : List Nat}, (∀ s ∈ l, s ∈ grpC) → l.count (gp 0) + l.count (gp 1) + l.count (gp 2) + l.count (gp 3) = l.length
  | [], _ => rfl
  | s :: l, h => by
    have ih := row_len fun x hx => h x (List.mem_cons_of_mem _ hx)
    have hs := h s List.mem_cons_self
    simp only [grpC, List.mem_cons, List.not_mem_nil, or_false] at hs
    simp only [List.count_cons, List.length_cons]
    rcases hs with rfl | rfl | rfl | rfl <;> simp [gp, grpC] at ih ⊢ <;> omega
theorem rowSum_due (hr : ∀ k, k < 4 → ∀ s ∈ rows k, s ∈ grpC) {k : Nat} (hk : k < 4) : rowSum (dueL rows) k = ((rows k).length : Nat) := by
  rw [← row_len (hr k hk)]
  match k, hk with
  | 0, _ | 1, _ | 2, _ | 3, _ =>
    refine (sum4 _ _ _ _).trans ?_
    norm_cast
theorem colSum_due {j : Nat} (hj : j < 4) : colSum (dueL rows) j = (((rows 0).count (gp j) + (rows 1).count (gp j) + (rows 2).count (gp j) + (rows 3).count (gp j) : Nat) : Int) := by
  match j, hj with
  | 0, _ | 1, _ | 2, _ | 3, _ =>
    refine (sum4 _ _ _ _).trans ?_
    norm_cast
theorem sums_due (hr : ∀ k, k < 4 → ∀ s ∈ rows k, s ∈ grpC) {a : Int} : a ∈ sumsOf (dueL rows) ↔ ∃ p ∈ persC, a = ((upTo rows 4).countP (hit anyP p) : Nat) := by
  have tea : ∀ k, k < 4 → 48 + k ∈ persC := fun k hk => (show ∀ y ∈ TC, y ∈ persC by decide) _ (tc_mem hk)
  have grp : ∀ k, k < 4 → gp k ∈ persC := fun k hk => (show ∀ y ∈ grpC, y ∈ persC by decide) _ (gp_mem hk)
  unfold sumsOf
  rw [List.mem_append, List.mem_map, List.mem_map]
  constructor
  · rintro (⟨k, hk, rfl⟩ | ⟨k, hk, rfl⟩)
    · have hk := List.mem_range.mp hk
      exact ⟨48 + k, tea k hk, by rw [rowSum_due hr hk, hit_tea hr hk]⟩
    · have hk := List.mem_range.mp hk
      exact ⟨gp k, grp k hk, by rw [colSum_due hk, hit_grp hk]⟩
  · rintro ⟨p, hp, rfl⟩
    have : ∃ k, k < 4 ∧ (p = 48 + k ∨ p = gp k) := by
      simp only [persC, List.mem_cons, List.not_mem_nil, or_false] at hp
      rcases hp with rfl | rfl | rfl | rfl | rfl | rfl | rfl | rfl
      · exact ⟨0, by exact Nat.zero_lt_succ _, .inr rfl⟩
      · exact ⟨0, by exact Nat.zero_lt_succ _, .inl rfl⟩
      · exact ⟨1, by exact Nat.lt_succ_of_le (Nat.le_add_left _ _), .inl rfl⟩
      · exact ⟨2, by exact Nat.lt_succ_of_le (Nat.le_add_left _ _), .inl rfl⟩
      · exact ⟨3, by exact Nat.lt_succ_self _, .inl rfl⟩
      · exact ⟨1, by exact Nat.lt_succ_of_le (Nat.le_add_left _ _), .inr rfl⟩
      · exact ⟨2, by exact Nat.lt_succ_of_le (Nat.le_add_left _ _), .inr rfl⟩
      · exact ⟨3, by exact Nat.lt_succ_self _, .inr rfl⟩
    obtain ⟨k, hk, e⟩ := this
    rcases e with rfl | rfl
    · exact .inl ⟨k, List.mem_range.mpr hk, by rw [rowSum_due hr hk, hit_tea hr hk]⟩
    · exact .inr ⟨k, List.mem_range.mpr hk, by rw [colSum_due hk, hit_grp hk]⟩
end
end Mine
end
/-! part P7 -/
section
open PySem PySem.W PySem.Calls PyProof.Rows
set_option maxRecDepth 100000
set_option maxHeartbeats 4000000
set_option linter.unusedVariables false
namespace Mine
section
variable {rows : Nat → List Nat} {Δ : Nat} {T : Tabs}
theorem deg_le (hr : ∀ k, k < 4 → ∀ s ∈ rows k, s ∈ grpC) {M : Nat} (h2 : ∀ a ∈ sumsOf (dueL rows), a ≤ (M : Int)) (q : Nat) : (upTo rows 4).countP (hit anyP q) ≤ M := by
  by_cases hq : q ∈ persC
  · have := h2 _ ((sums_due hr).mpr ⟨q, hq, rfl⟩)
    exact_mod_cast this
  · rw [hit_none hq hr]; exact Nat.zero_le _
theorem deg_12 (hr : ∀ k, k < 4 → ∀ s ∈ rows k, s ∈ grpC) (hl : ∀ k, k < 4 → (rows k).length ≤ 3) (q : Nat) : (upTo rows 4).countP (hit anyP q) ≤ 12 := by
  refine Nat.le_trans List.countP_le_length ?_
  simp only [upTo, List.length_append, List.length_map, List.nil_append]
  have := hl 0 (by exact Nat.zero_lt_succ _)
  have := hl 1 (by exact Nat.lt_succ_of_le (Nat.le_add_left _ _))
  have := hl 2 (by exact Nat.lt_succ_of_le (Nat.le_add_left _ _))
  have := hl 3 (by exact Nat.lt_succ_self _)
  omega
theorem books_ok (hr : ∀ k, k < 4 → ∀ s ∈ rows k, s ∈ grpC) (hl : ∀ k, k < 4 → (rows k).length ≤ 3) : StepsOk blankT (upTo rows 4) :=
  steps_ok (Δ := 12) (by exact Nat.le_refl _) (upTo_sides hr) (deg_12 hr hl)
theorem hour_used (hr : ∀ k, k < 4 → ∀ s ∈ rows k, s ∈ grpC) (hd : Δ ≤ 12) (h1 : (Δ : Int) ∈ sumsOf (dueL rows)) (G : Good Δ (upTo rows 4)) {i : Nat} (hi : i < Δ) :
    ∃ p, p ∈ persC ∧ (lk (foldT blankT (upTo rows 4)) p (97 + i)).isSome = true := by
  obtain ⟨p, hp, e⟩ := (sums_due hr).mp h1
  refine ⟨p, hp, ?_⟩
  have el : (foldT blankT (upTo rows 4) p).length = Δ := by
    rw [tab_len hd G.inv, G.cnt anyP rfl]; exact_mod_cast e.symm
  have GI := G.inv
  generalize foldT blankT (upTo rows 4) = T at *
  cases z : lk T p (97 + i) with
  | some o => rfl
  | none =>
    have hn := (lk_none GI.inv).mp z
    have sub : ∀ x ∈ (T p).map (·.1), x ∈ ((List.range Δ).map (97 + ·)).erase (97 + i) := fun x hx => by
      obtain ⟨y, hy, rfl⟩ := List.mem_map.mp hx
      have := GI.keys y hy
      refine (List.mem_erase_of_ne fun e => hn (by rw [← e]; exact hx)).mpr ?_
      exact List.mem_map.mpr ⟨y.1 - 97, List.mem_range.mpr (by exact Mine.hs1 this.1 this.2), by exact Nat.add_sub_of_le this.1⟩
    have := nodup_len (GI.inv.nd p) sub
    rw [List.length_map, el, List.length_erase_of_mem (List.mem_map.mpr ⟨i, List.mem_range.mpr hi, rfl⟩), List.length_map, List.length_range] at this
    (exact absurd (pi1 hi this) (Nat.lt_irrefl _))
/-! sums of the hours' numbers -/
theorem ev_sum (f : Nat → Nat → Int) (Δ : Nat) : ∀ (l : List Nat), ((List.range Δ).map fun i => ev (l.map (f i))).sum = ev (l.map fun c => ((List.range Δ).map fun i => f i c).sum)
  | [] => by
    induction Δ with
    | zero => rfl
    | succ n ih => rw [List.range_succ, List.map_append, List.sum_append]; simp [ev] at ih ⊢; exact ih
  | c :: l => by
    have ih := ev_sum f Δ l
    rw [List.map_cons, ev, ← ih]
    clear ih
    induction Δ with
    | zero => rfl
    | succ n ih =>
      simp only [List.range_succ, List.map_append, List.sum_append, List.map_cons, List.map_nil, List.sum_cons, List.sum_nil, ev] at ih ⊢
      omega
theorem cnt_range (φ : Option Nat → Bool) (f : Nat → Option Nat) : ∀ n, (((List.range n).map (97 + ·)).countP fun h => φ (f h) : Nat) = (((List.range n).map fun i => if φ (f (97 + i)) then 1 else 0).sum : Nat)
  | 0 => rfl
  | n + 1 => by
    rw [List.range_succ, List.map_append, List.countP_append, cnt_range φ f n, List.map_append, List.sum_append]
    simp [List.countP_cons]
theorem page_sum (hr : ∀ k, k < 4 → ∀ s ∈ rows k, s ∈ grpC) (hd : Δ ≤ 12) (G : Good Δ (upTo rows 4)) : ((List.range Δ).map fun i => ev (pgl (foldT blankT (upTo rows 4)) (97 + i))).sum = ev (dueL rows) := by
  unfold pgl dueL
  rw [ev_sum (fun i c => pgv (foldT blankT (upTo rows 4)) (97 + i) c)]
  congr 1
  refine List.map_congr_left fun c hc => ?_
  have hc := List.mem_range.mp hc
  have e := G.cnt (fun o => o == some (gp (c % 4))) (by rfl) (48 + c / 4)
  rw [hit_pair hr (by exact Nat.div_lt_of_lt_mul hc) (by exact Nat.mod_lt _ (Nat.zero_lt_succ _))] at e
  rw [← e]
  have GI := G.inv
  generalize foldT blankT (upTo rows 4) = T at *
  have out : ∀ i, Δ ≤ i → lk T (48 + c / 4) (97 + i) = none := fun i hi => by
    cases z : lk T (48 + c / 4) (97 + i) with
    | none => rfl
    | some o => have := GI.key _ _ _ z; (exact absurd (Nat.add_le_add_left hi _) (Nat.not_le_of_lt this.2))
  have up : ∀ d, (((List.range (Δ + d)).map (97 + ·)).countP fun h => lk T (48 + c / 4) h == some (gp (c % 4))) = ((List.range Δ).map (97 + ·)).countP fun h => lk T (48 + c / 4) h == some (gp (c % 4)) := by
    intro d
    induction d with
    | zero => rfl
    | succ d ih =>
      rw [← Nat.add_assoc, List.range_succ, List.map_append, List.countP_append, ih]
      simp [out (Δ + d) (by exact Nat.le_add_right _ _)]
  have h12 : cnt (fun o => o == some (gp (c % 4))) (lk T (48 + c / 4)) = ((List.range Δ).map (97 + ·)).countP fun h => lk T (48 + c / 4) h == some (gp (c % 4)) := by
    have := up (12 - Δ)
    rw [show Δ + (12 - Δ) = 12 from by exact Nat.add_sub_of_le hd] at this
    exact this
  rw [h12, cnt_range (fun o => o == some (gp (c % 4))) (lk T (48 + c / 4)) Δ]
  have cast : ∀ n, ((List.range n).map fun i => pgv T (97 + i) c).sum = (((List.range n).map fun i => if (lk T (48 + c / 4) (97 + i) == some (gp (c % 4))) = true then 1 else 0).sum : Nat) := by
    intro n
    induction n with
    | zero => rfl
    | succ n ih =>
      rw [List.range_succ, List.map_append, List.sum_append, List.map_append, List.sum_append, ih]
      simp only [List.map_cons, List.map_nil, List.sum_cons, List.sum_nil]
      unfold pgv
      by_cases z : lk T (48 + c / 4) (97 + n) = some (gp (c % 4))
      · simp [z]
      · simp [z]
  exact cast Δ
/-! and back from the number to the lessons -/
theorem due_small (hl : ∀ k, k < 4 → (rows k).length ≤ 3) : ∀ z ∈ dueL rows, 0 ≤ z ∧ z < 16 := fun z hz => by
  unfold dueL at hz
  obtain ⟨c, hc, rfl⟩ := List.mem_map.mp hz
  have hc := List.mem_range.mp hc
  have := hl (c / 4) (by exact Nat.div_lt_of_lt_mul hc)
  have := List.count_le_length (a := gp (c % 4)) (l := rows (c / 4))
  omega
theorem dig_ev : ∀ (zs : List Int), (∀ z ∈ zs, 0 ≤ z ∧ z < 16) → ∀ i, i < zs.length → (dig (ev zs).toNat 4 i : Int) = zs.getD i 0
  | [], _, i, h => absurd h (Nat.not_lt_zero _)
  | z :: r, hz, i, hi => by
    have h0 := hz z List.mem_cons_self
    have hr := fun y hy => hz y (List.mem_cons_of_mem _ hy)
    have hb := ev_bound r hr
    have e : (ev (z :: r)).toNat = z.toNat + 16 * (ev r).toNat := by rw [ev]; (exact Mine.toN1 h0.1 hb.1)
    cases i with
    | zero =>
      unfold dig
      rw [e]
      simp
      (exact Mine.toN4 h0.1 h0.2)
    | succ i =>
      have ih := dig_ev r hr i (by simpa using hi)
      rw [List.getD_cons_succ, ← ih]
      unfold dig
      rw [e, show 4 * (i + 1) = 4 + 4 * i from by (rw [Nat.mul_succ]; exact (Nat.add_comm _ _)), Nat.pow_add, ← Nat.div_div_eq_div_mul]
      congr 3
      show (z.toNat + 16 * (ev r).toNat) / 16 = _
      (exact Mine.dv1 h0.1 h0.2)
theorem digs_back {zs : List Int} (hz : ∀ z ∈ zs, 0 ≤ z ∧ z < 16) (h16 : zs.length = 16) : cntD (ev zs).toNat 4 ≤ 16 ∧ natI (digs (ev zs).toNat 4 (cntD (ev zs).toNat 4)) ++ List.replicate (16 - cntD (ev zs).toNat 4) 0 = zs := by
  have hb := ev_bound zs hz
  rw [h16] at hb
  generalize ha : (ev zs).toNat = a
  have hlt : a < 2 ^ 64 := by
    have : (2 : Nat) ^ 64 = 18446744073709551616 := by decide
    have h2 : (16 : Int) ^ 16 = 18446744073709551616 := by decide
    omega
  have hc : cntD a 4 ≤ 16 := by
    have hb := intBits_le_64 (k := (a : Int)) (by omega) (by exact_mod_cast hlt)
    unfold cntD
    generalize Builtin.Int.intBits (a : Int) = b at *
    (exact Mine.dq16 hb)
  refine ⟨hc, ?_⟩
  have hl := lt_cntD (a := a) (n := 4) (by decide)
  generalize cntD a 4 = k at *
  refine List.ext_getElem (by unfold natI digs; simp; (rw [h16]; exact (Nat.add_sub_of_le hc))) fun i h1 h2 => ?_
  have hi : i < 16 := by exact Nat.lt_of_lt_of_le h2 (Nat.le_of_eq h16)
  have hd := dig_ev zs hz i (by exact h2)
  rw [ha, List.getD_eq_getElem?_getD, List.getElem?_eq_getElem h2] at hd
  simp only [Option.getD_some] at hd
  rw [← hd, List.getElem_append]
  by_cases hk : i < k
  · rw [dif_pos (by unfold natI digs; simpa using hk)]
    unfold natI digs; simp
  · rw [dif_neg (by unfold natI digs; simpa using hk)]
    simp only [List.getElem_replicate]
    unfold dig
    rw [Nat.div_eq_of_lt (Nat.lt_of_lt_of_le hl (Nat.pow_le_pow_right (by decide) (by exact Nat.mul_le_mul (Nat.le_refl _) (Nat.le_of_not_lt hk))))]
    rfl
end
end Mine
end
/-! part L0 -/
section
open PySem PySem.W PySem.Calls PyProof.Rows
set_option maxRecDepth 100000
set_option maxHeartbeats 4000000
set_option linter.unusedVariables false
namespace Mine
section
variable {w : World} {S : Shared} {A : Around} {σ : Type} {J : σ → Heap → Prop} {x : σ} {a b : Int} {t u : Tok}
theorem b_pow6 {Q : Value → σ → Prop} (q : ∀ t, Q (.int 1000000 t) x) : wpG w S J A (binaryOp .Pow (.int 10 t) (.int 6 u)) Q x := fun h tk s => PyProof.Rows.pow_int_small (by decide) (by decide) (by decide) ⟨h, _, x, rfl, s, q _⟩
theorem b_adds {y z : Str} {Q : Value → σ → Prop} (hz : y.length + z.length ≤ 1000) (q : ∀ t, Q (.str (y ++ z) t) x) : wpG w S J A (binaryOp .Add (.str y t) (.str z u)) Q x := fun h tk s =>
  PyProof.Rows.add_str (fun t' tk' => ⟨h, _, x, rfl, s, q _⟩) (Nat.le_trans hz (show 1000 ≤ 16777216 by exact Nat.le_add_left _ _))
theorem m_count {y : Str} {pl : Sem Bool} {Q : Value × List Value → σ → Prop} (q : Q (.builtin "str.count", [.str y t]) x) : wpG w S J A (getMethod (.str y t) ⟨#[99, 111, 117, 110, 116]⟩ pl) Q x := fun h tk s => by
  rw [show (⟨#[99, 111, 117, 110, 116]⟩ : Str) = Str.ofString "count" from by decide +kernel]
  exact GM.count ⟨h, tk, x, rfl, s, q⟩
theorem b_count {y z : Str} {Q : Value → σ → Prop} (q : ∀ t, Q (.int (Txt.count y z) t) x) : wpG w S J A (call (.builtin "str.count") [.str y t, .str z u]) Q x := fun h tk s => SC.count ⟨h, _, x, rfl, s, q _⟩
theorem m_join {y : Str} {pl : Sem Bool} {Q : Value × List Value → σ → Prop} (q : Q (.builtin "str.join", [.str y t]) x) : wpG w S J A (getMethod (.str y t) ⟨#[106, 111, 105, 110]⟩ pl) Q x := fun h tk s => by
  rw [show (⟨#[106, 111, 105, 110]⟩ : Str) = Str.ofString "join" from by decide +kernel]
  exact GM.join ⟨h, tk, x, rfl, s, q⟩
theorem m_split {y : Str} {pl : Sem Bool} {Q : Value × List Value → σ → Prop} (q : Q (.builtin "str.split", [.str y t]) x) : wpG w S J A (getMethod (.str y t) ⟨#[115, 112, 108, 105, 116]⟩ pl) Q x := fun h tk s => by
  rw [show (⟨#[115, 112, 108, 105, 116]⟩ : Str) = Str.ofString "split" from by decide +kernel]
  exact GM.split ⟨h, tk, x, rfl, s, q⟩
theorem t_or2 {e1 e2 : Expr} {env : Env} {pos : Pos} {whole : Sem Value} {Q : Bool → σ → Prop} (y : wpG w S J A (isTrue e1 env (eval e1 env)) (fun c x1 => if c = true then Q true x1 else wpG w S J A (isTrue e2 env (eval e2 env)) Q x1) x) : wpG w S J A (isTrue (.BoolOp .Or [e1, e2] pos) env whole) Q x := fun h tk s =>
  wpAny_isTrue_BoolOp (wpAny_allTrue_Or_cons (lift y s fun c x1 h1 t1 q1 s1 => by
    cases c with
    | true => exact ⟨h1, t1, x1, rfl, s1, q1⟩
    | false =>
      refine wpAny_allTrue_Or_cons (lift q1 s1 fun c2 x2 h2 t2 q2 s2 => ?_)
      cases c2 with
      | true => exact ⟨h2, t2, x2, rfl, s2, q2⟩
      | false => exact wpAny_allTrue_Or_nil ⟨h2, t2, x2, rfl, s2, q2⟩))
end
def StrsL (us : List Value) (ps : List Str) : Prop := ∃ l : List (Str × Tok), us = strValues l ∧ l.map (·.1) = ps
section
variable {w : World} {S : Shared} {B : HM} {A : Around} {H H' : HM} {L d l : Addr} {ns : List Str} {vs : List (Option Value)} {env : Env} {pos : Pos} {t u : Tok}
theorem b_join {us : List Value} {ps : List Str} {Q : Value → Fst → Prop} (hl : H l = some (.lst us)) (hs : StrsL us ps) (hz : (ps.map (·.length)).sum ≤ 10000) (q : ∀ t, Q (.str ⟨((ps.map (·.cps.toList)).flatten).toArray⟩ t) (vs, H)) :
    wpG w S (StF B L ns) A (call (.builtin "str.join") [.str ⟨#[]⟩ t, .ref l]) Q (vs, H) := fun h tk s => by
  obtain ⟨ps', rfl, e⟩ := hs
  exact SC.join (l := ps') (texts := ps) (Heap.PlainList.isList (s.st.own l _ hl)) e (joinOk_empty _ hz) fun t' k => ⟨h, k, _, rfl, s, by rw [join_empty]; exact q t'⟩
theorem c_eqnil {l2 : Addr} {us : List Value} {Q : Value → Fst → Prop} (hu : A.units < cLine) (hl : H l = some (.lst us)) (hr : H l2 = some (.lst [])) (hn : us ≠ []) (q : Q (.bool false) (vs, H)) :
    wpG w S (StF B L ns) A (compareOp .Eq (.ref l) (.ref l2)) Q (vs, H) := fun h tk s => by
  have h1 := Heap.PlainList.isList (s.st.own l _ hl)
  have h2 := Heap.PlainList.isList (s.st.own l2 _ hr)
  refine PySem.SeqAt.eq_list_lengthsAt h1 h2 ?_ hu ⟨h, tk, _, rfl, s, q⟩
  cases us with
  | nil => exact absurd rfl hn
  | cons v r => simp
end
end Mine
end
/-! part L1 -/
section
open PySem PySem.W PySem.Calls PyProof.Rows
set_option maxRecDepth 100000
set_option maxHeartbeats 4000000
set_option linter.unusedVariables false
namespace Mine
section
variable {w : World} {S : Shared} {B : HM} {A : Around} {H H' : HM} {L d l : Addr} {ns : List Str} {vs : List (Option Value)} {env : Env} {pos : Pos} {t u : Tok}
theorem c_nel {l2 : Addr} {us ys : List Value} {zs : List Int} {Q : Value → Fst → Prop} (hu : A.units < cLine) (hl : H l = some (.lst us)) (hr : H l2 = some (.lst ys)) (hi : IntsAre us zs) (hj : IntsAre ys zs) (q : Q (.bool false) (vs, H)) :
    wpG w S (StF B L ns) A (compareOp .NotEq (.ref l) (.ref l2)) Q (vs, H) := fun h tk s => by
  have h1 := Heap.PlainList.isList (s.st.own l _ hl)
  have h2 := Heap.PlainList.isList (s.st.own l2 _ hr)
  have e2 : (!(List.range us.toArray.size).all fun _ => true) = false := by simp
  refine PySem.SeqAt.RcNeAt.lists (e := fun j => true) h1 h2 (by simp [hi.length, hj.length]) hu (fun j a1 a2 => ?_) _ w _ _ ⟨h, tk, _, rfl, s, by rw [e2]; exact q⟩
  have b1 : j < us.length := by simpa using a1
  have b2 : j < ys.length := by simpa using a2
  have c1 : j < zs.length := by rw [← hi.length]; exact b1
  obtain ⟨t1, d1⟩ := ints_at hi j zs[j] (List.getElem?_eq_getElem c1)
  obtain ⟨t2, d2⟩ := ints_at hj j zs[j] (List.getElem?_eq_getElem c1)
  have d1' : us.toArray[j] = .int zs[j] t1 := by
    have := (List.getElem?_eq_some_iff.mp d1).2; simpa using this
  have d2' : ys.toArray[j] = .int zs[j] t2 := by
    have := (List.getElem?_eq_some_iff.mp d2).2; simpa using this
  rw [d1', d2']
  have := (PySem.MeetsSeq.EqGives.int zs[j] zs[j] t1 t2).at A.in1 (at' S h tk)
  rw [show (zs[j] == zs[j]) = true from by simp] at this
  exact this
/-- unpacking a list of two -/
theorem t_list2 {n m : Str} {p1 p2 : Pos} {k : Nat} {t : Addr} {u v : Value} {Q : Unit → Fst → Prop} (hh : A.handled = none) (f : Fn env L ns) (i j : Nat) (hi : ns[i]? = some n) (hj : ns[j]? = some m) (li : i < vs.length) (lj : j < vs.length) (ht : H t = some (.lst [u, v]))
    (q : Q () ((vs.set i (some u)).set j (some v), H)) : wpG w S (StF B L ns) A (assign (.Tuple [.Name n p1, .Name m p2] k pos) env (.ref t)) Q (vs, H) := fun h tk s => by
  have hl := Heap.PlainList.isList (s.st.own t _ ht)
  have hne : t ≠ h.objs.size := by obtain ⟨o, ho, _⟩ := hl; exact Nat.ne_of_lt (Heap.lt_size ho)
  rw [arm_assign_Tuple]
  refine wpAny_bind (wpAny_standAt ?_)
  unfold unpack
  show wpAny _ A (holding [.ref t] (unpackItems (.ref t) 2 none) >>= _) _ _ _
  refine wpAny_bind (wpAny_holding ?_)
  unfold unpackItems
  refine wpAny_bind ?_
  unfold notIterableAtAll
  refine wpAny_bind (wpAny_specialOf hl.typeIs slot_list_iter.lookup ?_)
  refine wpAny_pure ?_
  simp only [Bool.false_eq_true, if_false]
  refine wpAny_bind (wpAny_holding (wpAny_pyIter_list hl ?_))
  have hl0 : (h.push { cls := .type "list_iterator", data := .fields #[.ref t, .int 0 0] }).IsList t [u, v].toArray := hl.push _
  refine wpAny_bind (wpAny_holding ?_)
  show wpAny _ A (pyNext (.ref h.objs.size) >>= _) _ _ _
  refine wpAny_bind (wpAny_pyNext_list_item (i := 0) (x := u) ⟨_, Heap.get?_push_size _ rfl, rfl, rfl⟩ hl0 rfl fun h1 it1 s1 => ?_)
  have hl1 : h1.IsList t [u, v].toArray := hl0.extBut s1.extBut hne
  refine wpAny_bind (wpAny_holding ?_)
  show wpAny _ A (pyNext (.ref h.objs.size) >>= _) _ _ _
  refine wpAny_bind (wpAny_pyNext_list_item (i := 1) (x := v) it1 hl1 rfl fun h2 it2 s2 => ?_)
  have hl2 : h2.IsList t [u, v].toArray := hl1.extBut s2.extBut hne
  refine wpAny_bind (wpAny_holding (wpAny_pure ?_))
  refine wpAny_pure (wpAny_pure ?_)
  rw [if_neg (by simp)]
  refine wpAny_bind (wpAny_holding (wpAny_pyNext_list_end hh it2 hl2 rfl fun h3 s3 => ?_))
  simp only [Option.isSome_none, Bool.false_eq_true, if_false]
  refine wpAny_pure ?_
  have hk : ∀ b o, b ≠ h.objs.size → h.get? b = some o → h3.get? b = some o := fun b o hb e => s3 b o hb (s2.extBut b o hb (s1.extBut b o hb (Heap.get?_push_of_some _ e)))
  have s' : StF B L ns (vs, H) h3 := by
    refine s.keepAll fun b o e => hk b o (fun z => ?_) e
    exact absurd (Heap.lt_size e) (by rw [z]; exact Nat.lt_irrefl _)
  refine wpAny_assignInOrder_more (lift (t_name (vs := vs) (H := H) (Q := fun _ x => x = (vs.set i (some u), H)) f i hi li rfl) s' fun _ x1 h4 t1 e1 s4 => ?_)
  subst e1
  refine wpAny_assignInOrder_more (lift (t_name (vs := vs.set i (some u)) (H := H) (Q := fun _ x => x = ((vs.set i (some u)).set j (some v), H)) f j hj (by simpa using lj) rfl) s4 fun _ x2 h5 t2 e2 s5 => ?_)
  subst e2
  exact wpAny_assignInOrder_none ⟨h5, t2, _, rfl, s5, q⟩
end
end Mine
end
/-! part L2 -/
section
open PySem PySem.W PySem.Calls PyProof.Rows
set_option maxRecDepth 100000
set_option maxHeartbeats 4000000
set_option linter.unusedVariables false
namespace Mine
theorem strsL_numbered (tk : Nat) (ps : List Str) : StrsL (strsFrom tk ps) ps := ⟨numbered tk ps, strsFrom_eq tk ps, numbered_texts tk ps⟩
section
variable {w : World} {S : Shared} {B : HM} {A : Around} {H H' : HM} {L d l : Addr} {ns : List Str} {vs : List (Option Value)} {env : Env} {pos : Pos} {t u : Tok}
theorem b_split {r0 r1 r2 r3 : List Nat} {Q : Value → Fst → Prop} (h0 : NoBr r0) (h1 : NoBr r1) (h2 : NoBr r2) (h3 : NoBr r3) (hz : (flatR [r0, r1, r2, r3]).length ≤ 1000)
    (q : ∀ D us, H D = none → B D = none → StrsL us [⟨r0.toArray⟩, ⟨r1.toArray⟩, ⟨r2.toArray⟩, ⟨r3.toArray⟩, ⟨#[]⟩] → Q (.ref D) (vs, upd H D (.lst us))) :
    wpG w S (StF B L ns) A (call (.builtin "str.split") [.str ⟨(flatR [r0, r1, r2, r3]).toArray⟩ t, .str sCr u]) Q (vs, H) := fun h tk s => by
  have hlen : (⟨(flatR [r0, r1, r2, r3]).toArray⟩ : Str).length = (flatR [r0, r1, r2, r3]).length := by show (flatR [r0, r1, r2, r3]).toArray.size = _; simp
  have ho : Builtin.Str.occurrences ⟨(flatR [r0, r1, r2, r3]).toArray⟩ sCr 0 (⟨(flatR [r0, r1, r2, r3]).toArray⟩ : Str).length ((⟨(flatR [r0, r1, r2, r3]).toArray⟩ : Str).length + 1) = cutsFrom 0 [r0, r1, r2, r3] := by
    rw [hlen]; exact occ_cuts h0 (by intro x hx; simp at hx; rcases hx with rfl | rfl | rfl <;> assumption)
  have hp := parts4 r0 r1 r2 r3
  refine call_meets F.slot_str_split (typeIs_str _ _ _) F.entry_str_split (F.args_str_split_2 _ _) (meets_str_split_sep _ _ t u ?_ (by rfl) (by rw [ho]; rfl) ?_ ?_) ?_
  · rw [Bool.or_eq_false_iff]
    constructor
    · rw [hlen]
      have : 2 ≤ (flatR [r0, r1, r2, r3]).length := by simp [flatR]; (exact Nat.le_trans (Nat.le_add_left _ _) (Nat.le_add_left _ _))
      simpa [Str.length] using this
    · have k1 : Builtin.Str.strKind sCr = 1 := by decide +kernel
      rw [k1]
      unfold Builtin.Str.strKind
      split
      · rfl
      · split <;> rfl
  · rw [hlen]; show _ ≤ 16777216; (exact Nat.le_trans hz (Nat.le_add_left _ _))
  · rw [ho]; show (Builtin.Str.partsBetween _ _ 2).length ≤ 16777216; rw [hp]; simp
  · show wants _ _ _ { (at' S h tk) with toks := _, heap := h.push { cls := .type "list", data := .seq (strsFrom tk (Builtin.Str.partsBetween ⟨(flatR [r0, r1, r2, r3]).toArray⟩ (Builtin.Str.occurrences ⟨(flatR [r0, r1, r2, r3]).toArray⟩ sCr 0 (⟨(flatR [r0, r1, r2, r3]).toArray⟩ : Str).length ((⟨(flatR [r0, r1, r2, r3]).toArray⟩ : Str).length + 1)) 2)).toArray } }
    rw [ho, hp]
    obtain ⟨s2, d1, d2⟩ := s.newAt (h' := h.push { cls := .type "list", data := .seq (strsFrom tk [⟨r0.toArray⟩, ⟨r1.toArray⟩, ⟨r2.toArray⟩, ⟨r3.toArray⟩, ⟨#[]⟩]).toArray }) (b := h.objs.size) (i := .lst (strsFrom tk [⟨r0.toArray⟩, ⟨r1.toArray⟩, ⟨r2.toArray⟩, ⟨r3.toArray⟩, ⟨#[]⟩])) (fun b o e => Heap.get?_push_of_some _ e) (Nat.le_refl _) ⟨_, Heap.get?_push_size _ rfl⟩
    exact ⟨_, _, _, rfl, s2, q _ _ d1 d2 (strsL_numbered _ _)⟩
end
/-! the rows' text -/
def ends3 : List (List Nat) := [[10], [13], [13, 10]]
def rowOf (w : List Nat) : List Nat := if w.head? = some 46 then 46 :: w else w
theorem crlf_word : ∀ (w rest : List Nat), NoBr w → crlf (w ++ rest) = w ++ crlf rest
  | [], rest, _ => rfl
  | c :: w, rest, h => by
    have hc := h c List.mem_cons_self
    rw [List.cons_append, crlf_no (fun z => z.elim hc.2 hc.1), crlf_word w rest fun x hx => h x (List.mem_cons_of_mem _ hx)]; rfl
theorem crlf_end {e rest : List Nat} (he : e ∈ ends3) (hr : rest.head? ≠ some 10) : crlf (e ++ rest) = 13 :: 10 :: crlf rest := by
  simp only [ends3, List.mem_cons, List.not_mem_nil, or_false] at he
  cases rest with
  | nil => rcases he with rfl | rfl | rfl <;> rfl
  | cons c r =>
    have hc : c ≠ 10 := fun z => hr (by rw [z]; rfl)
    rcases he with rfl | rfl | rfl
    · show crlf (10 :: c :: r) = _
      rw [crlf, if_neg (by decide), if_pos rfl]
    · show crlf (13 :: c :: r) = _
      rw [crlf, if_pos rfl, if_neg hc]
    · show crlf (13 :: 10 :: c :: r) = _
      rw [crlf, if_pos rfl, if_pos rfl]
theorem dots_word : ∀ (w rest : List Nat), NoBr w → dots false (w ++ 13 :: 10 :: rest) = w ++ 13 :: 10 :: dots true rest
  | [], rest, _ => by simp [dots]
  | c :: w, rest, h => by
    have hc := h c List.mem_cons_self
    rw [List.cons_append, dots, if_neg (by simp), show (c == 10) = false from by simpa using hc.2, dots_word w rest fun x hx => h x (List.mem_cons_of_mem _ hx)]; rfl
theorem dots_row {w rest : List Nat} (h : NoBr w) (hn : w ≠ []) : dots true (w ++ 13 :: 10 :: rest) = rowOf w ++ 13 :: 10 :: dots true rest := by
  cases w with
  | nil => exact absurd rfl hn
  | cons c w =>
    have hc := h c List.mem_cons_self
    rw [List.cons_append, dots, show (c == 10) = false from by simpa using hc.2, dots_word w rest fun x hx => h x (List.mem_cons_of_mem _ hx)]
    unfold rowOf
    by_cases z : c = 46
    · subst z; simp
    · rw [if_neg (fun y => z y.2), if_neg (by simpa using z)]; simp
structure WordsOk (wd en : Nat → List Nat) : Prop where
  br : ∀ k, k < 4 → NoBr (wd k)
  ne : ∀ k, k < 4 → wd k ≠ []
  en : ∀ k, k < 4 → en k ∈ ends3
theorem quoted {wd en : Nat → List Nat} (W : WordsOk wd en) : dots true (crlf ((wd 0 ++ en 0) ++ ((wd 1 ++ en 1) ++ ((wd 2 ++ en 2) ++ ((wd 3 ++ en 3) ++ []))))) = flatR [rowOf (wd 0), rowOf (wd 1), rowOf (wd 2), rowOf (wd 3)] := by
  have hd : ∀ k, k < 4 → ∀ rest, (wd k ++ rest).head? ≠ some 10 := fun k hk rest => by
    cases e : wd k with
    | nil => exact absurd e (W.ne k hk)
    | cons c r =>
      have := W.br k hk c (by rw [e]; exact List.mem_cons_self)
      simpa using this.2
  simp only [List.append_assoc]
  rw [crlf_word _ _ (W.br 0 (by exact Nat.zero_lt_succ _)), crlf_end (W.en 0 (by exact Nat.zero_lt_succ _)) (hd 1 (by exact Nat.lt_succ_of_le (Nat.le_add_left _ _)) _), crlf_word _ _ (W.br 1 (by exact Nat.lt_succ_of_le (Nat.le_add_left _ _))), crlf_end (W.en 1 (by exact Nat.lt_succ_of_le (Nat.le_add_left _ _))) (hd 2 (by exact Nat.lt_succ_of_le (Nat.le_add_left _ _)) _), crlf_word _ _ (W.br 2 (by exact Nat.lt_succ_of_le (Nat.le_add_left _ _))), crlf_end (W.en 2 (by exact Nat.lt_succ_of_le (Nat.le_add_left _ _))) (hd 3 (by exact Nat.lt_succ_self _) _), crlf_word _ _ (W.br 3 (by exact Nat.lt_succ_self _)), crlf_end (W.en 3 (by exact Nat.lt_succ_self _)) (by simp)]
  rw [dots_row (W.br 0 (by exact Nat.zero_lt_succ _)) (W.ne 0 (by exact Nat.zero_lt_succ _)), dots_row (W.br 1 (by exact Nat.lt_succ_of_le (Nat.le_add_left _ _))) (W.ne 1 (by exact Nat.lt_succ_of_le (Nat.le_add_left _ _))), dots_row (W.br 2 (by exact Nat.lt_succ_of_le (Nat.le_add_left _ _))) (W.ne 2 (by exact Nat.lt_succ_of_le (Nat.le_add_left _ _))), dots_row (W.br 3 (by exact Nat.lt_succ_self _)) (W.ne 3 (by exact Nat.lt_succ_self _))]
  simp [flatR, crlf, dots]
def wdN (n : Nat) : List Nat := (digs n 2 (cntD n 2)).map gp
theorem wdN_facts : ∀ n, n < 16 → 1 ≤ n → wdN n ≠ [] ∧ (wdN n).length ≤ 2 ∧ (∀ s ∈ wdN n, s ∈ grpC) ∧ ∀ d ∈ digs n 2 (cntD n 2), d < 4 := by decide +kernel
theorem count_facts : ∀ n, n < 16 → 1 ≤ n → ∀ j, j < 4 → ((Txt.count ⟨(wdN n).toArray⟩ ⟨#[gp j]⟩ : Int) + if ((⟨#[gp j]⟩ : Str) ++ ⟨#[(wdN n).getD 0 0]⟩ == (⟨#[46, 46]⟩ : Str)) = true then 1 else 0) = ((rowOf (wdN n)).count (gp j) : Nat) := by decide +kernel
end Mine
end
/-! part L3 -/
section
open PySem PySem.W PySem.Calls PyProof.Rows
set_option maxRecDepth 100000
set_option maxHeartbeats 4000000
set_option linter.unusedVariables false
namespace Mine
section
variable {w : World} {S : Shared} {B : HM} {A : Around} {H H' : HM} {L d l bk lh : Addr} {ns : List Str} {vs : List (Option Value)} {env : Env} {pos : Pos} {t u : Tok} {P q ln cl : Nat} {ql : Str}
theorem tabX_off (T : TabX P ln cl ql H) (hq : ∀ i, H q = some i → ∀ s, i ≠ crec s) (n : P ≠ q) (k : ∀ a i, H a = some i → a ≠ q → H' a = some i) : TabX P ln cl ql H' := by
  rcases T with t | ⟨c', t1, t2⟩
  · exact .inl (k _ _ t n)
  · exact .inr ⟨c', k _ _ t1 n, k _ _ t2 (by rintro rfl; exact hq _ t2 _ rfl)⟩
theorem crec_obj (o : Obj) (s : Str) : Item.obj o ≠ crec s := by intro h; cases h
theorem crec_loc (m : List Str) (z : List (Option Value)) (s : Str) : Item.loc m z ≠ crec s := by intro h; cases h
theorem tabX_ne {i : Item} (T : TabX P ln cl ql H) (h : H q = some i) (hi : ∀ ps, i ≠ .obj (tabObj ps)) : P ≠ q := by
  obtain ⟨ps, e⟩ := T.some
  rintro rfl; rw [e] at h; cases h; exact hi _ rfl
theorem tabX_newNe (T : TabX P ln cl ql H) (h : H q = none) : P ≠ q := by
  obtain ⟨ps, e⟩ := T.some
  rintro rfl; rw [e] at h; cases h
/-- a contract that changes one code table, called from a frame -/
theorem f_tabx {f : Value} {args : List Value} {V : Value → HM → Prop} {Q : Value → Fst → Prop} (T : TabX P ln cl ql H)
    (hV : ∀ v H' L m z, H' L = some (.loc m z) → V v H' → V v (era H' L))
    (y : ∀ H0, Sub H H0 → ∀ Q' : Result → HM → Prop, (∀ H' v, V v H' → TabX P ln cl ql H' → (∀ a i, H0 a = some i → a ≠ P → H' a = some i) → Q' (.ok (.ret v)) H') → codeG w S (St B) A (.call f ⟨args, []⟩) Q' H0)
    (q : ∀ H' v, V v H' → TabX P ln cl ql H' → (∀ a i, H a = some i → a ≠ P → H' a = some i) → Q v (vs, H')) : wpG w S (StF B L ns) A (call f args) Q (vs, H) := by
  refine f_fn fun hL => y _ (Sub.new hL) _ fun H' v hv T' k => ?_
  have nP : P ≠ L := tabX_newNe T hL
  have eL : H' L = some (.loc ns vs) := k L _ upd_same (Ne.symm nP)
  refine ⟨era H' L, fun a i e => ?_, if_pos rfl, v, rfl, q _ v (hV v H' L _ _ eL hv) (tabX_off T' (q := L) (fun i e s => by rw [eL] at e; cases e; exact crec_loc _ _ _) nP fun a i e n => (era_ne n).trans e) fun a i e n => ?_⟩
  · by_cases z : a = L
    · subst z; rw [upd_same] at e; cases e; exact eL
    · rw [upd_ne z] at e; unfold era at e; rw [if_neg z] at e; exact e
  · have z : a ≠ L := by first | exact nn e (hL) | exact Ne.symm (nn e (hL)) | exact nn (hL) e | exact Ne.symm (nn (hL) e) | (rintro rfl; rw [hL] at e; cases e)
    unfold era; rw [if_neg z]
    exact k a i (Sub.new hL _ _ e) n
theorem f_i2d {a n : Nat} {t0 t1 : Tok} {Q : Value → Fst → Prop} (b : BaseOk w B) (hA : Room A 150) (ha : a < 2 ^ 64) (hn : n = 2 ∨ n = 4) (hT : TabX 40 9 4 qInI H)
    (q : ∀ r ys H', H' r = some (.lst ys) → IntsAre ys (natI (digs a n (cntD a n))) → TabX 40 9 4 qInI H' → (∀ x i, H x = some i → x ≠ 40 → H' x = some i) → Q (.ref r) (vs, H')) :
    wpG w S (StF B L ns) A (call (.ref 45) [.int a t0, .int n t1]) Q (vs, H) :=
  f_tabx (V := fun v H' => ∃ r ys, v = .ref r ∧ H' r = some (.lst ys) ∧ IntsAre ys (natI (digs a n (cntD a n)))) hT
    (fun v H' L m z e ⟨r, ys, e1, e2, e3⟩ => ⟨r, ys, e1, by unfold era; rw [if_neg (by first | exact nn e2 (e) | exact Ne.symm (nn e2 (e)) | exact nn (e) e2 | exact Ne.symm (nn (e) e2) | (rintro rfl; rw [e] at e2; cases e2))]; exact e2, e3⟩)
    (fun H0 k Q' q' => int2digits_spec b hA ha hn (hT.mono k) fun r ys H' e1 e2 e3 e4 => q' H' _ ⟨r, ys, rfl, e1, e2⟩ e3 e4)
    fun H' v ⟨r, ys, e1, e2, e3⟩ T' k => by subst e1; exact q r ys H' e2 e3 T' k
theorem f_d2i {zs : List Int} {us : List Value} {t1 : Tok} {Q : Value → Fst → Prop} (b : BaseOk w B) (hA : Room A 40) (hl : H l = some (.lst us)) (hz : ∀ z ∈ zs, 0 ≤ z ∧ z < 16) (hi : IntsAre us zs) (h16 : zs.length = 16) (hT : TabX 47 24 4 qInD H)
    (q : ∀ t H', TabX 47 24 4 qInD H' → (∀ a i, H a = some i → a ≠ 47 → H' a = some i) → Q (.int (ev zs) t) (vs, H')) :
    wpG w S (StF B L ns) A (call (.ref 52) [.ref l, .int 4 t1]) Q (vs, H) :=
  f_tabx (V := fun v H' => ∃ t, v = .int (ev zs) t) hT (fun v H' L m z e h => h)
    (fun H0 k Q' q' => digits2int_spec b hA (k _ _ hl) hz hi h16 (hT.mono k) fun t H' e1 e2 => q' H' _ ⟨t, rfl⟩ e1 e2)
    fun H' v ⟨t, e1⟩ T' k => by subst e1; exact q t H' T' k
theorem f_quote {x : Str} {Q : Value → Fst → Prop} (b : BaseOk w B) (hA : Room A 20) (hx : x.cps.size ≤ 100) (q : ∀ t, Q (.str ⟨(dots true (crlf x.cps.toList)).toArray⟩ t) (vs, H)) :
    wpG w S (StF B L ns) A (call (.ref 78) [.str x t]) Q (vs, H) :=
  f_fn fun hL => quotedata_spec b hA hx fun t => ⟨H, Sub.refl, hL, _, rfl, q t⟩
theorem f_lbooks {lr : Addr} {rv : List Value} {rows : Nat → List Nat} {Q : Value → Fst → Prop} (b : BaseOk w B) (hA : Room A 100) (hT : TabF H) (hr : H lr = some (.lst rv)) (hv : ∀ k, k < 4 → ∃ t, rv[k]? = some (.str ⟨(rows k).toArray⟩ t)) (hc : ∀ k, k < 4 → ∀ s ∈ rows k, s ∈ [46, 97, 98, 99]) (ok : StepsOk blankT (upTo rows 4))
    (q : ∀ bk xs lxs H', BkF w H' bk xs lxs (foldT blankT (upTo rows 4)) → Kept H H' → Q (.ref bk) (vs, H')) : wpG w S (StF B L ns) A (call (.ref 250) [.ref lr]) Q (vs, H) := by
  refine f_fn fun hL => books_spec b hA (hT.mono (Sub.new hL)) (Sub.new hL _ _ hr) hv hc ok fun bk xs lxs H' K' F => ?_
  have n217 : L ≠ 217 := hT.ne hL
  have eL : H' L = some (.loc ns vs) := F L _ upd_same n217
  refine ⟨era H' L, fun a i e => ?_, if_pos rfl, _, rfl, q _ _ _ _ (K'.era (fk eL foreign_loc) n217) fun a i e n => ?_⟩
  · by_cases z : a = L
    · subst z; rw [upd_same] at e; cases e; exact eL
    · rw [upd_ne z] at e; unfold era at e; rw [if_neg z] at e; exact e
  · have z : a ≠ L := by first | exact nn e (hL) | exact Ne.symm (nn e (hL)) | exact nn (hL) e | exact Ne.symm (nn (hL) e) | (rintro rfl; rw [hL] at e; cases e)
    unfold era; rw [if_neg z]
    exact F a i (Sub.new hL _ _ e) n
theorem f_pages {xs lxs : Nat → Addr} {hv : List Value} {T : Tabs} {m : Nat} {Q : Value → Fst → Prop} (b : BaseOk w B) (hA : Room A 60) (K : BkF w H bk xs lxs T) (hh : H lh = some (.lst hv)) (hc : ChrL hv ((List.range m).map (97 + ·))) (hm : m ≤ 12)
    (hk : ∀ p ∈ persC, ∀ e ∈ T p, 97 ≤ e.1 ∧ e.1 < 97 + m) (hg : ∀ k, k < 4 → ∀ e ∈ T (48 + k), e.2 ∈ grpC) (ht : ∀ g ∈ grpC, ∀ e ∈ T g, 48 ≤ e.2 ∧ e.2 < 52)
    (q : ∀ r pg xp x0 x1 ys H', H' r = some (.lst ys) → ys = (List.range m).map (fun i => .ref (xp i)) → Pages w H' pg xp x0 x1 m (pg0 T 4) (pg1 T 4) → Sub H H' → Q (.ref r) (vs, H')) :
    wpG w S (StF B L ns) A (call (.ref 255) [.ref bk, .ref lh]) Q (vs, H) := by
  refine f_sub (P := fun v H' => ∃ r pg xp x0 x1 ys, v = .ref r ∧ H' r = some (.lst ys) ∧ ys = (List.range m).map (fun i => .ref (xp i)) ∧ Pages w H' pg xp x0 x1 m (pg0 T 4) (pg1 T 4)) ?_ (fun H0 k Q' q' => pages_spec b hA (K.mono k) (k _ _ hh) hc hm hk hg ht fun r pg xp x0 x1 ys H' e1 e2 e3 e4 => q' H' _ e4 ⟨r, pg, xp, x0, x1, ys, rfl, e1, e2, e3⟩) ?_
  · rintro v H' L ⟨r, pg, xp, x0, x1, ys, rfl, e1, e2, e3⟩ ⟨m', z, eL⟩
    refine ⟨r, pg, xp, x0, x1, ys, rfl, ?_, e2, e3.keep (a0 := L) (fk eL foreign_loc) fun a i e n => (era_ne n).trans e⟩
    unfold era; rw [if_neg (by first | exact nn e1 (eL) | exact Ne.symm (nn e1 (eL)) | exact nn (eL) e1 | exact Ne.symm (nn (eL) e1) | (rintro rfl; rw [eL] at e1; cases e1))]; exact e1
  · rintro H' v k ⟨r, pg, xp, x0, x1, ys, rfl, e1, e2, e3⟩
    exact q r pg xp x0 x1 ys H' e1 e2 e3 k
end
end Mine
end
/-! part L4 -/
section
open PySem PySem.W PySem.Calls PyProof.Rows
set_option maxRecDepth 100000
set_option maxHeartbeats 4000000
set_option linter.unusedVariables false
namespace Mine
/-! the law, statement by statement -/
def valAt (o : Obj) (i : Nat) : Expr := match (bodyOf o).drop i with
  | .Assign _ v _ :: _ => v
  | .Return (some v) _ :: _ => v
  | .For _ it _ _ _ :: _ => it
  | _ => .Name ⟨#[]⟩ default
def stAt (o : Obj) (i : Nat) : Stmt := match (bodyOf o).drop i with
  | s :: _ => s
  | [] => .Pass default
noncomputable abbrev ls (w : World) (i : Nat) : Stmt := stAt (hd.zo_267 w.params) i
noncomputable abbrev lv (w : World) (i : Nat) : Expr := valAt (hd.zo_267 w.params) i
abbrev sScript : Str := ⟨#[115, 99, 114, 105, 112, 116]⟩
abbrev sGiven : Str := ⟨#[103, 105, 118, 101, 110]⟩
abbrev sFilled : Str := ⟨#[102, 105, 108, 108, 101, 100]⟩
abbrev sWords : Str := ⟨#[119, 111, 114, 100, 115]⟩
abbrev sEnds : Str := ⟨#[101, 110, 100, 115]⟩
abbrev sDue : Str := ⟨#[100, 117, 101]⟩
abbrev sWord : Str := ⟨#[119, 111, 114, 100]⟩
abbrev sByT : Str := ⟨#[98, 121, 95, 116, 101, 97, 99, 104, 101, 114, 115]⟩
abbrev sByC : Str := ⟨#[98, 121, 95, 99, 108, 97, 115, 115, 101, 115]⟩
abbrev sTold : Str := ⟨#[116, 111, 108, 100]⟩
abbrev nsLaw : List Str := [sScript, sGiven, sFilled, ssBooks, sDue, sWord, ssSign, ssHours, ssPages, sByT, sByC, sTold]
def scAt (o : Obj) : Scope := match o.data with
  | .func fd => fd.scope
  | _ => default
structure LawE (w : World) (env : Env) (L : Addr) : Prop where
  f : Fn env L nsLaw
  sc : env.scope = scAt (hd.zo_267 w.params)
  cl : env.cells = [(sEnds, L + 2), (sWords, L + 1)]
section
variable {w : World} {S : Shared} {B : HM} {A : Around} {H H' : HM} {L d l bk lh : Addr} {vs : List (Option Value)} {env : Env} {t u : Tok}
theorem pick_4 (us : List Value) : pick us none (some 4) none = us.take 4 := by
  rw [pick_nn]
  unfold kms_lo kms_hi
  simp
theorem pick_from (us : List Value) (k : Nat) : pick us (some (k : Int)) none none = us.drop k := by
  rw [pick_nn]
  simp only [kms_lo, kms_hi]
  rw [if_neg (by omega), List.take_of_length_le (by simp)]
  by_cases h : k ≤ us.length
  · rw [show min (k : Int).toNat us.length = k from by (rw [Int.toNat_natCast]; exact (Nat.min_eq_left h))]
  · rw [show min (k : Int).toNat us.length = us.length from by (rw [Int.toNat_natCast]; exact (Nat.min_eq_right (Nat.le_of_not_le h))), List.drop_length, List.drop_of_length_le (by exact Nat.le_of_not_le h)]
/-- a slice of a list that stays as it is -/
theorem e_sliceB {value : Expr} {lower upper : Option Expr} {p pos : Pos} {ns : List Str} {us : List Value} {lo hi : Option Int} {Q : Value → Fst → Prop} {x : Fst} (hB : ∀ h, Own B h → h.IsList l us.toArray) (hz : us.length ≤ sizeLine) (y : wpG w S (StF B L ns) A (eval value env) (fun o x1 => wpG w S (StF B L ns) A (evalPart lower env) (fun vl x2 => wpG w S (StF B L ns) A (evalPart upper env) (fun vu x3 =>
      o = .ref l ∧ IsPart vl lo ∧ IsPart vu hi ∧ ∀ b, x3.2 b = none → B b = none → Q (.ref b) (x3.1, upd x3.2 b (.lst (pick us lo hi none)))) x2) x1) x) :
    wpG w S (StF B L ns) A (eval (.Subscript value (.Slice lower upper none p) pos) env) Q x := by
  refine e_sub (wpG_mono y fun o x1 y1 => e_sli (wpG_mono y1 fun vl x2 y2 => wpG_mono y2 fun vu x3 y3 => p_none fun sl h1 h2 => ?_))
  obtain ⟨rfl, pl, pu, q⟩ := y3
  refine tl (ops := [.ref sl, .ref l]) (fun h tk s => (hB h s.st.base).typeIs) slot_list_getitem.lookup ?_ rfl
  have k : Sub x3.2 (upd x3.2 sl (.obj (sliO vl vu .none))) := Sub.new h1
  intro h tk s
  exact wpAny_getItem_list_slice (hB h s.st.base) ⟨_, s.st.own sl _ upd_same, rfl, rfl⟩ pl pu .none (by simp) ⟨_, tk, _, rfl, (s.weaken k).new (i := .lst (pick us lo hi none)) (fun _ _ e => Heap.get?_push_of_some _ e) ⟨0, by
    have := Heap.get?_push_size h (o := { cls := .type "list", data := .seq (slicePick us.toArray lo hi none) }) rfl
    simpa [pick] using this⟩, q _ (s.weaken k).st.own.fresh (s.weaken k).st.base.fresh⟩ (by simpa using hz)
def cut6 (z : Int) : Int := z.fmod 1000000
theorem cut6_range (z : Int) : 0 ≤ cut6 z ∧ cut6 z < 1000000 := by
  unfold cut6
  rw [Int.fmod_eq_emod_of_nonneg _ (by decide)]
  omega
theorem take_map {α β : Type} {l : List α} {f : α → β} {i : Nat} (h : i < l.length) : (l.take (i + 1)).map f = (l.take i).map f ++ [f l[i]] := by
  rw [List.take_add_one, List.getElem?_eq_getElem h, List.map_append]; rfl
theorem ex_given {sc : Addr} {sv : List Value} {zs : List Int} {Q : Flow → Fst → Prop} (b : BaseOk w B) (hA : A.handled = none) (E : LawE w env L) (hv : vs[0]? = some (some (.ref sc))) (h12 : vs.length = 12) (hs : ∀ h, Own B h → h.IsList sc sv.toArray) (hz : IntsAre sv zs) (hl : zs.length ≤ 63)
    (q : ∀ r ys H', H' r = some (.lst ys) → IntsAre ys ((zs.take 4).map cut6) → Sub H H' → Q .next (vs.set 1 (some (.ref r)), H')) : wpG w S (StF B L nsLaw) A (exec (ls w 0) env) Q (vs, H) := by
  have hsv : sv.length ≤ 63 := by rw [hz.length]; exact hl
  refine x_assignC (cns := [⟨#[120]⟩]) (cl := []) 1 rfl E.f (by unfold swapsWith Env.blockKind Env.kindOf; rw [E.sc]; rfl) rfl ?_ rfl ?_ ?_ ?_
  · decide +kernel
  · decide +kernel
  · exact ⟨rfl, by decide +kernel, by intro y hy; simp at hy; subst hy; rfl, by decide +kernel⟩
  refine e_sliceB hs (by show _ ≤ 16777216; (exact Nat.le_trans hsv (Nat.le_add_left _ _))) (f_local E.f 0 rfl hv (p_none (p_some (e_int fun t1 => ⟨rfl, .none, .int _ _, fun r g1 g2 => ?_⟩))))
  rw [pick_4]
  refine i_list upd_same fun I hI hBI hIl => ?_
  replace g1 : H r = none := g1
  replace hI : upd H r (.lst (sv.take 4)) I = none := hI
  refine ⟨I, _, upd H r (.lst (sv.take 4)), (sv.take 4).length, fun i v => (sv.take 4)[i]? = some v, itL r, fun H => H r = some (.lst (sv.take 4)), fun i ys => IntsAre ys (((zs.take 4).take i).map cut6), rfl, rfl, hI, ?_⟩
  have hz4 := ints_take hz 4
  refine ⟨fun C => iter_list hA (sv.take 4) hIl, fun X k => k _ _ upd_same, fun i ys h => ?_, ?_, fun _ _ _ => trivial, .nil, ?_, ?_⟩
  · rw [h.length, List.length_map, List.length_take]; (exact Nat.min_le_left _ _)
  · rw [List.length_take]; show _ ≤ 16777216; (exact Nat.le_trans (Nat.min_le_left _ _) (Nat.le_add_left _ _))
  · intro D C hD hBD hDI hL hLD hLI fc i v ys cvs hi hv' hJ hcv
    match cvs, hcv with
    | [u0], _ =>
    have hi2 : i < (zs.take 4).length := by rw [← hz4.length]; exact hi
    obtain ⟨tv, htv⟩ := ints_at hz4 i (zs.take 4)[i] (List.getElem?_eq_getElem hi2)
    have ev : v = .int (zs.take 4)[i] tv := by rw [htv] at hv'; exact (Option.some.inj hv').symm
    subst ev
    refine t_name fc 0 rfl (Nat.le_of_ble_eq_true rfl) (tests_nil ?_)
    rw [if_pos rfl]
    refine e_bin (f_local fc 0 rfl rfl (e_bin (e_int fun t2 => e_int fun t3 => b_pow6 fun t4 => b_mod (by decide) fun t5 => ⟨?_, rfl, Sub.refl⟩)))
    rw [take_map hi2]
    exact ints_app hJ (.cons _ _ .nil)
  · intro D ys hD hBD hJ
    rw [hz4.length, List.take_length] at hJ
    exact ⟨by rw [h12]; decide, q D ys _ upd_same hJ ((Sub.new g1).trans (Sub.new hD))⟩
def filledZ (zs : List Int) : List Int := (zs.take 4).map cut6 ++ ([8, 23, 33, 5] : List Int).drop ((zs.take 4).map cut6).length
theorem filledZ_len (zs : List Int) : (filledZ zs).length = 4 := by
  unfold filledZ
  simp; (exact Nat.add_sub_of_le (Nat.min_le_left _ _))
theorem filledZ_range (zs : List Int) : ∀ z ∈ filledZ zs, 0 ≤ z ∧ z < 1000000 := fun z hz => by
  unfold filledZ at hz
  rcases List.mem_append.mp hz with hz | hz
  · obtain ⟨y, _, rfl⟩ := List.mem_map.mp hz
    exact cut6_range y
  · have := List.mem_of_mem_drop hz
    simp at this
    rcases this with rfl | rfl | rfl | rfl <;> (decide)
theorem ev_filled {g : Addr} {gv : List Value} {zs : List Int} {Q : Value → Fst → Prop} (b : BaseOk w B) (hA : A.handled = none) (E : LawE w env L) (hv : vs[1]? = some (some (.ref g))) (hs : H g = some (.lst gv)) (hz : IntsAre gv ((zs.take 4).map cut6))
    (q : ∀ r ys H', H' r = some (.lst ys) → IntsAre ys (filledZ zs) → Sub H H' → Q (.ref r) (vs, H')) : wpG w S (StF B L nsLaw) A (eval (lv w 1) env) Q (vs, H) := by
  have hgl : gv.length ≤ 4 := by rw [hz.length, List.length_map, List.length_take]; (exact Nat.min_le_left _ _)
  refine e_bin (f_local E.f 1 rfl hv (e_slice (e_list (s_int fun t1 => s_int fun t2 => s_int fun t3 => s_int fun t4 => s_nil ⟨Nat.le_of_ble_eq_true rfl, fun r g1 g2 => p_some ?_⟩))))
  refine e_call (f_builtin (v := .builtin "len") b E.f (by kernel_rfl) (by kernel_rfl) (by decide) (by rw [E.sc]; rfl) (by decide +kernel) ?_)
  replace g1 : H r = none := g1
  have k1 : Sub H (upd H r (.lst [.int 8 t1, .int 23 t2, .int 33 t3, .int 5 t4])) := Sub.new g1
  refine c_with rfl (a_pos (s_cons (f_local E.f 1 rfl hv (s_nil ⟨Keep.builtin, f_len (k1 _ _ hs) (by show _ ≤ 16777216; (exact Nat.le_trans hgl (Nat.le_add_left _ _))) fun t5 => ?_⟩))))
  refine p_none ⟨r, _, _, _, rfl, upd_same, Nat.le_of_ble_eq_true rfl, .int _ _, .none, fun r2 g3 g4 => ?_⟩
  rw [pick_from]
  replace g3 : upd H r (.lst [.int 8 t1, .int 23 t2, .int 33 t3, .int 5 t4]) r2 = none := g3
  refine b_addl (upd_old g3 (k1 _ _ hs)) upd_same ?_ fun r3 g5 g6 => ?_
  · show _ ≤ 16777216
    rw [List.length_drop]; simp; (exact sm2 hgl (Nat.sub_le _ _) (Nat.le_add_left _ _))
  · refine q r3 _ _ upd_same ?_ ((k1.trans (Sub.new g3)).trans (Sub.new g5))
    unfold filledZ
    refine ints_app hz ?_
    rw [hz.length]
    exact ints_drop (.cons _ _ (.cons _ _ (.cons _ _ (.cons _ _ .nil)))) _
end
end Mine
end
/-! part L5 -/
section
open PySem PySem.W PySem.Calls PyProof.Rows
set_option maxRecDepth 100000
set_option maxHeartbeats 4000000
set_option linter.unusedVariables false
namespace Mine
theorem strsL_add {us : List Value} {ps : List Str} (h : StrsL us ps) (s : Str) (t : Tok) : StrsL (us ++ [.str s t]) (ps ++ [s]) := by
  obtain ⟨l, rfl, rfl⟩ := h
  exact ⟨l ++ [(s, t)], by simp [strValues], by simp⟩
theorem strsL_nil : StrsL [] [] := ⟨[], rfl, rfl⟩
theorem strsL_len {us : List Value} {ps : List Str} (h : StrsL us ps) : us.length = ps.length := by
  obtain ⟨l, rfl, rfl⟩ := h
  simp [strValues]
theorem strsL_at {us : List Value} {ps : List Str} (h : StrsL us ps) {i : Nat} {s : Str} (e : ps[i]? = some s) : ∃ t, us[i]? = some (.str s t) := by
  obtain ⟨l, rfl, rfl⟩ := h
  rw [List.getElem?_map] at e
  obtain ⟨x, hx, rfl⟩ := Option.map_eq_some_iff.mp e
  exact ⟨x.2, by unfold strValues; rw [List.getElem?_map, hx]; rfl⟩
theorem natI_at {l : List Nat} {i : Nat} (h : i < l.length) : (natI l)[i]? = some ((l[i] : Nat) : Int) := by
  unfold natI; rw [List.getElem?_map, List.getElem?_eq_getElem h]; rfl
theorem itL_crec {l : Addr} {i : Nat} (s : Str) : itL l i ≠ crec s := by
  intro h
  obtain ⟨vs, t2, h1, h2⟩ := any_inj h { cls := .type "list_iterator", data := .fields #[.ref l, .int i 0] } ⟨rfl, rfl⟩
  injection h1 with h1
  subst h1
  cases h2
def nOf (z : Int) : Nat := z.toNat % 15 + 1
theorem nOf_range (z : Int) : nOf z < 16 ∧ 1 ≤ nOf z := by unfold nOf; (exact Mine.m15)
def wordS (z : Int) : Str := ⟨(wdN (nOf z)).toArray⟩
section
variable {w : World} {S : Shared} {B : HM} {A : Around} {H H' : HM} {L d l bk lh : Addr} {vs : List (Option Value)} {env : Env} {t u : Tok}
theorem gp_str {d : Nat} (h : d < 4) : (⟨#[46, 97, 98, 99]⟩ : Str).cps[d]? = some (gp d) := by
  match d, h with
  | 0, _ | 1, _ | 2, _ | 3, _ => rfl
theorem flat_one (l : List Nat) : ((l.map fun d => (⟨#[gp d]⟩ : Str)).map (·.cps.toList)).flatten = l.map gp := by
  induction l with
  | nil => rfl
  | cons d r ih => simp only [List.map_cons, List.flatten_cons, ih]; rfl
theorem sum_one (l : List Nat) : ((l.map fun d => (⟨#[gp d]⟩ : Str)).map (·.length)).sum = l.length := by
  induction l with
  | nil => rfl
  | cons d r ih => simp only [List.map_cons, List.sum_cons, List.length_cons, ih]; show 1 + _ = _; (exact Nat.add_comm _ _)
abbrev wdInv (H : HM) (L D I fa : Addr) (vs : List (Option Value)) (F : List Int) : Nat → List Value → HM → Prop := fun i ys X => (X I = some (itL fa i) ∧ X D = some (.lst ys) ∧ X L = some (.loc nsLaw vs) ∧ TabX 40 9 4 qInI X ∧ (∀ a j, H a = some j → a ≠ 40 → X a = some j)) ∧ StrsL ys ((F.take i).map wordS)
theorem ev_words {fa : Addr} {fv : List Value} {F : List Int} {Q : Value → Fst → Prop} (b : BaseOk w B) (hA : Room A 160) (E : LawE w env L) (hv : vs[2]? = some (some (.ref fa))) (hs : H fa = some (.lst fv)) (hz : IntsAre fv F) (h4 : F.length = 4) (hr : ∀ z ∈ F, 0 ≤ z ∧ z < 1000000) (hT : TabX 40 9 4 qInI H)
    (q : ∀ r ys H', H' r = some (.lst ys) → StrsL ys (F.map wordS) → TabX 40 9 4 qInI H' → (∀ a i, H a = some i → a ≠ 40 → H' a = some i) → Q (.ref r) (vs, H')) : wpG w S (StF B L nsLaw) A (eval (lv w 2) env) Q (vs, H) := by
  have hfl : fv.length = 4 := by rw [hz.length]; exact h4
  refine e_compX (cns := [⟨#[120]⟩]) (cl := []) E.f rfl ?_ rfl ?_ ?_ ?_
  · decide +kernel
  · decide +kernel
  · exact ⟨rfl, by decide +kernel, by intro y hy; simp at hy; subst hy; rfl, by decide +kernel⟩
  refine f_local E.f 2 rfl hv ?_
  refine i_list hs fun I hI hBI hIl => ?_
  refine ⟨I, _, H, 4, fun i v => fv[i]? = some v, itL fa, fun H => H fa = some (.lst fv), rfl, rfl, hI, ?_⟩
  refine ⟨fun C => by have := iter_list (w := w) (S := S) (B := B) (A := A) (L := C) (ns := [⟨#[120]⟩]) hA.hand fv hIl; rw [hfl] at this; exact this, by decide, fun _ _ _ => trivial, fun D C hD hBD hDI hL hLD hLI fc => ?_⟩
  refine ⟨wdInv H L D I fa vs F, ?_, ?_, ?_, ?_⟩
  · rintro i ys X ⟨⟨x1, x2, x3, x4, x5⟩, x6⟩
    refine ⟨x1, x2, x3, x5 _ _ hs (Ne.symm (tabX_ne hT hs (by intro ps h; cases h))), ?_⟩
    rw [strsL_len x6, List.length_map, List.length_take]; (exact Nat.min_le_left _ _)
  · have k0 : Sub H (Hc (upd H L (.loc nsLaw vs)) I D (itL fa) 0 []) := fun a j e => hc_old (H1 := H) e hD hI hL
    exact ⟨⟨(upd_ne (Ne.symm hDI)).trans upd_same, upd_same, (upd_ne hLD).trans ((upd_ne hLI).trans upd_same), hT.mono k0, fun a j e _ => k0 a j e⟩, strsL_nil⟩
  · rintro i v ys cvs X hi hv' ⟨⟨x1, x2, x3, x4, x5⟩, x6⟩ hcv
    match cvs, hcv with
    | [u0], _ =>
    have hi2 : i < F.length := by (rw [h4]; exact hi)
    obtain ⟨tv, htv⟩ := ints_at hz i F[i] (List.getElem?_eq_getElem hi2)
    have ev : v = .int F[i] tv := by rw [htv] at hv'; exact (Option.some.inj hv').symm
    subst ev
    have hrg := hr _ (List.getElem_mem hi2)
    have hst : (F.take (i + 1)).map wordS = (F.take i).map wordS ++ [wordS F[i]] := take_map hi2
    generalize F[i] = z at *
    have n40 : ∀ {a : Addr} {j : Item}, X a = some j → (∀ ps, j ≠ .obj (tabObj ps)) → a ≠ 40 := fun e h => Ne.symm (tabX_ne x4 e h)
    have nI := n40 x1 (by intro ps h; cases h)
    have nD := n40 x2 (by intro ps h; cases h)
    have nL := n40 x3 (by intro ps h; cases h)
    have hDne : D ≠ I := hDI
    have y1 : upd X I (itL fa (i + 1)) I = some (itL fa (i + 1)) := upd_same
    have y2 : upd X I (itL fa (i + 1)) D = some (.lst ys) := (upd_ne hDI).trans x2
    have y3 : upd X I (itL fa (i + 1)) L = some (.loc nsLaw vs) := (upd_ne hLI).trans x3
    have y4 : TabX 40 9 4 qInI (upd X I (itL fa (i + 1))) := tabX_off x4 (q := I) (fun j e s => by rw [x1] at e; cases e; exact itL_crec s) (Ne.symm nI) fun a j e n => (upd_ne n).trans e
    have y5 : ∀ a j, H a = some j → a ≠ 40 → upd X I (itL fa (i + 1)) a = some j := fun a j e n => (upd_ne (by first | exact nn e (hI) | exact Ne.symm (nn e (hI)) | exact nn (hI) e | exact Ne.symm (nn (hI) e) | (rintro rfl; rw [hI] at e; cases e))).trans (x5 a j e n)
    generalize upd X I (itL fa (i + 1)) = Y at *
    refine t_name fc 0 rfl (Nat.le_of_ble_eq_true rfl) (tests_nil ?_)
    show wpG _ _ _ _ _ _ _
    refine e_meth rfl (e_str fun t1 => m_join ?_)
    refine c_with rfl (a_pos (s_cons ?_))
    refine e_comp (cns := [⟨#[100, 105, 103, 105, 116]⟩]) (cl := []) fc rfl ?_ rfl ?_ ?_ ?_
    · decide +kernel
    · decide +kernel
    · exact ⟨rfl, by decide +kernel, by intro y hy; simp at hy; subst hy; rfl, by decide +kernel⟩
    refine e_call (f_global (v := .ref 45) b fc (by kernel_rfl) rfl (by decide +kernel) ?_)
    refine c_with rfl (a_pos (s_cons (e_bin (e_bin (f_local fc 0 rfl rfl (e_int fun t2 => b_mod (by decide) fun t3 => e_int fun t4 => b_add fun t5 => s_int fun t6 => s_nil ⟨Keep.fn b (by kernel_rfl), ?_⟩))))))
    rw [show z.fmod 15 + 1 = ((nOf z : Nat) : Int) from by unfold nOf; rw [Int.fmod_eq_emod_of_nonneg _ (by decide)]; (exact Mine.toN3 hrg.1)]
    obtain ⟨nr1, nr2⟩ := nOf_range z
    refine f_i2d (n := 2) b (hA.mono (by exact Nat.le_add_left _ _)) (Nat.lt_of_lt_of_le nr1 (by decide)) (.inl rfl) y4 fun r dv Z d1 d2 d3 d4 => ?_
    obtain ⟨wf1, wf2, wf3, wf4⟩ := wdN_facts _ nr1 nr2
    have z1 : Z I = some (itL fa (i + 1)) := d4 _ _ y1 nI
    have z2 : Z D = some (.lst ys) := d4 _ _ y2 nD
    have z3 : Z L = some (.loc nsLaw vs) := d4 _ _ y3 nL
    have z5 : ∀ a j, H a = some j → a ≠ 40 → Z a = some j := fun a j e n => d4 _ _ (y5 a j e n) n
    have hdl : dv.length = (digs (nOf z) 2 (cntD (nOf z) 2)).length := by rw [d2.length]; unfold natI; simp
    have hd2 : (digs (nOf z) 2 (cntD (nOf z) 2)).length ≤ 2 := by unfold wdN at wf2; rwa [List.length_map] at wf2
    refine i_list d1 fun I2 h1 h2 h3 => ?_
    refine ⟨I2, _, Z, dv.length, fun i v => dv[i]? = some v, itL r, fun H => H r = some (.lst dv), fun i ys => StrsL ys (((digs (nOf z) 2 (cntD (nOf z) 2)).take i).map fun d => (⟨#[gp d]⟩ : Str)), rfl, rfl, h1, ?_⟩
    refine ⟨fun C => iter_list hA.hand dv h3, fun X k => k _ _ d1, fun i ys h => ?_, ?_, fun _ _ _ => trivial, strsL_nil, ?_, ?_⟩
    · rw [strsL_len h, List.length_map, List.length_take]; (exact Nat.min_le_left _ _)
    · rw [hdl]; show _ ≤ 16777216; (exact Nat.le_trans hd2 (Nat.le_add_left _ _))
    · intro D2 C2 hD2 hBD2 hDI2 hL2 hLD2 hLI2 fc2 i2 v2 ys2 cvs2 hi2' hv2 hJ2 hcv2
      match cvs2, hcv2 with
      | [u2], _ =>
      have hi3 : i2 < (digs (nOf z) 2 (cntD (nOf z) 2)).length := by rw [← hdl]; exact hi2'
      obtain ⟨tv2, htv2⟩ := ints_at d2 i2 _ (natI_at hi3)
      have ev : v2 = .int ((digs (nOf z) 2 (cntD (nOf z) 2))[i2] : Nat) tv2 := by rw [htv2] at hv2; exact (Option.some.inj hv2).symm
      subst ev
      have hd4 := wf4 _ (List.getElem_mem hi3)
      refine t_name fc2 0 rfl (Nat.le_of_ble_eq_true rfl) (tests_nil ?_)
      rw [if_pos rfl]
      refine e_sub (e_str fun t7 => f_local fc2 0 rfl rfl (tl_str (by exact Nat.le_trans (Nat.le_of_lt hd4) (Nat.le_add_left _ _)) (gp_str hd4) fun t8 => ⟨?_, rfl, Sub.refl⟩))
      rw [take_map (f := fun d => (⟨#[gp d]⟩ : Str)) hi3]
      exact strsL_add hJ2 _ _
    · intro D2 ys2 hD2 hBD2 hJ2
      rw [hdl, List.take_length] at hJ2
      refine s_nil ⟨Keep.builtin, ?_⟩
      refine b_join upd_same hJ2 (by rw [sum_one]; (exact Nat.le_trans hd2 (Nat.le_add_left _ _))) fun t9 => ?_
      rw [flat_one]
      refine ⟨upd Z D2 (.lst ys2), ⟨⟨?_, upd_same, ?_, ?_, ?_⟩, ?_⟩, rfl, upd_old hD2 z2, Sub.refl⟩
      · exact (upd_ne (Ne.symm hDI)).trans (upd_old hD2 z1)
      · exact (upd_ne hLD).trans (upd_old hD2 z3)
      · exact tabX_off (d3.mono (Sub.new hD2)) (q := D) (fun j e s => by rw [upd_old hD2 z2] at e; cases e; intro z; cases z) (Ne.symm nD) fun a i e n => (upd_ne n).trans e
      · intro a j e n
        exact (upd_ne (by first | exact nn e (hD) | exact Ne.symm (nn e (hD)) | exact nn (hD) e | exact Ne.symm (nn (hD) e) | (rintro rfl; rw [hD] at e; cases e))).trans (upd_old hD2 (z5 a j e n))
      · rw [hst]
        exact strsL_add x6 _ _
  · rintro ys X ⟨⟨x1, x2, x3, x4, x5⟩, x6⟩
    have nI : (40 : Addr) ≠ I := tabX_ne x4 x1 (by intro ps h; cases h)
    have nL : (40 : Addr) ≠ L := tabX_ne x4 x3 (by intro ps h; cases h)
    have t1 : TabX 40 9 4 qInI (era X I) := tabX_off x4 (q := I) (fun j e s => by rw [x1] at e; cases e; exact itL_crec s) nI fun a j e n => (era_ne n).trans e
    have l1 : era X I L = some (.loc nsLaw vs) := (era_ne hLI).trans x3
    refine q D ys _ ?_ ?_ (tabX_off t1 (q := L) (fun j e s => by rw [l1] at e; cases e; exact crec_loc _ _ _) nL fun a j e n => by show era (era X I) L a = _; unfold era at e ⊢; rw [if_neg n]; exact e) fun a j e n => ?_
    · show era (era X I) L D = _
      unfold era; rw [if_neg (Ne.symm hLD), if_neg hDI]; exact x2
    · rwa [← h4, List.take_length] at x6
    · show era (era X I) L a = _
      unfold era; rw [if_neg (by first | exact nn e (hL) | exact Ne.symm (nn e (hL)) | exact nn (hL) e | exact Ne.symm (nn (hL) e) | (rintro rfl; rw [hL] at e; cases e)), if_neg (by first | exact nn e (hI) | exact Ne.symm (nn e (hI)) | exact nn (hI) e | exact Ne.symm (nn (hI) e) | (rintro rfl; rw [hI] at e; cases e))]; exact x5 a j e n
end
end Mine
end
/-! part L6 -/
section
open PySem PySem.W PySem.Calls PyProof.Rows
set_option maxRecDepth 100000
set_option maxHeartbeats 4000000
set_option linter.unusedVariables false
namespace Mine
def eOf (z : Int) : List Nat := ends3.getD (z.toNat / 15 % 3) []
theorem eOf_mem (z : Int) : eOf z ∈ ends3 := by
  unfold eOf
  have : z.toNat / 15 % 3 < 3 := by exact Nat.mod_lt _ (Nat.zero_lt_succ _)
  generalize z.toNat / 15 % 3 = k at *
  match k, this with
  | 0, _ | 1, _ | 2, _ => decide
def endS (z : Int) : Str := ⟨(eOf z).toArray⟩
section
variable {w : World} {S : Shared} {B : HM} {A : Around} {H H' : HM} {L d l bk lh : Addr} {vs : List (Option Value)} {env : Env} {t u : Tok}
theorem end_at (t1 t2 t3 : Tok) (k : Nat) (h : k < 3) : ∃ t, ([Value.str ⟨#[10]⟩ t1, .str ⟨#[13]⟩ t2, .str ⟨#[13, 10]⟩ t3])[k]? = some (.str ⟨(ends3.getD k []).toArray⟩ t) := by
  match k, h with
  | 0, _ => exact ⟨t1, rfl⟩
  | 1, _ => exact ⟨t2, rfl⟩
  | 2, _ => exact ⟨t3, rfl⟩
theorem ev_ends {fa : Addr} {fv : List Value} {F : List Int} {Q : Value → Fst → Prop} (b : BaseOk w B) (hA : A.handled = none) (E : LawE w env L) (hv : vs[2]? = some (some (.ref fa))) (hs : H fa = some (.lst fv)) (hz : IntsAre fv F) (h4 : F.length = 4) (hr : ∀ z ∈ F, 0 ≤ z ∧ z < 1000000)
    (q : ∀ r ys H', H' r = some (.lst ys) → StrsL ys (F.map endS) → Sub H H' → Q (.ref r) (vs, H')) : wpG w S (StF B L nsLaw) A (eval (lv w 3) env) Q (vs, H) := by
  refine e_comp (cns := [⟨#[120]⟩]) (cl := []) E.f rfl ?_ rfl ?_ ?_ ?_
  · decide +kernel
  · decide +kernel
  · exact ⟨rfl, by decide +kernel, by intro y hy; simp at hy; subst hy; rfl, by decide +kernel⟩
  refine f_local E.f 2 rfl hv ?_
  refine i_list hs fun I hI hBI hIl => ?_
  refine ⟨I, _, H, fv.length, fun i v => fv[i]? = some v, itL fa, fun H => H fa = some (.lst fv), fun i ys => StrsL ys ((F.take i).map endS), rfl, rfl, hI, ?_⟩
  have hfl : fv.length = 4 := by rw [hz.length]; exact h4
  refine ⟨fun C => iter_list hA fv hIl, fun X k => k _ _ hs, fun i ys h => ?_, ?_, fun _ _ _ => trivial, strsL_nil, ?_, ?_⟩
  · rw [strsL_len h, List.length_map, List.length_take]; (exact Nat.min_le_left _ _)
  · rw [hfl]; show _ ≤ 16777216; (exact Nat.le_add_left _ _)
  · intro D C hD hBD hDI hL hLD hLI fc i v ys cvs hi hv' hJ hcv
    match cvs, hcv with
    | [u0], _ =>
    have hi2 : i < F.length := by (rw [h4]; exact (Nat.lt_of_lt_of_le hi (Nat.le_of_eq hfl)))
    obtain ⟨tv, htv⟩ := ints_at hz i F[i] (List.getElem?_eq_getElem hi2)
    have ev : v = .int F[i] tv := by rw [htv] at hv'; exact (Option.some.inj hv').symm
    subst ev
    have hrg := hr _ (List.getElem_mem hi2)
    have hst : (F.take (i + 1)).map endS = (F.take i).map endS ++ [endS F[i]] := take_map hi2
    rw [hst]
    generalize F[i] = z at *
    refine t_name fc 0 rfl (Nat.le_of_ble_eq_true rfl) (tests_nil ?_)
    rw [if_pos rfl]
    refine e_sub (e_list (s_str fun t1 => s_str fun t2 => s_str fun t3 => s_nil ⟨Nat.le_of_ble_eq_true rfl, fun r g1 g2 => ?_⟩))
    refine e_bin (e_bin (f_local fc 0 rfl rfl (e_int fun t4 => b_fdiv (by decide) (by decide) fun t5 => e_int fun t6 => b_mod (by decide) fun t7 => ?_)))
    rw [show (z.fdiv 15).fmod 3 = ((z.toNat / 15 % 3 : Nat) : Int) from by rw [Int.fdiv_eq_ediv_of_nonneg _ (by decide), Int.fmod_eq_emod_of_nonneg _ (by decide)]; (exact Mine.toN2 hrg.1)]
    obtain ⟨te, hte⟩ := end_at t1 t2 t3 (z.toNat / 15 % 3) (by exact Nat.mod_lt _ (Nat.zero_lt_succ _))
    refine tl_list upd_same (by exact Int.natCast_nonneg _) (by exact Mine.ci6) (by rw [Int.toNat_natCast]; exact hte) ⟨strsL_add hJ _ _, rfl, Sub.new g1⟩
  · intro D ys hD hBD hJ
    rw [hfl, ← h4, List.take_length] at hJ
    exact q D ys _ upd_same hJ (Sub.new hD)
end
end Mine
end
/-! part L7 -/
section
open PySem PySem.W PySem.Calls PyProof.Rows
set_option maxRecDepth 100000
set_option maxHeartbeats 4000000
set_option linter.unusedVariables false
namespace Mine
def Fk (F : List Int) (k : Nat) : Int := F.getD k 0
def wdF (F : List Int) (k : Nat) : List Nat := wdN (nOf (Fk F k))
def enF (F : List Int) (k : Nat) : List Nat := eOf (Fk F k)
def rowsF (F : List Int) (k : Nat) : List Nat := rowOf (wdF F k)
def lineS (F : List Int) (k : Nat) : Str := ⟨(wdF F k ++ enF F k).toArray⟩
theorem grp_nobr {l : List Nat} (h : ∀ s ∈ l, s ∈ grpC) : NoBr l := fun c hc => by
  have := h c hc
  simp only [grpC, List.mem_cons, List.not_mem_nil, or_false] at this
  (exact Mine.cA this)
theorem wdF_facts (F : List Int) (k : Nat) : wdF F k ≠ [] ∧ (wdF F k).length ≤ 2 ∧ ∀ s ∈ wdF F k, s ∈ grpC := by
  obtain ⟨a, b⟩ := nOf_range (Fk F k)
  obtain ⟨h1, h2, h3, _⟩ := wdN_facts _ a b
  exact ⟨h1, h2, h3⟩
theorem rowsF_grp (F : List Int) (k : Nat) : ∀ s ∈ rowsF F k, s ∈ grpC := fun s hs => by
  obtain ⟨_, _, h3⟩ := wdF_facts F k
  unfold rowsF rowOf at hs
  split at hs
  · rcases List.mem_cons.mp hs with rfl | hs
    · decide
    · exact h3 s hs
  · exact h3 s hs
theorem rowsF_len (F : List Int) (k : Nat) : (rowsF F k).length ≤ 3 := by
  obtain ⟨_, h2, _⟩ := wdF_facts F k
  unfold rowsF rowOf
  split
  · rw [List.length_cons]; (exact Nat.add_le_add_right h2 _)
  · (exact Nat.le_succ_of_le h2)
theorem eOf_len (z : Int) : (eOf z).length ≤ 2 := by
  have := eOf_mem z
  simp only [ends3, List.mem_cons, List.not_mem_nil, or_false] at this
  rcases this with h | h | h <;> rw [h] <;> decide
theorem wordsOkF (F : List Int) : WordsOk (wdF F) (enF F) :=
  ⟨fun k _ => grp_nobr (wdF_facts F k).2.2, fun k _ => (wdF_facts F k).1, fun k _ => eOf_mem _⟩
theorem map_at {α : Type} {F : List Int} (f : Int → α) {k : Nat} (h : k < F.length) : (F.map f)[k]? = some (f (Fk F k)) := by
  unfold Fk
  rw [List.getElem?_map, List.getD_eq_getElem?_getD, List.getElem?_eq_getElem h]; rfl
section
variable {w : World} {S : Shared} {B : HM} {A : Around} {H H' : HM} {L d l bk lh : Addr} {vs : List (Option Value)} {env : Env} {t u : Tok}
theorem ev_lbooks {wr er : Addr} {wv ev : List Value} {F : List Int} {Q : Value → Fst → Prop} (b : BaseOk w B) (hA : Room A 160) (E : LawE w env L) (h4 : F.length = 4) (c1 : H (L + 1) = some (cel (some (.ref wr)))) (c2 : H (L + 2) = some (cel (some (.ref er))))
    (hw : H wr = some (.lst wv)) (he : H er = some (.lst ev)) (sw : StrsL wv (F.map wordS)) (se : StrsL ev (F.map endS)) (hT : TabF H)
    (q : ∀ bk xs lxs H', BkF w H' bk xs lxs (foldT blankT (upTo (rowsF F) 4)) → Kept H H' → Q (.ref bk) (vs, H')) : wpG w S (StF B L nsLaw) A (eval (lv w 4) env) Q (vs, H) := by
  refine e_call (f_global (v := .ref 250) b E.f (by kernel_rfl) (by rw [E.sc]; rfl) (by decide +kernel) ?_)
  refine c_with rfl (a_pos (s_cons (e_meth rfl ?_)))
  refine e_call (f_global (v := .ref 78) b E.f (by kernel_rfl) (by rw [E.sc]; rfl) (by decide +kernel) ?_)
  refine c_with rfl (a_pos (s_cons (e_meth rfl (e_str fun t1 => m_join ?_))))
  refine c_with rfl (a_pos (s_cons ?_))
  refine e_comp (cns := [⟨#[107]⟩]) (cl := [(sWords, L + 1), (sEnds, L + 2)]) E.f (by unfold closureFor cellOf; rw [E.cl]; rfl) ?_ rfl ?_ ?_ ?_
  · decide +kernel
  · decide +kernel
  · exact ⟨rfl, by decide +kernel, by intro y hy; simp at hy; subst hy; rfl, by decide +kernel⟩
  refine e_call (f_builtin (v := .type "range") b E.f (by kernel_rfl) (by kernel_rfl) (by decide) (by rw [E.sc]; rfl) (by decide +kernel) ?_)
  refine c_with rfl (a_pos (s_int fun t5 => s_nil ⟨Keep.type, ?_⟩))
  refine r_range1 fun r1 g1 g2 => ?_
  refine i_range upd_same (by decide) (by decide) (by decide) (by decide) fun I hI hBI => ?_
  replace g1 : H r1 = none := g1
  replace hI : upd H r1 (rngI 0 4) I = none := hI
  have k1 : Sub H (upd H r1 (rngI 0 4)) := Sub.new g1
  refine ⟨I, _, upd H r1 (rngI 0 4), 4, (fun i v => ∃ t, v = .int (0 + i * 1) t), (fun i => itR (0 + i * 1) ((4 : Nat) - i) 1), fun _ => True, fun i ys => StrsL ys ((List.range i).map (lineS F)), rfl, rfl, hI, ?_⟩
  refine ⟨fun C => iter_range hA.hand 0 1 4, fun _ _ => trivial, fun i ys h => ?_, by decide, fun _ _ _ => trivial, strsL_nil, ?_, ?_⟩
  · rw [strsL_len h, List.length_map, List.length_range]; exact Nat.le_refl _
  · intro D C hD hBD hDI hL hLD hLI fc i v ys cvs hi4 hv hJ hcv
    obtain ⟨tv, rfl⟩ := hv
    match cvs, hcv with
    | [u0], _ =>
    refine t_name fc 0 rfl (Nat.le_of_ble_eq_true rfl) (tests_nil ?_)
    rw [if_pos rfl, show ((0 : Int) + (i : Int) * 1) = (i : Int) from by omega]
    have old : ∀ {a : Addr} {j : Item}, H a = some j → Hc (upd (upd H r1 (rngI 0 4)) L (.loc nsLaw vs)) I D (fun i => itR (0 + i * 1) ((4 : Nat) - i) 1) (i + 1) ys a = some j := fun e => hc_old (j := .loc nsLaw vs) (itm := fun i => itR (0 + i * 1) ((4 : Nat) - i) 1) (k := i + 1) (ys := ys) (k1 _ _ e) hD hI hL
    obtain ⟨tw, htw⟩ := strsL_at sw (map_at wordS (show i < F.length by (rw [h4]; exact hi4)))
    obtain ⟨te, hte⟩ := strsL_at se (map_at endS (show i < F.length by (rw [h4]; exact hi4)))
    refine e_bin (e_sub (f_cell fc (.comp rfl rfl) (old c1) (f_local fc 0 rfl rfl (tl_list (old hw) (by exact Int.natCast_nonneg _) (by exact Mine.ci7 hi4 (Nat.le_add_left _ _)) (by rw [Int.toNat_natCast]; exact htw) ?_))))
    refine e_sub (f_cell fc (.comp rfl rfl) (old c2) (f_local fc 0 rfl rfl (tl_list (old he) (by exact Int.natCast_nonneg _) (by exact Mine.ci7 hi4 (Nat.le_add_left _ _)) (by rw [Int.toNat_natCast]; exact hte) ?_)))
    have la : (wordS (Fk F i)).length ≤ 2 := by
      have := (wdF_facts F i).2.1
      show (wdF F i).toArray.size ≤ 2
      simpa using this
    have lb : (endS (Fk F i)).length ≤ 2 := by
      have := eOf_len (Fk F i)
      show (eOf (Fk F i)).toArray.size ≤ 2
      simpa using this
    refine b_adds (by exact Nat.le_trans (Nat.add_le_add la lb) (Nat.le_add_left _ _)) fun t7 => ⟨?_, rfl, Sub.refl⟩
    rw [List.range_succ, List.map_append, show wordS (Fk F i) ++ endS (Fk F i) = lineS F i from by show (⟨(wdF F i).toArray ++ (eOf (Fk F i)).toArray⟩ : Str) = _; unfold lineS enF; simp]
    exact strsL_add hJ _ _
  · intro D ys hD hBD hJ
    have kD : Sub H (upd (upd H r1 (rngI 0 4)) D (.lst ys)) := k1.trans (Sub.new hD)
    have hZD : upd (upd H r1 (rngI 0 4)) D (.lst ys) D = some (.lst ys) := upd_same
    generalize upd (upd H r1 (rngI 0 4)) D (.lst ys) = Z at *
    have hlen : ∀ k, (lineS F k).length ≤ 4 := fun k => by
      have h1 := (wdF_facts F k).2.1
      have h2 := eOf_len (Fk F k)
      show (wdF F k ++ eOf (Fk F k)).toArray.size ≤ 4
      simp; (exact Nat.le_trans (Nat.add_le_add h1 h2) (Nat.le_refl _))
    have ej : (((List.range 4).map (lineS F)).map (·.cps.toList)).flatten = (wdF F 0 ++ enF F 0) ++ ((wdF F 1 ++ enF F 1) ++ ((wdF F 2 ++ enF F 2) ++ ((wdF F 3 ++ enF F 3) ++ []))) := rfl
    have hsum : ((List.range 4).map (lineS F)).map (·.length) = [(lineS F 0).length, (lineS F 1).length, (lineS F 2).length, (lineS F 3).length] := rfl
    refine s_nil ⟨Keep.builtin, b_join hZD hJ ?_ fun t8 => ?_⟩
    · rw [hsum]
      have := hlen 0
      have := hlen 1
      have := hlen 2
      have := hlen 3
      simp only [List.sum_cons, List.sum_nil]; omega
    rw [ej]
    have hlw : ((wdF F 0 ++ enF F 0) ++ ((wdF F 1 ++ enF F 1) ++ ((wdF F 2 ++ enF F 2) ++ ((wdF F 3 ++ enF F 3) ++ [])))).length ≤ 16 := by
      have e := fun k => hlen k
      have f : ∀ k, (lineS F k).length = (wdF F k ++ enF F k).length := fun k => by show (wdF F k ++ enF F k).toArray.size = _; simp
      have e0 := e 0
      have e1 := e 1
      have e2 := e 2
      have e3 := e 3
      rw [f] at e0 e1 e2 e3
      simp only [List.length_append, List.length_nil] at e0 e1 e2 e3 ⊢; omega
    refine s_nil ⟨Keep.fn b (by kernel_rfl), f_quote b (hA.mono (by exact Nat.le_add_left _ _)) (by simpa using Nat.le_trans hlw (by decide)) fun t9 => m_split ?_⟩
    refine c_with rfl (a_pos (s_str fun t10 => s_nil ⟨Keep.builtin, ?_⟩))
    have eq2 : dots true (crlf (⟨((wdF F 0 ++ enF F 0) ++ ((wdF F 1 ++ enF F 1) ++ ((wdF F 2 ++ enF F 2) ++ ((wdF F 3 ++ enF F 3) ++ [])))).toArray⟩ : Str).cps.toList) = flatR [rowsF F 0, rowsF F 1, rowsF F 2, rowsF F 3] := quoted (wordsOkF F)
    rw [eq2]
    have nb : ∀ k, NoBr (rowsF F k) := fun k => grp_nobr (rowsF_grp F k)
    refine b_split (nb 0) (nb 1) (nb 2) (nb 3) ?_ fun D2 us n1 n2 st => ?_
    · have := rowsF_len F 0
      have := rowsF_len F 1
      have := rowsF_len F 2
      have := rowsF_len F 3
      simp [flatR]; omega
    refine s_nil ⟨Keep.fn b (by kernel_rfl), ?_⟩
    replace n1 : Z D2 = none := n1
    refine f_lbooks b (hA.mono (by exact Nat.le_add_left _ _)) (hT.mono (kD.trans (Sub.new n1))) upd_same (rows := rowsF F) (fun k hk => ?_) (fun k _ s hs => by have := rowsF_grp F k s hs; exact this) (books_ok (fun k _ => rowsF_grp F k) fun k _ => rowsF_len F k) fun bk xs lxs H' K' kp => ?_
    · match k, hk with
      | 0, _ => exact strsL_at st rfl
      | 1, _ => exact strsL_at st rfl
      | 2, _ => exact strsL_at st rfl
      | 3, _ => exact strsL_at st rfl
    · exact q bk xs lxs H' K' fun a i e n => kp a i ((kD.trans (Sub.new n1)) _ _ e) n
end
end Mine
end
/-! part L8 -/
section
open PySem PySem.W PySem.Calls PyProof.Rows
set_option maxRecDepth 100000
set_option maxHeartbeats 4000000
set_option linter.unusedVariables false
namespace Mine
theorem due_take {F : List Int} {i j : Nat} (hi : i < 4) (hj : j < 4) : (dueL (rowsF F)).take (4 * i + (j + 1)) = (dueL (rowsF F)).take (4 * i + j) ++ [((rowsF F i).count (gp j) : Int)] := by
  unfold dueL
  rw [show 4 * i + (j + 1) = (4 * i + j) + 1 from by exact Eq.symm (Nat.add_assoc _ _ _), ← List.map_take, ← List.map_take, take_map (l := List.range 16) (by simp; (exact Mine.r4 hi hj)), List.getElem_range]
  rw [show (4 * i + j) / 4 = i from by exact Mine.dm4d hj, show (4 * i + j) % 4 = j from by exact Mine.dm4m hj]
section
variable {w : World} {S : Shared} {B : HM} {A : Around} {H H' : HM} {L d l bk lh : Addr} {vs : List (Option Value)} {env : Env} {t u : Tok}
theorem e_if10 {σ : Type} {J : σ → Heap → Prop} {x : σ} {te : Expr} {k1 k2 : Nat} {p1 p2 pos : Pos} {Q : Value → σ → Prop} (y : wpG w S J A (isTrue te env (eval te env)) (fun c x1 => ∀ t, Q (.int (if c = true then 1 else 0) t) x1) x) :
    wpG w S J A (eval (.IfExp te (.Constant (.int 1) k1 p1) (.Constant (.int 0) k2 p2) pos) env) Q x :=
  e_ifexp (wpG_mono y fun c x1 q => by
    cases c with
    | true => exact e_int q
    | false => exact e_int q)
theorem chr_add (a b : Nat) : ((⟨#[a]⟩ : Str) ++ ⟨#[b]⟩ : Str) = ⟨#[a, b]⟩ := by
  show (⟨#[a] ++ #[b]⟩ : Str) = _
  simp
abbrev duI1 (H : HM) (v0 v1 v2 v3 v7 v8 v9 v10 v11 : Option Value) (F : List Int) (wr du I : Addr) : Nat → Fst → Prop := fun i y => ∃ wo si us X, y = ([v0, v1, v2, v3, some (.ref du), wo, si, v7, v8, v9, v10, v11], X) ∧ X I = some (itL wr i) ∧ X du = some (.lst us) ∧ IntsAre us ((dueL (rowsF F)).take (4 * i)) ∧ (∀ a j, H a = some j → a ≠ du → X a = some j)
abbrev duI2 (H : HM) (v0 v1 v2 v3 v7 v8 v9 v10 v11 : Option Value) (F : List Int) (wr du I : Addr) (i : Nat) (tw t1 : Tok) (J : Addr) : Nat → Fst → Prop := fun j y => ∃ si us X, y = ([v0, v1, v2, v3, some (.ref du), some (.str (wordS (Fk F i)) tw), si, v7, v8, v9, v10, v11], X) ∧ X J = some (itS ⟨#[46, 97, 98, 99]⟩ t1 j) ∧ X I = some (itL wr (i + 1)) ∧ X du = some (.lst us) ∧ IntsAre us ((dueL (rowsF F)).take (4 * i + j)) ∧ (∀ a j, H a = some j → a ≠ du → X a = some j)
theorem ex_due {wr du : Addr} {wv : List Value} {F : List Int} {v0 v1 v2 v3 v7 v8 v9 v10 v11 : Option Value} {Q : Flow → Fst → Prop} (b : BaseOk w B) (hA : A.handled = none) (E : LawE w env L) (h4 : F.length = 4) (c1 : H (L + 1) = some (cel (some (.ref wr))))
    (hw : H wr = some (.lst wv)) (sw : StrsL wv (F.map wordS)) (hdu : H du = some (.lst [])) (nw : wr ≠ du) (nc : L + 1 ≠ du)
    (q : ∀ wo si us H', H' du = some (.lst us) → IntsAre us (dueL (rowsF F)) → (∀ a i, H a = some i → a ≠ du → H' a = some i) → Q .next ([v0, v1, v2, v3, some (.ref du), wo, si, v7, v8, v9, v10, v11], H')) :
    wpG w S (StF B L nsLaw) A (exec (ls w 6) env) Q ([v0, v1, v2, v3, some (.ref du), none, none, v7, v8, v9, v10, v11], H) := by
  have eW : Cel env sWords (L + 1) := .of E.sc E.cl rfl rfl
  refine x_for (f_cell E.f eW c1 ?_)
  refine i_list hw fun I hI hBI hIl => ?_
  have hwl : wv.length = 4 := by rw [strsL_len sw, List.length_map]; exact h4
  refine code_for (n := wv.length) (iter_list hA wv hIl) (duI1 H v0 v1 v2 v3 v7 v8 v9 v10 v11 F wr du I) ?_ ?_ ?_ ?_ ?_
  · rintro i y ⟨wo, si, us, X, rfl, x1, x2, x3, x4⟩
    exact ⟨x1, x4 _ _ hw nw⟩
  · intro i v hv; trivial
  · rintro i v us0 X0 hi hv ⟨wo, si, us, X, hz, x1, x2, x3, x4⟩
    cases hz
    have hi4 : i < 4 := by exact Nat.lt_of_lt_of_le hi (Nat.le_of_eq hwl)
    obtain ⟨tw, htw⟩ := strsL_at sw (map_at wordS (show i < F.length by (rw [h4]; exact hi4)))
    have ev : v = .str (wordS (Fk F i)) tw := by rw [htw] at hv; exact (Option.some.inj hv).symm
    subst ev
    have nI : I ≠ du := by first | exact nn hI (hdu) | exact Ne.symm (nn hI (hdu)) | exact nn (hdu) hI | exact Ne.symm (nn (hdu) hI) | (rintro rfl; rw [hdu] at hI; cases hI)
    have y1 : upd X0 I (itL wr (i + 1)) I = some (itL wr (i + 1)) := upd_same
    have y2 : upd X0 I (itL wr (i + 1)) du = some (.lst us) := (upd_ne (Ne.symm nI)).trans x2
    have y4 : ∀ a j, H a = some j → a ≠ du → upd X0 I (itL wr (i + 1)) a = some j := fun a j e n => (upd_ne (by first | exact nn e (hI) | exact Ne.symm (nn e (hI)) | exact nn (hI) e | exact Ne.symm (nn (hI) e) | (rintro rfl; rw [hI] at e; cases e))).trans (x4 a j e n)
    generalize upd X0 I (itL wr (i + 1)) = Y at *
    refine t_name E.f 5 rfl (Nat.le_of_ble_eq_true rfl) ?_
    refine x_cons (x_for (e_str fun t1 => i_str (by decide +kernel) fun J hJ hBJ => ?_))
    replace hJ : Y J = none := hJ
    have nJ : J ≠ du := by first | exact nn hJ (y2) | exact Ne.symm (nn hJ (y2)) | exact nn (y2) hJ | exact Ne.symm (nn (y2) hJ) | (rintro rfl; rw [y2] at hJ; cases hJ)
    have nJI : J ≠ I := by first | exact nn hJ (y1) | exact Ne.symm (nn hJ (y1)) | exact nn (y1) hJ | exact Ne.symm (nn (y1) hJ) | (rintro rfl; rw [y1] at hJ; cases hJ)
    have nJH : ∀ a j, H a = some j → a ≠ du → a ≠ J := fun a j e n z => by rw [z] at e; have := y4 _ _ e (z ▸ n); rw [hJ] at this; cases this
    refine code_for (n := (⟨#[46, 97, 98, 99]⟩ : Str).cps.size) (iter_str hA ⟨#[46, 97, 98, 99]⟩ t1) (duI2 H v0 v1 v2 v3 v7 v8 v9 v10 v11 F wr du I i tw t1 J) ?_ ?_ ?_ ?_ ?_
    · rintro j y ⟨si, us, X, rfl, z1, _⟩
      exact ⟨z1, trivial⟩
    · intro j v hv; trivial
    · rintro j v us1 X1 hj ⟨c, uc, hcc, rfl⟩ ⟨si2, us2, X2, hz, z1, z2, z3, z4, z5⟩
      cases hz
      have hj4 : j < 4 := hj
      have ec : c = gp j := by rw [gp_str hj4] at hcc; exact (Option.some.inj hcc).symm
      subst ec
      have a1 : upd X1 J (itS ⟨#[46, 97, 98, 99]⟩ t1 (j + 1)) J = some (itS ⟨#[46, 97, 98, 99]⟩ t1 (j + 1)) := upd_same
      have a2 : upd X1 J (itS ⟨#[46, 97, 98, 99]⟩ t1 (j + 1)) I = some (itL wr (i + 1)) := (upd_ne (Ne.symm nJI)).trans z2
      have a3 : upd X1 J (itS ⟨#[46, 97, 98, 99]⟩ t1 (j + 1)) du = some (.lst us2) := (upd_ne (Ne.symm nJ)).trans z3
      have a5 : ∀ a q, H a = some q → a ≠ du → upd X1 J (itS ⟨#[46, 97, 98, 99]⟩ t1 (j + 1)) a = some q := fun a q e n => (upd_ne (nJH a q e n)).trans (z5 a q e n)
      generalize upd X1 J (itS ⟨#[46, 97, 98, 99]⟩ t1 (j + 1)) = Z at *
      refine t_name E.f 6 rfl (Nat.le_of_ble_eq_true rfl) ?_
      refine x_cons (x_expr (hi := by unfold interactive; rw [E.sc]; rfl) ?_)
      refine e_meth rfl (f_local E.f 4 rfl rfl (m_append a3 ?_))
      refine c_with rfl (a_pos (s_cons (e_bin ?_)))
      refine e_meth rfl (f_local E.f 5 rfl rfl (m_count ?_))
      refine c_with rfl (a_pos (s_cons (f_local E.f 6 rfl rfl (s_nil ⟨Keep.builtin, b_count fun t2 => ?_⟩))))
      obtain ⟨nr1, nr2⟩ := nOf_range (Fk F i)
      have hne := (wdN_facts _ nr1 nr2).1
      have hc0 : (wordS (Fk F i)).cps[0]? = some ((wdN (nOf (Fk F i))).getD 0 0) := by
        show (wdN (nOf (Fk F i))).toArray[0]? = _
        cases e : wdN (nOf (Fk F i)) with
        | nil => exact absurd e hne
        | cons c r => rfl
      refine e_if10 (t_cmp (e_bin (f_local E.f 6 rfl rfl (e_sub (f_local E.f 5 rfl rfl (e_int fun t3 => tl_str (k := 0) (by exact Nat.zero_le _) hc0 fun t4 => b_adds (Nat.le_of_ble_eq_true rfl) fun t5 => e_str fun t6 => c_eqs (t_bool fun t7 => b_add fun t8 => ?_)))))))
      refine s_nil ⟨Keep.builtin, f_append a3 (by rw [z4.length, List.length_take, due_len]; show _ ≤ 16777216; (exact Nat.le_trans (Nat.min_le_right _ _) (Nat.le_add_left _ _))) ?_⟩
      have cf := count_facts _ nr1 nr2 j hj4
      refine x_nil ⟨_, ⟨_, us2 ++ [_], _, rfl, (upd_ne nJ).trans a1, (upd_ne nI).trans a2, upd_same, ?_, fun a q e n => (upd_ne n).trans (a5 a q e n)⟩, Sub.refl⟩
      rw [due_take hi4 hj4]
      refine ints_app z4 ?_
      rw [show ((rowsF F i).count (gp j) : Int) = _ from cf.symm]
      exact .cons _ _ .nil
    · rintro us1 X1 ⟨si2, us2, X2, hz, z1, z2, z3, z4, z5⟩
      cases hz
      refine ⟨_, rfl, ?_⟩
      refine x_nil ⟨_, ⟨_, _, us2, era X1 J, rfl, ?_, ?_, ?_, ?_⟩, Sub.refl⟩
      · unfold era; rw [if_neg (Ne.symm nJI)]; exact z2
      · unfold era; rw [if_neg (Ne.symm nJ)]; exact z3
      · rw [show 4 * (i + 1) = 4 * i + 4 from by exact Nat.mul_add _ _ _]; exact z4
      · intro a q e n; show era X1 J a = _; unfold era; rw [if_neg (nJH a q e n)]; exact z5 a q e n
    · exact ⟨si, us, _, rfl, upd_same, upd_old hJ y1, upd_old hJ y2, x3, fun a q e n => upd_old hJ (y4 a q e n)⟩
  · rintro us0 X0 ⟨wo, si, us, X, hz, x1, x2, x3, x4⟩
    cases hz
    refine ⟨_, rfl, ?_⟩
    have nI : I ≠ du := by first | exact nn hI (hdu) | exact Ne.symm (nn hI (hdu)) | exact nn (hdu) hI | exact Ne.symm (nn (hdu) hI) | (rintro rfl; rw [hdu] at hI; cases hI)
    refine q wo si us _ ?_ ?_ fun a j e n => ?_
    · unfold era; rw [if_neg (Ne.symm nI)]; exact x2
    · rw [hwl, show 4 * 4 = (dueL (rowsF F)).length from by rw [due_len], List.take_length] at x3; exact x3
    · show era X0 I a = _; unfold era; rw [if_neg (by first | exact nn e (hI) | exact Ne.symm (nn e (hI)) | exact nn (hI) e | exact Ne.symm (nn (hI) e) | (rintro rfl; rw [hI] at e; cases e))]; exact x4 a j e n
  · exact ⟨none, none, [], _, rfl, upd_same, upd_old hI hdu, .nil, fun a j e n => upd_old hI e⟩
end
end Mine
end
/-! part L9 -/
section
open PySem PySem.W PySem.Calls PyProof.Rows
set_option maxRecDepth 100000
set_option maxHeartbeats 4000000
set_option linter.unusedVariables false
namespace Mine
section
variable {w : World} {S : Shared} {B : HM} {A : Around} {H H' : HM} {L d l bk lh : Addr} {vs : List (Option Value)} {env : Env} {t u : Tok}
theorem ex_hours {du : Addr} {dv : List Value} {F : List Int} {Q : Flow → Fst → Prop} (b : BaseOk w B) (hA : Room A 160) (E : LawE w env L) (hv : vs[4]? = some (some (.ref du))) (hvl : vs.length = 12) (hd : H du = some (.lst dv)) (hi : IntsAre dv (dueL (rowsF F)))
    (q : ∀ (Δ : Nat) r ys H', Δ ≤ 12 → (Δ : Int) ∈ sumsOf (dueL (rowsF F)) → (∀ a ∈ sumsOf (dueL (rowsF F)), a ≤ (Δ : Int)) → H' r = some (.lst ys) → ChrL ys ((List.range Δ).map (97 + ·)) → Sub H H' → Q .next (vs.set 7 (some (.ref r)), H')) : wpG w S (StF B L nsLaw) A (exec (ls w 7) env) Q (vs, H) := by
  refine x_assignC (cns := [⟨#[107]⟩]) (cl := []) 7 rfl E.f (by unfold swapsWith Env.blockKind Env.kindOf; rw [E.sc]; rfl) rfl ?_ rfl ?_ ?_ ?_
  · decide +kernel
  · decide +kernel
  · exact ⟨rfl, by decide +kernel, by intro y hy; simp at hy; subst hy; rfl, by decide +kernel⟩
  refine e_call (f_builtin (v := .type "range") b E.f (by kernel_rfl) (by kernel_rfl) (by decide) (by rw [E.sc]; rfl) (by decide +kernel) ?_)
  refine c_with rfl (a_pos (s_cons ?_))
  refine e_call (f_builtin (v := .builtin "max") b E.f (by kernel_rfl) (by kernel_rfl) (by decide) (by rw [E.sc]; rfl) (by decide +kernel) ?_)
  refine c_with rfl (a_pos (s_cons ?_))
  refine e_call (f_global (v := .ref 260) b E.f (by kernel_rfl) (by rw [E.sc]; rfl) (by decide +kernel) ?_)
  refine c_with rfl (a_pos (s_cons (f_local E.f 4 rfl hv (s_nil ⟨Keep.fn b (by kernel_rfl), ?_⟩))))
  refine f_sums b (hA.mono (by exact Nat.le_add_left _ _)) hd hi due_len fun r1 ys1 H1 g1 k1 i1 => s_nil ⟨Keep.builtin, ?_⟩
  refine f_max hA.hand g1 i1 (by unfold sumsOf; simp) fun M tM m1 m2 => s_nil ⟨Keep.type, ?_⟩
  obtain ⟨p, hp, eM⟩ := (sums_due (rows := rowsF F) fun k _ => rowsF_grp F k).mp m1
  have h12 := deg_12 (rows := rowsF F) (fun k _ => rowsF_grp F k) (fun k _ => rowsF_len F k) p
  generalize (upTo (rowsF F) 4).countP (hit anyP p) = Δ at *
  subst eM
  refine r_range1 fun r2 g2 g3 => ?_
  refine i_range upd_same (by decide) (by decide) (by exact Mine.ci13) (by omega) fun I hI hBI => ?_
  replace g2 : H1 r2 = none := g2
  replace hI : upd H1 r2 (rngI 0 Δ) I = none := hI
  rw [show itR 0 (if (0 : Int) < (Δ : Int) then (Δ : Int) - 0 else 0) 1 = itR (0 + ((0 : Nat) : Int) * 1) ((Δ : Int) - ((0 : Nat) : Int)) 1 from by
    congr 1; split <;> omega]
  have k2 : Sub H (upd H1 r2 (rngI 0 Δ)) := k1.trans (Sub.new g2)
  refine ⟨I, _, upd H1 r2 (rngI 0 Δ), Δ, (fun i v => ∃ t, v = .int (0 + i * 1) t), (fun i => itR (0 + i * 1) (Δ - i) 1), fun _ => True, fun i ys => ChrL ys ((List.range i).map (97 + ·)), rfl, rfl, hI, ?_⟩
  refine ⟨fun C => iter_range hA.hand 0 1 Δ, fun _ _ => trivial, fun i ys h => ?_, ?_, fun _ _ _ => trivial, ChrL.nil, ?_, ?_⟩
  · rw [h.1, List.length_map, List.length_range]; exact Nat.le_refl _
  · show Δ ≤ 16777216; (exact Nat.le_trans h12 (Nat.le_add_left _ _))
  · intro D C hD hBD hDI hL hLD hLI fc i v ys cvs hi4 hv hJ hcv
    obtain ⟨tv, rfl⟩ := hv
    match cvs, hcv with
    | [u0], _ =>
    refine t_name fc 0 rfl (Nat.le_of_ble_eq_true rfl) (tests_nil ?_)
    rw [if_pos rfl, show ((0 : Int) + (i : Int) * 1) = (i : Int) from by omega]
    refine e_call (f_builtin (v := .builtin "chr") b fc (by kernel_rfl) (by kernel_rfl) (by decide) rfl (by decide +kernel) ?_)
    refine c_with rfl (a_pos (s_cons (e_bin (e_int fun t1 => f_local fc 0 rfl rfl (b_add fun t2 => s_nil ⟨Keep.builtin, ?_⟩)))))
    refine b_chr (by omega) (by exact Mine.ci11 (Nat.lt_of_lt_of_le hi4 h12) (Nat.add_zero _) (Nat.le_refl _)) fun t3 => ⟨?_, rfl, Sub.refl⟩
    rw [show ((97 : Int) + (i : Int)).toNat = 97 + i from by rfl, List.range_succ, List.map_append]
    exact hJ.snoc
  · intro D ys hD hBD hJ
    exact ⟨by rw [hvl]; decide, q Δ D ys _ h12 m1 m2 upd_same hJ (k2.trans (Sub.new hD))⟩
theorem ev_pages {xs lxs : Nat → Addr} {hv : List Value} {F : List Int} {Δ : Nat} {Q : Value → Fst → Prop} (b : BaseOk w B) (hA : Room A 160) (E : LawE w env L) (h3 : vs[3]? = some (some (.ref bk))) (h7 : vs[7]? = some (some (.ref lh)))
    (K : BkF w H bk xs lxs (foldT blankT (upTo (rowsF F) 4))) (hh : H lh = some (.lst hv)) (hc : ChrL hv ((List.range Δ).map (97 + ·))) (hm : Δ ≤ 12) (G : Good Δ (upTo (rowsF F) 4))
    (q : ∀ r pg xp x0 x1 ys H', H' r = some (.lst ys) → ys = (List.range Δ).map (fun i => .ref (xp i)) → Pages w H' pg xp x0 x1 Δ (pg0 (foldT blankT (upTo (rowsF F) 4)) 4) (pg1 (foldT blankT (upTo (rowsF F) 4)) 4) → Sub H H' → Q (.ref r) (vs, H')) : wpG w S (StF B L nsLaw) A (eval (lv w 8) env) Q (vs, H) := by
  refine e_call (f_global (v := .ref 255) b E.f (by kernel_rfl) (by rw [E.sc]; rfl) (by decide +kernel) ?_)
  refine c_with rfl (a_pos (s_cons (f_local E.f 3 rfl h3 (s_cons (f_local E.f 7 rfl h7 (s_nil ⟨Keep.fn b (by kernel_rfl), ?_⟩))))))
  have GI := G.inv
  refine f_pages b (hA.mono (by exact Nat.le_add_left _ _)) K hh hc hm (fun p _ e he => GI.keys e he) (fun k hk e he => ?_) (fun g hg e he => ?_) q
  · rcases GI.inv.bip _ _ _ ((lookup_mem (GI.inv.nd _)).mpr he) with z | z
    · exact z.2
    · exact absurd z.1 (disj (tc_mem hk))
  · rcases GI.inv.bip _ _ _ ((lookup_mem (GI.inv.nd _)).mpr he) with z | z
    · exact absurd hg (disj z.1)
    · have := z.2
      simp only [TC, List.mem_cons, List.not_mem_nil, or_false] at this; (exact Mine.tc6 this)
end
end Mine
end
/-! part L10 -/
section
open PySem PySem.W PySem.Calls PyProof.Rows
set_option maxRecDepth 100000
set_option maxHeartbeats 4000000
set_option linter.unusedVariables false
namespace Mine
section
variable {w : World} {S : Shared} {B : HM} {A : Around} {H H' : HM} {L d l bk lh : Addr} {vs : List (Option Value)} {env : Env} {t u : Tok}
theorem room_units {n : Nat} (h : Room A n) : A.units < cLine := h.u
abbrev chI (H : HM) (v0 v1 v2 v3 v4 v5 v6 v7 v11 : Option Value) (pr I : Addr) : Nat → Fst → Prop := fun i y => ∃ bt bc X, y = ([v0, v1, v2, v3, v4, v5, v6, v7, some (.ref pr), bt, bc, v11], X) ∧ X I = some (itL pr i) ∧ Sub H X
theorem ex_check {pr pg : Addr} {xp x0 x1 : Nat → Addr} {pv : List Value} {F : List Int} {Δ : Nat} {v0 v1 v2 v3 v4 v5 v6 v7 v11 : Option Value} {Q : Flow → Fst → Prop} (b : BaseOk w B) (hA : Room A 160) (E : LawE w env L)
    (hp : H pr = some (.lst pv)) (ep : pv = (List.range Δ).map (fun i => .ref (xp i))) (P : Pages w H pg xp x0 x1 Δ (pg0 (foldT blankT (upTo (rowsF F) 4)) 4) (pg1 (foldT blankT (upTo (rowsF F) 4)) 4)) (hd : Δ ≤ 12) (h1 : (Δ : Int) ∈ sumsOf (dueL (rowsF F))) (G : Good Δ (upTo (rowsF F) 4))
    (q : ∀ bt bc H', Sub H H' → Q .next ([v0, v1, v2, v3, v4, v5, v6, v7, some (.ref pr), bt, bc, v11], H')) :
    wpG w S (StF B L nsLaw) A (exec (ls w 10) env) Q ([v0, v1, v2, v3, v4, v5, v6, v7, some (.ref pr), none, none, v11], H) := by
  refine x_for (f_local E.f 8 rfl rfl ?_)
  refine i_list hp fun I hI hBI hIl => ?_
  have hpl : pv.length = Δ := by rw [ep]; simp
  refine code_for (n := pv.length) (iter_list hA.hand pv hIl) (chI H v0 v1 v2 v3 v4 v5 v6 v7 v11 pr I) ?_ ?_ ?_ ?_ ?_
  · rintro i y ⟨bt, bc, X, rfl, x1, x2⟩
    exact ⟨x1, x2 _ _ hp⟩
  · intro i v hv
    have hm := List.mem_of_getElem? hv
    rw [ep] at hm
    obtain ⟨j, _, rfl⟩ := List.mem_map.mp hm
    exact ⟨_, rfl⟩
  · rintro i v us0 X0 hi hv ⟨bt, bc, X, hz, y1, y2⟩
    cases hz
    have him : i < Δ := by exact Nat.lt_of_lt_of_le hi (Nat.le_of_eq hpl)
    have ev : v = .ref (xp i) := by rw [ep, List.getElem?_map, List.getElem?_range him] at hv; exact (Option.some.inj hv).symm
    subst ev
    have z1 : upd X0 I (itL pr (i + 1)) I = some (itL pr (i + 1)) := upd_same
    have z2 : Sub H (upd X0 I (itL pr (i + 1))) := fun a j e => (upd_ne (by first | exact nn e (hI) | exact Ne.symm (nn e (hI)) | exact nn (hI) e | exact Ne.symm (nn (hI) e) | (rintro rfl; rw [hI] at e; cases e))).trans (y2 a j e)
    generalize upd X0 I (itL pr (i + 1)) = Z at *
    have PZ := P.mono z2
    refine t_list2 hA.hand E.f 9 10 rfl rfl (Nat.le_of_ble_eq_true rfl) (Nat.le_of_ble_eq_true rfl) (PZ.p i him) ?_
    obtain ⟨ua, ha, ia⟩ := PZ.a i him
    obtain ⟨ub, hb, ib⟩ := PZ.b i him
    rw [pg0_eq G.inv.inv] at ia
    rw [pg1_eq G.inv.inv] at ib
    refine x_cons (x_if (t_or2 (t_cmp (f_local E.f 9 rfl rfl (f_local E.f 10 rfl rfl (c_nel (room_units hA) ha hb ia ib (t_bool ?_)))))))
    rw [if_neg (by decide)]
    refine t_cmp ?_
    refine e_call (f_builtin (v := .builtin "max") b E.f (by kernel_rfl) (by kernel_rfl) (by decide) (by rw [E.sc]; rfl) (by decide +kernel) ?_)
    refine c_with rfl (a_pos (s_cons ?_))
    refine e_call (f_global (v := .ref 260) b E.f (by kernel_rfl) (by rw [E.sc]; rfl) (by decide +kernel) ?_)
    refine c_with rfl (a_pos (s_cons (f_local E.f 9 rfl rfl (s_nil ⟨Keep.fn b (by kernel_rfl), ?_⟩))))
    refine f_sums b (hA.mono (by exact Nat.le_add_left _ _)) ha ia (by unfold pgl; simp) fun r1 ys1 H1 g1 k1 i1 => s_nil ⟨Keep.builtin, ?_⟩
    refine f_max hA.hand g1 i1 (by unfold sumsOf; simp) fun M tM m1 m2 => ?_
    have e1 : M = 1 := max_one G.inv.inv (hour_used (fun k _ => rowsF_grp F k) hd h1 G him) m1 m2
    subst e1
    refine e_int fun t2 => c_nei (t_bool ?_)
    rw [if_neg (by decide)]
    exact x_nil (x_nil ⟨_, ⟨_, _, H1, rfl, k1 _ _ z1, z2.trans k1⟩, Sub.refl⟩)
  · rintro us0 X0 ⟨bt, bc, X, hz, y1, y2⟩
    cases hz
    exact ⟨_, rfl, q bt bc _ fun a j e => by show era X0 I a = _; unfold era; rw [if_neg (by first | exact nn e (hI) | exact Ne.symm (nn e (hI)) | exact nn (hI) e | exact Ne.symm (nn (hI) e) | (rintro rfl; rw [hI] at e; cases e))]; exact y2 a j e⟩
  · exact ⟨none, none, _, rfl, upd_same, Sub.new hI⟩
end
end Mine
end
/-! part L11 -/
section
open PySem PySem.W PySem.Calls PyProof.Rows
set_option maxRecDepth 100000
set_option maxHeartbeats 4000000
set_option linter.unusedVariables false
namespace Mine
theorem pgl_small (T : Tabs) (h : Nat) : ∀ z ∈ pgl T h, 0 ≤ z ∧ z < 16 := fun z hz => by
  unfold pgl at hz
  obtain ⟨c, _, rfl⟩ := List.mem_map.mp hz
  unfold pgv; split <;> (decide)
section
variable {w : World} {S : Shared} {B : HM} {A : Around} {H H' : HM} {L d l bk lh : Addr} {vs : List (Option Value)} {env : Env} {t u : Tok}
abbrev toInv (H : HM) (L D I pr : Addr) (vs : List (Option Value)) (F : List Int) : Nat → List Value → HM → Prop := fun i ys X => (X I = some (itL pr i) ∧ X D = some (.lst ys) ∧ X L = some (.loc nsLaw vs) ∧ TabX 47 24 4 qInD X ∧ (∀ a j, H a = some j → a ≠ 47 → X a = some j)) ∧ IntsAre ys ((List.range i).map fun i => ev (pgl (foldT blankT (upTo (rowsF F) 4)) (97 + i)))
theorem ev_told {pr pg : Addr} {xp x0 x1 : Nat → Addr} {pv : List Value} {F : List Int} {Δ : Nat} {Q : Value → Fst → Prop} (b : BaseOk w B) (hA : Room A 170) (E : LawE w env L) (h8 : vs[8]? = some (some (.ref pr)))
    (hp : H pr = some (.lst pv)) (ep : pv = (List.range Δ).map (fun i => .ref (xp i))) (P : Pages w H pg xp x0 x1 Δ (pg0 (foldT blankT (upTo (rowsF F) 4)) 4) (pg1 (foldT blankT (upTo (rowsF F) 4)) 4)) (hd : Δ ≤ 12) (G : Good Δ (upTo (rowsF F) 4)) (hT : TabX 47 24 4 qInD H) (hT2 : TabX 40 9 4 qInI H)
    (q : ∀ r ys H', H' r = some (.lst ys) → IntsAre ys (natI (digs (ev (dueL (rowsF F))).toNat 4 (cntD (ev (dueL (rowsF F))).toNat 4))) → (∀ a i, H a = some i → a ≠ 47 → a ≠ 40 → H' a = some i) → TabX 40 9 4 qInI H' → TabX 47 24 4 qInD H' → Q (.ref r) (vs, H')) : wpG w S (StF B L nsLaw) A (eval (lv w 11) env) Q (vs, H) := by
  have hpl : pv.length = Δ := by rw [ep]; simp
  have psum := page_sum (rows := rowsF F) (fun k _ => rowsF_grp F k) hd G
  refine e_call (f_global (v := .ref 45) b E.f (by kernel_rfl) (by rw [E.sc]; rfl) (by decide +kernel) ?_)
  refine c_with rfl (a_pos (s_cons ?_))
  refine e_call (f_builtin (v := .builtin "sum") b E.f (by kernel_rfl) (by kernel_rfl) (by decide) (by rw [E.sc]; rfl) (by decide +kernel) ?_)
  refine c_with rfl (a_pos (s_cons ?_))
  refine e_compX (cns := [⟨#[112, 97, 103, 101]⟩]) (cl := []) E.f rfl ?_ rfl ?_ ?_ ?_
  · decide +kernel
  · decide +kernel
  · exact ⟨rfl, by decide +kernel, by intro y hy; simp at hy; subst hy; rfl, by decide +kernel⟩
  refine f_local E.f 8 rfl h8 ?_
  refine i_list hp fun I hI hBI hIl => ?_
  refine ⟨I, _, H, pv.length, fun i v => pv[i]? = some v, itL pr, fun H => H pr = some (.lst pv), rfl, rfl, hI, ?_⟩
  refine ⟨fun C => iter_list hA.hand pv hIl, ?_, fun _ _ _ => trivial, fun D C hD hBD hDI hL hLD hLI fc => ?_⟩
  · rw [hpl]; show _ ≤ 16777216; (exact Nat.le_trans hd (Nat.le_add_left _ _))
  have n47 : ∀ {a : Addr} {us : List Value}, H a = some (.lst us) → a ≠ 47 := fun e => Ne.symm (tabX_ne hT e (by intro ps h; cases h))
  refine ⟨toInv H L D I pr vs F, ?_, ?_, ?_, ?_⟩
  · rintro i ys X ⟨⟨x1, x2, x3, x4, x5⟩, x6⟩
    refine ⟨x1, x2, x3, x5 _ _ hp (n47 hp), ?_⟩
    rw [x6.length, List.length_map, List.length_range]; exact Nat.le_refl _
  · have k0 : Sub H (Hc (upd H L (.loc nsLaw vs)) I D (itL pr) 0 []) := fun a j e => hc_old (H1 := H) e hD hI hL
    exact ⟨⟨(upd_ne (Ne.symm hDI)).trans upd_same, upd_same, (upd_ne hLD).trans ((upd_ne hLI).trans upd_same), hT.mono k0, fun a j e _ => k0 a j e⟩, .nil⟩
  · rintro i v ys cvs X hi hv' ⟨⟨x1, x2, x3, x4, x5⟩, x6⟩ hcv
    match cvs, hcv with
    | [u0], _ =>
    have him : i < Δ := by exact Nat.lt_of_lt_of_le hi (Nat.le_of_eq hpl)
    have ev1 : v = .ref (xp i) := by rw [ep, List.getElem?_map, List.getElem?_range him] at hv'; exact (Option.some.inj hv').symm
    subst ev1
    have n4 : ∀ {a : Addr} {j : Item}, X a = some j → (∀ ps, j ≠ .obj (tabObj ps)) → a ≠ 47 := fun e h => Ne.symm (tabX_ne x4 e h)
    have nI := n4 x1 (by intro ps h; cases h)
    have nD := n4 x2 (by intro ps h; cases h)
    have nL := n4 x3 (by intro ps h; cases h)
    have y1 : upd X I (itL pr (i + 1)) I = some (itL pr (i + 1)) := upd_same
    have y2 : upd X I (itL pr (i + 1)) D = some (.lst ys) := (upd_ne hDI).trans x2
    have y3 : upd X I (itL pr (i + 1)) L = some (.loc nsLaw vs) := (upd_ne hLI).trans x3
    have y4 : TabX 47 24 4 qInD (upd X I (itL pr (i + 1))) := tabX_off x4 (q := I) (fun j e s => by rw [x1] at e; cases e; exact itL_crec s) (Ne.symm nI) fun a j e n => (upd_ne n).trans e
    have y5 : ∀ a j, H a = some j → a ≠ 47 → upd X I (itL pr (i + 1)) a = some j := fun a j e n => (upd_ne (by first | exact nn e (hI) | exact Ne.symm (nn e (hI)) | exact nn (hI) e | exact Ne.symm (nn (hI) e) | (rintro rfl; rw [hI] at e; cases e))).trans (x5 a j e n)
    generalize upd X I (itL pr (i + 1)) = Y at *
    refine t_name fc 0 rfl (Nat.le_of_ble_eq_true rfl) (tests_nil ?_)
    show wpG _ _ _ _ _ _ _
    obtain ⟨ua, ha, ia⟩ := P.a i him
    rw [pg0_eq G.inv.inv] at ia
    refine e_call (f_global (v := .ref 52) b fc (by kernel_rfl) rfl (by decide +kernel) ?_)
    refine c_with rfl (a_pos (s_cons (e_sub (f_local fc 0 rfl rfl (e_int fun t1 => tl_list (y5 _ _ (P.p i him) (n47 (P.p i him))) (by decide) (by decide) rfl ?_)))))
    refine s_int fun t2 => s_nil ⟨Keep.fn b (by kernel_rfl), ?_⟩
    refine f_d2i b (hA.mono (by exact Nat.le_add_left _ _)) (y5 _ _ ha (n47 ha)) (pgl_small _ _) ia (by unfold pgl; simp) y4 fun t3 Z d3 d4 => ?_
    have z1 : Z I = some (itL pr (i + 1)) := d4 _ _ y1 nI
    have z2 : Z D = some (.lst ys) := d4 _ _ y2 nD
    have z3 : Z L = some (.loc nsLaw vs) := d4 _ _ y3 nL
    refine ⟨Z, ⟨⟨(upd_ne (Ne.symm hDI)).trans z1, upd_same, (upd_ne hLD).trans z3, ?_, ?_⟩, ?_⟩, rfl, z2, Sub.refl⟩
    · exact tabX_off d3 (q := D) (fun j e s => by rw [z2] at e; cases e; intro z; cases z) (Ne.symm nD) fun a i e n => (upd_ne n).trans e
    · intro a j e n
      exact (upd_ne (by first | exact nn e (hD) | exact Ne.symm (nn e (hD)) | exact nn (hD) e | exact Ne.symm (nn (hD) e) | (rintro rfl; rw [hD] at e; cases e))).trans (d4 _ _ (y5 a j e n) n)
    · rw [List.range_succ, List.map_append]
      exact ints_app x6 (.cons _ _ .nil)
  · rintro ys X ⟨⟨x1, x2, x3, x4, x5⟩, x6⟩
    have zD : era (era X I) L D = some (.lst ys) := by
      show era (era X I) L D = _
      unfold era; rw [if_neg (Ne.symm hLD), if_neg hDI]; exact x2
    have zk : ∀ a j, H a = some j → a ≠ 47 → era (era X I) L a = some j := fun a j e n => by
      unfold era; rw [if_neg (by first | exact nn e (hL) | exact Ne.symm (nn e (hL)) | exact nn (hL) e | exact Ne.symm (nn (hL) e) | (rintro rfl; rw [hL] at e; cases e)), if_neg (by first | exact nn e (hI) | exact Ne.symm (nn e (hI)) | exact nn (hI) e | exact Ne.symm (nn (hI) e) | (rintro rfl; rw [hI] at e; cases e))]; exact x5 a j e n
    have zT : TabX 40 9 4 qInI (era (era X I) L) := tabX_off hT2 (q := 47) (fun j e s => by
      obtain ⟨ps, e2⟩ := hT.some
      rw [e2] at e; cases e; exact crec_obj _ _) (by decide) zk
    have eI : TabX 47 24 4 qInD (era X I) := tabX_off x4 (q := I) (fun j e s => by rw [x1] at e; cases e; exact itL_crec s) (tabX_ne x4 x1 (by intro ps h; cases h)) fun a j e n => (era_ne n).trans e
    have lI : era X I L = some (.loc nsLaw vs) := (era_ne hLI).trans x3
    have zT7 : TabX 47 24 4 qInD (era (era X I) L) := tabX_off eI (q := L) (fun j e s => by rw [lI] at e; cases e; exact crec_loc _ _ _) (tabX_ne x4 x3 (by intro ps h; cases h)) fun a j e n => by show era (era X I) L a = _; unfold era at e ⊢; rw [if_neg n]; exact e
    generalize era (era X I) L = Z at *
    rw [hpl] at x6
    refine s_nil ⟨Keep.builtin, f_sum hA.hand zD x6 fun t4 => ?_⟩
    rw [psum]
    have hsm := due_small (rows := rowsF F) fun k _ => rowsF_len F k
    have hb := ev_bound _ hsm
    rw [due_len] at hb
    have h16 : (16 : Int) ^ 16 = 18446744073709551616 := by decide
    refine s_int fun t5 => s_nil ⟨Keep.fn b (by kernel_rfl), ?_⟩
    generalize hde : ev (dueL (rowsF F)) = e9 at *
    obtain ⟨a, rfl⟩ : ∃ a : Nat, e9 = a := ⟨e9.toNat, by exact Eq.symm (Int.toNat_of_nonneg hb.1)⟩
    refine f_i2d (n := 4) b (hA.mono (by exact Nat.le_add_left _ _)) (by (have : (2 : Nat) ^ 64 = 18446744073709551616 := by decide); omega) (.inr rfl) zT fun r yv H9 k1 k2 k3 k4 => ?_
    rw [Int.toNat_natCast] at q
    exact q r yv H9 k1 k2 (fun a i e n1 n2 => k4 a i (zk a i e n1) n2) k3 (tabX_off zT7 (q := 40) (fun j e s => by
      obtain ⟨ps, e2⟩ := zT.some
      rw [e2] at e; cases e; exact crec_obj _ _) (by decide) k4)
theorem ev_last {td du : Addr} {tv dv : List Value} {F : List Int} {Q : Value → Fst → Prop} (b : BaseOk w B) (hA : Room A 160) (E : LawE w env L) (h11 : vs[11]? = some (some (.ref td))) (h4 : vs[4]? = some (some (.ref du)))
    (ht : H td = some (.lst tv)) (it : IntsAre tv (natI (digs (ev (dueL (rowsF F))).toNat 4 (cntD (ev (dueL (rowsF F))).toNat 4)))) (hdu : H du = some (.lst dv)) (id : IntsAre dv (dueL (rowsF F)))
    (q : ∀ H', Sub H H' → Q (.bool true) (vs, H')) : wpG w S (StF B L nsLaw) A (eval (lv w 12) env) Q (vs, H) := by
  obtain ⟨hc, back⟩ := digs_back (due_small (rows := rowsF F) fun k _ => rowsF_len F k) due_len
  generalize cntD (ev (dueL (rowsF F))).toNat 4 = cn at *
  generalize (ev (dueL (rowsF F))).toNat = a at *
  have htl : tv.length = cn := by rw [it.length]; unfold natI; simp [digs_len]
  refine e_cmp (e_bin (f_local E.f 11 rfl h11 (e_bin (e_list (s_int fun t1 => s_nil ⟨Nat.le_of_ble_eq_true rfl, fun r1 g1 g2 => e_bin (e_int fun t2 => ?_)⟩)))))
  refine e_call (f_builtin (v := .builtin "len") b E.f (by kernel_rfl) (by kernel_rfl) (by decide) (by rw [E.sc]; rfl) (by decide +kernel) ?_)
  replace g1 : H r1 = none := g1
  have k1 : Sub H (upd H r1 (.lst [.int 0 t1])) := Sub.new g1
  refine c_with rfl (a_pos (s_cons (f_local E.f 11 rfl h11 (s_nil ⟨Keep.builtin, f_len (k1 _ _ ht) (by show _ ≤ 16777216; (rw [htl]; exact (Nat.le_trans hc (Nat.le_add_left _ _)))) fun t3 => b_sub fun t4 => ?_⟩))))
  rw [htl]
  refine b_mull (k := 16 - cn) (by exact Mine.s16 hc) upd_same (by simp; (exact Nat.le_trans (Nat.le_add_left _ _) (Nat.le_add_right _ _))) (by exact Nat.le_trans (Nat.sub_le _ _) (Nat.le_add_left _ _)) fun r2 g3 g4 => ?_
  replace g3 : upd H r1 (.lst [.int 0 t1]) r2 = none := g3
  rw [show (List.replicate (16 - cn) [Value.int 0 t1]).flatten = List.replicate (16 - cn) (Value.int 0 t1) from by simp]
  refine b_addl (upd_old g3 (k1 _ _ ht)) upd_same (by rw [List.length_replicate]; show _ ≤ 16777216; (rw [htl]; exact (sm2 hc (Nat.sub_le _ _) (Nat.le_add_left _ _)))) fun r3 g5 g6 => ?_
  have k3 := (k1.trans (Sub.new (j := .lst (List.replicate (16 - cn) (Value.int 0 t1))) g3)).trans (Sub.new (j := .lst (tv ++ List.replicate (16 - cn) (Value.int 0 t1))) g5)
  refine f_local E.f 4 rfl h4 (c_eql (room_units hA) upd_same (k3 _ _ hdu) (ints_app it (zeros_ints t1 _)) id ?_)
  rw [back, show (dueL (rowsF F) == dueL (rowsF F)) = true from by simp]
  exact q _ k3
end
end Mine
end
/-! part L12 -/
section
open PySem PySem.W PySem.Calls PyProof.Rows
set_option maxRecDepth 100000
set_option maxHeartbeats 4000000
set_option linter.unusedVariables false
namespace Mine
theorem cel_crec {v : Option Value} (s : Str) : cel v ≠ crec s := by
  intro h
  obtain ⟨vs, t2, h1, h2⟩ := any_inj h { cls := .none, data := .cell v } rfl
  cases h1
theorem cel_tab {v : Option Value} (ps : Array Value) : cel v ≠ .obj (tabObj ps) := by intro h; cases h
structure Tabs3 (H : HM) : Prop where
  a : TabX 40 9 4 qInI H
  b : TabX 47 24 4 qInD H
  c : TabX 217 134 66 qLam H
section
variable {w : World} {S : Shared} {B : HM} {A : Around} {H H' : HM} {L q : Addr}
theorem Tabs3.mono (T : Tabs3 H) (k : Sub H H') : Tabs3 H' := ⟨T.a.mono k, T.b.mono k, T.c.mono k⟩
theorem Tabs3.cell {v v' : Option Value} (T : Tabs3 H) (hq : H q = some (cel v)) : Tabs3 (upd H q (cel v')) := by
  have g : ∀ i, H q = some i → ∀ s, i ≠ crec s := fun i e s => by rw [hq] at e; cases e; exact cel_crec s
  have k : ∀ a i, H a = some i → a ≠ q → upd H q (cel v') a = some i := fun a i e n => (upd_ne n).trans e
  exact ⟨tabX_off T.a g (tabX_ne T.a hq cel_tab) k, tabX_off T.b g (tabX_ne T.b hq cel_tab) k, tabX_off T.c g (tabX_ne T.c hq cel_tab) k⟩
theorem tab_nocrec {P ln cl : Nat} {ql : Str} (T : TabX P ln cl ql H) : ∀ i, H P = some i → ∀ s, i ≠ crec s := fun i e s => by
  obtain ⟨ps, e2⟩ := T.some
  rw [e2] at e; cases e; exact crec_obj _ _
theorem law_spec {sc : Addr} {sv : List Value} {zs : List Int} {Q : Result → HM → Prop} (b : BaseOk w B) (hA : Room A 180) (hs : ∀ h, Own B h → h.IsList sc sv.toArray) (hz : IntsAre sv zs) (hl : zs.length ≤ 63) (hT : Tabs3 H)
    (q : ∀ H', (∃ ps, H' 40 = some (.obj (tabObj ps))) → (∃ ps, H' 47 = some (.obj (tabObj ps))) → (∃ ps, H' 217 = some (.obj (tabObj ps))) → Q (.ok (.ret (.bool true))) H') : codeG w S (St B) A (.call (.ref 265) ⟨[.ref sc], []⟩) Q H := by
  refine enterC b hA (hd.zo_267 w.params) [.ref sc] [(sScript, .ref sc)] [(sWords, none), (sEnds, none)] (by kernel_rfl) rfl (by kernel_rfl) (ns := nsLaw) ⟨rfl, by decide +kernel, by decide +kernel, by decide +kernel⟩ rfl rfl (Nat.le_of_ble_eq_true rfl) ?_ ?_ rfl rfl ?_
  · intro L y hy
    simp only [List.mem_cons, List.not_mem_nil, or_false] at hy
    rcases hy with rfl
    exact .inl rfl
  · intro L
    exact ⟨⟨rfl, rfl⟩, ⟨rfl, rfl⟩, trivial⟩
  intro A1 L env hA1 f hsc hcl hco hql hfr
  replace hcl : env.cells = [(sEnds, L + 2), (sWords, L + 1)] := hcl
  have E : LawE w env L := ⟨f, hsc, hcl⟩
  have h1 : H (L + 1) = none := (hfr 1).1
  have h2 : H (L + 2) = none := (hfr 2).1
  have n12 : L + 1 ≠ L + 2 := Nat.ne_of_lt (Nat.lt_succ_self _)
  have eW : Cel env sWords (L + 1) := .of hsc hcl rfl rfl
  have eN : Cel env sEnds (L + 2) := .of hsc hcl rfl rfl
  show wpG w S (StF B L nsLaw) A1 _ _ (_, upd (upd H (L + 2) (cel none)) (L + 1) (cel none))
  have k0 : Sub H (upd (upd H (L + 2) (cel none)) (L + 1) (cel none)) := (Sub.new h2).trans (Sub.new (upd_off h1 n12))
  have c1 : upd (upd H (L + 2) (cel none)) (L + 1) (cel none) (L + 1) = some (cel none) := upd_same
  have c2 : upd (upd H (L + 2) (cel none)) (L + 1) (cel none) (L + 2) = some (cel none) := (upd_ne (Ne.symm n12)).trans upd_same
  generalize upd (upd H (L + 2) (cel none)) (L + 1) (cel none) = X0 at *
  have T0 := hT.mono k0
  -- given
  refine x_cons (ex_given b hA1.hand E rfl rfl hs hz hl fun g gv H1 g1 g2 g3 => ?_)
  -- filled
  refine x_cons (x_assign (ev_filled b hA1.hand E rfl g1 g2 fun fa fv H2 f1 f2 f3 => ?_))
  refine f_store f 2 rfl (Nat.le_of_ble_eq_true rfl) ?_
  have k2 := g3.trans f3
  have T2 := T0.mono k2
  have hFl := filledZ_len zs
  have hFr := filledZ_range zs
  generalize filledZ zs = F at *
  -- words
  refine x_cons (x_assign (hs := by unfold swapsWith Env.blockKind Env.kindOf; rw [hsc]; rfl) (ev_words b (hA1.mono (by exact Nat.le_add_left _ _)) E rfl f1 f2 hFl hFr T2.a fun wr wv H3 w1 w2 w3 w4 => ?_))
  have d1 : H3 (L + 1) = some (cel none) := w4 _ _ (k2 _ _ c1) (Ne.symm (tabX_ne T2.a (k2 _ _ c1) cel_tab))
  have d2 : H3 (L + 2) = some (cel none) := w4 _ _ (k2 _ _ c2) (Ne.symm (tabX_ne T2.a (k2 _ _ c2) cel_tab))
  have d3 : H3 fa = some (.lst fv) := w4 _ _ f1 (Ne.symm (tabX_ne T2.a f1 (by intro ps h; cases h)))
  have T3 : Tabs3 H3 := ⟨w3, tabX_off T2.b (tab_nocrec T2.a) (by decide) w4, tabX_off T2.c (tab_nocrec T2.a) (by decide) w4⟩
  refine f_cellset f eW (by unfold Env.kindOf; rw [hsc]; rfl) d1 ?_
  have lc : ∀ {X : HM} {a c : Addr} {us : List Value} {v : Option Value}, X a = some (.lst us) → X c = some (cel v) → a ≠ c := fun e1 e2 z => by rw [z, e2] at e1; cases e1
  have e1 : upd H3 (L + 1) (cel (some (.ref wr))) (L + 1) = some (cel (some (.ref wr))) := upd_same
  have e2 : upd H3 (L + 1) (cel (some (.ref wr))) (L + 2) = some (cel none) := (upd_ne (Ne.symm n12)).trans d2
  have e3 : upd H3 (L + 1) (cel (some (.ref wr))) fa = some (.lst fv) := (upd_ne (lc d3 d1)).trans d3
  have e4 : upd H3 (L + 1) (cel (some (.ref wr))) wr = some (.lst wv) := (upd_ne (lc w1 d1)).trans w1
  have T4 : Tabs3 (upd H3 (L + 1) (cel (some (.ref wr)))) := T3.cell d1
  generalize upd H3 (L + 1) (cel (some (.ref wr))) = H4 at *
  -- ends
  refine x_cons (x_assign (hs := by unfold swapsWith Env.blockKind Env.kindOf; rw [hsc]; rfl) (ev_ends b hA1.hand E rfl e3 f2 hFl hFr fun er ew H5 u1 u2 u3 => ?_))
  refine f_cellset f eN (by unfold Env.kindOf; rw [hsc]; rfl) (u3 _ _ e2) ?_
  have i1 : upd H5 (L + 2) (cel (some (.ref er))) (L + 1) = some (cel (some (.ref wr))) := (upd_ne n12).trans (u3 _ _ e1)
  have i2 : upd H5 (L + 2) (cel (some (.ref er))) (L + 2) = some (cel (some (.ref er))) := upd_same
  have i3 : upd H5 (L + 2) (cel (some (.ref er))) wr = some (.lst wv) := (upd_ne (lc (u3 _ _ e4) (u3 _ _ e2))).trans (u3 _ _ e4)
  have i4 : upd H5 (L + 2) (cel (some (.ref er))) er = some (.lst ew) := (upd_ne (lc u1 (u3 _ _ e2))).trans u1
  have T6 : Tabs3 (upd H5 (L + 2) (cel (some (.ref er)))) := (T4.mono u3).cell (u3 _ _ e2)
  generalize upd H5 (L + 2) (cel (some (.ref er))) = H6 at *
  -- books
  refine x_cons (x_assign (ev_lbooks b (hA1.mono (by exact Nat.le_add_left _ _)) E hFl i1 i2 i3 i4 w2 u2 T6.c fun bk xs lxs H7 K7 p7 => ?_))
  refine f_store f 3 rfl (Nat.le_of_ble_eq_true rfl) ?_
  have m1 : H7 (L + 1) = some (cel (some (.ref wr))) := p7 _ _ i1 (Ne.symm (tabX_ne T6.c i1 cel_tab))
  have m2 : H7 wr = some (.lst wv) := p7 _ _ i3 (Ne.symm (tabX_ne T6.c i3 (by intro ps h; cases h)))
  have T7a : TabX 40 9 4 qInI H7 := tabX_off T6.a (tab_nocrec T6.c) (by decide) p7
  have T7b : TabX 47 24 4 qInD H7 := tabX_off T6.b (tab_nocrec T6.c) (by decide) p7
  -- due
  refine x_cons (x_assign (e_list (s_nil ⟨Nat.le_of_ble_eq_true rfl, fun du n1 n2 => ?_⟩)))
  replace n1 : H7 du = none := n1
  refine f_store f 4 rfl (Nat.le_of_ble_eq_true rfl) ?_
  refine x_cons (ex_due b hA1.hand E hFl (upd_old n1 m1) (upd_old n1 m2) w2 upd_same (by first | exact nn n1 (m2) | exact Ne.symm (nn n1 (m2)) | exact nn (m2) n1 | exact Ne.symm (nn (m2) n1) | (rintro rfl; rw [m2] at n1; cases n1)) (by first | exact nn n1 (m1) | exact Ne.symm (nn n1 (m1)) | exact nn (m1) n1 | exact Ne.symm (nn (m1) n1) | (rintro rfl; rw [m1] at n1; cases n1)) fun wo si us H9 o1 o2 o3 => ?_)
  have k9 : Sub H7 H9 := fun a i e => o3 a i (upd_old n1 e) (by first | exact nn e (n1) | exact Ne.symm (nn e (n1)) | exact nn (n1) e | exact Ne.symm (nn (n1) e) | (rintro rfl; rw [n1] at e; cases e))
  -- hours
  refine x_cons (ex_hours b (hA1.mono (by exact Nat.le_add_left _ _)) E rfl rfl o1 o2 fun Δ hr hv H10 r1 r2 r3 r4 r5 r6 => ?_)
  have G : Good Δ (upTo (rowsF F) 4) := good_all r1 (upTo_sides fun k _ => rowsF_grp F k) (deg_le (fun k _ => rowsF_grp F k) r3)
  -- pages
  refine x_cons (x_assign (ev_pages b (hA1.mono (by exact Nat.le_add_left _ _)) E rfl rfl (K7.mono (k9.trans r6)) r4 r5 r1 G fun pr pg xp x0 x1 pv H11 s1 s2 s3 s4 => ?_))
  refine f_store f 8 rfl (Nat.le_of_ble_eq_true rfl) ?_
  have hΔ : Δ ≠ 0 := by
    have hn : (rowsF F 0) ≠ [] := by
      have := (wdF_facts F 0).1
      unfold rowsF rowOf; split
      · simp
      · exact this
    have h0 := r3 _ ((sums_due (rows := rowsF F) fun k _ => rowsF_grp F k).mpr ⟨48 + 0, by decide, rfl⟩)
    rw [hit_tea (fun k _ => rowsF_grp F k) (by exact Nat.zero_lt_succ _)] at h0
    have := List.length_pos_iff.mpr hn
    omega
  have hpv : pv ≠ [] := by rw [s2]; intro z; have := congrArg List.length z; simp at this; exact hΔ this
  refine x_cons (x_if (t_cmp (f_local f 8 rfl rfl (e_list (s_nil ⟨Nat.le_of_ble_eq_true rfl, fun r t1 t2 => ?_⟩)))))
  replace t1 : H11 r = none := t1
  refine c_eqnil (room_units hA1) (upd_old t1 s1) upd_same hpv (t_bool ?_)
  rw [if_neg (by decide)]
  refine x_nil ?_
  have k12 : Sub H11 (upd H11 r (.lst [])) := Sub.new t1
  -- the check
  refine x_cons (ex_check b (hA1.mono (by exact Nat.le_add_left _ _)) E (k12 _ _ s1) s2 (s3.mono k12) r1 r2 G fun bt bc H13 k13 => ?_)
  have kk : Sub H7 H13 := (((k9.trans r6).trans s4).trans k12).trans k13
  have k1113 : Sub H11 H13 := k12.trans k13
  have T13a := T7a.mono kk
  have T13b := T7b.mono kk
  -- told
  refine x_cons (x_assign (ev_told b (hA1.mono (by exact Nat.le_add_left _ _)) E rfl (k1113 _ _ s1) s2 (s3.mono k1113) r1 G T13b T13a fun td tv H14 v1 v2 v3 v4 v5 => ?_))
  refine f_store f 11 rfl (Nat.le_of_ble_eq_true rfl) ?_
  have o13 : H13 du = some (.lst us) := k1113 _ _ (s4 _ _ (r6 _ _ o1))
  have o14 : H14 du = some (.lst us) := v3 _ _ o13 (Ne.symm (tabX_ne T13b o13 (by intro ps h; cases h))) (Ne.symm (tabX_ne T13a o13 (by intro ps h; cases h)))
  refine x_cons (x_return (ev_last b (hA1.mono (by exact Nat.le_add_left _ _)) E rfl rfl v1 v2 o14 o2 fun H' kH => ?_))
  obtain ⟨p1, z1⟩ := v4.some
  obtain ⟨p2, z2⟩ := v5.some
  obtain ⟨p3, z3⟩ := (K7.tab.mono kk).some
  exact q H' ⟨p1, kH _ _ z1⟩ ⟨p2, kH _ _ z2⟩ ⟨p3, kH _ _ (v3 _ _ z3 (by decide) (by decide))⟩
end
end Mine
end
/-! part J0 -/
section
open PySem PySem.W PySem.Calls PyProof.Rows
set_option maxRecDepth 100000
set_option maxHeartbeats 4000000
set_option linter.unusedVariables false
namespace Mine
/-! from the head to the law -/
def grows (a : Addr) : Bool := a == 40 || a == 47 || a == 217
def BB (h : Heap) : HM := fun a => if grows a = true then none else (h.get? a).map .obj
def HH : HM := fun a => if grows a = true then some (.obj (tabObj #[])) else none
theorem grows_cases {a : Addr} (h : grows a = true) : a = 40 ∨ a = 47 ∨ a = 217 := by
  unfold grows at h
  simp only [Bool.or_eq_true, beq_iff_eq] at h
  rcases h with (h | h) | h
  · exact .inl h
  · exact .inr (.inl h)
  · exact .inr (.inr h)
theorem lookup_kept {l : List (Addr × Obj)} {a : Addr} {o : Obj} : (l.filter fun p => !(p.1 == 40 || p.1 == 47 || p.1 == 217)).lookup a = some o → grows a = false ∧ l.lookup a = some o := by
  induction l with
  | nil => intro h; cases h
  | cons p r ih =>
    intro h
    rw [List.filter_cons] at h
    by_cases hp : grows p.1 = true
    · rw [if_neg (by show ¬(!grows p.1) = true; rw [hp]; decide)] at h
      obtain ⟨h1, h2⟩ := ih h
      refine ⟨h1, ?_⟩
      rw [List.lookup_cons, show (a == p.1) = false from by rw [beq_eq_false_iff_ne]; rintro rfl; rw [hp] at h1; cases h1]
      exact h2
    · rw [if_pos (by show (!grows p.1) = true; rw [Bool.eq_false_iff.mpr hp]; rfl), List.lookup_cons] at h
      rw [List.lookup_cons]
      by_cases e : a = p.1
      · rw [show (a == p.1) = true from by simpa using e] at h ⊢
        exact ⟨by rw [e]; exact Bool.eq_false_iff.mpr hp, h⟩
      · rw [show (a == p.1) = false from by simpa using e] at h ⊢
        exact ih h
theorem own_get {h0 h : Heap} (O : Own (BB h0) h) {a : Addr} {o : Obj} (hg : grows a = false) (e : h0.get? a = some o) : h.get? a = some o :=
  O a (.obj o) (by unfold BB; rw [if_neg (by rw [hg]; decide), e]; rfl)
theorem ns_move {h h' : Heap} {a : Addr} {m : Str → Option Value} (x : h.Ns a m) (k : ∀ o, h.get? a = some o → h'.get? a = some o) : h'.Ns a m :=
  let ⟨o, es, ep, e, r⟩ := x; ⟨o, es, ep, k o e, r⟩
section
variable {w : World} {s₁ : Shared} {mg mb : Str → Option Value}
theorem baseOk (KX : (hd.heap_267 w.params).In s₁.heap) (Tg : s₁.heap.Ns mainGlobals mg) (Tb : s₁.heap.Ns builtinsNs mb) (Tn : s₁.heap.NoLimit) (Tu : ∀ x : Str, x ≠ "__name__" → mb x = bootBuiltins x)
    (Tm : ∃ bm ob, mg "__builtins__" = some (.ref bm) ∧ bm ≠ builtinsNs ∧ s₁.heap.get? bm = some ob ∧ ob.cls = .type "module" ∧ ob.dict = some builtinsNs ∧ ob.data = .plain) : BaseOk w (BB s₁.heap) := by
  have e40 : s₁.heap.get? 40 = some (tabObj #[]) := KX _ _ (by kernel_rfl)
  have e47 : s₁.heap.get? 47 = some (tabObj #[]) := KX _ _ (by kernel_rfl)
  have e217 : s₁.heap.get? 217 = some (tabObj #[]) := KX _ _ (by kernel_rfl)
  refine ⟨fun h O a o e => ?_, ⟨mg, mb, fun h O => ⟨?_, ?_, ?_⟩, Tu, fun h O P hP => ?_⟩, ?_⟩
  · obtain ⟨h1, h2⟩ := lookup_kept e
    exact own_get O h1 (KX _ _ h2)
  · exact ns_move Tg fun o e => own_get O (by decide) e
  · exact ns_move Tb fun o e => own_get O (by decide) e
  · obtain ⟨mc, a, b⟩ := Tn
    exact ⟨mc, ns_move a fun o e => own_get O (by decide) e, b⟩
  · obtain ⟨bm, ob, t1, t2, t3, t4, t5, t6⟩ := Tm
    have ng : grows bm = false := by
      cases z : grows bm with
      | false => rfl
      | true =>
        have tb : s₁.heap.get? bm = some (tabObj #[]) := by rcases grows_cases z with rfl | rfl | rfl <;> assumption
        rw [tb] at t3; cases t3; cases t4
    refine ⟨bm, ob, t1, t2, ?_, ?_, own_get O ng t3, t4, t5, t6⟩
    · rintro rfl
      obtain ⟨o, es, ep, e, d, _⟩ := Tg
      rw [e] at t3; cases t3
      rw [d] at t6; cases t6
    · rintro rfl
      unfold BB at hP
      rw [if_neg (by rw [ng]; decide), t3] at hP
      cases hP
  · have e0 : ((hd.heap_267 w.params).lookup sysModules).isSome = true := by kernel_rfl
    have e1 : ∃ o, s₁.heap.get? sysModules = some o := by
      obtain ⟨o, e⟩ := Option.isSome_iff_exists.mp e0
      exact ⟨o, KX _ _ e⟩
    obtain ⟨o, e1⟩ := e1
    unfold BB
    rw [if_neg (by decide), e1]
    intro z; cases z
theorem law_run (KX : (hd.heap_267 w.params).In s₁.heap) (Tg : s₁.heap.Ns mainGlobals mg) (Tb : s₁.heap.Ns builtinsNs mb) (Tn : s₁.heap.NoLimit) (Tu : ∀ x : Str, x ≠ "__name__" → mb x = bootBuiltins x)
    (Tm : ∃ bm ob, mg "__builtins__" = some (.ref bm) ∧ bm ≠ builtinsNs ∧ s₁.heap.get? bm = some ob ∧ ob.cls = .type "module" ∧ ob.dict = some builtinsNs ∧ ob.data = .plain)
    {sv : List Value} {zs : List Int} (hL : s₁.heap.IsList 266 sv.toArray) (hz : IntsAre sv zs) (hl : zs.length ≤ 63) :
    wpAny (PM w) callerA (call (.ref 265) [.ref 266]) (fun v s' => v = .bool true ∧ ∃ h' t', s' = at' s₁ h' t' ∧ OldK s₁.heap h') (fun _ _ => False) s₁ := by
  have e40 : s₁.heap.get? 40 = some (tabObj #[]) := KX _ _ (by kernel_rfl)
  have e47 : s₁.heap.get? 47 = some (tabObj #[]) := KX _ _ (by kernel_rfl)
  have e217 : s₁.heap.get? 217 = some (tabObj #[]) := KX _ _ (by kernel_rfl)
  have tabs : ∀ a, grows a = true → s₁.heap.get? a = some (tabObj #[]) := fun a h => by rcases grows_cases h with rfl | rfl | rfl <;> assumption
  have c40 : isCodeTable s₁.heap 40 := ⟨44, hd.zo_67 w.params, _, KX _ _ (by kernel_rfl), rfl, rfl, rfl⟩
  have c47 : isCodeTable s₁.heap 47 := ⟨51, hd.zo_74 w.params, _, KX _ _ (by kernel_rfl), rfl, rfl, rfl⟩
  have c217 : isCodeTable s₁.heap 217 := ⟨221, hd.zo_223 w.params, _, KX _ _ (by kernel_rfl), rfl, rfl, rfl⟩
  have b := baseOk KX Tg Tb Tn Tu Tm
  have st : St (BB s₁.heap) HH s₁.heap := by
    refine ⟨fun a i e => ?_, fun a i e => ?_, fun a i e => ?_⟩
    · unfold BB at e
      split at e
      · cases e
      · obtain ⟨o, ho, rfl⟩ := Option.map_eq_some_iff.mp e
        exact ho
    · unfold HH at e
      split at e
      · rename_i hg
        cases e
        exact tabs a hg
      · cases e
    · unfold HH at e
      unfold BB
      split at e
      · rename_i hg; rw [if_pos hg]
      · cases e
  have hT : Tabs3 HH := ⟨.inl rfl, .inl rfl, .inl rfl⟩
  have hs : ∀ h, Own (BB s₁.heap) h → h.IsList 266 sv.toArray := fun h O => by
    obtain ⟨o, e, r⟩ := hL
    exact ⟨o, own_get O (by decide) e, r⟩
  have run := law_spec (S := s₁) (A := callerA) (Q := fun r H' => r = .ok (.ret (.bool true)) ∧ (∃ ps, H' 40 = some (.obj (tabObj ps))) ∧ (∃ ps, H' 47 = some (.obj (tabObj ps))) ∧ ∃ ps, H' 217 = some (.obj (tabObj ps))) b ⟨by decide, by decide, rfl⟩ hs hz hl hT (fun H' p1 p2 p3 => ⟨rfl, p1, p2, p3⟩) s₁.heap s₁.toks st
  refine wpAny_call (codeAny_mono run fun r s' ⟨h', t', H', e, s2, er, p1, p2, p3⟩ => ?_)
  subst er
  refine ⟨rfl, h', t', e, fun a o ea => ?_, fun a o ea => ?_⟩
  · cases hg : grows a with
    | false => exact .inl (own_get s2.base hg ea)
    | true =>
      have ht := tabs a hg
      rw [ht] at ea; cases ea
      refine .inr (.inl ?_)
      rcases grows_cases hg with rfl | rfl | rfl
      · obtain ⟨ps, z⟩ := p1
        have := s2.own _ _ z
        exact ⟨c40, rfl, #[], ps, rfl, by rw [Array.empty_append]; exact this⟩
      · obtain ⟨ps, z⟩ := p2
        have := s2.own _ _ z
        exact ⟨c47, rfl, #[], ps, rfl, by rw [Array.empty_append]; exact this⟩
      · obtain ⟨ps, z⟩ := p3
        have := s2.own _ _ z
        exact ⟨c217, rfl, #[], ps, rfl, by rw [Array.empty_append]; exact this⟩
  · cases hg : grows a with
    | false => exact ⟨o, own_get s2.base hg ea⟩
    | true =>
      rcases grows_cases hg with rfl | rfl | rfl
      · obtain ⟨ps, z⟩ := p1; exact ⟨_, s2.own _ _ z⟩
      · obtain ⟨ps, z⟩ := p2; exact ⟨_, s2.own _ _ z⟩
      · obtain ⟨ps, z⟩ := p3; exact ⟨_, s2.own _ _ z⟩
end
end Mine
end
section
open PySem PySem.W PySem.W.X PyProof.Rows
set_option maxRecDepth 100000
set_option maxHeartbeats 0
theorem PySem.Challenge.cw_sn0050_01_holds : PySem.Challenge.rw_sn0050_01.Holds := by
  refine Mine.hd ?_
  intro w s₀ s₁ mg mb G y fa o pm cd doc dV kV ho hd hcd hD hmg hg args vals as L hpre hlay hrd hwl hlo
  have Z := z_facts (K := Mine.hd.heap_267) (fun _ => by kernel_rfl) y
  have KX : (Mine.hd.heap_267 w.params).In s₁.heap := InK.keeps w s₀.heap s₁.heap Z.2.1 (Laid.keeps L)
  have ZN := Z.2.2.1
  have ZT := Z.2.2.2
  refine Ground.open G ?_
  intro T B D TE TW
  wrow_args hpre hlay hrd hwl hlo
  obtain ⟨hat, hsz⟩ := script_at L
  rw [ZN] at hat hsz
  subst hat
  x_fa T KX hmg
  clear y Z ZT hd hcd hD G hmg ho
  refine wpAny_mono (Mine.law_run KX T.g T.b T.nolimit T.builtins T.bmain (by assumption) (readsAll_intsAre (by assumption)).1 (by omega)) ?_ fun _ _ e => e.elim
  rintro v s' ⟨rfl, h', t', rfl, hO⟩
  refine ⟨.inl ⟨_, _, [], rfl, fun _ => rfl, ReadsW.bool true, ?_, fun _ => ⟨List.nodup_nil, fun _ hm => (nomatch hm)⟩⟩, hO, rfl, .of_eq hg⟩
  wrow_post
end
